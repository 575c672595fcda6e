import JvmDerived
import JvmDerived.Pilot.@@N@@Statement
import JvmDerived.Pilot.@@N@@Code
set_option linter.unusedVariables false
set_option linter.unusedSimpArgs false
@@BLOCK:NumsL.lean.txt@@
namespace Jvm.Pilot.@@N@@
open Jvm Jvm.ClassFile Sem Op Lib Jvm.Free Jvm.Stand Jvm.LawKit Jvm.RoadKit Bundle Jvm.Pilot.@@N@@.Jvm.D
abbrev oI (x : Int32) : Slot := .val (.int x)
abbrev oJ (x : Int64) : Slot := .val (.long x)
abbrev oA (x : Addr) : Slot := .val (.ref x)
abbrev oN : Slot := .val .null
abbrev oU : Slot := .unset
abbrev oS : Slot := .second
theorem own_w {Z : State} {a0 : Array Value} (hw : ∀ d ∈ tables_1, d.before a0 Z = true) (i : Nat) {d : Jvm.Cond} (h : tables_1[i]? = some d) : d.before a0 Z = true := hw d (List.mem_of_getElem? h)
section Own
variable {p : Program} {l : Launch} {e : Env} {R : Room} {s : State} {m : MethodId} {args : Array Value} {below : List Frame} {meth : Method} {c : Code} {T : State} {locs : List Loc} {cells slots : Nat} {P : State → Outcome → Prop} {pc : Nat} {ls : Array Slot} {st : List Value} {Z : State} {a0 : Array Value} {h : Heap} {bytes : ByteArray}
/-- the run goes on from A and ends so that P holds -/
def Go (p : Program) (e : Env) (below : List Frame) (P : State → Outcome → Prop) (A : State) : Prop := ∃ s₂ o, Steps p.tables e below A s₂ ∧ P s₂ o
theorem own_go {A A' : State} (h : ∀ t, Steps p.tables e below A' t → Steps p.tables e below A t) (k : Go p e below P A') : Go p e below P A := by
  obtain ⟨s₂, o, h1, h2⟩ := k
  exact ⟨s₂, o, h _ h1, h2⟩
/-! loads, stores, constants -/
theorem own_iload_n (pc' : Nat) (X : Stand p l e R s m args below meth c T locs cells slots) (hx : p.tables.exec = Jvm.exec) (hby : c.code = bytes) {k : Fin 4} {v : Int32} (hd : decode bytes pc = .ok (.iload_n k, 1)) (hp : pc + 1 = pc') (hl : ls[k.val]? = some (.val (.int v))) (r : Go p e below P (T.setTop (mkF m pc' ls (.int v :: st)))) : Go p e below P (T.setTop (mkF m pc ls st)) := by
  subst hp; exact own_go (fun t q => XS.iloadN X.here hx rfl (hb hby hd) hl q) r
theorem own_iload (pc' : Nat) (X : Stand p l e R s m args below meth c T locs cells slots) (hx : p.tables.exec = Jvm.exec) (hby : c.code = bytes) {k : Nat} {v : Int32} (hd : decode bytes pc = .ok (.iload k, 2)) (hp : pc + 2 = pc') (hl : ls[k]? = some (.val (.int v))) (r : Go p e below P (T.setTop (mkF m pc' ls (.int v :: st)))) : Go p e below P (T.setTop (mkF m pc ls st)) := by
  subst hp; exact own_go (fun t q => XS.iload X.here hx rfl (hb hby hd) hl q) r
theorem own_lload_n (pc' : Nat) (X : Stand p l e R s m args below meth c T locs cells slots) (hx : p.tables.exec = Jvm.exec) (hby : c.code = bytes) {k : Fin 4} {v : Int64} (hd : decode bytes pc = .ok (.lload_n k, 1)) (hp : pc + 1 = pc') (hl : ls[k.val]? = some (.val (.long v))) (r : Go p e below P (T.setTop (mkF m pc' ls (.long v :: st)))) : Go p e below P (T.setTop (mkF m pc ls st)) := by
  subst hp; exact own_go (fun t q => XT.lloadN X.here hx rfl (hb hby hd) hl q) r
theorem own_lload (pc' : Nat) (X : Stand p l e R s m args below meth c T locs cells slots) (hx : p.tables.exec = Jvm.exec) (hby : c.code = bytes) {k : Nat} {v : Int64} (hd : decode bytes pc = .ok (.lload k, 2)) (hp : pc + 2 = pc') (hl : ls[k]? = some (.val (.long v))) (r : Go p e below P (T.setTop (mkF m pc' ls (.long v :: st)))) : Go p e below P (T.setTop (mkF m pc ls st)) := by
  subst hp; exact own_go (fun t q => XT.lload X.here hx rfl (hb hby hd) hl q) r
theorem own_aload_n (pc' : Nat) (X : Stand p l e R s m args below meth c T locs cells slots) (hx : p.tables.exec = Jvm.exec) (hby : c.code = bytes) {k : Fin 4} {v : Value} (hd : decode bytes pc = .ok (.aload_n k, 1)) (hp : pc + 1 = pc') (hl : ls[k.val]? = some (.val v)) (hv : v.isRef = true) (r : Go p e below P (T.setTop (mkF m pc' ls (v :: st)))) : Go p e below P (T.setTop (mkF m pc ls st)) := by
  subst hp; exact own_go (fun t q => XS.aloadN X.here hx rfl (hb hby hd) hl hv q) r
theorem own_aload (pc' : Nat) (X : Stand p l e R s m args below meth c T locs cells slots) (hx : p.tables.exec = Jvm.exec) (hby : c.code = bytes) {k : Nat} {v : Value} (hd : decode bytes pc = .ok (.aload k, 2)) (hp : pc + 2 = pc') (hl : ls[k]? = some (.val v)) (hv : v.isRef = true) (r : Go p e below P (T.setTop (mkF m pc' ls (v :: st)))) : Go p e below P (T.setTop (mkF m pc ls st)) := by
  subst hp; exact own_go (fun t q => XS.aload X.here hx rfl (hb hby hd) hl hv q) r
theorem own_istore_n (pc' : Nat) (l' : Array Slot) (X : Stand p l e R s m args below meth c T locs cells slots) (hx : p.tables.exec = Jvm.exec) (hby : c.code = bytes) {k : Fin 4} {v : Int32} (hd : decode bytes pc = .ok (.istore_n k, 1)) (hp : pc + 1 = pc') (hl : storeLocals ls k.val (.int v) = some l') (r : Go p e below P (T.setTop (mkF m pc' l' st))) : Go p e below P (T.setTop (mkF m pc ls (.int v :: st))) := by
  subst hp; exact own_go (fun t q => XS.istoreN X.here hx rfl (hb hby hd) rfl hl q) r
theorem own_istore (pc' : Nat) (l' : Array Slot) (X : Stand p l e R s m args below meth c T locs cells slots) (hx : p.tables.exec = Jvm.exec) (hby : c.code = bytes) {k : Nat} {v : Int32} (hd : decode bytes pc = .ok (.istore k, 2)) (hp : pc + 2 = pc') (hl : storeLocals ls k (.int v) = some l') (r : Go p e below P (T.setTop (mkF m pc' l' st))) : Go p e below P (T.setTop (mkF m pc ls (.int v :: st))) := by
  subst hp; exact own_go (fun t q => XS.istore X.here hx rfl (hb hby hd) rfl hl q) r
theorem own_lstore_n (pc' : Nat) (l' : Array Slot) (X : Stand p l e R s m args below meth c T locs cells slots) (hx : p.tables.exec = Jvm.exec) (hby : c.code = bytes) {k : Fin 4} {v : Int64} (hd : decode bytes pc = .ok (.lstore_n k, 1)) (hp : pc + 1 = pc') (hl : storeLocals ls k.val (.long v) = some l') (r : Go p e below P (T.setTop (mkF m pc' l' st))) : Go p e below P (T.setTop (mkF m pc ls (.long v :: st))) := by
  subst hp; exact own_go (fun t q => XT.lstoreN X.here hx rfl (hb hby hd) rfl hl q) r
theorem own_lstore (pc' : Nat) (l' : Array Slot) (X : Stand p l e R s m args below meth c T locs cells slots) (hx : p.tables.exec = Jvm.exec) (hby : c.code = bytes) {k : Nat} {v : Int64} (hd : decode bytes pc = .ok (.lstore k, 2)) (hp : pc + 2 = pc') (hl : storeLocals ls k (.long v) = some l') (r : Go p e below P (T.setTop (mkF m pc' l' st))) : Go p e below P (T.setTop (mkF m pc ls (.long v :: st))) := by
  subst hp; exact own_go (fun t q => XT.lstore X.here hx rfl (hb hby hd) rfl hl q) r
theorem own_astore_n (pc' : Nat) (l' : Array Slot) (X : Stand p l e R s m args below meth c T locs cells slots) (hx : p.tables.exec = Jvm.exec) (hby : c.code = bytes) {k : Fin 4} {v : Value} (hd : decode bytes pc = .ok (.astore_n k, 1)) (hp : pc + 1 = pc') (hv : v.isRef = true) (hl : storeLocals ls k.val v = some l') (r : Go p e below P (T.setTop (mkF m pc' l' st))) : Go p e below P (T.setTop (mkF m pc ls (v :: st))) := by
  subst hp; exact own_go (fun t q => XS.astoreN X.here hx rfl (hb hby hd) rfl hv hl q) r
theorem own_astore (pc' : Nat) (l' : Array Slot) (X : Stand p l e R s m args below meth c T locs cells slots) (hx : p.tables.exec = Jvm.exec) (hby : c.code = bytes) {k : Nat} {v : Value} (hd : decode bytes pc = .ok (.astore k, 2)) (hp : pc + 2 = pc') (hv : v.isRef = true) (hl : storeLocals ls k v = some l') (r : Go p e below P (T.setTop (mkF m pc' l' st))) : Go p e below P (T.setTop (mkF m pc ls (v :: st))) := by
  subst hp; exact own_go (fun t q => XS.astore X.here hx rfl (hb hby hd) rfl hv hl q) r
theorem own_iconst (pc' : Nat) (w : Int32) (X : Stand p l e R s m args below meth c T locs cells slots) (hx : p.tables.exec = Jvm.exec) (hby : c.code = bytes) {i : Int} (hd : decode bytes pc = .ok (.iconst i, 1)) (hp : pc + 1 = pc') (hw : Int32.ofInt i = w) (r : Go p e below P (T.setTop (mkF m pc' ls (.int w :: st)))) : Go p e below P (T.setTop (mkF m pc ls st)) := by
  subst hp hw; exact own_go (fun t q => XS.iconst X.here hx rfl (hb hby hd) q) r
theorem own_bipush (pc' : Nat) (w : Int32) (X : Stand p l e R s m args below meth c T locs cells slots) (hx : p.tables.exec = Jvm.exec) (hby : c.code = bytes) {i : Int} (hd : decode bytes pc = .ok (.bipush i, 2)) (hp : pc + 2 = pc') (hw : (Int8.ofInt i).toInt32 = w) (r : Go p e below P (T.setTop (mkF m pc' ls (.int w :: st)))) : Go p e below P (T.setTop (mkF m pc ls st)) := by
  subst hp hw; exact own_go (fun t q => XS.bipush X.here hx rfl (hb hby hd) q) r
theorem own_sipush (pc' : Nat) (w : Int32) (X : Stand p l e R s m args below meth c T locs cells slots) (hx : p.tables.exec = Jvm.exec) (hby : c.code = bytes) {i : Int} (hd : decode bytes pc = .ok (.sipush i, 3)) (hp : pc + 3 = pc') (hw : (Int16.ofInt i).toInt32 = w) (r : Go p e below P (T.setTop (mkF m pc' ls (.int w :: st)))) : Go p e below P (T.setTop (mkF m pc ls st)) := by
  subst hp hw; exact own_go (fun t q => XS.sipush X.here hx rfl (hb hby hd) q) r
theorem own_lconst (pc' : Nat) (w : Int64) (X : Stand p l e R s m args below meth c T locs cells slots) (hx : p.tables.exec = Jvm.exec) (hby : c.code = bytes) {k : Fin 2} (hd : decode bytes pc = .ok (.lconst k, 1)) (hp : pc + 1 = pc') (hw : Int64.ofNat k = w) (r : Go p e below P (T.setTop (mkF m pc' ls (.long w :: st)))) : Go p e below P (T.setTop (mkF m pc ls st)) := by
  subst hp hw; exact own_go (fun t q => XT.lconst X.here hx rfl (hb hby hd) q) r
theorem own_null (pc' : Nat) (X : Stand p l e R s m args below meth c T locs cells slots) (hx : p.tables.exec = Jvm.exec) (hby : c.code = bytes) (hd : decode bytes pc = .ok (.aconst_null, 1)) (hp : pc + 1 = pc') (r : Go p e below P (T.setTop (mkF m pc' ls (.null :: st)))) : Go p e below P (T.setTop (mkF m pc ls st)) := by
  subst hp; exact own_go (fun t q => XS.aconstNull X.here hx rfl (hb hby hd) q) r
theorem own_ldc (pc' : Nat) (X : Stand p l e R s m args below meth c T locs cells slots) (hx : p.tables.exec = Jvm.exec) (hby : c.code = bytes) (hZ : Z.Warmed39 s.vm) {own : String} {index : Nat} {v : Int32} (hown : s.vm.findClass own = some m.cls) (w : (Cond.constant own index v).before a0 Z = true) (hd : decode bytes pc = .ok (.ldc index, 2)) (hp : pc + 2 = pc') (r : Go p e below P (T.setTop (mkF m pc' ls (.int v :: st)))) : Go p e below P (T.setTop (mkF m pc ls st)) := by
  subst hp; exact own_go (fun t q => X.ldcI hx hown (mvT hZ w) rfl (hb hby hd) q) r
theorem own_ldc2 (pc' : Nat) (X : Stand p l e R s m args below meth c T locs cells slots) (hx : p.tables.exec = Jvm.exec) (hby : c.code = bytes) (hZ : Z.Warmed39 s.vm) {own : String} {index : Nat} {v : Int64} (hown : s.vm.findClass own = some m.cls) (w : (Cond.constantLong own index v).before a0 Z = true) (hd : decode bytes pc = .ok (.ldc2_w index, 3)) (hp : pc + 3 = pc') (r : Go p e below P (T.setTop (mkF m pc' ls (.long v :: st)))) : Go p e below P (T.setTop (mkF m pc ls st)) := by
  subst hp; exact own_go (fun t q => X.ldc2J hx hown (mvT hZ w) rfl (hb hby hd) q) r
/-! arithmetic -/
theorem own_iadd (pc' : Nat) (w : Int32) (X : Stand p l e R s m args below meth c T locs cells slots) (hx : p.tables.exec = Jvm.exec) (hby : c.code = bytes) {x y : Int32} (hd : decode bytes pc = .ok (.iadd, 1)) (hp : pc + 1 = pc') (hw : x + y = w) (r : Go p e below P (T.setTop (mkF m pc' ls (.int w :: st)))) : Go p e below P (T.setTop (mkF m pc ls (.int y :: .int x :: st))) := by
  subst hp hw; exact own_go (fun t q => XS.iadd X.here hx rfl (hb hby hd) rfl q) r
theorem own_isub (pc' : Nat) (w : Int32) (X : Stand p l e R s m args below meth c T locs cells slots) (hx : p.tables.exec = Jvm.exec) (hby : c.code = bytes) {x y : Int32} (hd : decode bytes pc = .ok (.isub, 1)) (hp : pc + 1 = pc') (hw : x - y = w) (r : Go p e below P (T.setTop (mkF m pc' ls (.int w :: st)))) : Go p e below P (T.setTop (mkF m pc ls (.int y :: .int x :: st))) := by
  subst hp hw; exact own_go (fun t q => XS.isub X.here hx rfl (hb hby hd) rfl q) r
theorem own_imul (pc' : Nat) (w : Int32) (X : Stand p l e R s m args below meth c T locs cells slots) (hx : p.tables.exec = Jvm.exec) (hby : c.code = bytes) {x y : Int32} (hd : decode bytes pc = .ok (.imul, 1)) (hp : pc + 1 = pc') (hw : x * y = w) (r : Go p e below P (T.setTop (mkF m pc' ls (.int w :: st)))) : Go p e below P (T.setTop (mkF m pc ls (.int y :: .int x :: st))) := by
  subst hp hw; exact own_go (fun t q => XS.imul X.here hx rfl (hb hby hd) rfl q) r
theorem own_idiv (pc' : Nat) (w : Int32) (X : Stand p l e R s m args below meth c T locs cells slots) (hx : p.tables.exec = Jvm.exec) (hby : c.code = bytes) {x y : Int32} (hd : decode bytes pc = .ok (.idiv, 1)) (hp : pc + 1 = pc') (hy : y ≠ 0) (hw : x / y = w) (r : Go p e below P (T.setTop (mkF m pc' ls (.int w :: st)))) : Go p e below P (T.setTop (mkF m pc ls (.int y :: .int x :: st))) := by
  subst hp hw; exact own_go (fun t q => XS.idiv X.here hx rfl (hb hby hd) rfl hy q) r
theorem own_irem (pc' : Nat) (w : Int32) (X : Stand p l e R s m args below meth c T locs cells slots) (hx : p.tables.exec = Jvm.exec) (hby : c.code = bytes) {x y : Int32} (hd : decode bytes pc = .ok (.irem, 1)) (hp : pc + 1 = pc') (hy : y ≠ 0) (hw : x % y = w) (r : Go p e below P (T.setTop (mkF m pc' ls (.int w :: st)))) : Go p e below P (T.setTop (mkF m pc ls (.int y :: .int x :: st))) := by
  subst hp hw; exact own_go (fun t q => iremM X hx rfl (hb hby hd) rfl hy q) r
theorem own_iand (pc' : Nat) (w : Int32) (X : Stand p l e R s m args below meth c T locs cells slots) (hx : p.tables.exec = Jvm.exec) (hby : c.code = bytes) {x y : Int32} (hd : decode bytes pc = .ok (.iand, 1)) (hp : pc + 1 = pc') (hw : x &&& y = w) (r : Go p e below P (T.setTop (mkF m pc' ls (.int w :: st)))) : Go p e below P (T.setTop (mkF m pc ls (.int y :: .int x :: st))) := by
  subst hp hw; exact own_go (fun t q => XS.iand X.here hx rfl (hb hby hd) rfl q) r
theorem own_ishr (pc' : Nat) (w : Int32) (X : Stand p l e R s m args below meth c T locs cells slots) (hx : p.tables.exec = Jvm.exec) (hby : c.code = bytes) {x y : Int32} (hd : decode bytes pc = .ok (.ishr, 1)) (hp : pc + 1 = pc') (hw : x >>> (y &&& 31) = w) (r : Go p e below P (T.setTop (mkF m pc' ls (.int w :: st)))) : Go p e below P (T.setTop (mkF m pc ls (.int y :: .int x :: st))) := by
  subst hp hw; exact own_go (fun t q => XT.ishr X.here hx rfl (hb hby hd) rfl q) r
theorem own_iushr (pc' : Nat) (w : Int32) (X : Stand p l e R s m args below meth c T locs cells slots) (hx : p.tables.exec = Jvm.exec) (hby : c.code = bytes) {x y : Int32} (hd : decode bytes pc = .ok (.iushr, 1)) (hp : pc + 1 = pc') (hw : XT.ushr x y = w) (r : Go p e below P (T.setTop (mkF m pc' ls (.int w :: st)))) : Go p e below P (T.setTop (mkF m pc ls (.int y :: .int x :: st))) := by
  subst hp hw; exact own_go (fun t q => XT.iushr X.here hx rfl (hb hby hd) rfl q) r
theorem own_ladd (pc' : Nat) (w : Int64) (X : Stand p l e R s m args below meth c T locs cells slots) (hx : p.tables.exec = Jvm.exec) (hby : c.code = bytes) {x y : Int64} (hd : decode bytes pc = .ok (.ladd, 1)) (hp : pc + 1 = pc') (hw : x + y = w) (r : Go p e below P (T.setTop (mkF m pc' ls (.long w :: st)))) : Go p e below P (T.setTop (mkF m pc ls (.long y :: .long x :: st))) := by
  subst hp hw; exact own_go (fun t q => XT.ladd X.here hx rfl (hb hby hd) rfl q) r
theorem own_lsub (pc' : Nat) (w : Int64) (X : Stand p l e R s m args below meth c T locs cells slots) (hx : p.tables.exec = Jvm.exec) (hby : c.code = bytes) {x y : Int64} (hd : decode bytes pc = .ok (.lsub, 1)) (hp : pc + 1 = pc') (hw : x - y = w) (r : Go p e below P (T.setTop (mkF m pc' ls (.long w :: st)))) : Go p e below P (T.setTop (mkF m pc ls (.long y :: .long x :: st))) := by
  subst hp hw; exact own_go (fun t q => XT.lsub X.here hx rfl (hb hby hd) rfl q) r
theorem own_lmul (pc' : Nat) (w : Int64) (X : Stand p l e R s m args below meth c T locs cells slots) (hx : p.tables.exec = Jvm.exec) (hby : c.code = bytes) {x y : Int64} (hd : decode bytes pc = .ok (.lmul, 1)) (hp : pc + 1 = pc') (hw : x * y = w) (r : Go p e below P (T.setTop (mkF m pc' ls (.long w :: st)))) : Go p e below P (T.setTop (mkF m pc ls (.long y :: .long x :: st))) := by
  subst hp hw; exact own_go (fun t q => XT.lmul X.here hx rfl (hb hby hd) rfl q) r
theorem own_ldiv (pc' : Nat) (w : Int64) (X : Stand p l e R s m args below meth c T locs cells slots) (hx : p.tables.exec = Jvm.exec) (hby : c.code = bytes) {x y : Int64} (hd : decode bytes pc = .ok (.ldiv, 1)) (hp : pc + 1 = pc') (hy : y ≠ 0) (hw : x / y = w) (r : Go p e below P (T.setTop (mkF m pc' ls (.long w :: st)))) : Go p e below P (T.setTop (mkF m pc ls (.long y :: .long x :: st))) := by
  subst hp hw; exact own_go (fun t q => XT.ldiv X.here hx rfl (hb hby hd) rfl hy q) r
theorem own_lrem (pc' : Nat) (w : Int64) (X : Stand p l e R s m args below meth c T locs cells slots) (hx : p.tables.exec = Jvm.exec) (hby : c.code = bytes) {x y : Int64} (hd : decode bytes pc = .ok (.lrem, 1)) (hp : pc + 1 = pc') (hy : y ≠ 0) (hw : x - (x / y) * y = w) (r : Go p e below P (T.setTop (mkF m pc' ls (.long w :: st)))) : Go p e below P (T.setTop (mkF m pc ls (.long y :: .long x :: st))) := by
  subst hp hw; exact own_go (fun t q => XT.lrem X.here hx rfl (hb hby hd) rfl hy q) r
theorem own_land (pc' : Nat) (w : Int64) (X : Stand p l e R s m args below meth c T locs cells slots) (hx : p.tables.exec = Jvm.exec) (hby : c.code = bytes) {x y : Int64} (hd : decode bytes pc = .ok (.land, 1)) (hp : pc + 1 = pc') (hw : x &&& y = w) (r : Go p e below P (T.setTop (mkF m pc' ls (.long w :: st)))) : Go p e below P (T.setTop (mkF m pc ls (.long y :: .long x :: st))) := by
  subst hp hw; exact own_go (fun t q => XT.land X.here hx rfl (hb hby hd) rfl q) r
theorem own_lushr (pc' : Nat) (w : Int64) (X : Stand p l e R s m args below meth c T locs cells slots) (hx : p.tables.exec = Jvm.exec) (hby : c.code = bytes) {x : Int64} {y : Int32} (hd : decode bytes pc = .ok (.lushr, 1)) (hp : pc + 1 = pc') (hw : XT.ushrL x y = w) (r : Go p e below P (T.setTop (mkF m pc' ls (.long w :: st)))) : Go p e below P (T.setTop (mkF m pc ls (.int y :: .long x :: st))) := by
  subst hp hw; exact own_go (fun t q => XT.lushr X.here hx rfl (hb hby hd) rfl q) r
theorem own_i2l (pc' : Nat) (w : Int64) (X : Stand p l e R s m args below meth c T locs cells slots) (hx : p.tables.exec = Jvm.exec) (hby : c.code = bytes) {x : Int32} (hd : decode bytes pc = .ok (.i2l, 1)) (hp : pc + 1 = pc') (hw : x.toInt64 = w) (r : Go p e below P (T.setTop (mkF m pc' ls (.long w :: st)))) : Go p e below P (T.setTop (mkF m pc ls (.int x :: st))) := by
  subst hp hw; exact own_go (fun t q => XT.i2l X.here hx rfl (hb hby hd) rfl q) r
theorem own_l2i (pc' : Nat) (w : Int32) (X : Stand p l e R s m args below meth c T locs cells slots) (hx : p.tables.exec = Jvm.exec) (hby : c.code = bytes) {x : Int64} (hd : decode bytes pc = .ok (.l2i, 1)) (hp : pc + 1 = pc') (hw : x.toInt32 = w) (r : Go p e below P (T.setTop (mkF m pc' ls (.int w :: st)))) : Go p e below P (T.setTop (mkF m pc ls (.long x :: st))) := by
  subst hp hw; exact own_go (fun t q => XT.l2i X.here hx rfl (hb hby hd) rfl q) r
theorem own_lcmp (pc' : Nat) (w : Int32) (X : Stand p l e R s m args below meth c T locs cells slots) (hx : p.tables.exec = Jvm.exec) (hby : c.code = bytes) {x y : Int64} (hd : decode bytes pc = .ok (.lcmp, 1)) (hp : pc + 1 = pc') (hw : XT.cmpL x y = w) (r : Go p e below P (T.setTop (mkF m pc' ls (.int w :: st)))) : Go p e below P (T.setTop (mkF m pc ls (.long y :: .long x :: st))) := by
  subst hp hw; exact own_go (fun t q => XT.lcmp X.here hx rfl (hb hby hd) rfl q) r
theorem own_iinc (pc' : Nat) (l' : Array Slot) (X : Stand p l e R s m args below meth c T locs cells slots) (hx : p.tables.exec = Jvm.exec) (hby : c.code = bytes) {k : Nat} {i : Int} {x : Int32} (hd : decode bytes pc = .ok (.iinc k i, 3)) (hp : pc + 3 = pc') (hl : ls[k]? = some (.val (.int x))) (hl' : storeLocals ls k (.int (x + Int32.ofInt i)) = some l') (r : Go p e below P (T.setTop (mkF m pc' l' st))) : Go p e below P (T.setTop (mkF m pc ls st)) := by
  subst hp; exact own_go (fun t q => XS.iinc X.here hx rfl (hb hby hd) hl hl' q) r
theorem own_dup (pc' : Nat) (X : Stand p l e R s m args below meth c T locs cells slots) (hx : p.tables.exec = Jvm.exec) (hby : c.code = bytes) {v : Value} (hd : decode bytes pc = .ok (.dup, 1)) (hp : pc + 1 = pc') (hc : v.category = 1) (r : Go p e below P (T.setTop (mkF m pc' ls (v :: v :: st)))) : Go p e below P (T.setTop (mkF m pc ls (v :: st))) := by
  subst hp; exact own_go (fun t q => XS.dup X.here hx rfl (hb hby hd) rfl hc q) r
theorem own_pop (pc' : Nat) (X : Stand p l e R s m args below meth c T locs cells slots) (hx : p.tables.exec = Jvm.exec) (hby : c.code = bytes) {v : Value} (hd : decode bytes pc = .ok (.pop, 1)) (hp : pc + 1 = pc') (hc : v.category = 1) (r : Go p e below P (T.setTop (mkF m pc' ls st))) : Go p e below P (T.setTop (mkF m pc ls (v :: st))) := by
  subst hp; exact own_go (fun t q => XT.pop X.here hx rfl (hb hby hd) rfl hc q) r
/-! branches -/
theorem own_goto (pc' : Nat) (X : Stand p l e R s m args below meth c T locs cells slots) (hx : p.tables.exec = Jvm.exec) (hby : c.code = bytes) {o : Int} (hd : decode bytes pc = .ok (.goto o, 3)) (ho : 0 ≤ (pc : Int) + o) (hp : ((pc : Int) + o).toNat = pc') (r : Go p e below P (T.setTop (mkF m pc' ls st))) : Go p e below P (T.setTop (mkF m pc ls st)) :=
  own_go (fun t q => XS.goto X.here hx rfl rfl (hb hby hd) ho hp q) r
theorem own_ifY (pc' : Nat) (X : Stand p l e R s m args below meth c T locs cells slots) (hx : p.tables.exec = Jvm.exec) (hby : c.code = bytes) {cd : ClassFile.Cond} {x : Int32} {o : Int} (hd : decode bytes pc = .ok (.ifCond cd o, 3)) (ho : 0 ≤ (pc : Int) + o) (hp : ((pc : Int) + o).toNat = pc') (hc : ifCond.holds cd x = true) (r : Go p e below P (T.setTop (mkF m pc' ls st))) : Go p e below P (T.setTop (mkF m pc ls (.int x :: st))) :=
  own_go (fun t q => XS.ifYes X.here hx rfl rfl (hb hby hd) rfl hc ho hp q) r
theorem own_ifN (pc' : Nat) (X : Stand p l e R s m args below meth c T locs cells slots) (hx : p.tables.exec = Jvm.exec) (hby : c.code = bytes) {cd : ClassFile.Cond} {x : Int32} {o : Int} (hd : decode bytes pc = .ok (.ifCond cd o, 3)) (hp : pc + 3 = pc') (hc : ifCond.holds cd x = false) (r : Go p e below P (T.setTop (mkF m pc' ls st))) : Go p e below P (T.setTop (mkF m pc ls (.int x :: st))) := by
  subst hp; exact own_go (fun t q => XS.ifNo X.here hx rfl (hb hby hd) rfl hc q) r
theorem own_icY (pc' : Nat) (X : Stand p l e R s m args below meth c T locs cells slots) (hx : p.tables.exec = Jvm.exec) (hby : c.code = bytes) {cd : ClassFile.Cond} {x y : Int32} {o : Int} (hd : decode bytes pc = .ok (.if_icmp cd o, 3)) (ho : 0 ≤ (pc : Int) + o) (hp : ((pc : Int) + o).toNat = pc') (hc : if_icmp.holds cd x y = true) (r : Go p e below P (T.setTop (mkF m pc' ls st))) : Go p e below P (T.setTop (mkF m pc ls (.int y :: .int x :: st))) :=
  own_go (fun t q => XS.icmpYes X.here hx rfl rfl (hb hby hd) rfl hc ho hp q) r
theorem own_icN (pc' : Nat) (X : Stand p l e R s m args below meth c T locs cells slots) (hx : p.tables.exec = Jvm.exec) (hby : c.code = bytes) {cd : ClassFile.Cond} {x y : Int32} {o : Int} (hd : decode bytes pc = .ok (.if_icmp cd o, 3)) (hp : pc + 3 = pc') (hc : if_icmp.holds cd x y = false) (r : Go p e below P (T.setTop (mkF m pc' ls st))) : Go p e below P (T.setTop (mkF m pc ls (.int y :: .int x :: st))) := by
  subst hp; exact own_go (fun t q => XS.icmpNo X.here hx rfl (hb hby hd) rfl hc q) r
theorem own_acmp (pc' : Nat) (same : Bool) (X : Stand p l e R s m args below meth c T locs cells slots) (hx : p.tables.exec = Jvm.exec) (hby : c.code = bytes) {cd : ACond} {x y : Value} {o : Int} (hd : decode bytes pc = .ok (.if_acmp cd o, 3)) (h1 : x.isRef = true) (h2 : y.isRef = true) (ho : 0 ≤ (pc : Int) + o) (hp : pc' = if acV cd same = true then ((pc : Int) + o).toNat else pc + 3) (hq : decide (x = y) = same) (r : Go p e below P (T.setTop (mkF m pc' ls st))) : Go p e below P (T.setTop (mkF m pc ls (y :: x :: st))) :=
  own_go (fun t q => Jvm.RoadKit.acmp X hx rfl h1 h2 rfl (hb hby hd) rfl hq ho hp q) r
theorem own_nullY (pc' : Nat) (X : Stand p l e R s m args below meth c T locs cells slots) (hx : p.tables.exec = Jvm.exec) (hby : c.code = bytes) {o : Int} (hd : decode bytes pc = .ok (.ifnull o, 3)) (ho : 0 ≤ (pc : Int) + o) (hp : ((pc : Int) + o).toNat = pc') (r : Go p e below P (T.setTop (mkF m pc' ls st))) : Go p e below P (T.setTop (mkF m pc ls (.null :: st))) :=
  own_go (fun t q => XS.ifnullYes X.here hx rfl rfl (hb hby hd) rfl ho hp q) r
theorem own_nullN (pc' : Nat) (X : Stand p l e R s m args below meth c T locs cells slots) (hx : p.tables.exec = Jvm.exec) (hby : c.code = bytes) {o : Int} {b : Addr} (hd : decode bytes pc = .ok (.ifnull o, 3)) (hp : pc + 3 = pc') (r : Go p e below P (T.setTop (mkF m pc' ls st))) : Go p e below P (T.setTop (mkF m pc ls (.ref b :: st))) := by
  subst hp; exact own_go (fun t q => XS.ifnullNo X.here hx rfl (hb hby hd) rfl q) r
theorem own_nnY (pc' : Nat) (X : Stand p l e R s m args below meth c T locs cells slots) (hx : p.tables.exec = Jvm.exec) (hby : c.code = bytes) {o : Int} {b : Addr} (hd : decode bytes pc = .ok (.ifnonnull o, 3)) (ho : 0 ≤ (pc : Int) + o) (hp : ((pc : Int) + o).toNat = pc') (r : Go p e below P (T.setTop (mkF m pc' ls st))) : Go p e below P (T.setTop (mkF m pc ls (.ref b :: st))) :=
  own_go (fun t q => XT.ifnonnullYes X.here hx rfl rfl (hb hby hd) rfl ho hp q) r
theorem own_nnN (pc' : Nat) (X : Stand p l e R s m args below meth c T locs cells slots) (hx : p.tables.exec = Jvm.exec) (hby : c.code = bytes) {o : Int} (hd : decode bytes pc = .ok (.ifnonnull o, 3)) (hp : pc + 3 = pc') (r : Go p e below P (T.setTop (mkF m pc' ls st))) : Go p e below P (T.setTop (mkF m pc ls (.null :: st))) := by
  subst hp; exact own_go (fun t q => XT.ifnonnullNo X.here hx rfl (hb hby hd) rfl q) r
/-! what lcmp and a branch behind it say -/
theorem own_tltL {x y : Int64} (h : x < y) : ifCond.holds .lt (XT.cmpL x y) = true ∧ ifCond.holds .ge (XT.cmpL x y) = false ∧ ifCond.holds .gt (XT.cmpL y x) = true ∧ ifCond.holds .le (XT.cmpL y x) = false := by
  have h1 : ¬ y < x := fun q => absurd h (Int64.lt_asymm q)
  have h2 : ¬ x = y := fun q => absurd (q ▸ h) Int64.lt_irrefl
  have h3 : ¬ y = x := fun q => h2 q.symm
  simp only [XT.cmpL, h, h1, h2, h3, if_true, if_false]
  decide
theorem own_fltL {x y : Int64} (h : ¬ x < y) : ifCond.holds .lt (XT.cmpL x y) = false ∧ ifCond.holds .ge (XT.cmpL x y) = true ∧ ifCond.holds .gt (XT.cmpL y x) = false ∧ ifCond.holds .le (XT.cmpL y x) = true := by
  by_cases q : x = y
  · subst q
    simp only [XT.cmpL, h, if_true, if_false]
    decide
  · have h1 : y < x := by
      rw [Int64.lt_iff_toInt_lt] at h ⊢
      have : x.toInt ≠ y.toInt := fun z => q (Int64.toInt_inj.mp z)
      omega
    have h3 : ¬ y = x := fun z => q z.symm
    simp only [XT.cmpL, h, h1, q, h3, if_true, if_false]
    decide
theorem own_teqL {x y : Int64} (h : x = y) : ifCond.holds .eq (XT.cmpL x y) = true ∧ ifCond.holds .ne (XT.cmpL x y) = false := by
  subst h
  simp only [XT.cmpL, Int64.lt_irrefl, if_true, if_false]
  decide
theorem own_feqL {x y : Int64} (h : ¬ x = y) : ifCond.holds .eq (XT.cmpL x y) = false ∧ ifCond.holds .ne (XT.cmpL x y) = true := by
  by_cases q : y < x
  · simp only [XT.cmpL, q, if_true]
    decide
  · simp only [XT.cmpL, q, h, if_false]
    decide
/-! fields, statics -/
theorem own_getS (pc' : Nat) (X : Stand p l e R s m args below meth c T locs cells slots) (hx : p.tables.exec = Jvm.exec) (hby : c.code = bytes) (hZ : Z.Warmed39 s.vm) {own O n d : String} {index : Nat} (hown : s.vm.findClass own = some m.cls) (w : (Cond.fieldLink own index O n d).before a0 Z = true) (eT : T.heap = h) {v : Value} (F : Sta Z h O n d v) (hd : decode bytes pc = .ok (.getstatic index, 3)) (hp : pc + 3 = pc')
    (r : ∀ T', Stand p l e R s m args below meth c T' locs cells slots → T'.heap = h → Go p e below P (T'.setTop (mkF m pc' ls (v :: st)))) : Go p e below P (T.setTop (mkF m pc ls st)) := by
  subst hp
  obtain ⟨T', X', e', q⟩ := getS2 X hx hZ hown (host := "") (Or.inl w) Via.refl eT F (g := mkF m pc ls st) rfl (hb hby hd)
  exact own_go q (r T' X' e')
theorem own_getSN (pc' : Nat) (X : Stand p l e R s m args below meth c T locs cells slots) (hx : p.tables.exec = Jvm.exec) (hby : c.code = bytes) (hZ : Z.Warmed39 s.vm) {own O n d host : String} {index : Nat} (hown : s.vm.findClass own = some m.cls) (w : (Cond.fieldLinkNest own index O n d host).before a0 Z = true) (eT : T.heap = h) {v : Value} (F : Sta Z h O n d v) (hd : decode bytes pc = .ok (.getstatic index, 3)) (hp : pc + 3 = pc')
    (r : ∀ T', Stand p l e R s m args below meth c T' locs cells slots → T'.heap = h → Go p e below P (T'.setTop (mkF m pc' ls (v :: st)))) : Go p e below P (T.setTop (mkF m pc ls st)) := by
  subst hp
  obtain ⟨T', X', e', q⟩ := getS2 X hx hZ hown (Or.inr w) Via.refl eT F (g := mkF m pc ls st) rfl (hb hby hd)
  exact own_go q (r T' X' e')
theorem own_getF (pc' : Nat) (X : Stand p l e R s m args below meth c T locs cells slots) (hx : p.tables.exec = Jvm.exec) (hby : c.code = bytes) (hZ : Z.Warmed39 s.vm) {own O n d : String} {index : Nat} (hown : s.vm.findClass own = some m.cls) (w : (Cond.fieldLink own index O n d).before a0 Z = true) (eT : T.heap = h) {a : Addr} {v : Value} (F : Fld Z h a O n d v) (hd : decode bytes pc = .ok (.getfield index, 3)) (hp : pc + 3 = pc')
    (r : ∀ T', Stand p l e R s m args below meth c T' locs cells slots → T'.heap = h → Go p e below P (T'.setTop (mkF m pc' ls (v :: st)))) : Go p e below P (T.setTop (mkF m pc ls (.ref a :: st))) := by
  subst hp
  obtain ⟨T', X', e', q⟩ := getF X hx hZ hown (host := "") (Or.inl w) Via.refl eT F (g := mkF m pc ls (.ref a :: st)) rfl rfl (hb hby hd)
  exact own_go q (r T' X' e')
/-! arrays -/
theorem own_n0 {n0 : Nat} (O : Old Z n0 h) : n0 ≤ h.size := O.1 ▸ O.2.1
theorem own_newR (pc' : Nat) (N : Nat) (X : Stand p l e R s m args below meth c T locs cells slots) (hx : p.tables.exec = Jvm.exec) (hby : c.code = bytes) (hZ : Z.Warmed39 s.vm) {own C : String} {index : Nat} (hown : s.vm.findClass own = some m.cls) (w1 : (Cond.classLink own index C).before a0 Z = true) (w2 : (Cond.arrayOver (.object C)).before a0 Z = true) (eT : T.heap = h)
    (hd : decode bytes pc = .ok (.anewarray index, 3)) (hp : pc + 3 = pc') {n : Int32} (hn : ¬ n < 0) (hcap : n.toNatClampNeg ≤ N) (hbig : N * 8 ≤ 536870912) (hc : cells + 1 ≤ R.cells) (hl : slots + N ≤ R.slots)
    (r : ∀ T' h' cA b, Stand p l e R s m args below meth c T' locs (cells + 1) (slots + N) → T'.heap = h' → Ext h h' → b = h.size → Arv Z h' b cA (.object C) n (List.replicate N .null) .null → Ovr Z cA C → Go p e below P (T'.setTop (mkF m pc' ls (.ref b :: st)))) : Go p e below P (T.setTop (mkF m pc ls (.int n :: st))) := by
  subst hp
  obtain ⟨T', h', cA, X', e', E', A', O', q⟩ := newR X hx hZ hown w1 w2 eT (g := mkF m pc ls (.int n :: st)) rfl (hb hby hd) rfl hn hcap hbig hc hl
  exact own_go q (r T' h' cA h.size X' e' E' rfl ((Arv.new A' hn).pad (pad_rep [] .null N)) O')
theorem own_newP (pc' : Nat) (N : Nat) {aty : ArrayType} (X : Stand p l e R s m args below meth c T locs cells slots) (hx : p.tables.exec = Jvm.exec) (hby : c.code = bytes) (hZ : Z.Warmed39 s.vm) (w : (Cond.arrayClass (newarray.typeOf aty)).before a0 Z = true) (eT : T.heap = h)
    (hd : decode bytes pc = .ok (.newarray aty, 2)) (hp : pc + 2 = pc') {n : Int32} (hn : ¬ n < 0) (hcap : n.toNatClampNeg ≤ N) (hbig : N * 8 ≤ 536870912) (hc : cells + 1 ≤ R.cells) (hl : slots + N ≤ R.slots)
    (r : ∀ T' h' cA b, Stand p l e R s m args below meth c T' locs (cells + 1) (slots + N) → T'.heap = h' → Ext h h' → b = h.size → Arv Z h' b cA (newarray.typeOf aty) n (List.replicate N (defaultValue (newarray.typeOf aty))) (defaultValue (newarray.typeOf aty)) → Go p e below P (T'.setTop (mkF m pc' ls (.ref b :: st)))) : Go p e below P (T.setTop (mkF m pc ls (.int n :: st))) := by
  subst hp
  obtain ⟨T', h', cA, X', e', E', A', q⟩ := newP X hx hZ w eT (g := mkF m pc ls (.int n :: st)) rfl (hb hby hd) rfl hn hcap hbig hc hl
  exact own_go q (r T' h' cA h.size X' e' E' rfl ((Arv.new A' hn).pad (pad_rep [] _ N)))
theorem own_stR (pc' : Nat) (i : Nat) (X : Stand p l e R s m args below meth c T locs cells slots) (hx : p.tables.exec = Jvm.exec) (hby : c.code = bytes) (hZ : Z.Warmed39 s.vm) (eT : T.heap = h) {a y : Addr} {cA : ClassId} {C : String} {n j : Int32} {vs : List Value} (V : Arv Z h a cA (.object C) n vs .null) (O : Ovr Z cA C) (I : Ins Z h y C true)
    (hd : decode bytes pc = .ok (.aastore, 1)) (hp : pc + 1 = pc') (hj : ¬ j < 0 ∧ j < n) (hi : j.toNatClampNeg = i) (hv : i < vs.length)
    (r : ∀ T' h', Stand p l e R s m args below meth c T' (locs ++ [⟨a, j.toNatClampNeg⟩]) cells slots → T'.heap = h' → Wr h h' a j.toNatClampNeg (.ref y) → Arv Z h' a cA (.object C) n (vs.set i (.ref y)) .null → Go p e below P (T'.setTop (mkF m pc' ls st))) : Go p e below P (T.setTop (mkF m pc ls (.ref y :: .int j :: .ref a :: st))) := by
  subst hp
  obtain ⟨cl, A, q1, S, q3, H, G⟩ := V
  obtain ⟨T', h', X', e', W', q⟩ := stR X hx hZ eT A (j := j) (inb_of S hj) rfl (Sto.ofV A q1 O I) (g := mkF m pc ls (.ref y :: .int j :: .ref a :: st)) rfl rfl (hb hby hd)
  exact own_go q (r T' h' X' e' W' (Arv.set A q1 S q3 H G rfl W' i hi hv))
theorem own_stZ (pc' : Nat) (i : Nat) (X : Stand p l e R s m args below meth c T locs cells slots) (hx : p.tables.exec = Jvm.exec) (hby : c.code = bytes) (hZ : Z.Warmed39 s.vm) (eT : T.heap = h) {a : Addr} {cA : ClassId} {n j x : Int32} {vs : List Value} {dv : Value} (V : Arv Z h a cA .boolean n vs dv)
    (hd : decode bytes pc = .ok (.bastore, 1)) (hp : pc + 1 = pc') (hj : ¬ j < 0 ∧ j < n) (hi : j.toNatClampNeg = i) (hv : i < vs.length) (hx1 : nar .boolean x = x)
    (r : ∀ T' h', Stand p l e R s m args below meth c T' (locs ++ [⟨a, j.toNatClampNeg⟩]) cells slots → T'.heap = h' → Wr h h' a j.toNatClampNeg (.int x) → Arv Z h' a cA .boolean n (vs.set i (.int x)) dv → Go p e below P (T'.setTop (mkF m pc' ls st))) : Go p e below P (T.setTop (mkF m pc ls (.int x :: .int j :: .ref a :: st))) := by
  subst hp
  obtain ⟨cl, A, q1, S, q3, H, G⟩ := V
  obtain ⟨T', h', X', e', W', q⟩ := stZ X hx hZ eT A (j := j) (x := x) (inb_of S hj) (g := mkF m pc ls (.int x :: .int j :: .ref a :: st)) rfl rfl (hb hby hd)
  rw [hx1] at W'
  exact own_go q (r T' h' X' e' W' (Arv.set A q1 S q3 H G (hx1 ▸ fits_nar_bool x) W' i hi hv))
theorem own_aaload (pc' : Nat) (v : Value) (X : Stand p l e R s m args below meth c T locs cells slots) (hx : p.tables.exec = Jvm.exec) (hby : c.code = bytes) (hZ : Z.Warmed39 s.vm) (eT : T.heap = h) {a : Addr} {cA : ClassId} {ty : FieldType} {n j : Int32} {vs : List Value} {dv : Value} (V : Arv Z h a cA ty n vs dv) (hty : ty.isReference = true)
    (hd : decode bytes pc = .ok (.aaload, 1)) (hp : pc + 1 = pc') (hj : ¬ j < 0 ∧ j < n) (hv : vs.getD j.toNatClampNeg dv = v)
    (r : Go p e below P (T.setTop (mkF m pc' ls (v :: st)))) : Go p e below P (T.setTop (mkF m pc ls (.int j :: .ref a :: st))) := by
  subst hp
  obtain ⟨cl, A, q1, S, q3, H, G⟩ := V
  exact own_go (fun t q => X.aaload hx (j := j) (v := v) (by rw [eT]; exact A.1) (State.isArrayOf_alike hZ.alike A.2.1) hty A.2.2 (inb_of S hj) (H.at (inb_of S hj) hv) (g := mkF m pc ls (.int j :: .ref a :: st)) rfl rfl (hb hby hd) t q) r
theorem own_zaload (pc' : Nat) (v : Value) (X : Stand p l e R s m args below meth c T locs cells slots) (hx : p.tables.exec = Jvm.exec) (hby : c.code = bytes) (hZ : Z.Warmed39 s.vm) (eT : T.heap = h) {a : Addr} {cA : ClassId} {n j : Int32} {vs : List Value} {dv : Value} (V : Arv Z h a cA .boolean n vs dv)
    (hd : decode bytes pc = .ok (.baload, 1)) (hp : pc + 1 = pc') (hj : ¬ j < 0 ∧ j < n) (hv : vs.getD j.toNatClampNeg dv = v)
    (r : Go p e below P (T.setTop (mkF m pc' ls (v :: st)))) : Go p e below P (T.setTop (mkF m pc ls (.int j :: .ref a :: st))) := by
  subst hp
  obtain ⟨cl, A, q1, S, q3, H, G⟩ := V
  exact own_go (fun t q => X.baloadBooleans hx (j := j) (v := v) (by rw [eT]; exact A.1) (State.isArrayOf_alike hZ.alike A.2.1) A.2.2 (inb_of S hj) (H.at (inb_of S hj) hv) (g := mkF m pc ls (.int j :: .ref a :: st)) rfl rfl (hb hby hd) t q) r
theorem own_len (pc' : Nat) (X : Stand p l e R s m args below meth c T locs cells slots) (hx : p.tables.exec = Jvm.exec) (hby : c.code = bytes) (hZ : Z.Warmed39 s.vm) (eT : T.heap = h) {a : Addr} {cA : ClassId} {ty : FieldType} {n : Int32} {vs : List Value} {dv : Value} (V : Arv Z h a cA ty n vs dv)
    (hd : decode bytes pc = .ok (.arraylength, 1)) (hp : pc + 1 = pc')
    (r : Go p e below P (T.setTop (mkF m pc' ls (.int n :: st)))) : Go p e below P (T.setTop (mkF m pc ls (.ref a :: st))) := by
  subst hp
  obtain ⟨cl, A, q1, S, q3, H, G⟩ := V
  rw [← len_of S q3] at r
  exact own_go (fun t q => X.arraylength hx (by rw [eT]; exact A.1) (State.isArrayOf_alike hZ.alike A.2.1) (g := mkF m pc ls (.ref a :: st)) rfl rfl (hb hby hd) t q) r
/-! calls -/
theorem own_callS (pc' : Nat) {h : Heap} {as' : Array Value} {rm : Room} {Q : Option Value → Heap → List Loc → Prop} {y : MethodName} {code' : ByteArray} {maxL : Nat} {ret' : Option FieldType}
    (hM : MetFree l y (head1 [Cond.code y code' maxL ret'] rm) (fun a U => a = as' ∧ Z.Warmed39 U.vm ∧ U.heap = h) (fun _ _ _ _ _ => True) (fun _ U o U' => ∃ v L, o = .returned v ∧ Q v U'.heap L ∧ FrameEnd U o U' L rm.cells rm.slots))
    (X : Stand p l e R s m args below meth c T locs cells slots) (hx : p.tables.exec = Jvm.exec) (hby : c.code = bytes) (hZ : Z.Warmed39 s.vm) {own : String} {index W : Nat} (hown : s.vm.findClass own = some m.cls)
    (w1 : (Cond.methodLink own index y).before a0 Z = true) (w2 : (Cond.static y).before a0 Z = true) (w3 : (Cond.initialized y.cls).before a0 Z = true) (w4 : (Cond.code y code' maxL ret').before a0 Z = true)
    (hy : y.cls ≠ "java/lang/invoke/MethodHandle" ∧ y.cls ≠ "java/lang/invoke/VarHandle") (hsz : ls.size = c.maxLocals) (argsL rest : List Value) {ps : List FieldType} {rt : Option FieldType} (hps : parseMethodDescriptor y.desc = some ⟨ps, rt⟩) (hlen : argsL.length = ps.length)
    (hd : decode bytes pc = .ok (.invokestatic index, 3)) (hp : pc + 3 = pc') (eT : T.heap = h) (hst : st = argsL.reverse ++ rest) (has : argsL.toArray = as') (hW : (rest.map fun v => v.category).sum = W)
    (hf : rm.frames + 1 ≤ R.frames) (hl : W + (maxL + 11) + rm.locals ≤ R.locals) (hc : cells + rm.cells ≤ R.cells) (hs : slots + rm.slots ≤ R.slots)
    (r : ∀ v T' L, Stand p l e R s m args below meth c T' (locs ++ L) (cells + rm.cells) (slots + rm.slots) → Q v T'.heap L → Go p e below P (T'.setTop (mkF m pc' ls (v.toList ++ rest)))) : Go p e below P (T.setTop (mkF m pc ls st)) := by
  subst hp
  obtain ⟨v, _, ⟨T', L', k', n'⟩, -, X', ⟨L, hQ, l1, l2, l3⟩, q⟩ := Jvm.LawKit.callS X hx hown (mvT hZ w1) (mvT hZ w2) (mvT hZ w3) (mvT hZ w4) hy (backOf (W := W) hM hZ w4 w3 hf hl) (g := mkF m pc ls st) rfl hsz (argsL := argsL) (rest := rest) (lenOf hps hlen) hst (by show 2 * 0 + _ ≤ _; omega) (hb hby hd) (fun _ _ => ⟨has, eT, hc, hs⟩)
  dsimp only [Pt.U, Pt.locs, Pt.cells, Pt.slots] at X' l1 l2 l3 q hQ
  subst l1 l2 l3
  exact own_go q (r v T' L X' hQ)
theorem own_virt (pc' : Nat) {h : Heap} {as' : Array Value} {rm : Room} {Q : Option Value → Heap → List Loc → Prop} {y z : MethodName} {code' : ByteArray} {maxL : Nat} {ret' : Option FieldType}
    (hM : MetFree l z (head1 [Cond.code z code' maxL ret'] rm) (fun a U => a = as' ∧ Z.Warmed39 U.vm ∧ U.heap = h) (fun _ _ _ _ _ => True) (fun _ U o U' => ∃ v L, o = .returned v ∧ Q v U'.heap L ∧ FrameEnd U o U' L rm.cells rm.slots))
    (X : Stand p l e R s m args below meth c T locs cells slots) (hx : p.tables.exec = Jvm.exec) (hby : c.code = bytes) (hZ : Z.Warmed39 s.vm) {own C : String} {index W : Nat} (hown : s.vm.findClass own = some m.cls)
    (w1 : (Cond.methodLink own index y).before a0 Z = true) (w2 : (Cond.declares y).before a0 Z = true) (nf : NotFace s y) (w3 : (Cond.selects C y z).before a0 Z = true) (w4 : (Cond.instanceMethod z).before a0 Z = true) (w5 : (Cond.initialized z.cls).before a0 Z = true) (w6 : (Cond.code z code' maxL ret').before a0 Z = true)
    (hy : y.cls ≠ "java/lang/invoke/MethodHandle" ∧ y.cls ≠ "java/lang/invoke/VarHandle") (hsz : ls.size = c.maxLocals) (b : Addr) (argsL rest : List Value) {ps : List FieldType} {rt : Option FieldType} (hps : parseMethodDescriptor y.desc = some ⟨ps, rt⟩) (hlen : argsL.length = ps.length)
    (hd : decode bytes pc = .ok (.invokevirtual index, 3)) (hp : pc + 3 = pc') (eT : T.heap = h) (E : Exa Z h b C) (hst : st = argsL.reverse ++ .ref b :: rest) (has : (.ref b :: argsL).toArray = as') (hW : (rest.map fun v => v.category).sum = W)
    (hf : rm.frames + 1 ≤ R.frames) (hl : W + (maxL + 11) + rm.locals ≤ R.locals) (hc : cells + rm.cells ≤ R.cells) (hs : slots + rm.slots ≤ R.slots)
    (r : ∀ v T' L, Stand p l e R s m args below meth c T' (locs ++ L) (cells + rm.cells) (slots + rm.slots) → Q v T'.heap L → Go p e below P (T'.setTop (mkF m pc' ls (v.toList ++ rest)))) : Go p e below P (T.setTop (mkF m pc ls st)) := by
  subst hp
  obtain ⟨cq, kq, q1, q2, q3⟩ := isOf (s := s) (T := T) hZ eT E
  obtain ⟨v, _, ⟨T', L', k', n'⟩, -, X', ⟨L, hQ, l1, l2, l3⟩, q⟩ := X.virtualBack hx hown (mvT hZ w1) (mvT hZ w2) nf (mvT hZ w3) (mvT hZ w4) hy (backOf (W := W) hM hZ w6 w5 hf hl) q1 q3 (g := mkF m pc ls st) rfl hsz (Steps.refl _) (argsL := argsL) (rest := rest) (lenOf hps hlen) hst (by show 2 * 0 + _ ≤ _; omega) (hb hby hd) (fun _ _ => ⟨has, eT, hc, hs⟩)
  dsimp only [Pt.U, Pt.locs, Pt.cells, Pt.slots] at X' l1 l2 l3 q hQ
  subst l1 l2 l3
  exact own_go (fun t k => q.trans k) (r v T' L X' hQ)
/-! the end of a walk -/
theorem own_ret {Q : Option Value → Heap → List Loc → Prop} {K N : Nat} {t : FieldType} {w : Value} {i : Instr} (X : Stand p l e R s m args below meth c T locs cells slots) (hx : p.tables.exec = Jvm.exec) (hby : c.code = bytes) (hret : meth.sig.returnType = some t) (hlocks : meth.locks = false)
    (hd : decode bytes pc = .ok (i, 1)) (hn : narrow t w = w)
    (hi : (i = .ireturn ∧ (t = .int ∨ t = .boolean ∨ t = .byte ∨ t = .char ∨ t = .short) ∧ ∃ z, w = .int z) ∨ (i = .lreturn ∧ t = .long ∧ ∃ z, w = .long z) ∨ (i = .dreturn ∧ t = .double ∧ ∃ z, w = .double z) ∨ (i = .freturn ∧ t = .float ∧ ∃ z, w = .float z) ∨ (i = .areturn ∧ t.isReference = true ∧ w.isRef = true))
    (hK : cells ≤ K) (hN : slots ≤ N) (hQ : Q (some w) T.heap locs) :
    Go p e below (fun s₂ o => s₂.status = .running ∧ Ended s₂ below o ∧ ∃ v L, o = .returned v ∧ Q v s₂.heap L ∧ FrameEnd s o s₂ L K N) (T.setTop (mkF m pc ls (w :: st))) := by
  obtain ⟨fs, hr, hrun, hended, hW, hsame⟩ := X.leave (v := some w) (fun h => by rw [hret] at h; cases h) hlocks
  exact ⟨_, _, retOut X hx hret hn hi (hb hby hd) hr, hrun, hended, _, _, rfl, hQ, ⟨_, rfl⟩, hW, hsame.mono hK hN⟩
theorem own_ret0 {Q : Option Value → Heap → List Loc → Prop} {K N : Nat} (X : Stand p l e R s m args below meth c T locs cells slots) (hx : p.tables.exec = Jvm.exec) (hby : c.code = bytes) (hret : meth.sig.returnType = none) (hlocks : meth.locks = false)
    (hd : decode bytes pc = .ok (.return_, 1)) (hK : cells ≤ K) (hN : slots ≤ N) (hQ : Q none T.heap locs) :
    Go p e below (fun s₂ o => s₂.status = .running ∧ Ended s₂ below o ∧ ∃ v L, o = .returned v ∧ Q v s₂.heap L ∧ FrameEnd s o s₂ L K N) (T.setTop (mkF m pc ls [])) := by
  obtain ⟨fs, hr, hrun, hended, hW, hsame⟩ := X.leave (v := none) (fun _ => rfl) hlocks
  exact ⟨_, _, X.returnOut hx hret (hb hby hd) hr, hrun, hended, _, _, rfl, hQ, ⟨_, rfl⟩, hW, hsame.mono hK hN⟩
/-! the case's words -/
theorem own_fld {Z : State} {args : Array Value} {t : Term} {C n d : String} {v : Int32} {x : Addr} (h : (Cond.eq (Term.field t C n d) (Term.int v)).value args Z none Z [] = some true) (ht : t.eval args Z none [] Z = some (.ref x)) : Fld Z Z.heap x C n d (.int v) :=
  Fld.start ((fld_at ht).symm.trans (eqv_i (Term.int_eval v) h))
theorem own_fldN {Z : State} {args : Array Value} {t : Term} {C n d : String} {x : Addr} (h : (Cond.eq (Term.field t C n d) Term.null).value args Z none Z [] = some true) (ht : t.eval args Z none [] Z = some (.ref x)) : Fld Z Z.heap x C n d .null :=
  Fld.start ((fld_at ht).symm.trans (null_v h))
theorem own_eqvR {Z : State} {args : Array Value} {X F : Term} {y : Addr} (hF : F.eval args Z none [] Z = some (.ref y)) (h : (Cond.eq X F).value args Z none Z [] = some true) : X.eval args Z none [] Z = some (.ref y) := by
  obtain ⟨x, y', e1, e2, k1, k2⟩ := cmp_v (Or.inl h)
  cases hF.symm.trans e2
  have hx : x.isRef = true := k2.2
  exact e1.trans (congrArg some (gotT (eq_R e1 hF hx rfl) h))
theorem own_fldR {Z : State} {args : Array Value} {t F : Term} {C n d : String} {x y : Addr} (h : (Cond.eq (Term.field t C n d) F).value args Z none Z [] = some true) (ht : t.eval args Z none [] Z = some (.ref x)) (hF : F.eval args Z none [] Z = some (.ref y)) : Fld Z Z.heap x C n d (.ref y) :=
  Fld.start ((fld_at ht).symm.trans (own_eqvR hF h))
theorem own_len_at {Z : State} {args : Array Value} {t : Term} {z : Int32} {a : Addr} {cl : Cell} (h : (Term.length t).eval args Z none [] Z = some (.int z)) (ht : t.eval args Z none [] Z = some (.ref a)) (ha : Z.arrayAt? a = some cl) : cl.slots.size < 2 ^ 31 ∧ cl.slots.size.toInt32 = z := by
  by_cases q : cl.slots.size < 2 ^ 31
  · refine ⟨q, ?_⟩
    rw [len_f ht ha q] at h
    exact Value.int.inj (Option.some.inj h)
  · exfalso
    simp [Term.eval, ht, ha, q] at h
/-- what a callee that writes nothing leaves -/
def own_Q (r : Option Value) (n0 : Nat) (h0 : Heap) (v : Option Value) (h : Heap) (L : List Loc) : Prop := v = r ∧ Fr n0 L ∧ h = h0
/-- what the law leaves -/
def own_Q1 (n0 : Nat) (v : Option Value) (h : Heap) (L : List Loc) : Prop := v = some (.int 1) ∧ Fr n0 L
end Own
section Own2
variable {p : Program} {l : Launch} {e : Env} {R : Room} {s : State} {m : MethodId} {args : Array Value} {below : List Frame} {meth : Method} {c : Code} {T : State} {locs : List Loc} {cells slots : Nat} {P : State → Outcome → Prop} {pc : Nat} {ls : Array Slot} {st : List Value} {Z : State} {a0 : Array Value} {h : Heap} {bytes : ByteArray}
/-! objects -/
theorem own_new (pc' : Nat) (k : Nat) (X : Stand p l e R s m args below meth c T locs cells slots) (hx : p.tables.exec = Jvm.exec) (hby : c.code = bytes) (hZ : Z.Warmed39 s.vm) {own C : String} {index : Nat} (hown : s.vm.findClass own = some m.cls) (w : (Cond.classLink own index C).before a0 Z = true) (wi : (Cond.instantiable C k).before a0 Z = true) (wz : (Cond.initialized C).before a0 Z = true) (eT : T.heap = h)
    (hd : decode bytes pc = .ok (.new index, 3)) (hp : pc + 3 = pc') (hc : cells + 1 ≤ R.cells) (hl : slots + k ≤ R.slots)
    (r : ∀ T' h' b, Stand p l e R s m args below meth c T' locs (cells + 1) (slots + k) → T'.heap = h' → Ext h h' → b = h.size → Exa Z h' b C → (∀ {O nm d : String} {ty : FieldType}, Laid Z a0 C O nm d → parseFieldDescriptor d = some ty → Fld Z h' b O nm d (defaultValue ty)) → Go p e below P (T'.setTop (mkF m pc' ls (.ref b :: st)))) : Go p e below P (T.setTop (mkF m pc ls st)) := by
  subst hp
  obtain ⟨T', h', X', e', E', A', D', -, q⟩ := newO X hx hZ hown w wi wz eT (g := mkF m pc ls st) rfl (hb hby hd) hc hl
  exact own_go q (r T' h' h.size X' e' E' rfl A' D')
theorem own_putF (pc' : Nat) (X : Stand p l e R s m args below meth c T locs cells slots) (hx : p.tables.exec = Jvm.exec) (hby : c.code = bytes) (hZ : Z.Warmed39 s.vm) {own O n d C : String} {index kk : Nat} (ty : FieldType) (hown : s.vm.findClass own = some m.cls) (w : (Cond.fieldLink own index O n d).before a0 Z = true) (eT : T.heap = h) {a : Addr} {v old : Value} (F : Fld Z h a O n d old) (E : Exa Z h a C) (L : (Cond.lays C O n d).before a0 Z = true ∨ ((Cond.laysFinal C O n d).before a0 Z = true ∧ own = O ∧ meth.name = "<init>")) (wi : (Cond.instantiable C kk).before a0 Z = true)
    (hty : parseFieldDescriptor d = some ty) (hn : narrow ty v = v) (hf : fits ty v = true) (hd : decode bytes pc = .ok (.putfield index, 3)) (hp : pc + 3 = pc')
    (r : ∀ T' h', Stand p l e R s m args below meth c T' (locs ++ [⟨a, Jvm.RoadKit.slotOf Z O n d⟩]) cells slots → T'.heap = h' → Wr h h' a (Jvm.RoadKit.slotOf Z O n d) v → Go p e below P (T'.setTop (mkF m pc' ls st))) : Go p e below P (T.setTop (mkF m pc ls (v :: .ref a :: st))) := by
  subst hp
  obtain ⟨T', h', X', e', W', q⟩ := putF X hx hZ hown (host := "") (Or.inl w) Via.refl eT F E L wi hty hn hf (g := mkF m pc ls (v :: .ref a :: st)) rfl rfl (hb hby hd)
  exact own_go q (r T' h' X' e' W')
theorem own_initO (pc' : Nat) (W : Nat) (X : Stand p l e R s m args below meth c T locs cells slots) (hx : p.tables.exec = Jvm.exec) (hby : c.code = bytes) (hZ : Z.Warmed39 s.vm) {own : String} {idx : Nat} (hown : s.vm.findClass own = some m.cls) (w1 : (Cond.methodLink own idx Lib.objectInit).before a0 Z = true) (w2 : (Cond.instanceMethod Lib.objectInit).before a0 Z = true)
    (w3 : (Cond.code Lib.objectInit object_method_1_code 1 none).before a0 Z = true) (hsz : ls.size = c.maxLocals) {a : Addr} (hd : decode bytes pc = .ok (.invokespecial idx, 3)) (hp : pc + 3 = pc') (eT : T.heap = h) (hW : (st.map fun v => v.category).sum = W) (hf : 1 ≤ R.frames) (hl : W + 12 ≤ R.locals)
    (r : ∀ T', Stand p l e R s m args below meth c T' locs cells slots → T'.heap = h → Go p e below P (T'.setTop (mkF m pc' ls st))) : Go p e below P (T.setTop (mkF m pc ls (.ref a :: st))) := by
  subst hp
  obtain ⟨T', X', e', q⟩ := initO X hx hZ hown w1 w2 w3 eT (g := mkF m pc ls (.ref a :: st)) rfl hsz rfl (hb hby hd) hf (W := W) (by show 2 * 0 + _ ≤ _; omega) hl
  exact own_go q (r T' X' e')
theorem own_cast (pc' : Nat) (X : Stand p l e R s m args below meth c T locs cells slots) (hx : p.tables.exec = Jvm.exec) (hby : c.code = bytes) (hZ : Z.Warmed39 s.vm) {own K : String} {index : Nat} (hown : s.vm.findClass own = some m.cls) (w : (Cond.classLink own index K).before a0 Z = true) (eT : T.heap = h) {a : Addr} (F : Ins Z h a K true) (hd : decode bytes pc = .ok (.checkcast index, 3)) (hp : pc + 3 = pc')
    (r : ∀ T', Stand p l e R s m args below meth c T' locs cells slots → T'.heap = h → Go p e below P (T'.setTop (mkF m pc' ls (.ref a :: st)))) : Go p e below P (T.setTop (mkF m pc ls (.ref a :: st))) := by
  subst hp
  obtain ⟨T', X', e', q⟩ := castY X hx hZ hown w eT F (g := mkF m pc ls (.ref a :: st)) rfl rfl (hb hby hd)
  exact own_go q (r T' X' e')
theorem own_instY (pc' : Nat) (X : Stand p l e R s m args below meth c T locs cells slots) (hx : p.tables.exec = Jvm.exec) (hby : c.code = bytes) (hZ : Z.Warmed39 s.vm) {own K : String} {index : Nat} (hown : s.vm.findClass own = some m.cls) (w : (Cond.classLink own index K).before a0 Z = true) (eT : T.heap = h) {a : Addr} (F : Ins Z h a K true) (hd : decode bytes pc = .ok (.instanceof index, 3)) (hp : pc + 3 = pc')
    (r : ∀ T', Stand p l e R s m args below meth c T' locs cells slots → T'.heap = h → Go p e below P (T'.setTop (mkF m pc' ls (.int 1 :: st)))) : Go p e below P (T.setTop (mkF m pc ls (.ref a :: st))) := by
  subst hp
  obtain ⟨T', X', e', q⟩ := instY X hx hZ hown w eT F (g := mkF m pc ls (.ref a :: st)) rfl rfl (hb hby hd)
  exact own_go q (r T' X' e')
theorem own_instN (pc' : Nat) (X : Stand p l e R s m args below meth c T locs cells slots) (hx : p.tables.exec = Jvm.exec) (hby : c.code = bytes) (hZ : Z.Warmed39 s.vm) {own K C : String} {index : Nat} (hown : s.vm.findClass own = some m.cls) (w : (Cond.classLink own index K).before a0 Z = true) (eT : T.heap = h) {a : Addr} (E : Exa Z h a C) (F : ∃ c t, Z.vm.findClass C = some c ∧ Z.vm.findClass K = some t ∧ Z.vm.assignable c t = false) (hd : decode bytes pc = .ok (.instanceof index, 3)) (hp : pc + 3 = pc')
    (r : ∀ T', Stand p l e R s m args below meth c T' locs cells slots → T'.heap = h → Go p e below P (T'.setTop (mkF m pc' ls (.int 0 :: st)))) : Go p e below P (T.setTop (mkF m pc ls (.ref a :: st))) := by
  subst hp
  obtain ⟨T', X', e', q⟩ := instNo X hx hZ hown w eT E F (g := mkF m pc ls (.ref a :: st)) rfl rfl (hb hby hd)
  exact own_go q (r T' X' e')
theorem own_inst0 (pc' : Nat) (X : Stand p l e R s m args below meth c T locs cells slots) (hx : p.tables.exec = Jvm.exec) (hby : c.code = bytes) {index : Nat} (hd : decode bytes pc = .ok (.instanceof index, 3)) (hp : pc + 3 = pc')
    (r : Go p e below P (T.setTop (mkF m pc' ls (.int 0 :: st)))) : Go p e below P (T.setTop (mkF m pc ls (.null :: st))) := by
  subst hp
  exact own_go (fun t q => X.instanceofNull hx (g := mkF m pc ls (.null :: st)) rfl rfl (hb hby hd) t q) r
theorem own_lsw (pc' : Nat) (X : Stand p l e R s m args below meth c T locs cells slots) (hx : p.tables.exec = Jvm.exec) (hby : c.code = bytes) {k : Int32} {dflt : Int} {pairs : Array (Int × Int)} {len : Nat} (hd : decode bytes pc = .ok (.lookupswitch dflt pairs, len)) (hsorted : (pairs.toList.zip (pairs.toList.drop 1)).all (fun (a, next) => a.1 < next.1) = true) {a off : Int} (hfind : pairs.find? (·.1 == k.toInt) = some (a, off)) (ho : 0 ≤ (pc : Int) + off) (hp : ((pc : Int) + off).toNat = pc')
    (r : Go p e below P (T.setTop (mkF m pc' ls st))) : Go p e below P (T.setTop (mkF m pc ls (.int k :: st))) := by
  subst hp
  exact own_go (fun t q => X.lookupswitchHit hx (g := mkF m pc ls (.int k :: st)) rfl rfl (hb hby hd) hsorted hfind ho t q) r
/-! arrays of longs -/
theorem own_stJ (pc' : Nat) (i : Nat) (X : Stand p l e R s m args below meth c T locs cells slots) (hx : p.tables.exec = Jvm.exec) (hby : c.code = bytes) (hZ : Z.Warmed39 s.vm) (eT : T.heap = h) {a : Addr} {cA : ClassId} {n j : Int32} {x : Int64} {vs : List Value} {dv : Value} (V : Arv Z h a cA .long n vs dv)
    (hd : decode bytes pc = .ok (.lastore, 1)) (hp : pc + 1 = pc') (hj : ¬ j < 0 ∧ j < n) (hi : j.toNatClampNeg = i) (hv : i < vs.length)
    (r : ∀ T' h', Stand p l e R s m args below meth c T' (locs ++ [⟨a, j.toNatClampNeg⟩]) cells slots → T'.heap = h' → Wr h h' a j.toNatClampNeg (.long x) → Arv Z h' a cA .long n (vs.set i (.long x)) dv → Go p e below P (T'.setTop (mkF m pc' ls st))) : Go p e below P (T.setTop (mkF m pc ls (.long x :: .int j :: .ref a :: st))) := by
  subst hp
  obtain ⟨cl, A, q1, S, q3, H, G⟩ := V
  obtain ⟨T', h', X', e', W', q⟩ := stJ X hx hZ eT A (j := j) (inb_of S hj) (g := mkF m pc ls (.long x :: .int j :: .ref a :: st)) rfl rfl (hb hby hd)
  exact own_go q (r T' h' X' e' W' (Arv.set A q1 S q3 H G rfl W' i hi hv))
theorem own_shrink {a : Addr} {k : ClassId} {ty : FieldType} {z : Int32} {d : Value} {N : Nat} (M : Nat) (V : Arv Z h a k ty z (List.replicate N d) d) : Arv Z h a k ty z (List.replicate M d) d := V.pad fun i => (pad_rep [] d M i).trans (pad_rep [] d N i).symm
theorem own_laload (pc' : Nat) (v : Value) (X : Stand p l e R s m args below meth c T locs cells slots) (hx : p.tables.exec = Jvm.exec) (hby : c.code = bytes) (hZ : Z.Warmed39 s.vm) (eT : T.heap = h) {a : Addr} {cA : ClassId} {n j : Int32} {vs : List Value} {dv : Value} (V : Arv Z h a cA .long n vs dv)
    (hd : decode bytes pc = .ok (.laload, 1)) (hp : pc + 1 = pc') (hj : ¬ j < 0 ∧ j < n) (hv : vs.getD j.toNatClampNeg dv = v)
    (r : Go p e below P (T.setTop (mkF m pc' ls (v :: st)))) : Go p e below P (T.setTop (mkF m pc ls (.int j :: .ref a :: st))) := by
  subst hp
  obtain ⟨cl, A, q1, S, q3, H, G⟩ := V
  exact own_go (fun t q => X.laload hx (j := j) (v := v) (by rw [eT]; exact A.1) (State.isArrayOf_alike hZ.alike A.2.1) A.2.2 (inb_of S hj) (H.at (inb_of S hj) hv) (g := mkF m pc ls (.int j :: .ref a :: st)) rfl rfl (hb hby hd) t q) r
/-- System.arraycopy of no element at all -/
theorem own_cp0 (pc' : Nat) (W : Nat) (X : Stand p l e R s m args below meth c T locs cells slots) (hx : p.tables.exec = Jvm.exec) (hby : c.code = bytes) (hZ : Z.Warmed39 s.vm) {own : String} {index : Nat} (hown : s.vm.findClass own = some m.cls)
    (w1 : (Cond.methodLink own index Jvm.Stand.acN).before a0 Z = true) (w2 : (Cond.native Jvm.Stand.acN).before a0 Z = true) (w3 : (Cond.static Jvm.Stand.acN).before a0 Z = true) (w4 : (Cond.initialized "java/lang/System").before a0 Z = true) (eT : T.heap = h)
    {a b : Addr} {k k' : ClassId} {z z' : Int32} {vs vd : List Value} {dv dd : Value} (A : Arv Z h a k .long z vs dv) (B : Arv Z h b k' .long z' vd dd) {n0 : Nat} (N : Fr n0 locs) (ge : n0 ≤ b) (hsz : ls.size = c.maxLocals) (hd : decode bytes pc = .ok (.invokestatic index, 3)) (hp : pc + 3 = pc') (hW : (st.map fun v => v.category).sum = W)
    (hf : 1 ≤ R.frames) (hlo : W + (nativeFrameWords "java/lang/System" "arraycopy" 5 + 11) ≤ R.locals)
    (r : ∀ T' h' L, Stand p l e R s m args below meth c T' L cells slots → T'.heap = h' → Fr n0 L → Keep h h' [b] → Arv Z h' b k' .long z' vd dd → Go p e below P (T'.setTop (mkF m pc' ls st))) : Go p e below P (T.setTop (mkF m pc ls (.int 0 :: .int 0 :: .ref b :: .int 0 :: .ref a :: st))) := by
  subst hp
  obtain ⟨T', h', L, X', e', N', K', V', q⟩ := cpA X hx hZ hown w1 w2 w3 w4 eT A B (us := []) (sp := 0) (dp := 0) (nn := 0) (Or.inl ⟨rfl, rfl⟩) (by decide) (by decide) (by decide) (Nat.zero_le _) (Nat.zero_le _) rfl (Nat.zero_le _) N ge (g := mkF m pc ls (.int 0 :: .int 0 :: .ref b :: .int 0 :: .ref a :: st)) rfl hsz rfl (hb hby hd) hf (W := W) (by show 2 * 0 + _ ≤ _; omega) hlo
  exact own_go q (r T' h' L X' e' N' K' V')
/-! calls -/
theorem own_spec (pc' : Nat) {h : Heap} {as' : Array Value} {rm : Room} {Q : Option Value → Heap → List Loc → Prop} {y : MethodName} {code' : ByteArray} {maxL : Nat}
    (hM : MetFree l y (head1 [Cond.code y code' maxL none] rm) (fun a U => a = as' ∧ Z.Warmed39 U.vm ∧ U.heap = h) (fun _ _ _ _ _ => True) (fun _ U o U' => ∃ v L, o = .returned v ∧ Q v U'.heap L ∧ FrameEnd U o U' L rm.cells rm.slots))
    (X : Stand p l e R s m args below meth c T locs cells slots) (hx : p.tables.exec = Jvm.exec) (hby : c.code = bytes) (hZ : Z.Warmed39 s.vm) {own : String} {index W : Nat} (hown : s.vm.findClass own = some m.cls)
    (hn : y.name = "<init>") (w1 : (Cond.methodLink own index y).before a0 Z = true) (w4 : (Cond.instanceMethod y).before a0 Z = true) (w5 : (Cond.initialized y.cls).before a0 Z = true) (w6 : (Cond.code y code' maxL none).before a0 Z = true)
    (hy : y.cls ≠ "java/lang/invoke/MethodHandle" ∧ y.cls ≠ "java/lang/invoke/VarHandle") (hsz : ls.size = c.maxLocals) (b : Addr) (argsL rest : List Value) {ps : List FieldType} {rt : Option FieldType} (hps : parseMethodDescriptor y.desc = some ⟨ps, rt⟩) (hlen : argsL.length = ps.length)
    (hd : decode bytes pc = .ok (.invokespecial index, 3)) (hp : pc + 3 = pc') (eT : T.heap = h) (hst : st = argsL.reverse ++ .ref b :: rest) (has : (.ref b :: argsL).toArray = as') (hW : (rest.map fun v => v.category).sum = W)
    (hf : rm.frames + 1 ≤ R.frames) (hl : W + (maxL + 11) + rm.locals ≤ R.locals) (hc : cells + rm.cells ≤ R.cells) (hs : slots + rm.slots ≤ R.slots)
    (r : ∀ v T' L, Stand p l e R s m args below meth c T' (locs ++ L) (cells + rm.cells) (slots + rm.slots) → Q v T'.heap L → Go p e below P (T'.setTop (mkF m pc' ls (v.toList ++ rest)))) : Go p e below P (T.setTop (mkF m pc ls st)) := by
  subst hp
  obtain ⟨v, _, ⟨T', L', k', n'⟩, -, X', ⟨L, hQ, l1, l2, l3⟩, q⟩ := X.specialBack hx hn hown (mvT hZ w1) (mvT hZ w4) (mvT hZ w6) hy (backOf (W := W) hM hZ w6 w5 hf hl) (g := mkF m pc ls st) rfl hsz (Steps.refl _) (a := b) (argsL := argsL) (rest := rest) (lenOf hps hlen) hst (by show 2 * 0 + _ ≤ _; omega) (hb hby hd) (fun _ _ => ⟨has, eT, hc, hs⟩)
  dsimp only [Pt.U, Pt.locs, Pt.cells, Pt.slots] at X' l1 l2 l3 q hQ
  subst l1 l2 l3
  exact own_go (fun t k => q.trans k) (r v T' L X' hQ)
theorem own_priv (pc' : Nat) {h : Heap} {as' : Array Value} {rm : Room} {Q : Option Value → Heap → List Loc → Prop} {y : MethodName} {code' : ByteArray} {maxL : Nat} {ret' : Option FieldType}
    (hM : MetFree l y (head1 [Cond.code y code' maxL ret'] rm) (fun a U => a = as' ∧ Z.Warmed39 U.vm ∧ U.heap = h) (fun _ _ _ _ _ => True) (fun _ U o U' => ∃ v L, o = .returned v ∧ Q v U'.heap L ∧ FrameEnd U o U' L rm.cells rm.slots))
    (X : Stand p l e R s m args below meth c T locs cells slots) (hx : p.tables.exec = Jvm.exec) (hby : c.code = bytes) (hZ : Z.Warmed39 s.vm) {own : String} {index W : Nat} (hown : s.vm.findClass own = some m.cls)
    (w1 : (Cond.methodLink own index y).before a0 Z = true) (w4 : (Cond.instanceMethod y).before a0 Z = true) (wp : (Cond.privateMethod y).before a0 Z = true) {y2 : MethodName} {C2 : String} (wsel : (Cond.selects C2 y2 y2).before a0 Z = true) (w5 : (Cond.initialized y.cls).before a0 Z = true) (w6 : (Cond.code y code' maxL ret').before a0 Z = true)
    (hy2 : y2.cls = y.cls) (hy : y.cls ≠ "java/lang/invoke/MethodHandle" ∧ y.cls ≠ "java/lang/invoke/VarHandle") (hsz : ls.size = c.maxLocals) (b : Addr) (argsL rest : List Value) {ps : List FieldType} {rt : Option FieldType} (hps : parseMethodDescriptor y.desc = some ⟨ps, rt⟩) (hlen : argsL.length = ps.length)
    (hd : decode bytes pc = .ok (.invokevirtual index, 3)) (hp : pc + 3 = pc') (eT : T.heap = h) {C : String} (E : Exa Z h b C) (hst : st = argsL.reverse ++ .ref b :: rest) (has : (.ref b :: argsL).toArray = as') (hW : (rest.map fun v => v.category).sum = W)
    (hf : rm.frames + 1 ≤ R.frames) (hl : W + (maxL + 11) + rm.locals ≤ R.locals) (hc : cells + rm.cells ≤ R.cells) (hs : slots + rm.slots ≤ R.slots)
    (r : ∀ v T' L, Stand p l e R s m args below meth c T' (locs ++ L) (cells + rm.cells) (slots + rm.slots) → Q v T'.heap L → Go p e below P (T'.setTop (mkF m pc' ls (v.toList ++ rest)))) : Go p e below P (T.setTop (mkF m pc ls st)) := by
  subst hp
  have hpa : s.PrivateAt y := Cond.privateMethod_at (mvP hZ wp (args := #[]))
  have hsel : (Cond.selects y.cls y y).before args s = true := by
    obtain ⟨c2, r2, m2, q1, q2, q3, q4, kP, hkP, hkPi⟩ := Cond.selects_spec (mvT (args := args) hZ wsel)
    obtain ⟨kr, hkr, hni⟩ := notFace_of_selects (mvT (args := args) hZ wsel) _ q3
    have hc2 := findClass_of_methodNamed q3
    rw [hy2] at hc2
    exact selects_self_of_private hc2 hkr hni hpa (mvT hZ w4) hy
  obtain ⟨cq, q1, q2⟩ := E.cell
  obtain ⟨v, _, ⟨T', L', k', n'⟩, -, X', ⟨L, hQ, l1, l2, l3⟩, q⟩ := X.privateBack hx hown (mvT hZ w1) (mvT hZ w4) hsel hpa (mvT hZ w6) hy (backOf (W := W) hM hZ w6 w5 hf hl) (g := mkF m pc ls st) rfl hsz (Steps.refl _) (a := b) (by rw [eT]; exact q1) q2 (argsL := argsL) (rest := rest) (lenOf hps hlen) hst (by show 2 * 0 + _ ≤ _; omega) (hb hby hd) (fun _ _ => ⟨has, eT, hc, hs⟩)
  dsimp only [Pt.U, Pt.locs, Pt.cells, Pt.slots] at X' l1 l2 l3 q hQ
  subst l1 l2 l3
  exact own_go (fun t k => q.trans k) (r v T' L X' hQ)
theorem own_face (pc' : Nat) {h : Heap} {as' : Array Value} {rm : Room} {Q : Option Value → Heap → List Loc → Prop} {xi y : MethodName} {code' : ByteArray} {maxL : Nat} {ret' : Option FieldType}
    (hM : MetFree l y (head1 [Cond.code y code' maxL ret'] rm) (fun a U => a = as' ∧ Z.Warmed39 U.vm ∧ U.heap = h) (fun _ _ _ _ _ => True) (fun _ U o U' => ∃ v L, o = .returned v ∧ Q v U'.heap L ∧ FrameEnd U o U' L rm.cells rm.slots))
    (X : Stand p l e R s m args below meth c T locs cells slots) (hx : p.tables.exec = Jvm.exec) (hby : c.code = bytes) (hZ : Z.Warmed39 s.vm) {own C : String} {index count W : Nat} (hown : s.vm.findClass own = some m.cls)
    (w1 : (Cond.methodLink own index xi).before a0 Z = true) (w2 : (Cond.declares xi).before a0 Z = true) (w3 : ∀ A, (Cond.interfaceMethod xi.cls xi.cls xi.name xi.desc).before A s = true) (w4 : (Cond.selects C xi y).before a0 Z = true) (w5 : (Cond.instanceMethod y).before a0 Z = true) (w6 : (Cond.publicMethod y).before a0 Z = true) (w7 : (Cond.unhidden C xi.name xi.desc).before a0 Z = true) (w8 : (Cond.castable C xi.cls).before a0 Z = true) (w9 : (Cond.initialized y.cls).before a0 Z = true) (w10 : (Cond.code y code' maxL ret').before a0 Z = true)
    (hy : xi.cls ≠ "java/lang/invoke/MethodHandle" ∧ xi.cls ≠ "java/lang/invoke/VarHandle") (hsz : ls.size = c.maxLocals) (b : Addr) (argsL rest : List Value) {ps : List FieldType} {rt : Option FieldType} (hps : parseMethodDescriptor xi.desc = some ⟨ps, rt⟩) (hlen : argsL.length = ps.length)
    (hd : decode bytes pc = .ok (.invokeinterface index count, 5)) (hp : pc + 5 = pc') (eT : T.heap = h) (E : Exa Z h b C) (hst : st = argsL.reverse ++ .ref b :: rest) (has : (.ref b :: argsL).toArray = as') (hW : (rest.map fun v => v.category).sum = W)
    (hf : rm.frames + 1 ≤ R.frames) (hl : W + (maxL + 11) + rm.locals ≤ R.locals) (hc : cells + rm.cells ≤ R.cells) (hs : slots + rm.slots ≤ R.slots)
    (r : ∀ v T' L, Stand p l e R s m args below meth c T' (locs ++ L) (cells + rm.cells) (slots + rm.slots) → Q v T'.heap L → Go p e below P (T'.setTop (mkF m pc' ls (v.toList ++ rest)))) : Go p e below P (T.setTop (mkF m pc ls st)) := by
  subst hp
  obtain ⟨cq, kq, q1, q2, q3⟩ := isOf (s := s) (T := T) hZ eT E
  obtain ⟨v, _, ⟨T', L', k', n'⟩, -, X', ⟨L, hQ, l1, l2, l3⟩, q⟩ := X.interfaceBack hx hown (mvT hZ w1) (mvT hZ w2) (w3 args) (mvT hZ w4) (mvT hZ w5) (mvT hZ w6) (mvT hZ w7) (mvT hZ w8) hy (backOf (W := W) hM hZ w10 w9 hf hl) q1 q2 q3 (g := mkF m pc ls st) rfl hsz (Steps.refl _) (argsL := argsL) (rest := rest) (lenOf hps hlen) hst (by show 2 * 0 + _ ≤ _; omega) (hb hby hd) (fun _ _ => ⟨has, eT, hc, hs⟩)
  dsimp only [Pt.U, Pt.locs, Pt.cells, Pt.slots] at X' l1 l2 l3 q hQ
  subst l1 l2 l3
  exact own_go (fun t k => q.trans k) (r v T' L X' hQ)
theorem own_virtUp (pc' : Nat) {h : Heap} {as' : Array Value} {rm : Room} {Q : Option Value → Heap → List Loc → Prop} {y z : MethodName} {code' : ByteArray} {maxL : Nat} {ret' : Option FieldType} (owner : String)
    (hM : MetFree l z (head1 [Cond.code z code' maxL ret'] rm) (fun a U => a = as' ∧ Z.Warmed39 U.vm ∧ U.heap = h) (fun _ _ _ _ _ => True) (fun _ U o U' => ∃ v L, o = .returned v ∧ Q v U'.heap L ∧ FrameEnd U o U' L rm.cells rm.slots))
    (X : Stand p l e R s m args below meth c T locs cells slots) (hx : p.tables.exec = Jvm.exec) (hby : c.code = bytes) (hZ : Z.Warmed39 s.vm) {own C : String} {index W : Nat} (hown : s.vm.findClass own = some m.cls)
    (w1 : (Cond.methodLink own index y).before a0 Z = true) (wsm : (Cond.sameMethod y.cls owner y.name y.desc).before a0 Z = true) (w2 : (Cond.declares ⟨owner, y.name, y.desc⟩).before a0 Z = true) (ho : owner ≠ "java/lang/invoke/MethodHandle" ∧ owner ≠ "java/lang/invoke/VarHandle") (w3 : (Cond.selects C y z).before a0 Z = true) (w4 : (Cond.instanceMethod z).before a0 Z = true) (w5 : (Cond.initialized z.cls).before a0 Z = true) (w6 : (Cond.code z code' maxL ret').before a0 Z = true)
    (hsz : ls.size = c.maxLocals) (b : Addr) (argsL rest : List Value) {ps : List FieldType} {rt : Option FieldType} (hps : parseMethodDescriptor y.desc = some ⟨ps, rt⟩) (hlen : argsL.length = ps.length)
    (hd : decode bytes pc = .ok (.invokevirtual index, 3)) (hp : pc + 3 = pc') (eT : T.heap = h) (E : Exa Z h b C) (hst : st = argsL.reverse ++ .ref b :: rest) (has : (.ref b :: argsL).toArray = as') (hW : (rest.map fun v => v.category).sum = W)
    (hf : rm.frames + 1 ≤ R.frames) (hl : W + (maxL + 11) + rm.locals ≤ R.locals) (hc : cells + rm.cells ≤ R.cells) (hs : slots + rm.slots ≤ R.slots)
    (r : ∀ v T' L, Stand p l e R s m args below meth c T' (locs ++ L) (cells + rm.cells) (slots + rm.slots) → Q v T'.heap L → Go p e below P (T'.setTop (mkF m pc' ls (v.toList ++ rest)))) : Go p e below P (T.setTop (mkF m pc ls st)) := by
  subst hp
  obtain ⟨cq, kq, q1, q2, q3⟩ := isOf (s := s) (T := T) hZ eT E
  obtain ⟨v, _, ⟨T', L', k', n'⟩, -, X', ⟨L, hQ, l1, l2, l3⟩, q⟩ := X.virtualBackUp hx hown (mvT hZ w1) (mvT hZ wsm) (mvT hZ w2) ho (mvT hZ w3) (mvT hZ w4) (backOf (W := W) hM hZ w6 w5 hf hl) q1 q3 (g := mkF m pc ls st) rfl hsz (Steps.refl _) (argsL := argsL) (rest := rest) (lenOf hps hlen) hst (by show 2 * 0 + _ ≤ _; omega) (hb hby hd) (fun _ _ => ⟨has, eT, hc, hs⟩)
  dsimp only [Pt.U, Pt.locs, Pt.cells, Pt.slots] at X' l1 l2 l3 q hQ
  subst l1 l2 l3
  exact own_go (fun t k => q.trans k) (r v T' L X' hQ)
/-! the wide frame: a String constant may be booked -/
theorem own_ldcS (pc' : Nat) (n : Nat) {vm0 : Vm} (X : Stand p l e R (s.setVm vm0) m args below meth c T locs cells slots) (hx : p.tables.exec = Jvm.exec) (hby : c.code = bytes) (hZ : Z.Warmed39 (s.setVm vm0).vm) {own text : String} {index : Nat} (hown : (s.setVm vm0).vm.findClass own = some m.cls) (w : (Cond.stringLink own index text).before a0 Z = true) (wS : ∀ a ∈ Bundle.stringAtoms, a.before a0 Z = true)
    (eT : T.heap = h) {k0 : Nat} (hS : s.Since vm0 k0) (hk : k0 ≤ h.size) (hd : decode bytes pc = .ok (.ldc index, 2)) (hp : pc + 2 = pc') (hn : 4 * text.toList.length ≤ n) (hbig : n ≤ 536870912) (hc : cells + 2 ≤ R.cells) (hl : slots + (n + 4) ≤ R.slots)
    (r : ∀ (a : Addr) (T' : State) (h' : Heap) (k1 : Nat), Stand p l e R (s.setVm T'.vm) m args below meth c T' locs (cells + 2) (slots + (n + 4)) → T'.heap = h' → Ext h h' → s.Since T'.vm k1 → k1 ≤ h'.size → Z.Warmed39 (s.setVm T'.vm).vm → (s.setVm T'.vm).vm.findClass own = some m.cls → Go p e below P (T'.setTop (mkF m pc' ls (.ref a :: st)))) : Go p e below P (T.setTop (mkF m pc ls st)) := by
  subst hp
  obtain ⟨a, T', h', k1, X', e', E', S', k', Z', o', q⟩ := ldcS X hx hZ hown w wS eT hS hk (g := mkF m pc ls st) rfl (hb hby hd) hn hbig hc hl
  exact own_go q (r a T' h' k1 X' e' E' S' k' Z' o')
theorem own_specS (pc' : Nat) {vm0 : Vm} {h : Heap} {as' : Array Value} {rm : Room} {Q : Option Value → Heap → List Loc → Prop} {y : MethodName} {code' : ByteArray} {maxL : Nat}
    (hM : MetFree l y (head1 [Cond.code y code' maxL none] rm) (fun a U => a = as' ∧ Z.Warmed39 U.vm ∧ U.heap = h) (fun _ _ _ _ _ => True) (fun _ U o U' => ∃ v L, o = .returned v ∧ Q v U'.heap L ∧ ReturnedEndW U o U' L rm.cells rm.slots))
    (X : Stand p l e R (s.setVm vm0) m args below meth c T locs cells slots) (hx : p.tables.exec = Jvm.exec) (hby : c.code = bytes) (hZ : Z.Warmed39 (s.setVm vm0).vm) {own : String} {index W : Nat} (hown : (s.setVm vm0).vm.findClass own = some m.cls)
    (hn : y.name = "<init>") (w1 : (Cond.methodLink own index y).before a0 Z = true) (w4 : (Cond.instanceMethod y).before a0 Z = true) (w5 : (Cond.initialized y.cls).before a0 Z = true) (w6 : (Cond.code y code' maxL none).before a0 Z = true)
    (hy : y.cls ≠ "java/lang/invoke/MethodHandle" ∧ y.cls ≠ "java/lang/invoke/VarHandle") (hsz : ls.size = c.maxLocals) (b : Addr) (argsL rest : List Value) {ps : List FieldType} {rt : Option FieldType} (hps : parseMethodDescriptor y.desc = some ⟨ps, rt⟩) (hlen : argsL.length = ps.length)
    (hd : decode bytes pc = .ok (.invokespecial index, 3)) (hp : pc + 3 = pc') (eT : T.heap = h) (hst : st = argsL.reverse ++ .ref b :: rest) (has : (.ref b :: argsL).toArray = as') (hW : (rest.map fun v => v.category).sum = W)
    (hf : rm.frames + 1 ≤ R.frames) (hl : W + (maxL + 11) + rm.locals ≤ R.locals) (hc : cells + rm.cells ≤ R.cells) (hs : slots + rm.slots ≤ R.slots) {k0 : Nat} (hS : s.Since vm0 k0) (hk : k0 ≤ h.size)
    (r : ∀ v T' L, Stand p l e R (s.setVm T'.vm) m args below meth c T' (locs ++ L) (cells + rm.cells) (slots + rm.slots) → Q v T'.heap L → s.Since T'.vm T'.heap.size → Z.Warmed39 (s.setVm T'.vm).vm → (s.setVm T'.vm).vm.findClass own = some m.cls → Go p e below P (T'.setTop (mkF m pc' ls (v.toList ++ rest)))) : Go p e below P (T.setTop (mkF m pc ls st)) := by
  subst hp
  obtain ⟨v, _, ⟨T', L', k', n'⟩, -, X', S', g', ⟨L, hQ, l1, l2, l3⟩, q⟩ := X.specialBackS hx hn hown (mvT hZ w1) (mvT hZ w4) (mvT hZ w6) hy (backOfS (W := W) hM hZ w6 w5 hf hl) (g := mkF m pc ls st) rfl hsz (Steps.refl _) (a := b) (argsL := argsL) (rest := rest) (lenOf hps hlen) hst (by show 2 * 0 + _ ≤ _; omega) (hb hby hd) (fun _ _ => ⟨has, eT, hc, hs⟩)
  dsimp only [Pt.U, Pt.locs, Pt.cells, Pt.slots] at X' l1 l2 l3 q hQ S' g'
  subst l1 l2 l3
  have hk' : k0 ≤ T.heap.size := by rw [eT]; exact hk
  have S2 : s.Since T'.vm T'.heap.size := foldS hS hk' S' g'
  refine own_go (fun t k => q.trans k) (r v T' L X' hQ S2 (State.Warmed39.trans (t := s.setVm vm0) hZ S'.1) ?_)
  rw [show (s.setVm T'.vm).vm = T'.vm from rfl, S'.1.alike.findClass]; exact hown
theorem own_retW {Q : Option Value → Heap → List Loc → Prop} {K N : Nat} {vm0 : Vm} {t : FieldType} {w : Value} {i : Instr} (X : Stand p l e R (s.setVm vm0) m args below meth c T locs cells slots) (hx : p.tables.exec = Jvm.exec) (hby : c.code = bytes) (hret : meth.sig.returnType = some t) (hlocks : meth.locks = false) {k0 : Nat} (hS : s.Since vm0 k0) (hk : k0 ≤ T.heap.size)
    (hd : decode bytes pc = .ok (i, 1)) (hn : narrow t w = w)
    (hi : (i = .ireturn ∧ (t = .int ∨ t = .boolean ∨ t = .byte ∨ t = .char ∨ t = .short) ∧ ∃ z, w = .int z) ∨ (i = .lreturn ∧ t = .long ∧ ∃ z, w = .long z) ∨ (i = .dreturn ∧ t = .double ∧ ∃ z, w = .double z) ∨ (i = .freturn ∧ t = .float ∧ ∃ z, w = .float z) ∨ (i = .areturn ∧ t.isReference = true ∧ w.isRef = true))
    (hK : cells ≤ K) (hN : slots ≤ N) (hQ : Q (some w) T.heap locs) :
    Go p e below (fun s₂ o => s₂.status = .running ∧ Ended s₂ below o ∧ ∃ v L, o = .returned v ∧ Q v s₂.heap L ∧ ReturnedEndW s o s₂ L K N) (T.setTop (mkF m pc ls (w :: st))) := by
  obtain ⟨fs, hr, hrun, hended, r1, r2, r3, r4⟩ := X.leaveW hS hk (v := some w) (fun h => by rw [hret] at h; cases h) hlocks
  exact ⟨_, _, retOut X hx hret hn hi (hb hby hd) hr, hrun, hended, _, _, rfl, hQ, r1, r2, r3, r4.mono hK hN⟩
theorem own_ret0W {Q : Option Value → Heap → List Loc → Prop} {K N : Nat} {vm0 : Vm} (X : Stand p l e R (s.setVm vm0) m args below meth c T locs cells slots) (hx : p.tables.exec = Jvm.exec) (hby : c.code = bytes) (hret : meth.sig.returnType = none) (hlocks : meth.locks = false) {k0 : Nat} (hS : s.Since vm0 k0) (hk : k0 ≤ T.heap.size)
    (hd : decode bytes pc = .ok (.return_, 1)) (hK : cells ≤ K) (hN : slots ≤ N) (hQ : Q none T.heap locs) :
    Go p e below (fun s₂ o => s₂.status = .running ∧ Ended s₂ below o ∧ ∃ v L, o = .returned v ∧ Q v s₂.heap L ∧ ReturnedEndW s o s₂ L K N) (T.setTop (mkF m pc ls [])) := by
  obtain ⟨fs, hr, hrun, hended, r1, r2, r3, r4⟩ := X.leaveW hS hk (v := none) (fun _ => rfl) hlocks
  exact ⟨_, _, X.returnOut hx hret (hb hby hd) hr, hrun, hended, _, _, rfl, hQ, r1, r2, r3, r4.mono hK hN⟩
end Own2
/-! small facts on ints -/
theorem own_mask_nn (x : Int32) : 0 ≤ (x &&& 2147483647).toInt := by
  have h : (x &&& 2147483647).toInt = x.toInt % 2 ^ 31 := Jvm.Kit.i32_mask x 2147483647 (k := 31) (by decide) (by decide)
  omega
theorem own_mod_toInt (x y : Int32) (hy : 0 < y.toInt) (hx : 0 ≤ x.toInt) : (x % y).toInt = x.toInt % y.toInt := Jvm.Kit.i32_rem_nonneg hx
theorem own_and_toInt1 (x : Int32) : (x &&& 1).toInt = x.toInt % 2 := Jvm.Kit.i32_mask x 1 (k := 1) (by decide) (by decide)
theorem own_and_toInt3 (x : Int32) : (x &&& 3).toInt = x.toInt % 4 := Jvm.Kit.i32_mask x 3 (k := 2) (by decide) (by decide)
theorem own_and_toInt7 (x : Int32) : (x &&& 7).toInt = x.toInt % 8 := Jvm.Kit.i32_mask x 7 (k := 3) (by decide) (by decide)
theorem own_mkI (x m : Int32) (k : Nat) (hk : k < 32) (hm : m.toBitVec.toNat = 2 ^ k - 1) : 0 ≤ (x &&& m).toInt ∧ (x &&& m).toInt ≤ m.toInt := by
  have h1 := Jvm.Kit.i32_mask x m hk hm
  have h2 : m.toInt = 2 ^ k - 1 := by
    have h3 : m.toInt = (m.toBitVec).toInt := rfl
    have h4 : (2 : Nat) ^ k ≤ 2 ^ 31 := Nat.pow_le_pow_right (by decide) (by omega)
    rw [h3, BitVec.toInt_eq_toNat_cond, hm]
    have h5 : 0 < (2 : Nat) ^ k := Nat.pow_pos (by decide)
    have h6 : ((2 ^ k - 1 : Nat) : Int) = (2 : Int) ^ k - 1 := by
      rw [Int.natCast_sub h5]; simp
    split
    · exact h6
    · omega
  have h7 : (0 : Int) < 2 ^ k := Int.pow_pos (by decide)
  have h8 := Int.emod_nonneg x.toInt (Int.ne_of_gt h7)
  have h9 := Int.emod_lt_of_pos x.toInt h7
  omega
theorem own_mkJ (x m : Int64) (k : Nat) (hk : k < 64) (hm : m.toBitVec.toNat = 2 ^ k - 1) : 0 ≤ (x &&& m).toInt ∧ (x &&& m).toInt ≤ m.toInt := by
  have h1 := Jvm.Kit.i64_mask x m hk hm
  have h2 : m.toInt = 2 ^ k - 1 := by
    have h3 : m.toInt = (m.toBitVec).toInt := rfl
    have h4 : (2 : Nat) ^ k ≤ 2 ^ 63 := Nat.pow_le_pow_right (by decide) (by omega)
    rw [h3, BitVec.toInt_eq_toNat_cond, hm]
    have h5 : 0 < (2 : Nat) ^ k := Nat.pow_pos (by decide)
    have h6 : ((2 ^ k - 1 : Nat) : Int) = (2 : Int) ^ k - 1 := by
      rw [Int.natCast_sub h5]; simp
    split
    · exact h6
    · omega
  have h7 : (0 : Int) < 2 ^ k := Int.pow_pos (by decide)
  have h8 := Int.emod_nonneg x.toInt (Int.ne_of_gt h7)
  have h9 := Int.emod_lt_of_pos x.toInt h7
  omega
theorem own_rngI (x : Int32) : -2 ^ 31 ≤ x.toInt ∧ x.toInt < 2 ^ 31 := ⟨Int32.le_toInt x, Int32.toInt_lt x⟩
theorem own_rngJ (x : Int64) : -2 ^ 63 ≤ x.toInt ∧ x.toInt < 2 ^ 63 := ⟨Int64.le_toInt x, Int64.toInt_lt x⟩
theorem own_rmI {x : Int32} (hx : 0 ≤ x.toInt) (y : Int32) (hy : 0 < y.toInt) : 0 ≤ (x % y).toInt ∧ (x % y).toInt ≤ y.toInt - 1 := by
  rw [Jvm.Kit.i32_rem_nonneg hx]
  have h8 := Int.emod_nonneg x.toInt (Int.ne_of_gt hy)
  have h9 := Int.emod_lt_of_pos x.toInt hy
  omega
theorem own_rmJ (x y : Int64) (hy : 0 < y.toInt) : -(y.toInt - 1) ≤ (x - (x / y) * y).toInt ∧ (x - (x / y) * y).toInt ≤ y.toInt - 1 := by
  rw [Jvm.Kit.i64_rem]
  have h1 := Int.tmod_lt_of_pos x.toInt hy
  have h2 := Int.lt_tmod_of_pos x.toInt hy
  omega
theorem own_dvI {x : Int32} (hx : 0 ≤ x.toInt) (y : Int32) (hy : 0 < y.toInt) : (x / y).toInt = x.toInt / y.toInt := by
  rw [Jvm.Kit.i32_div (by omega), Int.tdiv_eq_ediv_of_nonneg hx]
theorem own_bdI {x a b : Int32} (h1 : ¬ (x < a)) (h2 : ¬ (b < x)) : a.toInt ≤ x.toInt ∧ x.toInt ≤ b.toInt := by
  rw [Int32.lt_iff_toInt_lt] at h1 h2
  omega
theorem own_bdJ {x a b : Int64} (h1 : ¬ (x < a)) (h2 : ¬ (b < x)) : a.toInt ≤ x.toInt ∧ x.toInt ≤ b.toInt := by
  rw [Int64.lt_iff_toInt_lt] at h1 h2
  omega
def own_W (Z : State) (w_NONE k_NONE : Addr) : Prop := Sta Z Z.heap "com/example/meter/meter/store/Spans" "NONE" "[J" (.ref w_NONE) ∧ Arv Z Z.heap w_NONE k_NONE .long (0 : Int32) [] (.long (0 : Int64))
theorem d1_0 : decode prog_11_method_1_code 0 = .ok (.aload_n 0, 1) := by decide +kernel
theorem d1_1 : decode prog_11_method_1_code 1 = .ok (.invokespecial 1, 3) := by decide +kernel
theorem d1_4 : decode prog_11_method_1_code 4 = .ok (.aload_n 0, 1) := by decide +kernel
theorem d1_5 : decode prog_11_method_1_code 5 = .ok (.getstatic 7, 3) := by decide +kernel
theorem d1_8 : decode prog_11_method_1_code 8 = .ok (.putfield 13, 3) := by decide +kernel
theorem d1_11 : decode prog_11_method_1_code 11 = .ok (.aload_n 0, 1) := by decide +kernel
theorem d1_12 : decode prog_11_method_1_code 12 = .ok (.getstatic 7, 3) := by decide +kernel
theorem d1_15 : decode prog_11_method_1_code 15 = .ok (.putfield 16, 3) := by decide +kernel
theorem d1_18 : decode prog_11_method_1_code 18 = .ok (.aload_n 0, 1) := by decide +kernel
theorem d1_19 : decode prog_11_method_1_code 19 = .ok (.getstatic 7, 3) := by decide +kernel
theorem d1_22 : decode prog_11_method_1_code 22 = .ok (.putfield 19, 3) := by decide +kernel
theorem d1_25 : decode prog_11_method_1_code 25 = .ok (.return_, 1) := by decide +kernel
theorem ef_1 (m : MethodId) (r0 : Addr) : entryFrame m #[(.ref r0)] 1 = mkF m 0 #[oA r0] [] := by first | (simp [entryFrame, mkF, argsToLocals, Value.category]; done) | rfl
theorem pn_0 : plainName "com/example/meter/meter/store/Spans" = true := by first | (simp [plainName, overriddenIn]; done) | decide +kernel
theorem pd_0 : parseMethodDescriptor "()V" = some ⟨[], none⟩ := by decide +kernel
theorem d8_0 : decode prog_11_method_10_code 0 = .ok (.aload_n 0, 1) := by decide +kernel
theorem d8_1 : decode prog_11_method_10_code 1 = .ok (.getfield 73, 3) := by decide +kernel
theorem d8_4 : decode prog_11_method_10_code 4 = .ok (.aload_n 0, 1) := by decide +kernel
theorem d8_5 : decode prog_11_method_10_code 5 = .ok (.getfield 22, 3) := by decide +kernel
theorem d8_8 : decode prog_11_method_10_code 8 = .ok (.if_icmp .ge 43, 3) := by decide +kernel
theorem d8_51 : decode prog_11_method_10_code 51 = .ok (.return_, 1) := by decide +kernel
theorem ef_8 (m : MethodId) (r0 : Addr) (q1 : Int64) : entryFrame m #[(.ref r0), (.long q1)] 3 = mkF m 0 #[oA r0, oJ q1, oS] [] := by first | (simp [entryFrame, mkF, argsToLocals, Value.category]; done) | rfl
theorem pd_1 : parseMethodDescriptor "(J)V" = some ⟨[.long], none⟩ := by decide +kernel
theorem d9_0 : decode prog_11_method_5_code 0 = .ok (.aload_n 0, 1) := by decide +kernel
theorem d9_1 : decode prog_11_method_5_code 1 = .ok (.getfield 22, 3) := by decide +kernel
theorem d9_4 : decode prog_11_method_5_code 4 = .ok (.aload_n 0, 1) := by decide +kernel
theorem d9_5 : decode prog_11_method_5_code 5 = .ok (.getfield 73, 3) := by decide +kernel
theorem d9_8 : decode prog_11_method_5_code 8 = .ok (.isub, 1) := by decide +kernel
theorem d9_9 : decode prog_11_method_5_code 9 = .ok (.ireturn, 1) := by decide +kernel
theorem ef_9 (m : MethodId) (r0 : Addr) : entryFrame m #[(.ref r0)] 1 = mkF m 0 #[oA r0] [] := by first | (simp [entryFrame, mkF, argsToLocals, Value.category]; done) | rfl
theorem pd_2 : parseMethodDescriptor "()I" = some ⟨[], some .int⟩ := by decide +kernel
theorem d10_0 : decode prog_11_method_6_code 0 = .ok (.aload_n 0, 1) := by decide +kernel
theorem d10_1 : decode prog_11_method_6_code 1 = .ok (.aload_n 0, 1) := by decide +kernel
theorem d10_2 : decode prog_11_method_6_code 2 = .ok (.getfield 22, 3) := by decide +kernel
theorem d10_5 : decode prog_11_method_6_code 5 = .ok (.invokevirtual 76, 3) := by decide +kernel
theorem d7_0 : decode prog_11_method_14_code 0 = .ok (.iload_n 1, 1) := by decide +kernel
theorem d7_1 : decode prog_11_method_14_code 1 = .ok (.aload_n 0, 1) := by decide +kernel
theorem d7_2 : decode prog_11_method_14_code 2 = .ok (.getfield 73, 3) := by decide +kernel
theorem d7_5 : decode prog_11_method_14_code 5 = .ok (.if_icmp .ne 10, 3) := by decide +kernel
theorem d7_8 : decode prog_11_method_14_code 8 = .ok (.aload_n 0, 1) := by decide +kernel
theorem d7_9 : decode prog_11_method_14_code 9 = .ok (.getfield 80, 3) := by decide +kernel
theorem d7_12 : decode prog_11_method_14_code 12 = .ok (.goto 11, 3) := by decide +kernel
theorem d7_23 : decode prog_11_method_14_code 23 = .ok (.lreturn, 1) := by decide +kernel
theorem ef_7 (m : MethodId) (r0 : Addr) (x1 : Int32) : entryFrame m #[(.ref r0), (.int x1)] 2 = mkF m 0 #[oA r0, oI x1] [] := by first | (simp [entryFrame, mkF, argsToLocals, Value.category]; done) | rfl
theorem pd_3 : parseMethodDescriptor "(I)J" = some ⟨[.int], some .long⟩ := by decide +kernel
theorem d10_8 : decode prog_11_method_6_code 8 = .ok (.aload_n 0, 1) := by decide +kernel
theorem d10_9 : decode prog_11_method_6_code 9 = .ok (.getfield 80, 3) := by decide +kernel
theorem d10_12 : decode prog_11_method_6_code 12 = .ok (.lsub, 1) := by decide +kernel
theorem d10_13 : decode prog_11_method_6_code 13 = .ok (.lreturn, 1) := by decide +kernel
theorem ef_10 (m : MethodId) (r0 : Addr) : entryFrame m #[(.ref r0)] 1 = mkF m 0 #[oA r0] [] := by first | (simp [entryFrame, mkF, argsToLocals, Value.category]; done) | rfl
theorem pd_4 : parseMethodDescriptor "()J" = some ⟨[], some .long⟩ := by decide +kernel
theorem d11_0 : decode prog_11_method_7_code 0 = .ok (.aload_n 0, 1) := by decide +kernel
theorem d11_1 : decode prog_11_method_7_code 1 = .ok (.getfield 73, 3) := by decide +kernel
theorem d11_4 : decode prog_11_method_7_code 4 = .ok (.aload_n 0, 1) := by decide +kernel
theorem d11_5 : decode prog_11_method_7_code 5 = .ok (.getfield 22, 3) := by decide +kernel
theorem d11_8 : decode prog_11_method_7_code 8 = .ok (.if_icmp .ne 9, 3) := by decide +kernel
theorem d11_11 : decode prog_11_method_7_code 11 = .ok (.ldc2_w 84, 3) := by decide +kernel
theorem d11_14 : decode prog_11_method_7_code 14 = .ok (.goto 14, 3) := by decide +kernel
theorem d11_28 : decode prog_11_method_7_code 28 = .ok (.lreturn, 1) := by decide +kernel
theorem ef_11 (m : MethodId) (r0 : Addr) : entryFrame m #[(.ref r0)] 1 = mkF m 0 #[oA r0] [] := by first | (simp [entryFrame, mkF, argsToLocals, Value.category]; done) | rfl
theorem d12_0 : decode prog_11_method_8_code 0 = .ok (.aload_n 0, 1) := by decide +kernel
theorem d12_1 : decode prog_11_method_8_code 1 = .ok (.getfield 73, 3) := by decide +kernel
theorem d12_4 : decode prog_11_method_8_code 4 = .ok (.aload_n 0, 1) := by decide +kernel
theorem d12_5 : decode prog_11_method_8_code 5 = .ok (.getfield 22, 3) := by decide +kernel
theorem d12_8 : decode prog_11_method_8_code 8 = .ok (.if_icmp .eq 17, 3) := by decide +kernel
theorem d12_25 : decode prog_11_method_8_code 25 = .ok (.iconst 1, 1) := by decide +kernel
theorem d12_26 : decode prog_11_method_8_code 26 = .ok (.goto 4, 3) := by decide +kernel
theorem d12_30 : decode prog_11_method_8_code 30 = .ok (.ireturn, 1) := by decide +kernel
theorem ef_12 (m : MethodId) (r0 : Addr) (q1 : Int64) : entryFrame m #[(.ref r0), (.long q1)] 3 = mkF m 0 #[oA r0, oJ q1, oS] [] := by first | (simp [entryFrame, mkF, argsToLocals, Value.category]; done) | rfl
theorem pd_5 : parseMethodDescriptor "(J)Z" = some ⟨[.long], some .boolean⟩ := by decide +kernel
theorem d3_0 : decode prog_11_method_9_code 0 = .ok (.aload_n 0, 1) := by decide +kernel
theorem d3_1 : decode prog_11_method_9_code 1 = .ok (.getfield 22, 3) := by decide +kernel
theorem d3_4 : decode prog_11_method_9_code 4 = .ok (.aload_n 0, 1) := by decide +kernel
theorem d3_5 : decode prog_11_method_9_code 5 = .ok (.getfield 16, 3) := by decide +kernel
theorem d3_8 : decode prog_11_method_9_code 8 = .ok (.arraylength, 1) := by decide +kernel
theorem d3_9 : decode prog_11_method_9_code 9 = .ok (.if_icmp .ne 7, 3) := by decide +kernel
theorem d3_12 : decode prog_11_method_9_code 12 = .ok (.aload_n 0, 1) := by decide +kernel
theorem d3_13 : decode prog_11_method_9_code 13 = .ok (.invokevirtual 86, 3) := by decide +kernel
theorem d4_0 : decode prog_11_method_15_code 0 = .ok (.aload_n 0, 1) := by decide +kernel
theorem d4_1 : decode prog_11_method_15_code 1 = .ok (.getfield 22, 3) := by decide +kernel
theorem d4_4 : decode prog_11_method_15_code 4 = .ok (.aload_n 0, 1) := by decide +kernel
theorem d4_5 : decode prog_11_method_15_code 5 = .ok (.getfield 73, 3) := by decide +kernel
theorem d4_8 : decode prog_11_method_15_code 8 = .ok (.isub, 1) := by decide +kernel
theorem d4_9 : decode prog_11_method_15_code 9 = .ok (.istore_n 1, 1) := by decide +kernel
theorem d4_10 : decode prog_11_method_15_code 10 = .ok (.aload_n 0, 1) := by decide +kernel
theorem d4_11 : decode prog_11_method_15_code 11 = .ok (.getfield 16, 3) := by decide +kernel
theorem d4_14 : decode prog_11_method_15_code 14 = .ok (.arraylength, 1) := by decide +kernel
theorem d4_15 : decode prog_11_method_15_code 15 = .ok (.iload_n 1, 1) := by decide +kernel
theorem d4_16 : decode prog_11_method_15_code 16 = .ok (.isub, 1) := by decide +kernel
theorem d4_17 : decode prog_11_method_15_code 17 = .ok (.istore_n 2, 1) := by decide +kernel
theorem d4_18 : decode prog_11_method_15_code 18 = .ok (.iload_n 2, 1) := by decide +kernel
theorem d4_19 : decode prog_11_method_15_code 19 = .ok (.aload_n 0, 1) := by decide +kernel
theorem d4_20 : decode prog_11_method_15_code 20 = .ok (.getfield 16, 3) := by decide +kernel
theorem d4_23 : decode prog_11_method_15_code 23 = .ok (.arraylength, 1) := by decide +kernel
theorem d4_24 : decode prog_11_method_15_code 24 = .ok (.bipush 8, 2) := by decide +kernel
theorem d4_26 : decode prog_11_method_15_code 26 = .ok (.idiv, 1) := by decide +kernel
theorem d4_27 : decode prog_11_method_15_code 27 = .ok (.if_icmp .le 11, 3) := by decide +kernel
theorem d4_38 : decode prog_11_method_15_code 38 = .ok (.bipush 16, 2) := by decide +kernel
theorem d4_40 : decode prog_11_method_15_code 40 = .ok (.iconst 2, 1) := by decide +kernel
theorem d4_41 : decode prog_11_method_15_code 41 = .ok (.aload_n 0, 1) := by decide +kernel
theorem d4_42 : decode prog_11_method_15_code 42 = .ok (.getfield 16, 3) := by decide +kernel
theorem d4_45 : decode prog_11_method_15_code 45 = .ok (.arraylength, 1) := by decide +kernel
theorem d4_46 : decode prog_11_method_15_code 46 = .ok (.imul, 1) := by decide +kernel
theorem d4_47 : decode prog_11_method_15_code 47 = .ok (.invokestatic 97, 3) := by decide +kernel
theorem d5_0 : decode jdk_29_method_65_code 0 = .ok (.iload_n 0, 1) := by decide +kernel
theorem d5_1 : decode jdk_29_method_65_code 1 = .ok (.iload_n 1, 1) := by decide +kernel
theorem d5_2 : decode jdk_29_method_65_code 2 = .ok (.if_icmp .lt 7, 3) := by decide +kernel
theorem d5_5 : decode jdk_29_method_65_code 5 = .ok (.iload_n 0, 1) := by decide +kernel
theorem d5_6 : decode jdk_29_method_65_code 6 = .ok (.goto 4, 3) := by decide +kernel
theorem d5_10 : decode jdk_29_method_65_code 10 = .ok (.ireturn, 1) := by decide +kernel
theorem ef_5 (m : MethodId) (x0 : Int32) (x1 : Int32) : entryFrame m #[(.int x0), (.int x1)] 2 = mkF m 0 #[oI x0, oI x1] [] := by first | (simp [entryFrame, mkF, argsToLocals, Value.category]; done) | rfl
theorem pd_6 : parseMethodDescriptor "(II)I" = some ⟨[.int, .int], some .int⟩ := by decide +kernel
theorem d4_50 : decode prog_11_method_15_code 50 = .ok (.istore_n 3, 1) := by decide +kernel
theorem d4_51 : decode prog_11_method_15_code 51 = .ok (.aload_n 0, 1) := by decide +kernel
theorem d4_52 : decode prog_11_method_15_code 52 = .ok (.aload_n 0, 1) := by decide +kernel
theorem d4_53 : decode prog_11_method_15_code 53 = .ok (.aload_n 0, 1) := by decide +kernel
theorem d4_54 : decode prog_11_method_15_code 54 = .ok (.getfield 13, 3) := by decide +kernel
theorem d4_57 : decode prog_11_method_15_code 57 = .ok (.iload_n 3, 1) := by decide +kernel
theorem d4_58 : decode prog_11_method_15_code 58 = .ok (.invokevirtual 101, 3) := by decide +kernel
theorem d6_0 : decode prog_11_method_16_code 0 = .ok (.iload_n 2, 1) := by decide +kernel
theorem d6_1 : decode prog_11_method_16_code 1 = .ok (.aload_n 1, 1) := by decide +kernel
theorem d6_2 : decode prog_11_method_16_code 2 = .ok (.arraylength, 1) := by decide +kernel
theorem d6_3 : decode prog_11_method_16_code 3 = .ok (.if_icmp .ne 7, 3) := by decide +kernel
theorem d6_10 : decode prog_11_method_16_code 10 = .ok (.iload_n 2, 1) := by decide +kernel
theorem d6_11 : decode prog_11_method_16_code 11 = .ok (.newarray .long, 2) := by decide +kernel
theorem d6_13 : decode prog_11_method_16_code 13 = .ok (.astore_n 3, 1) := by decide +kernel
theorem d6_14 : decode prog_11_method_16_code 14 = .ok (.aload_n 1, 1) := by decide +kernel
theorem d6_15 : decode prog_11_method_16_code 15 = .ok (.aload_n 0, 1) := by decide +kernel
theorem d6_16 : decode prog_11_method_16_code 16 = .ok (.getfield 73, 3) := by decide +kernel
theorem d6_19 : decode prog_11_method_16_code 19 = .ok (.aload_n 3, 1) := by decide +kernel
theorem d6_20 : decode prog_11_method_16_code 20 = .ok (.iconst 0, 1) := by decide +kernel
theorem d6_21 : decode prog_11_method_16_code 21 = .ok (.aload_n 0, 1) := by decide +kernel
theorem d6_22 : decode prog_11_method_16_code 22 = .ok (.getfield 22, 3) := by decide +kernel
theorem d6_25 : decode prog_11_method_16_code 25 = .ok (.aload_n 0, 1) := by decide +kernel
theorem d6_26 : decode prog_11_method_16_code 26 = .ok (.getfield 73, 3) := by decide +kernel
theorem d6_29 : decode prog_11_method_16_code 29 = .ok (.isub, 1) := by decide +kernel
theorem d6_30 : decode prog_11_method_16_code 30 = .ok (.invokestatic 105, 3) := by decide +kernel
theorem d6_33 : decode prog_11_method_16_code 33 = .ok (.aload_n 3, 1) := by decide +kernel
theorem d6_34 : decode prog_11_method_16_code 34 = .ok (.areturn, 1) := by decide +kernel
theorem ef_6 (m : MethodId) (r0 : Addr) (r1 : Addr) (x2 : Int32) : entryFrame m #[(.ref r0), (.ref r1), (.int x2)] 4 = mkF m 0 #[oA r0, oA r1, oI x2, oU] [] := by first | (simp [entryFrame, mkF, argsToLocals, Value.category]; done) | rfl
theorem pd_7 : parseMethodDescriptor "([JI)[J" = some ⟨[(.array .long), .int], some (.array .long)⟩ := by decide +kernel
theorem d4_61 : decode prog_11_method_15_code 61 = .ok (.putfield 13, 3) := by decide +kernel
theorem d4_64 : decode prog_11_method_15_code 64 = .ok (.aload_n 0, 1) := by decide +kernel
theorem d4_65 : decode prog_11_method_15_code 65 = .ok (.aload_n 0, 1) := by decide +kernel
theorem d4_66 : decode prog_11_method_15_code 66 = .ok (.aload_n 0, 1) := by decide +kernel
theorem d4_67 : decode prog_11_method_15_code 67 = .ok (.getfield 16, 3) := by decide +kernel
theorem d4_70 : decode prog_11_method_15_code 70 = .ok (.iload_n 3, 1) := by decide +kernel
theorem d4_71 : decode prog_11_method_15_code 71 = .ok (.invokevirtual 101, 3) := by decide +kernel
theorem d4_74 : decode prog_11_method_15_code 74 = .ok (.putfield 16, 3) := by decide +kernel
theorem d4_77 : decode prog_11_method_15_code 77 = .ok (.aload_n 0, 1) := by decide +kernel
theorem d4_78 : decode prog_11_method_15_code 78 = .ok (.aload_n 0, 1) := by decide +kernel
theorem d4_79 : decode prog_11_method_15_code 79 = .ok (.aload_n 0, 1) := by decide +kernel
theorem d4_80 : decode prog_11_method_15_code 80 = .ok (.getfield 19, 3) := by decide +kernel
theorem d4_83 : decode prog_11_method_15_code 83 = .ok (.iload_n 3, 1) := by decide +kernel
theorem d4_84 : decode prog_11_method_15_code 84 = .ok (.invokevirtual 101, 3) := by decide +kernel
theorem d4_87 : decode prog_11_method_15_code 87 = .ok (.putfield 19, 3) := by decide +kernel
theorem d4_90 : decode prog_11_method_15_code 90 = .ok (.aload_n 0, 1) := by decide +kernel
theorem d4_91 : decode prog_11_method_15_code 91 = .ok (.iconst 0, 1) := by decide +kernel
theorem d4_92 : decode prog_11_method_15_code 92 = .ok (.putfield 73, 3) := by decide +kernel
theorem d4_95 : decode prog_11_method_15_code 95 = .ok (.aload_n 0, 1) := by decide +kernel
theorem d4_96 : decode prog_11_method_15_code 96 = .ok (.iload_n 1, 1) := by decide +kernel
theorem d4_97 : decode prog_11_method_15_code 97 = .ok (.putfield 22, 3) := by decide +kernel
theorem d4_100 : decode prog_11_method_15_code 100 = .ok (.return_, 1) := by decide +kernel
theorem ef_4 (m : MethodId) (r0 : Addr) : entryFrame m #[(.ref r0)] 4 = mkF m 0 #[oA r0, oU, oU, oU] [] := by first | (simp [entryFrame, mkF, argsToLocals, Value.category]; done) | rfl
theorem d3_16 : decode prog_11_method_9_code 16 = .ok (.aload_n 0, 1) := by decide +kernel
theorem d3_17 : decode prog_11_method_9_code 17 = .ok (.getfield 13, 3) := by decide +kernel
theorem d3_20 : decode prog_11_method_9_code 20 = .ok (.aload_n 0, 1) := by decide +kernel
theorem d3_21 : decode prog_11_method_9_code 21 = .ok (.getfield 22, 3) := by decide +kernel
theorem d3_24 : decode prog_11_method_9_code 24 = .ok (.lload_n 1, 1) := by decide +kernel
theorem d3_25 : decode prog_11_method_9_code 25 = .ok (.lastore, 1) := by decide +kernel
theorem d3_26 : decode prog_11_method_9_code 26 = .ok (.aload_n 0, 1) := by decide +kernel
theorem d3_27 : decode prog_11_method_9_code 27 = .ok (.getfield 16, 3) := by decide +kernel
theorem d3_30 : decode prog_11_method_9_code 30 = .ok (.aload_n 0, 1) := by decide +kernel
theorem d3_31 : decode prog_11_method_9_code 31 = .ok (.getfield 22, 3) := by decide +kernel
theorem d3_34 : decode prog_11_method_9_code 34 = .ok (.lload_n 1, 1) := by decide +kernel
theorem d3_35 : decode prog_11_method_9_code 35 = .ok (.lastore, 1) := by decide +kernel
theorem d3_36 : decode prog_11_method_9_code 36 = .ok (.aload_n 0, 1) := by decide +kernel
theorem d3_37 : decode prog_11_method_9_code 37 = .ok (.getfield 19, 3) := by decide +kernel
theorem d3_40 : decode prog_11_method_9_code 40 = .ok (.aload_n 0, 1) := by decide +kernel
theorem d3_41 : decode prog_11_method_9_code 41 = .ok (.getfield 22, 3) := by decide +kernel
theorem d3_44 : decode prog_11_method_9_code 44 = .ok (.aload_n 0, 1) := by decide +kernel
theorem d3_45 : decode prog_11_method_9_code 45 = .ok (.aload_n 0, 1) := by decide +kernel
theorem d3_46 : decode prog_11_method_9_code 46 = .ok (.getfield 22, 3) := by decide +kernel
theorem d3_49 : decode prog_11_method_9_code 49 = .ok (.invokevirtual 76, 3) := by decide +kernel
theorem d3_52 : decode prog_11_method_9_code 52 = .ok (.lload_n 3, 1) := by decide +kernel
theorem d3_53 : decode prog_11_method_9_code 53 = .ok (.ladd, 1) := by decide +kernel
theorem d3_54 : decode prog_11_method_9_code 54 = .ok (.lastore, 1) := by decide +kernel
theorem d3_55 : decode prog_11_method_9_code 55 = .ok (.aload_n 0, 1) := by decide +kernel
theorem d3_56 : decode prog_11_method_9_code 56 = .ok (.dup, 1) := by decide +kernel
theorem d3_57 : decode prog_11_method_9_code 57 = .ok (.getfield 22, 3) := by decide +kernel
theorem d3_60 : decode prog_11_method_9_code 60 = .ok (.iconst 1, 1) := by decide +kernel
theorem d3_61 : decode prog_11_method_9_code 61 = .ok (.iadd, 1) := by decide +kernel
theorem d3_62 : decode prog_11_method_9_code 62 = .ok (.putfield 22, 3) := by decide +kernel
theorem d3_65 : decode prog_11_method_9_code 65 = .ok (.return_, 1) := by decide +kernel
theorem ef_3 (m : MethodId) (r0 : Addr) (q1 : Int64) (q2 : Int64) : entryFrame m #[(.ref r0), (.long q1), (.long q2)] 5 = mkF m 0 #[oA r0, oJ q1, oS, oJ q2, oS] [] := by first | (simp [entryFrame, mkF, argsToLocals, Value.category]; done) | rfl
theorem pd_8 : parseMethodDescriptor "(JJ)V" = some ⟨[.long, .long], none⟩ := by decide +kernel
theorem d8_11 : decode prog_11_method_10_code 11 = .ok (.aload_n 0, 1) := by decide +kernel
theorem d8_12 : decode prog_11_method_10_code 12 = .ok (.getfield 16, 3) := by decide +kernel
theorem d8_15 : decode prog_11_method_10_code 15 = .ok (.aload_n 0, 1) := by decide +kernel
theorem d8_16 : decode prog_11_method_10_code 16 = .ok (.getfield 73, 3) := by decide +kernel
theorem d8_19 : decode prog_11_method_10_code 19 = .ok (.laload, 1) := by decide +kernel
theorem d8_20 : decode prog_11_method_10_code 20 = .ok (.lload_n 1, 1) := by decide +kernel
theorem d8_21 : decode prog_11_method_10_code 21 = .ok (.lcmp, 1) := by decide +kernel
theorem d8_22 : decode prog_11_method_10_code 22 = .ok (.ifCond .gt 29, 3) := by decide +kernel
theorem d8_25 : decode prog_11_method_10_code 25 = .ok (.aload_n 0, 1) := by decide +kernel
theorem d8_26 : decode prog_11_method_10_code 26 = .ok (.aload_n 0, 1) := by decide +kernel
theorem d8_27 : decode prog_11_method_10_code 27 = .ok (.getfield 19, 3) := by decide +kernel
theorem d8_30 : decode prog_11_method_10_code 30 = .ok (.aload_n 0, 1) := by decide +kernel
theorem d8_31 : decode prog_11_method_10_code 31 = .ok (.getfield 73, 3) := by decide +kernel
theorem d8_34 : decode prog_11_method_10_code 34 = .ok (.laload, 1) := by decide +kernel
theorem d8_35 : decode prog_11_method_10_code 35 = .ok (.putfield 80, 3) := by decide +kernel
theorem d8_38 : decode prog_11_method_10_code 38 = .ok (.aload_n 0, 1) := by decide +kernel
theorem d8_39 : decode prog_11_method_10_code 39 = .ok (.dup, 1) := by decide +kernel
theorem d8_40 : decode prog_11_method_10_code 40 = .ok (.getfield 73, 3) := by decide +kernel
theorem d8_43 : decode prog_11_method_10_code 43 = .ok (.iconst 1, 1) := by decide +kernel
theorem d8_44 : decode prog_11_method_10_code 44 = .ok (.iadd, 1) := by decide +kernel
theorem d8_45 : decode prog_11_method_10_code 45 = .ok (.putfield 73, 3) := by decide +kernel
theorem d8_48 : decode prog_11_method_10_code 48 = .ok (.goto (-48), 3) := by decide +kernel
theorem d7_15 : decode prog_11_method_14_code 15 = .ok (.aload_n 0, 1) := by decide +kernel
theorem d7_16 : decode prog_11_method_14_code 16 = .ok (.getfield 19, 3) := by decide +kernel
theorem d7_19 : decode prog_11_method_14_code 19 = .ok (.iload_n 1, 1) := by decide +kernel
theorem d7_20 : decode prog_11_method_14_code 20 = .ok (.iconst 1, 1) := by decide +kernel
theorem d7_21 : decode prog_11_method_14_code 21 = .ok (.isub, 1) := by decide +kernel
theorem d7_22 : decode prog_11_method_14_code 22 = .ok (.laload, 1) := by decide +kernel
theorem d11_17 : decode prog_11_method_7_code 17 = .ok (.aload_n 0, 1) := by decide +kernel
theorem d11_18 : decode prog_11_method_7_code 18 = .ok (.getfield 16, 3) := by decide +kernel
theorem d11_21 : decode prog_11_method_7_code 21 = .ok (.aload_n 0, 1) := by decide +kernel
theorem d11_22 : decode prog_11_method_7_code 22 = .ok (.getfield 22, 3) := by decide +kernel
theorem d11_25 : decode prog_11_method_7_code 25 = .ok (.iconst 1, 1) := by decide +kernel
theorem d11_26 : decode prog_11_method_7_code 26 = .ok (.isub, 1) := by decide +kernel
theorem d11_27 : decode prog_11_method_7_code 27 = .ok (.laload, 1) := by decide +kernel
theorem d12_11 : decode prog_11_method_8_code 11 = .ok (.aload_n 0, 1) := by decide +kernel
theorem d12_12 : decode prog_11_method_8_code 12 = .ok (.getfield 16, 3) := by decide +kernel
theorem d12_15 : decode prog_11_method_8_code 15 = .ok (.aload_n 0, 1) := by decide +kernel
theorem d12_16 : decode prog_11_method_8_code 16 = .ok (.getfield 73, 3) := by decide +kernel
theorem d12_19 : decode prog_11_method_8_code 19 = .ok (.laload, 1) := by decide +kernel
theorem d12_20 : decode prog_11_method_8_code 20 = .ok (.lload_n 1, 1) := by decide +kernel
theorem d12_21 : decode prog_11_method_8_code 21 = .ok (.lcmp, 1) := by decide +kernel
theorem d12_22 : decode prog_11_method_8_code 22 = .ok (.ifCond .le 7, 3) := by decide +kernel
theorem d12_29 : decode prog_11_method_8_code 29 = .ok (.iconst 0, 1) := by decide +kernel
theorem ef_0 (m : MethodId) (q0 : Int64) (x1 : Int32) (q2 : Int64) (q3 : Int64) (x4 : Int32) : entryFrame m #[(.long q0), (.int x1), (.long q2), (.long q3), (.int x4)] maxLocals = mkF m 0 #[oJ q0, oS, oI x1, oJ q2, oS, oJ q3, oS, oI x4, oU, oU, oU, oU, oU, oU, oU, oU, oU, oU, oU, oU, oU, oU, oU, oU, oU, oU, oU, oU, oU] [] := by first | (simp [entryFrame, mkF, argsToLocals, Value.category, maxLocals]; done) | rfl
theorem pn_1 : plainName "com/example/meter/meter/store/SpansDropThroughPinLaw" = true := by first | (simp [plainName, overriddenIn]; done) | decide +kernel
def Q_rm1_1 (Z : State) (w_NONE k_NONE : Addr) (c0 : Addr) (h0 : Heap) (n0 : Nat) (v : Option Value) (h : Heap) (L : List Loc) : Prop := v = none ∧ Fr n0 L ∧ Keep h0 h [c0] ∧ Exa Z h c0 "com/example/meter/meter/store/Spans" ∧ Fld Z h c0 "com/example/meter/meter/store/Spans" "droppedTotal" "J" (.long (0 : Int64)) ∧ Fld Z h c0 "com/example/meter/meter/store/Spans" "end" "I" (.int (0 : Int32)) ∧ Fld Z h c0 "com/example/meter/meter/store/Spans" "firsts" "[J" (.ref w_NONE) ∧ Fld Z h c0 "com/example/meter/meter/store/Spans" "head" "I" (.int (0 : Int32)) ∧ Fld Z h c0 "com/example/meter/meter/store/Spans" "lasts" "[J" (.ref w_NONE) ∧ Fld Z h c0 "com/example/meter/meter/store/Spans" "totals" "[J" (.ref w_NONE)
set_option maxRecDepth 65536 in
set_option maxHeartbeats 40000000 in
theorem rm1_1 (l : Launch) (Z : State) (a0 : Array Value) (hw : ∀ d ∈ tables_1, d.before a0 Z = true) (ws : List Jvm.Cond) (w_NONE k_NONE : Addr) (W : own_W Z w_NONE k_NONE) (c0 : Addr) (h0 : Heap) (n0 : Nat) (O0 : Old Z n0 h0) (E_c0 : Exa Z h0 c0 "com/example/meter/meter/store/Spans") (F_c0_droppedTotal : Fld Z h0 c0 "com/example/meter/meter/store/Spans" "droppedTotal" "J" (.long (0 : Int64))) (F_c0_end : Fld Z h0 c0 "com/example/meter/meter/store/Spans" "end" "I" (.int (0 : Int32))) (F_c0_firsts : Fld Z h0 c0 "com/example/meter/meter/store/Spans" "firsts" "[J" .null) (F_c0_head : Fld Z h0 c0 "com/example/meter/meter/store/Spans" "head" "I" (.int (0 : Int32))) (F_c0_lasts : Fld Z h0 c0 "com/example/meter/meter/store/Spans" "lasts" "[J" .null) (F_c0_totals : Fld Z h0 c0 "com/example/meter/meter/store/Spans" "totals" "[J" .null) (n_c0 : n0 ≤ c0) :
    MetFree l (⟨"com/example/meter/meter/store/Spans", "<init>", "()V"⟩ : MethodName) (head1 (Jvm.Cond.code (⟨"com/example/meter/meter/store/Spans", "<init>", "()V"⟩ : MethodName) prog_11_method_1_code 1 none :: ws) ({ frames := 1, cells := 0, slots := 0, locals := 12 } : Room)) (fun a U => a = #[(.ref c0)] ∧ Z.Warmed39 U.vm ∧ U.heap = h0) (fun _ _ _ _ _ => True) (fun _ U o U' => ∃ v L, o = .returned v ∧ Q_rm1_1 Z w_NONE k_NONE c0 h0 n0 v U'.heap L ∧ FrameEnd U o U' L ({ frames := 1, cells := 0, slots := 0, locals := 12 } : Room).cells ({ frames := 1, cells := 0, slots := 0, locals := 12 } : Room).slots) := by
  refine MetFree.of_bodySF (plainFor_of_name pn_0) hisR ?_
  intro p e s m args below meth c s₁ Bd hml0 hP hK
  obtain ⟨rfl, hZ, hh⟩ := hP
  have hx := Bd.exec
  have hby := Bd.bytes
  have hml : c.maxLocals = 1 := hml0
  have hlk := BodyLoose.notSynchronized Bd
  have hret := Bd.returns
  have hown : s.vm.findClass "com/example/meter/meter/store/Spans" = some m.cls := findClass_of_methodNamed Bd.named
  have hnm := (name_of_methodNamed Bd.named Bd.method).1
  have X0 : Stand p l e ({ frames := 1, cells := 0, slots := 0, locals := 12 } : Room) s m #[(.ref c0)] below meth c s₁ [] 0 0 := Stand.of_body Bd
  have e0 : s₁.heap = h0 := by rw [← hh, Bd.state]; rfl
  have N0 := Fr.nil n0
  rw [ef_1 m c0]
  show Go p e below _ (s₁.setTop (mkF m 0 #[oA c0] []))
  refine own_aload_n 1 X0 hx hby d1_0 rfl rfl rfl ?_
  refine own_initO 4 0 X0 hx hby hZ hown (own_w hw 10 rfl) (own_w hw 11 rfl) (own_w hw 12 rfl) (by rw [hml]; rfl) d1_1 rfl e0 rfl (by decide) (by decide) ?_
  intro T25 X25 e25
  refine own_aload_n 5 X25 hx hby d1_4 rfl rfl rfl ?_
  refine own_getS 8 X25 hx hby hZ hown (own_w hw 13 rfl) e25 (W.1.ext O0.2) d1_5 rfl ?_
  intro T26 X26 e26
  refine own_putF 11 X26 hx hby hZ (.array .long) hown (own_w hw 15 rfl) e26 F_c0_firsts E_c0 (Or.inl (own_w hw 16 rfl)) (own_w hw 5 rfl) (by decide) rfl rfl d1_8 rfl ?_
  intro T27 h27 X27 e27 W27
  have E_c0_27 := E_c0.wr W27
  have F_c0_droppedTotal_27 := F_c0_droppedTotal.other W27 (Or.inr (slot_ne (Or.inl (own_w hw 52 rfl)) (Or.inl (own_w hw 16 rfl)) (by decide) (t := .long) (t' := (.array .long)) (by decide) (by decide)))
  have F_c0_end_27 := F_c0_end.other W27 (Or.inr (slot_ne (Or.inl (own_w hw 27 rfl)) (Or.inl (own_w hw 16 rfl)) (by decide) (t := .int) (t' := (.array .long)) (by decide) (by decide)))
  have F_c0_firsts_27 := F_c0_firsts.same W27
  have F_c0_head_27 := F_c0_head.other W27 (Or.inr (slot_ne (Or.inl (own_w hw 33 rfl)) (Or.inl (own_w hw 16 rfl)) (by decide) (t := .int) (t' := (.array .long)) (by decide) (by decide)))
  have F_c0_lasts_27 := F_c0_lasts.other W27 (Or.inr (slot_ne (Or.inl (own_w hw 18 rfl)) (Or.inl (own_w hw 16 rfl)) (by decide) (t := (.array .long)) (t' := (.array .long)) (by decide) (by decide)))
  have F_c0_totals_27 := F_c0_totals.other W27 (Or.inr (slot_ne (Or.inl (own_w hw 20 rfl)) (Or.inl (own_w hw 16 rfl)) (by decide) (t := (.array .long)) (t' := (.array .long)) (by decide) (by decide)))
  have K27 : Keep h0 h27 [c0] := (Keep.refl h0 [c0]).wr W27 (Or.inl (List.mem_of_getElem? (i := 0) rfl))
  have O27 := O0.wr W27 n_c0
  have N27 := Fr.snoc X27 N0 n_c0
  refine own_aload_n 12 X27 hx hby d1_11 rfl rfl rfl ?_
  refine own_getS 15 X27 hx hby hZ hown (own_w hw 13 rfl) e27 (W.1.ext O27.2) d1_12 rfl ?_
  intro T28 X28 e28
  refine own_putF 18 X28 hx hby hZ (.array .long) hown (own_w hw 17 rfl) e28 F_c0_lasts_27 E_c0_27 (Or.inl (own_w hw 18 rfl)) (own_w hw 5 rfl) (by decide) rfl rfl d1_15 rfl ?_
  intro T29 h29 X29 e29 W29
  have E_c0_29 := E_c0_27.wr W29
  have F_c0_droppedTotal_29 := F_c0_droppedTotal_27.other W29 (Or.inr (slot_ne (Or.inl (own_w hw 52 rfl)) (Or.inl (own_w hw 18 rfl)) (by decide) (t := .long) (t' := (.array .long)) (by decide) (by decide)))
  have F_c0_end_29 := F_c0_end_27.other W29 (Or.inr (slot_ne (Or.inl (own_w hw 27 rfl)) (Or.inl (own_w hw 18 rfl)) (by decide) (t := .int) (t' := (.array .long)) (by decide) (by decide)))
  have F_c0_firsts_29 := F_c0_firsts_27.other W29 (Or.inr (slot_ne (Or.inl (own_w hw 16 rfl)) (Or.inl (own_w hw 18 rfl)) (by decide) (t := (.array .long)) (t' := (.array .long)) (by decide) (by decide)))
  have F_c0_head_29 := F_c0_head_27.other W29 (Or.inr (slot_ne (Or.inl (own_w hw 33 rfl)) (Or.inl (own_w hw 18 rfl)) (by decide) (t := .int) (t' := (.array .long)) (by decide) (by decide)))
  have F_c0_lasts_29 := F_c0_lasts_27.same W29
  have F_c0_totals_29 := F_c0_totals_27.other W29 (Or.inr (slot_ne (Or.inl (own_w hw 20 rfl)) (Or.inl (own_w hw 18 rfl)) (by decide) (t := (.array .long)) (t' := (.array .long)) (by decide) (by decide)))
  have K29 : Keep h0 h29 [c0] := K27.wr W29 (Or.inl (List.mem_of_getElem? (i := 0) rfl))
  have O29 := O27.wr W29 n_c0
  have N29 := Fr.snoc X29 N27 n_c0
  refine own_aload_n 19 X29 hx hby d1_18 rfl rfl rfl ?_
  refine own_getS 22 X29 hx hby hZ hown (own_w hw 13 rfl) e29 (W.1.ext O29.2) d1_19 rfl ?_
  intro T30 X30 e30
  refine own_putF 25 X30 hx hby hZ (.array .long) hown (own_w hw 19 rfl) e30 F_c0_totals_29 E_c0_29 (Or.inl (own_w hw 20 rfl)) (own_w hw 5 rfl) (by decide) rfl rfl d1_22 rfl ?_
  intro T31 h31 X31 e31 W31
  have E_c0_31 := E_c0_29.wr W31
  have F_c0_droppedTotal_31 := F_c0_droppedTotal_29.other W31 (Or.inr (slot_ne (Or.inl (own_w hw 52 rfl)) (Or.inl (own_w hw 20 rfl)) (by decide) (t := .long) (t' := (.array .long)) (by decide) (by decide)))
  have F_c0_end_31 := F_c0_end_29.other W31 (Or.inr (slot_ne (Or.inl (own_w hw 27 rfl)) (Or.inl (own_w hw 20 rfl)) (by decide) (t := .int) (t' := (.array .long)) (by decide) (by decide)))
  have F_c0_firsts_31 := F_c0_firsts_29.other W31 (Or.inr (slot_ne (Or.inl (own_w hw 16 rfl)) (Or.inl (own_w hw 20 rfl)) (by decide) (t := (.array .long)) (t' := (.array .long)) (by decide) (by decide)))
  have F_c0_head_31 := F_c0_head_29.other W31 (Or.inr (slot_ne (Or.inl (own_w hw 33 rfl)) (Or.inl (own_w hw 20 rfl)) (by decide) (t := .int) (t' := (.array .long)) (by decide) (by decide)))
  have F_c0_lasts_31 := F_c0_lasts_29.other W31 (Or.inr (slot_ne (Or.inl (own_w hw 18 rfl)) (Or.inl (own_w hw 20 rfl)) (by decide) (t := (.array .long)) (t' := (.array .long)) (by decide) (by decide)))
  have F_c0_totals_31 := F_c0_totals_29.same W31
  have K31 : Keep h0 h31 [c0] := K29.wr W31 (Or.inl (List.mem_of_getElem? (i := 0) rfl))
  have O31 := O29.wr W31 n_c0
  have N31 := Fr.snoc X31 N29 n_c0
  exact own_ret0 (Q := Q_rm1_1 Z w_NONE k_NONE c0 h0 n0) X31 hx hby hret hlk d1_25 (by decide) (by decide) (by rw [e31]; exact ⟨rfl, N31, K31, E_c0_31, F_c0_droppedTotal_31, F_c0_end_31, F_c0_firsts_31, F_c0_head_31, F_c0_lasts_31, F_c0_totals_31⟩)
set_option maxRecDepth 65536 in
set_option maxHeartbeats 40000000 in
theorem rm8_2 (l : Launch) (Z : State) (a0 : Array Value) (hw : ∀ d ∈ tables_1, d.before a0 Z = true) (ws : List Jvm.Cond) (w_NONE k_NONE : Addr) (W : own_W Z w_NONE k_NONE) (c0 : Addr) (y0 : Int64) (h0 : Heap) (n0 : Nat) (O0 : Old Z n0 h0) (E_c0 : Exa Z h0 c0 "com/example/meter/meter/store/Spans") (F_c0_droppedTotal : Fld Z h0 c0 "com/example/meter/meter/store/Spans" "droppedTotal" "J" (.long (0 : Int64))) (F_c0_end : Fld Z h0 c0 "com/example/meter/meter/store/Spans" "end" "I" (.int (0 : Int32))) (F_c0_firsts : Fld Z h0 c0 "com/example/meter/meter/store/Spans" "firsts" "[J" (.ref w_NONE)) (F_c0_head : Fld Z h0 c0 "com/example/meter/meter/store/Spans" "head" "I" (.int (0 : Int32))) (F_c0_lasts : Fld Z h0 c0 "com/example/meter/meter/store/Spans" "lasts" "[J" (.ref w_NONE)) (F_c0_totals : Fld Z h0 c0 "com/example/meter/meter/store/Spans" "totals" "[J" (.ref w_NONE)) (n_c0 : n0 ≤ c0) :
    MetFree l (⟨"com/example/meter/meter/store/Spans", "dropThrough", "(J)V"⟩ : MethodName) (head1 (Jvm.Cond.code (⟨"com/example/meter/meter/store/Spans", "dropThrough", "(J)V"⟩ : MethodName) prog_11_method_10_code 3 none :: ws) ({ frames := 0, cells := 0, slots := 0, locals := 0 } : Room)) (fun a U => a = #[(.ref c0), (.long y0)] ∧ Z.Warmed39 U.vm ∧ U.heap = h0) (fun _ _ _ _ _ => True) (fun _ U o U' => ∃ v L, o = .returned v ∧ own_Q none n0 h0 v U'.heap L ∧ FrameEnd U o U' L ({ frames := 0, cells := 0, slots := 0, locals := 0 } : Room).cells ({ frames := 0, cells := 0, slots := 0, locals := 0 } : Room).slots) := by
  refine MetFree.of_bodySF (plainFor_of_name pn_0) hisR ?_
  intro p e s m args below meth c s₁ Bd hml0 hP hK
  obtain ⟨rfl, hZ, hh⟩ := hP
  have hx := Bd.exec
  have hby := Bd.bytes
  have hml : c.maxLocals = 3 := hml0
  have hlk := BodyLoose.notSynchronized Bd
  have hret := Bd.returns
  have hown : s.vm.findClass "com/example/meter/meter/store/Spans" = some m.cls := findClass_of_methodNamed Bd.named
  have hnm := (name_of_methodNamed Bd.named Bd.method).1
  have X0 : Stand p l e ({ frames := 0, cells := 0, slots := 0, locals := 0 } : Room) s m #[(.ref c0), (.long y0)] below meth c s₁ [] 0 0 := Stand.of_body Bd
  have e0 : s₁.heap = h0 := by rw [← hh, Bd.state]; rfl
  have N0 := Fr.nil n0
  rw [ef_8 m c0 y0]
  show Go p e below _ (s₁.setTop (mkF m 0 #[oA c0, oJ y0, oS] []))
  refine own_aload_n 1 X0 hx hby d8_0 rfl rfl rfl ?_
  refine own_getF 4 X0 hx hby hZ hown (own_w hw 32 rfl) e0 F_c0_head d8_1 rfl ?_
  intro T34 X34 e34
  refine own_aload_n 5 X34 hx hby d8_4 rfl rfl rfl ?_
  refine own_getF 8 X34 hx hby hZ hown (own_w hw 26 rfl) e34 F_c0_end d8_5 rfl ?_
  intro T35 X35 e35
  refine own_icY 51 X35 hx hby d8_8 (by decide) (by decide) (by decide) ?_
  exact own_ret0 (Q := own_Q none n0 h0) X35 hx hby hret hlk d8_51 (by decide) (by decide) ⟨rfl, N0, e35⟩
set_option maxRecDepth 65536 in
set_option maxHeartbeats 40000000 in
theorem rm9_3 (l : Launch) (Z : State) (a0 : Array Value) (hw : ∀ d ∈ tables_1, d.before a0 Z = true) (ws : List Jvm.Cond) (w_NONE k_NONE : Addr) (W : own_W Z w_NONE k_NONE) (c0 : Addr) (h0 : Heap) (n0 : Nat) (O0 : Old Z n0 h0) (E_c0 : Exa Z h0 c0 "com/example/meter/meter/store/Spans") (F_c0_droppedTotal : Fld Z h0 c0 "com/example/meter/meter/store/Spans" "droppedTotal" "J" (.long (0 : Int64))) (F_c0_end : Fld Z h0 c0 "com/example/meter/meter/store/Spans" "end" "I" (.int (0 : Int32))) (F_c0_firsts : Fld Z h0 c0 "com/example/meter/meter/store/Spans" "firsts" "[J" (.ref w_NONE)) (F_c0_head : Fld Z h0 c0 "com/example/meter/meter/store/Spans" "head" "I" (.int (0 : Int32))) (F_c0_lasts : Fld Z h0 c0 "com/example/meter/meter/store/Spans" "lasts" "[J" (.ref w_NONE)) (F_c0_totals : Fld Z h0 c0 "com/example/meter/meter/store/Spans" "totals" "[J" (.ref w_NONE)) (n_c0 : n0 ≤ c0) :
    MetFree l (⟨"com/example/meter/meter/store/Spans", "size", "()I"⟩ : MethodName) (head1 (Jvm.Cond.code (⟨"com/example/meter/meter/store/Spans", "size", "()I"⟩ : MethodName) prog_11_method_5_code 1 (some .int) :: ws) ({ frames := 0, cells := 0, slots := 0, locals := 0 } : Room)) (fun a U => a = #[(.ref c0)] ∧ Z.Warmed39 U.vm ∧ U.heap = h0) (fun _ _ _ _ _ => True) (fun _ U o U' => ∃ v L, o = .returned v ∧ own_Q (some (.int (0 : Int32))) n0 h0 v U'.heap L ∧ FrameEnd U o U' L ({ frames := 0, cells := 0, slots := 0, locals := 0 } : Room).cells ({ frames := 0, cells := 0, slots := 0, locals := 0 } : Room).slots) := by
  refine MetFree.of_bodySF (plainFor_of_name pn_0) hisR ?_
  intro p e s m args below meth c s₁ Bd hml0 hP hK
  obtain ⟨rfl, hZ, hh⟩ := hP
  have hx := Bd.exec
  have hby := Bd.bytes
  have hml : c.maxLocals = 1 := hml0
  have hlk := BodyLoose.notSynchronized Bd
  have hret := Bd.returns
  have hown : s.vm.findClass "com/example/meter/meter/store/Spans" = some m.cls := findClass_of_methodNamed Bd.named
  have hnm := (name_of_methodNamed Bd.named Bd.method).1
  have X0 : Stand p l e ({ frames := 0, cells := 0, slots := 0, locals := 0 } : Room) s m #[(.ref c0)] below meth c s₁ [] 0 0 := Stand.of_body Bd
  have e0 : s₁.heap = h0 := by rw [← hh, Bd.state]; rfl
  have N0 := Fr.nil n0
  rw [ef_9 m c0]
  show Go p e below _ (s₁.setTop (mkF m 0 #[oA c0] []))
  refine own_aload_n 1 X0 hx hby d9_0 rfl rfl rfl ?_
  refine own_getF 4 X0 hx hby hZ hown (own_w hw 26 rfl) e0 F_c0_end d9_1 rfl ?_
  intro T37 X37 e37
  refine own_aload_n 5 X37 hx hby d9_4 rfl rfl rfl ?_
  refine own_getF 8 X37 hx hby hZ hown (own_w hw 32 rfl) e37 F_c0_head d9_5 rfl ?_
  intro T38 X38 e38
  refine own_isub 9 (0 : Int32) X38 hx hby d9_8 rfl (by decide) ?_
  exact own_ret (Q := own_Q (some (.int (0 : Int32))) n0 h0) X38 hx hby hret hlk d9_9 rfl (Or.inl ⟨rfl, by simp, _, rfl⟩) (by decide) (by decide) ⟨rfl, N0, e38⟩
set_option maxRecDepth 65536 in
set_option maxHeartbeats 40000000 in
theorem rm7_4 (l : Launch) (Z : State) (a0 : Array Value) (hw : ∀ d ∈ tables_1, d.before a0 Z = true) (ws : List Jvm.Cond) (w_NONE k_NONE : Addr) (W : own_W Z w_NONE k_NONE) (c0 : Addr) (h0 : Heap) (n0 : Nat) (O0 : Old Z n0 h0) (E_c0 : Exa Z h0 c0 "com/example/meter/meter/store/Spans") (F_c0_droppedTotal : Fld Z h0 c0 "com/example/meter/meter/store/Spans" "droppedTotal" "J" (.long (0 : Int64))) (F_c0_end : Fld Z h0 c0 "com/example/meter/meter/store/Spans" "end" "I" (.int (0 : Int32))) (F_c0_firsts : Fld Z h0 c0 "com/example/meter/meter/store/Spans" "firsts" "[J" (.ref w_NONE)) (F_c0_head : Fld Z h0 c0 "com/example/meter/meter/store/Spans" "head" "I" (.int (0 : Int32))) (F_c0_lasts : Fld Z h0 c0 "com/example/meter/meter/store/Spans" "lasts" "[J" (.ref w_NONE)) (F_c0_totals : Fld Z h0 c0 "com/example/meter/meter/store/Spans" "totals" "[J" (.ref w_NONE)) (n_c0 : n0 ≤ c0) :
    MetFree l (⟨"com/example/meter/meter/store/Spans", "totalBefore", "(I)J"⟩ : MethodName) (head1 (Jvm.Cond.code (⟨"com/example/meter/meter/store/Spans", "totalBefore", "(I)J"⟩ : MethodName) prog_11_method_14_code 2 (some .long) :: ws) ({ frames := 0, cells := 0, slots := 0, locals := 0 } : Room)) (fun a U => a = #[(.ref c0), (.int (0 : Int32))] ∧ Z.Warmed39 U.vm ∧ U.heap = h0) (fun _ _ _ _ _ => True) (fun _ U o U' => ∃ v L, o = .returned v ∧ own_Q (some (.long (0 : Int64))) n0 h0 v U'.heap L ∧ FrameEnd U o U' L ({ frames := 0, cells := 0, slots := 0, locals := 0 } : Room).cells ({ frames := 0, cells := 0, slots := 0, locals := 0 } : Room).slots) := by
  refine MetFree.of_bodySF (plainFor_of_name pn_0) hisR ?_
  intro p e s m args below meth c s₁ Bd hml0 hP hK
  obtain ⟨rfl, hZ, hh⟩ := hP
  have hx := Bd.exec
  have hby := Bd.bytes
  have hml : c.maxLocals = 2 := hml0
  have hlk := BodyLoose.notSynchronized Bd
  have hret := Bd.returns
  have hown : s.vm.findClass "com/example/meter/meter/store/Spans" = some m.cls := findClass_of_methodNamed Bd.named
  have hnm := (name_of_methodNamed Bd.named Bd.method).1
  have X0 : Stand p l e ({ frames := 0, cells := 0, slots := 0, locals := 0 } : Room) s m #[(.ref c0), (.int (0 : Int32))] below meth c s₁ [] 0 0 := Stand.of_body Bd
  have e0 : s₁.heap = h0 := by rw [← hh, Bd.state]; rfl
  have N0 := Fr.nil n0
  rw [ef_7 m c0 (0 : Int32)]
  show Go p e below _ (s₁.setTop (mkF m 0 #[oA c0, oI (0 : Int32)] []))
  refine own_iload_n 1 X0 hx hby d7_0 rfl rfl ?_
  refine own_aload_n 2 X0 hx hby d7_1 rfl rfl rfl ?_
  refine own_getF 5 X0 hx hby hZ hown (own_w hw 32 rfl) e0 F_c0_head d7_2 rfl ?_
  intro T41 X41 e41
  refine own_icN 8 X41 hx hby d7_5 rfl (by decide) ?_
  refine own_aload_n 9 X41 hx hby d7_8 rfl rfl rfl ?_
  refine own_getF 12 X41 hx hby hZ hown (own_w hw 51 rfl) e41 F_c0_droppedTotal d7_9 rfl ?_
  intro T42 X42 e42
  refine own_goto 23 X42 hx hby d7_12 (by decide) (by decide) ?_
  exact own_ret (Q := own_Q (some (.long (0 : Int64))) n0 h0) X42 hx hby hret hlk d7_23 rfl (Or.inr (Or.inl ⟨rfl, rfl, _, rfl⟩)) (by decide) (by decide) ⟨rfl, N0, e42⟩
set_option maxRecDepth 65536 in
set_option maxHeartbeats 40000000 in
theorem rm10_5 (l : Launch) (Z : State) (a0 : Array Value) (hw : ∀ d ∈ tables_1, d.before a0 Z = true) (ws : List Jvm.Cond) (w_NONE k_NONE : Addr) (W : own_W Z w_NONE k_NONE) (c0 : Addr) (h0 : Heap) (n0 : Nat) (O0 : Old Z n0 h0) (E_c0 : Exa Z h0 c0 "com/example/meter/meter/store/Spans") (F_c0_droppedTotal : Fld Z h0 c0 "com/example/meter/meter/store/Spans" "droppedTotal" "J" (.long (0 : Int64))) (F_c0_end : Fld Z h0 c0 "com/example/meter/meter/store/Spans" "end" "I" (.int (0 : Int32))) (F_c0_firsts : Fld Z h0 c0 "com/example/meter/meter/store/Spans" "firsts" "[J" (.ref w_NONE)) (F_c0_head : Fld Z h0 c0 "com/example/meter/meter/store/Spans" "head" "I" (.int (0 : Int32))) (F_c0_lasts : Fld Z h0 c0 "com/example/meter/meter/store/Spans" "lasts" "[J" (.ref w_NONE)) (F_c0_totals : Fld Z h0 c0 "com/example/meter/meter/store/Spans" "totals" "[J" (.ref w_NONE)) (n_c0 : n0 ≤ c0) :
    MetFree l (⟨"com/example/meter/meter/store/Spans", "hits", "()J"⟩ : MethodName) (head1 (Jvm.Cond.code (⟨"com/example/meter/meter/store/Spans", "hits", "()J"⟩ : MethodName) prog_11_method_6_code 1 (some .long) :: ws) ({ frames := 1, cells := 0, slots := 0, locals := 13 } : Room)) (fun a U => a = #[(.ref c0)] ∧ Z.Warmed39 U.vm ∧ U.heap = h0) (fun _ _ _ _ _ => True) (fun _ U o U' => ∃ v L, o = .returned v ∧ own_Q (some (.long (0 : Int64))) n0 h0 v U'.heap L ∧ FrameEnd U o U' L ({ frames := 1, cells := 0, slots := 0, locals := 13 } : Room).cells ({ frames := 1, cells := 0, slots := 0, locals := 13 } : Room).slots) := by
  refine MetFree.of_bodySF (plainFor_of_name pn_0) hisR ?_
  intro p e s m args below meth c s₁ Bd hml0 hP hK
  obtain ⟨rfl, hZ, hh⟩ := hP
  have hx := Bd.exec
  have hby := Bd.bytes
  have hml : c.maxLocals = 1 := hml0
  have hlk := BodyLoose.notSynchronized Bd
  have hret := Bd.returns
  have hown : s.vm.findClass "com/example/meter/meter/store/Spans" = some m.cls := findClass_of_methodNamed Bd.named
  have hnm := (name_of_methodNamed Bd.named Bd.method).1
  have X0 : Stand p l e ({ frames := 1, cells := 0, slots := 0, locals := 13 } : Room) s m #[(.ref c0)] below meth c s₁ [] 0 0 := Stand.of_body Bd
  have e0 : s₁.heap = h0 := by rw [← hh, Bd.state]; rfl
  have N0 := Fr.nil n0
  rw [ef_10 m c0]
  show Go p e below _ (s₁.setTop (mkF m 0 #[oA c0] []))
  refine own_aload_n 1 X0 hx hby d10_0 rfl rfl rfl ?_
  refine own_aload_n 2 X0 hx hby d10_1 rfl rfl rfl ?_
  refine own_getF 5 X0 hx hby hZ hown (own_w hw 26 rfl) e0 F_c0_end d10_2 rfl ?_
  intro T40 X40 e40
  refine own_priv (W := 0) 8 (rm7_4 l Z a0 hw [] w_NONE k_NONE W c0 h0 n0 O0 E_c0 F_c0_droppedTotal F_c0_end F_c0_firsts F_c0_head F_c0_lasts F_c0_totals n_c0) X40 hx hby hZ hown (own_w hw 47 rfl) (own_w hw 48 rfl) (own_w hw 49 rfl) (own_w hw 24 rfl) (own_w hw 6 rfl) (own_w hw 50 rfl) rfl (by decide) (by rw [hml]; rfl) c0 [(.int (0 : Int32))] [] pd_3 rfl d10_5 rfl e40 E_c0 rfl rfl rfl (by decide) (by decide) (by decide) (by decide) ?_
  rintro _ T43 L43 X43 ⟨rfl, N43, e43⟩
  have N43 := Fr.app N0 N43
  show Go p e below _ (T43.setTop (mkF m 8 _ [(.long (0 : Int64))]))
  refine own_aload_n 9 X43 hx hby d10_8 rfl rfl rfl ?_
  refine own_getF 12 X43 hx hby hZ hown (own_w hw 51 rfl) e43 F_c0_droppedTotal d10_9 rfl ?_
  intro T44 X44 e44
  refine own_lsub 13 (0 : Int64) X44 hx hby d10_12 rfl (by decide) ?_
  exact own_ret (Q := own_Q (some (.long (0 : Int64))) n0 h0) X44 hx hby hret hlk d10_13 rfl (Or.inr (Or.inl ⟨rfl, rfl, _, rfl⟩)) (by decide) (by decide) ⟨rfl, N43, e44⟩
set_option maxRecDepth 65536 in
set_option maxHeartbeats 40000000 in
theorem rm11_6 (l : Launch) (Z : State) (a0 : Array Value) (hw : ∀ d ∈ tables_1, d.before a0 Z = true) (ws : List Jvm.Cond) (w_NONE k_NONE : Addr) (W : own_W Z w_NONE k_NONE) (c0 : Addr) (h0 : Heap) (n0 : Nat) (O0 : Old Z n0 h0) (E_c0 : Exa Z h0 c0 "com/example/meter/meter/store/Spans") (F_c0_droppedTotal : Fld Z h0 c0 "com/example/meter/meter/store/Spans" "droppedTotal" "J" (.long (0 : Int64))) (F_c0_end : Fld Z h0 c0 "com/example/meter/meter/store/Spans" "end" "I" (.int (0 : Int32))) (F_c0_firsts : Fld Z h0 c0 "com/example/meter/meter/store/Spans" "firsts" "[J" (.ref w_NONE)) (F_c0_head : Fld Z h0 c0 "com/example/meter/meter/store/Spans" "head" "I" (.int (0 : Int32))) (F_c0_lasts : Fld Z h0 c0 "com/example/meter/meter/store/Spans" "lasts" "[J" (.ref w_NONE)) (F_c0_totals : Fld Z h0 c0 "com/example/meter/meter/store/Spans" "totals" "[J" (.ref w_NONE)) (n_c0 : n0 ≤ c0) :
    MetFree l (⟨"com/example/meter/meter/store/Spans", "newestSecond", "()J"⟩ : MethodName) (head1 (Jvm.Cond.code (⟨"com/example/meter/meter/store/Spans", "newestSecond", "()J"⟩ : MethodName) prog_11_method_7_code 1 (some .long) :: ws) ({ frames := 0, cells := 0, slots := 0, locals := 0 } : Room)) (fun a U => a = #[(.ref c0)] ∧ Z.Warmed39 U.vm ∧ U.heap = h0) (fun _ _ _ _ _ => True) (fun _ U o U' => ∃ v L, o = .returned v ∧ own_Q (some (.long (-1 : Int64))) n0 h0 v U'.heap L ∧ FrameEnd U o U' L ({ frames := 0, cells := 0, slots := 0, locals := 0 } : Room).cells ({ frames := 0, cells := 0, slots := 0, locals := 0 } : Room).slots) := by
  refine MetFree.of_bodySF (plainFor_of_name pn_0) hisR ?_
  intro p e s m args below meth c s₁ Bd hml0 hP hK
  obtain ⟨rfl, hZ, hh⟩ := hP
  have hx := Bd.exec
  have hby := Bd.bytes
  have hml : c.maxLocals = 1 := hml0
  have hlk := BodyLoose.notSynchronized Bd
  have hret := Bd.returns
  have hown : s.vm.findClass "com/example/meter/meter/store/Spans" = some m.cls := findClass_of_methodNamed Bd.named
  have hnm := (name_of_methodNamed Bd.named Bd.method).1
  have X0 : Stand p l e ({ frames := 0, cells := 0, slots := 0, locals := 0 } : Room) s m #[(.ref c0)] below meth c s₁ [] 0 0 := Stand.of_body Bd
  have e0 : s₁.heap = h0 := by rw [← hh, Bd.state]; rfl
  have N0 := Fr.nil n0
  rw [ef_11 m c0]
  show Go p e below _ (s₁.setTop (mkF m 0 #[oA c0] []))
  refine own_aload_n 1 X0 hx hby d11_0 rfl rfl rfl ?_
  refine own_getF 4 X0 hx hby hZ hown (own_w hw 32 rfl) e0 F_c0_head d11_1 rfl ?_
  intro T46 X46 e46
  refine own_aload_n 5 X46 hx hby d11_4 rfl rfl rfl ?_
  refine own_getF 8 X46 hx hby hZ hown (own_w hw 26 rfl) e46 F_c0_end d11_5 rfl ?_
  intro T47 X47 e47
  refine own_icN 11 X47 hx hby d11_8 rfl (by decide) ?_
  refine own_ldc2 14 X47 hx hby hZ hown (own_w hw 79 rfl) d11_11 rfl ?_
  refine own_goto 28 X47 hx hby d11_14 (by decide) (by decide) ?_
  exact own_ret (Q := own_Q (some (.long (-1 : Int64))) n0 h0) X47 hx hby hret hlk d11_28 rfl (Or.inr (Or.inl ⟨rfl, rfl, _, rfl⟩)) (by decide) (by decide) ⟨rfl, N0, e47⟩
set_option maxRecDepth 65536 in
set_option maxHeartbeats 40000000 in
theorem rm12_7 (l : Launch) (Z : State) (a0 : Array Value) (hw : ∀ d ∈ tables_1, d.before a0 Z = true) (ws : List Jvm.Cond) (w_NONE k_NONE : Addr) (W : own_W Z w_NONE k_NONE) (c0 : Addr) (y0 : Int64) (h0 : Heap) (n0 : Nat) (O0 : Old Z n0 h0) (E_c0 : Exa Z h0 c0 "com/example/meter/meter/store/Spans") (F_c0_droppedTotal : Fld Z h0 c0 "com/example/meter/meter/store/Spans" "droppedTotal" "J" (.long (0 : Int64))) (F_c0_end : Fld Z h0 c0 "com/example/meter/meter/store/Spans" "end" "I" (.int (0 : Int32))) (F_c0_firsts : Fld Z h0 c0 "com/example/meter/meter/store/Spans" "firsts" "[J" (.ref w_NONE)) (F_c0_head : Fld Z h0 c0 "com/example/meter/meter/store/Spans" "head" "I" (.int (0 : Int32))) (F_c0_lasts : Fld Z h0 c0 "com/example/meter/meter/store/Spans" "lasts" "[J" (.ref w_NONE)) (F_c0_totals : Fld Z h0 c0 "com/example/meter/meter/store/Spans" "totals" "[J" (.ref w_NONE)) (n_c0 : n0 ≤ c0) :
    MetFree l (⟨"com/example/meter/meter/store/Spans", "endsAfter", "(J)Z"⟩ : MethodName) (head1 (Jvm.Cond.code (⟨"com/example/meter/meter/store/Spans", "endsAfter", "(J)Z"⟩ : MethodName) prog_11_method_8_code 3 (some .boolean) :: ws) ({ frames := 0, cells := 0, slots := 0, locals := 0 } : Room)) (fun a U => a = #[(.ref c0), (.long y0)] ∧ Z.Warmed39 U.vm ∧ U.heap = h0) (fun _ _ _ _ _ => True) (fun _ U o U' => ∃ v L, o = .returned v ∧ own_Q (some (.int (1 : Int32))) n0 h0 v U'.heap L ∧ FrameEnd U o U' L ({ frames := 0, cells := 0, slots := 0, locals := 0 } : Room).cells ({ frames := 0, cells := 0, slots := 0, locals := 0 } : Room).slots) := by
  refine MetFree.of_bodySF (plainFor_of_name pn_0) hisR ?_
  intro p e s m args below meth c s₁ Bd hml0 hP hK
  obtain ⟨rfl, hZ, hh⟩ := hP
  have hx := Bd.exec
  have hby := Bd.bytes
  have hml : c.maxLocals = 3 := hml0
  have hlk := BodyLoose.notSynchronized Bd
  have hret := Bd.returns
  have hown : s.vm.findClass "com/example/meter/meter/store/Spans" = some m.cls := findClass_of_methodNamed Bd.named
  have hnm := (name_of_methodNamed Bd.named Bd.method).1
  have X0 : Stand p l e ({ frames := 0, cells := 0, slots := 0, locals := 0 } : Room) s m #[(.ref c0), (.long y0)] below meth c s₁ [] 0 0 := Stand.of_body Bd
  have e0 : s₁.heap = h0 := by rw [← hh, Bd.state]; rfl
  have N0 := Fr.nil n0
  rw [ef_12 m c0 y0]
  show Go p e below _ (s₁.setTop (mkF m 0 #[oA c0, oJ y0, oS] []))
  refine own_aload_n 1 X0 hx hby d12_0 rfl rfl rfl ?_
  refine own_getF 4 X0 hx hby hZ hown (own_w hw 32 rfl) e0 F_c0_head d12_1 rfl ?_
  intro T49 X49 e49
  refine own_aload_n 5 X49 hx hby d12_4 rfl rfl rfl ?_
  refine own_getF 8 X49 hx hby hZ hown (own_w hw 26 rfl) e49 F_c0_end d12_5 rfl ?_
  intro T50 X50 e50
  refine own_icY 25 X50 hx hby d12_8 (by decide) (by decide) (by decide) ?_
  refine own_iconst 26 (1 : Int32) X50 hx hby d12_25 rfl (by decide) ?_
  refine own_goto 30 X50 hx hby d12_26 (by decide) (by decide) ?_
  exact own_ret (Q := own_Q (some (.int (1 : Int32))) n0 h0) X50 hx hby hret hlk d12_30 rfl (Or.inl ⟨rfl, by simp, _, rfl⟩) (by decide) (by decide) ⟨rfl, N0, e50⟩
set_option maxRecDepth 65536 in
set_option maxHeartbeats 40000000 in
theorem rm5_8 (l : Launch) (Z : State) (a0 : Array Value) (hw : ∀ d ∈ tables_1, d.before a0 Z = true) (ws : List Jvm.Cond) (w_NONE k_NONE : Addr) (W : own_W Z w_NONE k_NONE)  (h0 : Heap) (n0 : Nat) (O0 : Old Z n0 h0)  :
    MetFree l (⟨"java/lang/Math", "max", "(II)I"⟩ : MethodName) (head1 (Jvm.Cond.code (⟨"java/lang/Math", "max", "(II)I"⟩ : MethodName) jdk_29_method_65_code 2 (some .int) :: ws) ({ frames := 0, cells := 0, slots := 0, locals := 0 } : Room)) (fun a U => a = #[(.int (16 : Int32)), (.int (0 : Int32))] ∧ Z.Warmed39 U.vm ∧ U.heap = h0) (fun _ _ _ _ _ => True) (fun _ U o U' => ∃ v L, o = .returned v ∧ own_Q (some (.int (16 : Int32))) n0 h0 v U'.heap L ∧ FrameEnd U o U' L ({ frames := 0, cells := 0, slots := 0, locals := 0 } : Room).cells ({ frames := 0, cells := 0, slots := 0, locals := 0 } : Room).slots) := by
  refine MetFree.of_bodySF (Jvm.Free.JP.mathPlain rfl (by decide +kernel)) hisR ?_
  intro p e s m args below meth c s₁ Bd hml0 hP hK
  obtain ⟨rfl, hZ, hh⟩ := hP
  have hx := Bd.exec
  have hby := Bd.bytes
  have hml : c.maxLocals = 2 := hml0
  have hlk := BodyLoose.notSynchronized Bd
  have hret := Bd.returns
  have hown : s.vm.findClass "java/lang/Math" = some m.cls := findClass_of_methodNamed Bd.named
  have hnm := (name_of_methodNamed Bd.named Bd.method).1
  have X0 : Stand p l e ({ frames := 0, cells := 0, slots := 0, locals := 0 } : Room) s m #[(.int (16 : Int32)), (.int (0 : Int32))] below meth c s₁ [] 0 0 := Stand.of_body Bd
  have e0 : s₁.heap = h0 := by rw [← hh, Bd.state]; rfl
  have N0 := Fr.nil n0
  rw [ef_5 m (16 : Int32) (0 : Int32)]
  show Go p e below _ (s₁.setTop (mkF m 0 #[oI (16 : Int32), oI (0 : Int32)] []))
  refine own_iload_n 1 X0 hx hby d5_0 rfl rfl ?_
  refine own_iload_n 2 X0 hx hby d5_1 rfl rfl ?_
  refine own_icN 5 X0 hx hby d5_2 rfl (by decide) ?_
  refine own_iload_n 6 X0 hx hby d5_5 rfl rfl ?_
  refine own_goto 10 X0 hx hby d5_6 (by decide) (by decide) ?_
  exact own_ret (Q := own_Q (some (.int (16 : Int32))) n0 h0) X0 hx hby hret hlk d5_10 rfl (Or.inl ⟨rfl, by simp, _, rfl⟩) (by decide) (by decide) ⟨rfl, N0, e0⟩
def Q_rm6_9 (Z : State) (w_NONE k_NONE : Addr) (c0 : Addr) (h0 : Heap) (n0 : Nat) (v : Option Value) (h : Heap) (L : List Loc) : Prop := ∃ b61 : Addr, ∃ k61 : ClassId, v = (some (.ref b61)) ∧ Fr n0 L ∧ Keep h0 h [] ∧ n0 ≤ b61 ∧ h0.size ≤ b61 ∧ Exa Z h c0 "com/example/meter/meter/store/Spans" ∧ Fld Z h c0 "com/example/meter/meter/store/Spans" "droppedTotal" "J" (.long (0 : Int64)) ∧ Fld Z h c0 "com/example/meter/meter/store/Spans" "end" "I" (.int (0 : Int32)) ∧ Fld Z h c0 "com/example/meter/meter/store/Spans" "firsts" "[J" (.ref w_NONE) ∧ Fld Z h c0 "com/example/meter/meter/store/Spans" "head" "I" (.int (0 : Int32)) ∧ Fld Z h c0 "com/example/meter/meter/store/Spans" "lasts" "[J" (.ref w_NONE) ∧ Fld Z h c0 "com/example/meter/meter/store/Spans" "totals" "[J" (.ref w_NONE) ∧ Arv Z h b61 k61 .long (16 : Int32) [(.long (0 : Int64)), (.long (0 : Int64)), (.long (0 : Int64)), (.long (0 : Int64))] (.long (0 : Int64))
set_option maxRecDepth 65536 in
set_option maxHeartbeats 40000000 in
theorem rm6_9 (l : Launch) (Z : State) (a0 : Array Value) (hw : ∀ d ∈ tables_1, d.before a0 Z = true) (ws : List Jvm.Cond) (w_NONE k_NONE : Addr) (W : own_W Z w_NONE k_NONE) (c0 : Addr) (h0 : Heap) (n0 : Nat) (O0 : Old Z n0 h0) (E_c0 : Exa Z h0 c0 "com/example/meter/meter/store/Spans") (F_c0_droppedTotal : Fld Z h0 c0 "com/example/meter/meter/store/Spans" "droppedTotal" "J" (.long (0 : Int64))) (F_c0_end : Fld Z h0 c0 "com/example/meter/meter/store/Spans" "end" "I" (.int (0 : Int32))) (F_c0_firsts : Fld Z h0 c0 "com/example/meter/meter/store/Spans" "firsts" "[J" (.ref w_NONE)) (F_c0_head : Fld Z h0 c0 "com/example/meter/meter/store/Spans" "head" "I" (.int (0 : Int32))) (F_c0_lasts : Fld Z h0 c0 "com/example/meter/meter/store/Spans" "lasts" "[J" (.ref w_NONE)) (F_c0_totals : Fld Z h0 c0 "com/example/meter/meter/store/Spans" "totals" "[J" (.ref w_NONE)) (n_c0 : n0 ≤ c0) :
    MetFree l (⟨"com/example/meter/meter/store/Spans", "movedDown", "([JI)[J"⟩ : MethodName) (head1 (Jvm.Cond.code (⟨"com/example/meter/meter/store/Spans", "movedDown", "([JI)[J"⟩ : MethodName) prog_11_method_16_code 4 (some (.array .long)) :: ws) ({ frames := 1, cells := 1, slots := 16, locals := 36 } : Room)) (fun a U => a = #[(.ref c0), (.ref w_NONE), (.int (16 : Int32))] ∧ Z.Warmed39 U.vm ∧ U.heap = h0) (fun _ _ _ _ _ => True) (fun _ U o U' => ∃ v L, o = .returned v ∧ Q_rm6_9 Z w_NONE k_NONE c0 h0 n0 v U'.heap L ∧ FrameEnd U o U' L ({ frames := 1, cells := 1, slots := 16, locals := 36 } : Room).cells ({ frames := 1, cells := 1, slots := 16, locals := 36 } : Room).slots) := by
  refine MetFree.of_bodySF (plainFor_of_name pn_0) hisR ?_
  intro p e s m args below meth c s₁ Bd hml0 hP hK
  obtain ⟨rfl, hZ, hh⟩ := hP
  have hx := Bd.exec
  have hby := Bd.bytes
  have hml : c.maxLocals = 4 := hml0
  have hlk := BodyLoose.notSynchronized Bd
  have hret := Bd.returns
  have hown : s.vm.findClass "com/example/meter/meter/store/Spans" = some m.cls := findClass_of_methodNamed Bd.named
  have hnm := (name_of_methodNamed Bd.named Bd.method).1
  have X0 : Stand p l e ({ frames := 1, cells := 1, slots := 16, locals := 36 } : Room) s m #[(.ref c0), (.ref w_NONE), (.int (16 : Int32))] below meth c s₁ [] 0 0 := Stand.of_body Bd
  have e0 : s₁.heap = h0 := by rw [← hh, Bd.state]; rfl
  have N0 := Fr.nil n0
  rw [ef_6 m c0 w_NONE (16 : Int32)]
  show Go p e below _ (s₁.setTop (mkF m 0 #[oA c0, oA w_NONE, oI (16 : Int32), oU] []))
  refine own_iload_n 1 X0 hx hby d6_0 rfl rfl ?_
  refine own_aload_n 2 X0 hx hby d6_1 rfl rfl rfl ?_
  refine own_len 3 X0 hx hby hZ e0 (W.2.ext O0.2) d6_2 rfl ?_
  refine own_icY 10 X0 hx hby d6_3 (by decide) (by decide) (by decide) ?_
  refine own_iload_n 11 X0 hx hby d6_10 rfl rfl ?_
  refine own_newP 13 16 X0 hx hby hZ (own_w hw 42 rfl) e0 d6_11 rfl (by decide) (by decide) (by decide) (by decide) (by decide) ?_
  intro T61 h61 k61 b61 X61 e61 E61 g61 V61
  have ne_c0_b61 : c0 ≠ b61 := Nat.ne_of_lt (Nat.lt_of_lt_of_le E_c0.lt (Nat.le_of_eq g61.symm))
  have n_b61 : n0 ≤ b61 := Nat.le_trans (own_n0 O0) (Nat.le_of_eq g61.symm)
  have sz_b61 : h0.size ≤ b61 := Nat.le_trans (Keep.refl h0 []).1 (Nat.le_of_eq g61.symm)
  have E_c0_61 := E_c0.ext E61
  have F_c0_droppedTotal_61 := F_c0_droppedTotal.ext E61
  have F_c0_end_61 := F_c0_end.ext E61
  have F_c0_firsts_61 := F_c0_firsts.ext E61
  have F_c0_head_61 := F_c0_head.ext E61
  have F_c0_lasts_61 := F_c0_lasts.ext E61
  have F_c0_totals_61 := F_c0_totals.ext E61
  have K61 : Keep h0 h61 [] := (Keep.refl h0 []).ext E61
  have O61 := O0.ext E61
  have V61 : Arv Z h61 b61 k61 .long (16 : Int32) [(.long (0 : Int64)), (.long (0 : Int64)), (.long (0 : Int64)), (.long (0 : Int64))] (.long (0 : Int64)) := own_shrink 4 V61
  show Go p e below _ (T61.setTop (mkF m 13 _ [(.ref b61)]))
  refine own_astore_n 14 #[oA c0, oA w_NONE, oI (16 : Int32), oA b61] X61 hx hby d6_13 rfl rfl rfl ?_
  refine own_aload_n 15 X61 hx hby d6_14 rfl rfl rfl ?_
  refine own_aload_n 16 X61 hx hby d6_15 rfl rfl rfl ?_
  refine own_getF 19 X61 hx hby hZ hown (own_w hw 32 rfl) e61 F_c0_head_61 d6_16 rfl ?_
  intro T62 X62 e62
  refine own_aload_n 20 X62 hx hby d6_19 rfl rfl rfl ?_
  refine own_iconst 21 (0 : Int32) X62 hx hby d6_20 rfl (by decide) ?_
  refine own_aload_n 22 X62 hx hby d6_21 rfl rfl rfl ?_
  refine own_getF 25 X62 hx hby hZ hown (own_w hw 26 rfl) e62 F_c0_end_61 d6_22 rfl ?_
  intro T63 X63 e63
  refine own_aload_n 26 X63 hx hby d6_25 rfl rfl rfl ?_
  refine own_getF 29 X63 hx hby hZ hown (own_w hw 32 rfl) e63 F_c0_head_61 d6_26 rfl ?_
  intro T64 X64 e64
  refine own_isub 30 (0 : Int32) X64 hx hby d6_29 rfl (by decide) ?_
  refine own_cp0 33 0 X64 hx hby hZ hown (own_w hw 43 rfl) (own_w hw 46 rfl) (own_w hw 44 rfl) (own_w hw 45 rfl) e64 (W.2.ext O61.2) V61 N0 n_b61 (by rw [hml]; rfl) d6_30 rfl rfl (by decide) (by decide) ?_
  intro T65 h65 L65 X65 e65 N65 Kc65 V65
  have E_c0_65 := E_c0_61.keep Kc65
  have F_c0_droppedTotal_65 := F_c0_droppedTotal_61.keep Kc65 (ninS ne_c0_b61 nin0)
  have F_c0_end_65 := F_c0_end_61.keep Kc65 (ninS ne_c0_b61 nin0)
  have F_c0_firsts_65 := F_c0_firsts_61.keep Kc65 (ninS ne_c0_b61 nin0)
  have F_c0_head_65 := F_c0_head_61.keep Kc65 (ninS ne_c0_b61 nin0)
  have F_c0_lasts_65 := F_c0_lasts_61.keep Kc65 (ninS ne_c0_b61 nin0)
  have F_c0_totals_65 := F_c0_totals_61.keep Kc65 (ninS ne_c0_b61 nin0)
  have K65 : Keep h0 h65 [] := K61.trans Kc65 (allS (Or.inr sz_b61) all0)
  have O65 := O61.keep Kc65 (allS n_b61 all0)
  refine own_aload_n 34 X65 hx hby d6_33 rfl rfl rfl ?_
  exact own_ret (Q := Q_rm6_9 Z w_NONE k_NONE c0 h0 n0) X65 hx hby hret hlk d6_34 rfl (Or.inr (Or.inr (Or.inr (Or.inr ⟨rfl, rfl, rfl⟩)))) (by decide) (by decide) (by rw [e65]; exact ⟨b61, k61, rfl, N65, K65, n_b61, sz_b61, E_c0_65, F_c0_droppedTotal_65, F_c0_end_65, F_c0_firsts_65, F_c0_head_65, F_c0_lasts_65, F_c0_totals_65, V65⟩)
def Q_rm6_10 (Z : State) (w_NONE k_NONE : Addr) (c0 : Addr) (c1 : Addr) (k_c1 : ClassId) (h0 : Heap) (n0 : Nat) (v : Option Value) (h : Heap) (L : List Loc) : Prop := ∃ b69 : Addr, ∃ k69 : ClassId, v = (some (.ref b69)) ∧ Fr n0 L ∧ Keep h0 h [] ∧ n0 ≤ b69 ∧ h0.size ≤ b69 ∧ Exa Z h c0 "com/example/meter/meter/store/Spans" ∧ Fld Z h c0 "com/example/meter/meter/store/Spans" "droppedTotal" "J" (.long (0 : Int64)) ∧ Fld Z h c0 "com/example/meter/meter/store/Spans" "end" "I" (.int (0 : Int32)) ∧ Fld Z h c0 "com/example/meter/meter/store/Spans" "firsts" "[J" (.ref c1) ∧ Fld Z h c0 "com/example/meter/meter/store/Spans" "head" "I" (.int (0 : Int32)) ∧ Fld Z h c0 "com/example/meter/meter/store/Spans" "lasts" "[J" (.ref w_NONE) ∧ Fld Z h c0 "com/example/meter/meter/store/Spans" "totals" "[J" (.ref w_NONE) ∧ Arv Z h c1 k_c1 .long (16 : Int32) [(.long (0 : Int64)), (.long (0 : Int64)), (.long (0 : Int64)), (.long (0 : Int64))] (.long (0 : Int64)) ∧ Arv Z h b69 k69 .long (16 : Int32) [(.long (0 : Int64)), (.long (0 : Int64)), (.long (0 : Int64)), (.long (0 : Int64))] (.long (0 : Int64))
set_option maxRecDepth 65536 in
set_option maxHeartbeats 40000000 in
theorem rm6_10 (l : Launch) (Z : State) (a0 : Array Value) (hw : ∀ d ∈ tables_1, d.before a0 Z = true) (ws : List Jvm.Cond) (w_NONE k_NONE : Addr) (W : own_W Z w_NONE k_NONE) (c0 : Addr) (c1 : Addr) (k_c1 : ClassId) (h0 : Heap) (n0 : Nat) (O0 : Old Z n0 h0) (E_c0 : Exa Z h0 c0 "com/example/meter/meter/store/Spans") (F_c0_droppedTotal : Fld Z h0 c0 "com/example/meter/meter/store/Spans" "droppedTotal" "J" (.long (0 : Int64))) (F_c0_end : Fld Z h0 c0 "com/example/meter/meter/store/Spans" "end" "I" (.int (0 : Int32))) (F_c0_firsts : Fld Z h0 c0 "com/example/meter/meter/store/Spans" "firsts" "[J" (.ref c1)) (F_c0_head : Fld Z h0 c0 "com/example/meter/meter/store/Spans" "head" "I" (.int (0 : Int32))) (F_c0_lasts : Fld Z h0 c0 "com/example/meter/meter/store/Spans" "lasts" "[J" (.ref w_NONE)) (F_c0_totals : Fld Z h0 c0 "com/example/meter/meter/store/Spans" "totals" "[J" (.ref w_NONE)) (n_c0 : n0 ≤ c0) (V_c1 : Arv Z h0 c1 k_c1 .long (16 : Int32) [(.long (0 : Int64)), (.long (0 : Int64)), (.long (0 : Int64)), (.long (0 : Int64))] (.long (0 : Int64))) (n_c1 : n0 ≤ c1) (ne_c0_c1 : c0 ≠ c1) :
    MetFree l (⟨"com/example/meter/meter/store/Spans", "movedDown", "([JI)[J"⟩ : MethodName) (head1 (Jvm.Cond.code (⟨"com/example/meter/meter/store/Spans", "movedDown", "([JI)[J"⟩ : MethodName) prog_11_method_16_code 4 (some (.array .long)) :: ws) ({ frames := 1, cells := 1, slots := 16, locals := 36 } : Room)) (fun a U => a = #[(.ref c0), (.ref w_NONE), (.int (16 : Int32))] ∧ Z.Warmed39 U.vm ∧ U.heap = h0) (fun _ _ _ _ _ => True) (fun _ U o U' => ∃ v L, o = .returned v ∧ Q_rm6_10 Z w_NONE k_NONE c0 c1 k_c1 h0 n0 v U'.heap L ∧ FrameEnd U o U' L ({ frames := 1, cells := 1, slots := 16, locals := 36 } : Room).cells ({ frames := 1, cells := 1, slots := 16, locals := 36 } : Room).slots) := by
  refine MetFree.of_bodySF (plainFor_of_name pn_0) hisR ?_
  intro p e s m args below meth c s₁ Bd hml0 hP hK
  obtain ⟨rfl, hZ, hh⟩ := hP
  have hx := Bd.exec
  have hby := Bd.bytes
  have hml : c.maxLocals = 4 := hml0
  have hlk := BodyLoose.notSynchronized Bd
  have hret := Bd.returns
  have hown : s.vm.findClass "com/example/meter/meter/store/Spans" = some m.cls := findClass_of_methodNamed Bd.named
  have hnm := (name_of_methodNamed Bd.named Bd.method).1
  have X0 : Stand p l e ({ frames := 1, cells := 1, slots := 16, locals := 36 } : Room) s m #[(.ref c0), (.ref w_NONE), (.int (16 : Int32))] below meth c s₁ [] 0 0 := Stand.of_body Bd
  have e0 : s₁.heap = h0 := by rw [← hh, Bd.state]; rfl
  have N0 := Fr.nil n0
  rw [ef_6 m c0 w_NONE (16 : Int32)]
  show Go p e below _ (s₁.setTop (mkF m 0 #[oA c0, oA w_NONE, oI (16 : Int32), oU] []))
  refine own_iload_n 1 X0 hx hby d6_0 rfl rfl ?_
  refine own_aload_n 2 X0 hx hby d6_1 rfl rfl rfl ?_
  refine own_len 3 X0 hx hby hZ e0 (W.2.ext O0.2) d6_2 rfl ?_
  refine own_icY 10 X0 hx hby d6_3 (by decide) (by decide) (by decide) ?_
  refine own_iload_n 11 X0 hx hby d6_10 rfl rfl ?_
  refine own_newP 13 16 X0 hx hby hZ (own_w hw 42 rfl) e0 d6_11 rfl (by decide) (by decide) (by decide) (by decide) (by decide) ?_
  intro T69 h69 k69 b69 X69 e69 E69 g69 V69
  have ne_c0_b69 : c0 ≠ b69 := Nat.ne_of_lt (Nat.lt_of_lt_of_le E_c0.lt (Nat.le_of_eq g69.symm))
  have ne_c1_b69 : c1 ≠ b69 := Nat.ne_of_lt (Nat.lt_of_lt_of_le V_c1.lt (Nat.le_of_eq g69.symm))
  have n_b69 : n0 ≤ b69 := Nat.le_trans (own_n0 O0) (Nat.le_of_eq g69.symm)
  have sz_b69 : h0.size ≤ b69 := Nat.le_trans (Keep.refl h0 []).1 (Nat.le_of_eq g69.symm)
  have E_c0_69 := E_c0.ext E69
  have F_c0_droppedTotal_69 := F_c0_droppedTotal.ext E69
  have F_c0_end_69 := F_c0_end.ext E69
  have F_c0_firsts_69 := F_c0_firsts.ext E69
  have F_c0_head_69 := F_c0_head.ext E69
  have F_c0_lasts_69 := F_c0_lasts.ext E69
  have F_c0_totals_69 := F_c0_totals.ext E69
  have V_c1_69 := V_c1.ext E69
  have K69 : Keep h0 h69 [] := (Keep.refl h0 []).ext E69
  have O69 := O0.ext E69
  have V69 : Arv Z h69 b69 k69 .long (16 : Int32) [(.long (0 : Int64)), (.long (0 : Int64)), (.long (0 : Int64)), (.long (0 : Int64))] (.long (0 : Int64)) := own_shrink 4 V69
  show Go p e below _ (T69.setTop (mkF m 13 _ [(.ref b69)]))
  refine own_astore_n 14 #[oA c0, oA w_NONE, oI (16 : Int32), oA b69] X69 hx hby d6_13 rfl rfl rfl ?_
  refine own_aload_n 15 X69 hx hby d6_14 rfl rfl rfl ?_
  refine own_aload_n 16 X69 hx hby d6_15 rfl rfl rfl ?_
  refine own_getF 19 X69 hx hby hZ hown (own_w hw 32 rfl) e69 F_c0_head_69 d6_16 rfl ?_
  intro T70 X70 e70
  refine own_aload_n 20 X70 hx hby d6_19 rfl rfl rfl ?_
  refine own_iconst 21 (0 : Int32) X70 hx hby d6_20 rfl (by decide) ?_
  refine own_aload_n 22 X70 hx hby d6_21 rfl rfl rfl ?_
  refine own_getF 25 X70 hx hby hZ hown (own_w hw 26 rfl) e70 F_c0_end_69 d6_22 rfl ?_
  intro T71 X71 e71
  refine own_aload_n 26 X71 hx hby d6_25 rfl rfl rfl ?_
  refine own_getF 29 X71 hx hby hZ hown (own_w hw 32 rfl) e71 F_c0_head_69 d6_26 rfl ?_
  intro T72 X72 e72
  refine own_isub 30 (0 : Int32) X72 hx hby d6_29 rfl (by decide) ?_
  refine own_cp0 33 0 X72 hx hby hZ hown (own_w hw 43 rfl) (own_w hw 46 rfl) (own_w hw 44 rfl) (own_w hw 45 rfl) e72 (W.2.ext O69.2) V69 N0 n_b69 (by rw [hml]; rfl) d6_30 rfl rfl (by decide) (by decide) ?_
  intro T73 h73 L73 X73 e73 N73 Kc73 V73
  have E_c0_73 := E_c0_69.keep Kc73
  have F_c0_droppedTotal_73 := F_c0_droppedTotal_69.keep Kc73 (ninS ne_c0_b69 nin0)
  have F_c0_end_73 := F_c0_end_69.keep Kc73 (ninS ne_c0_b69 nin0)
  have F_c0_firsts_73 := F_c0_firsts_69.keep Kc73 (ninS ne_c0_b69 nin0)
  have F_c0_head_73 := F_c0_head_69.keep Kc73 (ninS ne_c0_b69 nin0)
  have F_c0_lasts_73 := F_c0_lasts_69.keep Kc73 (ninS ne_c0_b69 nin0)
  have F_c0_totals_73 := F_c0_totals_69.keep Kc73 (ninS ne_c0_b69 nin0)
  have V_c1_73 := V_c1_69.keep Kc73 (ninS ne_c1_b69 nin0)
  have K73 : Keep h0 h73 [] := K69.trans Kc73 (allS (Or.inr sz_b69) all0)
  have O73 := O69.keep Kc73 (allS n_b69 all0)
  refine own_aload_n 34 X73 hx hby d6_33 rfl rfl rfl ?_
  exact own_ret (Q := Q_rm6_10 Z w_NONE k_NONE c0 c1 k_c1 h0 n0) X73 hx hby hret hlk d6_34 rfl (Or.inr (Or.inr (Or.inr (Or.inr ⟨rfl, rfl, rfl⟩)))) (by decide) (by decide) (by rw [e73]; exact ⟨b69, k69, rfl, N73, K73, n_b69, sz_b69, E_c0_73, F_c0_droppedTotal_73, F_c0_end_73, F_c0_firsts_73, F_c0_head_73, F_c0_lasts_73, F_c0_totals_73, V_c1_73, V73⟩)
def Q_rm6_11 (Z : State) (w_NONE k_NONE : Addr) (c0 : Addr) (c1 : Addr) (k_c1 : ClassId) (c2 : Addr) (k_c2 : ClassId) (h0 : Heap) (n0 : Nat) (v : Option Value) (h : Heap) (L : List Loc) : Prop := ∃ b77 : Addr, ∃ k77 : ClassId, v = (some (.ref b77)) ∧ Fr n0 L ∧ Keep h0 h [] ∧ n0 ≤ b77 ∧ h0.size ≤ b77 ∧ Exa Z h c0 "com/example/meter/meter/store/Spans" ∧ Fld Z h c0 "com/example/meter/meter/store/Spans" "droppedTotal" "J" (.long (0 : Int64)) ∧ Fld Z h c0 "com/example/meter/meter/store/Spans" "end" "I" (.int (0 : Int32)) ∧ Fld Z h c0 "com/example/meter/meter/store/Spans" "firsts" "[J" (.ref c1) ∧ Fld Z h c0 "com/example/meter/meter/store/Spans" "head" "I" (.int (0 : Int32)) ∧ Fld Z h c0 "com/example/meter/meter/store/Spans" "lasts" "[J" (.ref c2) ∧ Fld Z h c0 "com/example/meter/meter/store/Spans" "totals" "[J" (.ref w_NONE) ∧ Arv Z h c1 k_c1 .long (16 : Int32) [(.long (0 : Int64)), (.long (0 : Int64)), (.long (0 : Int64)), (.long (0 : Int64))] (.long (0 : Int64)) ∧ Arv Z h c2 k_c2 .long (16 : Int32) [(.long (0 : Int64)), (.long (0 : Int64)), (.long (0 : Int64)), (.long (0 : Int64))] (.long (0 : Int64)) ∧ Arv Z h b77 k77 .long (16 : Int32) [(.long (0 : Int64)), (.long (0 : Int64)), (.long (0 : Int64)), (.long (0 : Int64))] (.long (0 : Int64))
set_option maxRecDepth 65536 in
set_option maxHeartbeats 40000000 in
theorem rm6_11 (l : Launch) (Z : State) (a0 : Array Value) (hw : ∀ d ∈ tables_1, d.before a0 Z = true) (ws : List Jvm.Cond) (w_NONE k_NONE : Addr) (W : own_W Z w_NONE k_NONE) (c0 : Addr) (c1 : Addr) (k_c1 : ClassId) (c2 : Addr) (k_c2 : ClassId) (h0 : Heap) (n0 : Nat) (O0 : Old Z n0 h0) (E_c0 : Exa Z h0 c0 "com/example/meter/meter/store/Spans") (F_c0_droppedTotal : Fld Z h0 c0 "com/example/meter/meter/store/Spans" "droppedTotal" "J" (.long (0 : Int64))) (F_c0_end : Fld Z h0 c0 "com/example/meter/meter/store/Spans" "end" "I" (.int (0 : Int32))) (F_c0_firsts : Fld Z h0 c0 "com/example/meter/meter/store/Spans" "firsts" "[J" (.ref c1)) (F_c0_head : Fld Z h0 c0 "com/example/meter/meter/store/Spans" "head" "I" (.int (0 : Int32))) (F_c0_lasts : Fld Z h0 c0 "com/example/meter/meter/store/Spans" "lasts" "[J" (.ref c2)) (F_c0_totals : Fld Z h0 c0 "com/example/meter/meter/store/Spans" "totals" "[J" (.ref w_NONE)) (n_c0 : n0 ≤ c0) (V_c1 : Arv Z h0 c1 k_c1 .long (16 : Int32) [(.long (0 : Int64)), (.long (0 : Int64)), (.long (0 : Int64)), (.long (0 : Int64))] (.long (0 : Int64))) (n_c1 : n0 ≤ c1) (V_c2 : Arv Z h0 c2 k_c2 .long (16 : Int32) [(.long (0 : Int64)), (.long (0 : Int64)), (.long (0 : Int64)), (.long (0 : Int64))] (.long (0 : Int64))) (n_c2 : n0 ≤ c2) (ne_c0_c1 : c0 ≠ c1) (ne_c0_c2 : c0 ≠ c2) (ne_c1_c2 : c1 ≠ c2) :
    MetFree l (⟨"com/example/meter/meter/store/Spans", "movedDown", "([JI)[J"⟩ : MethodName) (head1 (Jvm.Cond.code (⟨"com/example/meter/meter/store/Spans", "movedDown", "([JI)[J"⟩ : MethodName) prog_11_method_16_code 4 (some (.array .long)) :: ws) ({ frames := 1, cells := 1, slots := 16, locals := 36 } : Room)) (fun a U => a = #[(.ref c0), (.ref w_NONE), (.int (16 : Int32))] ∧ Z.Warmed39 U.vm ∧ U.heap = h0) (fun _ _ _ _ _ => True) (fun _ U o U' => ∃ v L, o = .returned v ∧ Q_rm6_11 Z w_NONE k_NONE c0 c1 k_c1 c2 k_c2 h0 n0 v U'.heap L ∧ FrameEnd U o U' L ({ frames := 1, cells := 1, slots := 16, locals := 36 } : Room).cells ({ frames := 1, cells := 1, slots := 16, locals := 36 } : Room).slots) := by
  refine MetFree.of_bodySF (plainFor_of_name pn_0) hisR ?_
  intro p e s m args below meth c s₁ Bd hml0 hP hK
  obtain ⟨rfl, hZ, hh⟩ := hP
  have hx := Bd.exec
  have hby := Bd.bytes
  have hml : c.maxLocals = 4 := hml0
  have hlk := BodyLoose.notSynchronized Bd
  have hret := Bd.returns
  have hown : s.vm.findClass "com/example/meter/meter/store/Spans" = some m.cls := findClass_of_methodNamed Bd.named
  have hnm := (name_of_methodNamed Bd.named Bd.method).1
  have X0 : Stand p l e ({ frames := 1, cells := 1, slots := 16, locals := 36 } : Room) s m #[(.ref c0), (.ref w_NONE), (.int (16 : Int32))] below meth c s₁ [] 0 0 := Stand.of_body Bd
  have e0 : s₁.heap = h0 := by rw [← hh, Bd.state]; rfl
  have N0 := Fr.nil n0
  rw [ef_6 m c0 w_NONE (16 : Int32)]
  show Go p e below _ (s₁.setTop (mkF m 0 #[oA c0, oA w_NONE, oI (16 : Int32), oU] []))
  refine own_iload_n 1 X0 hx hby d6_0 rfl rfl ?_
  refine own_aload_n 2 X0 hx hby d6_1 rfl rfl rfl ?_
  refine own_len 3 X0 hx hby hZ e0 (W.2.ext O0.2) d6_2 rfl ?_
  refine own_icY 10 X0 hx hby d6_3 (by decide) (by decide) (by decide) ?_
  refine own_iload_n 11 X0 hx hby d6_10 rfl rfl ?_
  refine own_newP 13 16 X0 hx hby hZ (own_w hw 42 rfl) e0 d6_11 rfl (by decide) (by decide) (by decide) (by decide) (by decide) ?_
  intro T77 h77 k77 b77 X77 e77 E77 g77 V77
  have ne_c0_b77 : c0 ≠ b77 := Nat.ne_of_lt (Nat.lt_of_lt_of_le E_c0.lt (Nat.le_of_eq g77.symm))
  have ne_c1_b77 : c1 ≠ b77 := Nat.ne_of_lt (Nat.lt_of_lt_of_le V_c1.lt (Nat.le_of_eq g77.symm))
  have ne_c2_b77 : c2 ≠ b77 := Nat.ne_of_lt (Nat.lt_of_lt_of_le V_c2.lt (Nat.le_of_eq g77.symm))
  have n_b77 : n0 ≤ b77 := Nat.le_trans (own_n0 O0) (Nat.le_of_eq g77.symm)
  have sz_b77 : h0.size ≤ b77 := Nat.le_trans (Keep.refl h0 []).1 (Nat.le_of_eq g77.symm)
  have E_c0_77 := E_c0.ext E77
  have F_c0_droppedTotal_77 := F_c0_droppedTotal.ext E77
  have F_c0_end_77 := F_c0_end.ext E77
  have F_c0_firsts_77 := F_c0_firsts.ext E77
  have F_c0_head_77 := F_c0_head.ext E77
  have F_c0_lasts_77 := F_c0_lasts.ext E77
  have F_c0_totals_77 := F_c0_totals.ext E77
  have V_c1_77 := V_c1.ext E77
  have V_c2_77 := V_c2.ext E77
  have K77 : Keep h0 h77 [] := (Keep.refl h0 []).ext E77
  have O77 := O0.ext E77
  have V77 : Arv Z h77 b77 k77 .long (16 : Int32) [(.long (0 : Int64)), (.long (0 : Int64)), (.long (0 : Int64)), (.long (0 : Int64))] (.long (0 : Int64)) := own_shrink 4 V77
  show Go p e below _ (T77.setTop (mkF m 13 _ [(.ref b77)]))
  refine own_astore_n 14 #[oA c0, oA w_NONE, oI (16 : Int32), oA b77] X77 hx hby d6_13 rfl rfl rfl ?_
  refine own_aload_n 15 X77 hx hby d6_14 rfl rfl rfl ?_
  refine own_aload_n 16 X77 hx hby d6_15 rfl rfl rfl ?_
  refine own_getF 19 X77 hx hby hZ hown (own_w hw 32 rfl) e77 F_c0_head_77 d6_16 rfl ?_
  intro T78 X78 e78
  refine own_aload_n 20 X78 hx hby d6_19 rfl rfl rfl ?_
  refine own_iconst 21 (0 : Int32) X78 hx hby d6_20 rfl (by decide) ?_
  refine own_aload_n 22 X78 hx hby d6_21 rfl rfl rfl ?_
  refine own_getF 25 X78 hx hby hZ hown (own_w hw 26 rfl) e78 F_c0_end_77 d6_22 rfl ?_
  intro T79 X79 e79
  refine own_aload_n 26 X79 hx hby d6_25 rfl rfl rfl ?_
  refine own_getF 29 X79 hx hby hZ hown (own_w hw 32 rfl) e79 F_c0_head_77 d6_26 rfl ?_
  intro T80 X80 e80
  refine own_isub 30 (0 : Int32) X80 hx hby d6_29 rfl (by decide) ?_
  refine own_cp0 33 0 X80 hx hby hZ hown (own_w hw 43 rfl) (own_w hw 46 rfl) (own_w hw 44 rfl) (own_w hw 45 rfl) e80 (W.2.ext O77.2) V77 N0 n_b77 (by rw [hml]; rfl) d6_30 rfl rfl (by decide) (by decide) ?_
  intro T81 h81 L81 X81 e81 N81 Kc81 V81
  have E_c0_81 := E_c0_77.keep Kc81
  have F_c0_droppedTotal_81 := F_c0_droppedTotal_77.keep Kc81 (ninS ne_c0_b77 nin0)
  have F_c0_end_81 := F_c0_end_77.keep Kc81 (ninS ne_c0_b77 nin0)
  have F_c0_firsts_81 := F_c0_firsts_77.keep Kc81 (ninS ne_c0_b77 nin0)
  have F_c0_head_81 := F_c0_head_77.keep Kc81 (ninS ne_c0_b77 nin0)
  have F_c0_lasts_81 := F_c0_lasts_77.keep Kc81 (ninS ne_c0_b77 nin0)
  have F_c0_totals_81 := F_c0_totals_77.keep Kc81 (ninS ne_c0_b77 nin0)
  have V_c1_81 := V_c1_77.keep Kc81 (ninS ne_c1_b77 nin0)
  have V_c2_81 := V_c2_77.keep Kc81 (ninS ne_c2_b77 nin0)
  have K81 : Keep h0 h81 [] := K77.trans Kc81 (allS (Or.inr sz_b77) all0)
  have O81 := O77.keep Kc81 (allS n_b77 all0)
  refine own_aload_n 34 X81 hx hby d6_33 rfl rfl rfl ?_
  exact own_ret (Q := Q_rm6_11 Z w_NONE k_NONE c0 c1 k_c1 c2 k_c2 h0 n0) X81 hx hby hret hlk d6_34 rfl (Or.inr (Or.inr (Or.inr (Or.inr ⟨rfl, rfl, rfl⟩)))) (by decide) (by decide) (by rw [e81]; exact ⟨b77, k77, rfl, N81, K81, n_b77, sz_b77, E_c0_81, F_c0_droppedTotal_81, F_c0_end_81, F_c0_firsts_81, F_c0_head_81, F_c0_lasts_81, F_c0_totals_81, V_c1_81, V_c2_81, V81⟩)
def Q_rm4_12 (Z : State) (w_NONE k_NONE : Addr) (c0 : Addr) (h0 : Heap) (n0 : Nat) (v : Option Value) (h : Heap) (L : List Loc) : Prop := ∃ b66_0 : Addr, ∃ b74_0 : Addr, ∃ b82_0 : Addr, ∃ k66_0 : ClassId, ∃ k74_0 : ClassId, ∃ k82_0 : ClassId, v = none ∧ Fr n0 L ∧ Keep h0 h [c0] ∧ n0 ≤ b66_0 ∧ h0.size ≤ b66_0 ∧ n0 ≤ b74_0 ∧ h0.size ≤ b74_0 ∧ n0 ≤ b82_0 ∧ h0.size ≤ b82_0 ∧ b66_0 ≠ b74_0 ∧ b66_0 ≠ b82_0 ∧ b74_0 ≠ b82_0 ∧ Exa Z h c0 "com/example/meter/meter/store/Spans" ∧ Fld Z h c0 "com/example/meter/meter/store/Spans" "droppedTotal" "J" (.long (0 : Int64)) ∧ Fld Z h c0 "com/example/meter/meter/store/Spans" "end" "I" (.int (0 : Int32)) ∧ Fld Z h c0 "com/example/meter/meter/store/Spans" "firsts" "[J" (.ref b66_0) ∧ Fld Z h c0 "com/example/meter/meter/store/Spans" "head" "I" (.int (0 : Int32)) ∧ Fld Z h c0 "com/example/meter/meter/store/Spans" "lasts" "[J" (.ref b74_0) ∧ Fld Z h c0 "com/example/meter/meter/store/Spans" "totals" "[J" (.ref b82_0) ∧ Arv Z h b66_0 k66_0 .long (16 : Int32) [(.long (0 : Int64)), (.long (0 : Int64)), (.long (0 : Int64)), (.long (0 : Int64))] (.long (0 : Int64)) ∧ Arv Z h b74_0 k74_0 .long (16 : Int32) [(.long (0 : Int64)), (.long (0 : Int64)), (.long (0 : Int64)), (.long (0 : Int64))] (.long (0 : Int64)) ∧ Arv Z h b82_0 k82_0 .long (16 : Int32) [(.long (0 : Int64)), (.long (0 : Int64)), (.long (0 : Int64)), (.long (0 : Int64))] (.long (0 : Int64))
set_option maxRecDepth 65536 in
set_option maxHeartbeats 40000000 in
theorem rm4_12 (l : Launch) (Z : State) (a0 : Array Value) (hw : ∀ d ∈ tables_1, d.before a0 Z = true) (ws : List Jvm.Cond) (w_NONE k_NONE : Addr) (W : own_W Z w_NONE k_NONE) (c0 : Addr) (h0 : Heap) (n0 : Nat) (O0 : Old Z n0 h0) (E_c0 : Exa Z h0 c0 "com/example/meter/meter/store/Spans") (F_c0_droppedTotal : Fld Z h0 c0 "com/example/meter/meter/store/Spans" "droppedTotal" "J" (.long (0 : Int64))) (F_c0_end : Fld Z h0 c0 "com/example/meter/meter/store/Spans" "end" "I" (.int (0 : Int32))) (F_c0_firsts : Fld Z h0 c0 "com/example/meter/meter/store/Spans" "firsts" "[J" (.ref w_NONE)) (F_c0_head : Fld Z h0 c0 "com/example/meter/meter/store/Spans" "head" "I" (.int (0 : Int32))) (F_c0_lasts : Fld Z h0 c0 "com/example/meter/meter/store/Spans" "lasts" "[J" (.ref w_NONE)) (F_c0_totals : Fld Z h0 c0 "com/example/meter/meter/store/Spans" "totals" "[J" (.ref w_NONE)) (n_c0 : n0 ≤ c0) :
    MetFree l (⟨"com/example/meter/meter/store/Spans", "makeRoom", "()V"⟩ : MethodName) (head1 (Jvm.Cond.code (⟨"com/example/meter/meter/store/Spans", "makeRoom", "()V"⟩ : MethodName) prog_11_method_15_code 4 none :: ws) ({ frames := 2, cells := 3, slots := 48, locals := 52 } : Room)) (fun a U => a = #[(.ref c0)] ∧ Z.Warmed39 U.vm ∧ U.heap = h0) (fun _ _ _ _ _ => True) (fun _ U o U' => ∃ v L, o = .returned v ∧ Q_rm4_12 Z w_NONE k_NONE c0 h0 n0 v U'.heap L ∧ FrameEnd U o U' L ({ frames := 2, cells := 3, slots := 48, locals := 52 } : Room).cells ({ frames := 2, cells := 3, slots := 48, locals := 52 } : Room).slots) := by
  refine MetFree.of_bodySF (plainFor_of_name pn_0) hisR ?_
  intro p e s m args below meth c s₁ Bd hml0 hP hK
  obtain ⟨rfl, hZ, hh⟩ := hP
  have hx := Bd.exec
  have hby := Bd.bytes
  have hml : c.maxLocals = 4 := hml0
  have hlk := BodyLoose.notSynchronized Bd
  have hret := Bd.returns
  have hown : s.vm.findClass "com/example/meter/meter/store/Spans" = some m.cls := findClass_of_methodNamed Bd.named
  have hnm := (name_of_methodNamed Bd.named Bd.method).1
  have X0 : Stand p l e ({ frames := 2, cells := 3, slots := 48, locals := 52 } : Room) s m #[(.ref c0)] below meth c s₁ [] 0 0 := Stand.of_body Bd
  have e0 : s₁.heap = h0 := by rw [← hh, Bd.state]; rfl
  have N0 := Fr.nil n0
  rw [ef_4 m c0]
  show Go p e below _ (s₁.setTop (mkF m 0 #[oA c0, oU, oU, oU] []))
  refine own_aload_n 1 X0 hx hby d4_0 rfl rfl rfl ?_
  refine own_getF 4 X0 hx hby hZ hown (own_w hw 26 rfl) e0 F_c0_end d4_1 rfl ?_
  intro T54 X54 e54
  refine own_aload_n 5 X54 hx hby d4_4 rfl rfl rfl ?_
  refine own_getF 8 X54 hx hby hZ hown (own_w hw 32 rfl) e54 F_c0_head d4_5 rfl ?_
  intro T55 X55 e55
  refine own_isub 9 (0 : Int32) X55 hx hby d4_8 rfl (by decide) ?_
  refine own_istore_n 10 #[oA c0, oI (0 : Int32), oU, oU] X55 hx hby d4_9 rfl rfl ?_
  refine own_aload_n 11 X55 hx hby d4_10 rfl rfl rfl ?_
  refine own_getF 14 X55 hx hby hZ hown (own_w hw 17 rfl) e55 F_c0_lasts d4_11 rfl ?_
  intro T56 X56 e56
  refine own_len 15 X56 hx hby hZ e56 (W.2.ext O0.2) d4_14 rfl ?_
  refine own_iload_n 16 X56 hx hby d4_15 rfl rfl ?_
  refine own_isub 17 (0 : Int32) X56 hx hby d4_16 rfl (by decide) ?_
  refine own_istore_n 18 #[oA c0, oI (0 : Int32), oI (0 : Int32), oU] X56 hx hby d4_17 rfl rfl ?_
  refine own_iload_n 19 X56 hx hby d4_18 rfl rfl ?_
  refine own_aload_n 20 X56 hx hby d4_19 rfl rfl rfl ?_
  refine own_getF 23 X56 hx hby hZ hown (own_w hw 17 rfl) e56 F_c0_lasts d4_20 rfl ?_
  intro T57 X57 e57
  refine own_len 24 X57 hx hby hZ e57 (W.2.ext O0.2) d4_23 rfl ?_
  refine own_bipush 26 (8 : Int32) X57 hx hby d4_24 rfl (by decide) ?_
  refine own_idiv 27 (0 : Int32) X57 hx hby d4_26 rfl (by decide) (by decide) ?_
  refine own_icY 38 X57 hx hby d4_27 (by decide) (by decide) (by decide) ?_
  refine own_bipush 40 (16 : Int32) X57 hx hby d4_38 rfl (by decide) ?_
  refine own_iconst 41 (2 : Int32) X57 hx hby d4_40 rfl (by decide) ?_
  refine own_aload_n 42 X57 hx hby d4_41 rfl rfl rfl ?_
  refine own_getF 45 X57 hx hby hZ hown (own_w hw 17 rfl) e57 F_c0_lasts d4_42 rfl ?_
  intro T58 X58 e58
  refine own_len 46 X58 hx hby hZ e58 (W.2.ext O0.2) d4_45 rfl ?_
  refine own_imul 47 (0 : Int32) X58 hx hby d4_46 rfl (by decide) ?_
  refine own_callS (W := 0) 50 (rm5_8 l Z a0 hw [] w_NONE k_NONE W  h0 n0 O0) X58 hx hby hZ hown (own_w hw 34 rfl) (own_w hw 35 rfl) (own_w hw 36 rfl) (own_w hw 37 rfl) (by decide) (by rw [hml]; rfl) [(.int (16 : Int32)), (.int (0 : Int32))] [] pd_6 rfl d4_47 rfl e58 rfl rfl rfl (by decide) (by decide) (by decide) (by decide) ?_
  rintro _ T59 L59 X59 ⟨rfl, N59, e59⟩
  have N59 := Fr.app N0 N59
  show Go p e below _ (T59.setTop (mkF m 50 _ [(.int (16 : Int32))]))
  refine own_istore_n 51 #[oA c0, oI (0 : Int32), oI (0 : Int32), oI (16 : Int32)] X59 hx hby d4_50 rfl rfl ?_
  refine own_aload_n 52 X59 hx hby d4_51 rfl rfl rfl ?_
  refine own_aload_n 53 X59 hx hby d4_52 rfl rfl rfl ?_
  refine own_aload_n 54 X59 hx hby d4_53 rfl rfl rfl ?_
  refine own_getF 57 X59 hx hby hZ hown (own_w hw 15 rfl) e59 F_c0_firsts d4_54 rfl ?_
  intro T60 X60 e60
  refine own_iload_n 58 X60 hx hby d4_57 rfl rfl ?_
  refine own_priv (W := 1) 61 (rm6_9 l Z a0 hw [] w_NONE k_NONE W c0 h0 n0 O0 E_c0 F_c0_droppedTotal F_c0_end F_c0_firsts F_c0_head F_c0_lasts F_c0_totals n_c0) X60 hx hby hZ hown (own_w hw 38 rfl) (own_w hw 39 rfl) (own_w hw 40 rfl) (own_w hw 24 rfl) (own_w hw 6 rfl) (own_w hw 41 rfl) rfl (by decide) (by rw [hml]; rfl) c0 [(.ref w_NONE), (.int (16 : Int32))] [(.ref c0)] pd_7 rfl d4_58 rfl e60 E_c0 rfl rfl rfl (by decide) (by decide) (by decide) (by decide) ?_
  rintro _ T66 L66 X66 ⟨b66_0, k66_0, rfl, N66, Kc66, n_b66_0, sz_b66_0, E_c0_66, F_c0_droppedTotal_66, F_c0_end_66, F_c0_firsts_66, F_c0_head_66, F_c0_lasts_66, F_c0_totals_66, V_b66_0_66⟩
  have N66 := Fr.app N59 N66
  have ne_c0_b66_0 : c0 ≠ b66_0 := Nat.ne_of_lt (Nat.lt_of_lt_of_le E_c0.lt sz_b66_0)
  have sz_b66_0 : h0.size ≤ b66_0 := Nat.le_trans (Keep.refl h0 [c0]).1 sz_b66_0
  have K66 : Keep h0 T66.heap [c0] := (Keep.refl h0 [c0]).trans Kc66 all0
  have O66 := O0.keep Kc66 all0
  show Go p e below _ (T66.setTop (mkF m 61 _ [(.ref b66_0), (.ref c0)]))
  refine own_putF 64 X66 hx hby hZ (.array .long) hown (own_w hw 15 rfl) rfl F_c0_firsts_66 E_c0_66 (Or.inl (own_w hw 16 rfl)) (own_w hw 5 rfl) (by decide) rfl rfl d4_61 rfl ?_
  intro T67 h67 X67 e67 W67
  have E_c0_67 := E_c0_66.wr W67
  have F_c0_droppedTotal_67 := F_c0_droppedTotal_66.other W67 (Or.inr (slot_ne (Or.inl (own_w hw 52 rfl)) (Or.inl (own_w hw 16 rfl)) (by decide) (t := .long) (t' := (.array .long)) (by decide) (by decide)))
  have F_c0_end_67 := F_c0_end_66.other W67 (Or.inr (slot_ne (Or.inl (own_w hw 27 rfl)) (Or.inl (own_w hw 16 rfl)) (by decide) (t := .int) (t' := (.array .long)) (by decide) (by decide)))
  have F_c0_firsts_67 := F_c0_firsts_66.same W67
  have F_c0_head_67 := F_c0_head_66.other W67 (Or.inr (slot_ne (Or.inl (own_w hw 33 rfl)) (Or.inl (own_w hw 16 rfl)) (by decide) (t := .int) (t' := (.array .long)) (by decide) (by decide)))
  have F_c0_lasts_67 := F_c0_lasts_66.other W67 (Or.inr (slot_ne (Or.inl (own_w hw 18 rfl)) (Or.inl (own_w hw 16 rfl)) (by decide) (t := (.array .long)) (t' := (.array .long)) (by decide) (by decide)))
  have F_c0_totals_67 := F_c0_totals_66.other W67 (Or.inr (slot_ne (Or.inl (own_w hw 20 rfl)) (Or.inl (own_w hw 16 rfl)) (by decide) (t := (.array .long)) (t' := (.array .long)) (by decide) (by decide)))
  have V_b66_0_67 := V_b66_0_66.other W67 (Ne.symm ne_c0_b66_0)
  have K67 : Keep h0 h67 [c0] := K66.wr W67 (Or.inl (List.mem_of_getElem? (i := 0) rfl))
  have O67 := O66.wr W67 n_c0
  have N67 := Fr.snoc X67 N66 n_c0
  refine own_aload_n 65 X67 hx hby d4_64 rfl rfl rfl ?_
  refine own_aload_n 66 X67 hx hby d4_65 rfl rfl rfl ?_
  refine own_aload_n 67 X67 hx hby d4_66 rfl rfl rfl ?_
  refine own_getF 70 X67 hx hby hZ hown (own_w hw 17 rfl) e67 F_c0_lasts_67 d4_67 rfl ?_
  intro T68 X68 e68
  refine own_iload_n 71 X68 hx hby d4_70 rfl rfl ?_
  refine own_priv (W := 1) 74 (rm6_10 l Z a0 hw [] w_NONE k_NONE W c0 b66_0 k66_0 h67 n0 O67 E_c0_67 F_c0_droppedTotal_67 F_c0_end_67 F_c0_firsts_67 F_c0_head_67 F_c0_lasts_67 F_c0_totals_67 n_c0 V_b66_0_67 n_b66_0 ne_c0_b66_0) X68 hx hby hZ hown (own_w hw 38 rfl) (own_w hw 39 rfl) (own_w hw 40 rfl) (own_w hw 24 rfl) (own_w hw 6 rfl) (own_w hw 41 rfl) rfl (by decide) (by rw [hml]; rfl) c0 [(.ref w_NONE), (.int (16 : Int32))] [(.ref c0)] pd_7 rfl d4_71 rfl e68 E_c0_67 rfl rfl rfl (by decide) (by decide) (by decide) (by decide) ?_
  rintro _ T74 L74 X74 ⟨b74_0, k74_0, rfl, N74, Kc74, n_b74_0, sz_b74_0, E_c0_74, F_c0_droppedTotal_74, F_c0_end_74, F_c0_firsts_74, F_c0_head_74, F_c0_lasts_74, F_c0_totals_74, V_b66_0_74, V_b74_0_74⟩
  have N74 := Fr.app N67 N74
  have ne_c0_b74_0 : c0 ≠ b74_0 := Nat.ne_of_lt (Nat.lt_of_lt_of_le E_c0_67.lt sz_b74_0)
  have ne_b66_0_b74_0 : b66_0 ≠ b74_0 := Nat.ne_of_lt (Nat.lt_of_lt_of_le V_b66_0_67.lt sz_b74_0)
  have sz_b74_0 : h0.size ≤ b74_0 := Nat.le_trans K67.1 sz_b74_0
  have K74 : Keep h0 T74.heap [c0] := K67.trans Kc74 all0
  have O74 := O67.keep Kc74 all0
  show Go p e below _ (T74.setTop (mkF m 74 _ [(.ref b74_0), (.ref c0)]))
  refine own_putF 77 X74 hx hby hZ (.array .long) hown (own_w hw 17 rfl) rfl F_c0_lasts_74 E_c0_74 (Or.inl (own_w hw 18 rfl)) (own_w hw 5 rfl) (by decide) rfl rfl d4_74 rfl ?_
  intro T75 h75 X75 e75 W75
  have E_c0_75 := E_c0_74.wr W75
  have F_c0_droppedTotal_75 := F_c0_droppedTotal_74.other W75 (Or.inr (slot_ne (Or.inl (own_w hw 52 rfl)) (Or.inl (own_w hw 18 rfl)) (by decide) (t := .long) (t' := (.array .long)) (by decide) (by decide)))
  have F_c0_end_75 := F_c0_end_74.other W75 (Or.inr (slot_ne (Or.inl (own_w hw 27 rfl)) (Or.inl (own_w hw 18 rfl)) (by decide) (t := .int) (t' := (.array .long)) (by decide) (by decide)))
  have F_c0_firsts_75 := F_c0_firsts_74.other W75 (Or.inr (slot_ne (Or.inl (own_w hw 16 rfl)) (Or.inl (own_w hw 18 rfl)) (by decide) (t := (.array .long)) (t' := (.array .long)) (by decide) (by decide)))
  have F_c0_head_75 := F_c0_head_74.other W75 (Or.inr (slot_ne (Or.inl (own_w hw 33 rfl)) (Or.inl (own_w hw 18 rfl)) (by decide) (t := .int) (t' := (.array .long)) (by decide) (by decide)))
  have F_c0_lasts_75 := F_c0_lasts_74.same W75
  have F_c0_totals_75 := F_c0_totals_74.other W75 (Or.inr (slot_ne (Or.inl (own_w hw 20 rfl)) (Or.inl (own_w hw 18 rfl)) (by decide) (t := (.array .long)) (t' := (.array .long)) (by decide) (by decide)))
  have V_b66_0_75 := V_b66_0_74.other W75 (Ne.symm ne_c0_b66_0)
  have V_b74_0_75 := V_b74_0_74.other W75 (Ne.symm ne_c0_b74_0)
  have K75 : Keep h0 h75 [c0] := K74.wr W75 (Or.inl (List.mem_of_getElem? (i := 0) rfl))
  have O75 := O74.wr W75 n_c0
  have N75 := Fr.snoc X75 N74 n_c0
  refine own_aload_n 78 X75 hx hby d4_77 rfl rfl rfl ?_
  refine own_aload_n 79 X75 hx hby d4_78 rfl rfl rfl ?_
  refine own_aload_n 80 X75 hx hby d4_79 rfl rfl rfl ?_
  refine own_getF 83 X75 hx hby hZ hown (own_w hw 19 rfl) e75 F_c0_totals_75 d4_80 rfl ?_
  intro T76 X76 e76
  refine own_iload_n 84 X76 hx hby d4_83 rfl rfl ?_
  refine own_priv (W := 1) 87 (rm6_11 l Z a0 hw [] w_NONE k_NONE W c0 b66_0 k66_0 b74_0 k74_0 h75 n0 O75 E_c0_75 F_c0_droppedTotal_75 F_c0_end_75 F_c0_firsts_75 F_c0_head_75 F_c0_lasts_75 F_c0_totals_75 n_c0 V_b66_0_75 n_b66_0 V_b74_0_75 n_b74_0 ne_c0_b66_0 ne_c0_b74_0 ne_b66_0_b74_0) X76 hx hby hZ hown (own_w hw 38 rfl) (own_w hw 39 rfl) (own_w hw 40 rfl) (own_w hw 24 rfl) (own_w hw 6 rfl) (own_w hw 41 rfl) rfl (by decide) (by rw [hml]; rfl) c0 [(.ref w_NONE), (.int (16 : Int32))] [(.ref c0)] pd_7 rfl d4_84 rfl e76 E_c0_75 rfl rfl rfl (by decide) (by decide) (by decide) (by decide) ?_
  rintro _ T82 L82 X82 ⟨b82_0, k82_0, rfl, N82, Kc82, n_b82_0, sz_b82_0, E_c0_82, F_c0_droppedTotal_82, F_c0_end_82, F_c0_firsts_82, F_c0_head_82, F_c0_lasts_82, F_c0_totals_82, V_b66_0_82, V_b74_0_82, V_b82_0_82⟩
  have N82 := Fr.app N75 N82
  have ne_c0_b82_0 : c0 ≠ b82_0 := Nat.ne_of_lt (Nat.lt_of_lt_of_le E_c0_75.lt sz_b82_0)
  have ne_b66_0_b82_0 : b66_0 ≠ b82_0 := Nat.ne_of_lt (Nat.lt_of_lt_of_le V_b66_0_75.lt sz_b82_0)
  have ne_b74_0_b82_0 : b74_0 ≠ b82_0 := Nat.ne_of_lt (Nat.lt_of_lt_of_le V_b74_0_75.lt sz_b82_0)
  have sz_b82_0 : h0.size ≤ b82_0 := Nat.le_trans K75.1 sz_b82_0
  have K82 : Keep h0 T82.heap [c0] := K75.trans Kc82 all0
  have O82 := O75.keep Kc82 all0
  show Go p e below _ (T82.setTop (mkF m 87 _ [(.ref b82_0), (.ref c0)]))
  refine own_putF 90 X82 hx hby hZ (.array .long) hown (own_w hw 19 rfl) rfl F_c0_totals_82 E_c0_82 (Or.inl (own_w hw 20 rfl)) (own_w hw 5 rfl) (by decide) rfl rfl d4_87 rfl ?_
  intro T83 h83 X83 e83 W83
  have E_c0_83 := E_c0_82.wr W83
  have F_c0_droppedTotal_83 := F_c0_droppedTotal_82.other W83 (Or.inr (slot_ne (Or.inl (own_w hw 52 rfl)) (Or.inl (own_w hw 20 rfl)) (by decide) (t := .long) (t' := (.array .long)) (by decide) (by decide)))
  have F_c0_end_83 := F_c0_end_82.other W83 (Or.inr (slot_ne (Or.inl (own_w hw 27 rfl)) (Or.inl (own_w hw 20 rfl)) (by decide) (t := .int) (t' := (.array .long)) (by decide) (by decide)))
  have F_c0_firsts_83 := F_c0_firsts_82.other W83 (Or.inr (slot_ne (Or.inl (own_w hw 16 rfl)) (Or.inl (own_w hw 20 rfl)) (by decide) (t := (.array .long)) (t' := (.array .long)) (by decide) (by decide)))
  have F_c0_head_83 := F_c0_head_82.other W83 (Or.inr (slot_ne (Or.inl (own_w hw 33 rfl)) (Or.inl (own_w hw 20 rfl)) (by decide) (t := .int) (t' := (.array .long)) (by decide) (by decide)))
  have F_c0_lasts_83 := F_c0_lasts_82.other W83 (Or.inr (slot_ne (Or.inl (own_w hw 18 rfl)) (Or.inl (own_w hw 20 rfl)) (by decide) (t := (.array .long)) (t' := (.array .long)) (by decide) (by decide)))
  have F_c0_totals_83 := F_c0_totals_82.same W83
  have V_b66_0_83 := V_b66_0_82.other W83 (Ne.symm ne_c0_b66_0)
  have V_b74_0_83 := V_b74_0_82.other W83 (Ne.symm ne_c0_b74_0)
  have V_b82_0_83 := V_b82_0_82.other W83 (Ne.symm ne_c0_b82_0)
  have K83 : Keep h0 h83 [c0] := K82.wr W83 (Or.inl (List.mem_of_getElem? (i := 0) rfl))
  have O83 := O82.wr W83 n_c0
  have N83 := Fr.snoc X83 N82 n_c0
  refine own_aload_n 91 X83 hx hby d4_90 rfl rfl rfl ?_
  refine own_iconst 92 (0 : Int32) X83 hx hby d4_91 rfl (by decide) ?_
  refine own_putF 95 X83 hx hby hZ .int hown (own_w hw 32 rfl) e83 F_c0_head_83 E_c0_83 (Or.inl (own_w hw 33 rfl)) (own_w hw 5 rfl) (by decide) rfl rfl d4_92 rfl ?_
  intro T84 h84 X84 e84 W84
  have E_c0_84 := E_c0_83.wr W84
  have F_c0_droppedTotal_84 := F_c0_droppedTotal_83.other W84 (Or.inr (slot_ne (Or.inl (own_w hw 52 rfl)) (Or.inl (own_w hw 33 rfl)) (by decide) (t := .long) (t' := .int) (by decide) (by decide)))
  have F_c0_end_84 := F_c0_end_83.other W84 (Or.inr (slot_ne (Or.inl (own_w hw 27 rfl)) (Or.inl (own_w hw 33 rfl)) (by decide) (t := .int) (t' := .int) (by decide) (by decide)))
  have F_c0_firsts_84 := F_c0_firsts_83.other W84 (Or.inr (slot_ne (Or.inl (own_w hw 16 rfl)) (Or.inl (own_w hw 33 rfl)) (by decide) (t := (.array .long)) (t' := .int) (by decide) (by decide)))
  have F_c0_head_84 := F_c0_head_83.same W84
  have F_c0_lasts_84 := F_c0_lasts_83.other W84 (Or.inr (slot_ne (Or.inl (own_w hw 18 rfl)) (Or.inl (own_w hw 33 rfl)) (by decide) (t := (.array .long)) (t' := .int) (by decide) (by decide)))
  have F_c0_totals_84 := F_c0_totals_83.other W84 (Or.inr (slot_ne (Or.inl (own_w hw 20 rfl)) (Or.inl (own_w hw 33 rfl)) (by decide) (t := (.array .long)) (t' := .int) (by decide) (by decide)))
  have V_b66_0_84 := V_b66_0_83.other W84 (Ne.symm ne_c0_b66_0)
  have V_b74_0_84 := V_b74_0_83.other W84 (Ne.symm ne_c0_b74_0)
  have V_b82_0_84 := V_b82_0_83.other W84 (Ne.symm ne_c0_b82_0)
  have K84 : Keep h0 h84 [c0] := K83.wr W84 (Or.inl (List.mem_of_getElem? (i := 0) rfl))
  have O84 := O83.wr W84 n_c0
  have N84 := Fr.snoc X84 N83 n_c0
  refine own_aload_n 96 X84 hx hby d4_95 rfl rfl rfl ?_
  refine own_iload_n 97 X84 hx hby d4_96 rfl rfl ?_
  refine own_putF 100 X84 hx hby hZ .int hown (own_w hw 26 rfl) e84 F_c0_end_84 E_c0_84 (Or.inl (own_w hw 27 rfl)) (own_w hw 5 rfl) (by decide) rfl rfl d4_97 rfl ?_
  intro T85 h85 X85 e85 W85
  have E_c0_85 := E_c0_84.wr W85
  have F_c0_droppedTotal_85 := F_c0_droppedTotal_84.other W85 (Or.inr (slot_ne (Or.inl (own_w hw 52 rfl)) (Or.inl (own_w hw 27 rfl)) (by decide) (t := .long) (t' := .int) (by decide) (by decide)))
  have F_c0_end_85 := F_c0_end_84.same W85
  have F_c0_firsts_85 := F_c0_firsts_84.other W85 (Or.inr (slot_ne (Or.inl (own_w hw 16 rfl)) (Or.inl (own_w hw 27 rfl)) (by decide) (t := (.array .long)) (t' := .int) (by decide) (by decide)))
  have F_c0_head_85 := F_c0_head_84.other W85 (Or.inr (slot_ne (Or.inl (own_w hw 33 rfl)) (Or.inl (own_w hw 27 rfl)) (by decide) (t := .int) (t' := .int) (by decide) (by decide)))
  have F_c0_lasts_85 := F_c0_lasts_84.other W85 (Or.inr (slot_ne (Or.inl (own_w hw 18 rfl)) (Or.inl (own_w hw 27 rfl)) (by decide) (t := (.array .long)) (t' := .int) (by decide) (by decide)))
  have F_c0_totals_85 := F_c0_totals_84.other W85 (Or.inr (slot_ne (Or.inl (own_w hw 20 rfl)) (Or.inl (own_w hw 27 rfl)) (by decide) (t := (.array .long)) (t' := .int) (by decide) (by decide)))
  have V_b66_0_85 := V_b66_0_84.other W85 (Ne.symm ne_c0_b66_0)
  have V_b74_0_85 := V_b74_0_84.other W85 (Ne.symm ne_c0_b74_0)
  have V_b82_0_85 := V_b82_0_84.other W85 (Ne.symm ne_c0_b82_0)
  have K85 : Keep h0 h85 [c0] := K84.wr W85 (Or.inl (List.mem_of_getElem? (i := 0) rfl))
  have O85 := O84.wr W85 n_c0
  have N85 := Fr.snoc X85 N84 n_c0
  exact own_ret0 (Q := Q_rm4_12 Z w_NONE k_NONE c0 h0 n0) X85 hx hby hret hlk d4_100 (by decide) (by decide) (by rw [e85]; exact ⟨b66_0, b74_0, b82_0, k66_0, k74_0, k82_0, rfl, N85, K85, n_b66_0, sz_b66_0, n_b74_0, sz_b74_0, n_b82_0, sz_b82_0, ne_b66_0_b74_0, ne_b66_0_b82_0, ne_b74_0_b82_0, E_c0_85, F_c0_droppedTotal_85, F_c0_end_85, F_c0_firsts_85, F_c0_head_85, F_c0_lasts_85, F_c0_totals_85, V_b66_0_85, V_b74_0_85, V_b82_0_85⟩)
set_option maxRecDepth 65536 in
set_option maxHeartbeats 40000000 in
theorem rm7_13 (l : Launch) (Z : State) (a0 : Array Value) (hw : ∀ d ∈ tables_1, d.before a0 Z = true) (ws : List Jvm.Cond) (w_NONE k_NONE : Addr) (W : own_W Z w_NONE k_NONE) (c0 : Addr) (c1 : Addr) (k_c1 : ClassId) (c2 : Addr) (k_c2 : ClassId) (c3 : Addr) (k_c3 : ClassId) (y0 : Int64) (h0 : Heap) (n0 : Nat) (O0 : Old Z n0 h0) (E_c0 : Exa Z h0 c0 "com/example/meter/meter/store/Spans") (F_c0_droppedTotal : Fld Z h0 c0 "com/example/meter/meter/store/Spans" "droppedTotal" "J" (.long (0 : Int64))) (F_c0_end : Fld Z h0 c0 "com/example/meter/meter/store/Spans" "end" "I" (.int (0 : Int32))) (F_c0_firsts : Fld Z h0 c0 "com/example/meter/meter/store/Spans" "firsts" "[J" (.ref c1)) (F_c0_head : Fld Z h0 c0 "com/example/meter/meter/store/Spans" "head" "I" (.int (0 : Int32))) (F_c0_lasts : Fld Z h0 c0 "com/example/meter/meter/store/Spans" "lasts" "[J" (.ref c2)) (F_c0_totals : Fld Z h0 c0 "com/example/meter/meter/store/Spans" "totals" "[J" (.ref c3)) (n_c0 : n0 ≤ c0) (V_c1 : Arv Z h0 c1 k_c1 .long (16 : Int32) [(.long y0), (.long (0 : Int64)), (.long (0 : Int64)), (.long (0 : Int64))] (.long (0 : Int64))) (n_c1 : n0 ≤ c1) (V_c2 : Arv Z h0 c2 k_c2 .long (16 : Int32) [(.long y0), (.long (0 : Int64)), (.long (0 : Int64)), (.long (0 : Int64))] (.long (0 : Int64))) (n_c2 : n0 ≤ c2) (V_c3 : Arv Z h0 c3 k_c3 .long (16 : Int32) [(.long (0 : Int64)), (.long (0 : Int64)), (.long (0 : Int64)), (.long (0 : Int64))] (.long (0 : Int64))) (n_c3 : n0 ≤ c3) (ne_c0_c1 : c0 ≠ c1) (ne_c0_c2 : c0 ≠ c2) (ne_c0_c3 : c0 ≠ c3) (ne_c1_c2 : c1 ≠ c2) (ne_c1_c3 : c1 ≠ c3) (ne_c2_c3 : c2 ≠ c3) :
    MetFree l (⟨"com/example/meter/meter/store/Spans", "totalBefore", "(I)J"⟩ : MethodName) (head1 (Jvm.Cond.code (⟨"com/example/meter/meter/store/Spans", "totalBefore", "(I)J"⟩ : MethodName) prog_11_method_14_code 2 (some .long) :: ws) ({ frames := 0, cells := 0, slots := 0, locals := 0 } : Room)) (fun a U => a = #[(.ref c0), (.int (0 : Int32))] ∧ Z.Warmed39 U.vm ∧ U.heap = h0) (fun _ _ _ _ _ => True) (fun _ U o U' => ∃ v L, o = .returned v ∧ own_Q (some (.long (0 : Int64))) n0 h0 v U'.heap L ∧ FrameEnd U o U' L ({ frames := 0, cells := 0, slots := 0, locals := 0 } : Room).cells ({ frames := 0, cells := 0, slots := 0, locals := 0 } : Room).slots) := by
  refine MetFree.of_bodySF (plainFor_of_name pn_0) hisR ?_
  intro p e s m args below meth c s₁ Bd hml0 hP hK
  obtain ⟨rfl, hZ, hh⟩ := hP
  have hx := Bd.exec
  have hby := Bd.bytes
  have hml : c.maxLocals = 2 := hml0
  have hlk := BodyLoose.notSynchronized Bd
  have hret := Bd.returns
  have hown : s.vm.findClass "com/example/meter/meter/store/Spans" = some m.cls := findClass_of_methodNamed Bd.named
  have hnm := (name_of_methodNamed Bd.named Bd.method).1
  have X0 : Stand p l e ({ frames := 0, cells := 0, slots := 0, locals := 0 } : Room) s m #[(.ref c0), (.int (0 : Int32))] below meth c s₁ [] 0 0 := Stand.of_body Bd
  have e0 : s₁.heap = h0 := by rw [← hh, Bd.state]; rfl
  have N0 := Fr.nil n0
  rw [ef_7 m c0 (0 : Int32)]
  show Go p e below _ (s₁.setTop (mkF m 0 #[oA c0, oI (0 : Int32)] []))
  refine own_iload_n 1 X0 hx hby d7_0 rfl rfl ?_
  refine own_aload_n 2 X0 hx hby d7_1 rfl rfl rfl ?_
  refine own_getF 5 X0 hx hby hZ hown (own_w hw 32 rfl) e0 F_c0_head d7_2 rfl ?_
  intro T96 X96 e96
  refine own_icN 8 X96 hx hby d7_5 rfl (by decide) ?_
  refine own_aload_n 9 X96 hx hby d7_8 rfl rfl rfl ?_
  refine own_getF 12 X96 hx hby hZ hown (own_w hw 51 rfl) e96 F_c0_droppedTotal d7_9 rfl ?_
  intro T97 X97 e97
  refine own_goto 23 X97 hx hby d7_12 (by decide) (by decide) ?_
  exact own_ret (Q := own_Q (some (.long (0 : Int64))) n0 h0) X97 hx hby hret hlk d7_23 rfl (Or.inr (Or.inl ⟨rfl, rfl, _, rfl⟩)) (by decide) (by decide) ⟨rfl, N0, e97⟩
def Q_rm3_14 (Z : State) (w_NONE k_NONE : Addr) (c0 : Addr) (y0 : Int64) (y1 : Int64) (h0 : Heap) (n0 : Nat) (v : Option Value) (h : Heap) (L : List Loc) : Prop := ∃ b86_0 : Addr, ∃ b86_1 : Addr, ∃ b86_2 : Addr, ∃ k86_0 : ClassId, ∃ k86_1 : ClassId, ∃ k86_2 : ClassId, v = none ∧ Fr n0 L ∧ Keep h0 h [c0] ∧ n0 ≤ b86_0 ∧ h0.size ≤ b86_0 ∧ n0 ≤ b86_1 ∧ h0.size ≤ b86_1 ∧ n0 ≤ b86_2 ∧ h0.size ≤ b86_2 ∧ b86_0 ≠ b86_1 ∧ b86_0 ≠ b86_2 ∧ b86_1 ≠ b86_2 ∧ Exa Z h c0 "com/example/meter/meter/store/Spans" ∧ Fld Z h c0 "com/example/meter/meter/store/Spans" "droppedTotal" "J" (.long (0 : Int64)) ∧ Fld Z h c0 "com/example/meter/meter/store/Spans" "end" "I" (.int (1 : Int32)) ∧ Fld Z h c0 "com/example/meter/meter/store/Spans" "firsts" "[J" (.ref b86_0) ∧ Fld Z h c0 "com/example/meter/meter/store/Spans" "head" "I" (.int (0 : Int32)) ∧ Fld Z h c0 "com/example/meter/meter/store/Spans" "lasts" "[J" (.ref b86_1) ∧ Fld Z h c0 "com/example/meter/meter/store/Spans" "totals" "[J" (.ref b86_2) ∧ Arv Z h b86_0 k86_0 .long (16 : Int32) [(.long y0), (.long (0 : Int64)), (.long (0 : Int64)), (.long (0 : Int64))] (.long (0 : Int64)) ∧ Arv Z h b86_1 k86_1 .long (16 : Int32) [(.long y0), (.long (0 : Int64)), (.long (0 : Int64)), (.long (0 : Int64))] (.long (0 : Int64)) ∧ Arv Z h b86_2 k86_2 .long (16 : Int32) [(.long ((0 : Int64) + y1)), (.long (0 : Int64)), (.long (0 : Int64)), (.long (0 : Int64))] (.long (0 : Int64))
set_option maxRecDepth 65536 in
set_option maxHeartbeats 40000000 in
theorem rm3_14 (l : Launch) (Z : State) (a0 : Array Value) (hw : ∀ d ∈ tables_1, d.before a0 Z = true) (ws : List Jvm.Cond) (w_NONE k_NONE : Addr) (W : own_W Z w_NONE k_NONE) (c0 : Addr) (y0 : Int64) (y1 : Int64) (h0 : Heap) (n0 : Nat) (O0 : Old Z n0 h0) (E_c0 : Exa Z h0 c0 "com/example/meter/meter/store/Spans") (F_c0_droppedTotal : Fld Z h0 c0 "com/example/meter/meter/store/Spans" "droppedTotal" "J" (.long (0 : Int64))) (F_c0_end : Fld Z h0 c0 "com/example/meter/meter/store/Spans" "end" "I" (.int (0 : Int32))) (F_c0_firsts : Fld Z h0 c0 "com/example/meter/meter/store/Spans" "firsts" "[J" (.ref w_NONE)) (F_c0_head : Fld Z h0 c0 "com/example/meter/meter/store/Spans" "head" "I" (.int (0 : Int32))) (F_c0_lasts : Fld Z h0 c0 "com/example/meter/meter/store/Spans" "lasts" "[J" (.ref w_NONE)) (F_c0_totals : Fld Z h0 c0 "com/example/meter/meter/store/Spans" "totals" "[J" (.ref w_NONE)) (n_c0 : n0 ≤ c0) :
    MetFree l (⟨"com/example/meter/meter/store/Spans", "append", "(JJ)V"⟩ : MethodName) (head1 (Jvm.Cond.code (⟨"com/example/meter/meter/store/Spans", "append", "(JJ)V"⟩ : MethodName) prog_11_method_9_code 5 none :: ws) ({ frames := 3, cells := 3, slots := 48, locals := 67 } : Room)) (fun a U => a = #[(.ref c0), (.long y0), (.long y1)] ∧ Z.Warmed39 U.vm ∧ U.heap = h0) (fun _ _ _ _ _ => True) (fun _ U o U' => ∃ v L, o = .returned v ∧ Q_rm3_14 Z w_NONE k_NONE c0 y0 y1 h0 n0 v U'.heap L ∧ FrameEnd U o U' L ({ frames := 3, cells := 3, slots := 48, locals := 67 } : Room).cells ({ frames := 3, cells := 3, slots := 48, locals := 67 } : Room).slots) := by
  refine MetFree.of_bodySF (plainFor_of_name pn_0) hisR ?_
  intro p e s m args below meth c s₁ Bd hml0 hP hK
  obtain ⟨rfl, hZ, hh⟩ := hP
  have hx := Bd.exec
  have hby := Bd.bytes
  have hml : c.maxLocals = 5 := hml0
  have hlk := BodyLoose.notSynchronized Bd
  have hret := Bd.returns
  have hown : s.vm.findClass "com/example/meter/meter/store/Spans" = some m.cls := findClass_of_methodNamed Bd.named
  have hnm := (name_of_methodNamed Bd.named Bd.method).1
  have X0 : Stand p l e ({ frames := 3, cells := 3, slots := 48, locals := 67 } : Room) s m #[(.ref c0), (.long y0), (.long y1)] below meth c s₁ [] 0 0 := Stand.of_body Bd
  have e0 : s₁.heap = h0 := by rw [← hh, Bd.state]; rfl
  have N0 := Fr.nil n0
  rw [ef_3 m c0 y0 y1]
  show Go p e below _ (s₁.setTop (mkF m 0 #[oA c0, oJ y0, oS, oJ y1, oS] []))
  refine own_aload_n 1 X0 hx hby d3_0 rfl rfl rfl ?_
  refine own_getF 4 X0 hx hby hZ hown (own_w hw 26 rfl) e0 F_c0_end d3_1 rfl ?_
  intro T52 X52 e52
  refine own_aload_n 5 X52 hx hby d3_4 rfl rfl rfl ?_
  refine own_getF 8 X52 hx hby hZ hown (own_w hw 17 rfl) e52 F_c0_lasts d3_5 rfl ?_
  intro T53 X53 e53
  refine own_len 9 X53 hx hby hZ e53 (W.2.ext O0.2) d3_8 rfl ?_
  refine own_icN 12 X53 hx hby d3_9 rfl (by decide) ?_
  refine own_aload_n 13 X53 hx hby d3_12 rfl rfl rfl ?_
  refine own_priv (W := 0) 16 (rm4_12 l Z a0 hw [] w_NONE k_NONE W c0 h0 n0 O0 E_c0 F_c0_droppedTotal F_c0_end F_c0_firsts F_c0_head F_c0_lasts F_c0_totals n_c0) X53 hx hby hZ hown (own_w hw 28 rfl) (own_w hw 29 rfl) (own_w hw 30 rfl) (own_w hw 24 rfl) (own_w hw 6 rfl) (own_w hw 31 rfl) rfl (by decide) (by rw [hml]; rfl) c0 [] [] pd_0 rfl d3_13 rfl e53 E_c0 rfl rfl rfl (by decide) (by decide) (by decide) (by decide) ?_
  rintro _ T86 L86 X86 ⟨b86_0, b86_1, b86_2, k86_0, k86_1, k86_2, rfl, N86, Kc86, n_b86_0, sz_b86_0, n_b86_1, sz_b86_1, n_b86_2, sz_b86_2, ne_b86_0_b86_1, ne_b86_0_b86_2, ne_b86_1_b86_2, E_c0_86, F_c0_droppedTotal_86, F_c0_end_86, F_c0_firsts_86, F_c0_head_86, F_c0_lasts_86, F_c0_totals_86, V_b86_0_86, V_b86_1_86, V_b86_2_86⟩
  have N86 := Fr.app N0 N86
  have ne_c0_b86_0 : c0 ≠ b86_0 := Nat.ne_of_lt (Nat.lt_of_lt_of_le E_c0.lt sz_b86_0)
  have sz_b86_0 : h0.size ≤ b86_0 := Nat.le_trans (Keep.refl h0 [c0]).1 sz_b86_0
  have ne_c0_b86_1 : c0 ≠ b86_1 := Nat.ne_of_lt (Nat.lt_of_lt_of_le E_c0.lt sz_b86_1)
  have sz_b86_1 : h0.size ≤ b86_1 := Nat.le_trans (Keep.refl h0 [c0]).1 sz_b86_1
  have ne_c0_b86_2 : c0 ≠ b86_2 := Nat.ne_of_lt (Nat.lt_of_lt_of_le E_c0.lt sz_b86_2)
  have sz_b86_2 : h0.size ≤ b86_2 := Nat.le_trans (Keep.refl h0 [c0]).1 sz_b86_2
  have K86 : Keep h0 T86.heap [c0] := (Keep.refl h0 [c0]).trans Kc86 (allS (Or.inl (List.mem_of_getElem? (i := 0) rfl)) all0)
  have O86 := O0.keep Kc86 (allS n_c0 all0)
  show Go p e below _ (T86.setTop (mkF m 16 _ []))
  refine own_aload_n 17 X86 hx hby d3_16 rfl rfl rfl ?_
  refine own_getF 20 X86 hx hby hZ hown (own_w hw 15 rfl) rfl F_c0_firsts_86 d3_17 rfl ?_
  intro T87 X87 e87
  refine own_aload_n 21 X87 hx hby d3_20 rfl rfl rfl ?_
  refine own_getF 24 X87 hx hby hZ hown (own_w hw 26 rfl) e87 F_c0_end_86 d3_21 rfl ?_
  intro T88 X88 e88
  refine own_lload_n 25 X88 hx hby d3_24 rfl rfl ?_
  refine own_stJ 26 0 X88 hx hby hZ e88 V_b86_0_86 d3_25 rfl (by decide) (by decide) (Nat.le_of_ble_eq_true rfl) ?_
  intro T89 h89 X89 e89 W89 V89
  have V89 : Arv Z h89 b86_0 k86_0 .long (16 : Int32) [(.long y0), (.long (0 : Int64)), (.long (0 : Int64)), (.long (0 : Int64))] (.long (0 : Int64)) := V89
  have E_c0_89 := E_c0_86.wr W89
  have F_c0_droppedTotal_89 := F_c0_droppedTotal_86.other W89 (Or.inl ne_c0_b86_0)
  have F_c0_end_89 := F_c0_end_86.other W89 (Or.inl ne_c0_b86_0)
  have F_c0_firsts_89 := F_c0_firsts_86.other W89 (Or.inl ne_c0_b86_0)
  have F_c0_head_89 := F_c0_head_86.other W89 (Or.inl ne_c0_b86_0)
  have F_c0_lasts_89 := F_c0_lasts_86.other W89 (Or.inl ne_c0_b86_0)
  have F_c0_totals_89 := F_c0_totals_86.other W89 (Or.inl ne_c0_b86_0)
  have V_b86_1_89 := V_b86_1_86.other W89 (Ne.symm ne_b86_0_b86_1)
  have V_b86_2_89 := V_b86_2_86.other W89 (Ne.symm ne_b86_0_b86_2)
  have K89 : Keep h0 h89 [c0] := K86.wr W89 (Or.inr sz_b86_0)
  have O89 := O86.wr W89 n_b86_0
  have N89 := Fr.snoc X89 N86 n_b86_0
  refine own_aload_n 27 X89 hx hby d3_26 rfl rfl rfl ?_
  refine own_getF 30 X89 hx hby hZ hown (own_w hw 17 rfl) e89 F_c0_lasts_89 d3_27 rfl ?_
  intro T90 X90 e90
  refine own_aload_n 31 X90 hx hby d3_30 rfl rfl rfl ?_
  refine own_getF 34 X90 hx hby hZ hown (own_w hw 26 rfl) e90 F_c0_end_89 d3_31 rfl ?_
  intro T91 X91 e91
  refine own_lload_n 35 X91 hx hby d3_34 rfl rfl ?_
  refine own_stJ 36 0 X91 hx hby hZ e91 V_b86_1_89 d3_35 rfl (by decide) (by decide) (Nat.le_of_ble_eq_true rfl) ?_
  intro T92 h92 X92 e92 W92 V92
  have V92 : Arv Z h92 b86_1 k86_1 .long (16 : Int32) [(.long y0), (.long (0 : Int64)), (.long (0 : Int64)), (.long (0 : Int64))] (.long (0 : Int64)) := V92
  have E_c0_92 := E_c0_89.wr W92
  have F_c0_droppedTotal_92 := F_c0_droppedTotal_89.other W92 (Or.inl ne_c0_b86_1)
  have F_c0_end_92 := F_c0_end_89.other W92 (Or.inl ne_c0_b86_1)
  have F_c0_firsts_92 := F_c0_firsts_89.other W92 (Or.inl ne_c0_b86_1)
  have F_c0_head_92 := F_c0_head_89.other W92 (Or.inl ne_c0_b86_1)
  have F_c0_lasts_92 := F_c0_lasts_89.other W92 (Or.inl ne_c0_b86_1)
  have F_c0_totals_92 := F_c0_totals_89.other W92 (Or.inl ne_c0_b86_1)
  have V_b86_0_92 := V89.other W92 ne_b86_0_b86_1
  have V_b86_2_92 := V_b86_2_89.other W92 (Ne.symm ne_b86_1_b86_2)
  have K92 : Keep h0 h92 [c0] := K89.wr W92 (Or.inr sz_b86_1)
  have O92 := O89.wr W92 n_b86_1
  have N92 := Fr.snoc X92 N89 n_b86_1
  refine own_aload_n 37 X92 hx hby d3_36 rfl rfl rfl ?_
  refine own_getF 40 X92 hx hby hZ hown (own_w hw 19 rfl) e92 F_c0_totals_92 d3_37 rfl ?_
  intro T93 X93 e93
  refine own_aload_n 41 X93 hx hby d3_40 rfl rfl rfl ?_
  refine own_getF 44 X93 hx hby hZ hown (own_w hw 26 rfl) e93 F_c0_end_92 d3_41 rfl ?_
  intro T94 X94 e94
  refine own_aload_n 45 X94 hx hby d3_44 rfl rfl rfl ?_
  refine own_aload_n 46 X94 hx hby d3_45 rfl rfl rfl ?_
  refine own_getF 49 X94 hx hby hZ hown (own_w hw 26 rfl) e94 F_c0_end_92 d3_46 rfl ?_
  intro T95 X95 e95
  refine own_priv (W := 2) 52 (rm7_13 l Z a0 hw [] w_NONE k_NONE W c0 b86_0 k86_0 b86_1 k86_1 b86_2 k86_2 y0 h92 n0 O92 E_c0_92 F_c0_droppedTotal_92 F_c0_end_92 F_c0_firsts_92 F_c0_head_92 F_c0_lasts_92 F_c0_totals_92 n_c0 V_b86_0_92 n_b86_0 V92 n_b86_1 V_b86_2_92 n_b86_2 ne_c0_b86_0 ne_c0_b86_1 ne_c0_b86_2 ne_b86_0_b86_1 ne_b86_0_b86_2 ne_b86_1_b86_2) X95 hx hby hZ hown (own_w hw 47 rfl) (own_w hw 48 rfl) (own_w hw 49 rfl) (own_w hw 24 rfl) (own_w hw 6 rfl) (own_w hw 50 rfl) rfl (by decide) (by rw [hml]; rfl) c0 [(.int (0 : Int32))] [(.int (0 : Int32)), (.ref b86_2)] pd_3 rfl d3_49 rfl e95 E_c0_92 rfl rfl rfl (by decide) (by decide) (by decide) (by decide) ?_
  rintro _ T98 L98 X98 ⟨rfl, N98, e98⟩
  have N98 := Fr.app N92 N98
  show Go p e below _ (T98.setTop (mkF m 52 _ [(.long (0 : Int64)), (.int (0 : Int32)), (.ref b86_2)]))
  refine own_lload_n 53 X98 hx hby d3_52 rfl rfl ?_
  refine own_ladd 54 ((0 : Int64) + y1) X98 hx hby d3_53 rfl rfl ?_
  refine own_stJ 55 0 X98 hx hby hZ e98 V_b86_2_92 d3_54 rfl (by decide) (by decide) (Nat.le_of_ble_eq_true rfl) ?_
  intro T99 h99 X99 e99 W99 V99
  have V99 : Arv Z h99 b86_2 k86_2 .long (16 : Int32) [(.long ((0 : Int64) + y1)), (.long (0 : Int64)), (.long (0 : Int64)), (.long (0 : Int64))] (.long (0 : Int64)) := V99
  have E_c0_99 := E_c0_92.wr W99
  have F_c0_droppedTotal_99 := F_c0_droppedTotal_92.other W99 (Or.inl ne_c0_b86_2)
  have F_c0_end_99 := F_c0_end_92.other W99 (Or.inl ne_c0_b86_2)
  have F_c0_firsts_99 := F_c0_firsts_92.other W99 (Or.inl ne_c0_b86_2)
  have F_c0_head_99 := F_c0_head_92.other W99 (Or.inl ne_c0_b86_2)
  have F_c0_lasts_99 := F_c0_lasts_92.other W99 (Or.inl ne_c0_b86_2)
  have F_c0_totals_99 := F_c0_totals_92.other W99 (Or.inl ne_c0_b86_2)
  have V_b86_0_99 := V_b86_0_92.other W99 ne_b86_0_b86_2
  have V_b86_1_99 := V92.other W99 ne_b86_1_b86_2
  have K99 : Keep h0 h99 [c0] := K92.wr W99 (Or.inr sz_b86_2)
  have O99 := O92.wr W99 n_b86_2
  have N99 := Fr.snoc X99 N98 n_b86_2
  refine own_aload_n 56 X99 hx hby d3_55 rfl rfl rfl ?_
  refine own_dup 57 X99 hx hby d3_56 rfl rfl ?_
  refine own_getF 60 X99 hx hby hZ hown (own_w hw 26 rfl) e99 F_c0_end_99 d3_57 rfl ?_
  intro T100 X100 e100
  refine own_iconst 61 (1 : Int32) X100 hx hby d3_60 rfl (by decide) ?_
  refine own_iadd 62 (1 : Int32) X100 hx hby d3_61 rfl (by decide) ?_
  refine own_putF 65 X100 hx hby hZ .int hown (own_w hw 26 rfl) e100 F_c0_end_99 E_c0_99 (Or.inl (own_w hw 27 rfl)) (own_w hw 5 rfl) (by decide) rfl rfl d3_62 rfl ?_
  intro T101 h101 X101 e101 W101
  have E_c0_101 := E_c0_99.wr W101
  have F_c0_droppedTotal_101 := F_c0_droppedTotal_99.other W101 (Or.inr (slot_ne (Or.inl (own_w hw 52 rfl)) (Or.inl (own_w hw 27 rfl)) (by decide) (t := .long) (t' := .int) (by decide) (by decide)))
  have F_c0_end_101 := F_c0_end_99.same W101
  have F_c0_firsts_101 := F_c0_firsts_99.other W101 (Or.inr (slot_ne (Or.inl (own_w hw 16 rfl)) (Or.inl (own_w hw 27 rfl)) (by decide) (t := (.array .long)) (t' := .int) (by decide) (by decide)))
  have F_c0_head_101 := F_c0_head_99.other W101 (Or.inr (slot_ne (Or.inl (own_w hw 33 rfl)) (Or.inl (own_w hw 27 rfl)) (by decide) (t := .int) (t' := .int) (by decide) (by decide)))
  have F_c0_lasts_101 := F_c0_lasts_99.other W101 (Or.inr (slot_ne (Or.inl (own_w hw 18 rfl)) (Or.inl (own_w hw 27 rfl)) (by decide) (t := (.array .long)) (t' := .int) (by decide) (by decide)))
  have F_c0_totals_101 := F_c0_totals_99.other W101 (Or.inr (slot_ne (Or.inl (own_w hw 20 rfl)) (Or.inl (own_w hw 27 rfl)) (by decide) (t := (.array .long)) (t' := .int) (by decide) (by decide)))
  have V_b86_0_101 := V_b86_0_99.other W101 (Ne.symm ne_c0_b86_0)
  have V_b86_1_101 := V_b86_1_99.other W101 (Ne.symm ne_c0_b86_1)
  have V_b86_2_101 := V99.other W101 (Ne.symm ne_c0_b86_2)
  have K101 : Keep h0 h101 [c0] := K99.wr W101 (Or.inl (List.mem_of_getElem? (i := 0) rfl))
  have O101 := O99.wr W101 n_c0
  have N101 := Fr.snoc X101 N99 n_c0
  exact own_ret0 (Q := Q_rm3_14 Z w_NONE k_NONE c0 y0 y1 h0 n0) X101 hx hby hret hlk d3_65 (by decide) (by decide) (by rw [e101]; exact ⟨b86_0, b86_1, b86_2, k86_0, k86_1, k86_2, rfl, N101, K101, n_b86_0, sz_b86_0, n_b86_1, sz_b86_1, n_b86_2, sz_b86_2, ne_b86_0_b86_1, ne_b86_0_b86_2, ne_b86_1_b86_2, E_c0_101, F_c0_droppedTotal_101, F_c0_end_101, F_c0_firsts_101, F_c0_head_101, F_c0_lasts_101, F_c0_totals_101, V_b86_0_101, V_b86_1_101, V_b86_2_101⟩)
set_option maxRecDepth 65536 in
set_option maxHeartbeats 40000000 in
theorem rm8_15 (l : Launch) (Z : State) (a0 : Array Value) (hw : ∀ d ∈ tables_1, d.before a0 Z = true) (ws : List Jvm.Cond) (w_NONE k_NONE : Addr) (W : own_W Z w_NONE k_NONE) (c0 : Addr) (c1 : Addr) (k_c1 : ClassId) (c2 : Addr) (k_c2 : ClassId) (c3 : Addr) (k_c3 : ClassId) (y0 : Int64) (y1 : Int64) (y2 : Int64) (h0 : Heap) (n0 : Nat) (O0 : Old Z n0 h0) (E_c0 : Exa Z h0 c0 "com/example/meter/meter/store/Spans") (F_c0_droppedTotal : Fld Z h0 c0 "com/example/meter/meter/store/Spans" "droppedTotal" "J" (.long (0 : Int64))) (F_c0_end : Fld Z h0 c0 "com/example/meter/meter/store/Spans" "end" "I" (.int (1 : Int32))) (F_c0_firsts : Fld Z h0 c0 "com/example/meter/meter/store/Spans" "firsts" "[J" (.ref c1)) (F_c0_head : Fld Z h0 c0 "com/example/meter/meter/store/Spans" "head" "I" (.int (0 : Int32))) (F_c0_lasts : Fld Z h0 c0 "com/example/meter/meter/store/Spans" "lasts" "[J" (.ref c2)) (F_c0_totals : Fld Z h0 c0 "com/example/meter/meter/store/Spans" "totals" "[J" (.ref c3)) (n_c0 : n0 ≤ c0) (V_c1 : Arv Z h0 c1 k_c1 .long (16 : Int32) [(.long y1), (.long (0 : Int64)), (.long (0 : Int64)), (.long (0 : Int64))] (.long (0 : Int64))) (n_c1 : n0 ≤ c1) (V_c2 : Arv Z h0 c2 k_c2 .long (16 : Int32) [(.long y1), (.long (0 : Int64)), (.long (0 : Int64)), (.long (0 : Int64))] (.long (0 : Int64))) (n_c2 : n0 ≤ c2) (V_c3 : Arv Z h0 c3 k_c3 .long (16 : Int32) [(.long y2), (.long (0 : Int64)), (.long (0 : Int64)), (.long (0 : Int64))] (.long (0 : Int64))) (n_c3 : n0 ≤ c3) (ne_c0_c1 : c0 ≠ c1) (ne_c0_c2 : c0 ≠ c2) (ne_c0_c3 : c0 ≠ c3) (ne_c1_c2 : c1 ≠ c2) (ne_c1_c3 : c1 ≠ c3) (ne_c2_c3 : c2 ≠ c3) (hc108 : y0 < y1) :
    MetFree l (⟨"com/example/meter/meter/store/Spans", "dropThrough", "(J)V"⟩ : MethodName) (head1 (Jvm.Cond.code (⟨"com/example/meter/meter/store/Spans", "dropThrough", "(J)V"⟩ : MethodName) prog_11_method_10_code 3 none :: ws) ({ frames := 0, cells := 0, slots := 0, locals := 0 } : Room)) (fun a U => a = #[(.ref c0), (.long y0)] ∧ Z.Warmed39 U.vm ∧ U.heap = h0) (fun _ _ _ _ _ => True) (fun _ U o U' => ∃ v L, o = .returned v ∧ own_Q none n0 h0 v U'.heap L ∧ FrameEnd U o U' L ({ frames := 0, cells := 0, slots := 0, locals := 0 } : Room).cells ({ frames := 0, cells := 0, slots := 0, locals := 0 } : Room).slots) := by
  refine MetFree.of_bodySF (plainFor_of_name pn_0) hisR ?_
  intro p e s m args below meth c s₁ Bd hml0 hP hK
  obtain ⟨rfl, hZ, hh⟩ := hP
  have hx := Bd.exec
  have hby := Bd.bytes
  have hml : c.maxLocals = 3 := hml0
  have hlk := BodyLoose.notSynchronized Bd
  have hret := Bd.returns
  have hown : s.vm.findClass "com/example/meter/meter/store/Spans" = some m.cls := findClass_of_methodNamed Bd.named
  have hnm := (name_of_methodNamed Bd.named Bd.method).1
  have X0 : Stand p l e ({ frames := 0, cells := 0, slots := 0, locals := 0 } : Room) s m #[(.ref c0), (.long y0)] below meth c s₁ [] 0 0 := Stand.of_body Bd
  have e0 : s₁.heap = h0 := by rw [← hh, Bd.state]; rfl
  have N0 := Fr.nil n0
  rw [ef_8 m c0 y0]
  show Go p e below _ (s₁.setTop (mkF m 0 #[oA c0, oJ y0, oS] []))
  refine own_aload_n 1 X0 hx hby d8_0 rfl rfl rfl ?_
  refine own_getF 4 X0 hx hby hZ hown (own_w hw 32 rfl) e0 F_c0_head d8_1 rfl ?_
  intro T104 X104 e104
  refine own_aload_n 5 X104 hx hby d8_4 rfl rfl rfl ?_
  refine own_getF 8 X104 hx hby hZ hown (own_w hw 26 rfl) e104 F_c0_end d8_5 rfl ?_
  intro T105 X105 e105
  refine own_icN 11 X105 hx hby d8_8 rfl (by decide) ?_
  refine own_aload_n 12 X105 hx hby d8_11 rfl rfl rfl ?_
  refine own_getF 15 X105 hx hby hZ hown (own_w hw 17 rfl) e105 F_c0_lasts d8_12 rfl ?_
  intro T106 X106 e106
  refine own_aload_n 16 X106 hx hby d8_15 rfl rfl rfl ?_
  refine own_getF 19 X106 hx hby hZ hown (own_w hw 32 rfl) e106 F_c0_head d8_16 rfl ?_
  intro T107 X107 e107
  refine own_laload 20 (.long y1) X107 hx hby hZ e107 V_c2 d8_19 rfl (by decide) rfl ?_
  refine own_lload_n 21 X107 hx hby d8_20 rfl rfl ?_
  refine own_lcmp 22 (XT.cmpL y1 y0) X107 hx hby d8_21 rfl rfl ?_
  refine own_ifY 51 X107 hx hby d8_22 (by decide) (by decide) (own_tltL hc108).2.2.1 ?_
  exact own_ret0 (Q := own_Q none n0 h0) X107 hx hby hret hlk d8_51 (by decide) (by decide) ⟨rfl, N0, e107⟩
def Q_rm8_16 (Z : State) (w_NONE k_NONE : Addr) (c0 : Addr) (c1 : Addr) (k_c1 : ClassId) (c2 : Addr) (k_c2 : ClassId) (c3 : Addr) (k_c3 : ClassId) (y0 : Int64) (y1 : Int64) (y2 : Int64) (h0 : Heap) (n0 : Nat) (v : Option Value) (h : Heap) (L : List Loc) : Prop := v = none ∧ Fr n0 L ∧ Keep h0 h [c0] ∧ Exa Z h c0 "com/example/meter/meter/store/Spans" ∧ Fld Z h c0 "com/example/meter/meter/store/Spans" "droppedTotal" "J" (.long y2) ∧ Fld Z h c0 "com/example/meter/meter/store/Spans" "end" "I" (.int (1 : Int32)) ∧ Fld Z h c0 "com/example/meter/meter/store/Spans" "firsts" "[J" (.ref c1) ∧ Fld Z h c0 "com/example/meter/meter/store/Spans" "head" "I" (.int (1 : Int32)) ∧ Fld Z h c0 "com/example/meter/meter/store/Spans" "lasts" "[J" (.ref c2) ∧ Fld Z h c0 "com/example/meter/meter/store/Spans" "totals" "[J" (.ref c3) ∧ Arv Z h c1 k_c1 .long (16 : Int32) [(.long y1), (.long (0 : Int64)), (.long (0 : Int64)), (.long (0 : Int64))] (.long (0 : Int64)) ∧ Arv Z h c2 k_c2 .long (16 : Int32) [(.long y1), (.long (0 : Int64)), (.long (0 : Int64)), (.long (0 : Int64))] (.long (0 : Int64)) ∧ Arv Z h c3 k_c3 .long (16 : Int32) [(.long y2), (.long (0 : Int64)), (.long (0 : Int64)), (.long (0 : Int64))] (.long (0 : Int64))
set_option maxRecDepth 65536 in
set_option maxHeartbeats 40000000 in
theorem rm8_16 (l : Launch) (Z : State) (a0 : Array Value) (hw : ∀ d ∈ tables_1, d.before a0 Z = true) (ws : List Jvm.Cond) (w_NONE k_NONE : Addr) (W : own_W Z w_NONE k_NONE) (c0 : Addr) (c1 : Addr) (k_c1 : ClassId) (c2 : Addr) (k_c2 : ClassId) (c3 : Addr) (k_c3 : ClassId) (y0 : Int64) (y1 : Int64) (y2 : Int64) (h0 : Heap) (n0 : Nat) (O0 : Old Z n0 h0) (E_c0 : Exa Z h0 c0 "com/example/meter/meter/store/Spans") (F_c0_droppedTotal : Fld Z h0 c0 "com/example/meter/meter/store/Spans" "droppedTotal" "J" (.long (0 : Int64))) (F_c0_end : Fld Z h0 c0 "com/example/meter/meter/store/Spans" "end" "I" (.int (1 : Int32))) (F_c0_firsts : Fld Z h0 c0 "com/example/meter/meter/store/Spans" "firsts" "[J" (.ref c1)) (F_c0_head : Fld Z h0 c0 "com/example/meter/meter/store/Spans" "head" "I" (.int (0 : Int32))) (F_c0_lasts : Fld Z h0 c0 "com/example/meter/meter/store/Spans" "lasts" "[J" (.ref c2)) (F_c0_totals : Fld Z h0 c0 "com/example/meter/meter/store/Spans" "totals" "[J" (.ref c3)) (n_c0 : n0 ≤ c0) (V_c1 : Arv Z h0 c1 k_c1 .long (16 : Int32) [(.long y1), (.long (0 : Int64)), (.long (0 : Int64)), (.long (0 : Int64))] (.long (0 : Int64))) (n_c1 : n0 ≤ c1) (V_c2 : Arv Z h0 c2 k_c2 .long (16 : Int32) [(.long y1), (.long (0 : Int64)), (.long (0 : Int64)), (.long (0 : Int64))] (.long (0 : Int64))) (n_c2 : n0 ≤ c2) (V_c3 : Arv Z h0 c3 k_c3 .long (16 : Int32) [(.long y2), (.long (0 : Int64)), (.long (0 : Int64)), (.long (0 : Int64))] (.long (0 : Int64))) (n_c3 : n0 ≤ c3) (ne_c0_c1 : c0 ≠ c1) (ne_c0_c2 : c0 ≠ c2) (ne_c0_c3 : c0 ≠ c3) (ne_c1_c2 : c1 ≠ c2) (ne_c1_c3 : c1 ≠ c3) (ne_c2_c3 : c2 ≠ c3) (hc108 : ¬ (y0 < y1)) :
    MetFree l (⟨"com/example/meter/meter/store/Spans", "dropThrough", "(J)V"⟩ : MethodName) (head1 (Jvm.Cond.code (⟨"com/example/meter/meter/store/Spans", "dropThrough", "(J)V"⟩ : MethodName) prog_11_method_10_code 3 none :: ws) ({ frames := 0, cells := 0, slots := 0, locals := 0 } : Room)) (fun a U => a = #[(.ref c0), (.long y0)] ∧ Z.Warmed39 U.vm ∧ U.heap = h0) (fun _ _ _ _ _ => True) (fun _ U o U' => ∃ v L, o = .returned v ∧ Q_rm8_16 Z w_NONE k_NONE c0 c1 k_c1 c2 k_c2 c3 k_c3 y0 y1 y2 h0 n0 v U'.heap L ∧ FrameEnd U o U' L ({ frames := 0, cells := 0, slots := 0, locals := 0 } : Room).cells ({ frames := 0, cells := 0, slots := 0, locals := 0 } : Room).slots) := by
  refine MetFree.of_bodySF (plainFor_of_name pn_0) hisR ?_
  intro p e s m args below meth c s₁ Bd hml0 hP hK
  obtain ⟨rfl, hZ, hh⟩ := hP
  have hx := Bd.exec
  have hby := Bd.bytes
  have hml : c.maxLocals = 3 := hml0
  have hlk := BodyLoose.notSynchronized Bd
  have hret := Bd.returns
  have hown : s.vm.findClass "com/example/meter/meter/store/Spans" = some m.cls := findClass_of_methodNamed Bd.named
  have hnm := (name_of_methodNamed Bd.named Bd.method).1
  have X0 : Stand p l e ({ frames := 0, cells := 0, slots := 0, locals := 0 } : Room) s m #[(.ref c0), (.long y0)] below meth c s₁ [] 0 0 := Stand.of_body Bd
  have e0 : s₁.heap = h0 := by rw [← hh, Bd.state]; rfl
  have N0 := Fr.nil n0
  rw [ef_8 m c0 y0]
  show Go p e below _ (s₁.setTop (mkF m 0 #[oA c0, oJ y0, oS] []))
  refine own_aload_n 1 X0 hx hby d8_0 rfl rfl rfl ?_
  refine own_getF 4 X0 hx hby hZ hown (own_w hw 32 rfl) e0 F_c0_head d8_1 rfl ?_
  intro T104 X104 e104
  refine own_aload_n 5 X104 hx hby d8_4 rfl rfl rfl ?_
  refine own_getF 8 X104 hx hby hZ hown (own_w hw 26 rfl) e104 F_c0_end d8_5 rfl ?_
  intro T105 X105 e105
  refine own_icN 11 X105 hx hby d8_8 rfl (by decide) ?_
  refine own_aload_n 12 X105 hx hby d8_11 rfl rfl rfl ?_
  refine own_getF 15 X105 hx hby hZ hown (own_w hw 17 rfl) e105 F_c0_lasts d8_12 rfl ?_
  intro T106 X106 e106
  refine own_aload_n 16 X106 hx hby d8_15 rfl rfl rfl ?_
  refine own_getF 19 X106 hx hby hZ hown (own_w hw 32 rfl) e106 F_c0_head d8_16 rfl ?_
  intro T107 X107 e107
  refine own_laload 20 (.long y1) X107 hx hby hZ e107 V_c2 d8_19 rfl (by decide) rfl ?_
  refine own_lload_n 21 X107 hx hby d8_20 rfl rfl ?_
  refine own_lcmp 22 (XT.cmpL y1 y0) X107 hx hby d8_21 rfl rfl ?_
  refine own_ifN 25 X107 hx hby d8_22 rfl (own_fltL hc108).2.2.1 ?_
  refine own_aload_n 26 X107 hx hby d8_25 rfl rfl rfl ?_
  refine own_aload_n 27 X107 hx hby d8_26 rfl rfl rfl ?_
  refine own_getF 30 X107 hx hby hZ hown (own_w hw 19 rfl) e107 F_c0_totals d8_27 rfl ?_
  intro T109 X109 e109
  refine own_aload_n 31 X109 hx hby d8_30 rfl rfl rfl ?_
  refine own_getF 34 X109 hx hby hZ hown (own_w hw 32 rfl) e109 F_c0_head d8_31 rfl ?_
  intro T110 X110 e110
  refine own_laload 35 (.long y2) X110 hx hby hZ e110 V_c3 d8_34 rfl (by decide) rfl ?_
  refine own_putF 38 X110 hx hby hZ .long hown (own_w hw 51 rfl) e110 F_c0_droppedTotal E_c0 (Or.inl (own_w hw 52 rfl)) (own_w hw 5 rfl) (by decide) rfl rfl d8_35 rfl ?_
  intro T111 h111 X111 e111 W111
  have E_c0_111 := E_c0.wr W111
  have F_c0_droppedTotal_111 := F_c0_droppedTotal.same W111
  have F_c0_end_111 := F_c0_end.other W111 (Or.inr (slot_ne (Or.inl (own_w hw 27 rfl)) (Or.inl (own_w hw 52 rfl)) (by decide) (t := .int) (t' := .long) (by decide) (by decide)))
  have F_c0_firsts_111 := F_c0_firsts.other W111 (Or.inr (slot_ne (Or.inl (own_w hw 16 rfl)) (Or.inl (own_w hw 52 rfl)) (by decide) (t := (.array .long)) (t' := .long) (by decide) (by decide)))
  have F_c0_head_111 := F_c0_head.other W111 (Or.inr (slot_ne (Or.inl (own_w hw 33 rfl)) (Or.inl (own_w hw 52 rfl)) (by decide) (t := .int) (t' := .long) (by decide) (by decide)))
  have F_c0_lasts_111 := F_c0_lasts.other W111 (Or.inr (slot_ne (Or.inl (own_w hw 18 rfl)) (Or.inl (own_w hw 52 rfl)) (by decide) (t := (.array .long)) (t' := .long) (by decide) (by decide)))
  have F_c0_totals_111 := F_c0_totals.other W111 (Or.inr (slot_ne (Or.inl (own_w hw 20 rfl)) (Or.inl (own_w hw 52 rfl)) (by decide) (t := (.array .long)) (t' := .long) (by decide) (by decide)))
  have V_c1_111 := V_c1.other W111 (Ne.symm ne_c0_c1)
  have V_c2_111 := V_c2.other W111 (Ne.symm ne_c0_c2)
  have V_c3_111 := V_c3.other W111 (Ne.symm ne_c0_c3)
  have K111 : Keep h0 h111 [c0] := (Keep.refl h0 [c0]).wr W111 (Or.inl (List.mem_of_getElem? (i := 0) rfl))
  have O111 := O0.wr W111 n_c0
  have N111 := Fr.snoc X111 N0 n_c0
  refine own_aload_n 39 X111 hx hby d8_38 rfl rfl rfl ?_
  refine own_dup 40 X111 hx hby d8_39 rfl rfl ?_
  refine own_getF 43 X111 hx hby hZ hown (own_w hw 32 rfl) e111 F_c0_head_111 d8_40 rfl ?_
  intro T112 X112 e112
  refine own_iconst 44 (1 : Int32) X112 hx hby d8_43 rfl (by decide) ?_
  refine own_iadd 45 (1 : Int32) X112 hx hby d8_44 rfl (by decide) ?_
  refine own_putF 48 X112 hx hby hZ .int hown (own_w hw 32 rfl) e112 F_c0_head_111 E_c0_111 (Or.inl (own_w hw 33 rfl)) (own_w hw 5 rfl) (by decide) rfl rfl d8_45 rfl ?_
  intro T113 h113 X113 e113 W113
  have E_c0_113 := E_c0_111.wr W113
  have F_c0_droppedTotal_113 := F_c0_droppedTotal_111.other W113 (Or.inr (slot_ne (Or.inl (own_w hw 52 rfl)) (Or.inl (own_w hw 33 rfl)) (by decide) (t := .long) (t' := .int) (by decide) (by decide)))
  have F_c0_end_113 := F_c0_end_111.other W113 (Or.inr (slot_ne (Or.inl (own_w hw 27 rfl)) (Or.inl (own_w hw 33 rfl)) (by decide) (t := .int) (t' := .int) (by decide) (by decide)))
  have F_c0_firsts_113 := F_c0_firsts_111.other W113 (Or.inr (slot_ne (Or.inl (own_w hw 16 rfl)) (Or.inl (own_w hw 33 rfl)) (by decide) (t := (.array .long)) (t' := .int) (by decide) (by decide)))
  have F_c0_head_113 := F_c0_head_111.same W113
  have F_c0_lasts_113 := F_c0_lasts_111.other W113 (Or.inr (slot_ne (Or.inl (own_w hw 18 rfl)) (Or.inl (own_w hw 33 rfl)) (by decide) (t := (.array .long)) (t' := .int) (by decide) (by decide)))
  have F_c0_totals_113 := F_c0_totals_111.other W113 (Or.inr (slot_ne (Or.inl (own_w hw 20 rfl)) (Or.inl (own_w hw 33 rfl)) (by decide) (t := (.array .long)) (t' := .int) (by decide) (by decide)))
  have V_c1_113 := V_c1_111.other W113 (Ne.symm ne_c0_c1)
  have V_c2_113 := V_c2_111.other W113 (Ne.symm ne_c0_c2)
  have V_c3_113 := V_c3_111.other W113 (Ne.symm ne_c0_c3)
  have K113 : Keep h0 h113 [c0] := K111.wr W113 (Or.inl (List.mem_of_getElem? (i := 0) rfl))
  have O113 := O111.wr W113 n_c0
  have N113 := Fr.snoc X113 N111 n_c0
  refine own_goto 0 X113 hx hby d8_48 (by decide) (by decide) ?_
  refine own_aload_n 1 X113 hx hby d8_0 rfl rfl rfl ?_
  refine own_getF 4 X113 hx hby hZ hown (own_w hw 32 rfl) e113 F_c0_head_113 d8_1 rfl ?_
  intro T114 X114 e114
  refine own_aload_n 5 X114 hx hby d8_4 rfl rfl rfl ?_
  refine own_getF 8 X114 hx hby hZ hown (own_w hw 26 rfl) e114 F_c0_end_113 d8_5 rfl ?_
  intro T115 X115 e115
  refine own_icY 51 X115 hx hby d8_8 (by decide) (by decide) (by decide) ?_
  exact own_ret0 (Q := Q_rm8_16 Z w_NONE k_NONE c0 c1 k_c1 c2 k_c2 c3 k_c3 y0 y1 y2 h0 n0) X115 hx hby hret hlk d8_51 (by decide) (by decide) (by rw [e115]; exact ⟨rfl, N113, K113, E_c0_113, F_c0_droppedTotal_113, F_c0_end_113, F_c0_firsts_113, F_c0_head_113, F_c0_lasts_113, F_c0_totals_113, V_c1_113, V_c2_113, V_c3_113⟩)
set_option maxRecDepth 65536 in
set_option maxHeartbeats 40000000 in
theorem rm9_17 (l : Launch) (Z : State) (a0 : Array Value) (hw : ∀ d ∈ tables_1, d.before a0 Z = true) (ws : List Jvm.Cond) (w_NONE k_NONE : Addr) (W : own_W Z w_NONE k_NONE) (c0 : Addr) (c1 : Addr) (k_c1 : ClassId) (c2 : Addr) (k_c2 : ClassId) (c3 : Addr) (k_c3 : ClassId) (y0 : Int64) (y1 : Int64) (h0 : Heap) (n0 : Nat) (O0 : Old Z n0 h0) (E_c0 : Exa Z h0 c0 "com/example/meter/meter/store/Spans") (F_c0_droppedTotal : Fld Z h0 c0 "com/example/meter/meter/store/Spans" "droppedTotal" "J" (.long (0 : Int64))) (F_c0_end : Fld Z h0 c0 "com/example/meter/meter/store/Spans" "end" "I" (.int (1 : Int32))) (F_c0_firsts : Fld Z h0 c0 "com/example/meter/meter/store/Spans" "firsts" "[J" (.ref c1)) (F_c0_head : Fld Z h0 c0 "com/example/meter/meter/store/Spans" "head" "I" (.int (0 : Int32))) (F_c0_lasts : Fld Z h0 c0 "com/example/meter/meter/store/Spans" "lasts" "[J" (.ref c2)) (F_c0_totals : Fld Z h0 c0 "com/example/meter/meter/store/Spans" "totals" "[J" (.ref c3)) (n_c0 : n0 ≤ c0) (V_c1 : Arv Z h0 c1 k_c1 .long (16 : Int32) [(.long y0), (.long (0 : Int64)), (.long (0 : Int64)), (.long (0 : Int64))] (.long (0 : Int64))) (n_c1 : n0 ≤ c1) (V_c2 : Arv Z h0 c2 k_c2 .long (16 : Int32) [(.long y0), (.long (0 : Int64)), (.long (0 : Int64)), (.long (0 : Int64))] (.long (0 : Int64))) (n_c2 : n0 ≤ c2) (V_c3 : Arv Z h0 c3 k_c3 .long (16 : Int32) [(.long y1), (.long (0 : Int64)), (.long (0 : Int64)), (.long (0 : Int64))] (.long (0 : Int64))) (n_c3 : n0 ≤ c3) (ne_c0_c1 : c0 ≠ c1) (ne_c0_c2 : c0 ≠ c2) (ne_c0_c3 : c0 ≠ c3) (ne_c1_c2 : c1 ≠ c2) (ne_c1_c3 : c1 ≠ c3) (ne_c2_c3 : c2 ≠ c3) :
    MetFree l (⟨"com/example/meter/meter/store/Spans", "size", "()I"⟩ : MethodName) (head1 (Jvm.Cond.code (⟨"com/example/meter/meter/store/Spans", "size", "()I"⟩ : MethodName) prog_11_method_5_code 1 (some .int) :: ws) ({ frames := 0, cells := 0, slots := 0, locals := 0 } : Room)) (fun a U => a = #[(.ref c0)] ∧ Z.Warmed39 U.vm ∧ U.heap = h0) (fun _ _ _ _ _ => True) (fun _ U o U' => ∃ v L, o = .returned v ∧ own_Q (some (.int (1 : Int32))) n0 h0 v U'.heap L ∧ FrameEnd U o U' L ({ frames := 0, cells := 0, slots := 0, locals := 0 } : Room).cells ({ frames := 0, cells := 0, slots := 0, locals := 0 } : Room).slots) := by
  refine MetFree.of_bodySF (plainFor_of_name pn_0) hisR ?_
  intro p e s m args below meth c s₁ Bd hml0 hP hK
  obtain ⟨rfl, hZ, hh⟩ := hP
  have hx := Bd.exec
  have hby := Bd.bytes
  have hml : c.maxLocals = 1 := hml0
  have hlk := BodyLoose.notSynchronized Bd
  have hret := Bd.returns
  have hown : s.vm.findClass "com/example/meter/meter/store/Spans" = some m.cls := findClass_of_methodNamed Bd.named
  have hnm := (name_of_methodNamed Bd.named Bd.method).1
  have X0 : Stand p l e ({ frames := 0, cells := 0, slots := 0, locals := 0 } : Room) s m #[(.ref c0)] below meth c s₁ [] 0 0 := Stand.of_body Bd
  have e0 : s₁.heap = h0 := by rw [← hh, Bd.state]; rfl
  have N0 := Fr.nil n0
  rw [ef_9 m c0]
  show Go p e below _ (s₁.setTop (mkF m 0 #[oA c0] []))
  refine own_aload_n 1 X0 hx hby d9_0 rfl rfl rfl ?_
  refine own_getF 4 X0 hx hby hZ hown (own_w hw 26 rfl) e0 F_c0_end d9_1 rfl ?_
  intro T119 X119 e119
  refine own_aload_n 5 X119 hx hby d9_4 rfl rfl rfl ?_
  refine own_getF 8 X119 hx hby hZ hown (own_w hw 32 rfl) e119 F_c0_head d9_5 rfl ?_
  intro T120 X120 e120
  refine own_isub 9 (1 : Int32) X120 hx hby d9_8 rfl (by decide) ?_
  exact own_ret (Q := own_Q (some (.int (1 : Int32))) n0 h0) X120 hx hby hret hlk d9_9 rfl (Or.inl ⟨rfl, by simp, _, rfl⟩) (by decide) (by decide) ⟨rfl, N0, e120⟩
set_option maxRecDepth 65536 in
set_option maxHeartbeats 40000000 in
theorem rm7_18 (l : Launch) (Z : State) (a0 : Array Value) (hw : ∀ d ∈ tables_1, d.before a0 Z = true) (ws : List Jvm.Cond) (w_NONE k_NONE : Addr) (W : own_W Z w_NONE k_NONE) (c0 : Addr) (c1 : Addr) (k_c1 : ClassId) (c2 : Addr) (k_c2 : ClassId) (c3 : Addr) (k_c3 : ClassId) (y0 : Int64) (y1 : Int64) (h0 : Heap) (n0 : Nat) (O0 : Old Z n0 h0) (E_c0 : Exa Z h0 c0 "com/example/meter/meter/store/Spans") (F_c0_droppedTotal : Fld Z h0 c0 "com/example/meter/meter/store/Spans" "droppedTotal" "J" (.long (0 : Int64))) (F_c0_end : Fld Z h0 c0 "com/example/meter/meter/store/Spans" "end" "I" (.int (1 : Int32))) (F_c0_firsts : Fld Z h0 c0 "com/example/meter/meter/store/Spans" "firsts" "[J" (.ref c1)) (F_c0_head : Fld Z h0 c0 "com/example/meter/meter/store/Spans" "head" "I" (.int (0 : Int32))) (F_c0_lasts : Fld Z h0 c0 "com/example/meter/meter/store/Spans" "lasts" "[J" (.ref c2)) (F_c0_totals : Fld Z h0 c0 "com/example/meter/meter/store/Spans" "totals" "[J" (.ref c3)) (n_c0 : n0 ≤ c0) (V_c1 : Arv Z h0 c1 k_c1 .long (16 : Int32) [(.long y0), (.long (0 : Int64)), (.long (0 : Int64)), (.long (0 : Int64))] (.long (0 : Int64))) (n_c1 : n0 ≤ c1) (V_c2 : Arv Z h0 c2 k_c2 .long (16 : Int32) [(.long y0), (.long (0 : Int64)), (.long (0 : Int64)), (.long (0 : Int64))] (.long (0 : Int64))) (n_c2 : n0 ≤ c2) (V_c3 : Arv Z h0 c3 k_c3 .long (16 : Int32) [(.long y1), (.long (0 : Int64)), (.long (0 : Int64)), (.long (0 : Int64))] (.long (0 : Int64))) (n_c3 : n0 ≤ c3) (ne_c0_c1 : c0 ≠ c1) (ne_c0_c2 : c0 ≠ c2) (ne_c0_c3 : c0 ≠ c3) (ne_c1_c2 : c1 ≠ c2) (ne_c1_c3 : c1 ≠ c3) (ne_c2_c3 : c2 ≠ c3) :
    MetFree l (⟨"com/example/meter/meter/store/Spans", "totalBefore", "(I)J"⟩ : MethodName) (head1 (Jvm.Cond.code (⟨"com/example/meter/meter/store/Spans", "totalBefore", "(I)J"⟩ : MethodName) prog_11_method_14_code 2 (some .long) :: ws) ({ frames := 0, cells := 0, slots := 0, locals := 0 } : Room)) (fun a U => a = #[(.ref c0), (.int (1 : Int32))] ∧ Z.Warmed39 U.vm ∧ U.heap = h0) (fun _ _ _ _ _ => True) (fun _ U o U' => ∃ v L, o = .returned v ∧ own_Q (some (.long y1)) n0 h0 v U'.heap L ∧ FrameEnd U o U' L ({ frames := 0, cells := 0, slots := 0, locals := 0 } : Room).cells ({ frames := 0, cells := 0, slots := 0, locals := 0 } : Room).slots) := by
  refine MetFree.of_bodySF (plainFor_of_name pn_0) hisR ?_
  intro p e s m args below meth c s₁ Bd hml0 hP hK
  obtain ⟨rfl, hZ, hh⟩ := hP
  have hx := Bd.exec
  have hby := Bd.bytes
  have hml : c.maxLocals = 2 := hml0
  have hlk := BodyLoose.notSynchronized Bd
  have hret := Bd.returns
  have hown : s.vm.findClass "com/example/meter/meter/store/Spans" = some m.cls := findClass_of_methodNamed Bd.named
  have hnm := (name_of_methodNamed Bd.named Bd.method).1
  have X0 : Stand p l e ({ frames := 0, cells := 0, slots := 0, locals := 0 } : Room) s m #[(.ref c0), (.int (1 : Int32))] below meth c s₁ [] 0 0 := Stand.of_body Bd
  have e0 : s₁.heap = h0 := by rw [← hh, Bd.state]; rfl
  have N0 := Fr.nil n0
  rw [ef_7 m c0 (1 : Int32)]
  show Go p e below _ (s₁.setTop (mkF m 0 #[oA c0, oI (1 : Int32)] []))
  refine own_iload_n 1 X0 hx hby d7_0 rfl rfl ?_
  refine own_aload_n 2 X0 hx hby d7_1 rfl rfl rfl ?_
  refine own_getF 5 X0 hx hby hZ hown (own_w hw 32 rfl) e0 F_c0_head d7_2 rfl ?_
  intro T123 X123 e123
  refine own_icY 15 X123 hx hby d7_5 (by decide) (by decide) (by decide) ?_
  refine own_aload_n 16 X123 hx hby d7_15 rfl rfl rfl ?_
  refine own_getF 19 X123 hx hby hZ hown (own_w hw 19 rfl) e123 F_c0_totals d7_16 rfl ?_
  intro T124 X124 e124
  refine own_iload_n 20 X124 hx hby d7_19 rfl rfl ?_
  refine own_iconst 21 (1 : Int32) X124 hx hby d7_20 rfl (by decide) ?_
  refine own_isub 22 (0 : Int32) X124 hx hby d7_21 rfl (by decide) ?_
  refine own_laload 23 (.long y1) X124 hx hby hZ e124 V_c3 d7_22 rfl (by decide) rfl ?_
  exact own_ret (Q := own_Q (some (.long y1)) n0 h0) X124 hx hby hret hlk d7_23 rfl (Or.inr (Or.inl ⟨rfl, rfl, _, rfl⟩)) (by decide) (by decide) ⟨rfl, N0, e124⟩
set_option maxRecDepth 65536 in
set_option maxHeartbeats 40000000 in
theorem rm10_19 (l : Launch) (Z : State) (a0 : Array Value) (hw : ∀ d ∈ tables_1, d.before a0 Z = true) (ws : List Jvm.Cond) (w_NONE k_NONE : Addr) (W : own_W Z w_NONE k_NONE) (c0 : Addr) (c1 : Addr) (k_c1 : ClassId) (c2 : Addr) (k_c2 : ClassId) (c3 : Addr) (k_c3 : ClassId) (y0 : Int64) (y1 : Int64) (h0 : Heap) (n0 : Nat) (O0 : Old Z n0 h0) (E_c0 : Exa Z h0 c0 "com/example/meter/meter/store/Spans") (F_c0_droppedTotal : Fld Z h0 c0 "com/example/meter/meter/store/Spans" "droppedTotal" "J" (.long (0 : Int64))) (F_c0_end : Fld Z h0 c0 "com/example/meter/meter/store/Spans" "end" "I" (.int (1 : Int32))) (F_c0_firsts : Fld Z h0 c0 "com/example/meter/meter/store/Spans" "firsts" "[J" (.ref c1)) (F_c0_head : Fld Z h0 c0 "com/example/meter/meter/store/Spans" "head" "I" (.int (0 : Int32))) (F_c0_lasts : Fld Z h0 c0 "com/example/meter/meter/store/Spans" "lasts" "[J" (.ref c2)) (F_c0_totals : Fld Z h0 c0 "com/example/meter/meter/store/Spans" "totals" "[J" (.ref c3)) (n_c0 : n0 ≤ c0) (V_c1 : Arv Z h0 c1 k_c1 .long (16 : Int32) [(.long y0), (.long (0 : Int64)), (.long (0 : Int64)), (.long (0 : Int64))] (.long (0 : Int64))) (n_c1 : n0 ≤ c1) (V_c2 : Arv Z h0 c2 k_c2 .long (16 : Int32) [(.long y0), (.long (0 : Int64)), (.long (0 : Int64)), (.long (0 : Int64))] (.long (0 : Int64))) (n_c2 : n0 ≤ c2) (V_c3 : Arv Z h0 c3 k_c3 .long (16 : Int32) [(.long y1), (.long (0 : Int64)), (.long (0 : Int64)), (.long (0 : Int64))] (.long (0 : Int64))) (n_c3 : n0 ≤ c3) (ne_c0_c1 : c0 ≠ c1) (ne_c0_c2 : c0 ≠ c2) (ne_c0_c3 : c0 ≠ c3) (ne_c1_c2 : c1 ≠ c2) (ne_c1_c3 : c1 ≠ c3) (ne_c2_c3 : c2 ≠ c3) :
    MetFree l (⟨"com/example/meter/meter/store/Spans", "hits", "()J"⟩ : MethodName) (head1 (Jvm.Cond.code (⟨"com/example/meter/meter/store/Spans", "hits", "()J"⟩ : MethodName) prog_11_method_6_code 1 (some .long) :: ws) ({ frames := 1, cells := 0, slots := 0, locals := 13 } : Room)) (fun a U => a = #[(.ref c0)] ∧ Z.Warmed39 U.vm ∧ U.heap = h0) (fun _ _ _ _ _ => True) (fun _ U o U' => ∃ v L, o = .returned v ∧ own_Q (some (.long (y1 - (0 : Int64)))) n0 h0 v U'.heap L ∧ FrameEnd U o U' L ({ frames := 1, cells := 0, slots := 0, locals := 13 } : Room).cells ({ frames := 1, cells := 0, slots := 0, locals := 13 } : Room).slots) := by
  refine MetFree.of_bodySF (plainFor_of_name pn_0) hisR ?_
  intro p e s m args below meth c s₁ Bd hml0 hP hK
  obtain ⟨rfl, hZ, hh⟩ := hP
  have hx := Bd.exec
  have hby := Bd.bytes
  have hml : c.maxLocals = 1 := hml0
  have hlk := BodyLoose.notSynchronized Bd
  have hret := Bd.returns
  have hown : s.vm.findClass "com/example/meter/meter/store/Spans" = some m.cls := findClass_of_methodNamed Bd.named
  have hnm := (name_of_methodNamed Bd.named Bd.method).1
  have X0 : Stand p l e ({ frames := 1, cells := 0, slots := 0, locals := 13 } : Room) s m #[(.ref c0)] below meth c s₁ [] 0 0 := Stand.of_body Bd
  have e0 : s₁.heap = h0 := by rw [← hh, Bd.state]; rfl
  have N0 := Fr.nil n0
  rw [ef_10 m c0]
  show Go p e below _ (s₁.setTop (mkF m 0 #[oA c0] []))
  refine own_aload_n 1 X0 hx hby d10_0 rfl rfl rfl ?_
  refine own_aload_n 2 X0 hx hby d10_1 rfl rfl rfl ?_
  refine own_getF 5 X0 hx hby hZ hown (own_w hw 26 rfl) e0 F_c0_end d10_2 rfl ?_
  intro T122 X122 e122
  refine own_priv (W := 0) 8 (rm7_18 l Z a0 hw [] w_NONE k_NONE W c0 c1 k_c1 c2 k_c2 c3 k_c3 y0 y1 h0 n0 O0 E_c0 F_c0_droppedTotal F_c0_end F_c0_firsts F_c0_head F_c0_lasts F_c0_totals n_c0 V_c1 n_c1 V_c2 n_c2 V_c3 n_c3 ne_c0_c1 ne_c0_c2 ne_c0_c3 ne_c1_c2 ne_c1_c3 ne_c2_c3) X122 hx hby hZ hown (own_w hw 47 rfl) (own_w hw 48 rfl) (own_w hw 49 rfl) (own_w hw 24 rfl) (own_w hw 6 rfl) (own_w hw 50 rfl) rfl (by decide) (by rw [hml]; rfl) c0 [(.int (1 : Int32))] [] pd_3 rfl d10_5 rfl e122 E_c0 rfl rfl rfl (by decide) (by decide) (by decide) (by decide) ?_
  rintro _ T125 L125 X125 ⟨rfl, N125, e125⟩
  have N125 := Fr.app N0 N125
  show Go p e below _ (T125.setTop (mkF m 8 _ [(.long y1)]))
  refine own_aload_n 9 X125 hx hby d10_8 rfl rfl rfl ?_
  refine own_getF 12 X125 hx hby hZ hown (own_w hw 51 rfl) e125 F_c0_droppedTotal d10_9 rfl ?_
  intro T126 X126 e126
  refine own_lsub 13 (y1 - (0 : Int64)) X126 hx hby d10_12 rfl rfl ?_
  exact own_ret (Q := own_Q (some (.long (y1 - (0 : Int64)))) n0 h0) X126 hx hby hret hlk d10_13 rfl (Or.inr (Or.inl ⟨rfl, rfl, _, rfl⟩)) (by decide) (by decide) ⟨rfl, N125, e126⟩
set_option maxRecDepth 65536 in
set_option maxHeartbeats 40000000 in
theorem rm11_20 (l : Launch) (Z : State) (a0 : Array Value) (hw : ∀ d ∈ tables_1, d.before a0 Z = true) (ws : List Jvm.Cond) (w_NONE k_NONE : Addr) (W : own_W Z w_NONE k_NONE) (c0 : Addr) (c1 : Addr) (k_c1 : ClassId) (c2 : Addr) (k_c2 : ClassId) (c3 : Addr) (k_c3 : ClassId) (y0 : Int64) (y1 : Int64) (h0 : Heap) (n0 : Nat) (O0 : Old Z n0 h0) (E_c0 : Exa Z h0 c0 "com/example/meter/meter/store/Spans") (F_c0_droppedTotal : Fld Z h0 c0 "com/example/meter/meter/store/Spans" "droppedTotal" "J" (.long (0 : Int64))) (F_c0_end : Fld Z h0 c0 "com/example/meter/meter/store/Spans" "end" "I" (.int (1 : Int32))) (F_c0_firsts : Fld Z h0 c0 "com/example/meter/meter/store/Spans" "firsts" "[J" (.ref c1)) (F_c0_head : Fld Z h0 c0 "com/example/meter/meter/store/Spans" "head" "I" (.int (0 : Int32))) (F_c0_lasts : Fld Z h0 c0 "com/example/meter/meter/store/Spans" "lasts" "[J" (.ref c2)) (F_c0_totals : Fld Z h0 c0 "com/example/meter/meter/store/Spans" "totals" "[J" (.ref c3)) (n_c0 : n0 ≤ c0) (V_c1 : Arv Z h0 c1 k_c1 .long (16 : Int32) [(.long y0), (.long (0 : Int64)), (.long (0 : Int64)), (.long (0 : Int64))] (.long (0 : Int64))) (n_c1 : n0 ≤ c1) (V_c2 : Arv Z h0 c2 k_c2 .long (16 : Int32) [(.long y0), (.long (0 : Int64)), (.long (0 : Int64)), (.long (0 : Int64))] (.long (0 : Int64))) (n_c2 : n0 ≤ c2) (V_c3 : Arv Z h0 c3 k_c3 .long (16 : Int32) [(.long y1), (.long (0 : Int64)), (.long (0 : Int64)), (.long (0 : Int64))] (.long (0 : Int64))) (n_c3 : n0 ≤ c3) (ne_c0_c1 : c0 ≠ c1) (ne_c0_c2 : c0 ≠ c2) (ne_c0_c3 : c0 ≠ c3) (ne_c1_c2 : c1 ≠ c2) (ne_c1_c3 : c1 ≠ c3) (ne_c2_c3 : c2 ≠ c3) :
    MetFree l (⟨"com/example/meter/meter/store/Spans", "newestSecond", "()J"⟩ : MethodName) (head1 (Jvm.Cond.code (⟨"com/example/meter/meter/store/Spans", "newestSecond", "()J"⟩ : MethodName) prog_11_method_7_code 1 (some .long) :: ws) ({ frames := 0, cells := 0, slots := 0, locals := 0 } : Room)) (fun a U => a = #[(.ref c0)] ∧ Z.Warmed39 U.vm ∧ U.heap = h0) (fun _ _ _ _ _ => True) (fun _ U o U' => ∃ v L, o = .returned v ∧ own_Q (some (.long y0)) n0 h0 v U'.heap L ∧ FrameEnd U o U' L ({ frames := 0, cells := 0, slots := 0, locals := 0 } : Room).cells ({ frames := 0, cells := 0, slots := 0, locals := 0 } : Room).slots) := by
  refine MetFree.of_bodySF (plainFor_of_name pn_0) hisR ?_
  intro p e s m args below meth c s₁ Bd hml0 hP hK
  obtain ⟨rfl, hZ, hh⟩ := hP
  have hx := Bd.exec
  have hby := Bd.bytes
  have hml : c.maxLocals = 1 := hml0
  have hlk := BodyLoose.notSynchronized Bd
  have hret := Bd.returns
  have hown : s.vm.findClass "com/example/meter/meter/store/Spans" = some m.cls := findClass_of_methodNamed Bd.named
  have hnm := (name_of_methodNamed Bd.named Bd.method).1
  have X0 : Stand p l e ({ frames := 0, cells := 0, slots := 0, locals := 0 } : Room) s m #[(.ref c0)] below meth c s₁ [] 0 0 := Stand.of_body Bd
  have e0 : s₁.heap = h0 := by rw [← hh, Bd.state]; rfl
  have N0 := Fr.nil n0
  rw [ef_11 m c0]
  show Go p e below _ (s₁.setTop (mkF m 0 #[oA c0] []))
  refine own_aload_n 1 X0 hx hby d11_0 rfl rfl rfl ?_
  refine own_getF 4 X0 hx hby hZ hown (own_w hw 32 rfl) e0 F_c0_head d11_1 rfl ?_
  intro T128 X128 e128
  refine own_aload_n 5 X128 hx hby d11_4 rfl rfl rfl ?_
  refine own_getF 8 X128 hx hby hZ hown (own_w hw 26 rfl) e128 F_c0_end d11_5 rfl ?_
  intro T129 X129 e129
  refine own_icY 17 X129 hx hby d11_8 (by decide) (by decide) (by decide) ?_
  refine own_aload_n 18 X129 hx hby d11_17 rfl rfl rfl ?_
  refine own_getF 21 X129 hx hby hZ hown (own_w hw 17 rfl) e129 F_c0_lasts d11_18 rfl ?_
  intro T130 X130 e130
  refine own_aload_n 22 X130 hx hby d11_21 rfl rfl rfl ?_
  refine own_getF 25 X130 hx hby hZ hown (own_w hw 26 rfl) e130 F_c0_end d11_22 rfl ?_
  intro T131 X131 e131
  refine own_iconst 26 (1 : Int32) X131 hx hby d11_25 rfl (by decide) ?_
  refine own_isub 27 (0 : Int32) X131 hx hby d11_26 rfl (by decide) ?_
  refine own_laload 28 (.long y0) X131 hx hby hZ e131 V_c2 d11_27 rfl (by decide) rfl ?_
  exact own_ret (Q := own_Q (some (.long y0)) n0 h0) X131 hx hby hret hlk d11_28 rfl (Or.inr (Or.inl ⟨rfl, rfl, _, rfl⟩)) (by decide) (by decide) ⟨rfl, N0, e131⟩
set_option maxRecDepth 65536 in
set_option maxHeartbeats 40000000 in
theorem rm12_21 (l : Launch) (Z : State) (a0 : Array Value) (hw : ∀ d ∈ tables_1, d.before a0 Z = true) (ws : List Jvm.Cond) (w_NONE k_NONE : Addr) (W : own_W Z w_NONE k_NONE) (c0 : Addr) (c1 : Addr) (k_c1 : ClassId) (c2 : Addr) (k_c2 : ClassId) (c3 : Addr) (k_c3 : ClassId) (y0 : Int64) (y1 : Int64) (y2 : Int64) (h0 : Heap) (n0 : Nat) (O0 : Old Z n0 h0) (E_c0 : Exa Z h0 c0 "com/example/meter/meter/store/Spans") (F_c0_droppedTotal : Fld Z h0 c0 "com/example/meter/meter/store/Spans" "droppedTotal" "J" (.long (0 : Int64))) (F_c0_end : Fld Z h0 c0 "com/example/meter/meter/store/Spans" "end" "I" (.int (1 : Int32))) (F_c0_firsts : Fld Z h0 c0 "com/example/meter/meter/store/Spans" "firsts" "[J" (.ref c1)) (F_c0_head : Fld Z h0 c0 "com/example/meter/meter/store/Spans" "head" "I" (.int (0 : Int32))) (F_c0_lasts : Fld Z h0 c0 "com/example/meter/meter/store/Spans" "lasts" "[J" (.ref c2)) (F_c0_totals : Fld Z h0 c0 "com/example/meter/meter/store/Spans" "totals" "[J" (.ref c3)) (n_c0 : n0 ≤ c0) (V_c1 : Arv Z h0 c1 k_c1 .long (16 : Int32) [(.long y1), (.long (0 : Int64)), (.long (0 : Int64)), (.long (0 : Int64))] (.long (0 : Int64))) (n_c1 : n0 ≤ c1) (V_c2 : Arv Z h0 c2 k_c2 .long (16 : Int32) [(.long y1), (.long (0 : Int64)), (.long (0 : Int64)), (.long (0 : Int64))] (.long (0 : Int64))) (n_c2 : n0 ≤ c2) (V_c3 : Arv Z h0 c3 k_c3 .long (16 : Int32) [(.long y2), (.long (0 : Int64)), (.long (0 : Int64)), (.long (0 : Int64))] (.long (0 : Int64))) (n_c3 : n0 ≤ c3) (ne_c0_c1 : c0 ≠ c1) (ne_c0_c2 : c0 ≠ c2) (ne_c0_c3 : c0 ≠ c3) (ne_c1_c2 : c1 ≠ c2) (ne_c1_c3 : c1 ≠ c3) (ne_c2_c3 : c2 ≠ c3) (hc137 : y0 < y1) :
    MetFree l (⟨"com/example/meter/meter/store/Spans", "endsAfter", "(J)Z"⟩ : MethodName) (head1 (Jvm.Cond.code (⟨"com/example/meter/meter/store/Spans", "endsAfter", "(J)Z"⟩ : MethodName) prog_11_method_8_code 3 (some .boolean) :: ws) ({ frames := 0, cells := 0, slots := 0, locals := 0 } : Room)) (fun a U => a = #[(.ref c0), (.long y0)] ∧ Z.Warmed39 U.vm ∧ U.heap = h0) (fun _ _ _ _ _ => True) (fun _ U o U' => ∃ v L, o = .returned v ∧ own_Q (some (.int (1 : Int32))) n0 h0 v U'.heap L ∧ FrameEnd U o U' L ({ frames := 0, cells := 0, slots := 0, locals := 0 } : Room).cells ({ frames := 0, cells := 0, slots := 0, locals := 0 } : Room).slots) := by
  refine MetFree.of_bodySF (plainFor_of_name pn_0) hisR ?_
  intro p e s m args below meth c s₁ Bd hml0 hP hK
  obtain ⟨rfl, hZ, hh⟩ := hP
  have hx := Bd.exec
  have hby := Bd.bytes
  have hml : c.maxLocals = 3 := hml0
  have hlk := BodyLoose.notSynchronized Bd
  have hret := Bd.returns
  have hown : s.vm.findClass "com/example/meter/meter/store/Spans" = some m.cls := findClass_of_methodNamed Bd.named
  have hnm := (name_of_methodNamed Bd.named Bd.method).1
  have X0 : Stand p l e ({ frames := 0, cells := 0, slots := 0, locals := 0 } : Room) s m #[(.ref c0), (.long y0)] below meth c s₁ [] 0 0 := Stand.of_body Bd
  have e0 : s₁.heap = h0 := by rw [← hh, Bd.state]; rfl
  have N0 := Fr.nil n0
  rw [ef_12 m c0 y0]
  show Go p e below _ (s₁.setTop (mkF m 0 #[oA c0, oJ y0, oS] []))
  refine own_aload_n 1 X0 hx hby d12_0 rfl rfl rfl ?_
  refine own_getF 4 X0 hx hby hZ hown (own_w hw 32 rfl) e0 F_c0_head d12_1 rfl ?_
  intro T133 X133 e133
  refine own_aload_n 5 X133 hx hby d12_4 rfl rfl rfl ?_
  refine own_getF 8 X133 hx hby hZ hown (own_w hw 26 rfl) e133 F_c0_end d12_5 rfl ?_
  intro T134 X134 e134
  refine own_icN 11 X134 hx hby d12_8 rfl (by decide) ?_
  refine own_aload_n 12 X134 hx hby d12_11 rfl rfl rfl ?_
  refine own_getF 15 X134 hx hby hZ hown (own_w hw 17 rfl) e134 F_c0_lasts d12_12 rfl ?_
  intro T135 X135 e135
  refine own_aload_n 16 X135 hx hby d12_15 rfl rfl rfl ?_
  refine own_getF 19 X135 hx hby hZ hown (own_w hw 32 rfl) e135 F_c0_head d12_16 rfl ?_
  intro T136 X136 e136
  refine own_laload 20 (.long y1) X136 hx hby hZ e136 V_c2 d12_19 rfl (by decide) rfl ?_
  refine own_lload_n 21 X136 hx hby d12_20 rfl rfl ?_
  refine own_lcmp 22 (XT.cmpL y1 y0) X136 hx hby d12_21 rfl rfl ?_
  refine own_ifN 25 X136 hx hby d12_22 rfl (own_tltL hc137).2.2.2 ?_
  refine own_iconst 26 (1 : Int32) X136 hx hby d12_25 rfl (by decide) ?_
  refine own_goto 30 X136 hx hby d12_26 (by decide) (by decide) ?_
  exact own_ret (Q := own_Q (some (.int (1 : Int32))) n0 h0) X136 hx hby hret hlk d12_30 rfl (Or.inl ⟨rfl, by simp, _, rfl⟩) (by decide) (by decide) ⟨rfl, N0, e136⟩
set_option maxRecDepth 65536 in
set_option maxHeartbeats 40000000 in
theorem rm12_22 (l : Launch) (Z : State) (a0 : Array Value) (hw : ∀ d ∈ tables_1, d.before a0 Z = true) (ws : List Jvm.Cond) (w_NONE k_NONE : Addr) (W : own_W Z w_NONE k_NONE) (c0 : Addr) (c1 : Addr) (k_c1 : ClassId) (c2 : Addr) (k_c2 : ClassId) (c3 : Addr) (k_c3 : ClassId) (y0 : Int64) (y1 : Int64) (y2 : Int64) (h0 : Heap) (n0 : Nat) (O0 : Old Z n0 h0) (E_c0 : Exa Z h0 c0 "com/example/meter/meter/store/Spans") (F_c0_droppedTotal : Fld Z h0 c0 "com/example/meter/meter/store/Spans" "droppedTotal" "J" (.long (0 : Int64))) (F_c0_end : Fld Z h0 c0 "com/example/meter/meter/store/Spans" "end" "I" (.int (1 : Int32))) (F_c0_firsts : Fld Z h0 c0 "com/example/meter/meter/store/Spans" "firsts" "[J" (.ref c1)) (F_c0_head : Fld Z h0 c0 "com/example/meter/meter/store/Spans" "head" "I" (.int (0 : Int32))) (F_c0_lasts : Fld Z h0 c0 "com/example/meter/meter/store/Spans" "lasts" "[J" (.ref c2)) (F_c0_totals : Fld Z h0 c0 "com/example/meter/meter/store/Spans" "totals" "[J" (.ref c3)) (n_c0 : n0 ≤ c0) (V_c1 : Arv Z h0 c1 k_c1 .long (16 : Int32) [(.long y1), (.long (0 : Int64)), (.long (0 : Int64)), (.long (0 : Int64))] (.long (0 : Int64))) (n_c1 : n0 ≤ c1) (V_c2 : Arv Z h0 c2 k_c2 .long (16 : Int32) [(.long y1), (.long (0 : Int64)), (.long (0 : Int64)), (.long (0 : Int64))] (.long (0 : Int64))) (n_c2 : n0 ≤ c2) (V_c3 : Arv Z h0 c3 k_c3 .long (16 : Int32) [(.long y2), (.long (0 : Int64)), (.long (0 : Int64)), (.long (0 : Int64))] (.long (0 : Int64))) (n_c3 : n0 ≤ c3) (ne_c0_c1 : c0 ≠ c1) (ne_c0_c2 : c0 ≠ c2) (ne_c0_c3 : c0 ≠ c3) (ne_c1_c2 : c1 ≠ c2) (ne_c1_c3 : c1 ≠ c3) (ne_c2_c3 : c2 ≠ c3) (hc137 : ¬ (y0 < y1)) :
    MetFree l (⟨"com/example/meter/meter/store/Spans", "endsAfter", "(J)Z"⟩ : MethodName) (head1 (Jvm.Cond.code (⟨"com/example/meter/meter/store/Spans", "endsAfter", "(J)Z"⟩ : MethodName) prog_11_method_8_code 3 (some .boolean) :: ws) ({ frames := 0, cells := 0, slots := 0, locals := 0 } : Room)) (fun a U => a = #[(.ref c0), (.long y0)] ∧ Z.Warmed39 U.vm ∧ U.heap = h0) (fun _ _ _ _ _ => True) (fun _ U o U' => ∃ v L, o = .returned v ∧ own_Q (some (.int (0 : Int32))) n0 h0 v U'.heap L ∧ FrameEnd U o U' L ({ frames := 0, cells := 0, slots := 0, locals := 0 } : Room).cells ({ frames := 0, cells := 0, slots := 0, locals := 0 } : Room).slots) := by
  refine MetFree.of_bodySF (plainFor_of_name pn_0) hisR ?_
  intro p e s m args below meth c s₁ Bd hml0 hP hK
  obtain ⟨rfl, hZ, hh⟩ := hP
  have hx := Bd.exec
  have hby := Bd.bytes
  have hml : c.maxLocals = 3 := hml0
  have hlk := BodyLoose.notSynchronized Bd
  have hret := Bd.returns
  have hown : s.vm.findClass "com/example/meter/meter/store/Spans" = some m.cls := findClass_of_methodNamed Bd.named
  have hnm := (name_of_methodNamed Bd.named Bd.method).1
  have X0 : Stand p l e ({ frames := 0, cells := 0, slots := 0, locals := 0 } : Room) s m #[(.ref c0), (.long y0)] below meth c s₁ [] 0 0 := Stand.of_body Bd
  have e0 : s₁.heap = h0 := by rw [← hh, Bd.state]; rfl
  have N0 := Fr.nil n0
  rw [ef_12 m c0 y0]
  show Go p e below _ (s₁.setTop (mkF m 0 #[oA c0, oJ y0, oS] []))
  refine own_aload_n 1 X0 hx hby d12_0 rfl rfl rfl ?_
  refine own_getF 4 X0 hx hby hZ hown (own_w hw 32 rfl) e0 F_c0_head d12_1 rfl ?_
  intro T133 X133 e133
  refine own_aload_n 5 X133 hx hby d12_4 rfl rfl rfl ?_
  refine own_getF 8 X133 hx hby hZ hown (own_w hw 26 rfl) e133 F_c0_end d12_5 rfl ?_
  intro T134 X134 e134
  refine own_icN 11 X134 hx hby d12_8 rfl (by decide) ?_
  refine own_aload_n 12 X134 hx hby d12_11 rfl rfl rfl ?_
  refine own_getF 15 X134 hx hby hZ hown (own_w hw 17 rfl) e134 F_c0_lasts d12_12 rfl ?_
  intro T135 X135 e135
  refine own_aload_n 16 X135 hx hby d12_15 rfl rfl rfl ?_
  refine own_getF 19 X135 hx hby hZ hown (own_w hw 32 rfl) e135 F_c0_head d12_16 rfl ?_
  intro T136 X136 e136
  refine own_laload 20 (.long y1) X136 hx hby hZ e136 V_c2 d12_19 rfl (by decide) rfl ?_
  refine own_lload_n 21 X136 hx hby d12_20 rfl rfl ?_
  refine own_lcmp 22 (XT.cmpL y1 y0) X136 hx hby d12_21 rfl rfl ?_
  refine own_ifY 29 X136 hx hby d12_22 (by decide) (by decide) (own_fltL hc137).2.2.2 ?_
  refine own_iconst 30 (0 : Int32) X136 hx hby d12_29 rfl (by decide) ?_
  exact own_ret (Q := own_Q (some (.int (0 : Int32))) n0 h0) X136 hx hby hret hlk d12_30 rfl (Or.inl ⟨rfl, by simp, _, rfl⟩) (by decide) (by decide) ⟨rfl, N0, e136⟩
set_option maxRecDepth 65536 in
set_option maxHeartbeats 40000000 in
theorem rm9_23 (l : Launch) (Z : State) (a0 : Array Value) (hw : ∀ d ∈ tables_1, d.before a0 Z = true) (ws : List Jvm.Cond) (w_NONE k_NONE : Addr) (W : own_W Z w_NONE k_NONE) (c0 : Addr) (c1 : Addr) (k_c1 : ClassId) (c2 : Addr) (k_c2 : ClassId) (c3 : Addr) (k_c3 : ClassId) (y0 : Int64) (y1 : Int64) (h0 : Heap) (n0 : Nat) (O0 : Old Z n0 h0) (E_c0 : Exa Z h0 c0 "com/example/meter/meter/store/Spans") (F_c0_droppedTotal : Fld Z h0 c0 "com/example/meter/meter/store/Spans" "droppedTotal" "J" (.long y0)) (F_c0_end : Fld Z h0 c0 "com/example/meter/meter/store/Spans" "end" "I" (.int (1 : Int32))) (F_c0_firsts : Fld Z h0 c0 "com/example/meter/meter/store/Spans" "firsts" "[J" (.ref c1)) (F_c0_head : Fld Z h0 c0 "com/example/meter/meter/store/Spans" "head" "I" (.int (1 : Int32))) (F_c0_lasts : Fld Z h0 c0 "com/example/meter/meter/store/Spans" "lasts" "[J" (.ref c2)) (F_c0_totals : Fld Z h0 c0 "com/example/meter/meter/store/Spans" "totals" "[J" (.ref c3)) (n_c0 : n0 ≤ c0) (V_c1 : Arv Z h0 c1 k_c1 .long (16 : Int32) [(.long y1), (.long (0 : Int64)), (.long (0 : Int64)), (.long (0 : Int64))] (.long (0 : Int64))) (n_c1 : n0 ≤ c1) (V_c2 : Arv Z h0 c2 k_c2 .long (16 : Int32) [(.long y1), (.long (0 : Int64)), (.long (0 : Int64)), (.long (0 : Int64))] (.long (0 : Int64))) (n_c2 : n0 ≤ c2) (V_c3 : Arv Z h0 c3 k_c3 .long (16 : Int32) [(.long y0), (.long (0 : Int64)), (.long (0 : Int64)), (.long (0 : Int64))] (.long (0 : Int64))) (n_c3 : n0 ≤ c3) (ne_c0_c1 : c0 ≠ c1) (ne_c0_c2 : c0 ≠ c2) (ne_c0_c3 : c0 ≠ c3) (ne_c1_c2 : c1 ≠ c2) (ne_c1_c3 : c1 ≠ c3) (ne_c2_c3 : c2 ≠ c3) :
    MetFree l (⟨"com/example/meter/meter/store/Spans", "size", "()I"⟩ : MethodName) (head1 (Jvm.Cond.code (⟨"com/example/meter/meter/store/Spans", "size", "()I"⟩ : MethodName) prog_11_method_5_code 1 (some .int) :: ws) ({ frames := 0, cells := 0, slots := 0, locals := 0 } : Room)) (fun a U => a = #[(.ref c0)] ∧ Z.Warmed39 U.vm ∧ U.heap = h0) (fun _ _ _ _ _ => True) (fun _ U o U' => ∃ v L, o = .returned v ∧ own_Q (some (.int (0 : Int32))) n0 h0 v U'.heap L ∧ FrameEnd U o U' L ({ frames := 0, cells := 0, slots := 0, locals := 0 } : Room).cells ({ frames := 0, cells := 0, slots := 0, locals := 0 } : Room).slots) := by
  refine MetFree.of_bodySF (plainFor_of_name pn_0) hisR ?_
  intro p e s m args below meth c s₁ Bd hml0 hP hK
  obtain ⟨rfl, hZ, hh⟩ := hP
  have hx := Bd.exec
  have hby := Bd.bytes
  have hml : c.maxLocals = 1 := hml0
  have hlk := BodyLoose.notSynchronized Bd
  have hret := Bd.returns
  have hown : s.vm.findClass "com/example/meter/meter/store/Spans" = some m.cls := findClass_of_methodNamed Bd.named
  have hnm := (name_of_methodNamed Bd.named Bd.method).1
  have X0 : Stand p l e ({ frames := 0, cells := 0, slots := 0, locals := 0 } : Room) s m #[(.ref c0)] below meth c s₁ [] 0 0 := Stand.of_body Bd
  have e0 : s₁.heap = h0 := by rw [← hh, Bd.state]; rfl
  have N0 := Fr.nil n0
  rw [ef_9 m c0]
  show Go p e below _ (s₁.setTop (mkF m 0 #[oA c0] []))
  refine own_aload_n 1 X0 hx hby d9_0 rfl rfl rfl ?_
  refine own_getF 4 X0 hx hby hZ hown (own_w hw 26 rfl) e0 F_c0_end d9_1 rfl ?_
  intro T140 X140 e140
  refine own_aload_n 5 X140 hx hby d9_4 rfl rfl rfl ?_
  refine own_getF 8 X140 hx hby hZ hown (own_w hw 32 rfl) e140 F_c0_head d9_5 rfl ?_
  intro T141 X141 e141
  refine own_isub 9 (0 : Int32) X141 hx hby d9_8 rfl (by decide) ?_
  exact own_ret (Q := own_Q (some (.int (0 : Int32))) n0 h0) X141 hx hby hret hlk d9_9 rfl (Or.inl ⟨rfl, by simp, _, rfl⟩) (by decide) (by decide) ⟨rfl, N0, e141⟩
set_option maxRecDepth 65536 in
set_option maxHeartbeats 40000000 in
theorem rm7_24 (l : Launch) (Z : State) (a0 : Array Value) (hw : ∀ d ∈ tables_1, d.before a0 Z = true) (ws : List Jvm.Cond) (w_NONE k_NONE : Addr) (W : own_W Z w_NONE k_NONE) (c0 : Addr) (c1 : Addr) (k_c1 : ClassId) (c2 : Addr) (k_c2 : ClassId) (c3 : Addr) (k_c3 : ClassId) (y0 : Int64) (y1 : Int64) (h0 : Heap) (n0 : Nat) (O0 : Old Z n0 h0) (E_c0 : Exa Z h0 c0 "com/example/meter/meter/store/Spans") (F_c0_droppedTotal : Fld Z h0 c0 "com/example/meter/meter/store/Spans" "droppedTotal" "J" (.long y0)) (F_c0_end : Fld Z h0 c0 "com/example/meter/meter/store/Spans" "end" "I" (.int (1 : Int32))) (F_c0_firsts : Fld Z h0 c0 "com/example/meter/meter/store/Spans" "firsts" "[J" (.ref c1)) (F_c0_head : Fld Z h0 c0 "com/example/meter/meter/store/Spans" "head" "I" (.int (1 : Int32))) (F_c0_lasts : Fld Z h0 c0 "com/example/meter/meter/store/Spans" "lasts" "[J" (.ref c2)) (F_c0_totals : Fld Z h0 c0 "com/example/meter/meter/store/Spans" "totals" "[J" (.ref c3)) (n_c0 : n0 ≤ c0) (V_c1 : Arv Z h0 c1 k_c1 .long (16 : Int32) [(.long y1), (.long (0 : Int64)), (.long (0 : Int64)), (.long (0 : Int64))] (.long (0 : Int64))) (n_c1 : n0 ≤ c1) (V_c2 : Arv Z h0 c2 k_c2 .long (16 : Int32) [(.long y1), (.long (0 : Int64)), (.long (0 : Int64)), (.long (0 : Int64))] (.long (0 : Int64))) (n_c2 : n0 ≤ c2) (V_c3 : Arv Z h0 c3 k_c3 .long (16 : Int32) [(.long y0), (.long (0 : Int64)), (.long (0 : Int64)), (.long (0 : Int64))] (.long (0 : Int64))) (n_c3 : n0 ≤ c3) (ne_c0_c1 : c0 ≠ c1) (ne_c0_c2 : c0 ≠ c2) (ne_c0_c3 : c0 ≠ c3) (ne_c1_c2 : c1 ≠ c2) (ne_c1_c3 : c1 ≠ c3) (ne_c2_c3 : c2 ≠ c3) :
    MetFree l (⟨"com/example/meter/meter/store/Spans", "totalBefore", "(I)J"⟩ : MethodName) (head1 (Jvm.Cond.code (⟨"com/example/meter/meter/store/Spans", "totalBefore", "(I)J"⟩ : MethodName) prog_11_method_14_code 2 (some .long) :: ws) ({ frames := 0, cells := 0, slots := 0, locals := 0 } : Room)) (fun a U => a = #[(.ref c0), (.int (1 : Int32))] ∧ Z.Warmed39 U.vm ∧ U.heap = h0) (fun _ _ _ _ _ => True) (fun _ U o U' => ∃ v L, o = .returned v ∧ own_Q (some (.long y0)) n0 h0 v U'.heap L ∧ FrameEnd U o U' L ({ frames := 0, cells := 0, slots := 0, locals := 0 } : Room).cells ({ frames := 0, cells := 0, slots := 0, locals := 0 } : Room).slots) := by
  refine MetFree.of_bodySF (plainFor_of_name pn_0) hisR ?_
  intro p e s m args below meth c s₁ Bd hml0 hP hK
  obtain ⟨rfl, hZ, hh⟩ := hP
  have hx := Bd.exec
  have hby := Bd.bytes
  have hml : c.maxLocals = 2 := hml0
  have hlk := BodyLoose.notSynchronized Bd
  have hret := Bd.returns
  have hown : s.vm.findClass "com/example/meter/meter/store/Spans" = some m.cls := findClass_of_methodNamed Bd.named
  have hnm := (name_of_methodNamed Bd.named Bd.method).1
  have X0 : Stand p l e ({ frames := 0, cells := 0, slots := 0, locals := 0 } : Room) s m #[(.ref c0), (.int (1 : Int32))] below meth c s₁ [] 0 0 := Stand.of_body Bd
  have e0 : s₁.heap = h0 := by rw [← hh, Bd.state]; rfl
  have N0 := Fr.nil n0
  rw [ef_7 m c0 (1 : Int32)]
  show Go p e below _ (s₁.setTop (mkF m 0 #[oA c0, oI (1 : Int32)] []))
  refine own_iload_n 1 X0 hx hby d7_0 rfl rfl ?_
  refine own_aload_n 2 X0 hx hby d7_1 rfl rfl rfl ?_
  refine own_getF 5 X0 hx hby hZ hown (own_w hw 32 rfl) e0 F_c0_head d7_2 rfl ?_
  intro T144 X144 e144
  refine own_icN 8 X144 hx hby d7_5 rfl (by decide) ?_
  refine own_aload_n 9 X144 hx hby d7_8 rfl rfl rfl ?_
  refine own_getF 12 X144 hx hby hZ hown (own_w hw 51 rfl) e144 F_c0_droppedTotal d7_9 rfl ?_
  intro T145 X145 e145
  refine own_goto 23 X145 hx hby d7_12 (by decide) (by decide) ?_
  exact own_ret (Q := own_Q (some (.long y0)) n0 h0) X145 hx hby hret hlk d7_23 rfl (Or.inr (Or.inl ⟨rfl, rfl, _, rfl⟩)) (by decide) (by decide) ⟨rfl, N0, e145⟩
set_option maxRecDepth 65536 in
set_option maxHeartbeats 40000000 in
theorem rm10_25 (l : Launch) (Z : State) (a0 : Array Value) (hw : ∀ d ∈ tables_1, d.before a0 Z = true) (ws : List Jvm.Cond) (w_NONE k_NONE : Addr) (W : own_W Z w_NONE k_NONE) (c0 : Addr) (c1 : Addr) (k_c1 : ClassId) (c2 : Addr) (k_c2 : ClassId) (c3 : Addr) (k_c3 : ClassId) (y0 : Int64) (y1 : Int64) (h0 : Heap) (n0 : Nat) (O0 : Old Z n0 h0) (E_c0 : Exa Z h0 c0 "com/example/meter/meter/store/Spans") (F_c0_droppedTotal : Fld Z h0 c0 "com/example/meter/meter/store/Spans" "droppedTotal" "J" (.long y0)) (F_c0_end : Fld Z h0 c0 "com/example/meter/meter/store/Spans" "end" "I" (.int (1 : Int32))) (F_c0_firsts : Fld Z h0 c0 "com/example/meter/meter/store/Spans" "firsts" "[J" (.ref c1)) (F_c0_head : Fld Z h0 c0 "com/example/meter/meter/store/Spans" "head" "I" (.int (1 : Int32))) (F_c0_lasts : Fld Z h0 c0 "com/example/meter/meter/store/Spans" "lasts" "[J" (.ref c2)) (F_c0_totals : Fld Z h0 c0 "com/example/meter/meter/store/Spans" "totals" "[J" (.ref c3)) (n_c0 : n0 ≤ c0) (V_c1 : Arv Z h0 c1 k_c1 .long (16 : Int32) [(.long y1), (.long (0 : Int64)), (.long (0 : Int64)), (.long (0 : Int64))] (.long (0 : Int64))) (n_c1 : n0 ≤ c1) (V_c2 : Arv Z h0 c2 k_c2 .long (16 : Int32) [(.long y1), (.long (0 : Int64)), (.long (0 : Int64)), (.long (0 : Int64))] (.long (0 : Int64))) (n_c2 : n0 ≤ c2) (V_c3 : Arv Z h0 c3 k_c3 .long (16 : Int32) [(.long y0), (.long (0 : Int64)), (.long (0 : Int64)), (.long (0 : Int64))] (.long (0 : Int64))) (n_c3 : n0 ≤ c3) (ne_c0_c1 : c0 ≠ c1) (ne_c0_c2 : c0 ≠ c2) (ne_c0_c3 : c0 ≠ c3) (ne_c1_c2 : c1 ≠ c2) (ne_c1_c3 : c1 ≠ c3) (ne_c2_c3 : c2 ≠ c3) :
    MetFree l (⟨"com/example/meter/meter/store/Spans", "hits", "()J"⟩ : MethodName) (head1 (Jvm.Cond.code (⟨"com/example/meter/meter/store/Spans", "hits", "()J"⟩ : MethodName) prog_11_method_6_code 1 (some .long) :: ws) ({ frames := 1, cells := 0, slots := 0, locals := 13 } : Room)) (fun a U => a = #[(.ref c0)] ∧ Z.Warmed39 U.vm ∧ U.heap = h0) (fun _ _ _ _ _ => True) (fun _ U o U' => ∃ v L, o = .returned v ∧ own_Q (some (.long (y0 - y0))) n0 h0 v U'.heap L ∧ FrameEnd U o U' L ({ frames := 1, cells := 0, slots := 0, locals := 13 } : Room).cells ({ frames := 1, cells := 0, slots := 0, locals := 13 } : Room).slots) := by
  refine MetFree.of_bodySF (plainFor_of_name pn_0) hisR ?_
  intro p e s m args below meth c s₁ Bd hml0 hP hK
  obtain ⟨rfl, hZ, hh⟩ := hP
  have hx := Bd.exec
  have hby := Bd.bytes
  have hml : c.maxLocals = 1 := hml0
  have hlk := BodyLoose.notSynchronized Bd
  have hret := Bd.returns
  have hown : s.vm.findClass "com/example/meter/meter/store/Spans" = some m.cls := findClass_of_methodNamed Bd.named
  have hnm := (name_of_methodNamed Bd.named Bd.method).1
  have X0 : Stand p l e ({ frames := 1, cells := 0, slots := 0, locals := 13 } : Room) s m #[(.ref c0)] below meth c s₁ [] 0 0 := Stand.of_body Bd
  have e0 : s₁.heap = h0 := by rw [← hh, Bd.state]; rfl
  have N0 := Fr.nil n0
  rw [ef_10 m c0]
  show Go p e below _ (s₁.setTop (mkF m 0 #[oA c0] []))
  refine own_aload_n 1 X0 hx hby d10_0 rfl rfl rfl ?_
  refine own_aload_n 2 X0 hx hby d10_1 rfl rfl rfl ?_
  refine own_getF 5 X0 hx hby hZ hown (own_w hw 26 rfl) e0 F_c0_end d10_2 rfl ?_
  intro T143 X143 e143
  refine own_priv (W := 0) 8 (rm7_24 l Z a0 hw [] w_NONE k_NONE W c0 c1 k_c1 c2 k_c2 c3 k_c3 y0 y1 h0 n0 O0 E_c0 F_c0_droppedTotal F_c0_end F_c0_firsts F_c0_head F_c0_lasts F_c0_totals n_c0 V_c1 n_c1 V_c2 n_c2 V_c3 n_c3 ne_c0_c1 ne_c0_c2 ne_c0_c3 ne_c1_c2 ne_c1_c3 ne_c2_c3) X143 hx hby hZ hown (own_w hw 47 rfl) (own_w hw 48 rfl) (own_w hw 49 rfl) (own_w hw 24 rfl) (own_w hw 6 rfl) (own_w hw 50 rfl) rfl (by decide) (by rw [hml]; rfl) c0 [(.int (1 : Int32))] [] pd_3 rfl d10_5 rfl e143 E_c0 rfl rfl rfl (by decide) (by decide) (by decide) (by decide) ?_
  rintro _ T146 L146 X146 ⟨rfl, N146, e146⟩
  have N146 := Fr.app N0 N146
  show Go p e below _ (T146.setTop (mkF m 8 _ [(.long y0)]))
  refine own_aload_n 9 X146 hx hby d10_8 rfl rfl rfl ?_
  refine own_getF 12 X146 hx hby hZ hown (own_w hw 51 rfl) e146 F_c0_droppedTotal d10_9 rfl ?_
  intro T147 X147 e147
  refine own_lsub 13 (y0 - y0) X147 hx hby d10_12 rfl rfl ?_
  exact own_ret (Q := own_Q (some (.long (y0 - y0))) n0 h0) X147 hx hby hret hlk d10_13 rfl (Or.inr (Or.inl ⟨rfl, rfl, _, rfl⟩)) (by decide) (by decide) ⟨rfl, N146, e147⟩
set_option maxRecDepth 65536 in
set_option maxHeartbeats 40000000 in
theorem rm11_26 (l : Launch) (Z : State) (a0 : Array Value) (hw : ∀ d ∈ tables_1, d.before a0 Z = true) (ws : List Jvm.Cond) (w_NONE k_NONE : Addr) (W : own_W Z w_NONE k_NONE) (c0 : Addr) (c1 : Addr) (k_c1 : ClassId) (c2 : Addr) (k_c2 : ClassId) (c3 : Addr) (k_c3 : ClassId) (y0 : Int64) (y1 : Int64) (h0 : Heap) (n0 : Nat) (O0 : Old Z n0 h0) (E_c0 : Exa Z h0 c0 "com/example/meter/meter/store/Spans") (F_c0_droppedTotal : Fld Z h0 c0 "com/example/meter/meter/store/Spans" "droppedTotal" "J" (.long y0)) (F_c0_end : Fld Z h0 c0 "com/example/meter/meter/store/Spans" "end" "I" (.int (1 : Int32))) (F_c0_firsts : Fld Z h0 c0 "com/example/meter/meter/store/Spans" "firsts" "[J" (.ref c1)) (F_c0_head : Fld Z h0 c0 "com/example/meter/meter/store/Spans" "head" "I" (.int (1 : Int32))) (F_c0_lasts : Fld Z h0 c0 "com/example/meter/meter/store/Spans" "lasts" "[J" (.ref c2)) (F_c0_totals : Fld Z h0 c0 "com/example/meter/meter/store/Spans" "totals" "[J" (.ref c3)) (n_c0 : n0 ≤ c0) (V_c1 : Arv Z h0 c1 k_c1 .long (16 : Int32) [(.long y1), (.long (0 : Int64)), (.long (0 : Int64)), (.long (0 : Int64))] (.long (0 : Int64))) (n_c1 : n0 ≤ c1) (V_c2 : Arv Z h0 c2 k_c2 .long (16 : Int32) [(.long y1), (.long (0 : Int64)), (.long (0 : Int64)), (.long (0 : Int64))] (.long (0 : Int64))) (n_c2 : n0 ≤ c2) (V_c3 : Arv Z h0 c3 k_c3 .long (16 : Int32) [(.long y0), (.long (0 : Int64)), (.long (0 : Int64)), (.long (0 : Int64))] (.long (0 : Int64))) (n_c3 : n0 ≤ c3) (ne_c0_c1 : c0 ≠ c1) (ne_c0_c2 : c0 ≠ c2) (ne_c0_c3 : c0 ≠ c3) (ne_c1_c2 : c1 ≠ c2) (ne_c1_c3 : c1 ≠ c3) (ne_c2_c3 : c2 ≠ c3) :
    MetFree l (⟨"com/example/meter/meter/store/Spans", "newestSecond", "()J"⟩ : MethodName) (head1 (Jvm.Cond.code (⟨"com/example/meter/meter/store/Spans", "newestSecond", "()J"⟩ : MethodName) prog_11_method_7_code 1 (some .long) :: ws) ({ frames := 0, cells := 0, slots := 0, locals := 0 } : Room)) (fun a U => a = #[(.ref c0)] ∧ Z.Warmed39 U.vm ∧ U.heap = h0) (fun _ _ _ _ _ => True) (fun _ U o U' => ∃ v L, o = .returned v ∧ own_Q (some (.long (-1 : Int64))) n0 h0 v U'.heap L ∧ FrameEnd U o U' L ({ frames := 0, cells := 0, slots := 0, locals := 0 } : Room).cells ({ frames := 0, cells := 0, slots := 0, locals := 0 } : Room).slots) := by
  refine MetFree.of_bodySF (plainFor_of_name pn_0) hisR ?_
  intro p e s m args below meth c s₁ Bd hml0 hP hK
  obtain ⟨rfl, hZ, hh⟩ := hP
  have hx := Bd.exec
  have hby := Bd.bytes
  have hml : c.maxLocals = 1 := hml0
  have hlk := BodyLoose.notSynchronized Bd
  have hret := Bd.returns
  have hown : s.vm.findClass "com/example/meter/meter/store/Spans" = some m.cls := findClass_of_methodNamed Bd.named
  have hnm := (name_of_methodNamed Bd.named Bd.method).1
  have X0 : Stand p l e ({ frames := 0, cells := 0, slots := 0, locals := 0 } : Room) s m #[(.ref c0)] below meth c s₁ [] 0 0 := Stand.of_body Bd
  have e0 : s₁.heap = h0 := by rw [← hh, Bd.state]; rfl
  have N0 := Fr.nil n0
  rw [ef_11 m c0]
  show Go p e below _ (s₁.setTop (mkF m 0 #[oA c0] []))
  refine own_aload_n 1 X0 hx hby d11_0 rfl rfl rfl ?_
  refine own_getF 4 X0 hx hby hZ hown (own_w hw 32 rfl) e0 F_c0_head d11_1 rfl ?_
  intro T149 X149 e149
  refine own_aload_n 5 X149 hx hby d11_4 rfl rfl rfl ?_
  refine own_getF 8 X149 hx hby hZ hown (own_w hw 26 rfl) e149 F_c0_end d11_5 rfl ?_
  intro T150 X150 e150
  refine own_icN 11 X150 hx hby d11_8 rfl (by decide) ?_
  refine own_ldc2 14 X150 hx hby hZ hown (own_w hw 79 rfl) d11_11 rfl ?_
  refine own_goto 28 X150 hx hby d11_14 (by decide) (by decide) ?_
  exact own_ret (Q := own_Q (some (.long (-1 : Int64))) n0 h0) X150 hx hby hret hlk d11_28 rfl (Or.inr (Or.inl ⟨rfl, rfl, _, rfl⟩)) (by decide) (by decide) ⟨rfl, N0, e150⟩
set_option maxRecDepth 65536 in
set_option maxHeartbeats 40000000 in
theorem rm12_27 (l : Launch) (Z : State) (a0 : Array Value) (hw : ∀ d ∈ tables_1, d.before a0 Z = true) (ws : List Jvm.Cond) (w_NONE k_NONE : Addr) (W : own_W Z w_NONE k_NONE) (c0 : Addr) (c1 : Addr) (k_c1 : ClassId) (c2 : Addr) (k_c2 : ClassId) (c3 : Addr) (k_c3 : ClassId) (y0 : Int64) (y1 : Int64) (y2 : Int64) (h0 : Heap) (n0 : Nat) (O0 : Old Z n0 h0) (E_c0 : Exa Z h0 c0 "com/example/meter/meter/store/Spans") (F_c0_droppedTotal : Fld Z h0 c0 "com/example/meter/meter/store/Spans" "droppedTotal" "J" (.long y1)) (F_c0_end : Fld Z h0 c0 "com/example/meter/meter/store/Spans" "end" "I" (.int (1 : Int32))) (F_c0_firsts : Fld Z h0 c0 "com/example/meter/meter/store/Spans" "firsts" "[J" (.ref c1)) (F_c0_head : Fld Z h0 c0 "com/example/meter/meter/store/Spans" "head" "I" (.int (1 : Int32))) (F_c0_lasts : Fld Z h0 c0 "com/example/meter/meter/store/Spans" "lasts" "[J" (.ref c2)) (F_c0_totals : Fld Z h0 c0 "com/example/meter/meter/store/Spans" "totals" "[J" (.ref c3)) (n_c0 : n0 ≤ c0) (V_c1 : Arv Z h0 c1 k_c1 .long (16 : Int32) [(.long y2), (.long (0 : Int64)), (.long (0 : Int64)), (.long (0 : Int64))] (.long (0 : Int64))) (n_c1 : n0 ≤ c1) (V_c2 : Arv Z h0 c2 k_c2 .long (16 : Int32) [(.long y2), (.long (0 : Int64)), (.long (0 : Int64)), (.long (0 : Int64))] (.long (0 : Int64))) (n_c2 : n0 ≤ c2) (V_c3 : Arv Z h0 c3 k_c3 .long (16 : Int32) [(.long y1), (.long (0 : Int64)), (.long (0 : Int64)), (.long (0 : Int64))] (.long (0 : Int64))) (n_c3 : n0 ≤ c3) (ne_c0_c1 : c0 ≠ c1) (ne_c0_c2 : c0 ≠ c2) (ne_c0_c3 : c0 ≠ c3) (ne_c1_c2 : c1 ≠ c2) (ne_c1_c3 : c1 ≠ c3) (ne_c2_c3 : c2 ≠ c3) :
    MetFree l (⟨"com/example/meter/meter/store/Spans", "endsAfter", "(J)Z"⟩ : MethodName) (head1 (Jvm.Cond.code (⟨"com/example/meter/meter/store/Spans", "endsAfter", "(J)Z"⟩ : MethodName) prog_11_method_8_code 3 (some .boolean) :: ws) ({ frames := 0, cells := 0, slots := 0, locals := 0 } : Room)) (fun a U => a = #[(.ref c0), (.long y0)] ∧ Z.Warmed39 U.vm ∧ U.heap = h0) (fun _ _ _ _ _ => True) (fun _ U o U' => ∃ v L, o = .returned v ∧ own_Q (some (.int (1 : Int32))) n0 h0 v U'.heap L ∧ FrameEnd U o U' L ({ frames := 0, cells := 0, slots := 0, locals := 0 } : Room).cells ({ frames := 0, cells := 0, slots := 0, locals := 0 } : Room).slots) := by
  refine MetFree.of_bodySF (plainFor_of_name pn_0) hisR ?_
  intro p e s m args below meth c s₁ Bd hml0 hP hK
  obtain ⟨rfl, hZ, hh⟩ := hP
  have hx := Bd.exec
  have hby := Bd.bytes
  have hml : c.maxLocals = 3 := hml0
  have hlk := BodyLoose.notSynchronized Bd
  have hret := Bd.returns
  have hown : s.vm.findClass "com/example/meter/meter/store/Spans" = some m.cls := findClass_of_methodNamed Bd.named
  have hnm := (name_of_methodNamed Bd.named Bd.method).1
  have X0 : Stand p l e ({ frames := 0, cells := 0, slots := 0, locals := 0 } : Room) s m #[(.ref c0), (.long y0)] below meth c s₁ [] 0 0 := Stand.of_body Bd
  have e0 : s₁.heap = h0 := by rw [← hh, Bd.state]; rfl
  have N0 := Fr.nil n0
  rw [ef_12 m c0 y0]
  show Go p e below _ (s₁.setTop (mkF m 0 #[oA c0, oJ y0, oS] []))
  refine own_aload_n 1 X0 hx hby d12_0 rfl rfl rfl ?_
  refine own_getF 4 X0 hx hby hZ hown (own_w hw 32 rfl) e0 F_c0_head d12_1 rfl ?_
  intro T152 X152 e152
  refine own_aload_n 5 X152 hx hby d12_4 rfl rfl rfl ?_
  refine own_getF 8 X152 hx hby hZ hown (own_w hw 26 rfl) e152 F_c0_end d12_5 rfl ?_
  intro T153 X153 e153
  refine own_icY 25 X153 hx hby d12_8 (by decide) (by decide) (by decide) ?_
  refine own_iconst 26 (1 : Int32) X153 hx hby d12_25 rfl (by decide) ?_
  refine own_goto 30 X153 hx hby d12_26 (by decide) (by decide) ?_
  exact own_ret (Q := own_Q (some (.int (1 : Int32))) n0 h0) X153 hx hby hret hlk d12_30 rfl (Or.inl ⟨rfl, by simp, _, rfl⟩) (by decide) (by decide) ⟨rfl, N0, e153⟩
set_option maxRecDepth 65536 in
set_option maxHeartbeats 40000000 in
theorem rm7_28 (l : Launch) (Z : State) (a0 : Array Value) (hw : ∀ d ∈ tables_1, d.before a0 Z = true) (ws : List Jvm.Cond) (w_NONE k_NONE : Addr) (W : own_W Z w_NONE k_NONE) (c0 : Addr) (c1 : Addr) (k_c1 : ClassId) (c2 : Addr) (k_c2 : ClassId) (c3 : Addr) (k_c3 : ClassId) (y0 : Int64) (y1 : Int64) (y2 : Int64) (h0 : Heap) (n0 : Nat) (O0 : Old Z n0 h0) (E_c0 : Exa Z h0 c0 "com/example/meter/meter/store/Spans") (F_c0_droppedTotal : Fld Z h0 c0 "com/example/meter/meter/store/Spans" "droppedTotal" "J" (.long (0 : Int64))) (F_c0_end : Fld Z h0 c0 "com/example/meter/meter/store/Spans" "end" "I" (.int (1 : Int32))) (F_c0_firsts : Fld Z h0 c0 "com/example/meter/meter/store/Spans" "firsts" "[J" (.ref c1)) (F_c0_head : Fld Z h0 c0 "com/example/meter/meter/store/Spans" "head" "I" (.int (0 : Int32))) (F_c0_lasts : Fld Z h0 c0 "com/example/meter/meter/store/Spans" "lasts" "[J" (.ref c2)) (F_c0_totals : Fld Z h0 c0 "com/example/meter/meter/store/Spans" "totals" "[J" (.ref c3)) (n_c0 : n0 ≤ c0) (V_c1 : Arv Z h0 c1 k_c1 .long (16 : Int32) [(.long y0), (.long y1), (.long (0 : Int64)), (.long (0 : Int64))] (.long (0 : Int64))) (n_c1 : n0 ≤ c1) (V_c2 : Arv Z h0 c2 k_c2 .long (16 : Int32) [(.long y0), (.long y1), (.long (0 : Int64)), (.long (0 : Int64))] (.long (0 : Int64))) (n_c2 : n0 ≤ c2) (V_c3 : Arv Z h0 c3 k_c3 .long (16 : Int32) [(.long y2), (.long (0 : Int64)), (.long (0 : Int64)), (.long (0 : Int64))] (.long (0 : Int64))) (n_c3 : n0 ≤ c3) (ne_c0_c1 : c0 ≠ c1) (ne_c0_c2 : c0 ≠ c2) (ne_c0_c3 : c0 ≠ c3) (ne_c1_c2 : c1 ≠ c2) (ne_c1_c3 : c1 ≠ c3) (ne_c2_c3 : c2 ≠ c3) :
    MetFree l (⟨"com/example/meter/meter/store/Spans", "totalBefore", "(I)J"⟩ : MethodName) (head1 (Jvm.Cond.code (⟨"com/example/meter/meter/store/Spans", "totalBefore", "(I)J"⟩ : MethodName) prog_11_method_14_code 2 (some .long) :: ws) ({ frames := 0, cells := 0, slots := 0, locals := 0 } : Room)) (fun a U => a = #[(.ref c0), (.int (1 : Int32))] ∧ Z.Warmed39 U.vm ∧ U.heap = h0) (fun _ _ _ _ _ => True) (fun _ U o U' => ∃ v L, o = .returned v ∧ own_Q (some (.long y2)) n0 h0 v U'.heap L ∧ FrameEnd U o U' L ({ frames := 0, cells := 0, slots := 0, locals := 0 } : Room).cells ({ frames := 0, cells := 0, slots := 0, locals := 0 } : Room).slots) := by
  refine MetFree.of_bodySF (plainFor_of_name pn_0) hisR ?_
  intro p e s m args below meth c s₁ Bd hml0 hP hK
  obtain ⟨rfl, hZ, hh⟩ := hP
  have hx := Bd.exec
  have hby := Bd.bytes
  have hml : c.maxLocals = 2 := hml0
  have hlk := BodyLoose.notSynchronized Bd
  have hret := Bd.returns
  have hown : s.vm.findClass "com/example/meter/meter/store/Spans" = some m.cls := findClass_of_methodNamed Bd.named
  have hnm := (name_of_methodNamed Bd.named Bd.method).1
  have X0 : Stand p l e ({ frames := 0, cells := 0, slots := 0, locals := 0 } : Room) s m #[(.ref c0), (.int (1 : Int32))] below meth c s₁ [] 0 0 := Stand.of_body Bd
  have e0 : s₁.heap = h0 := by rw [← hh, Bd.state]; rfl
  have N0 := Fr.nil n0
  rw [ef_7 m c0 (1 : Int32)]
  show Go p e below _ (s₁.setTop (mkF m 0 #[oA c0, oI (1 : Int32)] []))
  refine own_iload_n 1 X0 hx hby d7_0 rfl rfl ?_
  refine own_aload_n 2 X0 hx hby d7_1 rfl rfl rfl ?_
  refine own_getF 5 X0 hx hby hZ hown (own_w hw 32 rfl) e0 F_c0_head d7_2 rfl ?_
  intro T166 X166 e166
  refine own_icY 15 X166 hx hby d7_5 (by decide) (by decide) (by decide) ?_
  refine own_aload_n 16 X166 hx hby d7_15 rfl rfl rfl ?_
  refine own_getF 19 X166 hx hby hZ hown (own_w hw 19 rfl) e166 F_c0_totals d7_16 rfl ?_
  intro T167 X167 e167
  refine own_iload_n 20 X167 hx hby d7_19 rfl rfl ?_
  refine own_iconst 21 (1 : Int32) X167 hx hby d7_20 rfl (by decide) ?_
  refine own_isub 22 (0 : Int32) X167 hx hby d7_21 rfl (by decide) ?_
  refine own_laload 23 (.long y2) X167 hx hby hZ e167 V_c3 d7_22 rfl (by decide) rfl ?_
  exact own_ret (Q := own_Q (some (.long y2)) n0 h0) X167 hx hby hret hlk d7_23 rfl (Or.inr (Or.inl ⟨rfl, rfl, _, rfl⟩)) (by decide) (by decide) ⟨rfl, N0, e167⟩
def Q_rm3_29 (Z : State) (w_NONE k_NONE : Addr) (c0 : Addr) (c1 : Addr) (k_c1 : ClassId) (c2 : Addr) (k_c2 : ClassId) (c3 : Addr) (k_c3 : ClassId) (y0 : Int64) (y1 : Int64) (y2 : Int64) (y3 : Int64) (h0 : Heap) (n0 : Nat) (v : Option Value) (h : Heap) (L : List Loc) : Prop := v = none ∧ Fr n0 L ∧ Keep h0 h [c1, c2, c3, c0] ∧ Exa Z h c0 "com/example/meter/meter/store/Spans" ∧ Fld Z h c0 "com/example/meter/meter/store/Spans" "droppedTotal" "J" (.long (0 : Int64)) ∧ Fld Z h c0 "com/example/meter/meter/store/Spans" "end" "I" (.int (2 : Int32)) ∧ Fld Z h c0 "com/example/meter/meter/store/Spans" "firsts" "[J" (.ref c1) ∧ Fld Z h c0 "com/example/meter/meter/store/Spans" "head" "I" (.int (0 : Int32)) ∧ Fld Z h c0 "com/example/meter/meter/store/Spans" "lasts" "[J" (.ref c2) ∧ Fld Z h c0 "com/example/meter/meter/store/Spans" "totals" "[J" (.ref c3) ∧ Arv Z h c1 k_c1 .long (16 : Int32) [(.long y2), (.long y0), (.long (0 : Int64)), (.long (0 : Int64))] (.long (0 : Int64)) ∧ Arv Z h c2 k_c2 .long (16 : Int32) [(.long y2), (.long y0), (.long (0 : Int64)), (.long (0 : Int64))] (.long (0 : Int64)) ∧ Arv Z h c3 k_c3 .long (16 : Int32) [(.long y3), (.long (y3 + y1)), (.long (0 : Int64)), (.long (0 : Int64))] (.long (0 : Int64))
set_option maxRecDepth 65536 in
set_option maxHeartbeats 40000000 in
theorem rm3_29 (l : Launch) (Z : State) (a0 : Array Value) (hw : ∀ d ∈ tables_1, d.before a0 Z = true) (ws : List Jvm.Cond) (w_NONE k_NONE : Addr) (W : own_W Z w_NONE k_NONE) (c0 : Addr) (c1 : Addr) (k_c1 : ClassId) (c2 : Addr) (k_c2 : ClassId) (c3 : Addr) (k_c3 : ClassId) (y0 : Int64) (y1 : Int64) (y2 : Int64) (y3 : Int64) (h0 : Heap) (n0 : Nat) (O0 : Old Z n0 h0) (E_c0 : Exa Z h0 c0 "com/example/meter/meter/store/Spans") (F_c0_droppedTotal : Fld Z h0 c0 "com/example/meter/meter/store/Spans" "droppedTotal" "J" (.long (0 : Int64))) (F_c0_end : Fld Z h0 c0 "com/example/meter/meter/store/Spans" "end" "I" (.int (1 : Int32))) (F_c0_firsts : Fld Z h0 c0 "com/example/meter/meter/store/Spans" "firsts" "[J" (.ref c1)) (F_c0_head : Fld Z h0 c0 "com/example/meter/meter/store/Spans" "head" "I" (.int (0 : Int32))) (F_c0_lasts : Fld Z h0 c0 "com/example/meter/meter/store/Spans" "lasts" "[J" (.ref c2)) (F_c0_totals : Fld Z h0 c0 "com/example/meter/meter/store/Spans" "totals" "[J" (.ref c3)) (n_c0 : n0 ≤ c0) (V_c1 : Arv Z h0 c1 k_c1 .long (16 : Int32) [(.long y2), (.long (0 : Int64)), (.long (0 : Int64)), (.long (0 : Int64))] (.long (0 : Int64))) (n_c1 : n0 ≤ c1) (V_c2 : Arv Z h0 c2 k_c2 .long (16 : Int32) [(.long y2), (.long (0 : Int64)), (.long (0 : Int64)), (.long (0 : Int64))] (.long (0 : Int64))) (n_c2 : n0 ≤ c2) (V_c3 : Arv Z h0 c3 k_c3 .long (16 : Int32) [(.long y3), (.long (0 : Int64)), (.long (0 : Int64)), (.long (0 : Int64))] (.long (0 : Int64))) (n_c3 : n0 ≤ c3) (ne_c0_c1 : c0 ≠ c1) (ne_c0_c2 : c0 ≠ c2) (ne_c0_c3 : c0 ≠ c3) (ne_c1_c2 : c1 ≠ c2) (ne_c1_c3 : c1 ≠ c3) (ne_c2_c3 : c2 ≠ c3) :
    MetFree l (⟨"com/example/meter/meter/store/Spans", "append", "(JJ)V"⟩ : MethodName) (head1 (Jvm.Cond.code (⟨"com/example/meter/meter/store/Spans", "append", "(JJ)V"⟩ : MethodName) prog_11_method_9_code 5 none :: ws) ({ frames := 1, cells := 0, slots := 0, locals := 15 } : Room)) (fun a U => a = #[(.ref c0), (.long y0), (.long y1)] ∧ Z.Warmed39 U.vm ∧ U.heap = h0) (fun _ _ _ _ _ => True) (fun _ U o U' => ∃ v L, o = .returned v ∧ Q_rm3_29 Z w_NONE k_NONE c0 c1 k_c1 c2 k_c2 c3 k_c3 y0 y1 y2 y3 h0 n0 v U'.heap L ∧ FrameEnd U o U' L ({ frames := 1, cells := 0, slots := 0, locals := 15 } : Room).cells ({ frames := 1, cells := 0, slots := 0, locals := 15 } : Room).slots) := by
  refine MetFree.of_bodySF (plainFor_of_name pn_0) hisR ?_
  intro p e s m args below meth c s₁ Bd hml0 hP hK
  obtain ⟨rfl, hZ, hh⟩ := hP
  have hx := Bd.exec
  have hby := Bd.bytes
  have hml : c.maxLocals = 5 := hml0
  have hlk := BodyLoose.notSynchronized Bd
  have hret := Bd.returns
  have hown : s.vm.findClass "com/example/meter/meter/store/Spans" = some m.cls := findClass_of_methodNamed Bd.named
  have hnm := (name_of_methodNamed Bd.named Bd.method).1
  have X0 : Stand p l e ({ frames := 1, cells := 0, slots := 0, locals := 15 } : Room) s m #[(.ref c0), (.long y0), (.long y1)] below meth c s₁ [] 0 0 := Stand.of_body Bd
  have e0 : s₁.heap = h0 := by rw [← hh, Bd.state]; rfl
  have N0 := Fr.nil n0
  rw [ef_3 m c0 y0 y1]
  show Go p e below _ (s₁.setTop (mkF m 0 #[oA c0, oJ y0, oS, oJ y1, oS] []))
  refine own_aload_n 1 X0 hx hby d3_0 rfl rfl rfl ?_
  refine own_getF 4 X0 hx hby hZ hown (own_w hw 26 rfl) e0 F_c0_end d3_1 rfl ?_
  intro T155 X155 e155
  refine own_aload_n 5 X155 hx hby d3_4 rfl rfl rfl ?_
  refine own_getF 8 X155 hx hby hZ hown (own_w hw 17 rfl) e155 F_c0_lasts d3_5 rfl ?_
  intro T156 X156 e156
  refine own_len 9 X156 hx hby hZ e156 V_c2 d3_8 rfl ?_
  refine own_icY 16 X156 hx hby d3_9 (by decide) (by decide) (by decide) ?_
  refine own_aload_n 17 X156 hx hby d3_16 rfl rfl rfl ?_
  refine own_getF 20 X156 hx hby hZ hown (own_w hw 15 rfl) e156 F_c0_firsts d3_17 rfl ?_
  intro T157 X157 e157
  refine own_aload_n 21 X157 hx hby d3_20 rfl rfl rfl ?_
  refine own_getF 24 X157 hx hby hZ hown (own_w hw 26 rfl) e157 F_c0_end d3_21 rfl ?_
  intro T158 X158 e158
  refine own_lload_n 25 X158 hx hby d3_24 rfl rfl ?_
  refine own_stJ 26 1 X158 hx hby hZ e158 V_c1 d3_25 rfl (by decide) (by decide) (Nat.le_of_ble_eq_true rfl) ?_
  intro T159 h159 X159 e159 W159 V159
  have V159 : Arv Z h159 c1 k_c1 .long (16 : Int32) [(.long y2), (.long y0), (.long (0 : Int64)), (.long (0 : Int64))] (.long (0 : Int64)) := V159
  have E_c0_159 := E_c0.wr W159
  have F_c0_droppedTotal_159 := F_c0_droppedTotal.other W159 (Or.inl ne_c0_c1)
  have F_c0_end_159 := F_c0_end.other W159 (Or.inl ne_c0_c1)
  have F_c0_firsts_159 := F_c0_firsts.other W159 (Or.inl ne_c0_c1)
  have F_c0_head_159 := F_c0_head.other W159 (Or.inl ne_c0_c1)
  have F_c0_lasts_159 := F_c0_lasts.other W159 (Or.inl ne_c0_c1)
  have F_c0_totals_159 := F_c0_totals.other W159 (Or.inl ne_c0_c1)
  have V_c2_159 := V_c2.other W159 (Ne.symm ne_c1_c2)
  have V_c3_159 := V_c3.other W159 (Ne.symm ne_c1_c3)
  have K159 : Keep h0 h159 [c1, c2, c3, c0] := (Keep.refl h0 [c1, c2, c3, c0]).wr W159 (Or.inl (List.mem_of_getElem? (i := 0) rfl))
  have O159 := O0.wr W159 n_c1
  have N159 := Fr.snoc X159 N0 n_c1
  refine own_aload_n 27 X159 hx hby d3_26 rfl rfl rfl ?_
  refine own_getF 30 X159 hx hby hZ hown (own_w hw 17 rfl) e159 F_c0_lasts_159 d3_27 rfl ?_
  intro T160 X160 e160
  refine own_aload_n 31 X160 hx hby d3_30 rfl rfl rfl ?_
  refine own_getF 34 X160 hx hby hZ hown (own_w hw 26 rfl) e160 F_c0_end_159 d3_31 rfl ?_
  intro T161 X161 e161
  refine own_lload_n 35 X161 hx hby d3_34 rfl rfl ?_
  refine own_stJ 36 1 X161 hx hby hZ e161 V_c2_159 d3_35 rfl (by decide) (by decide) (Nat.le_of_ble_eq_true rfl) ?_
  intro T162 h162 X162 e162 W162 V162
  have V162 : Arv Z h162 c2 k_c2 .long (16 : Int32) [(.long y2), (.long y0), (.long (0 : Int64)), (.long (0 : Int64))] (.long (0 : Int64)) := V162
  have E_c0_162 := E_c0_159.wr W162
  have F_c0_droppedTotal_162 := F_c0_droppedTotal_159.other W162 (Or.inl ne_c0_c2)
  have F_c0_end_162 := F_c0_end_159.other W162 (Or.inl ne_c0_c2)
  have F_c0_firsts_162 := F_c0_firsts_159.other W162 (Or.inl ne_c0_c2)
  have F_c0_head_162 := F_c0_head_159.other W162 (Or.inl ne_c0_c2)
  have F_c0_lasts_162 := F_c0_lasts_159.other W162 (Or.inl ne_c0_c2)
  have F_c0_totals_162 := F_c0_totals_159.other W162 (Or.inl ne_c0_c2)
  have V_c1_162 := V159.other W162 ne_c1_c2
  have V_c3_162 := V_c3_159.other W162 (Ne.symm ne_c2_c3)
  have K162 : Keep h0 h162 [c1, c2, c3, c0] := K159.wr W162 (Or.inl (List.mem_of_getElem? (i := 1) rfl))
  have O162 := O159.wr W162 n_c2
  have N162 := Fr.snoc X162 N159 n_c2
  refine own_aload_n 37 X162 hx hby d3_36 rfl rfl rfl ?_
  refine own_getF 40 X162 hx hby hZ hown (own_w hw 19 rfl) e162 F_c0_totals_162 d3_37 rfl ?_
  intro T163 X163 e163
  refine own_aload_n 41 X163 hx hby d3_40 rfl rfl rfl ?_
  refine own_getF 44 X163 hx hby hZ hown (own_w hw 26 rfl) e163 F_c0_end_162 d3_41 rfl ?_
  intro T164 X164 e164
  refine own_aload_n 45 X164 hx hby d3_44 rfl rfl rfl ?_
  refine own_aload_n 46 X164 hx hby d3_45 rfl rfl rfl ?_
  refine own_getF 49 X164 hx hby hZ hown (own_w hw 26 rfl) e164 F_c0_end_162 d3_46 rfl ?_
  intro T165 X165 e165
  refine own_priv (W := 2) 52 (rm7_28 l Z a0 hw [] w_NONE k_NONE W c0 c1 k_c1 c2 k_c2 c3 k_c3 y2 y0 y3 h162 n0 O162 E_c0_162 F_c0_droppedTotal_162 F_c0_end_162 F_c0_firsts_162 F_c0_head_162 F_c0_lasts_162 F_c0_totals_162 n_c0 V_c1_162 n_c1 V162 n_c2 V_c3_162 n_c3 ne_c0_c1 ne_c0_c2 ne_c0_c3 ne_c1_c2 ne_c1_c3 ne_c2_c3) X165 hx hby hZ hown (own_w hw 47 rfl) (own_w hw 48 rfl) (own_w hw 49 rfl) (own_w hw 24 rfl) (own_w hw 6 rfl) (own_w hw 50 rfl) rfl (by decide) (by rw [hml]; rfl) c0 [(.int (1 : Int32))] [(.int (1 : Int32)), (.ref c3)] pd_3 rfl d3_49 rfl e165 E_c0_162 rfl rfl rfl (by decide) (by decide) (by decide) (by decide) ?_
  rintro _ T168 L168 X168 ⟨rfl, N168, e168⟩
  have N168 := Fr.app N162 N168
  show Go p e below _ (T168.setTop (mkF m 52 _ [(.long y3), (.int (1 : Int32)), (.ref c3)]))
  refine own_lload_n 53 X168 hx hby d3_52 rfl rfl ?_
  refine own_ladd 54 (y3 + y1) X168 hx hby d3_53 rfl rfl ?_
  refine own_stJ 55 1 X168 hx hby hZ e168 V_c3_162 d3_54 rfl (by decide) (by decide) (Nat.le_of_ble_eq_true rfl) ?_
  intro T169 h169 X169 e169 W169 V169
  have V169 : Arv Z h169 c3 k_c3 .long (16 : Int32) [(.long y3), (.long (y3 + y1)), (.long (0 : Int64)), (.long (0 : Int64))] (.long (0 : Int64)) := V169
  have E_c0_169 := E_c0_162.wr W169
  have F_c0_droppedTotal_169 := F_c0_droppedTotal_162.other W169 (Or.inl ne_c0_c3)
  have F_c0_end_169 := F_c0_end_162.other W169 (Or.inl ne_c0_c3)
  have F_c0_firsts_169 := F_c0_firsts_162.other W169 (Or.inl ne_c0_c3)
  have F_c0_head_169 := F_c0_head_162.other W169 (Or.inl ne_c0_c3)
  have F_c0_lasts_169 := F_c0_lasts_162.other W169 (Or.inl ne_c0_c3)
  have F_c0_totals_169 := F_c0_totals_162.other W169 (Or.inl ne_c0_c3)
  have V_c1_169 := V_c1_162.other W169 ne_c1_c3
  have V_c2_169 := V162.other W169 ne_c2_c3
  have K169 : Keep h0 h169 [c1, c2, c3, c0] := K162.wr W169 (Or.inl (List.mem_of_getElem? (i := 2) rfl))
  have O169 := O162.wr W169 n_c3
  have N169 := Fr.snoc X169 N168 n_c3
  refine own_aload_n 56 X169 hx hby d3_55 rfl rfl rfl ?_
  refine own_dup 57 X169 hx hby d3_56 rfl rfl ?_
  refine own_getF 60 X169 hx hby hZ hown (own_w hw 26 rfl) e169 F_c0_end_169 d3_57 rfl ?_
  intro T170 X170 e170
  refine own_iconst 61 (1 : Int32) X170 hx hby d3_60 rfl (by decide) ?_
  refine own_iadd 62 (2 : Int32) X170 hx hby d3_61 rfl (by decide) ?_
  refine own_putF 65 X170 hx hby hZ .int hown (own_w hw 26 rfl) e170 F_c0_end_169 E_c0_169 (Or.inl (own_w hw 27 rfl)) (own_w hw 5 rfl) (by decide) rfl rfl d3_62 rfl ?_
  intro T171 h171 X171 e171 W171
  have E_c0_171 := E_c0_169.wr W171
  have F_c0_droppedTotal_171 := F_c0_droppedTotal_169.other W171 (Or.inr (slot_ne (Or.inl (own_w hw 52 rfl)) (Or.inl (own_w hw 27 rfl)) (by decide) (t := .long) (t' := .int) (by decide) (by decide)))
  have F_c0_end_171 := F_c0_end_169.same W171
  have F_c0_firsts_171 := F_c0_firsts_169.other W171 (Or.inr (slot_ne (Or.inl (own_w hw 16 rfl)) (Or.inl (own_w hw 27 rfl)) (by decide) (t := (.array .long)) (t' := .int) (by decide) (by decide)))
  have F_c0_head_171 := F_c0_head_169.other W171 (Or.inr (slot_ne (Or.inl (own_w hw 33 rfl)) (Or.inl (own_w hw 27 rfl)) (by decide) (t := .int) (t' := .int) (by decide) (by decide)))
  have F_c0_lasts_171 := F_c0_lasts_169.other W171 (Or.inr (slot_ne (Or.inl (own_w hw 18 rfl)) (Or.inl (own_w hw 27 rfl)) (by decide) (t := (.array .long)) (t' := .int) (by decide) (by decide)))
  have F_c0_totals_171 := F_c0_totals_169.other W171 (Or.inr (slot_ne (Or.inl (own_w hw 20 rfl)) (Or.inl (own_w hw 27 rfl)) (by decide) (t := (.array .long)) (t' := .int) (by decide) (by decide)))
  have V_c1_171 := V_c1_169.other W171 (Ne.symm ne_c0_c1)
  have V_c2_171 := V_c2_169.other W171 (Ne.symm ne_c0_c2)
  have V_c3_171 := V169.other W171 (Ne.symm ne_c0_c3)
  have K171 : Keep h0 h171 [c1, c2, c3, c0] := K169.wr W171 (Or.inl (List.mem_of_getElem? (i := 3) rfl))
  have O171 := O169.wr W171 n_c0
  have N171 := Fr.snoc X171 N169 n_c0
  exact own_ret0 (Q := Q_rm3_29 Z w_NONE k_NONE c0 c1 k_c1 c2 k_c2 c3 k_c3 y0 y1 y2 y3 h0 n0) X171 hx hby hret hlk d3_65 (by decide) (by decide) (by rw [e171]; exact ⟨rfl, N171, K171, E_c0_171, F_c0_droppedTotal_171, F_c0_end_171, F_c0_firsts_171, F_c0_head_171, F_c0_lasts_171, F_c0_totals_171, V_c1_171, V_c2_171, V_c3_171⟩)
set_option maxRecDepth 65536 in
set_option maxHeartbeats 40000000 in
theorem rm8_30 (l : Launch) (Z : State) (a0 : Array Value) (hw : ∀ d ∈ tables_1, d.before a0 Z = true) (ws : List Jvm.Cond) (w_NONE k_NONE : Addr) (W : own_W Z w_NONE k_NONE) (c0 : Addr) (c1 : Addr) (k_c1 : ClassId) (c2 : Addr) (k_c2 : ClassId) (c3 : Addr) (k_c3 : ClassId) (y0 : Int64) (y1 : Int64) (y2 : Int64) (y3 : Int64) (y4 : Int64) (h0 : Heap) (n0 : Nat) (O0 : Old Z n0 h0) (E_c0 : Exa Z h0 c0 "com/example/meter/meter/store/Spans") (F_c0_droppedTotal : Fld Z h0 c0 "com/example/meter/meter/store/Spans" "droppedTotal" "J" (.long (0 : Int64))) (F_c0_end : Fld Z h0 c0 "com/example/meter/meter/store/Spans" "end" "I" (.int (2 : Int32))) (F_c0_firsts : Fld Z h0 c0 "com/example/meter/meter/store/Spans" "firsts" "[J" (.ref c1)) (F_c0_head : Fld Z h0 c0 "com/example/meter/meter/store/Spans" "head" "I" (.int (0 : Int32))) (F_c0_lasts : Fld Z h0 c0 "com/example/meter/meter/store/Spans" "lasts" "[J" (.ref c2)) (F_c0_totals : Fld Z h0 c0 "com/example/meter/meter/store/Spans" "totals" "[J" (.ref c3)) (n_c0 : n0 ≤ c0) (V_c1 : Arv Z h0 c1 k_c1 .long (16 : Int32) [(.long y1), (.long y2), (.long (0 : Int64)), (.long (0 : Int64))] (.long (0 : Int64))) (n_c1 : n0 ≤ c1) (V_c2 : Arv Z h0 c2 k_c2 .long (16 : Int32) [(.long y1), (.long y2), (.long (0 : Int64)), (.long (0 : Int64))] (.long (0 : Int64))) (n_c2 : n0 ≤ c2) (V_c3 : Arv Z h0 c3 k_c3 .long (16 : Int32) [(.long y3), (.long y4), (.long (0 : Int64)), (.long (0 : Int64))] (.long (0 : Int64))) (n_c3 : n0 ≤ c3) (ne_c0_c1 : c0 ≠ c1) (ne_c0_c2 : c0 ≠ c2) (ne_c0_c3 : c0 ≠ c3) (ne_c1_c2 : c1 ≠ c2) (ne_c1_c3 : c1 ≠ c3) (ne_c2_c3 : c2 ≠ c3) (hc178 : y0 < y1) :
    MetFree l (⟨"com/example/meter/meter/store/Spans", "dropThrough", "(J)V"⟩ : MethodName) (head1 (Jvm.Cond.code (⟨"com/example/meter/meter/store/Spans", "dropThrough", "(J)V"⟩ : MethodName) prog_11_method_10_code 3 none :: ws) ({ frames := 0, cells := 0, slots := 0, locals := 0 } : Room)) (fun a U => a = #[(.ref c0), (.long y0)] ∧ Z.Warmed39 U.vm ∧ U.heap = h0) (fun _ _ _ _ _ => True) (fun _ U o U' => ∃ v L, o = .returned v ∧ own_Q none n0 h0 v U'.heap L ∧ FrameEnd U o U' L ({ frames := 0, cells := 0, slots := 0, locals := 0 } : Room).cells ({ frames := 0, cells := 0, slots := 0, locals := 0 } : Room).slots) := by
  refine MetFree.of_bodySF (plainFor_of_name pn_0) hisR ?_
  intro p e s m args below meth c s₁ Bd hml0 hP hK
  obtain ⟨rfl, hZ, hh⟩ := hP
  have hx := Bd.exec
  have hby := Bd.bytes
  have hml : c.maxLocals = 3 := hml0
  have hlk := BodyLoose.notSynchronized Bd
  have hret := Bd.returns
  have hown : s.vm.findClass "com/example/meter/meter/store/Spans" = some m.cls := findClass_of_methodNamed Bd.named
  have hnm := (name_of_methodNamed Bd.named Bd.method).1
  have X0 : Stand p l e ({ frames := 0, cells := 0, slots := 0, locals := 0 } : Room) s m #[(.ref c0), (.long y0)] below meth c s₁ [] 0 0 := Stand.of_body Bd
  have e0 : s₁.heap = h0 := by rw [← hh, Bd.state]; rfl
  have N0 := Fr.nil n0
  rw [ef_8 m c0 y0]
  show Go p e below _ (s₁.setTop (mkF m 0 #[oA c0, oJ y0, oS] []))
  refine own_aload_n 1 X0 hx hby d8_0 rfl rfl rfl ?_
  refine own_getF 4 X0 hx hby hZ hown (own_w hw 32 rfl) e0 F_c0_head d8_1 rfl ?_
  intro T174 X174 e174
  refine own_aload_n 5 X174 hx hby d8_4 rfl rfl rfl ?_
  refine own_getF 8 X174 hx hby hZ hown (own_w hw 26 rfl) e174 F_c0_end d8_5 rfl ?_
  intro T175 X175 e175
  refine own_icN 11 X175 hx hby d8_8 rfl (by decide) ?_
  refine own_aload_n 12 X175 hx hby d8_11 rfl rfl rfl ?_
  refine own_getF 15 X175 hx hby hZ hown (own_w hw 17 rfl) e175 F_c0_lasts d8_12 rfl ?_
  intro T176 X176 e176
  refine own_aload_n 16 X176 hx hby d8_15 rfl rfl rfl ?_
  refine own_getF 19 X176 hx hby hZ hown (own_w hw 32 rfl) e176 F_c0_head d8_16 rfl ?_
  intro T177 X177 e177
  refine own_laload 20 (.long y1) X177 hx hby hZ e177 V_c2 d8_19 rfl (by decide) rfl ?_
  refine own_lload_n 21 X177 hx hby d8_20 rfl rfl ?_
  refine own_lcmp 22 (XT.cmpL y1 y0) X177 hx hby d8_21 rfl rfl ?_
  refine own_ifY 51 X177 hx hby d8_22 (by decide) (by decide) (own_tltL hc178).2.2.1 ?_
  exact own_ret0 (Q := own_Q none n0 h0) X177 hx hby hret hlk d8_51 (by decide) (by decide) ⟨rfl, N0, e177⟩
def Q_rm8_31 (Z : State) (w_NONE k_NONE : Addr) (c0 : Addr) (c1 : Addr) (k_c1 : ClassId) (c2 : Addr) (k_c2 : ClassId) (c3 : Addr) (k_c3 : ClassId) (y0 : Int64) (y1 : Int64) (y2 : Int64) (y3 : Int64) (y4 : Int64) (h0 : Heap) (n0 : Nat) (v : Option Value) (h : Heap) (L : List Loc) : Prop := v = none ∧ Fr n0 L ∧ Keep h0 h [c0] ∧ Exa Z h c0 "com/example/meter/meter/store/Spans" ∧ Fld Z h c0 "com/example/meter/meter/store/Spans" "droppedTotal" "J" (.long y3) ∧ Fld Z h c0 "com/example/meter/meter/store/Spans" "end" "I" (.int (2 : Int32)) ∧ Fld Z h c0 "com/example/meter/meter/store/Spans" "firsts" "[J" (.ref c1) ∧ Fld Z h c0 "com/example/meter/meter/store/Spans" "head" "I" (.int (1 : Int32)) ∧ Fld Z h c0 "com/example/meter/meter/store/Spans" "lasts" "[J" (.ref c2) ∧ Fld Z h c0 "com/example/meter/meter/store/Spans" "totals" "[J" (.ref c3) ∧ Arv Z h c1 k_c1 .long (16 : Int32) [(.long y1), (.long y2), (.long (0 : Int64)), (.long (0 : Int64))] (.long (0 : Int64)) ∧ Arv Z h c2 k_c2 .long (16 : Int32) [(.long y1), (.long y2), (.long (0 : Int64)), (.long (0 : Int64))] (.long (0 : Int64)) ∧ Arv Z h c3 k_c3 .long (16 : Int32) [(.long y3), (.long y4), (.long (0 : Int64)), (.long (0 : Int64))] (.long (0 : Int64))
set_option maxRecDepth 65536 in
set_option maxHeartbeats 40000000 in
theorem rm8_31 (l : Launch) (Z : State) (a0 : Array Value) (hw : ∀ d ∈ tables_1, d.before a0 Z = true) (ws : List Jvm.Cond) (w_NONE k_NONE : Addr) (W : own_W Z w_NONE k_NONE) (c0 : Addr) (c1 : Addr) (k_c1 : ClassId) (c2 : Addr) (k_c2 : ClassId) (c3 : Addr) (k_c3 : ClassId) (y0 : Int64) (y1 : Int64) (y2 : Int64) (y3 : Int64) (y4 : Int64) (h0 : Heap) (n0 : Nat) (O0 : Old Z n0 h0) (E_c0 : Exa Z h0 c0 "com/example/meter/meter/store/Spans") (F_c0_droppedTotal : Fld Z h0 c0 "com/example/meter/meter/store/Spans" "droppedTotal" "J" (.long (0 : Int64))) (F_c0_end : Fld Z h0 c0 "com/example/meter/meter/store/Spans" "end" "I" (.int (2 : Int32))) (F_c0_firsts : Fld Z h0 c0 "com/example/meter/meter/store/Spans" "firsts" "[J" (.ref c1)) (F_c0_head : Fld Z h0 c0 "com/example/meter/meter/store/Spans" "head" "I" (.int (0 : Int32))) (F_c0_lasts : Fld Z h0 c0 "com/example/meter/meter/store/Spans" "lasts" "[J" (.ref c2)) (F_c0_totals : Fld Z h0 c0 "com/example/meter/meter/store/Spans" "totals" "[J" (.ref c3)) (n_c0 : n0 ≤ c0) (V_c1 : Arv Z h0 c1 k_c1 .long (16 : Int32) [(.long y1), (.long y2), (.long (0 : Int64)), (.long (0 : Int64))] (.long (0 : Int64))) (n_c1 : n0 ≤ c1) (V_c2 : Arv Z h0 c2 k_c2 .long (16 : Int32) [(.long y1), (.long y2), (.long (0 : Int64)), (.long (0 : Int64))] (.long (0 : Int64))) (n_c2 : n0 ≤ c2) (V_c3 : Arv Z h0 c3 k_c3 .long (16 : Int32) [(.long y3), (.long y4), (.long (0 : Int64)), (.long (0 : Int64))] (.long (0 : Int64))) (n_c3 : n0 ≤ c3) (ne_c0_c1 : c0 ≠ c1) (ne_c0_c2 : c0 ≠ c2) (ne_c0_c3 : c0 ≠ c3) (ne_c1_c2 : c1 ≠ c2) (ne_c1_c3 : c1 ≠ c3) (ne_c2_c3 : c2 ≠ c3) (hc178 : ¬ (y0 < y1)) (hc188 : y0 < y2) :
    MetFree l (⟨"com/example/meter/meter/store/Spans", "dropThrough", "(J)V"⟩ : MethodName) (head1 (Jvm.Cond.code (⟨"com/example/meter/meter/store/Spans", "dropThrough", "(J)V"⟩ : MethodName) prog_11_method_10_code 3 none :: ws) ({ frames := 0, cells := 0, slots := 0, locals := 0 } : Room)) (fun a U => a = #[(.ref c0), (.long y0)] ∧ Z.Warmed39 U.vm ∧ U.heap = h0) (fun _ _ _ _ _ => True) (fun _ U o U' => ∃ v L, o = .returned v ∧ Q_rm8_31 Z w_NONE k_NONE c0 c1 k_c1 c2 k_c2 c3 k_c3 y0 y1 y2 y3 y4 h0 n0 v U'.heap L ∧ FrameEnd U o U' L ({ frames := 0, cells := 0, slots := 0, locals := 0 } : Room).cells ({ frames := 0, cells := 0, slots := 0, locals := 0 } : Room).slots) := by
  refine MetFree.of_bodySF (plainFor_of_name pn_0) hisR ?_
  intro p e s m args below meth c s₁ Bd hml0 hP hK
  obtain ⟨rfl, hZ, hh⟩ := hP
  have hx := Bd.exec
  have hby := Bd.bytes
  have hml : c.maxLocals = 3 := hml0
  have hlk := BodyLoose.notSynchronized Bd
  have hret := Bd.returns
  have hown : s.vm.findClass "com/example/meter/meter/store/Spans" = some m.cls := findClass_of_methodNamed Bd.named
  have hnm := (name_of_methodNamed Bd.named Bd.method).1
  have X0 : Stand p l e ({ frames := 0, cells := 0, slots := 0, locals := 0 } : Room) s m #[(.ref c0), (.long y0)] below meth c s₁ [] 0 0 := Stand.of_body Bd
  have e0 : s₁.heap = h0 := by rw [← hh, Bd.state]; rfl
  have N0 := Fr.nil n0
  rw [ef_8 m c0 y0]
  show Go p e below _ (s₁.setTop (mkF m 0 #[oA c0, oJ y0, oS] []))
  refine own_aload_n 1 X0 hx hby d8_0 rfl rfl rfl ?_
  refine own_getF 4 X0 hx hby hZ hown (own_w hw 32 rfl) e0 F_c0_head d8_1 rfl ?_
  intro T174 X174 e174
  refine own_aload_n 5 X174 hx hby d8_4 rfl rfl rfl ?_
  refine own_getF 8 X174 hx hby hZ hown (own_w hw 26 rfl) e174 F_c0_end d8_5 rfl ?_
  intro T175 X175 e175
  refine own_icN 11 X175 hx hby d8_8 rfl (by decide) ?_
  refine own_aload_n 12 X175 hx hby d8_11 rfl rfl rfl ?_
  refine own_getF 15 X175 hx hby hZ hown (own_w hw 17 rfl) e175 F_c0_lasts d8_12 rfl ?_
  intro T176 X176 e176
  refine own_aload_n 16 X176 hx hby d8_15 rfl rfl rfl ?_
  refine own_getF 19 X176 hx hby hZ hown (own_w hw 32 rfl) e176 F_c0_head d8_16 rfl ?_
  intro T177 X177 e177
  refine own_laload 20 (.long y1) X177 hx hby hZ e177 V_c2 d8_19 rfl (by decide) rfl ?_
  refine own_lload_n 21 X177 hx hby d8_20 rfl rfl ?_
  refine own_lcmp 22 (XT.cmpL y1 y0) X177 hx hby d8_21 rfl rfl ?_
  refine own_ifN 25 X177 hx hby d8_22 rfl (own_fltL hc178).2.2.1 ?_
  refine own_aload_n 26 X177 hx hby d8_25 rfl rfl rfl ?_
  refine own_aload_n 27 X177 hx hby d8_26 rfl rfl rfl ?_
  refine own_getF 30 X177 hx hby hZ hown (own_w hw 19 rfl) e177 F_c0_totals d8_27 rfl ?_
  intro T179 X179 e179
  refine own_aload_n 31 X179 hx hby d8_30 rfl rfl rfl ?_
  refine own_getF 34 X179 hx hby hZ hown (own_w hw 32 rfl) e179 F_c0_head d8_31 rfl ?_
  intro T180 X180 e180
  refine own_laload 35 (.long y3) X180 hx hby hZ e180 V_c3 d8_34 rfl (by decide) rfl ?_
  refine own_putF 38 X180 hx hby hZ .long hown (own_w hw 51 rfl) e180 F_c0_droppedTotal E_c0 (Or.inl (own_w hw 52 rfl)) (own_w hw 5 rfl) (by decide) rfl rfl d8_35 rfl ?_
  intro T181 h181 X181 e181 W181
  have E_c0_181 := E_c0.wr W181
  have F_c0_droppedTotal_181 := F_c0_droppedTotal.same W181
  have F_c0_end_181 := F_c0_end.other W181 (Or.inr (slot_ne (Or.inl (own_w hw 27 rfl)) (Or.inl (own_w hw 52 rfl)) (by decide) (t := .int) (t' := .long) (by decide) (by decide)))
  have F_c0_firsts_181 := F_c0_firsts.other W181 (Or.inr (slot_ne (Or.inl (own_w hw 16 rfl)) (Or.inl (own_w hw 52 rfl)) (by decide) (t := (.array .long)) (t' := .long) (by decide) (by decide)))
  have F_c0_head_181 := F_c0_head.other W181 (Or.inr (slot_ne (Or.inl (own_w hw 33 rfl)) (Or.inl (own_w hw 52 rfl)) (by decide) (t := .int) (t' := .long) (by decide) (by decide)))
  have F_c0_lasts_181 := F_c0_lasts.other W181 (Or.inr (slot_ne (Or.inl (own_w hw 18 rfl)) (Or.inl (own_w hw 52 rfl)) (by decide) (t := (.array .long)) (t' := .long) (by decide) (by decide)))
  have F_c0_totals_181 := F_c0_totals.other W181 (Or.inr (slot_ne (Or.inl (own_w hw 20 rfl)) (Or.inl (own_w hw 52 rfl)) (by decide) (t := (.array .long)) (t' := .long) (by decide) (by decide)))
  have V_c1_181 := V_c1.other W181 (Ne.symm ne_c0_c1)
  have V_c2_181 := V_c2.other W181 (Ne.symm ne_c0_c2)
  have V_c3_181 := V_c3.other W181 (Ne.symm ne_c0_c3)
  have K181 : Keep h0 h181 [c0] := (Keep.refl h0 [c0]).wr W181 (Or.inl (List.mem_of_getElem? (i := 0) rfl))
  have O181 := O0.wr W181 n_c0
  have N181 := Fr.snoc X181 N0 n_c0
  refine own_aload_n 39 X181 hx hby d8_38 rfl rfl rfl ?_
  refine own_dup 40 X181 hx hby d8_39 rfl rfl ?_
  refine own_getF 43 X181 hx hby hZ hown (own_w hw 32 rfl) e181 F_c0_head_181 d8_40 rfl ?_
  intro T182 X182 e182
  refine own_iconst 44 (1 : Int32) X182 hx hby d8_43 rfl (by decide) ?_
  refine own_iadd 45 (1 : Int32) X182 hx hby d8_44 rfl (by decide) ?_
  refine own_putF 48 X182 hx hby hZ .int hown (own_w hw 32 rfl) e182 F_c0_head_181 E_c0_181 (Or.inl (own_w hw 33 rfl)) (own_w hw 5 rfl) (by decide) rfl rfl d8_45 rfl ?_
  intro T183 h183 X183 e183 W183
  have E_c0_183 := E_c0_181.wr W183
  have F_c0_droppedTotal_183 := F_c0_droppedTotal_181.other W183 (Or.inr (slot_ne (Or.inl (own_w hw 52 rfl)) (Or.inl (own_w hw 33 rfl)) (by decide) (t := .long) (t' := .int) (by decide) (by decide)))
  have F_c0_end_183 := F_c0_end_181.other W183 (Or.inr (slot_ne (Or.inl (own_w hw 27 rfl)) (Or.inl (own_w hw 33 rfl)) (by decide) (t := .int) (t' := .int) (by decide) (by decide)))
  have F_c0_firsts_183 := F_c0_firsts_181.other W183 (Or.inr (slot_ne (Or.inl (own_w hw 16 rfl)) (Or.inl (own_w hw 33 rfl)) (by decide) (t := (.array .long)) (t' := .int) (by decide) (by decide)))
  have F_c0_head_183 := F_c0_head_181.same W183
  have F_c0_lasts_183 := F_c0_lasts_181.other W183 (Or.inr (slot_ne (Or.inl (own_w hw 18 rfl)) (Or.inl (own_w hw 33 rfl)) (by decide) (t := (.array .long)) (t' := .int) (by decide) (by decide)))
  have F_c0_totals_183 := F_c0_totals_181.other W183 (Or.inr (slot_ne (Or.inl (own_w hw 20 rfl)) (Or.inl (own_w hw 33 rfl)) (by decide) (t := (.array .long)) (t' := .int) (by decide) (by decide)))
  have V_c1_183 := V_c1_181.other W183 (Ne.symm ne_c0_c1)
  have V_c2_183 := V_c2_181.other W183 (Ne.symm ne_c0_c2)
  have V_c3_183 := V_c3_181.other W183 (Ne.symm ne_c0_c3)
  have K183 : Keep h0 h183 [c0] := K181.wr W183 (Or.inl (List.mem_of_getElem? (i := 0) rfl))
  have O183 := O181.wr W183 n_c0
  have N183 := Fr.snoc X183 N181 n_c0
  refine own_goto 0 X183 hx hby d8_48 (by decide) (by decide) ?_
  refine own_aload_n 1 X183 hx hby d8_0 rfl rfl rfl ?_
  refine own_getF 4 X183 hx hby hZ hown (own_w hw 32 rfl) e183 F_c0_head_183 d8_1 rfl ?_
  intro T184 X184 e184
  refine own_aload_n 5 X184 hx hby d8_4 rfl rfl rfl ?_
  refine own_getF 8 X184 hx hby hZ hown (own_w hw 26 rfl) e184 F_c0_end_183 d8_5 rfl ?_
  intro T185 X185 e185
  refine own_icN 11 X185 hx hby d8_8 rfl (by decide) ?_
  refine own_aload_n 12 X185 hx hby d8_11 rfl rfl rfl ?_
  refine own_getF 15 X185 hx hby hZ hown (own_w hw 17 rfl) e185 F_c0_lasts_183 d8_12 rfl ?_
  intro T186 X186 e186
  refine own_aload_n 16 X186 hx hby d8_15 rfl rfl rfl ?_
  refine own_getF 19 X186 hx hby hZ hown (own_w hw 32 rfl) e186 F_c0_head_183 d8_16 rfl ?_
  intro T187 X187 e187
  refine own_laload 20 (.long y2) X187 hx hby hZ e187 V_c2_183 d8_19 rfl (by decide) rfl ?_
  refine own_lload_n 21 X187 hx hby d8_20 rfl rfl ?_
  refine own_lcmp 22 (XT.cmpL y2 y0) X187 hx hby d8_21 rfl rfl ?_
  refine own_ifY 51 X187 hx hby d8_22 (by decide) (by decide) (own_tltL hc188).2.2.1 ?_
  exact own_ret0 (Q := Q_rm8_31 Z w_NONE k_NONE c0 c1 k_c1 c2 k_c2 c3 k_c3 y0 y1 y2 y3 y4 h0 n0) X187 hx hby hret hlk d8_51 (by decide) (by decide) (by rw [e187]; exact ⟨rfl, N183, K183, E_c0_183, F_c0_droppedTotal_183, F_c0_end_183, F_c0_firsts_183, F_c0_head_183, F_c0_lasts_183, F_c0_totals_183, V_c1_183, V_c2_183, V_c3_183⟩)
def Q_rm8_32 (Z : State) (w_NONE k_NONE : Addr) (c0 : Addr) (c1 : Addr) (k_c1 : ClassId) (c2 : Addr) (k_c2 : ClassId) (c3 : Addr) (k_c3 : ClassId) (y0 : Int64) (y1 : Int64) (y2 : Int64) (y3 : Int64) (y4 : Int64) (h0 : Heap) (n0 : Nat) (v : Option Value) (h : Heap) (L : List Loc) : Prop := v = none ∧ Fr n0 L ∧ Keep h0 h [c0] ∧ Exa Z h c0 "com/example/meter/meter/store/Spans" ∧ Fld Z h c0 "com/example/meter/meter/store/Spans" "droppedTotal" "J" (.long y4) ∧ Fld Z h c0 "com/example/meter/meter/store/Spans" "end" "I" (.int (2 : Int32)) ∧ Fld Z h c0 "com/example/meter/meter/store/Spans" "firsts" "[J" (.ref c1) ∧ Fld Z h c0 "com/example/meter/meter/store/Spans" "head" "I" (.int (2 : Int32)) ∧ Fld Z h c0 "com/example/meter/meter/store/Spans" "lasts" "[J" (.ref c2) ∧ Fld Z h c0 "com/example/meter/meter/store/Spans" "totals" "[J" (.ref c3) ∧ Arv Z h c1 k_c1 .long (16 : Int32) [(.long y1), (.long y2), (.long (0 : Int64)), (.long (0 : Int64))] (.long (0 : Int64)) ∧ Arv Z h c2 k_c2 .long (16 : Int32) [(.long y1), (.long y2), (.long (0 : Int64)), (.long (0 : Int64))] (.long (0 : Int64)) ∧ Arv Z h c3 k_c3 .long (16 : Int32) [(.long y3), (.long y4), (.long (0 : Int64)), (.long (0 : Int64))] (.long (0 : Int64))
set_option maxRecDepth 65536 in
set_option maxHeartbeats 40000000 in
theorem rm8_32 (l : Launch) (Z : State) (a0 : Array Value) (hw : ∀ d ∈ tables_1, d.before a0 Z = true) (ws : List Jvm.Cond) (w_NONE k_NONE : Addr) (W : own_W Z w_NONE k_NONE) (c0 : Addr) (c1 : Addr) (k_c1 : ClassId) (c2 : Addr) (k_c2 : ClassId) (c3 : Addr) (k_c3 : ClassId) (y0 : Int64) (y1 : Int64) (y2 : Int64) (y3 : Int64) (y4 : Int64) (h0 : Heap) (n0 : Nat) (O0 : Old Z n0 h0) (E_c0 : Exa Z h0 c0 "com/example/meter/meter/store/Spans") (F_c0_droppedTotal : Fld Z h0 c0 "com/example/meter/meter/store/Spans" "droppedTotal" "J" (.long (0 : Int64))) (F_c0_end : Fld Z h0 c0 "com/example/meter/meter/store/Spans" "end" "I" (.int (2 : Int32))) (F_c0_firsts : Fld Z h0 c0 "com/example/meter/meter/store/Spans" "firsts" "[J" (.ref c1)) (F_c0_head : Fld Z h0 c0 "com/example/meter/meter/store/Spans" "head" "I" (.int (0 : Int32))) (F_c0_lasts : Fld Z h0 c0 "com/example/meter/meter/store/Spans" "lasts" "[J" (.ref c2)) (F_c0_totals : Fld Z h0 c0 "com/example/meter/meter/store/Spans" "totals" "[J" (.ref c3)) (n_c0 : n0 ≤ c0) (V_c1 : Arv Z h0 c1 k_c1 .long (16 : Int32) [(.long y1), (.long y2), (.long (0 : Int64)), (.long (0 : Int64))] (.long (0 : Int64))) (n_c1 : n0 ≤ c1) (V_c2 : Arv Z h0 c2 k_c2 .long (16 : Int32) [(.long y1), (.long y2), (.long (0 : Int64)), (.long (0 : Int64))] (.long (0 : Int64))) (n_c2 : n0 ≤ c2) (V_c3 : Arv Z h0 c3 k_c3 .long (16 : Int32) [(.long y3), (.long y4), (.long (0 : Int64)), (.long (0 : Int64))] (.long (0 : Int64))) (n_c3 : n0 ≤ c3) (ne_c0_c1 : c0 ≠ c1) (ne_c0_c2 : c0 ≠ c2) (ne_c0_c3 : c0 ≠ c3) (ne_c1_c2 : c1 ≠ c2) (ne_c1_c3 : c1 ≠ c3) (ne_c2_c3 : c2 ≠ c3) (hc178 : ¬ (y0 < y1)) (hc188 : ¬ (y0 < y2)) :
    MetFree l (⟨"com/example/meter/meter/store/Spans", "dropThrough", "(J)V"⟩ : MethodName) (head1 (Jvm.Cond.code (⟨"com/example/meter/meter/store/Spans", "dropThrough", "(J)V"⟩ : MethodName) prog_11_method_10_code 3 none :: ws) ({ frames := 0, cells := 0, slots := 0, locals := 0 } : Room)) (fun a U => a = #[(.ref c0), (.long y0)] ∧ Z.Warmed39 U.vm ∧ U.heap = h0) (fun _ _ _ _ _ => True) (fun _ U o U' => ∃ v L, o = .returned v ∧ Q_rm8_32 Z w_NONE k_NONE c0 c1 k_c1 c2 k_c2 c3 k_c3 y0 y1 y2 y3 y4 h0 n0 v U'.heap L ∧ FrameEnd U o U' L ({ frames := 0, cells := 0, slots := 0, locals := 0 } : Room).cells ({ frames := 0, cells := 0, slots := 0, locals := 0 } : Room).slots) := by
  refine MetFree.of_bodySF (plainFor_of_name pn_0) hisR ?_
  intro p e s m args below meth c s₁ Bd hml0 hP hK
  obtain ⟨rfl, hZ, hh⟩ := hP
  have hx := Bd.exec
  have hby := Bd.bytes
  have hml : c.maxLocals = 3 := hml0
  have hlk := BodyLoose.notSynchronized Bd
  have hret := Bd.returns
  have hown : s.vm.findClass "com/example/meter/meter/store/Spans" = some m.cls := findClass_of_methodNamed Bd.named
  have hnm := (name_of_methodNamed Bd.named Bd.method).1
  have X0 : Stand p l e ({ frames := 0, cells := 0, slots := 0, locals := 0 } : Room) s m #[(.ref c0), (.long y0)] below meth c s₁ [] 0 0 := Stand.of_body Bd
  have e0 : s₁.heap = h0 := by rw [← hh, Bd.state]; rfl
  have N0 := Fr.nil n0
  rw [ef_8 m c0 y0]
  show Go p e below _ (s₁.setTop (mkF m 0 #[oA c0, oJ y0, oS] []))
  refine own_aload_n 1 X0 hx hby d8_0 rfl rfl rfl ?_
  refine own_getF 4 X0 hx hby hZ hown (own_w hw 32 rfl) e0 F_c0_head d8_1 rfl ?_
  intro T174 X174 e174
  refine own_aload_n 5 X174 hx hby d8_4 rfl rfl rfl ?_
  refine own_getF 8 X174 hx hby hZ hown (own_w hw 26 rfl) e174 F_c0_end d8_5 rfl ?_
  intro T175 X175 e175
  refine own_icN 11 X175 hx hby d8_8 rfl (by decide) ?_
  refine own_aload_n 12 X175 hx hby d8_11 rfl rfl rfl ?_
  refine own_getF 15 X175 hx hby hZ hown (own_w hw 17 rfl) e175 F_c0_lasts d8_12 rfl ?_
  intro T176 X176 e176
  refine own_aload_n 16 X176 hx hby d8_15 rfl rfl rfl ?_
  refine own_getF 19 X176 hx hby hZ hown (own_w hw 32 rfl) e176 F_c0_head d8_16 rfl ?_
  intro T177 X177 e177
  refine own_laload 20 (.long y1) X177 hx hby hZ e177 V_c2 d8_19 rfl (by decide) rfl ?_
  refine own_lload_n 21 X177 hx hby d8_20 rfl rfl ?_
  refine own_lcmp 22 (XT.cmpL y1 y0) X177 hx hby d8_21 rfl rfl ?_
  refine own_ifN 25 X177 hx hby d8_22 rfl (own_fltL hc178).2.2.1 ?_
  refine own_aload_n 26 X177 hx hby d8_25 rfl rfl rfl ?_
  refine own_aload_n 27 X177 hx hby d8_26 rfl rfl rfl ?_
  refine own_getF 30 X177 hx hby hZ hown (own_w hw 19 rfl) e177 F_c0_totals d8_27 rfl ?_
  intro T179 X179 e179
  refine own_aload_n 31 X179 hx hby d8_30 rfl rfl rfl ?_
  refine own_getF 34 X179 hx hby hZ hown (own_w hw 32 rfl) e179 F_c0_head d8_31 rfl ?_
  intro T180 X180 e180
  refine own_laload 35 (.long y3) X180 hx hby hZ e180 V_c3 d8_34 rfl (by decide) rfl ?_
  refine own_putF 38 X180 hx hby hZ .long hown (own_w hw 51 rfl) e180 F_c0_droppedTotal E_c0 (Or.inl (own_w hw 52 rfl)) (own_w hw 5 rfl) (by decide) rfl rfl d8_35 rfl ?_
  intro T181 h181 X181 e181 W181
  have E_c0_181 := E_c0.wr W181
  have F_c0_droppedTotal_181 := F_c0_droppedTotal.same W181
  have F_c0_end_181 := F_c0_end.other W181 (Or.inr (slot_ne (Or.inl (own_w hw 27 rfl)) (Or.inl (own_w hw 52 rfl)) (by decide) (t := .int) (t' := .long) (by decide) (by decide)))
  have F_c0_firsts_181 := F_c0_firsts.other W181 (Or.inr (slot_ne (Or.inl (own_w hw 16 rfl)) (Or.inl (own_w hw 52 rfl)) (by decide) (t := (.array .long)) (t' := .long) (by decide) (by decide)))
  have F_c0_head_181 := F_c0_head.other W181 (Or.inr (slot_ne (Or.inl (own_w hw 33 rfl)) (Or.inl (own_w hw 52 rfl)) (by decide) (t := .int) (t' := .long) (by decide) (by decide)))
  have F_c0_lasts_181 := F_c0_lasts.other W181 (Or.inr (slot_ne (Or.inl (own_w hw 18 rfl)) (Or.inl (own_w hw 52 rfl)) (by decide) (t := (.array .long)) (t' := .long) (by decide) (by decide)))
  have F_c0_totals_181 := F_c0_totals.other W181 (Or.inr (slot_ne (Or.inl (own_w hw 20 rfl)) (Or.inl (own_w hw 52 rfl)) (by decide) (t := (.array .long)) (t' := .long) (by decide) (by decide)))
  have V_c1_181 := V_c1.other W181 (Ne.symm ne_c0_c1)
  have V_c2_181 := V_c2.other W181 (Ne.symm ne_c0_c2)
  have V_c3_181 := V_c3.other W181 (Ne.symm ne_c0_c3)
  have K181 : Keep h0 h181 [c0] := (Keep.refl h0 [c0]).wr W181 (Or.inl (List.mem_of_getElem? (i := 0) rfl))
  have O181 := O0.wr W181 n_c0
  have N181 := Fr.snoc X181 N0 n_c0
  refine own_aload_n 39 X181 hx hby d8_38 rfl rfl rfl ?_
  refine own_dup 40 X181 hx hby d8_39 rfl rfl ?_
  refine own_getF 43 X181 hx hby hZ hown (own_w hw 32 rfl) e181 F_c0_head_181 d8_40 rfl ?_
  intro T182 X182 e182
  refine own_iconst 44 (1 : Int32) X182 hx hby d8_43 rfl (by decide) ?_
  refine own_iadd 45 (1 : Int32) X182 hx hby d8_44 rfl (by decide) ?_
  refine own_putF 48 X182 hx hby hZ .int hown (own_w hw 32 rfl) e182 F_c0_head_181 E_c0_181 (Or.inl (own_w hw 33 rfl)) (own_w hw 5 rfl) (by decide) rfl rfl d8_45 rfl ?_
  intro T183 h183 X183 e183 W183
  have E_c0_183 := E_c0_181.wr W183
  have F_c0_droppedTotal_183 := F_c0_droppedTotal_181.other W183 (Or.inr (slot_ne (Or.inl (own_w hw 52 rfl)) (Or.inl (own_w hw 33 rfl)) (by decide) (t := .long) (t' := .int) (by decide) (by decide)))
  have F_c0_end_183 := F_c0_end_181.other W183 (Or.inr (slot_ne (Or.inl (own_w hw 27 rfl)) (Or.inl (own_w hw 33 rfl)) (by decide) (t := .int) (t' := .int) (by decide) (by decide)))
  have F_c0_firsts_183 := F_c0_firsts_181.other W183 (Or.inr (slot_ne (Or.inl (own_w hw 16 rfl)) (Or.inl (own_w hw 33 rfl)) (by decide) (t := (.array .long)) (t' := .int) (by decide) (by decide)))
  have F_c0_head_183 := F_c0_head_181.same W183
  have F_c0_lasts_183 := F_c0_lasts_181.other W183 (Or.inr (slot_ne (Or.inl (own_w hw 18 rfl)) (Or.inl (own_w hw 33 rfl)) (by decide) (t := (.array .long)) (t' := .int) (by decide) (by decide)))
  have F_c0_totals_183 := F_c0_totals_181.other W183 (Or.inr (slot_ne (Or.inl (own_w hw 20 rfl)) (Or.inl (own_w hw 33 rfl)) (by decide) (t := (.array .long)) (t' := .int) (by decide) (by decide)))
  have V_c1_183 := V_c1_181.other W183 (Ne.symm ne_c0_c1)
  have V_c2_183 := V_c2_181.other W183 (Ne.symm ne_c0_c2)
  have V_c3_183 := V_c3_181.other W183 (Ne.symm ne_c0_c3)
  have K183 : Keep h0 h183 [c0] := K181.wr W183 (Or.inl (List.mem_of_getElem? (i := 0) rfl))
  have O183 := O181.wr W183 n_c0
  have N183 := Fr.snoc X183 N181 n_c0
  refine own_goto 0 X183 hx hby d8_48 (by decide) (by decide) ?_
  refine own_aload_n 1 X183 hx hby d8_0 rfl rfl rfl ?_
  refine own_getF 4 X183 hx hby hZ hown (own_w hw 32 rfl) e183 F_c0_head_183 d8_1 rfl ?_
  intro T184 X184 e184
  refine own_aload_n 5 X184 hx hby d8_4 rfl rfl rfl ?_
  refine own_getF 8 X184 hx hby hZ hown (own_w hw 26 rfl) e184 F_c0_end_183 d8_5 rfl ?_
  intro T185 X185 e185
  refine own_icN 11 X185 hx hby d8_8 rfl (by decide) ?_
  refine own_aload_n 12 X185 hx hby d8_11 rfl rfl rfl ?_
  refine own_getF 15 X185 hx hby hZ hown (own_w hw 17 rfl) e185 F_c0_lasts_183 d8_12 rfl ?_
  intro T186 X186 e186
  refine own_aload_n 16 X186 hx hby d8_15 rfl rfl rfl ?_
  refine own_getF 19 X186 hx hby hZ hown (own_w hw 32 rfl) e186 F_c0_head_183 d8_16 rfl ?_
  intro T187 X187 e187
  refine own_laload 20 (.long y2) X187 hx hby hZ e187 V_c2_183 d8_19 rfl (by decide) rfl ?_
  refine own_lload_n 21 X187 hx hby d8_20 rfl rfl ?_
  refine own_lcmp 22 (XT.cmpL y2 y0) X187 hx hby d8_21 rfl rfl ?_
  refine own_ifN 25 X187 hx hby d8_22 rfl (own_fltL hc188).2.2.1 ?_
  refine own_aload_n 26 X187 hx hby d8_25 rfl rfl rfl ?_
  refine own_aload_n 27 X187 hx hby d8_26 rfl rfl rfl ?_
  refine own_getF 30 X187 hx hby hZ hown (own_w hw 19 rfl) e187 F_c0_totals_183 d8_27 rfl ?_
  intro T189 X189 e189
  refine own_aload_n 31 X189 hx hby d8_30 rfl rfl rfl ?_
  refine own_getF 34 X189 hx hby hZ hown (own_w hw 32 rfl) e189 F_c0_head_183 d8_31 rfl ?_
  intro T190 X190 e190
  refine own_laload 35 (.long y4) X190 hx hby hZ e190 V_c3_183 d8_34 rfl (by decide) rfl ?_
  refine own_putF 38 X190 hx hby hZ .long hown (own_w hw 51 rfl) e190 F_c0_droppedTotal_183 E_c0_183 (Or.inl (own_w hw 52 rfl)) (own_w hw 5 rfl) (by decide) rfl rfl d8_35 rfl ?_
  intro T191 h191 X191 e191 W191
  have E_c0_191 := E_c0_183.wr W191
  have F_c0_droppedTotal_191 := F_c0_droppedTotal_183.same W191
  have F_c0_end_191 := F_c0_end_183.other W191 (Or.inr (slot_ne (Or.inl (own_w hw 27 rfl)) (Or.inl (own_w hw 52 rfl)) (by decide) (t := .int) (t' := .long) (by decide) (by decide)))
  have F_c0_firsts_191 := F_c0_firsts_183.other W191 (Or.inr (slot_ne (Or.inl (own_w hw 16 rfl)) (Or.inl (own_w hw 52 rfl)) (by decide) (t := (.array .long)) (t' := .long) (by decide) (by decide)))
  have F_c0_head_191 := F_c0_head_183.other W191 (Or.inr (slot_ne (Or.inl (own_w hw 33 rfl)) (Or.inl (own_w hw 52 rfl)) (by decide) (t := .int) (t' := .long) (by decide) (by decide)))
  have F_c0_lasts_191 := F_c0_lasts_183.other W191 (Or.inr (slot_ne (Or.inl (own_w hw 18 rfl)) (Or.inl (own_w hw 52 rfl)) (by decide) (t := (.array .long)) (t' := .long) (by decide) (by decide)))
  have F_c0_totals_191 := F_c0_totals_183.other W191 (Or.inr (slot_ne (Or.inl (own_w hw 20 rfl)) (Or.inl (own_w hw 52 rfl)) (by decide) (t := (.array .long)) (t' := .long) (by decide) (by decide)))
  have V_c1_191 := V_c1_183.other W191 (Ne.symm ne_c0_c1)
  have V_c2_191 := V_c2_183.other W191 (Ne.symm ne_c0_c2)
  have V_c3_191 := V_c3_183.other W191 (Ne.symm ne_c0_c3)
  have K191 : Keep h0 h191 [c0] := K183.wr W191 (Or.inl (List.mem_of_getElem? (i := 0) rfl))
  have O191 := O183.wr W191 n_c0
  have N191 := Fr.snoc X191 N183 n_c0
  refine own_aload_n 39 X191 hx hby d8_38 rfl rfl rfl ?_
  refine own_dup 40 X191 hx hby d8_39 rfl rfl ?_
  refine own_getF 43 X191 hx hby hZ hown (own_w hw 32 rfl) e191 F_c0_head_191 d8_40 rfl ?_
  intro T192 X192 e192
  refine own_iconst 44 (1 : Int32) X192 hx hby d8_43 rfl (by decide) ?_
  refine own_iadd 45 (2 : Int32) X192 hx hby d8_44 rfl (by decide) ?_
  refine own_putF 48 X192 hx hby hZ .int hown (own_w hw 32 rfl) e192 F_c0_head_191 E_c0_191 (Or.inl (own_w hw 33 rfl)) (own_w hw 5 rfl) (by decide) rfl rfl d8_45 rfl ?_
  intro T193 h193 X193 e193 W193
  have E_c0_193 := E_c0_191.wr W193
  have F_c0_droppedTotal_193 := F_c0_droppedTotal_191.other W193 (Or.inr (slot_ne (Or.inl (own_w hw 52 rfl)) (Or.inl (own_w hw 33 rfl)) (by decide) (t := .long) (t' := .int) (by decide) (by decide)))
  have F_c0_end_193 := F_c0_end_191.other W193 (Or.inr (slot_ne (Or.inl (own_w hw 27 rfl)) (Or.inl (own_w hw 33 rfl)) (by decide) (t := .int) (t' := .int) (by decide) (by decide)))
  have F_c0_firsts_193 := F_c0_firsts_191.other W193 (Or.inr (slot_ne (Or.inl (own_w hw 16 rfl)) (Or.inl (own_w hw 33 rfl)) (by decide) (t := (.array .long)) (t' := .int) (by decide) (by decide)))
  have F_c0_head_193 := F_c0_head_191.same W193
  have F_c0_lasts_193 := F_c0_lasts_191.other W193 (Or.inr (slot_ne (Or.inl (own_w hw 18 rfl)) (Or.inl (own_w hw 33 rfl)) (by decide) (t := (.array .long)) (t' := .int) (by decide) (by decide)))
  have F_c0_totals_193 := F_c0_totals_191.other W193 (Or.inr (slot_ne (Or.inl (own_w hw 20 rfl)) (Or.inl (own_w hw 33 rfl)) (by decide) (t := (.array .long)) (t' := .int) (by decide) (by decide)))
  have V_c1_193 := V_c1_191.other W193 (Ne.symm ne_c0_c1)
  have V_c2_193 := V_c2_191.other W193 (Ne.symm ne_c0_c2)
  have V_c3_193 := V_c3_191.other W193 (Ne.symm ne_c0_c3)
  have K193 : Keep h0 h193 [c0] := K191.wr W193 (Or.inl (List.mem_of_getElem? (i := 0) rfl))
  have O193 := O191.wr W193 n_c0
  have N193 := Fr.snoc X193 N191 n_c0
  refine own_goto 0 X193 hx hby d8_48 (by decide) (by decide) ?_
  refine own_aload_n 1 X193 hx hby d8_0 rfl rfl rfl ?_
  refine own_getF 4 X193 hx hby hZ hown (own_w hw 32 rfl) e193 F_c0_head_193 d8_1 rfl ?_
  intro T194 X194 e194
  refine own_aload_n 5 X194 hx hby d8_4 rfl rfl rfl ?_
  refine own_getF 8 X194 hx hby hZ hown (own_w hw 26 rfl) e194 F_c0_end_193 d8_5 rfl ?_
  intro T195 X195 e195
  refine own_icY 51 X195 hx hby d8_8 (by decide) (by decide) (by decide) ?_
  exact own_ret0 (Q := Q_rm8_32 Z w_NONE k_NONE c0 c1 k_c1 c2 k_c2 c3 k_c3 y0 y1 y2 y3 y4 h0 n0) X195 hx hby hret hlk d8_51 (by decide) (by decide) (by rw [e195]; exact ⟨rfl, N193, K193, E_c0_193, F_c0_droppedTotal_193, F_c0_end_193, F_c0_firsts_193, F_c0_head_193, F_c0_lasts_193, F_c0_totals_193, V_c1_193, V_c2_193, V_c3_193⟩)
set_option maxRecDepth 65536 in
set_option maxHeartbeats 40000000 in
theorem rm9_33 (l : Launch) (Z : State) (a0 : Array Value) (hw : ∀ d ∈ tables_1, d.before a0 Z = true) (ws : List Jvm.Cond) (w_NONE k_NONE : Addr) (W : own_W Z w_NONE k_NONE) (c0 : Addr) (c1 : Addr) (k_c1 : ClassId) (c2 : Addr) (k_c2 : ClassId) (c3 : Addr) (k_c3 : ClassId) (y0 : Int64) (y1 : Int64) (y2 : Int64) (y3 : Int64) (h0 : Heap) (n0 : Nat) (O0 : Old Z n0 h0) (E_c0 : Exa Z h0 c0 "com/example/meter/meter/store/Spans") (F_c0_droppedTotal : Fld Z h0 c0 "com/example/meter/meter/store/Spans" "droppedTotal" "J" (.long (0 : Int64))) (F_c0_end : Fld Z h0 c0 "com/example/meter/meter/store/Spans" "end" "I" (.int (2 : Int32))) (F_c0_firsts : Fld Z h0 c0 "com/example/meter/meter/store/Spans" "firsts" "[J" (.ref c1)) (F_c0_head : Fld Z h0 c0 "com/example/meter/meter/store/Spans" "head" "I" (.int (0 : Int32))) (F_c0_lasts : Fld Z h0 c0 "com/example/meter/meter/store/Spans" "lasts" "[J" (.ref c2)) (F_c0_totals : Fld Z h0 c0 "com/example/meter/meter/store/Spans" "totals" "[J" (.ref c3)) (n_c0 : n0 ≤ c0) (V_c1 : Arv Z h0 c1 k_c1 .long (16 : Int32) [(.long y0), (.long y1), (.long (0 : Int64)), (.long (0 : Int64))] (.long (0 : Int64))) (n_c1 : n0 ≤ c1) (V_c2 : Arv Z h0 c2 k_c2 .long (16 : Int32) [(.long y0), (.long y1), (.long (0 : Int64)), (.long (0 : Int64))] (.long (0 : Int64))) (n_c2 : n0 ≤ c2) (V_c3 : Arv Z h0 c3 k_c3 .long (16 : Int32) [(.long y2), (.long y3), (.long (0 : Int64)), (.long (0 : Int64))] (.long (0 : Int64))) (n_c3 : n0 ≤ c3) (ne_c0_c1 : c0 ≠ c1) (ne_c0_c2 : c0 ≠ c2) (ne_c0_c3 : c0 ≠ c3) (ne_c1_c2 : c1 ≠ c2) (ne_c1_c3 : c1 ≠ c3) (ne_c2_c3 : c2 ≠ c3) :
    MetFree l (⟨"com/example/meter/meter/store/Spans", "size", "()I"⟩ : MethodName) (head1 (Jvm.Cond.code (⟨"com/example/meter/meter/store/Spans", "size", "()I"⟩ : MethodName) prog_11_method_5_code 1 (some .int) :: ws) ({ frames := 0, cells := 0, slots := 0, locals := 0 } : Room)) (fun a U => a = #[(.ref c0)] ∧ Z.Warmed39 U.vm ∧ U.heap = h0) (fun _ _ _ _ _ => True) (fun _ U o U' => ∃ v L, o = .returned v ∧ own_Q (some (.int (2 : Int32))) n0 h0 v U'.heap L ∧ FrameEnd U o U' L ({ frames := 0, cells := 0, slots := 0, locals := 0 } : Room).cells ({ frames := 0, cells := 0, slots := 0, locals := 0 } : Room).slots) := by
  refine MetFree.of_bodySF (plainFor_of_name pn_0) hisR ?_
  intro p e s m args below meth c s₁ Bd hml0 hP hK
  obtain ⟨rfl, hZ, hh⟩ := hP
  have hx := Bd.exec
  have hby := Bd.bytes
  have hml : c.maxLocals = 1 := hml0
  have hlk := BodyLoose.notSynchronized Bd
  have hret := Bd.returns
  have hown : s.vm.findClass "com/example/meter/meter/store/Spans" = some m.cls := findClass_of_methodNamed Bd.named
  have hnm := (name_of_methodNamed Bd.named Bd.method).1
  have X0 : Stand p l e ({ frames := 0, cells := 0, slots := 0, locals := 0 } : Room) s m #[(.ref c0)] below meth c s₁ [] 0 0 := Stand.of_body Bd
  have e0 : s₁.heap = h0 := by rw [← hh, Bd.state]; rfl
  have N0 := Fr.nil n0
  rw [ef_9 m c0]
  show Go p e below _ (s₁.setTop (mkF m 0 #[oA c0] []))
  refine own_aload_n 1 X0 hx hby d9_0 rfl rfl rfl ?_
  refine own_getF 4 X0 hx hby hZ hown (own_w hw 26 rfl) e0 F_c0_end d9_1 rfl ?_
  intro T200 X200 e200
  refine own_aload_n 5 X200 hx hby d9_4 rfl rfl rfl ?_
  refine own_getF 8 X200 hx hby hZ hown (own_w hw 32 rfl) e200 F_c0_head d9_5 rfl ?_
  intro T201 X201 e201
  refine own_isub 9 (2 : Int32) X201 hx hby d9_8 rfl (by decide) ?_
  exact own_ret (Q := own_Q (some (.int (2 : Int32))) n0 h0) X201 hx hby hret hlk d9_9 rfl (Or.inl ⟨rfl, by simp, _, rfl⟩) (by decide) (by decide) ⟨rfl, N0, e201⟩
set_option maxRecDepth 65536 in
set_option maxHeartbeats 40000000 in
theorem rm7_34 (l : Launch) (Z : State) (a0 : Array Value) (hw : ∀ d ∈ tables_1, d.before a0 Z = true) (ws : List Jvm.Cond) (w_NONE k_NONE : Addr) (W : own_W Z w_NONE k_NONE) (c0 : Addr) (c1 : Addr) (k_c1 : ClassId) (c2 : Addr) (k_c2 : ClassId) (c3 : Addr) (k_c3 : ClassId) (y0 : Int64) (y1 : Int64) (y2 : Int64) (y3 : Int64) (h0 : Heap) (n0 : Nat) (O0 : Old Z n0 h0) (E_c0 : Exa Z h0 c0 "com/example/meter/meter/store/Spans") (F_c0_droppedTotal : Fld Z h0 c0 "com/example/meter/meter/store/Spans" "droppedTotal" "J" (.long (0 : Int64))) (F_c0_end : Fld Z h0 c0 "com/example/meter/meter/store/Spans" "end" "I" (.int (2 : Int32))) (F_c0_firsts : Fld Z h0 c0 "com/example/meter/meter/store/Spans" "firsts" "[J" (.ref c1)) (F_c0_head : Fld Z h0 c0 "com/example/meter/meter/store/Spans" "head" "I" (.int (0 : Int32))) (F_c0_lasts : Fld Z h0 c0 "com/example/meter/meter/store/Spans" "lasts" "[J" (.ref c2)) (F_c0_totals : Fld Z h0 c0 "com/example/meter/meter/store/Spans" "totals" "[J" (.ref c3)) (n_c0 : n0 ≤ c0) (V_c1 : Arv Z h0 c1 k_c1 .long (16 : Int32) [(.long y0), (.long y1), (.long (0 : Int64)), (.long (0 : Int64))] (.long (0 : Int64))) (n_c1 : n0 ≤ c1) (V_c2 : Arv Z h0 c2 k_c2 .long (16 : Int32) [(.long y0), (.long y1), (.long (0 : Int64)), (.long (0 : Int64))] (.long (0 : Int64))) (n_c2 : n0 ≤ c2) (V_c3 : Arv Z h0 c3 k_c3 .long (16 : Int32) [(.long y2), (.long y3), (.long (0 : Int64)), (.long (0 : Int64))] (.long (0 : Int64))) (n_c3 : n0 ≤ c3) (ne_c0_c1 : c0 ≠ c1) (ne_c0_c2 : c0 ≠ c2) (ne_c0_c3 : c0 ≠ c3) (ne_c1_c2 : c1 ≠ c2) (ne_c1_c3 : c1 ≠ c3) (ne_c2_c3 : c2 ≠ c3) :
    MetFree l (⟨"com/example/meter/meter/store/Spans", "totalBefore", "(I)J"⟩ : MethodName) (head1 (Jvm.Cond.code (⟨"com/example/meter/meter/store/Spans", "totalBefore", "(I)J"⟩ : MethodName) prog_11_method_14_code 2 (some .long) :: ws) ({ frames := 0, cells := 0, slots := 0, locals := 0 } : Room)) (fun a U => a = #[(.ref c0), (.int (2 : Int32))] ∧ Z.Warmed39 U.vm ∧ U.heap = h0) (fun _ _ _ _ _ => True) (fun _ U o U' => ∃ v L, o = .returned v ∧ own_Q (some (.long y3)) n0 h0 v U'.heap L ∧ FrameEnd U o U' L ({ frames := 0, cells := 0, slots := 0, locals := 0 } : Room).cells ({ frames := 0, cells := 0, slots := 0, locals := 0 } : Room).slots) := by
  refine MetFree.of_bodySF (plainFor_of_name pn_0) hisR ?_
  intro p e s m args below meth c s₁ Bd hml0 hP hK
  obtain ⟨rfl, hZ, hh⟩ := hP
  have hx := Bd.exec
  have hby := Bd.bytes
  have hml : c.maxLocals = 2 := hml0
  have hlk := BodyLoose.notSynchronized Bd
  have hret := Bd.returns
  have hown : s.vm.findClass "com/example/meter/meter/store/Spans" = some m.cls := findClass_of_methodNamed Bd.named
  have hnm := (name_of_methodNamed Bd.named Bd.method).1
  have X0 : Stand p l e ({ frames := 0, cells := 0, slots := 0, locals := 0 } : Room) s m #[(.ref c0), (.int (2 : Int32))] below meth c s₁ [] 0 0 := Stand.of_body Bd
  have e0 : s₁.heap = h0 := by rw [← hh, Bd.state]; rfl
  have N0 := Fr.nil n0
  rw [ef_7 m c0 (2 : Int32)]
  show Go p e below _ (s₁.setTop (mkF m 0 #[oA c0, oI (2 : Int32)] []))
  refine own_iload_n 1 X0 hx hby d7_0 rfl rfl ?_
  refine own_aload_n 2 X0 hx hby d7_1 rfl rfl rfl ?_
  refine own_getF 5 X0 hx hby hZ hown (own_w hw 32 rfl) e0 F_c0_head d7_2 rfl ?_
  intro T204 X204 e204
  refine own_icY 15 X204 hx hby d7_5 (by decide) (by decide) (by decide) ?_
  refine own_aload_n 16 X204 hx hby d7_15 rfl rfl rfl ?_
  refine own_getF 19 X204 hx hby hZ hown (own_w hw 19 rfl) e204 F_c0_totals d7_16 rfl ?_
  intro T205 X205 e205
  refine own_iload_n 20 X205 hx hby d7_19 rfl rfl ?_
  refine own_iconst 21 (1 : Int32) X205 hx hby d7_20 rfl (by decide) ?_
  refine own_isub 22 (1 : Int32) X205 hx hby d7_21 rfl (by decide) ?_
  refine own_laload 23 (.long y3) X205 hx hby hZ e205 V_c3 d7_22 rfl (by decide) rfl ?_
  exact own_ret (Q := own_Q (some (.long y3)) n0 h0) X205 hx hby hret hlk d7_23 rfl (Or.inr (Or.inl ⟨rfl, rfl, _, rfl⟩)) (by decide) (by decide) ⟨rfl, N0, e205⟩
set_option maxRecDepth 65536 in
set_option maxHeartbeats 40000000 in
theorem rm10_35 (l : Launch) (Z : State) (a0 : Array Value) (hw : ∀ d ∈ tables_1, d.before a0 Z = true) (ws : List Jvm.Cond) (w_NONE k_NONE : Addr) (W : own_W Z w_NONE k_NONE) (c0 : Addr) (c1 : Addr) (k_c1 : ClassId) (c2 : Addr) (k_c2 : ClassId) (c3 : Addr) (k_c3 : ClassId) (y0 : Int64) (y1 : Int64) (y2 : Int64) (y3 : Int64) (h0 : Heap) (n0 : Nat) (O0 : Old Z n0 h0) (E_c0 : Exa Z h0 c0 "com/example/meter/meter/store/Spans") (F_c0_droppedTotal : Fld Z h0 c0 "com/example/meter/meter/store/Spans" "droppedTotal" "J" (.long (0 : Int64))) (F_c0_end : Fld Z h0 c0 "com/example/meter/meter/store/Spans" "end" "I" (.int (2 : Int32))) (F_c0_firsts : Fld Z h0 c0 "com/example/meter/meter/store/Spans" "firsts" "[J" (.ref c1)) (F_c0_head : Fld Z h0 c0 "com/example/meter/meter/store/Spans" "head" "I" (.int (0 : Int32))) (F_c0_lasts : Fld Z h0 c0 "com/example/meter/meter/store/Spans" "lasts" "[J" (.ref c2)) (F_c0_totals : Fld Z h0 c0 "com/example/meter/meter/store/Spans" "totals" "[J" (.ref c3)) (n_c0 : n0 ≤ c0) (V_c1 : Arv Z h0 c1 k_c1 .long (16 : Int32) [(.long y0), (.long y1), (.long (0 : Int64)), (.long (0 : Int64))] (.long (0 : Int64))) (n_c1 : n0 ≤ c1) (V_c2 : Arv Z h0 c2 k_c2 .long (16 : Int32) [(.long y0), (.long y1), (.long (0 : Int64)), (.long (0 : Int64))] (.long (0 : Int64))) (n_c2 : n0 ≤ c2) (V_c3 : Arv Z h0 c3 k_c3 .long (16 : Int32) [(.long y2), (.long y3), (.long (0 : Int64)), (.long (0 : Int64))] (.long (0 : Int64))) (n_c3 : n0 ≤ c3) (ne_c0_c1 : c0 ≠ c1) (ne_c0_c2 : c0 ≠ c2) (ne_c0_c3 : c0 ≠ c3) (ne_c1_c2 : c1 ≠ c2) (ne_c1_c3 : c1 ≠ c3) (ne_c2_c3 : c2 ≠ c3) :
    MetFree l (⟨"com/example/meter/meter/store/Spans", "hits", "()J"⟩ : MethodName) (head1 (Jvm.Cond.code (⟨"com/example/meter/meter/store/Spans", "hits", "()J"⟩ : MethodName) prog_11_method_6_code 1 (some .long) :: ws) ({ frames := 1, cells := 0, slots := 0, locals := 13 } : Room)) (fun a U => a = #[(.ref c0)] ∧ Z.Warmed39 U.vm ∧ U.heap = h0) (fun _ _ _ _ _ => True) (fun _ U o U' => ∃ v L, o = .returned v ∧ own_Q (some (.long (y3 - (0 : Int64)))) n0 h0 v U'.heap L ∧ FrameEnd U o U' L ({ frames := 1, cells := 0, slots := 0, locals := 13 } : Room).cells ({ frames := 1, cells := 0, slots := 0, locals := 13 } : Room).slots) := by
  refine MetFree.of_bodySF (plainFor_of_name pn_0) hisR ?_
  intro p e s m args below meth c s₁ Bd hml0 hP hK
  obtain ⟨rfl, hZ, hh⟩ := hP
  have hx := Bd.exec
  have hby := Bd.bytes
  have hml : c.maxLocals = 1 := hml0
  have hlk := BodyLoose.notSynchronized Bd
  have hret := Bd.returns
  have hown : s.vm.findClass "com/example/meter/meter/store/Spans" = some m.cls := findClass_of_methodNamed Bd.named
  have hnm := (name_of_methodNamed Bd.named Bd.method).1
  have X0 : Stand p l e ({ frames := 1, cells := 0, slots := 0, locals := 13 } : Room) s m #[(.ref c0)] below meth c s₁ [] 0 0 := Stand.of_body Bd
  have e0 : s₁.heap = h0 := by rw [← hh, Bd.state]; rfl
  have N0 := Fr.nil n0
  rw [ef_10 m c0]
  show Go p e below _ (s₁.setTop (mkF m 0 #[oA c0] []))
  refine own_aload_n 1 X0 hx hby d10_0 rfl rfl rfl ?_
  refine own_aload_n 2 X0 hx hby d10_1 rfl rfl rfl ?_
  refine own_getF 5 X0 hx hby hZ hown (own_w hw 26 rfl) e0 F_c0_end d10_2 rfl ?_
  intro T203 X203 e203
  refine own_priv (W := 0) 8 (rm7_34 l Z a0 hw [] w_NONE k_NONE W c0 c1 k_c1 c2 k_c2 c3 k_c3 y0 y1 y2 y3 h0 n0 O0 E_c0 F_c0_droppedTotal F_c0_end F_c0_firsts F_c0_head F_c0_lasts F_c0_totals n_c0 V_c1 n_c1 V_c2 n_c2 V_c3 n_c3 ne_c0_c1 ne_c0_c2 ne_c0_c3 ne_c1_c2 ne_c1_c3 ne_c2_c3) X203 hx hby hZ hown (own_w hw 47 rfl) (own_w hw 48 rfl) (own_w hw 49 rfl) (own_w hw 24 rfl) (own_w hw 6 rfl) (own_w hw 50 rfl) rfl (by decide) (by rw [hml]; rfl) c0 [(.int (2 : Int32))] [] pd_3 rfl d10_5 rfl e203 E_c0 rfl rfl rfl (by decide) (by decide) (by decide) (by decide) ?_
  rintro _ T206 L206 X206 ⟨rfl, N206, e206⟩
  have N206 := Fr.app N0 N206
  show Go p e below _ (T206.setTop (mkF m 8 _ [(.long y3)]))
  refine own_aload_n 9 X206 hx hby d10_8 rfl rfl rfl ?_
  refine own_getF 12 X206 hx hby hZ hown (own_w hw 51 rfl) e206 F_c0_droppedTotal d10_9 rfl ?_
  intro T207 X207 e207
  refine own_lsub 13 (y3 - (0 : Int64)) X207 hx hby d10_12 rfl rfl ?_
  exact own_ret (Q := own_Q (some (.long (y3 - (0 : Int64)))) n0 h0) X207 hx hby hret hlk d10_13 rfl (Or.inr (Or.inl ⟨rfl, rfl, _, rfl⟩)) (by decide) (by decide) ⟨rfl, N206, e207⟩
set_option maxRecDepth 65536 in
set_option maxHeartbeats 40000000 in
theorem rm11_36 (l : Launch) (Z : State) (a0 : Array Value) (hw : ∀ d ∈ tables_1, d.before a0 Z = true) (ws : List Jvm.Cond) (w_NONE k_NONE : Addr) (W : own_W Z w_NONE k_NONE) (c0 : Addr) (c1 : Addr) (k_c1 : ClassId) (c2 : Addr) (k_c2 : ClassId) (c3 : Addr) (k_c3 : ClassId) (y0 : Int64) (y1 : Int64) (y2 : Int64) (y3 : Int64) (h0 : Heap) (n0 : Nat) (O0 : Old Z n0 h0) (E_c0 : Exa Z h0 c0 "com/example/meter/meter/store/Spans") (F_c0_droppedTotal : Fld Z h0 c0 "com/example/meter/meter/store/Spans" "droppedTotal" "J" (.long (0 : Int64))) (F_c0_end : Fld Z h0 c0 "com/example/meter/meter/store/Spans" "end" "I" (.int (2 : Int32))) (F_c0_firsts : Fld Z h0 c0 "com/example/meter/meter/store/Spans" "firsts" "[J" (.ref c1)) (F_c0_head : Fld Z h0 c0 "com/example/meter/meter/store/Spans" "head" "I" (.int (0 : Int32))) (F_c0_lasts : Fld Z h0 c0 "com/example/meter/meter/store/Spans" "lasts" "[J" (.ref c2)) (F_c0_totals : Fld Z h0 c0 "com/example/meter/meter/store/Spans" "totals" "[J" (.ref c3)) (n_c0 : n0 ≤ c0) (V_c1 : Arv Z h0 c1 k_c1 .long (16 : Int32) [(.long y0), (.long y1), (.long (0 : Int64)), (.long (0 : Int64))] (.long (0 : Int64))) (n_c1 : n0 ≤ c1) (V_c2 : Arv Z h0 c2 k_c2 .long (16 : Int32) [(.long y0), (.long y1), (.long (0 : Int64)), (.long (0 : Int64))] (.long (0 : Int64))) (n_c2 : n0 ≤ c2) (V_c3 : Arv Z h0 c3 k_c3 .long (16 : Int32) [(.long y2), (.long y3), (.long (0 : Int64)), (.long (0 : Int64))] (.long (0 : Int64))) (n_c3 : n0 ≤ c3) (ne_c0_c1 : c0 ≠ c1) (ne_c0_c2 : c0 ≠ c2) (ne_c0_c3 : c0 ≠ c3) (ne_c1_c2 : c1 ≠ c2) (ne_c1_c3 : c1 ≠ c3) (ne_c2_c3 : c2 ≠ c3) :
    MetFree l (⟨"com/example/meter/meter/store/Spans", "newestSecond", "()J"⟩ : MethodName) (head1 (Jvm.Cond.code (⟨"com/example/meter/meter/store/Spans", "newestSecond", "()J"⟩ : MethodName) prog_11_method_7_code 1 (some .long) :: ws) ({ frames := 0, cells := 0, slots := 0, locals := 0 } : Room)) (fun a U => a = #[(.ref c0)] ∧ Z.Warmed39 U.vm ∧ U.heap = h0) (fun _ _ _ _ _ => True) (fun _ U o U' => ∃ v L, o = .returned v ∧ own_Q (some (.long y1)) n0 h0 v U'.heap L ∧ FrameEnd U o U' L ({ frames := 0, cells := 0, slots := 0, locals := 0 } : Room).cells ({ frames := 0, cells := 0, slots := 0, locals := 0 } : Room).slots) := by
  refine MetFree.of_bodySF (plainFor_of_name pn_0) hisR ?_
  intro p e s m args below meth c s₁ Bd hml0 hP hK
  obtain ⟨rfl, hZ, hh⟩ := hP
  have hx := Bd.exec
  have hby := Bd.bytes
  have hml : c.maxLocals = 1 := hml0
  have hlk := BodyLoose.notSynchronized Bd
  have hret := Bd.returns
  have hown : s.vm.findClass "com/example/meter/meter/store/Spans" = some m.cls := findClass_of_methodNamed Bd.named
  have hnm := (name_of_methodNamed Bd.named Bd.method).1
  have X0 : Stand p l e ({ frames := 0, cells := 0, slots := 0, locals := 0 } : Room) s m #[(.ref c0)] below meth c s₁ [] 0 0 := Stand.of_body Bd
  have e0 : s₁.heap = h0 := by rw [← hh, Bd.state]; rfl
  have N0 := Fr.nil n0
  rw [ef_11 m c0]
  show Go p e below _ (s₁.setTop (mkF m 0 #[oA c0] []))
  refine own_aload_n 1 X0 hx hby d11_0 rfl rfl rfl ?_
  refine own_getF 4 X0 hx hby hZ hown (own_w hw 32 rfl) e0 F_c0_head d11_1 rfl ?_
  intro T209 X209 e209
  refine own_aload_n 5 X209 hx hby d11_4 rfl rfl rfl ?_
  refine own_getF 8 X209 hx hby hZ hown (own_w hw 26 rfl) e209 F_c0_end d11_5 rfl ?_
  intro T210 X210 e210
  refine own_icY 17 X210 hx hby d11_8 (by decide) (by decide) (by decide) ?_
  refine own_aload_n 18 X210 hx hby d11_17 rfl rfl rfl ?_
  refine own_getF 21 X210 hx hby hZ hown (own_w hw 17 rfl) e210 F_c0_lasts d11_18 rfl ?_
  intro T211 X211 e211
  refine own_aload_n 22 X211 hx hby d11_21 rfl rfl rfl ?_
  refine own_getF 25 X211 hx hby hZ hown (own_w hw 26 rfl) e211 F_c0_end d11_22 rfl ?_
  intro T212 X212 e212
  refine own_iconst 26 (1 : Int32) X212 hx hby d11_25 rfl (by decide) ?_
  refine own_isub 27 (1 : Int32) X212 hx hby d11_26 rfl (by decide) ?_
  refine own_laload 28 (.long y1) X212 hx hby hZ e212 V_c2 d11_27 rfl (by decide) rfl ?_
  exact own_ret (Q := own_Q (some (.long y1)) n0 h0) X212 hx hby hret hlk d11_28 rfl (Or.inr (Or.inl ⟨rfl, rfl, _, rfl⟩)) (by decide) (by decide) ⟨rfl, N0, e212⟩
set_option maxRecDepth 65536 in
set_option maxHeartbeats 40000000 in
theorem rm12_37 (l : Launch) (Z : State) (a0 : Array Value) (hw : ∀ d ∈ tables_1, d.before a0 Z = true) (ws : List Jvm.Cond) (w_NONE k_NONE : Addr) (W : own_W Z w_NONE k_NONE) (c0 : Addr) (c1 : Addr) (k_c1 : ClassId) (c2 : Addr) (k_c2 : ClassId) (c3 : Addr) (k_c3 : ClassId) (y0 : Int64) (y1 : Int64) (y2 : Int64) (y3 : Int64) (y4 : Int64) (h0 : Heap) (n0 : Nat) (O0 : Old Z n0 h0) (E_c0 : Exa Z h0 c0 "com/example/meter/meter/store/Spans") (F_c0_droppedTotal : Fld Z h0 c0 "com/example/meter/meter/store/Spans" "droppedTotal" "J" (.long (0 : Int64))) (F_c0_end : Fld Z h0 c0 "com/example/meter/meter/store/Spans" "end" "I" (.int (2 : Int32))) (F_c0_firsts : Fld Z h0 c0 "com/example/meter/meter/store/Spans" "firsts" "[J" (.ref c1)) (F_c0_head : Fld Z h0 c0 "com/example/meter/meter/store/Spans" "head" "I" (.int (0 : Int32))) (F_c0_lasts : Fld Z h0 c0 "com/example/meter/meter/store/Spans" "lasts" "[J" (.ref c2)) (F_c0_totals : Fld Z h0 c0 "com/example/meter/meter/store/Spans" "totals" "[J" (.ref c3)) (n_c0 : n0 ≤ c0) (V_c1 : Arv Z h0 c1 k_c1 .long (16 : Int32) [(.long y1), (.long y2), (.long (0 : Int64)), (.long (0 : Int64))] (.long (0 : Int64))) (n_c1 : n0 ≤ c1) (V_c2 : Arv Z h0 c2 k_c2 .long (16 : Int32) [(.long y1), (.long y2), (.long (0 : Int64)), (.long (0 : Int64))] (.long (0 : Int64))) (n_c2 : n0 ≤ c2) (V_c3 : Arv Z h0 c3 k_c3 .long (16 : Int32) [(.long y3), (.long y4), (.long (0 : Int64)), (.long (0 : Int64))] (.long (0 : Int64))) (n_c3 : n0 ≤ c3) (ne_c0_c1 : c0 ≠ c1) (ne_c0_c2 : c0 ≠ c2) (ne_c0_c3 : c0 ≠ c3) (ne_c1_c2 : c1 ≠ c2) (ne_c1_c3 : c1 ≠ c3) (ne_c2_c3 : c2 ≠ c3) (hc218 : y0 < y1) :
    MetFree l (⟨"com/example/meter/meter/store/Spans", "endsAfter", "(J)Z"⟩ : MethodName) (head1 (Jvm.Cond.code (⟨"com/example/meter/meter/store/Spans", "endsAfter", "(J)Z"⟩ : MethodName) prog_11_method_8_code 3 (some .boolean) :: ws) ({ frames := 0, cells := 0, slots := 0, locals := 0 } : Room)) (fun a U => a = #[(.ref c0), (.long y0)] ∧ Z.Warmed39 U.vm ∧ U.heap = h0) (fun _ _ _ _ _ => True) (fun _ U o U' => ∃ v L, o = .returned v ∧ own_Q (some (.int (1 : Int32))) n0 h0 v U'.heap L ∧ FrameEnd U o U' L ({ frames := 0, cells := 0, slots := 0, locals := 0 } : Room).cells ({ frames := 0, cells := 0, slots := 0, locals := 0 } : Room).slots) := by
  refine MetFree.of_bodySF (plainFor_of_name pn_0) hisR ?_
  intro p e s m args below meth c s₁ Bd hml0 hP hK
  obtain ⟨rfl, hZ, hh⟩ := hP
  have hx := Bd.exec
  have hby := Bd.bytes
  have hml : c.maxLocals = 3 := hml0
  have hlk := BodyLoose.notSynchronized Bd
  have hret := Bd.returns
  have hown : s.vm.findClass "com/example/meter/meter/store/Spans" = some m.cls := findClass_of_methodNamed Bd.named
  have hnm := (name_of_methodNamed Bd.named Bd.method).1
  have X0 : Stand p l e ({ frames := 0, cells := 0, slots := 0, locals := 0 } : Room) s m #[(.ref c0), (.long y0)] below meth c s₁ [] 0 0 := Stand.of_body Bd
  have e0 : s₁.heap = h0 := by rw [← hh, Bd.state]; rfl
  have N0 := Fr.nil n0
  rw [ef_12 m c0 y0]
  show Go p e below _ (s₁.setTop (mkF m 0 #[oA c0, oJ y0, oS] []))
  refine own_aload_n 1 X0 hx hby d12_0 rfl rfl rfl ?_
  refine own_getF 4 X0 hx hby hZ hown (own_w hw 32 rfl) e0 F_c0_head d12_1 rfl ?_
  intro T214 X214 e214
  refine own_aload_n 5 X214 hx hby d12_4 rfl rfl rfl ?_
  refine own_getF 8 X214 hx hby hZ hown (own_w hw 26 rfl) e214 F_c0_end d12_5 rfl ?_
  intro T215 X215 e215
  refine own_icN 11 X215 hx hby d12_8 rfl (by decide) ?_
  refine own_aload_n 12 X215 hx hby d12_11 rfl rfl rfl ?_
  refine own_getF 15 X215 hx hby hZ hown (own_w hw 17 rfl) e215 F_c0_lasts d12_12 rfl ?_
  intro T216 X216 e216
  refine own_aload_n 16 X216 hx hby d12_15 rfl rfl rfl ?_
  refine own_getF 19 X216 hx hby hZ hown (own_w hw 32 rfl) e216 F_c0_head d12_16 rfl ?_
  intro T217 X217 e217
  refine own_laload 20 (.long y1) X217 hx hby hZ e217 V_c2 d12_19 rfl (by decide) rfl ?_
  refine own_lload_n 21 X217 hx hby d12_20 rfl rfl ?_
  refine own_lcmp 22 (XT.cmpL y1 y0) X217 hx hby d12_21 rfl rfl ?_
  refine own_ifN 25 X217 hx hby d12_22 rfl (own_tltL hc218).2.2.2 ?_
  refine own_iconst 26 (1 : Int32) X217 hx hby d12_25 rfl (by decide) ?_
  refine own_goto 30 X217 hx hby d12_26 (by decide) (by decide) ?_
  exact own_ret (Q := own_Q (some (.int (1 : Int32))) n0 h0) X217 hx hby hret hlk d12_30 rfl (Or.inl ⟨rfl, by simp, _, rfl⟩) (by decide) (by decide) ⟨rfl, N0, e217⟩
set_option maxRecDepth 65536 in
set_option maxHeartbeats 40000000 in
theorem rm12_38 (l : Launch) (Z : State) (a0 : Array Value) (hw : ∀ d ∈ tables_1, d.before a0 Z = true) (ws : List Jvm.Cond) (w_NONE k_NONE : Addr) (W : own_W Z w_NONE k_NONE) (c0 : Addr) (c1 : Addr) (k_c1 : ClassId) (c2 : Addr) (k_c2 : ClassId) (c3 : Addr) (k_c3 : ClassId) (y0 : Int64) (y1 : Int64) (y2 : Int64) (y3 : Int64) (y4 : Int64) (h0 : Heap) (n0 : Nat) (O0 : Old Z n0 h0) (E_c0 : Exa Z h0 c0 "com/example/meter/meter/store/Spans") (F_c0_droppedTotal : Fld Z h0 c0 "com/example/meter/meter/store/Spans" "droppedTotal" "J" (.long (0 : Int64))) (F_c0_end : Fld Z h0 c0 "com/example/meter/meter/store/Spans" "end" "I" (.int (2 : Int32))) (F_c0_firsts : Fld Z h0 c0 "com/example/meter/meter/store/Spans" "firsts" "[J" (.ref c1)) (F_c0_head : Fld Z h0 c0 "com/example/meter/meter/store/Spans" "head" "I" (.int (0 : Int32))) (F_c0_lasts : Fld Z h0 c0 "com/example/meter/meter/store/Spans" "lasts" "[J" (.ref c2)) (F_c0_totals : Fld Z h0 c0 "com/example/meter/meter/store/Spans" "totals" "[J" (.ref c3)) (n_c0 : n0 ≤ c0) (V_c1 : Arv Z h0 c1 k_c1 .long (16 : Int32) [(.long y1), (.long y2), (.long (0 : Int64)), (.long (0 : Int64))] (.long (0 : Int64))) (n_c1 : n0 ≤ c1) (V_c2 : Arv Z h0 c2 k_c2 .long (16 : Int32) [(.long y1), (.long y2), (.long (0 : Int64)), (.long (0 : Int64))] (.long (0 : Int64))) (n_c2 : n0 ≤ c2) (V_c3 : Arv Z h0 c3 k_c3 .long (16 : Int32) [(.long y3), (.long y4), (.long (0 : Int64)), (.long (0 : Int64))] (.long (0 : Int64))) (n_c3 : n0 ≤ c3) (ne_c0_c1 : c0 ≠ c1) (ne_c0_c2 : c0 ≠ c2) (ne_c0_c3 : c0 ≠ c3) (ne_c1_c2 : c1 ≠ c2) (ne_c1_c3 : c1 ≠ c3) (ne_c2_c3 : c2 ≠ c3) (hc218 : ¬ (y0 < y1)) :
    MetFree l (⟨"com/example/meter/meter/store/Spans", "endsAfter", "(J)Z"⟩ : MethodName) (head1 (Jvm.Cond.code (⟨"com/example/meter/meter/store/Spans", "endsAfter", "(J)Z"⟩ : MethodName) prog_11_method_8_code 3 (some .boolean) :: ws) ({ frames := 0, cells := 0, slots := 0, locals := 0 } : Room)) (fun a U => a = #[(.ref c0), (.long y0)] ∧ Z.Warmed39 U.vm ∧ U.heap = h0) (fun _ _ _ _ _ => True) (fun _ U o U' => ∃ v L, o = .returned v ∧ own_Q (some (.int (0 : Int32))) n0 h0 v U'.heap L ∧ FrameEnd U o U' L ({ frames := 0, cells := 0, slots := 0, locals := 0 } : Room).cells ({ frames := 0, cells := 0, slots := 0, locals := 0 } : Room).slots) := by
  refine MetFree.of_bodySF (plainFor_of_name pn_0) hisR ?_
  intro p e s m args below meth c s₁ Bd hml0 hP hK
  obtain ⟨rfl, hZ, hh⟩ := hP
  have hx := Bd.exec
  have hby := Bd.bytes
  have hml : c.maxLocals = 3 := hml0
  have hlk := BodyLoose.notSynchronized Bd
  have hret := Bd.returns
  have hown : s.vm.findClass "com/example/meter/meter/store/Spans" = some m.cls := findClass_of_methodNamed Bd.named
  have hnm := (name_of_methodNamed Bd.named Bd.method).1
  have X0 : Stand p l e ({ frames := 0, cells := 0, slots := 0, locals := 0 } : Room) s m #[(.ref c0), (.long y0)] below meth c s₁ [] 0 0 := Stand.of_body Bd
  have e0 : s₁.heap = h0 := by rw [← hh, Bd.state]; rfl
  have N0 := Fr.nil n0
  rw [ef_12 m c0 y0]
  show Go p e below _ (s₁.setTop (mkF m 0 #[oA c0, oJ y0, oS] []))
  refine own_aload_n 1 X0 hx hby d12_0 rfl rfl rfl ?_
  refine own_getF 4 X0 hx hby hZ hown (own_w hw 32 rfl) e0 F_c0_head d12_1 rfl ?_
  intro T214 X214 e214
  refine own_aload_n 5 X214 hx hby d12_4 rfl rfl rfl ?_
  refine own_getF 8 X214 hx hby hZ hown (own_w hw 26 rfl) e214 F_c0_end d12_5 rfl ?_
  intro T215 X215 e215
  refine own_icN 11 X215 hx hby d12_8 rfl (by decide) ?_
  refine own_aload_n 12 X215 hx hby d12_11 rfl rfl rfl ?_
  refine own_getF 15 X215 hx hby hZ hown (own_w hw 17 rfl) e215 F_c0_lasts d12_12 rfl ?_
  intro T216 X216 e216
  refine own_aload_n 16 X216 hx hby d12_15 rfl rfl rfl ?_
  refine own_getF 19 X216 hx hby hZ hown (own_w hw 32 rfl) e216 F_c0_head d12_16 rfl ?_
  intro T217 X217 e217
  refine own_laload 20 (.long y1) X217 hx hby hZ e217 V_c2 d12_19 rfl (by decide) rfl ?_
  refine own_lload_n 21 X217 hx hby d12_20 rfl rfl ?_
  refine own_lcmp 22 (XT.cmpL y1 y0) X217 hx hby d12_21 rfl rfl ?_
  refine own_ifY 29 X217 hx hby d12_22 (by decide) (by decide) (own_fltL hc218).2.2.2 ?_
  refine own_iconst 30 (0 : Int32) X217 hx hby d12_29 rfl (by decide) ?_
  exact own_ret (Q := own_Q (some (.int (0 : Int32))) n0 h0) X217 hx hby hret hlk d12_30 rfl (Or.inl ⟨rfl, by simp, _, rfl⟩) (by decide) (by decide) ⟨rfl, N0, e217⟩
set_option maxRecDepth 65536 in
set_option maxHeartbeats 40000000 in
theorem rm9_39 (l : Launch) (Z : State) (a0 : Array Value) (hw : ∀ d ∈ tables_1, d.before a0 Z = true) (ws : List Jvm.Cond) (w_NONE k_NONE : Addr) (W : own_W Z w_NONE k_NONE) (c0 : Addr) (c1 : Addr) (k_c1 : ClassId) (c2 : Addr) (k_c2 : ClassId) (c3 : Addr) (k_c3 : ClassId) (y0 : Int64) (y1 : Int64) (y2 : Int64) (y3 : Int64) (h0 : Heap) (n0 : Nat) (O0 : Old Z n0 h0) (E_c0 : Exa Z h0 c0 "com/example/meter/meter/store/Spans") (F_c0_droppedTotal : Fld Z h0 c0 "com/example/meter/meter/store/Spans" "droppedTotal" "J" (.long y0)) (F_c0_end : Fld Z h0 c0 "com/example/meter/meter/store/Spans" "end" "I" (.int (2 : Int32))) (F_c0_firsts : Fld Z h0 c0 "com/example/meter/meter/store/Spans" "firsts" "[J" (.ref c1)) (F_c0_head : Fld Z h0 c0 "com/example/meter/meter/store/Spans" "head" "I" (.int (1 : Int32))) (F_c0_lasts : Fld Z h0 c0 "com/example/meter/meter/store/Spans" "lasts" "[J" (.ref c2)) (F_c0_totals : Fld Z h0 c0 "com/example/meter/meter/store/Spans" "totals" "[J" (.ref c3)) (n_c0 : n0 ≤ c0) (V_c1 : Arv Z h0 c1 k_c1 .long (16 : Int32) [(.long y1), (.long y2), (.long (0 : Int64)), (.long (0 : Int64))] (.long (0 : Int64))) (n_c1 : n0 ≤ c1) (V_c2 : Arv Z h0 c2 k_c2 .long (16 : Int32) [(.long y1), (.long y2), (.long (0 : Int64)), (.long (0 : Int64))] (.long (0 : Int64))) (n_c2 : n0 ≤ c2) (V_c3 : Arv Z h0 c3 k_c3 .long (16 : Int32) [(.long y0), (.long y3), (.long (0 : Int64)), (.long (0 : Int64))] (.long (0 : Int64))) (n_c3 : n0 ≤ c3) (ne_c0_c1 : c0 ≠ c1) (ne_c0_c2 : c0 ≠ c2) (ne_c0_c3 : c0 ≠ c3) (ne_c1_c2 : c1 ≠ c2) (ne_c1_c3 : c1 ≠ c3) (ne_c2_c3 : c2 ≠ c3) :
    MetFree l (⟨"com/example/meter/meter/store/Spans", "size", "()I"⟩ : MethodName) (head1 (Jvm.Cond.code (⟨"com/example/meter/meter/store/Spans", "size", "()I"⟩ : MethodName) prog_11_method_5_code 1 (some .int) :: ws) ({ frames := 0, cells := 0, slots := 0, locals := 0 } : Room)) (fun a U => a = #[(.ref c0)] ∧ Z.Warmed39 U.vm ∧ U.heap = h0) (fun _ _ _ _ _ => True) (fun _ U o U' => ∃ v L, o = .returned v ∧ own_Q (some (.int (1 : Int32))) n0 h0 v U'.heap L ∧ FrameEnd U o U' L ({ frames := 0, cells := 0, slots := 0, locals := 0 } : Room).cells ({ frames := 0, cells := 0, slots := 0, locals := 0 } : Room).slots) := by
  refine MetFree.of_bodySF (plainFor_of_name pn_0) hisR ?_
  intro p e s m args below meth c s₁ Bd hml0 hP hK
  obtain ⟨rfl, hZ, hh⟩ := hP
  have hx := Bd.exec
  have hby := Bd.bytes
  have hml : c.maxLocals = 1 := hml0
  have hlk := BodyLoose.notSynchronized Bd
  have hret := Bd.returns
  have hown : s.vm.findClass "com/example/meter/meter/store/Spans" = some m.cls := findClass_of_methodNamed Bd.named
  have hnm := (name_of_methodNamed Bd.named Bd.method).1
  have X0 : Stand p l e ({ frames := 0, cells := 0, slots := 0, locals := 0 } : Room) s m #[(.ref c0)] below meth c s₁ [] 0 0 := Stand.of_body Bd
  have e0 : s₁.heap = h0 := by rw [← hh, Bd.state]; rfl
  have N0 := Fr.nil n0
  rw [ef_9 m c0]
  show Go p e below _ (s₁.setTop (mkF m 0 #[oA c0] []))
  refine own_aload_n 1 X0 hx hby d9_0 rfl rfl rfl ?_
  refine own_getF 4 X0 hx hby hZ hown (own_w hw 26 rfl) e0 F_c0_end d9_1 rfl ?_
  intro T223 X223 e223
  refine own_aload_n 5 X223 hx hby d9_4 rfl rfl rfl ?_
  refine own_getF 8 X223 hx hby hZ hown (own_w hw 32 rfl) e223 F_c0_head d9_5 rfl ?_
  intro T224 X224 e224
  refine own_isub 9 (1 : Int32) X224 hx hby d9_8 rfl (by decide) ?_
  exact own_ret (Q := own_Q (some (.int (1 : Int32))) n0 h0) X224 hx hby hret hlk d9_9 rfl (Or.inl ⟨rfl, by simp, _, rfl⟩) (by decide) (by decide) ⟨rfl, N0, e224⟩
set_option maxRecDepth 65536 in
set_option maxHeartbeats 40000000 in
theorem rm7_40 (l : Launch) (Z : State) (a0 : Array Value) (hw : ∀ d ∈ tables_1, d.before a0 Z = true) (ws : List Jvm.Cond) (w_NONE k_NONE : Addr) (W : own_W Z w_NONE k_NONE) (c0 : Addr) (c1 : Addr) (k_c1 : ClassId) (c2 : Addr) (k_c2 : ClassId) (c3 : Addr) (k_c3 : ClassId) (y0 : Int64) (y1 : Int64) (y2 : Int64) (y3 : Int64) (h0 : Heap) (n0 : Nat) (O0 : Old Z n0 h0) (E_c0 : Exa Z h0 c0 "com/example/meter/meter/store/Spans") (F_c0_droppedTotal : Fld Z h0 c0 "com/example/meter/meter/store/Spans" "droppedTotal" "J" (.long y0)) (F_c0_end : Fld Z h0 c0 "com/example/meter/meter/store/Spans" "end" "I" (.int (2 : Int32))) (F_c0_firsts : Fld Z h0 c0 "com/example/meter/meter/store/Spans" "firsts" "[J" (.ref c1)) (F_c0_head : Fld Z h0 c0 "com/example/meter/meter/store/Spans" "head" "I" (.int (1 : Int32))) (F_c0_lasts : Fld Z h0 c0 "com/example/meter/meter/store/Spans" "lasts" "[J" (.ref c2)) (F_c0_totals : Fld Z h0 c0 "com/example/meter/meter/store/Spans" "totals" "[J" (.ref c3)) (n_c0 : n0 ≤ c0) (V_c1 : Arv Z h0 c1 k_c1 .long (16 : Int32) [(.long y1), (.long y2), (.long (0 : Int64)), (.long (0 : Int64))] (.long (0 : Int64))) (n_c1 : n0 ≤ c1) (V_c2 : Arv Z h0 c2 k_c2 .long (16 : Int32) [(.long y1), (.long y2), (.long (0 : Int64)), (.long (0 : Int64))] (.long (0 : Int64))) (n_c2 : n0 ≤ c2) (V_c3 : Arv Z h0 c3 k_c3 .long (16 : Int32) [(.long y0), (.long y3), (.long (0 : Int64)), (.long (0 : Int64))] (.long (0 : Int64))) (n_c3 : n0 ≤ c3) (ne_c0_c1 : c0 ≠ c1) (ne_c0_c2 : c0 ≠ c2) (ne_c0_c3 : c0 ≠ c3) (ne_c1_c2 : c1 ≠ c2) (ne_c1_c3 : c1 ≠ c3) (ne_c2_c3 : c2 ≠ c3) :
    MetFree l (⟨"com/example/meter/meter/store/Spans", "totalBefore", "(I)J"⟩ : MethodName) (head1 (Jvm.Cond.code (⟨"com/example/meter/meter/store/Spans", "totalBefore", "(I)J"⟩ : MethodName) prog_11_method_14_code 2 (some .long) :: ws) ({ frames := 0, cells := 0, slots := 0, locals := 0 } : Room)) (fun a U => a = #[(.ref c0), (.int (2 : Int32))] ∧ Z.Warmed39 U.vm ∧ U.heap = h0) (fun _ _ _ _ _ => True) (fun _ U o U' => ∃ v L, o = .returned v ∧ own_Q (some (.long y3)) n0 h0 v U'.heap L ∧ FrameEnd U o U' L ({ frames := 0, cells := 0, slots := 0, locals := 0 } : Room).cells ({ frames := 0, cells := 0, slots := 0, locals := 0 } : Room).slots) := by
  refine MetFree.of_bodySF (plainFor_of_name pn_0) hisR ?_
  intro p e s m args below meth c s₁ Bd hml0 hP hK
  obtain ⟨rfl, hZ, hh⟩ := hP
  have hx := Bd.exec
  have hby := Bd.bytes
  have hml : c.maxLocals = 2 := hml0
  have hlk := BodyLoose.notSynchronized Bd
  have hret := Bd.returns
  have hown : s.vm.findClass "com/example/meter/meter/store/Spans" = some m.cls := findClass_of_methodNamed Bd.named
  have hnm := (name_of_methodNamed Bd.named Bd.method).1
  have X0 : Stand p l e ({ frames := 0, cells := 0, slots := 0, locals := 0 } : Room) s m #[(.ref c0), (.int (2 : Int32))] below meth c s₁ [] 0 0 := Stand.of_body Bd
  have e0 : s₁.heap = h0 := by rw [← hh, Bd.state]; rfl
  have N0 := Fr.nil n0
  rw [ef_7 m c0 (2 : Int32)]
  show Go p e below _ (s₁.setTop (mkF m 0 #[oA c0, oI (2 : Int32)] []))
  refine own_iload_n 1 X0 hx hby d7_0 rfl rfl ?_
  refine own_aload_n 2 X0 hx hby d7_1 rfl rfl rfl ?_
  refine own_getF 5 X0 hx hby hZ hown (own_w hw 32 rfl) e0 F_c0_head d7_2 rfl ?_
  intro T227 X227 e227
  refine own_icY 15 X227 hx hby d7_5 (by decide) (by decide) (by decide) ?_
  refine own_aload_n 16 X227 hx hby d7_15 rfl rfl rfl ?_
  refine own_getF 19 X227 hx hby hZ hown (own_w hw 19 rfl) e227 F_c0_totals d7_16 rfl ?_
  intro T228 X228 e228
  refine own_iload_n 20 X228 hx hby d7_19 rfl rfl ?_
  refine own_iconst 21 (1 : Int32) X228 hx hby d7_20 rfl (by decide) ?_
  refine own_isub 22 (1 : Int32) X228 hx hby d7_21 rfl (by decide) ?_
  refine own_laload 23 (.long y3) X228 hx hby hZ e228 V_c3 d7_22 rfl (by decide) rfl ?_
  exact own_ret (Q := own_Q (some (.long y3)) n0 h0) X228 hx hby hret hlk d7_23 rfl (Or.inr (Or.inl ⟨rfl, rfl, _, rfl⟩)) (by decide) (by decide) ⟨rfl, N0, e228⟩
set_option maxRecDepth 65536 in
set_option maxHeartbeats 40000000 in
theorem rm10_41 (l : Launch) (Z : State) (a0 : Array Value) (hw : ∀ d ∈ tables_1, d.before a0 Z = true) (ws : List Jvm.Cond) (w_NONE k_NONE : Addr) (W : own_W Z w_NONE k_NONE) (c0 : Addr) (c1 : Addr) (k_c1 : ClassId) (c2 : Addr) (k_c2 : ClassId) (c3 : Addr) (k_c3 : ClassId) (y0 : Int64) (y1 : Int64) (y2 : Int64) (y3 : Int64) (h0 : Heap) (n0 : Nat) (O0 : Old Z n0 h0) (E_c0 : Exa Z h0 c0 "com/example/meter/meter/store/Spans") (F_c0_droppedTotal : Fld Z h0 c0 "com/example/meter/meter/store/Spans" "droppedTotal" "J" (.long y0)) (F_c0_end : Fld Z h0 c0 "com/example/meter/meter/store/Spans" "end" "I" (.int (2 : Int32))) (F_c0_firsts : Fld Z h0 c0 "com/example/meter/meter/store/Spans" "firsts" "[J" (.ref c1)) (F_c0_head : Fld Z h0 c0 "com/example/meter/meter/store/Spans" "head" "I" (.int (1 : Int32))) (F_c0_lasts : Fld Z h0 c0 "com/example/meter/meter/store/Spans" "lasts" "[J" (.ref c2)) (F_c0_totals : Fld Z h0 c0 "com/example/meter/meter/store/Spans" "totals" "[J" (.ref c3)) (n_c0 : n0 ≤ c0) (V_c1 : Arv Z h0 c1 k_c1 .long (16 : Int32) [(.long y1), (.long y2), (.long (0 : Int64)), (.long (0 : Int64))] (.long (0 : Int64))) (n_c1 : n0 ≤ c1) (V_c2 : Arv Z h0 c2 k_c2 .long (16 : Int32) [(.long y1), (.long y2), (.long (0 : Int64)), (.long (0 : Int64))] (.long (0 : Int64))) (n_c2 : n0 ≤ c2) (V_c3 : Arv Z h0 c3 k_c3 .long (16 : Int32) [(.long y0), (.long y3), (.long (0 : Int64)), (.long (0 : Int64))] (.long (0 : Int64))) (n_c3 : n0 ≤ c3) (ne_c0_c1 : c0 ≠ c1) (ne_c0_c2 : c0 ≠ c2) (ne_c0_c3 : c0 ≠ c3) (ne_c1_c2 : c1 ≠ c2) (ne_c1_c3 : c1 ≠ c3) (ne_c2_c3 : c2 ≠ c3) :
    MetFree l (⟨"com/example/meter/meter/store/Spans", "hits", "()J"⟩ : MethodName) (head1 (Jvm.Cond.code (⟨"com/example/meter/meter/store/Spans", "hits", "()J"⟩ : MethodName) prog_11_method_6_code 1 (some .long) :: ws) ({ frames := 1, cells := 0, slots := 0, locals := 13 } : Room)) (fun a U => a = #[(.ref c0)] ∧ Z.Warmed39 U.vm ∧ U.heap = h0) (fun _ _ _ _ _ => True) (fun _ U o U' => ∃ v L, o = .returned v ∧ own_Q (some (.long (y3 - y0))) n0 h0 v U'.heap L ∧ FrameEnd U o U' L ({ frames := 1, cells := 0, slots := 0, locals := 13 } : Room).cells ({ frames := 1, cells := 0, slots := 0, locals := 13 } : Room).slots) := by
  refine MetFree.of_bodySF (plainFor_of_name pn_0) hisR ?_
  intro p e s m args below meth c s₁ Bd hml0 hP hK
  obtain ⟨rfl, hZ, hh⟩ := hP
  have hx := Bd.exec
  have hby := Bd.bytes
  have hml : c.maxLocals = 1 := hml0
  have hlk := BodyLoose.notSynchronized Bd
  have hret := Bd.returns
  have hown : s.vm.findClass "com/example/meter/meter/store/Spans" = some m.cls := findClass_of_methodNamed Bd.named
  have hnm := (name_of_methodNamed Bd.named Bd.method).1
  have X0 : Stand p l e ({ frames := 1, cells := 0, slots := 0, locals := 13 } : Room) s m #[(.ref c0)] below meth c s₁ [] 0 0 := Stand.of_body Bd
  have e0 : s₁.heap = h0 := by rw [← hh, Bd.state]; rfl
  have N0 := Fr.nil n0
  rw [ef_10 m c0]
  show Go p e below _ (s₁.setTop (mkF m 0 #[oA c0] []))
  refine own_aload_n 1 X0 hx hby d10_0 rfl rfl rfl ?_
  refine own_aload_n 2 X0 hx hby d10_1 rfl rfl rfl ?_
  refine own_getF 5 X0 hx hby hZ hown (own_w hw 26 rfl) e0 F_c0_end d10_2 rfl ?_
  intro T226 X226 e226
  refine own_priv (W := 0) 8 (rm7_40 l Z a0 hw [] w_NONE k_NONE W c0 c1 k_c1 c2 k_c2 c3 k_c3 y0 y1 y2 y3 h0 n0 O0 E_c0 F_c0_droppedTotal F_c0_end F_c0_firsts F_c0_head F_c0_lasts F_c0_totals n_c0 V_c1 n_c1 V_c2 n_c2 V_c3 n_c3 ne_c0_c1 ne_c0_c2 ne_c0_c3 ne_c1_c2 ne_c1_c3 ne_c2_c3) X226 hx hby hZ hown (own_w hw 47 rfl) (own_w hw 48 rfl) (own_w hw 49 rfl) (own_w hw 24 rfl) (own_w hw 6 rfl) (own_w hw 50 rfl) rfl (by decide) (by rw [hml]; rfl) c0 [(.int (2 : Int32))] [] pd_3 rfl d10_5 rfl e226 E_c0 rfl rfl rfl (by decide) (by decide) (by decide) (by decide) ?_
  rintro _ T229 L229 X229 ⟨rfl, N229, e229⟩
  have N229 := Fr.app N0 N229
  show Go p e below _ (T229.setTop (mkF m 8 _ [(.long y3)]))
  refine own_aload_n 9 X229 hx hby d10_8 rfl rfl rfl ?_
  refine own_getF 12 X229 hx hby hZ hown (own_w hw 51 rfl) e229 F_c0_droppedTotal d10_9 rfl ?_
  intro T230 X230 e230
  refine own_lsub 13 (y3 - y0) X230 hx hby d10_12 rfl rfl ?_
  exact own_ret (Q := own_Q (some (.long (y3 - y0))) n0 h0) X230 hx hby hret hlk d10_13 rfl (Or.inr (Or.inl ⟨rfl, rfl, _, rfl⟩)) (by decide) (by decide) ⟨rfl, N229, e230⟩
set_option maxRecDepth 65536 in
set_option maxHeartbeats 40000000 in
theorem rm11_42 (l : Launch) (Z : State) (a0 : Array Value) (hw : ∀ d ∈ tables_1, d.before a0 Z = true) (ws : List Jvm.Cond) (w_NONE k_NONE : Addr) (W : own_W Z w_NONE k_NONE) (c0 : Addr) (c1 : Addr) (k_c1 : ClassId) (c2 : Addr) (k_c2 : ClassId) (c3 : Addr) (k_c3 : ClassId) (y0 : Int64) (y1 : Int64) (y2 : Int64) (y3 : Int64) (h0 : Heap) (n0 : Nat) (O0 : Old Z n0 h0) (E_c0 : Exa Z h0 c0 "com/example/meter/meter/store/Spans") (F_c0_droppedTotal : Fld Z h0 c0 "com/example/meter/meter/store/Spans" "droppedTotal" "J" (.long y0)) (F_c0_end : Fld Z h0 c0 "com/example/meter/meter/store/Spans" "end" "I" (.int (2 : Int32))) (F_c0_firsts : Fld Z h0 c0 "com/example/meter/meter/store/Spans" "firsts" "[J" (.ref c1)) (F_c0_head : Fld Z h0 c0 "com/example/meter/meter/store/Spans" "head" "I" (.int (1 : Int32))) (F_c0_lasts : Fld Z h0 c0 "com/example/meter/meter/store/Spans" "lasts" "[J" (.ref c2)) (F_c0_totals : Fld Z h0 c0 "com/example/meter/meter/store/Spans" "totals" "[J" (.ref c3)) (n_c0 : n0 ≤ c0) (V_c1 : Arv Z h0 c1 k_c1 .long (16 : Int32) [(.long y1), (.long y2), (.long (0 : Int64)), (.long (0 : Int64))] (.long (0 : Int64))) (n_c1 : n0 ≤ c1) (V_c2 : Arv Z h0 c2 k_c2 .long (16 : Int32) [(.long y1), (.long y2), (.long (0 : Int64)), (.long (0 : Int64))] (.long (0 : Int64))) (n_c2 : n0 ≤ c2) (V_c3 : Arv Z h0 c3 k_c3 .long (16 : Int32) [(.long y0), (.long y3), (.long (0 : Int64)), (.long (0 : Int64))] (.long (0 : Int64))) (n_c3 : n0 ≤ c3) (ne_c0_c1 : c0 ≠ c1) (ne_c0_c2 : c0 ≠ c2) (ne_c0_c3 : c0 ≠ c3) (ne_c1_c2 : c1 ≠ c2) (ne_c1_c3 : c1 ≠ c3) (ne_c2_c3 : c2 ≠ c3) :
    MetFree l (⟨"com/example/meter/meter/store/Spans", "newestSecond", "()J"⟩ : MethodName) (head1 (Jvm.Cond.code (⟨"com/example/meter/meter/store/Spans", "newestSecond", "()J"⟩ : MethodName) prog_11_method_7_code 1 (some .long) :: ws) ({ frames := 0, cells := 0, slots := 0, locals := 0 } : Room)) (fun a U => a = #[(.ref c0)] ∧ Z.Warmed39 U.vm ∧ U.heap = h0) (fun _ _ _ _ _ => True) (fun _ U o U' => ∃ v L, o = .returned v ∧ own_Q (some (.long y2)) n0 h0 v U'.heap L ∧ FrameEnd U o U' L ({ frames := 0, cells := 0, slots := 0, locals := 0 } : Room).cells ({ frames := 0, cells := 0, slots := 0, locals := 0 } : Room).slots) := by
  refine MetFree.of_bodySF (plainFor_of_name pn_0) hisR ?_
  intro p e s m args below meth c s₁ Bd hml0 hP hK
  obtain ⟨rfl, hZ, hh⟩ := hP
  have hx := Bd.exec
  have hby := Bd.bytes
  have hml : c.maxLocals = 1 := hml0
  have hlk := BodyLoose.notSynchronized Bd
  have hret := Bd.returns
  have hown : s.vm.findClass "com/example/meter/meter/store/Spans" = some m.cls := findClass_of_methodNamed Bd.named
  have hnm := (name_of_methodNamed Bd.named Bd.method).1
  have X0 : Stand p l e ({ frames := 0, cells := 0, slots := 0, locals := 0 } : Room) s m #[(.ref c0)] below meth c s₁ [] 0 0 := Stand.of_body Bd
  have e0 : s₁.heap = h0 := by rw [← hh, Bd.state]; rfl
  have N0 := Fr.nil n0
  rw [ef_11 m c0]
  show Go p e below _ (s₁.setTop (mkF m 0 #[oA c0] []))
  refine own_aload_n 1 X0 hx hby d11_0 rfl rfl rfl ?_
  refine own_getF 4 X0 hx hby hZ hown (own_w hw 32 rfl) e0 F_c0_head d11_1 rfl ?_
  intro T232 X232 e232
  refine own_aload_n 5 X232 hx hby d11_4 rfl rfl rfl ?_
  refine own_getF 8 X232 hx hby hZ hown (own_w hw 26 rfl) e232 F_c0_end d11_5 rfl ?_
  intro T233 X233 e233
  refine own_icY 17 X233 hx hby d11_8 (by decide) (by decide) (by decide) ?_
  refine own_aload_n 18 X233 hx hby d11_17 rfl rfl rfl ?_
  refine own_getF 21 X233 hx hby hZ hown (own_w hw 17 rfl) e233 F_c0_lasts d11_18 rfl ?_
  intro T234 X234 e234
  refine own_aload_n 22 X234 hx hby d11_21 rfl rfl rfl ?_
  refine own_getF 25 X234 hx hby hZ hown (own_w hw 26 rfl) e234 F_c0_end d11_22 rfl ?_
  intro T235 X235 e235
  refine own_iconst 26 (1 : Int32) X235 hx hby d11_25 rfl (by decide) ?_
  refine own_isub 27 (1 : Int32) X235 hx hby d11_26 rfl (by decide) ?_
  refine own_laload 28 (.long y2) X235 hx hby hZ e235 V_c2 d11_27 rfl (by decide) rfl ?_
  exact own_ret (Q := own_Q (some (.long y2)) n0 h0) X235 hx hby hret hlk d11_28 rfl (Or.inr (Or.inl ⟨rfl, rfl, _, rfl⟩)) (by decide) (by decide) ⟨rfl, N0, e235⟩
set_option maxRecDepth 65536 in
set_option maxHeartbeats 40000000 in
theorem rm12_43 (l : Launch) (Z : State) (a0 : Array Value) (hw : ∀ d ∈ tables_1, d.before a0 Z = true) (ws : List Jvm.Cond) (w_NONE k_NONE : Addr) (W : own_W Z w_NONE k_NONE) (c0 : Addr) (c1 : Addr) (k_c1 : ClassId) (c2 : Addr) (k_c2 : ClassId) (c3 : Addr) (k_c3 : ClassId) (y0 : Int64) (y1 : Int64) (y2 : Int64) (y3 : Int64) (y4 : Int64) (h0 : Heap) (n0 : Nat) (O0 : Old Z n0 h0) (E_c0 : Exa Z h0 c0 "com/example/meter/meter/store/Spans") (F_c0_droppedTotal : Fld Z h0 c0 "com/example/meter/meter/store/Spans" "droppedTotal" "J" (.long y1)) (F_c0_end : Fld Z h0 c0 "com/example/meter/meter/store/Spans" "end" "I" (.int (2 : Int32))) (F_c0_firsts : Fld Z h0 c0 "com/example/meter/meter/store/Spans" "firsts" "[J" (.ref c1)) (F_c0_head : Fld Z h0 c0 "com/example/meter/meter/store/Spans" "head" "I" (.int (1 : Int32))) (F_c0_lasts : Fld Z h0 c0 "com/example/meter/meter/store/Spans" "lasts" "[J" (.ref c2)) (F_c0_totals : Fld Z h0 c0 "com/example/meter/meter/store/Spans" "totals" "[J" (.ref c3)) (n_c0 : n0 ≤ c0) (V_c1 : Arv Z h0 c1 k_c1 .long (16 : Int32) [(.long y2), (.long y3), (.long (0 : Int64)), (.long (0 : Int64))] (.long (0 : Int64))) (n_c1 : n0 ≤ c1) (V_c2 : Arv Z h0 c2 k_c2 .long (16 : Int32) [(.long y2), (.long y3), (.long (0 : Int64)), (.long (0 : Int64))] (.long (0 : Int64))) (n_c2 : n0 ≤ c2) (V_c3 : Arv Z h0 c3 k_c3 .long (16 : Int32) [(.long y1), (.long y4), (.long (0 : Int64)), (.long (0 : Int64))] (.long (0 : Int64))) (n_c3 : n0 ≤ c3) (ne_c0_c1 : c0 ≠ c1) (ne_c0_c2 : c0 ≠ c2) (ne_c0_c3 : c0 ≠ c3) (ne_c1_c2 : c1 ≠ c2) (ne_c1_c3 : c1 ≠ c3) (ne_c2_c3 : c2 ≠ c3) (hc241 : y0 < y3) :
    MetFree l (⟨"com/example/meter/meter/store/Spans", "endsAfter", "(J)Z"⟩ : MethodName) (head1 (Jvm.Cond.code (⟨"com/example/meter/meter/store/Spans", "endsAfter", "(J)Z"⟩ : MethodName) prog_11_method_8_code 3 (some .boolean) :: ws) ({ frames := 0, cells := 0, slots := 0, locals := 0 } : Room)) (fun a U => a = #[(.ref c0), (.long y0)] ∧ Z.Warmed39 U.vm ∧ U.heap = h0) (fun _ _ _ _ _ => True) (fun _ U o U' => ∃ v L, o = .returned v ∧ own_Q (some (.int (1 : Int32))) n0 h0 v U'.heap L ∧ FrameEnd U o U' L ({ frames := 0, cells := 0, slots := 0, locals := 0 } : Room).cells ({ frames := 0, cells := 0, slots := 0, locals := 0 } : Room).slots) := by
  refine MetFree.of_bodySF (plainFor_of_name pn_0) hisR ?_
  intro p e s m args below meth c s₁ Bd hml0 hP hK
  obtain ⟨rfl, hZ, hh⟩ := hP
  have hx := Bd.exec
  have hby := Bd.bytes
  have hml : c.maxLocals = 3 := hml0
  have hlk := BodyLoose.notSynchronized Bd
  have hret := Bd.returns
  have hown : s.vm.findClass "com/example/meter/meter/store/Spans" = some m.cls := findClass_of_methodNamed Bd.named
  have hnm := (name_of_methodNamed Bd.named Bd.method).1
  have X0 : Stand p l e ({ frames := 0, cells := 0, slots := 0, locals := 0 } : Room) s m #[(.ref c0), (.long y0)] below meth c s₁ [] 0 0 := Stand.of_body Bd
  have e0 : s₁.heap = h0 := by rw [← hh, Bd.state]; rfl
  have N0 := Fr.nil n0
  rw [ef_12 m c0 y0]
  show Go p e below _ (s₁.setTop (mkF m 0 #[oA c0, oJ y0, oS] []))
  refine own_aload_n 1 X0 hx hby d12_0 rfl rfl rfl ?_
  refine own_getF 4 X0 hx hby hZ hown (own_w hw 32 rfl) e0 F_c0_head d12_1 rfl ?_
  intro T237 X237 e237
  refine own_aload_n 5 X237 hx hby d12_4 rfl rfl rfl ?_
  refine own_getF 8 X237 hx hby hZ hown (own_w hw 26 rfl) e237 F_c0_end d12_5 rfl ?_
  intro T238 X238 e238
  refine own_icN 11 X238 hx hby d12_8 rfl (by decide) ?_
  refine own_aload_n 12 X238 hx hby d12_11 rfl rfl rfl ?_
  refine own_getF 15 X238 hx hby hZ hown (own_w hw 17 rfl) e238 F_c0_lasts d12_12 rfl ?_
  intro T239 X239 e239
  refine own_aload_n 16 X239 hx hby d12_15 rfl rfl rfl ?_
  refine own_getF 19 X239 hx hby hZ hown (own_w hw 32 rfl) e239 F_c0_head d12_16 rfl ?_
  intro T240 X240 e240
  refine own_laload 20 (.long y3) X240 hx hby hZ e240 V_c2 d12_19 rfl (by decide) rfl ?_
  refine own_lload_n 21 X240 hx hby d12_20 rfl rfl ?_
  refine own_lcmp 22 (XT.cmpL y3 y0) X240 hx hby d12_21 rfl rfl ?_
  refine own_ifN 25 X240 hx hby d12_22 rfl (own_tltL hc241).2.2.2 ?_
  refine own_iconst 26 (1 : Int32) X240 hx hby d12_25 rfl (by decide) ?_
  refine own_goto 30 X240 hx hby d12_26 (by decide) (by decide) ?_
  exact own_ret (Q := own_Q (some (.int (1 : Int32))) n0 h0) X240 hx hby hret hlk d12_30 rfl (Or.inl ⟨rfl, by simp, _, rfl⟩) (by decide) (by decide) ⟨rfl, N0, e240⟩
set_option maxRecDepth 65536 in
set_option maxHeartbeats 40000000 in
theorem rm12_44 (l : Launch) (Z : State) (a0 : Array Value) (hw : ∀ d ∈ tables_1, d.before a0 Z = true) (ws : List Jvm.Cond) (w_NONE k_NONE : Addr) (W : own_W Z w_NONE k_NONE) (c0 : Addr) (c1 : Addr) (k_c1 : ClassId) (c2 : Addr) (k_c2 : ClassId) (c3 : Addr) (k_c3 : ClassId) (y0 : Int64) (y1 : Int64) (y2 : Int64) (y3 : Int64) (y4 : Int64) (h0 : Heap) (n0 : Nat) (O0 : Old Z n0 h0) (E_c0 : Exa Z h0 c0 "com/example/meter/meter/store/Spans") (F_c0_droppedTotal : Fld Z h0 c0 "com/example/meter/meter/store/Spans" "droppedTotal" "J" (.long y1)) (F_c0_end : Fld Z h0 c0 "com/example/meter/meter/store/Spans" "end" "I" (.int (2 : Int32))) (F_c0_firsts : Fld Z h0 c0 "com/example/meter/meter/store/Spans" "firsts" "[J" (.ref c1)) (F_c0_head : Fld Z h0 c0 "com/example/meter/meter/store/Spans" "head" "I" (.int (1 : Int32))) (F_c0_lasts : Fld Z h0 c0 "com/example/meter/meter/store/Spans" "lasts" "[J" (.ref c2)) (F_c0_totals : Fld Z h0 c0 "com/example/meter/meter/store/Spans" "totals" "[J" (.ref c3)) (n_c0 : n0 ≤ c0) (V_c1 : Arv Z h0 c1 k_c1 .long (16 : Int32) [(.long y2), (.long y3), (.long (0 : Int64)), (.long (0 : Int64))] (.long (0 : Int64))) (n_c1 : n0 ≤ c1) (V_c2 : Arv Z h0 c2 k_c2 .long (16 : Int32) [(.long y2), (.long y3), (.long (0 : Int64)), (.long (0 : Int64))] (.long (0 : Int64))) (n_c2 : n0 ≤ c2) (V_c3 : Arv Z h0 c3 k_c3 .long (16 : Int32) [(.long y1), (.long y4), (.long (0 : Int64)), (.long (0 : Int64))] (.long (0 : Int64))) (n_c3 : n0 ≤ c3) (ne_c0_c1 : c0 ≠ c1) (ne_c0_c2 : c0 ≠ c2) (ne_c0_c3 : c0 ≠ c3) (ne_c1_c2 : c1 ≠ c2) (ne_c1_c3 : c1 ≠ c3) (ne_c2_c3 : c2 ≠ c3) (hc241 : ¬ (y0 < y3)) :
    MetFree l (⟨"com/example/meter/meter/store/Spans", "endsAfter", "(J)Z"⟩ : MethodName) (head1 (Jvm.Cond.code (⟨"com/example/meter/meter/store/Spans", "endsAfter", "(J)Z"⟩ : MethodName) prog_11_method_8_code 3 (some .boolean) :: ws) ({ frames := 0, cells := 0, slots := 0, locals := 0 } : Room)) (fun a U => a = #[(.ref c0), (.long y0)] ∧ Z.Warmed39 U.vm ∧ U.heap = h0) (fun _ _ _ _ _ => True) (fun _ U o U' => ∃ v L, o = .returned v ∧ own_Q (some (.int (0 : Int32))) n0 h0 v U'.heap L ∧ FrameEnd U o U' L ({ frames := 0, cells := 0, slots := 0, locals := 0 } : Room).cells ({ frames := 0, cells := 0, slots := 0, locals := 0 } : Room).slots) := by
  refine MetFree.of_bodySF (plainFor_of_name pn_0) hisR ?_
  intro p e s m args below meth c s₁ Bd hml0 hP hK
  obtain ⟨rfl, hZ, hh⟩ := hP
  have hx := Bd.exec
  have hby := Bd.bytes
  have hml : c.maxLocals = 3 := hml0
  have hlk := BodyLoose.notSynchronized Bd
  have hret := Bd.returns
  have hown : s.vm.findClass "com/example/meter/meter/store/Spans" = some m.cls := findClass_of_methodNamed Bd.named
  have hnm := (name_of_methodNamed Bd.named Bd.method).1
  have X0 : Stand p l e ({ frames := 0, cells := 0, slots := 0, locals := 0 } : Room) s m #[(.ref c0), (.long y0)] below meth c s₁ [] 0 0 := Stand.of_body Bd
  have e0 : s₁.heap = h0 := by rw [← hh, Bd.state]; rfl
  have N0 := Fr.nil n0
  rw [ef_12 m c0 y0]
  show Go p e below _ (s₁.setTop (mkF m 0 #[oA c0, oJ y0, oS] []))
  refine own_aload_n 1 X0 hx hby d12_0 rfl rfl rfl ?_
  refine own_getF 4 X0 hx hby hZ hown (own_w hw 32 rfl) e0 F_c0_head d12_1 rfl ?_
  intro T237 X237 e237
  refine own_aload_n 5 X237 hx hby d12_4 rfl rfl rfl ?_
  refine own_getF 8 X237 hx hby hZ hown (own_w hw 26 rfl) e237 F_c0_end d12_5 rfl ?_
  intro T238 X238 e238
  refine own_icN 11 X238 hx hby d12_8 rfl (by decide) ?_
  refine own_aload_n 12 X238 hx hby d12_11 rfl rfl rfl ?_
  refine own_getF 15 X238 hx hby hZ hown (own_w hw 17 rfl) e238 F_c0_lasts d12_12 rfl ?_
  intro T239 X239 e239
  refine own_aload_n 16 X239 hx hby d12_15 rfl rfl rfl ?_
  refine own_getF 19 X239 hx hby hZ hown (own_w hw 32 rfl) e239 F_c0_head d12_16 rfl ?_
  intro T240 X240 e240
  refine own_laload 20 (.long y3) X240 hx hby hZ e240 V_c2 d12_19 rfl (by decide) rfl ?_
  refine own_lload_n 21 X240 hx hby d12_20 rfl rfl ?_
  refine own_lcmp 22 (XT.cmpL y3 y0) X240 hx hby d12_21 rfl rfl ?_
  refine own_ifY 29 X240 hx hby d12_22 (by decide) (by decide) (own_fltL hc241).2.2.2 ?_
  refine own_iconst 30 (0 : Int32) X240 hx hby d12_29 rfl (by decide) ?_
  exact own_ret (Q := own_Q (some (.int (0 : Int32))) n0 h0) X240 hx hby hret hlk d12_30 rfl (Or.inl ⟨rfl, by simp, _, rfl⟩) (by decide) (by decide) ⟨rfl, N0, e240⟩
set_option maxRecDepth 65536 in
set_option maxHeartbeats 40000000 in
theorem rm9_45 (l : Launch) (Z : State) (a0 : Array Value) (hw : ∀ d ∈ tables_1, d.before a0 Z = true) (ws : List Jvm.Cond) (w_NONE k_NONE : Addr) (W : own_W Z w_NONE k_NONE) (c0 : Addr) (c1 : Addr) (k_c1 : ClassId) (c2 : Addr) (k_c2 : ClassId) (c3 : Addr) (k_c3 : ClassId) (y0 : Int64) (y1 : Int64) (y2 : Int64) (y3 : Int64) (h0 : Heap) (n0 : Nat) (O0 : Old Z n0 h0) (E_c0 : Exa Z h0 c0 "com/example/meter/meter/store/Spans") (F_c0_droppedTotal : Fld Z h0 c0 "com/example/meter/meter/store/Spans" "droppedTotal" "J" (.long y0)) (F_c0_end : Fld Z h0 c0 "com/example/meter/meter/store/Spans" "end" "I" (.int (2 : Int32))) (F_c0_firsts : Fld Z h0 c0 "com/example/meter/meter/store/Spans" "firsts" "[J" (.ref c1)) (F_c0_head : Fld Z h0 c0 "com/example/meter/meter/store/Spans" "head" "I" (.int (2 : Int32))) (F_c0_lasts : Fld Z h0 c0 "com/example/meter/meter/store/Spans" "lasts" "[J" (.ref c2)) (F_c0_totals : Fld Z h0 c0 "com/example/meter/meter/store/Spans" "totals" "[J" (.ref c3)) (n_c0 : n0 ≤ c0) (V_c1 : Arv Z h0 c1 k_c1 .long (16 : Int32) [(.long y1), (.long y2), (.long (0 : Int64)), (.long (0 : Int64))] (.long (0 : Int64))) (n_c1 : n0 ≤ c1) (V_c2 : Arv Z h0 c2 k_c2 .long (16 : Int32) [(.long y1), (.long y2), (.long (0 : Int64)), (.long (0 : Int64))] (.long (0 : Int64))) (n_c2 : n0 ≤ c2) (V_c3 : Arv Z h0 c3 k_c3 .long (16 : Int32) [(.long y3), (.long y0), (.long (0 : Int64)), (.long (0 : Int64))] (.long (0 : Int64))) (n_c3 : n0 ≤ c3) (ne_c0_c1 : c0 ≠ c1) (ne_c0_c2 : c0 ≠ c2) (ne_c0_c3 : c0 ≠ c3) (ne_c1_c2 : c1 ≠ c2) (ne_c1_c3 : c1 ≠ c3) (ne_c2_c3 : c2 ≠ c3) :
    MetFree l (⟨"com/example/meter/meter/store/Spans", "size", "()I"⟩ : MethodName) (head1 (Jvm.Cond.code (⟨"com/example/meter/meter/store/Spans", "size", "()I"⟩ : MethodName) prog_11_method_5_code 1 (some .int) :: ws) ({ frames := 0, cells := 0, slots := 0, locals := 0 } : Room)) (fun a U => a = #[(.ref c0)] ∧ Z.Warmed39 U.vm ∧ U.heap = h0) (fun _ _ _ _ _ => True) (fun _ U o U' => ∃ v L, o = .returned v ∧ own_Q (some (.int (0 : Int32))) n0 h0 v U'.heap L ∧ FrameEnd U o U' L ({ frames := 0, cells := 0, slots := 0, locals := 0 } : Room).cells ({ frames := 0, cells := 0, slots := 0, locals := 0 } : Room).slots) := by
  refine MetFree.of_bodySF (plainFor_of_name pn_0) hisR ?_
  intro p e s m args below meth c s₁ Bd hml0 hP hK
  obtain ⟨rfl, hZ, hh⟩ := hP
  have hx := Bd.exec
  have hby := Bd.bytes
  have hml : c.maxLocals = 1 := hml0
  have hlk := BodyLoose.notSynchronized Bd
  have hret := Bd.returns
  have hown : s.vm.findClass "com/example/meter/meter/store/Spans" = some m.cls := findClass_of_methodNamed Bd.named
  have hnm := (name_of_methodNamed Bd.named Bd.method).1
  have X0 : Stand p l e ({ frames := 0, cells := 0, slots := 0, locals := 0 } : Room) s m #[(.ref c0)] below meth c s₁ [] 0 0 := Stand.of_body Bd
  have e0 : s₁.heap = h0 := by rw [← hh, Bd.state]; rfl
  have N0 := Fr.nil n0
  rw [ef_9 m c0]
  show Go p e below _ (s₁.setTop (mkF m 0 #[oA c0] []))
  refine own_aload_n 1 X0 hx hby d9_0 rfl rfl rfl ?_
  refine own_getF 4 X0 hx hby hZ hown (own_w hw 26 rfl) e0 F_c0_end d9_1 rfl ?_
  intro T244 X244 e244
  refine own_aload_n 5 X244 hx hby d9_4 rfl rfl rfl ?_
  refine own_getF 8 X244 hx hby hZ hown (own_w hw 32 rfl) e244 F_c0_head d9_5 rfl ?_
  intro T245 X245 e245
  refine own_isub 9 (0 : Int32) X245 hx hby d9_8 rfl (by decide) ?_
  exact own_ret (Q := own_Q (some (.int (0 : Int32))) n0 h0) X245 hx hby hret hlk d9_9 rfl (Or.inl ⟨rfl, by simp, _, rfl⟩) (by decide) (by decide) ⟨rfl, N0, e245⟩
set_option maxRecDepth 65536 in
set_option maxHeartbeats 40000000 in
theorem rm7_46 (l : Launch) (Z : State) (a0 : Array Value) (hw : ∀ d ∈ tables_1, d.before a0 Z = true) (ws : List Jvm.Cond) (w_NONE k_NONE : Addr) (W : own_W Z w_NONE k_NONE) (c0 : Addr) (c1 : Addr) (k_c1 : ClassId) (c2 : Addr) (k_c2 : ClassId) (c3 : Addr) (k_c3 : ClassId) (y0 : Int64) (y1 : Int64) (y2 : Int64) (y3 : Int64) (h0 : Heap) (n0 : Nat) (O0 : Old Z n0 h0) (E_c0 : Exa Z h0 c0 "com/example/meter/meter/store/Spans") (F_c0_droppedTotal : Fld Z h0 c0 "com/example/meter/meter/store/Spans" "droppedTotal" "J" (.long y0)) (F_c0_end : Fld Z h0 c0 "com/example/meter/meter/store/Spans" "end" "I" (.int (2 : Int32))) (F_c0_firsts : Fld Z h0 c0 "com/example/meter/meter/store/Spans" "firsts" "[J" (.ref c1)) (F_c0_head : Fld Z h0 c0 "com/example/meter/meter/store/Spans" "head" "I" (.int (2 : Int32))) (F_c0_lasts : Fld Z h0 c0 "com/example/meter/meter/store/Spans" "lasts" "[J" (.ref c2)) (F_c0_totals : Fld Z h0 c0 "com/example/meter/meter/store/Spans" "totals" "[J" (.ref c3)) (n_c0 : n0 ≤ c0) (V_c1 : Arv Z h0 c1 k_c1 .long (16 : Int32) [(.long y1), (.long y2), (.long (0 : Int64)), (.long (0 : Int64))] (.long (0 : Int64))) (n_c1 : n0 ≤ c1) (V_c2 : Arv Z h0 c2 k_c2 .long (16 : Int32) [(.long y1), (.long y2), (.long (0 : Int64)), (.long (0 : Int64))] (.long (0 : Int64))) (n_c2 : n0 ≤ c2) (V_c3 : Arv Z h0 c3 k_c3 .long (16 : Int32) [(.long y3), (.long y0), (.long (0 : Int64)), (.long (0 : Int64))] (.long (0 : Int64))) (n_c3 : n0 ≤ c3) (ne_c0_c1 : c0 ≠ c1) (ne_c0_c2 : c0 ≠ c2) (ne_c0_c3 : c0 ≠ c3) (ne_c1_c2 : c1 ≠ c2) (ne_c1_c3 : c1 ≠ c3) (ne_c2_c3 : c2 ≠ c3) :
    MetFree l (⟨"com/example/meter/meter/store/Spans", "totalBefore", "(I)J"⟩ : MethodName) (head1 (Jvm.Cond.code (⟨"com/example/meter/meter/store/Spans", "totalBefore", "(I)J"⟩ : MethodName) prog_11_method_14_code 2 (some .long) :: ws) ({ frames := 0, cells := 0, slots := 0, locals := 0 } : Room)) (fun a U => a = #[(.ref c0), (.int (2 : Int32))] ∧ Z.Warmed39 U.vm ∧ U.heap = h0) (fun _ _ _ _ _ => True) (fun _ U o U' => ∃ v L, o = .returned v ∧ own_Q (some (.long y0)) n0 h0 v U'.heap L ∧ FrameEnd U o U' L ({ frames := 0, cells := 0, slots := 0, locals := 0 } : Room).cells ({ frames := 0, cells := 0, slots := 0, locals := 0 } : Room).slots) := by
  refine MetFree.of_bodySF (plainFor_of_name pn_0) hisR ?_
  intro p e s m args below meth c s₁ Bd hml0 hP hK
  obtain ⟨rfl, hZ, hh⟩ := hP
  have hx := Bd.exec
  have hby := Bd.bytes
  have hml : c.maxLocals = 2 := hml0
  have hlk := BodyLoose.notSynchronized Bd
  have hret := Bd.returns
  have hown : s.vm.findClass "com/example/meter/meter/store/Spans" = some m.cls := findClass_of_methodNamed Bd.named
  have hnm := (name_of_methodNamed Bd.named Bd.method).1
  have X0 : Stand p l e ({ frames := 0, cells := 0, slots := 0, locals := 0 } : Room) s m #[(.ref c0), (.int (2 : Int32))] below meth c s₁ [] 0 0 := Stand.of_body Bd
  have e0 : s₁.heap = h0 := by rw [← hh, Bd.state]; rfl
  have N0 := Fr.nil n0
  rw [ef_7 m c0 (2 : Int32)]
  show Go p e below _ (s₁.setTop (mkF m 0 #[oA c0, oI (2 : Int32)] []))
  refine own_iload_n 1 X0 hx hby d7_0 rfl rfl ?_
  refine own_aload_n 2 X0 hx hby d7_1 rfl rfl rfl ?_
  refine own_getF 5 X0 hx hby hZ hown (own_w hw 32 rfl) e0 F_c0_head d7_2 rfl ?_
  intro T248 X248 e248
  refine own_icN 8 X248 hx hby d7_5 rfl (by decide) ?_
  refine own_aload_n 9 X248 hx hby d7_8 rfl rfl rfl ?_
  refine own_getF 12 X248 hx hby hZ hown (own_w hw 51 rfl) e248 F_c0_droppedTotal d7_9 rfl ?_
  intro T249 X249 e249
  refine own_goto 23 X249 hx hby d7_12 (by decide) (by decide) ?_
  exact own_ret (Q := own_Q (some (.long y0)) n0 h0) X249 hx hby hret hlk d7_23 rfl (Or.inr (Or.inl ⟨rfl, rfl, _, rfl⟩)) (by decide) (by decide) ⟨rfl, N0, e249⟩
set_option maxRecDepth 65536 in
set_option maxHeartbeats 40000000 in
theorem rm10_47 (l : Launch) (Z : State) (a0 : Array Value) (hw : ∀ d ∈ tables_1, d.before a0 Z = true) (ws : List Jvm.Cond) (w_NONE k_NONE : Addr) (W : own_W Z w_NONE k_NONE) (c0 : Addr) (c1 : Addr) (k_c1 : ClassId) (c2 : Addr) (k_c2 : ClassId) (c3 : Addr) (k_c3 : ClassId) (y0 : Int64) (y1 : Int64) (y2 : Int64) (y3 : Int64) (h0 : Heap) (n0 : Nat) (O0 : Old Z n0 h0) (E_c0 : Exa Z h0 c0 "com/example/meter/meter/store/Spans") (F_c0_droppedTotal : Fld Z h0 c0 "com/example/meter/meter/store/Spans" "droppedTotal" "J" (.long y0)) (F_c0_end : Fld Z h0 c0 "com/example/meter/meter/store/Spans" "end" "I" (.int (2 : Int32))) (F_c0_firsts : Fld Z h0 c0 "com/example/meter/meter/store/Spans" "firsts" "[J" (.ref c1)) (F_c0_head : Fld Z h0 c0 "com/example/meter/meter/store/Spans" "head" "I" (.int (2 : Int32))) (F_c0_lasts : Fld Z h0 c0 "com/example/meter/meter/store/Spans" "lasts" "[J" (.ref c2)) (F_c0_totals : Fld Z h0 c0 "com/example/meter/meter/store/Spans" "totals" "[J" (.ref c3)) (n_c0 : n0 ≤ c0) (V_c1 : Arv Z h0 c1 k_c1 .long (16 : Int32) [(.long y1), (.long y2), (.long (0 : Int64)), (.long (0 : Int64))] (.long (0 : Int64))) (n_c1 : n0 ≤ c1) (V_c2 : Arv Z h0 c2 k_c2 .long (16 : Int32) [(.long y1), (.long y2), (.long (0 : Int64)), (.long (0 : Int64))] (.long (0 : Int64))) (n_c2 : n0 ≤ c2) (V_c3 : Arv Z h0 c3 k_c3 .long (16 : Int32) [(.long y3), (.long y0), (.long (0 : Int64)), (.long (0 : Int64))] (.long (0 : Int64))) (n_c3 : n0 ≤ c3) (ne_c0_c1 : c0 ≠ c1) (ne_c0_c2 : c0 ≠ c2) (ne_c0_c3 : c0 ≠ c3) (ne_c1_c2 : c1 ≠ c2) (ne_c1_c3 : c1 ≠ c3) (ne_c2_c3 : c2 ≠ c3) :
    MetFree l (⟨"com/example/meter/meter/store/Spans", "hits", "()J"⟩ : MethodName) (head1 (Jvm.Cond.code (⟨"com/example/meter/meter/store/Spans", "hits", "()J"⟩ : MethodName) prog_11_method_6_code 1 (some .long) :: ws) ({ frames := 1, cells := 0, slots := 0, locals := 13 } : Room)) (fun a U => a = #[(.ref c0)] ∧ Z.Warmed39 U.vm ∧ U.heap = h0) (fun _ _ _ _ _ => True) (fun _ U o U' => ∃ v L, o = .returned v ∧ own_Q (some (.long (y0 - y0))) n0 h0 v U'.heap L ∧ FrameEnd U o U' L ({ frames := 1, cells := 0, slots := 0, locals := 13 } : Room).cells ({ frames := 1, cells := 0, slots := 0, locals := 13 } : Room).slots) := by
  refine MetFree.of_bodySF (plainFor_of_name pn_0) hisR ?_
  intro p e s m args below meth c s₁ Bd hml0 hP hK
  obtain ⟨rfl, hZ, hh⟩ := hP
  have hx := Bd.exec
  have hby := Bd.bytes
  have hml : c.maxLocals = 1 := hml0
  have hlk := BodyLoose.notSynchronized Bd
  have hret := Bd.returns
  have hown : s.vm.findClass "com/example/meter/meter/store/Spans" = some m.cls := findClass_of_methodNamed Bd.named
  have hnm := (name_of_methodNamed Bd.named Bd.method).1
  have X0 : Stand p l e ({ frames := 1, cells := 0, slots := 0, locals := 13 } : Room) s m #[(.ref c0)] below meth c s₁ [] 0 0 := Stand.of_body Bd
  have e0 : s₁.heap = h0 := by rw [← hh, Bd.state]; rfl
  have N0 := Fr.nil n0
  rw [ef_10 m c0]
  show Go p e below _ (s₁.setTop (mkF m 0 #[oA c0] []))
  refine own_aload_n 1 X0 hx hby d10_0 rfl rfl rfl ?_
  refine own_aload_n 2 X0 hx hby d10_1 rfl rfl rfl ?_
  refine own_getF 5 X0 hx hby hZ hown (own_w hw 26 rfl) e0 F_c0_end d10_2 rfl ?_
  intro T247 X247 e247
  refine own_priv (W := 0) 8 (rm7_46 l Z a0 hw [] w_NONE k_NONE W c0 c1 k_c1 c2 k_c2 c3 k_c3 y0 y1 y2 y3 h0 n0 O0 E_c0 F_c0_droppedTotal F_c0_end F_c0_firsts F_c0_head F_c0_lasts F_c0_totals n_c0 V_c1 n_c1 V_c2 n_c2 V_c3 n_c3 ne_c0_c1 ne_c0_c2 ne_c0_c3 ne_c1_c2 ne_c1_c3 ne_c2_c3) X247 hx hby hZ hown (own_w hw 47 rfl) (own_w hw 48 rfl) (own_w hw 49 rfl) (own_w hw 24 rfl) (own_w hw 6 rfl) (own_w hw 50 rfl) rfl (by decide) (by rw [hml]; rfl) c0 [(.int (2 : Int32))] [] pd_3 rfl d10_5 rfl e247 E_c0 rfl rfl rfl (by decide) (by decide) (by decide) (by decide) ?_
  rintro _ T250 L250 X250 ⟨rfl, N250, e250⟩
  have N250 := Fr.app N0 N250
  show Go p e below _ (T250.setTop (mkF m 8 _ [(.long y0)]))
  refine own_aload_n 9 X250 hx hby d10_8 rfl rfl rfl ?_
  refine own_getF 12 X250 hx hby hZ hown (own_w hw 51 rfl) e250 F_c0_droppedTotal d10_9 rfl ?_
  intro T251 X251 e251
  refine own_lsub 13 (y0 - y0) X251 hx hby d10_12 rfl rfl ?_
  exact own_ret (Q := own_Q (some (.long (y0 - y0))) n0 h0) X251 hx hby hret hlk d10_13 rfl (Or.inr (Or.inl ⟨rfl, rfl, _, rfl⟩)) (by decide) (by decide) ⟨rfl, N250, e251⟩
set_option maxRecDepth 65536 in
set_option maxHeartbeats 40000000 in
theorem rm11_48 (l : Launch) (Z : State) (a0 : Array Value) (hw : ∀ d ∈ tables_1, d.before a0 Z = true) (ws : List Jvm.Cond) (w_NONE k_NONE : Addr) (W : own_W Z w_NONE k_NONE) (c0 : Addr) (c1 : Addr) (k_c1 : ClassId) (c2 : Addr) (k_c2 : ClassId) (c3 : Addr) (k_c3 : ClassId) (y0 : Int64) (y1 : Int64) (y2 : Int64) (y3 : Int64) (h0 : Heap) (n0 : Nat) (O0 : Old Z n0 h0) (E_c0 : Exa Z h0 c0 "com/example/meter/meter/store/Spans") (F_c0_droppedTotal : Fld Z h0 c0 "com/example/meter/meter/store/Spans" "droppedTotal" "J" (.long y0)) (F_c0_end : Fld Z h0 c0 "com/example/meter/meter/store/Spans" "end" "I" (.int (2 : Int32))) (F_c0_firsts : Fld Z h0 c0 "com/example/meter/meter/store/Spans" "firsts" "[J" (.ref c1)) (F_c0_head : Fld Z h0 c0 "com/example/meter/meter/store/Spans" "head" "I" (.int (2 : Int32))) (F_c0_lasts : Fld Z h0 c0 "com/example/meter/meter/store/Spans" "lasts" "[J" (.ref c2)) (F_c0_totals : Fld Z h0 c0 "com/example/meter/meter/store/Spans" "totals" "[J" (.ref c3)) (n_c0 : n0 ≤ c0) (V_c1 : Arv Z h0 c1 k_c1 .long (16 : Int32) [(.long y1), (.long y2), (.long (0 : Int64)), (.long (0 : Int64))] (.long (0 : Int64))) (n_c1 : n0 ≤ c1) (V_c2 : Arv Z h0 c2 k_c2 .long (16 : Int32) [(.long y1), (.long y2), (.long (0 : Int64)), (.long (0 : Int64))] (.long (0 : Int64))) (n_c2 : n0 ≤ c2) (V_c3 : Arv Z h0 c3 k_c3 .long (16 : Int32) [(.long y3), (.long y0), (.long (0 : Int64)), (.long (0 : Int64))] (.long (0 : Int64))) (n_c3 : n0 ≤ c3) (ne_c0_c1 : c0 ≠ c1) (ne_c0_c2 : c0 ≠ c2) (ne_c0_c3 : c0 ≠ c3) (ne_c1_c2 : c1 ≠ c2) (ne_c1_c3 : c1 ≠ c3) (ne_c2_c3 : c2 ≠ c3) :
    MetFree l (⟨"com/example/meter/meter/store/Spans", "newestSecond", "()J"⟩ : MethodName) (head1 (Jvm.Cond.code (⟨"com/example/meter/meter/store/Spans", "newestSecond", "()J"⟩ : MethodName) prog_11_method_7_code 1 (some .long) :: ws) ({ frames := 0, cells := 0, slots := 0, locals := 0 } : Room)) (fun a U => a = #[(.ref c0)] ∧ Z.Warmed39 U.vm ∧ U.heap = h0) (fun _ _ _ _ _ => True) (fun _ U o U' => ∃ v L, o = .returned v ∧ own_Q (some (.long (-1 : Int64))) n0 h0 v U'.heap L ∧ FrameEnd U o U' L ({ frames := 0, cells := 0, slots := 0, locals := 0 } : Room).cells ({ frames := 0, cells := 0, slots := 0, locals := 0 } : Room).slots) := by
  refine MetFree.of_bodySF (plainFor_of_name pn_0) hisR ?_
  intro p e s m args below meth c s₁ Bd hml0 hP hK
  obtain ⟨rfl, hZ, hh⟩ := hP
  have hx := Bd.exec
  have hby := Bd.bytes
  have hml : c.maxLocals = 1 := hml0
  have hlk := BodyLoose.notSynchronized Bd
  have hret := Bd.returns
  have hown : s.vm.findClass "com/example/meter/meter/store/Spans" = some m.cls := findClass_of_methodNamed Bd.named
  have hnm := (name_of_methodNamed Bd.named Bd.method).1
  have X0 : Stand p l e ({ frames := 0, cells := 0, slots := 0, locals := 0 } : Room) s m #[(.ref c0)] below meth c s₁ [] 0 0 := Stand.of_body Bd
  have e0 : s₁.heap = h0 := by rw [← hh, Bd.state]; rfl
  have N0 := Fr.nil n0
  rw [ef_11 m c0]
  show Go p e below _ (s₁.setTop (mkF m 0 #[oA c0] []))
  refine own_aload_n 1 X0 hx hby d11_0 rfl rfl rfl ?_
  refine own_getF 4 X0 hx hby hZ hown (own_w hw 32 rfl) e0 F_c0_head d11_1 rfl ?_
  intro T253 X253 e253
  refine own_aload_n 5 X253 hx hby d11_4 rfl rfl rfl ?_
  refine own_getF 8 X253 hx hby hZ hown (own_w hw 26 rfl) e253 F_c0_end d11_5 rfl ?_
  intro T254 X254 e254
  refine own_icN 11 X254 hx hby d11_8 rfl (by decide) ?_
  refine own_ldc2 14 X254 hx hby hZ hown (own_w hw 79 rfl) d11_11 rfl ?_
  refine own_goto 28 X254 hx hby d11_14 (by decide) (by decide) ?_
  exact own_ret (Q := own_Q (some (.long (-1 : Int64))) n0 h0) X254 hx hby hret hlk d11_28 rfl (Or.inr (Or.inl ⟨rfl, rfl, _, rfl⟩)) (by decide) (by decide) ⟨rfl, N0, e254⟩
set_option maxRecDepth 65536 in
set_option maxHeartbeats 40000000 in
theorem rm12_49 (l : Launch) (Z : State) (a0 : Array Value) (hw : ∀ d ∈ tables_1, d.before a0 Z = true) (ws : List Jvm.Cond) (w_NONE k_NONE : Addr) (W : own_W Z w_NONE k_NONE) (c0 : Addr) (c1 : Addr) (k_c1 : ClassId) (c2 : Addr) (k_c2 : ClassId) (c3 : Addr) (k_c3 : ClassId) (y0 : Int64) (y1 : Int64) (y2 : Int64) (y3 : Int64) (y4 : Int64) (h0 : Heap) (n0 : Nat) (O0 : Old Z n0 h0) (E_c0 : Exa Z h0 c0 "com/example/meter/meter/store/Spans") (F_c0_droppedTotal : Fld Z h0 c0 "com/example/meter/meter/store/Spans" "droppedTotal" "J" (.long y1)) (F_c0_end : Fld Z h0 c0 "com/example/meter/meter/store/Spans" "end" "I" (.int (2 : Int32))) (F_c0_firsts : Fld Z h0 c0 "com/example/meter/meter/store/Spans" "firsts" "[J" (.ref c1)) (F_c0_head : Fld Z h0 c0 "com/example/meter/meter/store/Spans" "head" "I" (.int (2 : Int32))) (F_c0_lasts : Fld Z h0 c0 "com/example/meter/meter/store/Spans" "lasts" "[J" (.ref c2)) (F_c0_totals : Fld Z h0 c0 "com/example/meter/meter/store/Spans" "totals" "[J" (.ref c3)) (n_c0 : n0 ≤ c0) (V_c1 : Arv Z h0 c1 k_c1 .long (16 : Int32) [(.long y2), (.long y3), (.long (0 : Int64)), (.long (0 : Int64))] (.long (0 : Int64))) (n_c1 : n0 ≤ c1) (V_c2 : Arv Z h0 c2 k_c2 .long (16 : Int32) [(.long y2), (.long y3), (.long (0 : Int64)), (.long (0 : Int64))] (.long (0 : Int64))) (n_c2 : n0 ≤ c2) (V_c3 : Arv Z h0 c3 k_c3 .long (16 : Int32) [(.long y4), (.long y1), (.long (0 : Int64)), (.long (0 : Int64))] (.long (0 : Int64))) (n_c3 : n0 ≤ c3) (ne_c0_c1 : c0 ≠ c1) (ne_c0_c2 : c0 ≠ c2) (ne_c0_c3 : c0 ≠ c3) (ne_c1_c2 : c1 ≠ c2) (ne_c1_c3 : c1 ≠ c3) (ne_c2_c3 : c2 ≠ c3) :
    MetFree l (⟨"com/example/meter/meter/store/Spans", "endsAfter", "(J)Z"⟩ : MethodName) (head1 (Jvm.Cond.code (⟨"com/example/meter/meter/store/Spans", "endsAfter", "(J)Z"⟩ : MethodName) prog_11_method_8_code 3 (some .boolean) :: ws) ({ frames := 0, cells := 0, slots := 0, locals := 0 } : Room)) (fun a U => a = #[(.ref c0), (.long y0)] ∧ Z.Warmed39 U.vm ∧ U.heap = h0) (fun _ _ _ _ _ => True) (fun _ U o U' => ∃ v L, o = .returned v ∧ own_Q (some (.int (1 : Int32))) n0 h0 v U'.heap L ∧ FrameEnd U o U' L ({ frames := 0, cells := 0, slots := 0, locals := 0 } : Room).cells ({ frames := 0, cells := 0, slots := 0, locals := 0 } : Room).slots) := by
  refine MetFree.of_bodySF (plainFor_of_name pn_0) hisR ?_
  intro p e s m args below meth c s₁ Bd hml0 hP hK
  obtain ⟨rfl, hZ, hh⟩ := hP
  have hx := Bd.exec
  have hby := Bd.bytes
  have hml : c.maxLocals = 3 := hml0
  have hlk := BodyLoose.notSynchronized Bd
  have hret := Bd.returns
  have hown : s.vm.findClass "com/example/meter/meter/store/Spans" = some m.cls := findClass_of_methodNamed Bd.named
  have hnm := (name_of_methodNamed Bd.named Bd.method).1
  have X0 : Stand p l e ({ frames := 0, cells := 0, slots := 0, locals := 0 } : Room) s m #[(.ref c0), (.long y0)] below meth c s₁ [] 0 0 := Stand.of_body Bd
  have e0 : s₁.heap = h0 := by rw [← hh, Bd.state]; rfl
  have N0 := Fr.nil n0
  rw [ef_12 m c0 y0]
  show Go p e below _ (s₁.setTop (mkF m 0 #[oA c0, oJ y0, oS] []))
  refine own_aload_n 1 X0 hx hby d12_0 rfl rfl rfl ?_
  refine own_getF 4 X0 hx hby hZ hown (own_w hw 32 rfl) e0 F_c0_head d12_1 rfl ?_
  intro T256 X256 e256
  refine own_aload_n 5 X256 hx hby d12_4 rfl rfl rfl ?_
  refine own_getF 8 X256 hx hby hZ hown (own_w hw 26 rfl) e256 F_c0_end d12_5 rfl ?_
  intro T257 X257 e257
  refine own_icY 25 X257 hx hby d12_8 (by decide) (by decide) (by decide) ?_
  refine own_iconst 26 (1 : Int32) X257 hx hby d12_25 rfl (by decide) ?_
  refine own_goto 30 X257 hx hby d12_26 (by decide) (by decide) ?_
  exact own_ret (Q := own_Q (some (.int (1 : Int32))) n0 h0) X257 hx hby hret hlk d12_30 rfl (Or.inl ⟨rfl, by simp, _, rfl⟩) (by decide) (by decide) ⟨rfl, N0, e257⟩
set_option maxRecDepth 65536 in
set_option maxHeartbeats 40000000 in
theorem rm7_50 (l : Launch) (Z : State) (a0 : Array Value) (hw : ∀ d ∈ tables_1, d.before a0 Z = true) (ws : List Jvm.Cond) (w_NONE k_NONE : Addr) (W : own_W Z w_NONE k_NONE) (c0 : Addr) (c1 : Addr) (k_c1 : ClassId) (c2 : Addr) (k_c2 : ClassId) (c3 : Addr) (k_c3 : ClassId) (y0 : Int64) (y1 : Int64) (y2 : Int64) (y3 : Int64) (y4 : Int64) (h0 : Heap) (n0 : Nat) (O0 : Old Z n0 h0) (E_c0 : Exa Z h0 c0 "com/example/meter/meter/store/Spans") (F_c0_droppedTotal : Fld Z h0 c0 "com/example/meter/meter/store/Spans" "droppedTotal" "J" (.long (0 : Int64))) (F_c0_end : Fld Z h0 c0 "com/example/meter/meter/store/Spans" "end" "I" (.int (2 : Int32))) (F_c0_firsts : Fld Z h0 c0 "com/example/meter/meter/store/Spans" "firsts" "[J" (.ref c1)) (F_c0_head : Fld Z h0 c0 "com/example/meter/meter/store/Spans" "head" "I" (.int (0 : Int32))) (F_c0_lasts : Fld Z h0 c0 "com/example/meter/meter/store/Spans" "lasts" "[J" (.ref c2)) (F_c0_totals : Fld Z h0 c0 "com/example/meter/meter/store/Spans" "totals" "[J" (.ref c3)) (n_c0 : n0 ≤ c0) (V_c1 : Arv Z h0 c1 k_c1 .long (16 : Int32) [(.long y0), (.long y1), (.long y2), (.long (0 : Int64))] (.long (0 : Int64))) (n_c1 : n0 ≤ c1) (V_c2 : Arv Z h0 c2 k_c2 .long (16 : Int32) [(.long y0), (.long y1), (.long y2), (.long (0 : Int64))] (.long (0 : Int64))) (n_c2 : n0 ≤ c2) (V_c3 : Arv Z h0 c3 k_c3 .long (16 : Int32) [(.long y3), (.long y4), (.long (0 : Int64)), (.long (0 : Int64))] (.long (0 : Int64))) (n_c3 : n0 ≤ c3) (ne_c0_c1 : c0 ≠ c1) (ne_c0_c2 : c0 ≠ c2) (ne_c0_c3 : c0 ≠ c3) (ne_c1_c2 : c1 ≠ c2) (ne_c1_c3 : c1 ≠ c3) (ne_c2_c3 : c2 ≠ c3) :
    MetFree l (⟨"com/example/meter/meter/store/Spans", "totalBefore", "(I)J"⟩ : MethodName) (head1 (Jvm.Cond.code (⟨"com/example/meter/meter/store/Spans", "totalBefore", "(I)J"⟩ : MethodName) prog_11_method_14_code 2 (some .long) :: ws) ({ frames := 0, cells := 0, slots := 0, locals := 0 } : Room)) (fun a U => a = #[(.ref c0), (.int (2 : Int32))] ∧ Z.Warmed39 U.vm ∧ U.heap = h0) (fun _ _ _ _ _ => True) (fun _ U o U' => ∃ v L, o = .returned v ∧ own_Q (some (.long y4)) n0 h0 v U'.heap L ∧ FrameEnd U o U' L ({ frames := 0, cells := 0, slots := 0, locals := 0 } : Room).cells ({ frames := 0, cells := 0, slots := 0, locals := 0 } : Room).slots) := by
  refine MetFree.of_bodySF (plainFor_of_name pn_0) hisR ?_
  intro p e s m args below meth c s₁ Bd hml0 hP hK
  obtain ⟨rfl, hZ, hh⟩ := hP
  have hx := Bd.exec
  have hby := Bd.bytes
  have hml : c.maxLocals = 2 := hml0
  have hlk := BodyLoose.notSynchronized Bd
  have hret := Bd.returns
  have hown : s.vm.findClass "com/example/meter/meter/store/Spans" = some m.cls := findClass_of_methodNamed Bd.named
  have hnm := (name_of_methodNamed Bd.named Bd.method).1
  have X0 : Stand p l e ({ frames := 0, cells := 0, slots := 0, locals := 0 } : Room) s m #[(.ref c0), (.int (2 : Int32))] below meth c s₁ [] 0 0 := Stand.of_body Bd
  have e0 : s₁.heap = h0 := by rw [← hh, Bd.state]; rfl
  have N0 := Fr.nil n0
  rw [ef_7 m c0 (2 : Int32)]
  show Go p e below _ (s₁.setTop (mkF m 0 #[oA c0, oI (2 : Int32)] []))
  refine own_iload_n 1 X0 hx hby d7_0 rfl rfl ?_
  refine own_aload_n 2 X0 hx hby d7_1 rfl rfl rfl ?_
  refine own_getF 5 X0 hx hby hZ hown (own_w hw 32 rfl) e0 F_c0_head d7_2 rfl ?_
  intro T270 X270 e270
  refine own_icY 15 X270 hx hby d7_5 (by decide) (by decide) (by decide) ?_
  refine own_aload_n 16 X270 hx hby d7_15 rfl rfl rfl ?_
  refine own_getF 19 X270 hx hby hZ hown (own_w hw 19 rfl) e270 F_c0_totals d7_16 rfl ?_
  intro T271 X271 e271
  refine own_iload_n 20 X271 hx hby d7_19 rfl rfl ?_
  refine own_iconst 21 (1 : Int32) X271 hx hby d7_20 rfl (by decide) ?_
  refine own_isub 22 (1 : Int32) X271 hx hby d7_21 rfl (by decide) ?_
  refine own_laload 23 (.long y4) X271 hx hby hZ e271 V_c3 d7_22 rfl (by decide) rfl ?_
  exact own_ret (Q := own_Q (some (.long y4)) n0 h0) X271 hx hby hret hlk d7_23 rfl (Or.inr (Or.inl ⟨rfl, rfl, _, rfl⟩)) (by decide) (by decide) ⟨rfl, N0, e271⟩
def Q_rm3_51 (Z : State) (w_NONE k_NONE : Addr) (c0 : Addr) (c1 : Addr) (k_c1 : ClassId) (c2 : Addr) (k_c2 : ClassId) (c3 : Addr) (k_c3 : ClassId) (y0 : Int64) (y1 : Int64) (y2 : Int64) (y3 : Int64) (y4 : Int64) (y5 : Int64) (h0 : Heap) (n0 : Nat) (v : Option Value) (h : Heap) (L : List Loc) : Prop := v = none ∧ Fr n0 L ∧ Keep h0 h [c1, c2, c3, c0] ∧ Exa Z h c0 "com/example/meter/meter/store/Spans" ∧ Fld Z h c0 "com/example/meter/meter/store/Spans" "droppedTotal" "J" (.long (0 : Int64)) ∧ Fld Z h c0 "com/example/meter/meter/store/Spans" "end" "I" (.int (3 : Int32)) ∧ Fld Z h c0 "com/example/meter/meter/store/Spans" "firsts" "[J" (.ref c1) ∧ Fld Z h c0 "com/example/meter/meter/store/Spans" "head" "I" (.int (0 : Int32)) ∧ Fld Z h c0 "com/example/meter/meter/store/Spans" "lasts" "[J" (.ref c2) ∧ Fld Z h c0 "com/example/meter/meter/store/Spans" "totals" "[J" (.ref c3) ∧ Arv Z h c1 k_c1 .long (16 : Int32) [(.long y2), (.long y3), (.long y0), (.long (0 : Int64))] (.long (0 : Int64)) ∧ Arv Z h c2 k_c2 .long (16 : Int32) [(.long y2), (.long y3), (.long y0), (.long (0 : Int64))] (.long (0 : Int64)) ∧ Arv Z h c3 k_c3 .long (16 : Int32) [(.long y4), (.long y5), (.long (y5 + y1)), (.long (0 : Int64))] (.long (0 : Int64))
set_option maxRecDepth 65536 in
set_option maxHeartbeats 40000000 in
theorem rm3_51 (l : Launch) (Z : State) (a0 : Array Value) (hw : ∀ d ∈ tables_1, d.before a0 Z = true) (ws : List Jvm.Cond) (w_NONE k_NONE : Addr) (W : own_W Z w_NONE k_NONE) (c0 : Addr) (c1 : Addr) (k_c1 : ClassId) (c2 : Addr) (k_c2 : ClassId) (c3 : Addr) (k_c3 : ClassId) (y0 : Int64) (y1 : Int64) (y2 : Int64) (y3 : Int64) (y4 : Int64) (y5 : Int64) (h0 : Heap) (n0 : Nat) (O0 : Old Z n0 h0) (E_c0 : Exa Z h0 c0 "com/example/meter/meter/store/Spans") (F_c0_droppedTotal : Fld Z h0 c0 "com/example/meter/meter/store/Spans" "droppedTotal" "J" (.long (0 : Int64))) (F_c0_end : Fld Z h0 c0 "com/example/meter/meter/store/Spans" "end" "I" (.int (2 : Int32))) (F_c0_firsts : Fld Z h0 c0 "com/example/meter/meter/store/Spans" "firsts" "[J" (.ref c1)) (F_c0_head : Fld Z h0 c0 "com/example/meter/meter/store/Spans" "head" "I" (.int (0 : Int32))) (F_c0_lasts : Fld Z h0 c0 "com/example/meter/meter/store/Spans" "lasts" "[J" (.ref c2)) (F_c0_totals : Fld Z h0 c0 "com/example/meter/meter/store/Spans" "totals" "[J" (.ref c3)) (n_c0 : n0 ≤ c0) (V_c1 : Arv Z h0 c1 k_c1 .long (16 : Int32) [(.long y2), (.long y3), (.long (0 : Int64)), (.long (0 : Int64))] (.long (0 : Int64))) (n_c1 : n0 ≤ c1) (V_c2 : Arv Z h0 c2 k_c2 .long (16 : Int32) [(.long y2), (.long y3), (.long (0 : Int64)), (.long (0 : Int64))] (.long (0 : Int64))) (n_c2 : n0 ≤ c2) (V_c3 : Arv Z h0 c3 k_c3 .long (16 : Int32) [(.long y4), (.long y5), (.long (0 : Int64)), (.long (0 : Int64))] (.long (0 : Int64))) (n_c3 : n0 ≤ c3) (ne_c0_c1 : c0 ≠ c1) (ne_c0_c2 : c0 ≠ c2) (ne_c0_c3 : c0 ≠ c3) (ne_c1_c2 : c1 ≠ c2) (ne_c1_c3 : c1 ≠ c3) (ne_c2_c3 : c2 ≠ c3) :
    MetFree l (⟨"com/example/meter/meter/store/Spans", "append", "(JJ)V"⟩ : MethodName) (head1 (Jvm.Cond.code (⟨"com/example/meter/meter/store/Spans", "append", "(JJ)V"⟩ : MethodName) prog_11_method_9_code 5 none :: ws) ({ frames := 1, cells := 0, slots := 0, locals := 15 } : Room)) (fun a U => a = #[(.ref c0), (.long y0), (.long y1)] ∧ Z.Warmed39 U.vm ∧ U.heap = h0) (fun _ _ _ _ _ => True) (fun _ U o U' => ∃ v L, o = .returned v ∧ Q_rm3_51 Z w_NONE k_NONE c0 c1 k_c1 c2 k_c2 c3 k_c3 y0 y1 y2 y3 y4 y5 h0 n0 v U'.heap L ∧ FrameEnd U o U' L ({ frames := 1, cells := 0, slots := 0, locals := 15 } : Room).cells ({ frames := 1, cells := 0, slots := 0, locals := 15 } : Room).slots) := by
  refine MetFree.of_bodySF (plainFor_of_name pn_0) hisR ?_
  intro p e s m args below meth c s₁ Bd hml0 hP hK
  obtain ⟨rfl, hZ, hh⟩ := hP
  have hx := Bd.exec
  have hby := Bd.bytes
  have hml : c.maxLocals = 5 := hml0
  have hlk := BodyLoose.notSynchronized Bd
  have hret := Bd.returns
  have hown : s.vm.findClass "com/example/meter/meter/store/Spans" = some m.cls := findClass_of_methodNamed Bd.named
  have hnm := (name_of_methodNamed Bd.named Bd.method).1
  have X0 : Stand p l e ({ frames := 1, cells := 0, slots := 0, locals := 15 } : Room) s m #[(.ref c0), (.long y0), (.long y1)] below meth c s₁ [] 0 0 := Stand.of_body Bd
  have e0 : s₁.heap = h0 := by rw [← hh, Bd.state]; rfl
  have N0 := Fr.nil n0
  rw [ef_3 m c0 y0 y1]
  show Go p e below _ (s₁.setTop (mkF m 0 #[oA c0, oJ y0, oS, oJ y1, oS] []))
  refine own_aload_n 1 X0 hx hby d3_0 rfl rfl rfl ?_
  refine own_getF 4 X0 hx hby hZ hown (own_w hw 26 rfl) e0 F_c0_end d3_1 rfl ?_
  intro T259 X259 e259
  refine own_aload_n 5 X259 hx hby d3_4 rfl rfl rfl ?_
  refine own_getF 8 X259 hx hby hZ hown (own_w hw 17 rfl) e259 F_c0_lasts d3_5 rfl ?_
  intro T260 X260 e260
  refine own_len 9 X260 hx hby hZ e260 V_c2 d3_8 rfl ?_
  refine own_icY 16 X260 hx hby d3_9 (by decide) (by decide) (by decide) ?_
  refine own_aload_n 17 X260 hx hby d3_16 rfl rfl rfl ?_
  refine own_getF 20 X260 hx hby hZ hown (own_w hw 15 rfl) e260 F_c0_firsts d3_17 rfl ?_
  intro T261 X261 e261
  refine own_aload_n 21 X261 hx hby d3_20 rfl rfl rfl ?_
  refine own_getF 24 X261 hx hby hZ hown (own_w hw 26 rfl) e261 F_c0_end d3_21 rfl ?_
  intro T262 X262 e262
  refine own_lload_n 25 X262 hx hby d3_24 rfl rfl ?_
  refine own_stJ 26 2 X262 hx hby hZ e262 V_c1 d3_25 rfl (by decide) (by decide) (Nat.le_of_ble_eq_true rfl) ?_
  intro T263 h263 X263 e263 W263 V263
  have V263 : Arv Z h263 c1 k_c1 .long (16 : Int32) [(.long y2), (.long y3), (.long y0), (.long (0 : Int64))] (.long (0 : Int64)) := V263
  have E_c0_263 := E_c0.wr W263
  have F_c0_droppedTotal_263 := F_c0_droppedTotal.other W263 (Or.inl ne_c0_c1)
  have F_c0_end_263 := F_c0_end.other W263 (Or.inl ne_c0_c1)
  have F_c0_firsts_263 := F_c0_firsts.other W263 (Or.inl ne_c0_c1)
  have F_c0_head_263 := F_c0_head.other W263 (Or.inl ne_c0_c1)
  have F_c0_lasts_263 := F_c0_lasts.other W263 (Or.inl ne_c0_c1)
  have F_c0_totals_263 := F_c0_totals.other W263 (Or.inl ne_c0_c1)
  have V_c2_263 := V_c2.other W263 (Ne.symm ne_c1_c2)
  have V_c3_263 := V_c3.other W263 (Ne.symm ne_c1_c3)
  have K263 : Keep h0 h263 [c1, c2, c3, c0] := (Keep.refl h0 [c1, c2, c3, c0]).wr W263 (Or.inl (List.mem_of_getElem? (i := 0) rfl))
  have O263 := O0.wr W263 n_c1
  have N263 := Fr.snoc X263 N0 n_c1
  refine own_aload_n 27 X263 hx hby d3_26 rfl rfl rfl ?_
  refine own_getF 30 X263 hx hby hZ hown (own_w hw 17 rfl) e263 F_c0_lasts_263 d3_27 rfl ?_
  intro T264 X264 e264
  refine own_aload_n 31 X264 hx hby d3_30 rfl rfl rfl ?_
  refine own_getF 34 X264 hx hby hZ hown (own_w hw 26 rfl) e264 F_c0_end_263 d3_31 rfl ?_
  intro T265 X265 e265
  refine own_lload_n 35 X265 hx hby d3_34 rfl rfl ?_
  refine own_stJ 36 2 X265 hx hby hZ e265 V_c2_263 d3_35 rfl (by decide) (by decide) (Nat.le_of_ble_eq_true rfl) ?_
  intro T266 h266 X266 e266 W266 V266
  have V266 : Arv Z h266 c2 k_c2 .long (16 : Int32) [(.long y2), (.long y3), (.long y0), (.long (0 : Int64))] (.long (0 : Int64)) := V266
  have E_c0_266 := E_c0_263.wr W266
  have F_c0_droppedTotal_266 := F_c0_droppedTotal_263.other W266 (Or.inl ne_c0_c2)
  have F_c0_end_266 := F_c0_end_263.other W266 (Or.inl ne_c0_c2)
  have F_c0_firsts_266 := F_c0_firsts_263.other W266 (Or.inl ne_c0_c2)
  have F_c0_head_266 := F_c0_head_263.other W266 (Or.inl ne_c0_c2)
  have F_c0_lasts_266 := F_c0_lasts_263.other W266 (Or.inl ne_c0_c2)
  have F_c0_totals_266 := F_c0_totals_263.other W266 (Or.inl ne_c0_c2)
  have V_c1_266 := V263.other W266 ne_c1_c2
  have V_c3_266 := V_c3_263.other W266 (Ne.symm ne_c2_c3)
  have K266 : Keep h0 h266 [c1, c2, c3, c0] := K263.wr W266 (Or.inl (List.mem_of_getElem? (i := 1) rfl))
  have O266 := O263.wr W266 n_c2
  have N266 := Fr.snoc X266 N263 n_c2
  refine own_aload_n 37 X266 hx hby d3_36 rfl rfl rfl ?_
  refine own_getF 40 X266 hx hby hZ hown (own_w hw 19 rfl) e266 F_c0_totals_266 d3_37 rfl ?_
  intro T267 X267 e267
  refine own_aload_n 41 X267 hx hby d3_40 rfl rfl rfl ?_
  refine own_getF 44 X267 hx hby hZ hown (own_w hw 26 rfl) e267 F_c0_end_266 d3_41 rfl ?_
  intro T268 X268 e268
  refine own_aload_n 45 X268 hx hby d3_44 rfl rfl rfl ?_
  refine own_aload_n 46 X268 hx hby d3_45 rfl rfl rfl ?_
  refine own_getF 49 X268 hx hby hZ hown (own_w hw 26 rfl) e268 F_c0_end_266 d3_46 rfl ?_
  intro T269 X269 e269
  refine own_priv (W := 2) 52 (rm7_50 l Z a0 hw [] w_NONE k_NONE W c0 c1 k_c1 c2 k_c2 c3 k_c3 y2 y3 y0 y4 y5 h266 n0 O266 E_c0_266 F_c0_droppedTotal_266 F_c0_end_266 F_c0_firsts_266 F_c0_head_266 F_c0_lasts_266 F_c0_totals_266 n_c0 V_c1_266 n_c1 V266 n_c2 V_c3_266 n_c3 ne_c0_c1 ne_c0_c2 ne_c0_c3 ne_c1_c2 ne_c1_c3 ne_c2_c3) X269 hx hby hZ hown (own_w hw 47 rfl) (own_w hw 48 rfl) (own_w hw 49 rfl) (own_w hw 24 rfl) (own_w hw 6 rfl) (own_w hw 50 rfl) rfl (by decide) (by rw [hml]; rfl) c0 [(.int (2 : Int32))] [(.int (2 : Int32)), (.ref c3)] pd_3 rfl d3_49 rfl e269 E_c0_266 rfl rfl rfl (by decide) (by decide) (by decide) (by decide) ?_
  rintro _ T272 L272 X272 ⟨rfl, N272, e272⟩
  have N272 := Fr.app N266 N272
  show Go p e below _ (T272.setTop (mkF m 52 _ [(.long y5), (.int (2 : Int32)), (.ref c3)]))
  refine own_lload_n 53 X272 hx hby d3_52 rfl rfl ?_
  refine own_ladd 54 (y5 + y1) X272 hx hby d3_53 rfl rfl ?_
  refine own_stJ 55 2 X272 hx hby hZ e272 V_c3_266 d3_54 rfl (by decide) (by decide) (Nat.le_of_ble_eq_true rfl) ?_
  intro T273 h273 X273 e273 W273 V273
  have V273 : Arv Z h273 c3 k_c3 .long (16 : Int32) [(.long y4), (.long y5), (.long (y5 + y1)), (.long (0 : Int64))] (.long (0 : Int64)) := V273
  have E_c0_273 := E_c0_266.wr W273
  have F_c0_droppedTotal_273 := F_c0_droppedTotal_266.other W273 (Or.inl ne_c0_c3)
  have F_c0_end_273 := F_c0_end_266.other W273 (Or.inl ne_c0_c3)
  have F_c0_firsts_273 := F_c0_firsts_266.other W273 (Or.inl ne_c0_c3)
  have F_c0_head_273 := F_c0_head_266.other W273 (Or.inl ne_c0_c3)
  have F_c0_lasts_273 := F_c0_lasts_266.other W273 (Or.inl ne_c0_c3)
  have F_c0_totals_273 := F_c0_totals_266.other W273 (Or.inl ne_c0_c3)
  have V_c1_273 := V_c1_266.other W273 ne_c1_c3
  have V_c2_273 := V266.other W273 ne_c2_c3
  have K273 : Keep h0 h273 [c1, c2, c3, c0] := K266.wr W273 (Or.inl (List.mem_of_getElem? (i := 2) rfl))
  have O273 := O266.wr W273 n_c3
  have N273 := Fr.snoc X273 N272 n_c3
  refine own_aload_n 56 X273 hx hby d3_55 rfl rfl rfl ?_
  refine own_dup 57 X273 hx hby d3_56 rfl rfl ?_
  refine own_getF 60 X273 hx hby hZ hown (own_w hw 26 rfl) e273 F_c0_end_273 d3_57 rfl ?_
  intro T274 X274 e274
  refine own_iconst 61 (1 : Int32) X274 hx hby d3_60 rfl (by decide) ?_
  refine own_iadd 62 (3 : Int32) X274 hx hby d3_61 rfl (by decide) ?_
  refine own_putF 65 X274 hx hby hZ .int hown (own_w hw 26 rfl) e274 F_c0_end_273 E_c0_273 (Or.inl (own_w hw 27 rfl)) (own_w hw 5 rfl) (by decide) rfl rfl d3_62 rfl ?_
  intro T275 h275 X275 e275 W275
  have E_c0_275 := E_c0_273.wr W275
  have F_c0_droppedTotal_275 := F_c0_droppedTotal_273.other W275 (Or.inr (slot_ne (Or.inl (own_w hw 52 rfl)) (Or.inl (own_w hw 27 rfl)) (by decide) (t := .long) (t' := .int) (by decide) (by decide)))
  have F_c0_end_275 := F_c0_end_273.same W275
  have F_c0_firsts_275 := F_c0_firsts_273.other W275 (Or.inr (slot_ne (Or.inl (own_w hw 16 rfl)) (Or.inl (own_w hw 27 rfl)) (by decide) (t := (.array .long)) (t' := .int) (by decide) (by decide)))
  have F_c0_head_275 := F_c0_head_273.other W275 (Or.inr (slot_ne (Or.inl (own_w hw 33 rfl)) (Or.inl (own_w hw 27 rfl)) (by decide) (t := .int) (t' := .int) (by decide) (by decide)))
  have F_c0_lasts_275 := F_c0_lasts_273.other W275 (Or.inr (slot_ne (Or.inl (own_w hw 18 rfl)) (Or.inl (own_w hw 27 rfl)) (by decide) (t := (.array .long)) (t' := .int) (by decide) (by decide)))
  have F_c0_totals_275 := F_c0_totals_273.other W275 (Or.inr (slot_ne (Or.inl (own_w hw 20 rfl)) (Or.inl (own_w hw 27 rfl)) (by decide) (t := (.array .long)) (t' := .int) (by decide) (by decide)))
  have V_c1_275 := V_c1_273.other W275 (Ne.symm ne_c0_c1)
  have V_c2_275 := V_c2_273.other W275 (Ne.symm ne_c0_c2)
  have V_c3_275 := V273.other W275 (Ne.symm ne_c0_c3)
  have K275 : Keep h0 h275 [c1, c2, c3, c0] := K273.wr W275 (Or.inl (List.mem_of_getElem? (i := 3) rfl))
  have O275 := O273.wr W275 n_c0
  have N275 := Fr.snoc X275 N273 n_c0
  exact own_ret0 (Q := Q_rm3_51 Z w_NONE k_NONE c0 c1 k_c1 c2 k_c2 c3 k_c3 y0 y1 y2 y3 y4 y5 h0 n0) X275 hx hby hret hlk d3_65 (by decide) (by decide) (by rw [e275]; exact ⟨rfl, N275, K275, E_c0_275, F_c0_droppedTotal_275, F_c0_end_275, F_c0_firsts_275, F_c0_head_275, F_c0_lasts_275, F_c0_totals_275, V_c1_275, V_c2_275, V_c3_275⟩)
set_option maxRecDepth 65536 in
set_option maxHeartbeats 40000000 in
theorem rm8_52 (l : Launch) (Z : State) (a0 : Array Value) (hw : ∀ d ∈ tables_1, d.before a0 Z = true) (ws : List Jvm.Cond) (w_NONE k_NONE : Addr) (W : own_W Z w_NONE k_NONE) (c0 : Addr) (c1 : Addr) (k_c1 : ClassId) (c2 : Addr) (k_c2 : ClassId) (c3 : Addr) (k_c3 : ClassId) (y0 : Int64) (y1 : Int64) (y2 : Int64) (y3 : Int64) (y4 : Int64) (y5 : Int64) (y6 : Int64) (h0 : Heap) (n0 : Nat) (O0 : Old Z n0 h0) (E_c0 : Exa Z h0 c0 "com/example/meter/meter/store/Spans") (F_c0_droppedTotal : Fld Z h0 c0 "com/example/meter/meter/store/Spans" "droppedTotal" "J" (.long (0 : Int64))) (F_c0_end : Fld Z h0 c0 "com/example/meter/meter/store/Spans" "end" "I" (.int (3 : Int32))) (F_c0_firsts : Fld Z h0 c0 "com/example/meter/meter/store/Spans" "firsts" "[J" (.ref c1)) (F_c0_head : Fld Z h0 c0 "com/example/meter/meter/store/Spans" "head" "I" (.int (0 : Int32))) (F_c0_lasts : Fld Z h0 c0 "com/example/meter/meter/store/Spans" "lasts" "[J" (.ref c2)) (F_c0_totals : Fld Z h0 c0 "com/example/meter/meter/store/Spans" "totals" "[J" (.ref c3)) (n_c0 : n0 ≤ c0) (V_c1 : Arv Z h0 c1 k_c1 .long (16 : Int32) [(.long y1), (.long y2), (.long y3), (.long (0 : Int64))] (.long (0 : Int64))) (n_c1 : n0 ≤ c1) (V_c2 : Arv Z h0 c2 k_c2 .long (16 : Int32) [(.long y1), (.long y2), (.long y3), (.long (0 : Int64))] (.long (0 : Int64))) (n_c2 : n0 ≤ c2) (V_c3 : Arv Z h0 c3 k_c3 .long (16 : Int32) [(.long y4), (.long y5), (.long y6), (.long (0 : Int64))] (.long (0 : Int64))) (n_c3 : n0 ≤ c3) (ne_c0_c1 : c0 ≠ c1) (ne_c0_c2 : c0 ≠ c2) (ne_c0_c3 : c0 ≠ c3) (ne_c1_c2 : c1 ≠ c2) (ne_c1_c3 : c1 ≠ c3) (ne_c2_c3 : c2 ≠ c3) (hc281 : y0 < y1) :
    MetFree l (⟨"com/example/meter/meter/store/Spans", "dropThrough", "(J)V"⟩ : MethodName) (head1 (Jvm.Cond.code (⟨"com/example/meter/meter/store/Spans", "dropThrough", "(J)V"⟩ : MethodName) prog_11_method_10_code 3 none :: ws) ({ frames := 0, cells := 0, slots := 0, locals := 0 } : Room)) (fun a U => a = #[(.ref c0), (.long y0)] ∧ Z.Warmed39 U.vm ∧ U.heap = h0) (fun _ _ _ _ _ => True) (fun _ U o U' => ∃ v L, o = .returned v ∧ own_Q none n0 h0 v U'.heap L ∧ FrameEnd U o U' L ({ frames := 0, cells := 0, slots := 0, locals := 0 } : Room).cells ({ frames := 0, cells := 0, slots := 0, locals := 0 } : Room).slots) := by
  refine MetFree.of_bodySF (plainFor_of_name pn_0) hisR ?_
  intro p e s m args below meth c s₁ Bd hml0 hP hK
  obtain ⟨rfl, hZ, hh⟩ := hP
  have hx := Bd.exec
  have hby := Bd.bytes
  have hml : c.maxLocals = 3 := hml0
  have hlk := BodyLoose.notSynchronized Bd
  have hret := Bd.returns
  have hown : s.vm.findClass "com/example/meter/meter/store/Spans" = some m.cls := findClass_of_methodNamed Bd.named
  have hnm := (name_of_methodNamed Bd.named Bd.method).1
  have X0 : Stand p l e ({ frames := 0, cells := 0, slots := 0, locals := 0 } : Room) s m #[(.ref c0), (.long y0)] below meth c s₁ [] 0 0 := Stand.of_body Bd
  have e0 : s₁.heap = h0 := by rw [← hh, Bd.state]; rfl
  have N0 := Fr.nil n0
  rw [ef_8 m c0 y0]
  show Go p e below _ (s₁.setTop (mkF m 0 #[oA c0, oJ y0, oS] []))
  refine own_aload_n 1 X0 hx hby d8_0 rfl rfl rfl ?_
  refine own_getF 4 X0 hx hby hZ hown (own_w hw 32 rfl) e0 F_c0_head d8_1 rfl ?_
  intro T277 X277 e277
  refine own_aload_n 5 X277 hx hby d8_4 rfl rfl rfl ?_
  refine own_getF 8 X277 hx hby hZ hown (own_w hw 26 rfl) e277 F_c0_end d8_5 rfl ?_
  intro T278 X278 e278
  refine own_icN 11 X278 hx hby d8_8 rfl (by decide) ?_
  refine own_aload_n 12 X278 hx hby d8_11 rfl rfl rfl ?_
  refine own_getF 15 X278 hx hby hZ hown (own_w hw 17 rfl) e278 F_c0_lasts d8_12 rfl ?_
  intro T279 X279 e279
  refine own_aload_n 16 X279 hx hby d8_15 rfl rfl rfl ?_
  refine own_getF 19 X279 hx hby hZ hown (own_w hw 32 rfl) e279 F_c0_head d8_16 rfl ?_
  intro T280 X280 e280
  refine own_laload 20 (.long y1) X280 hx hby hZ e280 V_c2 d8_19 rfl (by decide) rfl ?_
  refine own_lload_n 21 X280 hx hby d8_20 rfl rfl ?_
  refine own_lcmp 22 (XT.cmpL y1 y0) X280 hx hby d8_21 rfl rfl ?_
  refine own_ifY 51 X280 hx hby d8_22 (by decide) (by decide) (own_tltL hc281).2.2.1 ?_
  exact own_ret0 (Q := own_Q none n0 h0) X280 hx hby hret hlk d8_51 (by decide) (by decide) ⟨rfl, N0, e280⟩
def Q_rm8_53 (Z : State) (w_NONE k_NONE : Addr) (c0 : Addr) (c1 : Addr) (k_c1 : ClassId) (c2 : Addr) (k_c2 : ClassId) (c3 : Addr) (k_c3 : ClassId) (y0 : Int64) (y1 : Int64) (y2 : Int64) (y3 : Int64) (y4 : Int64) (y5 : Int64) (y6 : Int64) (h0 : Heap) (n0 : Nat) (v : Option Value) (h : Heap) (L : List Loc) : Prop := v = none ∧ Fr n0 L ∧ Keep h0 h [c0] ∧ Exa Z h c0 "com/example/meter/meter/store/Spans" ∧ Fld Z h c0 "com/example/meter/meter/store/Spans" "droppedTotal" "J" (.long y4) ∧ Fld Z h c0 "com/example/meter/meter/store/Spans" "end" "I" (.int (3 : Int32)) ∧ Fld Z h c0 "com/example/meter/meter/store/Spans" "firsts" "[J" (.ref c1) ∧ Fld Z h c0 "com/example/meter/meter/store/Spans" "head" "I" (.int (1 : Int32)) ∧ Fld Z h c0 "com/example/meter/meter/store/Spans" "lasts" "[J" (.ref c2) ∧ Fld Z h c0 "com/example/meter/meter/store/Spans" "totals" "[J" (.ref c3) ∧ Arv Z h c1 k_c1 .long (16 : Int32) [(.long y1), (.long y2), (.long y3), (.long (0 : Int64))] (.long (0 : Int64)) ∧ Arv Z h c2 k_c2 .long (16 : Int32) [(.long y1), (.long y2), (.long y3), (.long (0 : Int64))] (.long (0 : Int64)) ∧ Arv Z h c3 k_c3 .long (16 : Int32) [(.long y4), (.long y5), (.long y6), (.long (0 : Int64))] (.long (0 : Int64))
set_option maxRecDepth 65536 in
set_option maxHeartbeats 40000000 in
theorem rm8_53 (l : Launch) (Z : State) (a0 : Array Value) (hw : ∀ d ∈ tables_1, d.before a0 Z = true) (ws : List Jvm.Cond) (w_NONE k_NONE : Addr) (W : own_W Z w_NONE k_NONE) (c0 : Addr) (c1 : Addr) (k_c1 : ClassId) (c2 : Addr) (k_c2 : ClassId) (c3 : Addr) (k_c3 : ClassId) (y0 : Int64) (y1 : Int64) (y2 : Int64) (y3 : Int64) (y4 : Int64) (y5 : Int64) (y6 : Int64) (h0 : Heap) (n0 : Nat) (O0 : Old Z n0 h0) (E_c0 : Exa Z h0 c0 "com/example/meter/meter/store/Spans") (F_c0_droppedTotal : Fld Z h0 c0 "com/example/meter/meter/store/Spans" "droppedTotal" "J" (.long (0 : Int64))) (F_c0_end : Fld Z h0 c0 "com/example/meter/meter/store/Spans" "end" "I" (.int (3 : Int32))) (F_c0_firsts : Fld Z h0 c0 "com/example/meter/meter/store/Spans" "firsts" "[J" (.ref c1)) (F_c0_head : Fld Z h0 c0 "com/example/meter/meter/store/Spans" "head" "I" (.int (0 : Int32))) (F_c0_lasts : Fld Z h0 c0 "com/example/meter/meter/store/Spans" "lasts" "[J" (.ref c2)) (F_c0_totals : Fld Z h0 c0 "com/example/meter/meter/store/Spans" "totals" "[J" (.ref c3)) (n_c0 : n0 ≤ c0) (V_c1 : Arv Z h0 c1 k_c1 .long (16 : Int32) [(.long y1), (.long y2), (.long y3), (.long (0 : Int64))] (.long (0 : Int64))) (n_c1 : n0 ≤ c1) (V_c2 : Arv Z h0 c2 k_c2 .long (16 : Int32) [(.long y1), (.long y2), (.long y3), (.long (0 : Int64))] (.long (0 : Int64))) (n_c2 : n0 ≤ c2) (V_c3 : Arv Z h0 c3 k_c3 .long (16 : Int32) [(.long y4), (.long y5), (.long y6), (.long (0 : Int64))] (.long (0 : Int64))) (n_c3 : n0 ≤ c3) (ne_c0_c1 : c0 ≠ c1) (ne_c0_c2 : c0 ≠ c2) (ne_c0_c3 : c0 ≠ c3) (ne_c1_c2 : c1 ≠ c2) (ne_c1_c3 : c1 ≠ c3) (ne_c2_c3 : c2 ≠ c3) (hc281 : ¬ (y0 < y1)) (hc291 : y0 < y2) :
    MetFree l (⟨"com/example/meter/meter/store/Spans", "dropThrough", "(J)V"⟩ : MethodName) (head1 (Jvm.Cond.code (⟨"com/example/meter/meter/store/Spans", "dropThrough", "(J)V"⟩ : MethodName) prog_11_method_10_code 3 none :: ws) ({ frames := 0, cells := 0, slots := 0, locals := 0 } : Room)) (fun a U => a = #[(.ref c0), (.long y0)] ∧ Z.Warmed39 U.vm ∧ U.heap = h0) (fun _ _ _ _ _ => True) (fun _ U o U' => ∃ v L, o = .returned v ∧ Q_rm8_53 Z w_NONE k_NONE c0 c1 k_c1 c2 k_c2 c3 k_c3 y0 y1 y2 y3 y4 y5 y6 h0 n0 v U'.heap L ∧ FrameEnd U o U' L ({ frames := 0, cells := 0, slots := 0, locals := 0 } : Room).cells ({ frames := 0, cells := 0, slots := 0, locals := 0 } : Room).slots) := by
  refine MetFree.of_bodySF (plainFor_of_name pn_0) hisR ?_
  intro p e s m args below meth c s₁ Bd hml0 hP hK
  obtain ⟨rfl, hZ, hh⟩ := hP
  have hx := Bd.exec
  have hby := Bd.bytes
  have hml : c.maxLocals = 3 := hml0
  have hlk := BodyLoose.notSynchronized Bd
  have hret := Bd.returns
  have hown : s.vm.findClass "com/example/meter/meter/store/Spans" = some m.cls := findClass_of_methodNamed Bd.named
  have hnm := (name_of_methodNamed Bd.named Bd.method).1
  have X0 : Stand p l e ({ frames := 0, cells := 0, slots := 0, locals := 0 } : Room) s m #[(.ref c0), (.long y0)] below meth c s₁ [] 0 0 := Stand.of_body Bd
  have e0 : s₁.heap = h0 := by rw [← hh, Bd.state]; rfl
  have N0 := Fr.nil n0
  rw [ef_8 m c0 y0]
  show Go p e below _ (s₁.setTop (mkF m 0 #[oA c0, oJ y0, oS] []))
  refine own_aload_n 1 X0 hx hby d8_0 rfl rfl rfl ?_
  refine own_getF 4 X0 hx hby hZ hown (own_w hw 32 rfl) e0 F_c0_head d8_1 rfl ?_
  intro T277 X277 e277
  refine own_aload_n 5 X277 hx hby d8_4 rfl rfl rfl ?_
  refine own_getF 8 X277 hx hby hZ hown (own_w hw 26 rfl) e277 F_c0_end d8_5 rfl ?_
  intro T278 X278 e278
  refine own_icN 11 X278 hx hby d8_8 rfl (by decide) ?_
  refine own_aload_n 12 X278 hx hby d8_11 rfl rfl rfl ?_
  refine own_getF 15 X278 hx hby hZ hown (own_w hw 17 rfl) e278 F_c0_lasts d8_12 rfl ?_
  intro T279 X279 e279
  refine own_aload_n 16 X279 hx hby d8_15 rfl rfl rfl ?_
  refine own_getF 19 X279 hx hby hZ hown (own_w hw 32 rfl) e279 F_c0_head d8_16 rfl ?_
  intro T280 X280 e280
  refine own_laload 20 (.long y1) X280 hx hby hZ e280 V_c2 d8_19 rfl (by decide) rfl ?_
  refine own_lload_n 21 X280 hx hby d8_20 rfl rfl ?_
  refine own_lcmp 22 (XT.cmpL y1 y0) X280 hx hby d8_21 rfl rfl ?_
  refine own_ifN 25 X280 hx hby d8_22 rfl (own_fltL hc281).2.2.1 ?_
  refine own_aload_n 26 X280 hx hby d8_25 rfl rfl rfl ?_
  refine own_aload_n 27 X280 hx hby d8_26 rfl rfl rfl ?_
  refine own_getF 30 X280 hx hby hZ hown (own_w hw 19 rfl) e280 F_c0_totals d8_27 rfl ?_
  intro T282 X282 e282
  refine own_aload_n 31 X282 hx hby d8_30 rfl rfl rfl ?_
  refine own_getF 34 X282 hx hby hZ hown (own_w hw 32 rfl) e282 F_c0_head d8_31 rfl ?_
  intro T283 X283 e283
  refine own_laload 35 (.long y4) X283 hx hby hZ e283 V_c3 d8_34 rfl (by decide) rfl ?_
  refine own_putF 38 X283 hx hby hZ .long hown (own_w hw 51 rfl) e283 F_c0_droppedTotal E_c0 (Or.inl (own_w hw 52 rfl)) (own_w hw 5 rfl) (by decide) rfl rfl d8_35 rfl ?_
  intro T284 h284 X284 e284 W284
  have E_c0_284 := E_c0.wr W284
  have F_c0_droppedTotal_284 := F_c0_droppedTotal.same W284
  have F_c0_end_284 := F_c0_end.other W284 (Or.inr (slot_ne (Or.inl (own_w hw 27 rfl)) (Or.inl (own_w hw 52 rfl)) (by decide) (t := .int) (t' := .long) (by decide) (by decide)))
  have F_c0_firsts_284 := F_c0_firsts.other W284 (Or.inr (slot_ne (Or.inl (own_w hw 16 rfl)) (Or.inl (own_w hw 52 rfl)) (by decide) (t := (.array .long)) (t' := .long) (by decide) (by decide)))
  have F_c0_head_284 := F_c0_head.other W284 (Or.inr (slot_ne (Or.inl (own_w hw 33 rfl)) (Or.inl (own_w hw 52 rfl)) (by decide) (t := .int) (t' := .long) (by decide) (by decide)))
  have F_c0_lasts_284 := F_c0_lasts.other W284 (Or.inr (slot_ne (Or.inl (own_w hw 18 rfl)) (Or.inl (own_w hw 52 rfl)) (by decide) (t := (.array .long)) (t' := .long) (by decide) (by decide)))
  have F_c0_totals_284 := F_c0_totals.other W284 (Or.inr (slot_ne (Or.inl (own_w hw 20 rfl)) (Or.inl (own_w hw 52 rfl)) (by decide) (t := (.array .long)) (t' := .long) (by decide) (by decide)))
  have V_c1_284 := V_c1.other W284 (Ne.symm ne_c0_c1)
  have V_c2_284 := V_c2.other W284 (Ne.symm ne_c0_c2)
  have V_c3_284 := V_c3.other W284 (Ne.symm ne_c0_c3)
  have K284 : Keep h0 h284 [c0] := (Keep.refl h0 [c0]).wr W284 (Or.inl (List.mem_of_getElem? (i := 0) rfl))
  have O284 := O0.wr W284 n_c0
  have N284 := Fr.snoc X284 N0 n_c0
  refine own_aload_n 39 X284 hx hby d8_38 rfl rfl rfl ?_
  refine own_dup 40 X284 hx hby d8_39 rfl rfl ?_
  refine own_getF 43 X284 hx hby hZ hown (own_w hw 32 rfl) e284 F_c0_head_284 d8_40 rfl ?_
  intro T285 X285 e285
  refine own_iconst 44 (1 : Int32) X285 hx hby d8_43 rfl (by decide) ?_
  refine own_iadd 45 (1 : Int32) X285 hx hby d8_44 rfl (by decide) ?_
  refine own_putF 48 X285 hx hby hZ .int hown (own_w hw 32 rfl) e285 F_c0_head_284 E_c0_284 (Or.inl (own_w hw 33 rfl)) (own_w hw 5 rfl) (by decide) rfl rfl d8_45 rfl ?_
  intro T286 h286 X286 e286 W286
  have E_c0_286 := E_c0_284.wr W286
  have F_c0_droppedTotal_286 := F_c0_droppedTotal_284.other W286 (Or.inr (slot_ne (Or.inl (own_w hw 52 rfl)) (Or.inl (own_w hw 33 rfl)) (by decide) (t := .long) (t' := .int) (by decide) (by decide)))
  have F_c0_end_286 := F_c0_end_284.other W286 (Or.inr (slot_ne (Or.inl (own_w hw 27 rfl)) (Or.inl (own_w hw 33 rfl)) (by decide) (t := .int) (t' := .int) (by decide) (by decide)))
  have F_c0_firsts_286 := F_c0_firsts_284.other W286 (Or.inr (slot_ne (Or.inl (own_w hw 16 rfl)) (Or.inl (own_w hw 33 rfl)) (by decide) (t := (.array .long)) (t' := .int) (by decide) (by decide)))
  have F_c0_head_286 := F_c0_head_284.same W286
  have F_c0_lasts_286 := F_c0_lasts_284.other W286 (Or.inr (slot_ne (Or.inl (own_w hw 18 rfl)) (Or.inl (own_w hw 33 rfl)) (by decide) (t := (.array .long)) (t' := .int) (by decide) (by decide)))
  have F_c0_totals_286 := F_c0_totals_284.other W286 (Or.inr (slot_ne (Or.inl (own_w hw 20 rfl)) (Or.inl (own_w hw 33 rfl)) (by decide) (t := (.array .long)) (t' := .int) (by decide) (by decide)))
  have V_c1_286 := V_c1_284.other W286 (Ne.symm ne_c0_c1)
  have V_c2_286 := V_c2_284.other W286 (Ne.symm ne_c0_c2)
  have V_c3_286 := V_c3_284.other W286 (Ne.symm ne_c0_c3)
  have K286 : Keep h0 h286 [c0] := K284.wr W286 (Or.inl (List.mem_of_getElem? (i := 0) rfl))
  have O286 := O284.wr W286 n_c0
  have N286 := Fr.snoc X286 N284 n_c0
  refine own_goto 0 X286 hx hby d8_48 (by decide) (by decide) ?_
  refine own_aload_n 1 X286 hx hby d8_0 rfl rfl rfl ?_
  refine own_getF 4 X286 hx hby hZ hown (own_w hw 32 rfl) e286 F_c0_head_286 d8_1 rfl ?_
  intro T287 X287 e287
  refine own_aload_n 5 X287 hx hby d8_4 rfl rfl rfl ?_
  refine own_getF 8 X287 hx hby hZ hown (own_w hw 26 rfl) e287 F_c0_end_286 d8_5 rfl ?_
  intro T288 X288 e288
  refine own_icN 11 X288 hx hby d8_8 rfl (by decide) ?_
  refine own_aload_n 12 X288 hx hby d8_11 rfl rfl rfl ?_
  refine own_getF 15 X288 hx hby hZ hown (own_w hw 17 rfl) e288 F_c0_lasts_286 d8_12 rfl ?_
  intro T289 X289 e289
  refine own_aload_n 16 X289 hx hby d8_15 rfl rfl rfl ?_
  refine own_getF 19 X289 hx hby hZ hown (own_w hw 32 rfl) e289 F_c0_head_286 d8_16 rfl ?_
  intro T290 X290 e290
  refine own_laload 20 (.long y2) X290 hx hby hZ e290 V_c2_286 d8_19 rfl (by decide) rfl ?_
  refine own_lload_n 21 X290 hx hby d8_20 rfl rfl ?_
  refine own_lcmp 22 (XT.cmpL y2 y0) X290 hx hby d8_21 rfl rfl ?_
  refine own_ifY 51 X290 hx hby d8_22 (by decide) (by decide) (own_tltL hc291).2.2.1 ?_
  exact own_ret0 (Q := Q_rm8_53 Z w_NONE k_NONE c0 c1 k_c1 c2 k_c2 c3 k_c3 y0 y1 y2 y3 y4 y5 y6 h0 n0) X290 hx hby hret hlk d8_51 (by decide) (by decide) (by rw [e290]; exact ⟨rfl, N286, K286, E_c0_286, F_c0_droppedTotal_286, F_c0_end_286, F_c0_firsts_286, F_c0_head_286, F_c0_lasts_286, F_c0_totals_286, V_c1_286, V_c2_286, V_c3_286⟩)
def Q_rm8_54 (Z : State) (w_NONE k_NONE : Addr) (c0 : Addr) (c1 : Addr) (k_c1 : ClassId) (c2 : Addr) (k_c2 : ClassId) (c3 : Addr) (k_c3 : ClassId) (y0 : Int64) (y1 : Int64) (y2 : Int64) (y3 : Int64) (y4 : Int64) (y5 : Int64) (y6 : Int64) (h0 : Heap) (n0 : Nat) (v : Option Value) (h : Heap) (L : List Loc) : Prop := v = none ∧ Fr n0 L ∧ Keep h0 h [c0] ∧ Exa Z h c0 "com/example/meter/meter/store/Spans" ∧ Fld Z h c0 "com/example/meter/meter/store/Spans" "droppedTotal" "J" (.long y5) ∧ Fld Z h c0 "com/example/meter/meter/store/Spans" "end" "I" (.int (3 : Int32)) ∧ Fld Z h c0 "com/example/meter/meter/store/Spans" "firsts" "[J" (.ref c1) ∧ Fld Z h c0 "com/example/meter/meter/store/Spans" "head" "I" (.int (2 : Int32)) ∧ Fld Z h c0 "com/example/meter/meter/store/Spans" "lasts" "[J" (.ref c2) ∧ Fld Z h c0 "com/example/meter/meter/store/Spans" "totals" "[J" (.ref c3) ∧ Arv Z h c1 k_c1 .long (16 : Int32) [(.long y1), (.long y2), (.long y3), (.long (0 : Int64))] (.long (0 : Int64)) ∧ Arv Z h c2 k_c2 .long (16 : Int32) [(.long y1), (.long y2), (.long y3), (.long (0 : Int64))] (.long (0 : Int64)) ∧ Arv Z h c3 k_c3 .long (16 : Int32) [(.long y4), (.long y5), (.long y6), (.long (0 : Int64))] (.long (0 : Int64))
set_option maxRecDepth 65536 in
set_option maxHeartbeats 40000000 in
theorem rm8_54 (l : Launch) (Z : State) (a0 : Array Value) (hw : ∀ d ∈ tables_1, d.before a0 Z = true) (ws : List Jvm.Cond) (w_NONE k_NONE : Addr) (W : own_W Z w_NONE k_NONE) (c0 : Addr) (c1 : Addr) (k_c1 : ClassId) (c2 : Addr) (k_c2 : ClassId) (c3 : Addr) (k_c3 : ClassId) (y0 : Int64) (y1 : Int64) (y2 : Int64) (y3 : Int64) (y4 : Int64) (y5 : Int64) (y6 : Int64) (h0 : Heap) (n0 : Nat) (O0 : Old Z n0 h0) (E_c0 : Exa Z h0 c0 "com/example/meter/meter/store/Spans") (F_c0_droppedTotal : Fld Z h0 c0 "com/example/meter/meter/store/Spans" "droppedTotal" "J" (.long (0 : Int64))) (F_c0_end : Fld Z h0 c0 "com/example/meter/meter/store/Spans" "end" "I" (.int (3 : Int32))) (F_c0_firsts : Fld Z h0 c0 "com/example/meter/meter/store/Spans" "firsts" "[J" (.ref c1)) (F_c0_head : Fld Z h0 c0 "com/example/meter/meter/store/Spans" "head" "I" (.int (0 : Int32))) (F_c0_lasts : Fld Z h0 c0 "com/example/meter/meter/store/Spans" "lasts" "[J" (.ref c2)) (F_c0_totals : Fld Z h0 c0 "com/example/meter/meter/store/Spans" "totals" "[J" (.ref c3)) (n_c0 : n0 ≤ c0) (V_c1 : Arv Z h0 c1 k_c1 .long (16 : Int32) [(.long y1), (.long y2), (.long y3), (.long (0 : Int64))] (.long (0 : Int64))) (n_c1 : n0 ≤ c1) (V_c2 : Arv Z h0 c2 k_c2 .long (16 : Int32) [(.long y1), (.long y2), (.long y3), (.long (0 : Int64))] (.long (0 : Int64))) (n_c2 : n0 ≤ c2) (V_c3 : Arv Z h0 c3 k_c3 .long (16 : Int32) [(.long y4), (.long y5), (.long y6), (.long (0 : Int64))] (.long (0 : Int64))) (n_c3 : n0 ≤ c3) (ne_c0_c1 : c0 ≠ c1) (ne_c0_c2 : c0 ≠ c2) (ne_c0_c3 : c0 ≠ c3) (ne_c1_c2 : c1 ≠ c2) (ne_c1_c3 : c1 ≠ c3) (ne_c2_c3 : c2 ≠ c3) (hc281 : ¬ (y0 < y1)) (hc291 : ¬ (y0 < y2)) (hc301 : y0 < y3) :
    MetFree l (⟨"com/example/meter/meter/store/Spans", "dropThrough", "(J)V"⟩ : MethodName) (head1 (Jvm.Cond.code (⟨"com/example/meter/meter/store/Spans", "dropThrough", "(J)V"⟩ : MethodName) prog_11_method_10_code 3 none :: ws) ({ frames := 0, cells := 0, slots := 0, locals := 0 } : Room)) (fun a U => a = #[(.ref c0), (.long y0)] ∧ Z.Warmed39 U.vm ∧ U.heap = h0) (fun _ _ _ _ _ => True) (fun _ U o U' => ∃ v L, o = .returned v ∧ Q_rm8_54 Z w_NONE k_NONE c0 c1 k_c1 c2 k_c2 c3 k_c3 y0 y1 y2 y3 y4 y5 y6 h0 n0 v U'.heap L ∧ FrameEnd U o U' L ({ frames := 0, cells := 0, slots := 0, locals := 0 } : Room).cells ({ frames := 0, cells := 0, slots := 0, locals := 0 } : Room).slots) := by
  refine MetFree.of_bodySF (plainFor_of_name pn_0) hisR ?_
  intro p e s m args below meth c s₁ Bd hml0 hP hK
  obtain ⟨rfl, hZ, hh⟩ := hP
  have hx := Bd.exec
  have hby := Bd.bytes
  have hml : c.maxLocals = 3 := hml0
  have hlk := BodyLoose.notSynchronized Bd
  have hret := Bd.returns
  have hown : s.vm.findClass "com/example/meter/meter/store/Spans" = some m.cls := findClass_of_methodNamed Bd.named
  have hnm := (name_of_methodNamed Bd.named Bd.method).1
  have X0 : Stand p l e ({ frames := 0, cells := 0, slots := 0, locals := 0 } : Room) s m #[(.ref c0), (.long y0)] below meth c s₁ [] 0 0 := Stand.of_body Bd
  have e0 : s₁.heap = h0 := by rw [← hh, Bd.state]; rfl
  have N0 := Fr.nil n0
  rw [ef_8 m c0 y0]
  show Go p e below _ (s₁.setTop (mkF m 0 #[oA c0, oJ y0, oS] []))
  refine own_aload_n 1 X0 hx hby d8_0 rfl rfl rfl ?_
  refine own_getF 4 X0 hx hby hZ hown (own_w hw 32 rfl) e0 F_c0_head d8_1 rfl ?_
  intro T277 X277 e277
  refine own_aload_n 5 X277 hx hby d8_4 rfl rfl rfl ?_
  refine own_getF 8 X277 hx hby hZ hown (own_w hw 26 rfl) e277 F_c0_end d8_5 rfl ?_
  intro T278 X278 e278
  refine own_icN 11 X278 hx hby d8_8 rfl (by decide) ?_
  refine own_aload_n 12 X278 hx hby d8_11 rfl rfl rfl ?_
  refine own_getF 15 X278 hx hby hZ hown (own_w hw 17 rfl) e278 F_c0_lasts d8_12 rfl ?_
  intro T279 X279 e279
  refine own_aload_n 16 X279 hx hby d8_15 rfl rfl rfl ?_
  refine own_getF 19 X279 hx hby hZ hown (own_w hw 32 rfl) e279 F_c0_head d8_16 rfl ?_
  intro T280 X280 e280
  refine own_laload 20 (.long y1) X280 hx hby hZ e280 V_c2 d8_19 rfl (by decide) rfl ?_
  refine own_lload_n 21 X280 hx hby d8_20 rfl rfl ?_
  refine own_lcmp 22 (XT.cmpL y1 y0) X280 hx hby d8_21 rfl rfl ?_
  refine own_ifN 25 X280 hx hby d8_22 rfl (own_fltL hc281).2.2.1 ?_
  refine own_aload_n 26 X280 hx hby d8_25 rfl rfl rfl ?_
  refine own_aload_n 27 X280 hx hby d8_26 rfl rfl rfl ?_
  refine own_getF 30 X280 hx hby hZ hown (own_w hw 19 rfl) e280 F_c0_totals d8_27 rfl ?_
  intro T282 X282 e282
  refine own_aload_n 31 X282 hx hby d8_30 rfl rfl rfl ?_
  refine own_getF 34 X282 hx hby hZ hown (own_w hw 32 rfl) e282 F_c0_head d8_31 rfl ?_
  intro T283 X283 e283
  refine own_laload 35 (.long y4) X283 hx hby hZ e283 V_c3 d8_34 rfl (by decide) rfl ?_
  refine own_putF 38 X283 hx hby hZ .long hown (own_w hw 51 rfl) e283 F_c0_droppedTotal E_c0 (Or.inl (own_w hw 52 rfl)) (own_w hw 5 rfl) (by decide) rfl rfl d8_35 rfl ?_
  intro T284 h284 X284 e284 W284
  have E_c0_284 := E_c0.wr W284
  have F_c0_droppedTotal_284 := F_c0_droppedTotal.same W284
  have F_c0_end_284 := F_c0_end.other W284 (Or.inr (slot_ne (Or.inl (own_w hw 27 rfl)) (Or.inl (own_w hw 52 rfl)) (by decide) (t := .int) (t' := .long) (by decide) (by decide)))
  have F_c0_firsts_284 := F_c0_firsts.other W284 (Or.inr (slot_ne (Or.inl (own_w hw 16 rfl)) (Or.inl (own_w hw 52 rfl)) (by decide) (t := (.array .long)) (t' := .long) (by decide) (by decide)))
  have F_c0_head_284 := F_c0_head.other W284 (Or.inr (slot_ne (Or.inl (own_w hw 33 rfl)) (Or.inl (own_w hw 52 rfl)) (by decide) (t := .int) (t' := .long) (by decide) (by decide)))
  have F_c0_lasts_284 := F_c0_lasts.other W284 (Or.inr (slot_ne (Or.inl (own_w hw 18 rfl)) (Or.inl (own_w hw 52 rfl)) (by decide) (t := (.array .long)) (t' := .long) (by decide) (by decide)))
  have F_c0_totals_284 := F_c0_totals.other W284 (Or.inr (slot_ne (Or.inl (own_w hw 20 rfl)) (Or.inl (own_w hw 52 rfl)) (by decide) (t := (.array .long)) (t' := .long) (by decide) (by decide)))
  have V_c1_284 := V_c1.other W284 (Ne.symm ne_c0_c1)
  have V_c2_284 := V_c2.other W284 (Ne.symm ne_c0_c2)
  have V_c3_284 := V_c3.other W284 (Ne.symm ne_c0_c3)
  have K284 : Keep h0 h284 [c0] := (Keep.refl h0 [c0]).wr W284 (Or.inl (List.mem_of_getElem? (i := 0) rfl))
  have O284 := O0.wr W284 n_c0
  have N284 := Fr.snoc X284 N0 n_c0
  refine own_aload_n 39 X284 hx hby d8_38 rfl rfl rfl ?_
  refine own_dup 40 X284 hx hby d8_39 rfl rfl ?_
  refine own_getF 43 X284 hx hby hZ hown (own_w hw 32 rfl) e284 F_c0_head_284 d8_40 rfl ?_
  intro T285 X285 e285
  refine own_iconst 44 (1 : Int32) X285 hx hby d8_43 rfl (by decide) ?_
  refine own_iadd 45 (1 : Int32) X285 hx hby d8_44 rfl (by decide) ?_
  refine own_putF 48 X285 hx hby hZ .int hown (own_w hw 32 rfl) e285 F_c0_head_284 E_c0_284 (Or.inl (own_w hw 33 rfl)) (own_w hw 5 rfl) (by decide) rfl rfl d8_45 rfl ?_
  intro T286 h286 X286 e286 W286
  have E_c0_286 := E_c0_284.wr W286
  have F_c0_droppedTotal_286 := F_c0_droppedTotal_284.other W286 (Or.inr (slot_ne (Or.inl (own_w hw 52 rfl)) (Or.inl (own_w hw 33 rfl)) (by decide) (t := .long) (t' := .int) (by decide) (by decide)))
  have F_c0_end_286 := F_c0_end_284.other W286 (Or.inr (slot_ne (Or.inl (own_w hw 27 rfl)) (Or.inl (own_w hw 33 rfl)) (by decide) (t := .int) (t' := .int) (by decide) (by decide)))
  have F_c0_firsts_286 := F_c0_firsts_284.other W286 (Or.inr (slot_ne (Or.inl (own_w hw 16 rfl)) (Or.inl (own_w hw 33 rfl)) (by decide) (t := (.array .long)) (t' := .int) (by decide) (by decide)))
  have F_c0_head_286 := F_c0_head_284.same W286
  have F_c0_lasts_286 := F_c0_lasts_284.other W286 (Or.inr (slot_ne (Or.inl (own_w hw 18 rfl)) (Or.inl (own_w hw 33 rfl)) (by decide) (t := (.array .long)) (t' := .int) (by decide) (by decide)))
  have F_c0_totals_286 := F_c0_totals_284.other W286 (Or.inr (slot_ne (Or.inl (own_w hw 20 rfl)) (Or.inl (own_w hw 33 rfl)) (by decide) (t := (.array .long)) (t' := .int) (by decide) (by decide)))
  have V_c1_286 := V_c1_284.other W286 (Ne.symm ne_c0_c1)
  have V_c2_286 := V_c2_284.other W286 (Ne.symm ne_c0_c2)
  have V_c3_286 := V_c3_284.other W286 (Ne.symm ne_c0_c3)
  have K286 : Keep h0 h286 [c0] := K284.wr W286 (Or.inl (List.mem_of_getElem? (i := 0) rfl))
  have O286 := O284.wr W286 n_c0
  have N286 := Fr.snoc X286 N284 n_c0
  refine own_goto 0 X286 hx hby d8_48 (by decide) (by decide) ?_
  refine own_aload_n 1 X286 hx hby d8_0 rfl rfl rfl ?_
  refine own_getF 4 X286 hx hby hZ hown (own_w hw 32 rfl) e286 F_c0_head_286 d8_1 rfl ?_
  intro T287 X287 e287
  refine own_aload_n 5 X287 hx hby d8_4 rfl rfl rfl ?_
  refine own_getF 8 X287 hx hby hZ hown (own_w hw 26 rfl) e287 F_c0_end_286 d8_5 rfl ?_
  intro T288 X288 e288
  refine own_icN 11 X288 hx hby d8_8 rfl (by decide) ?_
  refine own_aload_n 12 X288 hx hby d8_11 rfl rfl rfl ?_
  refine own_getF 15 X288 hx hby hZ hown (own_w hw 17 rfl) e288 F_c0_lasts_286 d8_12 rfl ?_
  intro T289 X289 e289
  refine own_aload_n 16 X289 hx hby d8_15 rfl rfl rfl ?_
  refine own_getF 19 X289 hx hby hZ hown (own_w hw 32 rfl) e289 F_c0_head_286 d8_16 rfl ?_
  intro T290 X290 e290
  refine own_laload 20 (.long y2) X290 hx hby hZ e290 V_c2_286 d8_19 rfl (by decide) rfl ?_
  refine own_lload_n 21 X290 hx hby d8_20 rfl rfl ?_
  refine own_lcmp 22 (XT.cmpL y2 y0) X290 hx hby d8_21 rfl rfl ?_
  refine own_ifN 25 X290 hx hby d8_22 rfl (own_fltL hc291).2.2.1 ?_
  refine own_aload_n 26 X290 hx hby d8_25 rfl rfl rfl ?_
  refine own_aload_n 27 X290 hx hby d8_26 rfl rfl rfl ?_
  refine own_getF 30 X290 hx hby hZ hown (own_w hw 19 rfl) e290 F_c0_totals_286 d8_27 rfl ?_
  intro T292 X292 e292
  refine own_aload_n 31 X292 hx hby d8_30 rfl rfl rfl ?_
  refine own_getF 34 X292 hx hby hZ hown (own_w hw 32 rfl) e292 F_c0_head_286 d8_31 rfl ?_
  intro T293 X293 e293
  refine own_laload 35 (.long y5) X293 hx hby hZ e293 V_c3_286 d8_34 rfl (by decide) rfl ?_
  refine own_putF 38 X293 hx hby hZ .long hown (own_w hw 51 rfl) e293 F_c0_droppedTotal_286 E_c0_286 (Or.inl (own_w hw 52 rfl)) (own_w hw 5 rfl) (by decide) rfl rfl d8_35 rfl ?_
  intro T294 h294 X294 e294 W294
  have E_c0_294 := E_c0_286.wr W294
  have F_c0_droppedTotal_294 := F_c0_droppedTotal_286.same W294
  have F_c0_end_294 := F_c0_end_286.other W294 (Or.inr (slot_ne (Or.inl (own_w hw 27 rfl)) (Or.inl (own_w hw 52 rfl)) (by decide) (t := .int) (t' := .long) (by decide) (by decide)))
  have F_c0_firsts_294 := F_c0_firsts_286.other W294 (Or.inr (slot_ne (Or.inl (own_w hw 16 rfl)) (Or.inl (own_w hw 52 rfl)) (by decide) (t := (.array .long)) (t' := .long) (by decide) (by decide)))
  have F_c0_head_294 := F_c0_head_286.other W294 (Or.inr (slot_ne (Or.inl (own_w hw 33 rfl)) (Or.inl (own_w hw 52 rfl)) (by decide) (t := .int) (t' := .long) (by decide) (by decide)))
  have F_c0_lasts_294 := F_c0_lasts_286.other W294 (Or.inr (slot_ne (Or.inl (own_w hw 18 rfl)) (Or.inl (own_w hw 52 rfl)) (by decide) (t := (.array .long)) (t' := .long) (by decide) (by decide)))
  have F_c0_totals_294 := F_c0_totals_286.other W294 (Or.inr (slot_ne (Or.inl (own_w hw 20 rfl)) (Or.inl (own_w hw 52 rfl)) (by decide) (t := (.array .long)) (t' := .long) (by decide) (by decide)))
  have V_c1_294 := V_c1_286.other W294 (Ne.symm ne_c0_c1)
  have V_c2_294 := V_c2_286.other W294 (Ne.symm ne_c0_c2)
  have V_c3_294 := V_c3_286.other W294 (Ne.symm ne_c0_c3)
  have K294 : Keep h0 h294 [c0] := K286.wr W294 (Or.inl (List.mem_of_getElem? (i := 0) rfl))
  have O294 := O286.wr W294 n_c0
  have N294 := Fr.snoc X294 N286 n_c0
  refine own_aload_n 39 X294 hx hby d8_38 rfl rfl rfl ?_
  refine own_dup 40 X294 hx hby d8_39 rfl rfl ?_
  refine own_getF 43 X294 hx hby hZ hown (own_w hw 32 rfl) e294 F_c0_head_294 d8_40 rfl ?_
  intro T295 X295 e295
  refine own_iconst 44 (1 : Int32) X295 hx hby d8_43 rfl (by decide) ?_
  refine own_iadd 45 (2 : Int32) X295 hx hby d8_44 rfl (by decide) ?_
  refine own_putF 48 X295 hx hby hZ .int hown (own_w hw 32 rfl) e295 F_c0_head_294 E_c0_294 (Or.inl (own_w hw 33 rfl)) (own_w hw 5 rfl) (by decide) rfl rfl d8_45 rfl ?_
  intro T296 h296 X296 e296 W296
  have E_c0_296 := E_c0_294.wr W296
  have F_c0_droppedTotal_296 := F_c0_droppedTotal_294.other W296 (Or.inr (slot_ne (Or.inl (own_w hw 52 rfl)) (Or.inl (own_w hw 33 rfl)) (by decide) (t := .long) (t' := .int) (by decide) (by decide)))
  have F_c0_end_296 := F_c0_end_294.other W296 (Or.inr (slot_ne (Or.inl (own_w hw 27 rfl)) (Or.inl (own_w hw 33 rfl)) (by decide) (t := .int) (t' := .int) (by decide) (by decide)))
  have F_c0_firsts_296 := F_c0_firsts_294.other W296 (Or.inr (slot_ne (Or.inl (own_w hw 16 rfl)) (Or.inl (own_w hw 33 rfl)) (by decide) (t := (.array .long)) (t' := .int) (by decide) (by decide)))
  have F_c0_head_296 := F_c0_head_294.same W296
  have F_c0_lasts_296 := F_c0_lasts_294.other W296 (Or.inr (slot_ne (Or.inl (own_w hw 18 rfl)) (Or.inl (own_w hw 33 rfl)) (by decide) (t := (.array .long)) (t' := .int) (by decide) (by decide)))
  have F_c0_totals_296 := F_c0_totals_294.other W296 (Or.inr (slot_ne (Or.inl (own_w hw 20 rfl)) (Or.inl (own_w hw 33 rfl)) (by decide) (t := (.array .long)) (t' := .int) (by decide) (by decide)))
  have V_c1_296 := V_c1_294.other W296 (Ne.symm ne_c0_c1)
  have V_c2_296 := V_c2_294.other W296 (Ne.symm ne_c0_c2)
  have V_c3_296 := V_c3_294.other W296 (Ne.symm ne_c0_c3)
  have K296 : Keep h0 h296 [c0] := K294.wr W296 (Or.inl (List.mem_of_getElem? (i := 0) rfl))
  have O296 := O294.wr W296 n_c0
  have N296 := Fr.snoc X296 N294 n_c0
  refine own_goto 0 X296 hx hby d8_48 (by decide) (by decide) ?_
  refine own_aload_n 1 X296 hx hby d8_0 rfl rfl rfl ?_
  refine own_getF 4 X296 hx hby hZ hown (own_w hw 32 rfl) e296 F_c0_head_296 d8_1 rfl ?_
  intro T297 X297 e297
  refine own_aload_n 5 X297 hx hby d8_4 rfl rfl rfl ?_
  refine own_getF 8 X297 hx hby hZ hown (own_w hw 26 rfl) e297 F_c0_end_296 d8_5 rfl ?_
  intro T298 X298 e298
  refine own_icN 11 X298 hx hby d8_8 rfl (by decide) ?_
  refine own_aload_n 12 X298 hx hby d8_11 rfl rfl rfl ?_
  refine own_getF 15 X298 hx hby hZ hown (own_w hw 17 rfl) e298 F_c0_lasts_296 d8_12 rfl ?_
  intro T299 X299 e299
  refine own_aload_n 16 X299 hx hby d8_15 rfl rfl rfl ?_
  refine own_getF 19 X299 hx hby hZ hown (own_w hw 32 rfl) e299 F_c0_head_296 d8_16 rfl ?_
  intro T300 X300 e300
  refine own_laload 20 (.long y3) X300 hx hby hZ e300 V_c2_296 d8_19 rfl (by decide) rfl ?_
  refine own_lload_n 21 X300 hx hby d8_20 rfl rfl ?_
  refine own_lcmp 22 (XT.cmpL y3 y0) X300 hx hby d8_21 rfl rfl ?_
  refine own_ifY 51 X300 hx hby d8_22 (by decide) (by decide) (own_tltL hc301).2.2.1 ?_
  exact own_ret0 (Q := Q_rm8_54 Z w_NONE k_NONE c0 c1 k_c1 c2 k_c2 c3 k_c3 y0 y1 y2 y3 y4 y5 y6 h0 n0) X300 hx hby hret hlk d8_51 (by decide) (by decide) (by rw [e300]; exact ⟨rfl, N296, K296, E_c0_296, F_c0_droppedTotal_296, F_c0_end_296, F_c0_firsts_296, F_c0_head_296, F_c0_lasts_296, F_c0_totals_296, V_c1_296, V_c2_296, V_c3_296⟩)
def Q_rm8_55 (Z : State) (w_NONE k_NONE : Addr) (c0 : Addr) (c1 : Addr) (k_c1 : ClassId) (c2 : Addr) (k_c2 : ClassId) (c3 : Addr) (k_c3 : ClassId) (y0 : Int64) (y1 : Int64) (y2 : Int64) (y3 : Int64) (y4 : Int64) (y5 : Int64) (y6 : Int64) (h0 : Heap) (n0 : Nat) (v : Option Value) (h : Heap) (L : List Loc) : Prop := v = none ∧ Fr n0 L ∧ Keep h0 h [c0] ∧ Exa Z h c0 "com/example/meter/meter/store/Spans" ∧ Fld Z h c0 "com/example/meter/meter/store/Spans" "droppedTotal" "J" (.long y6) ∧ Fld Z h c0 "com/example/meter/meter/store/Spans" "end" "I" (.int (3 : Int32)) ∧ Fld Z h c0 "com/example/meter/meter/store/Spans" "firsts" "[J" (.ref c1) ∧ Fld Z h c0 "com/example/meter/meter/store/Spans" "head" "I" (.int (3 : Int32)) ∧ Fld Z h c0 "com/example/meter/meter/store/Spans" "lasts" "[J" (.ref c2) ∧ Fld Z h c0 "com/example/meter/meter/store/Spans" "totals" "[J" (.ref c3) ∧ Arv Z h c1 k_c1 .long (16 : Int32) [(.long y1), (.long y2), (.long y3), (.long (0 : Int64))] (.long (0 : Int64)) ∧ Arv Z h c2 k_c2 .long (16 : Int32) [(.long y1), (.long y2), (.long y3), (.long (0 : Int64))] (.long (0 : Int64)) ∧ Arv Z h c3 k_c3 .long (16 : Int32) [(.long y4), (.long y5), (.long y6), (.long (0 : Int64))] (.long (0 : Int64))
set_option maxRecDepth 65536 in
set_option maxHeartbeats 40000000 in
theorem rm8_55 (l : Launch) (Z : State) (a0 : Array Value) (hw : ∀ d ∈ tables_1, d.before a0 Z = true) (ws : List Jvm.Cond) (w_NONE k_NONE : Addr) (W : own_W Z w_NONE k_NONE) (c0 : Addr) (c1 : Addr) (k_c1 : ClassId) (c2 : Addr) (k_c2 : ClassId) (c3 : Addr) (k_c3 : ClassId) (y0 : Int64) (y1 : Int64) (y2 : Int64) (y3 : Int64) (y4 : Int64) (y5 : Int64) (y6 : Int64) (h0 : Heap) (n0 : Nat) (O0 : Old Z n0 h0) (E_c0 : Exa Z h0 c0 "com/example/meter/meter/store/Spans") (F_c0_droppedTotal : Fld Z h0 c0 "com/example/meter/meter/store/Spans" "droppedTotal" "J" (.long (0 : Int64))) (F_c0_end : Fld Z h0 c0 "com/example/meter/meter/store/Spans" "end" "I" (.int (3 : Int32))) (F_c0_firsts : Fld Z h0 c0 "com/example/meter/meter/store/Spans" "firsts" "[J" (.ref c1)) (F_c0_head : Fld Z h0 c0 "com/example/meter/meter/store/Spans" "head" "I" (.int (0 : Int32))) (F_c0_lasts : Fld Z h0 c0 "com/example/meter/meter/store/Spans" "lasts" "[J" (.ref c2)) (F_c0_totals : Fld Z h0 c0 "com/example/meter/meter/store/Spans" "totals" "[J" (.ref c3)) (n_c0 : n0 ≤ c0) (V_c1 : Arv Z h0 c1 k_c1 .long (16 : Int32) [(.long y1), (.long y2), (.long y3), (.long (0 : Int64))] (.long (0 : Int64))) (n_c1 : n0 ≤ c1) (V_c2 : Arv Z h0 c2 k_c2 .long (16 : Int32) [(.long y1), (.long y2), (.long y3), (.long (0 : Int64))] (.long (0 : Int64))) (n_c2 : n0 ≤ c2) (V_c3 : Arv Z h0 c3 k_c3 .long (16 : Int32) [(.long y4), (.long y5), (.long y6), (.long (0 : Int64))] (.long (0 : Int64))) (n_c3 : n0 ≤ c3) (ne_c0_c1 : c0 ≠ c1) (ne_c0_c2 : c0 ≠ c2) (ne_c0_c3 : c0 ≠ c3) (ne_c1_c2 : c1 ≠ c2) (ne_c1_c3 : c1 ≠ c3) (ne_c2_c3 : c2 ≠ c3) (hc281 : ¬ (y0 < y1)) (hc291 : ¬ (y0 < y2)) (hc301 : ¬ (y0 < y3)) :
    MetFree l (⟨"com/example/meter/meter/store/Spans", "dropThrough", "(J)V"⟩ : MethodName) (head1 (Jvm.Cond.code (⟨"com/example/meter/meter/store/Spans", "dropThrough", "(J)V"⟩ : MethodName) prog_11_method_10_code 3 none :: ws) ({ frames := 0, cells := 0, slots := 0, locals := 0 } : Room)) (fun a U => a = #[(.ref c0), (.long y0)] ∧ Z.Warmed39 U.vm ∧ U.heap = h0) (fun _ _ _ _ _ => True) (fun _ U o U' => ∃ v L, o = .returned v ∧ Q_rm8_55 Z w_NONE k_NONE c0 c1 k_c1 c2 k_c2 c3 k_c3 y0 y1 y2 y3 y4 y5 y6 h0 n0 v U'.heap L ∧ FrameEnd U o U' L ({ frames := 0, cells := 0, slots := 0, locals := 0 } : Room).cells ({ frames := 0, cells := 0, slots := 0, locals := 0 } : Room).slots) := by
  refine MetFree.of_bodySF (plainFor_of_name pn_0) hisR ?_
  intro p e s m args below meth c s₁ Bd hml0 hP hK
  obtain ⟨rfl, hZ, hh⟩ := hP
  have hx := Bd.exec
  have hby := Bd.bytes
  have hml : c.maxLocals = 3 := hml0
  have hlk := BodyLoose.notSynchronized Bd
  have hret := Bd.returns
  have hown : s.vm.findClass "com/example/meter/meter/store/Spans" = some m.cls := findClass_of_methodNamed Bd.named
  have hnm := (name_of_methodNamed Bd.named Bd.method).1
  have X0 : Stand p l e ({ frames := 0, cells := 0, slots := 0, locals := 0 } : Room) s m #[(.ref c0), (.long y0)] below meth c s₁ [] 0 0 := Stand.of_body Bd
  have e0 : s₁.heap = h0 := by rw [← hh, Bd.state]; rfl
  have N0 := Fr.nil n0
  rw [ef_8 m c0 y0]
  show Go p e below _ (s₁.setTop (mkF m 0 #[oA c0, oJ y0, oS] []))
  refine own_aload_n 1 X0 hx hby d8_0 rfl rfl rfl ?_
  refine own_getF 4 X0 hx hby hZ hown (own_w hw 32 rfl) e0 F_c0_head d8_1 rfl ?_
  intro T277 X277 e277
  refine own_aload_n 5 X277 hx hby d8_4 rfl rfl rfl ?_
  refine own_getF 8 X277 hx hby hZ hown (own_w hw 26 rfl) e277 F_c0_end d8_5 rfl ?_
  intro T278 X278 e278
  refine own_icN 11 X278 hx hby d8_8 rfl (by decide) ?_
  refine own_aload_n 12 X278 hx hby d8_11 rfl rfl rfl ?_
  refine own_getF 15 X278 hx hby hZ hown (own_w hw 17 rfl) e278 F_c0_lasts d8_12 rfl ?_
  intro T279 X279 e279
  refine own_aload_n 16 X279 hx hby d8_15 rfl rfl rfl ?_
  refine own_getF 19 X279 hx hby hZ hown (own_w hw 32 rfl) e279 F_c0_head d8_16 rfl ?_
  intro T280 X280 e280
  refine own_laload 20 (.long y1) X280 hx hby hZ e280 V_c2 d8_19 rfl (by decide) rfl ?_
  refine own_lload_n 21 X280 hx hby d8_20 rfl rfl ?_
  refine own_lcmp 22 (XT.cmpL y1 y0) X280 hx hby d8_21 rfl rfl ?_
  refine own_ifN 25 X280 hx hby d8_22 rfl (own_fltL hc281).2.2.1 ?_
  refine own_aload_n 26 X280 hx hby d8_25 rfl rfl rfl ?_
  refine own_aload_n 27 X280 hx hby d8_26 rfl rfl rfl ?_
  refine own_getF 30 X280 hx hby hZ hown (own_w hw 19 rfl) e280 F_c0_totals d8_27 rfl ?_
  intro T282 X282 e282
  refine own_aload_n 31 X282 hx hby d8_30 rfl rfl rfl ?_
  refine own_getF 34 X282 hx hby hZ hown (own_w hw 32 rfl) e282 F_c0_head d8_31 rfl ?_
  intro T283 X283 e283
  refine own_laload 35 (.long y4) X283 hx hby hZ e283 V_c3 d8_34 rfl (by decide) rfl ?_
  refine own_putF 38 X283 hx hby hZ .long hown (own_w hw 51 rfl) e283 F_c0_droppedTotal E_c0 (Or.inl (own_w hw 52 rfl)) (own_w hw 5 rfl) (by decide) rfl rfl d8_35 rfl ?_
  intro T284 h284 X284 e284 W284
  have E_c0_284 := E_c0.wr W284
  have F_c0_droppedTotal_284 := F_c0_droppedTotal.same W284
  have F_c0_end_284 := F_c0_end.other W284 (Or.inr (slot_ne (Or.inl (own_w hw 27 rfl)) (Or.inl (own_w hw 52 rfl)) (by decide) (t := .int) (t' := .long) (by decide) (by decide)))
  have F_c0_firsts_284 := F_c0_firsts.other W284 (Or.inr (slot_ne (Or.inl (own_w hw 16 rfl)) (Or.inl (own_w hw 52 rfl)) (by decide) (t := (.array .long)) (t' := .long) (by decide) (by decide)))
  have F_c0_head_284 := F_c0_head.other W284 (Or.inr (slot_ne (Or.inl (own_w hw 33 rfl)) (Or.inl (own_w hw 52 rfl)) (by decide) (t := .int) (t' := .long) (by decide) (by decide)))
  have F_c0_lasts_284 := F_c0_lasts.other W284 (Or.inr (slot_ne (Or.inl (own_w hw 18 rfl)) (Or.inl (own_w hw 52 rfl)) (by decide) (t := (.array .long)) (t' := .long) (by decide) (by decide)))
  have F_c0_totals_284 := F_c0_totals.other W284 (Or.inr (slot_ne (Or.inl (own_w hw 20 rfl)) (Or.inl (own_w hw 52 rfl)) (by decide) (t := (.array .long)) (t' := .long) (by decide) (by decide)))
  have V_c1_284 := V_c1.other W284 (Ne.symm ne_c0_c1)
  have V_c2_284 := V_c2.other W284 (Ne.symm ne_c0_c2)
  have V_c3_284 := V_c3.other W284 (Ne.symm ne_c0_c3)
  have K284 : Keep h0 h284 [c0] := (Keep.refl h0 [c0]).wr W284 (Or.inl (List.mem_of_getElem? (i := 0) rfl))
  have O284 := O0.wr W284 n_c0
  have N284 := Fr.snoc X284 N0 n_c0
  refine own_aload_n 39 X284 hx hby d8_38 rfl rfl rfl ?_
  refine own_dup 40 X284 hx hby d8_39 rfl rfl ?_
  refine own_getF 43 X284 hx hby hZ hown (own_w hw 32 rfl) e284 F_c0_head_284 d8_40 rfl ?_
  intro T285 X285 e285
  refine own_iconst 44 (1 : Int32) X285 hx hby d8_43 rfl (by decide) ?_
  refine own_iadd 45 (1 : Int32) X285 hx hby d8_44 rfl (by decide) ?_
  refine own_putF 48 X285 hx hby hZ .int hown (own_w hw 32 rfl) e285 F_c0_head_284 E_c0_284 (Or.inl (own_w hw 33 rfl)) (own_w hw 5 rfl) (by decide) rfl rfl d8_45 rfl ?_
  intro T286 h286 X286 e286 W286
  have E_c0_286 := E_c0_284.wr W286
  have F_c0_droppedTotal_286 := F_c0_droppedTotal_284.other W286 (Or.inr (slot_ne (Or.inl (own_w hw 52 rfl)) (Or.inl (own_w hw 33 rfl)) (by decide) (t := .long) (t' := .int) (by decide) (by decide)))
  have F_c0_end_286 := F_c0_end_284.other W286 (Or.inr (slot_ne (Or.inl (own_w hw 27 rfl)) (Or.inl (own_w hw 33 rfl)) (by decide) (t := .int) (t' := .int) (by decide) (by decide)))
  have F_c0_firsts_286 := F_c0_firsts_284.other W286 (Or.inr (slot_ne (Or.inl (own_w hw 16 rfl)) (Or.inl (own_w hw 33 rfl)) (by decide) (t := (.array .long)) (t' := .int) (by decide) (by decide)))
  have F_c0_head_286 := F_c0_head_284.same W286
  have F_c0_lasts_286 := F_c0_lasts_284.other W286 (Or.inr (slot_ne (Or.inl (own_w hw 18 rfl)) (Or.inl (own_w hw 33 rfl)) (by decide) (t := (.array .long)) (t' := .int) (by decide) (by decide)))
  have F_c0_totals_286 := F_c0_totals_284.other W286 (Or.inr (slot_ne (Or.inl (own_w hw 20 rfl)) (Or.inl (own_w hw 33 rfl)) (by decide) (t := (.array .long)) (t' := .int) (by decide) (by decide)))
  have V_c1_286 := V_c1_284.other W286 (Ne.symm ne_c0_c1)
  have V_c2_286 := V_c2_284.other W286 (Ne.symm ne_c0_c2)
  have V_c3_286 := V_c3_284.other W286 (Ne.symm ne_c0_c3)
  have K286 : Keep h0 h286 [c0] := K284.wr W286 (Or.inl (List.mem_of_getElem? (i := 0) rfl))
  have O286 := O284.wr W286 n_c0
  have N286 := Fr.snoc X286 N284 n_c0
  refine own_goto 0 X286 hx hby d8_48 (by decide) (by decide) ?_
  refine own_aload_n 1 X286 hx hby d8_0 rfl rfl rfl ?_
  refine own_getF 4 X286 hx hby hZ hown (own_w hw 32 rfl) e286 F_c0_head_286 d8_1 rfl ?_
  intro T287 X287 e287
  refine own_aload_n 5 X287 hx hby d8_4 rfl rfl rfl ?_
  refine own_getF 8 X287 hx hby hZ hown (own_w hw 26 rfl) e287 F_c0_end_286 d8_5 rfl ?_
  intro T288 X288 e288
  refine own_icN 11 X288 hx hby d8_8 rfl (by decide) ?_
  refine own_aload_n 12 X288 hx hby d8_11 rfl rfl rfl ?_
  refine own_getF 15 X288 hx hby hZ hown (own_w hw 17 rfl) e288 F_c0_lasts_286 d8_12 rfl ?_
  intro T289 X289 e289
  refine own_aload_n 16 X289 hx hby d8_15 rfl rfl rfl ?_
  refine own_getF 19 X289 hx hby hZ hown (own_w hw 32 rfl) e289 F_c0_head_286 d8_16 rfl ?_
  intro T290 X290 e290
  refine own_laload 20 (.long y2) X290 hx hby hZ e290 V_c2_286 d8_19 rfl (by decide) rfl ?_
  refine own_lload_n 21 X290 hx hby d8_20 rfl rfl ?_
  refine own_lcmp 22 (XT.cmpL y2 y0) X290 hx hby d8_21 rfl rfl ?_
  refine own_ifN 25 X290 hx hby d8_22 rfl (own_fltL hc291).2.2.1 ?_
  refine own_aload_n 26 X290 hx hby d8_25 rfl rfl rfl ?_
  refine own_aload_n 27 X290 hx hby d8_26 rfl rfl rfl ?_
  refine own_getF 30 X290 hx hby hZ hown (own_w hw 19 rfl) e290 F_c0_totals_286 d8_27 rfl ?_
  intro T292 X292 e292
  refine own_aload_n 31 X292 hx hby d8_30 rfl rfl rfl ?_
  refine own_getF 34 X292 hx hby hZ hown (own_w hw 32 rfl) e292 F_c0_head_286 d8_31 rfl ?_
  intro T293 X293 e293
  refine own_laload 35 (.long y5) X293 hx hby hZ e293 V_c3_286 d8_34 rfl (by decide) rfl ?_
  refine own_putF 38 X293 hx hby hZ .long hown (own_w hw 51 rfl) e293 F_c0_droppedTotal_286 E_c0_286 (Or.inl (own_w hw 52 rfl)) (own_w hw 5 rfl) (by decide) rfl rfl d8_35 rfl ?_
  intro T294 h294 X294 e294 W294
  have E_c0_294 := E_c0_286.wr W294
  have F_c0_droppedTotal_294 := F_c0_droppedTotal_286.same W294
  have F_c0_end_294 := F_c0_end_286.other W294 (Or.inr (slot_ne (Or.inl (own_w hw 27 rfl)) (Or.inl (own_w hw 52 rfl)) (by decide) (t := .int) (t' := .long) (by decide) (by decide)))
  have F_c0_firsts_294 := F_c0_firsts_286.other W294 (Or.inr (slot_ne (Or.inl (own_w hw 16 rfl)) (Or.inl (own_w hw 52 rfl)) (by decide) (t := (.array .long)) (t' := .long) (by decide) (by decide)))
  have F_c0_head_294 := F_c0_head_286.other W294 (Or.inr (slot_ne (Or.inl (own_w hw 33 rfl)) (Or.inl (own_w hw 52 rfl)) (by decide) (t := .int) (t' := .long) (by decide) (by decide)))
  have F_c0_lasts_294 := F_c0_lasts_286.other W294 (Or.inr (slot_ne (Or.inl (own_w hw 18 rfl)) (Or.inl (own_w hw 52 rfl)) (by decide) (t := (.array .long)) (t' := .long) (by decide) (by decide)))
  have F_c0_totals_294 := F_c0_totals_286.other W294 (Or.inr (slot_ne (Or.inl (own_w hw 20 rfl)) (Or.inl (own_w hw 52 rfl)) (by decide) (t := (.array .long)) (t' := .long) (by decide) (by decide)))
  have V_c1_294 := V_c1_286.other W294 (Ne.symm ne_c0_c1)
  have V_c2_294 := V_c2_286.other W294 (Ne.symm ne_c0_c2)
  have V_c3_294 := V_c3_286.other W294 (Ne.symm ne_c0_c3)
  have K294 : Keep h0 h294 [c0] := K286.wr W294 (Or.inl (List.mem_of_getElem? (i := 0) rfl))
  have O294 := O286.wr W294 n_c0
  have N294 := Fr.snoc X294 N286 n_c0
  refine own_aload_n 39 X294 hx hby d8_38 rfl rfl rfl ?_
  refine own_dup 40 X294 hx hby d8_39 rfl rfl ?_
  refine own_getF 43 X294 hx hby hZ hown (own_w hw 32 rfl) e294 F_c0_head_294 d8_40 rfl ?_
  intro T295 X295 e295
  refine own_iconst 44 (1 : Int32) X295 hx hby d8_43 rfl (by decide) ?_
  refine own_iadd 45 (2 : Int32) X295 hx hby d8_44 rfl (by decide) ?_
  refine own_putF 48 X295 hx hby hZ .int hown (own_w hw 32 rfl) e295 F_c0_head_294 E_c0_294 (Or.inl (own_w hw 33 rfl)) (own_w hw 5 rfl) (by decide) rfl rfl d8_45 rfl ?_
  intro T296 h296 X296 e296 W296
  have E_c0_296 := E_c0_294.wr W296
  have F_c0_droppedTotal_296 := F_c0_droppedTotal_294.other W296 (Or.inr (slot_ne (Or.inl (own_w hw 52 rfl)) (Or.inl (own_w hw 33 rfl)) (by decide) (t := .long) (t' := .int) (by decide) (by decide)))
  have F_c0_end_296 := F_c0_end_294.other W296 (Or.inr (slot_ne (Or.inl (own_w hw 27 rfl)) (Or.inl (own_w hw 33 rfl)) (by decide) (t := .int) (t' := .int) (by decide) (by decide)))
  have F_c0_firsts_296 := F_c0_firsts_294.other W296 (Or.inr (slot_ne (Or.inl (own_w hw 16 rfl)) (Or.inl (own_w hw 33 rfl)) (by decide) (t := (.array .long)) (t' := .int) (by decide) (by decide)))
  have F_c0_head_296 := F_c0_head_294.same W296
  have F_c0_lasts_296 := F_c0_lasts_294.other W296 (Or.inr (slot_ne (Or.inl (own_w hw 18 rfl)) (Or.inl (own_w hw 33 rfl)) (by decide) (t := (.array .long)) (t' := .int) (by decide) (by decide)))
  have F_c0_totals_296 := F_c0_totals_294.other W296 (Or.inr (slot_ne (Or.inl (own_w hw 20 rfl)) (Or.inl (own_w hw 33 rfl)) (by decide) (t := (.array .long)) (t' := .int) (by decide) (by decide)))
  have V_c1_296 := V_c1_294.other W296 (Ne.symm ne_c0_c1)
  have V_c2_296 := V_c2_294.other W296 (Ne.symm ne_c0_c2)
  have V_c3_296 := V_c3_294.other W296 (Ne.symm ne_c0_c3)
  have K296 : Keep h0 h296 [c0] := K294.wr W296 (Or.inl (List.mem_of_getElem? (i := 0) rfl))
  have O296 := O294.wr W296 n_c0
  have N296 := Fr.snoc X296 N294 n_c0
  refine own_goto 0 X296 hx hby d8_48 (by decide) (by decide) ?_
  refine own_aload_n 1 X296 hx hby d8_0 rfl rfl rfl ?_
  refine own_getF 4 X296 hx hby hZ hown (own_w hw 32 rfl) e296 F_c0_head_296 d8_1 rfl ?_
  intro T297 X297 e297
  refine own_aload_n 5 X297 hx hby d8_4 rfl rfl rfl ?_
  refine own_getF 8 X297 hx hby hZ hown (own_w hw 26 rfl) e297 F_c0_end_296 d8_5 rfl ?_
  intro T298 X298 e298
  refine own_icN 11 X298 hx hby d8_8 rfl (by decide) ?_
  refine own_aload_n 12 X298 hx hby d8_11 rfl rfl rfl ?_
  refine own_getF 15 X298 hx hby hZ hown (own_w hw 17 rfl) e298 F_c0_lasts_296 d8_12 rfl ?_
  intro T299 X299 e299
  refine own_aload_n 16 X299 hx hby d8_15 rfl rfl rfl ?_
  refine own_getF 19 X299 hx hby hZ hown (own_w hw 32 rfl) e299 F_c0_head_296 d8_16 rfl ?_
  intro T300 X300 e300
  refine own_laload 20 (.long y3) X300 hx hby hZ e300 V_c2_296 d8_19 rfl (by decide) rfl ?_
  refine own_lload_n 21 X300 hx hby d8_20 rfl rfl ?_
  refine own_lcmp 22 (XT.cmpL y3 y0) X300 hx hby d8_21 rfl rfl ?_
  refine own_ifN 25 X300 hx hby d8_22 rfl (own_fltL hc301).2.2.1 ?_
  refine own_aload_n 26 X300 hx hby d8_25 rfl rfl rfl ?_
  refine own_aload_n 27 X300 hx hby d8_26 rfl rfl rfl ?_
  refine own_getF 30 X300 hx hby hZ hown (own_w hw 19 rfl) e300 F_c0_totals_296 d8_27 rfl ?_
  intro T302 X302 e302
  refine own_aload_n 31 X302 hx hby d8_30 rfl rfl rfl ?_
  refine own_getF 34 X302 hx hby hZ hown (own_w hw 32 rfl) e302 F_c0_head_296 d8_31 rfl ?_
  intro T303 X303 e303
  refine own_laload 35 (.long y6) X303 hx hby hZ e303 V_c3_296 d8_34 rfl (by decide) rfl ?_
  refine own_putF 38 X303 hx hby hZ .long hown (own_w hw 51 rfl) e303 F_c0_droppedTotal_296 E_c0_296 (Or.inl (own_w hw 52 rfl)) (own_w hw 5 rfl) (by decide) rfl rfl d8_35 rfl ?_
  intro T304 h304 X304 e304 W304
  have E_c0_304 := E_c0_296.wr W304
  have F_c0_droppedTotal_304 := F_c0_droppedTotal_296.same W304
  have F_c0_end_304 := F_c0_end_296.other W304 (Or.inr (slot_ne (Or.inl (own_w hw 27 rfl)) (Or.inl (own_w hw 52 rfl)) (by decide) (t := .int) (t' := .long) (by decide) (by decide)))
  have F_c0_firsts_304 := F_c0_firsts_296.other W304 (Or.inr (slot_ne (Or.inl (own_w hw 16 rfl)) (Or.inl (own_w hw 52 rfl)) (by decide) (t := (.array .long)) (t' := .long) (by decide) (by decide)))
  have F_c0_head_304 := F_c0_head_296.other W304 (Or.inr (slot_ne (Or.inl (own_w hw 33 rfl)) (Or.inl (own_w hw 52 rfl)) (by decide) (t := .int) (t' := .long) (by decide) (by decide)))
  have F_c0_lasts_304 := F_c0_lasts_296.other W304 (Or.inr (slot_ne (Or.inl (own_w hw 18 rfl)) (Or.inl (own_w hw 52 rfl)) (by decide) (t := (.array .long)) (t' := .long) (by decide) (by decide)))
  have F_c0_totals_304 := F_c0_totals_296.other W304 (Or.inr (slot_ne (Or.inl (own_w hw 20 rfl)) (Or.inl (own_w hw 52 rfl)) (by decide) (t := (.array .long)) (t' := .long) (by decide) (by decide)))
  have V_c1_304 := V_c1_296.other W304 (Ne.symm ne_c0_c1)
  have V_c2_304 := V_c2_296.other W304 (Ne.symm ne_c0_c2)
  have V_c3_304 := V_c3_296.other W304 (Ne.symm ne_c0_c3)
  have K304 : Keep h0 h304 [c0] := K296.wr W304 (Or.inl (List.mem_of_getElem? (i := 0) rfl))
  have O304 := O296.wr W304 n_c0
  have N304 := Fr.snoc X304 N296 n_c0
  refine own_aload_n 39 X304 hx hby d8_38 rfl rfl rfl ?_
  refine own_dup 40 X304 hx hby d8_39 rfl rfl ?_
  refine own_getF 43 X304 hx hby hZ hown (own_w hw 32 rfl) e304 F_c0_head_304 d8_40 rfl ?_
  intro T305 X305 e305
  refine own_iconst 44 (1 : Int32) X305 hx hby d8_43 rfl (by decide) ?_
  refine own_iadd 45 (3 : Int32) X305 hx hby d8_44 rfl (by decide) ?_
  refine own_putF 48 X305 hx hby hZ .int hown (own_w hw 32 rfl) e305 F_c0_head_304 E_c0_304 (Or.inl (own_w hw 33 rfl)) (own_w hw 5 rfl) (by decide) rfl rfl d8_45 rfl ?_
  intro T306 h306 X306 e306 W306
  have E_c0_306 := E_c0_304.wr W306
  have F_c0_droppedTotal_306 := F_c0_droppedTotal_304.other W306 (Or.inr (slot_ne (Or.inl (own_w hw 52 rfl)) (Or.inl (own_w hw 33 rfl)) (by decide) (t := .long) (t' := .int) (by decide) (by decide)))
  have F_c0_end_306 := F_c0_end_304.other W306 (Or.inr (slot_ne (Or.inl (own_w hw 27 rfl)) (Or.inl (own_w hw 33 rfl)) (by decide) (t := .int) (t' := .int) (by decide) (by decide)))
  have F_c0_firsts_306 := F_c0_firsts_304.other W306 (Or.inr (slot_ne (Or.inl (own_w hw 16 rfl)) (Or.inl (own_w hw 33 rfl)) (by decide) (t := (.array .long)) (t' := .int) (by decide) (by decide)))
  have F_c0_head_306 := F_c0_head_304.same W306
  have F_c0_lasts_306 := F_c0_lasts_304.other W306 (Or.inr (slot_ne (Or.inl (own_w hw 18 rfl)) (Or.inl (own_w hw 33 rfl)) (by decide) (t := (.array .long)) (t' := .int) (by decide) (by decide)))
  have F_c0_totals_306 := F_c0_totals_304.other W306 (Or.inr (slot_ne (Or.inl (own_w hw 20 rfl)) (Or.inl (own_w hw 33 rfl)) (by decide) (t := (.array .long)) (t' := .int) (by decide) (by decide)))
  have V_c1_306 := V_c1_304.other W306 (Ne.symm ne_c0_c1)
  have V_c2_306 := V_c2_304.other W306 (Ne.symm ne_c0_c2)
  have V_c3_306 := V_c3_304.other W306 (Ne.symm ne_c0_c3)
  have K306 : Keep h0 h306 [c0] := K304.wr W306 (Or.inl (List.mem_of_getElem? (i := 0) rfl))
  have O306 := O304.wr W306 n_c0
  have N306 := Fr.snoc X306 N304 n_c0
  refine own_goto 0 X306 hx hby d8_48 (by decide) (by decide) ?_
  refine own_aload_n 1 X306 hx hby d8_0 rfl rfl rfl ?_
  refine own_getF 4 X306 hx hby hZ hown (own_w hw 32 rfl) e306 F_c0_head_306 d8_1 rfl ?_
  intro T307 X307 e307
  refine own_aload_n 5 X307 hx hby d8_4 rfl rfl rfl ?_
  refine own_getF 8 X307 hx hby hZ hown (own_w hw 26 rfl) e307 F_c0_end_306 d8_5 rfl ?_
  intro T308 X308 e308
  refine own_icY 51 X308 hx hby d8_8 (by decide) (by decide) (by decide) ?_
  exact own_ret0 (Q := Q_rm8_55 Z w_NONE k_NONE c0 c1 k_c1 c2 k_c2 c3 k_c3 y0 y1 y2 y3 y4 y5 y6 h0 n0) X308 hx hby hret hlk d8_51 (by decide) (by decide) (by rw [e308]; exact ⟨rfl, N306, K306, E_c0_306, F_c0_droppedTotal_306, F_c0_end_306, F_c0_firsts_306, F_c0_head_306, F_c0_lasts_306, F_c0_totals_306, V_c1_306, V_c2_306, V_c3_306⟩)
set_option maxRecDepth 65536 in
set_option maxHeartbeats 40000000 in
theorem rm9_56 (l : Launch) (Z : State) (a0 : Array Value) (hw : ∀ d ∈ tables_1, d.before a0 Z = true) (ws : List Jvm.Cond) (w_NONE k_NONE : Addr) (W : own_W Z w_NONE k_NONE) (c0 : Addr) (c1 : Addr) (k_c1 : ClassId) (c2 : Addr) (k_c2 : ClassId) (c3 : Addr) (k_c3 : ClassId) (y0 : Int64) (y1 : Int64) (y2 : Int64) (y3 : Int64) (y4 : Int64) (y5 : Int64) (h0 : Heap) (n0 : Nat) (O0 : Old Z n0 h0) (E_c0 : Exa Z h0 c0 "com/example/meter/meter/store/Spans") (F_c0_droppedTotal : Fld Z h0 c0 "com/example/meter/meter/store/Spans" "droppedTotal" "J" (.long (0 : Int64))) (F_c0_end : Fld Z h0 c0 "com/example/meter/meter/store/Spans" "end" "I" (.int (3 : Int32))) (F_c0_firsts : Fld Z h0 c0 "com/example/meter/meter/store/Spans" "firsts" "[J" (.ref c1)) (F_c0_head : Fld Z h0 c0 "com/example/meter/meter/store/Spans" "head" "I" (.int (0 : Int32))) (F_c0_lasts : Fld Z h0 c0 "com/example/meter/meter/store/Spans" "lasts" "[J" (.ref c2)) (F_c0_totals : Fld Z h0 c0 "com/example/meter/meter/store/Spans" "totals" "[J" (.ref c3)) (n_c0 : n0 ≤ c0) (V_c1 : Arv Z h0 c1 k_c1 .long (16 : Int32) [(.long y0), (.long y1), (.long y2), (.long (0 : Int64))] (.long (0 : Int64))) (n_c1 : n0 ≤ c1) (V_c2 : Arv Z h0 c2 k_c2 .long (16 : Int32) [(.long y0), (.long y1), (.long y2), (.long (0 : Int64))] (.long (0 : Int64))) (n_c2 : n0 ≤ c2) (V_c3 : Arv Z h0 c3 k_c3 .long (16 : Int32) [(.long y3), (.long y4), (.long y5), (.long (0 : Int64))] (.long (0 : Int64))) (n_c3 : n0 ≤ c3) (ne_c0_c1 : c0 ≠ c1) (ne_c0_c2 : c0 ≠ c2) (ne_c0_c3 : c0 ≠ c3) (ne_c1_c2 : c1 ≠ c2) (ne_c1_c3 : c1 ≠ c3) (ne_c2_c3 : c2 ≠ c3) :
    MetFree l (⟨"com/example/meter/meter/store/Spans", "size", "()I"⟩ : MethodName) (head1 (Jvm.Cond.code (⟨"com/example/meter/meter/store/Spans", "size", "()I"⟩ : MethodName) prog_11_method_5_code 1 (some .int) :: ws) ({ frames := 0, cells := 0, slots := 0, locals := 0 } : Room)) (fun a U => a = #[(.ref c0)] ∧ Z.Warmed39 U.vm ∧ U.heap = h0) (fun _ _ _ _ _ => True) (fun _ U o U' => ∃ v L, o = .returned v ∧ own_Q (some (.int (3 : Int32))) n0 h0 v U'.heap L ∧ FrameEnd U o U' L ({ frames := 0, cells := 0, slots := 0, locals := 0 } : Room).cells ({ frames := 0, cells := 0, slots := 0, locals := 0 } : Room).slots) := by
  refine MetFree.of_bodySF (plainFor_of_name pn_0) hisR ?_
  intro p e s m args below meth c s₁ Bd hml0 hP hK
  obtain ⟨rfl, hZ, hh⟩ := hP
  have hx := Bd.exec
  have hby := Bd.bytes
  have hml : c.maxLocals = 1 := hml0
  have hlk := BodyLoose.notSynchronized Bd
  have hret := Bd.returns
  have hown : s.vm.findClass "com/example/meter/meter/store/Spans" = some m.cls := findClass_of_methodNamed Bd.named
  have hnm := (name_of_methodNamed Bd.named Bd.method).1
  have X0 : Stand p l e ({ frames := 0, cells := 0, slots := 0, locals := 0 } : Room) s m #[(.ref c0)] below meth c s₁ [] 0 0 := Stand.of_body Bd
  have e0 : s₁.heap = h0 := by rw [← hh, Bd.state]; rfl
  have N0 := Fr.nil n0
  rw [ef_9 m c0]
  show Go p e below _ (s₁.setTop (mkF m 0 #[oA c0] []))
  refine own_aload_n 1 X0 hx hby d9_0 rfl rfl rfl ?_
  refine own_getF 4 X0 hx hby hZ hown (own_w hw 26 rfl) e0 F_c0_end d9_1 rfl ?_
  intro T314 X314 e314
  refine own_aload_n 5 X314 hx hby d9_4 rfl rfl rfl ?_
  refine own_getF 8 X314 hx hby hZ hown (own_w hw 32 rfl) e314 F_c0_head d9_5 rfl ?_
  intro T315 X315 e315
  refine own_isub 9 (3 : Int32) X315 hx hby d9_8 rfl (by decide) ?_
  exact own_ret (Q := own_Q (some (.int (3 : Int32))) n0 h0) X315 hx hby hret hlk d9_9 rfl (Or.inl ⟨rfl, by simp, _, rfl⟩) (by decide) (by decide) ⟨rfl, N0, e315⟩
set_option maxRecDepth 65536 in
set_option maxHeartbeats 40000000 in
theorem rm7_57 (l : Launch) (Z : State) (a0 : Array Value) (hw : ∀ d ∈ tables_1, d.before a0 Z = true) (ws : List Jvm.Cond) (w_NONE k_NONE : Addr) (W : own_W Z w_NONE k_NONE) (c0 : Addr) (c1 : Addr) (k_c1 : ClassId) (c2 : Addr) (k_c2 : ClassId) (c3 : Addr) (k_c3 : ClassId) (y0 : Int64) (y1 : Int64) (y2 : Int64) (y3 : Int64) (y4 : Int64) (y5 : Int64) (h0 : Heap) (n0 : Nat) (O0 : Old Z n0 h0) (E_c0 : Exa Z h0 c0 "com/example/meter/meter/store/Spans") (F_c0_droppedTotal : Fld Z h0 c0 "com/example/meter/meter/store/Spans" "droppedTotal" "J" (.long (0 : Int64))) (F_c0_end : Fld Z h0 c0 "com/example/meter/meter/store/Spans" "end" "I" (.int (3 : Int32))) (F_c0_firsts : Fld Z h0 c0 "com/example/meter/meter/store/Spans" "firsts" "[J" (.ref c1)) (F_c0_head : Fld Z h0 c0 "com/example/meter/meter/store/Spans" "head" "I" (.int (0 : Int32))) (F_c0_lasts : Fld Z h0 c0 "com/example/meter/meter/store/Spans" "lasts" "[J" (.ref c2)) (F_c0_totals : Fld Z h0 c0 "com/example/meter/meter/store/Spans" "totals" "[J" (.ref c3)) (n_c0 : n0 ≤ c0) (V_c1 : Arv Z h0 c1 k_c1 .long (16 : Int32) [(.long y0), (.long y1), (.long y2), (.long (0 : Int64))] (.long (0 : Int64))) (n_c1 : n0 ≤ c1) (V_c2 : Arv Z h0 c2 k_c2 .long (16 : Int32) [(.long y0), (.long y1), (.long y2), (.long (0 : Int64))] (.long (0 : Int64))) (n_c2 : n0 ≤ c2) (V_c3 : Arv Z h0 c3 k_c3 .long (16 : Int32) [(.long y3), (.long y4), (.long y5), (.long (0 : Int64))] (.long (0 : Int64))) (n_c3 : n0 ≤ c3) (ne_c0_c1 : c0 ≠ c1) (ne_c0_c2 : c0 ≠ c2) (ne_c0_c3 : c0 ≠ c3) (ne_c1_c2 : c1 ≠ c2) (ne_c1_c3 : c1 ≠ c3) (ne_c2_c3 : c2 ≠ c3) :
    MetFree l (⟨"com/example/meter/meter/store/Spans", "totalBefore", "(I)J"⟩ : MethodName) (head1 (Jvm.Cond.code (⟨"com/example/meter/meter/store/Spans", "totalBefore", "(I)J"⟩ : MethodName) prog_11_method_14_code 2 (some .long) :: ws) ({ frames := 0, cells := 0, slots := 0, locals := 0 } : Room)) (fun a U => a = #[(.ref c0), (.int (3 : Int32))] ∧ Z.Warmed39 U.vm ∧ U.heap = h0) (fun _ _ _ _ _ => True) (fun _ U o U' => ∃ v L, o = .returned v ∧ own_Q (some (.long y5)) n0 h0 v U'.heap L ∧ FrameEnd U o U' L ({ frames := 0, cells := 0, slots := 0, locals := 0 } : Room).cells ({ frames := 0, cells := 0, slots := 0, locals := 0 } : Room).slots) := by
  refine MetFree.of_bodySF (plainFor_of_name pn_0) hisR ?_
  intro p e s m args below meth c s₁ Bd hml0 hP hK
  obtain ⟨rfl, hZ, hh⟩ := hP
  have hx := Bd.exec
  have hby := Bd.bytes
  have hml : c.maxLocals = 2 := hml0
  have hlk := BodyLoose.notSynchronized Bd
  have hret := Bd.returns
  have hown : s.vm.findClass "com/example/meter/meter/store/Spans" = some m.cls := findClass_of_methodNamed Bd.named
  have hnm := (name_of_methodNamed Bd.named Bd.method).1
  have X0 : Stand p l e ({ frames := 0, cells := 0, slots := 0, locals := 0 } : Room) s m #[(.ref c0), (.int (3 : Int32))] below meth c s₁ [] 0 0 := Stand.of_body Bd
  have e0 : s₁.heap = h0 := by rw [← hh, Bd.state]; rfl
  have N0 := Fr.nil n0
  rw [ef_7 m c0 (3 : Int32)]
  show Go p e below _ (s₁.setTop (mkF m 0 #[oA c0, oI (3 : Int32)] []))
  refine own_iload_n 1 X0 hx hby d7_0 rfl rfl ?_
  refine own_aload_n 2 X0 hx hby d7_1 rfl rfl rfl ?_
  refine own_getF 5 X0 hx hby hZ hown (own_w hw 32 rfl) e0 F_c0_head d7_2 rfl ?_
  intro T318 X318 e318
  refine own_icY 15 X318 hx hby d7_5 (by decide) (by decide) (by decide) ?_
  refine own_aload_n 16 X318 hx hby d7_15 rfl rfl rfl ?_
  refine own_getF 19 X318 hx hby hZ hown (own_w hw 19 rfl) e318 F_c0_totals d7_16 rfl ?_
  intro T319 X319 e319
  refine own_iload_n 20 X319 hx hby d7_19 rfl rfl ?_
  refine own_iconst 21 (1 : Int32) X319 hx hby d7_20 rfl (by decide) ?_
  refine own_isub 22 (2 : Int32) X319 hx hby d7_21 rfl (by decide) ?_
  refine own_laload 23 (.long y5) X319 hx hby hZ e319 V_c3 d7_22 rfl (by decide) rfl ?_
  exact own_ret (Q := own_Q (some (.long y5)) n0 h0) X319 hx hby hret hlk d7_23 rfl (Or.inr (Or.inl ⟨rfl, rfl, _, rfl⟩)) (by decide) (by decide) ⟨rfl, N0, e319⟩
set_option maxRecDepth 65536 in
set_option maxHeartbeats 40000000 in
theorem rm10_58 (l : Launch) (Z : State) (a0 : Array Value) (hw : ∀ d ∈ tables_1, d.before a0 Z = true) (ws : List Jvm.Cond) (w_NONE k_NONE : Addr) (W : own_W Z w_NONE k_NONE) (c0 : Addr) (c1 : Addr) (k_c1 : ClassId) (c2 : Addr) (k_c2 : ClassId) (c3 : Addr) (k_c3 : ClassId) (y0 : Int64) (y1 : Int64) (y2 : Int64) (y3 : Int64) (y4 : Int64) (y5 : Int64) (h0 : Heap) (n0 : Nat) (O0 : Old Z n0 h0) (E_c0 : Exa Z h0 c0 "com/example/meter/meter/store/Spans") (F_c0_droppedTotal : Fld Z h0 c0 "com/example/meter/meter/store/Spans" "droppedTotal" "J" (.long (0 : Int64))) (F_c0_end : Fld Z h0 c0 "com/example/meter/meter/store/Spans" "end" "I" (.int (3 : Int32))) (F_c0_firsts : Fld Z h0 c0 "com/example/meter/meter/store/Spans" "firsts" "[J" (.ref c1)) (F_c0_head : Fld Z h0 c0 "com/example/meter/meter/store/Spans" "head" "I" (.int (0 : Int32))) (F_c0_lasts : Fld Z h0 c0 "com/example/meter/meter/store/Spans" "lasts" "[J" (.ref c2)) (F_c0_totals : Fld Z h0 c0 "com/example/meter/meter/store/Spans" "totals" "[J" (.ref c3)) (n_c0 : n0 ≤ c0) (V_c1 : Arv Z h0 c1 k_c1 .long (16 : Int32) [(.long y0), (.long y1), (.long y2), (.long (0 : Int64))] (.long (0 : Int64))) (n_c1 : n0 ≤ c1) (V_c2 : Arv Z h0 c2 k_c2 .long (16 : Int32) [(.long y0), (.long y1), (.long y2), (.long (0 : Int64))] (.long (0 : Int64))) (n_c2 : n0 ≤ c2) (V_c3 : Arv Z h0 c3 k_c3 .long (16 : Int32) [(.long y3), (.long y4), (.long y5), (.long (0 : Int64))] (.long (0 : Int64))) (n_c3 : n0 ≤ c3) (ne_c0_c1 : c0 ≠ c1) (ne_c0_c2 : c0 ≠ c2) (ne_c0_c3 : c0 ≠ c3) (ne_c1_c2 : c1 ≠ c2) (ne_c1_c3 : c1 ≠ c3) (ne_c2_c3 : c2 ≠ c3) :
    MetFree l (⟨"com/example/meter/meter/store/Spans", "hits", "()J"⟩ : MethodName) (head1 (Jvm.Cond.code (⟨"com/example/meter/meter/store/Spans", "hits", "()J"⟩ : MethodName) prog_11_method_6_code 1 (some .long) :: ws) ({ frames := 1, cells := 0, slots := 0, locals := 13 } : Room)) (fun a U => a = #[(.ref c0)] ∧ Z.Warmed39 U.vm ∧ U.heap = h0) (fun _ _ _ _ _ => True) (fun _ U o U' => ∃ v L, o = .returned v ∧ own_Q (some (.long (y5 - (0 : Int64)))) n0 h0 v U'.heap L ∧ FrameEnd U o U' L ({ frames := 1, cells := 0, slots := 0, locals := 13 } : Room).cells ({ frames := 1, cells := 0, slots := 0, locals := 13 } : Room).slots) := by
  refine MetFree.of_bodySF (plainFor_of_name pn_0) hisR ?_
  intro p e s m args below meth c s₁ Bd hml0 hP hK
  obtain ⟨rfl, hZ, hh⟩ := hP
  have hx := Bd.exec
  have hby := Bd.bytes
  have hml : c.maxLocals = 1 := hml0
  have hlk := BodyLoose.notSynchronized Bd
  have hret := Bd.returns
  have hown : s.vm.findClass "com/example/meter/meter/store/Spans" = some m.cls := findClass_of_methodNamed Bd.named
  have hnm := (name_of_methodNamed Bd.named Bd.method).1
  have X0 : Stand p l e ({ frames := 1, cells := 0, slots := 0, locals := 13 } : Room) s m #[(.ref c0)] below meth c s₁ [] 0 0 := Stand.of_body Bd
  have e0 : s₁.heap = h0 := by rw [← hh, Bd.state]; rfl
  have N0 := Fr.nil n0
  rw [ef_10 m c0]
  show Go p e below _ (s₁.setTop (mkF m 0 #[oA c0] []))
  refine own_aload_n 1 X0 hx hby d10_0 rfl rfl rfl ?_
  refine own_aload_n 2 X0 hx hby d10_1 rfl rfl rfl ?_
  refine own_getF 5 X0 hx hby hZ hown (own_w hw 26 rfl) e0 F_c0_end d10_2 rfl ?_
  intro T317 X317 e317
  refine own_priv (W := 0) 8 (rm7_57 l Z a0 hw [] w_NONE k_NONE W c0 c1 k_c1 c2 k_c2 c3 k_c3 y0 y1 y2 y3 y4 y5 h0 n0 O0 E_c0 F_c0_droppedTotal F_c0_end F_c0_firsts F_c0_head F_c0_lasts F_c0_totals n_c0 V_c1 n_c1 V_c2 n_c2 V_c3 n_c3 ne_c0_c1 ne_c0_c2 ne_c0_c3 ne_c1_c2 ne_c1_c3 ne_c2_c3) X317 hx hby hZ hown (own_w hw 47 rfl) (own_w hw 48 rfl) (own_w hw 49 rfl) (own_w hw 24 rfl) (own_w hw 6 rfl) (own_w hw 50 rfl) rfl (by decide) (by rw [hml]; rfl) c0 [(.int (3 : Int32))] [] pd_3 rfl d10_5 rfl e317 E_c0 rfl rfl rfl (by decide) (by decide) (by decide) (by decide) ?_
  rintro _ T320 L320 X320 ⟨rfl, N320, e320⟩
  have N320 := Fr.app N0 N320
  show Go p e below _ (T320.setTop (mkF m 8 _ [(.long y5)]))
  refine own_aload_n 9 X320 hx hby d10_8 rfl rfl rfl ?_
  refine own_getF 12 X320 hx hby hZ hown (own_w hw 51 rfl) e320 F_c0_droppedTotal d10_9 rfl ?_
  intro T321 X321 e321
  refine own_lsub 13 (y5 - (0 : Int64)) X321 hx hby d10_12 rfl rfl ?_
  exact own_ret (Q := own_Q (some (.long (y5 - (0 : Int64)))) n0 h0) X321 hx hby hret hlk d10_13 rfl (Or.inr (Or.inl ⟨rfl, rfl, _, rfl⟩)) (by decide) (by decide) ⟨rfl, N320, e321⟩
set_option maxRecDepth 65536 in
set_option maxHeartbeats 40000000 in
theorem rm11_59 (l : Launch) (Z : State) (a0 : Array Value) (hw : ∀ d ∈ tables_1, d.before a0 Z = true) (ws : List Jvm.Cond) (w_NONE k_NONE : Addr) (W : own_W Z w_NONE k_NONE) (c0 : Addr) (c1 : Addr) (k_c1 : ClassId) (c2 : Addr) (k_c2 : ClassId) (c3 : Addr) (k_c3 : ClassId) (y0 : Int64) (y1 : Int64) (y2 : Int64) (y3 : Int64) (y4 : Int64) (y5 : Int64) (h0 : Heap) (n0 : Nat) (O0 : Old Z n0 h0) (E_c0 : Exa Z h0 c0 "com/example/meter/meter/store/Spans") (F_c0_droppedTotal : Fld Z h0 c0 "com/example/meter/meter/store/Spans" "droppedTotal" "J" (.long (0 : Int64))) (F_c0_end : Fld Z h0 c0 "com/example/meter/meter/store/Spans" "end" "I" (.int (3 : Int32))) (F_c0_firsts : Fld Z h0 c0 "com/example/meter/meter/store/Spans" "firsts" "[J" (.ref c1)) (F_c0_head : Fld Z h0 c0 "com/example/meter/meter/store/Spans" "head" "I" (.int (0 : Int32))) (F_c0_lasts : Fld Z h0 c0 "com/example/meter/meter/store/Spans" "lasts" "[J" (.ref c2)) (F_c0_totals : Fld Z h0 c0 "com/example/meter/meter/store/Spans" "totals" "[J" (.ref c3)) (n_c0 : n0 ≤ c0) (V_c1 : Arv Z h0 c1 k_c1 .long (16 : Int32) [(.long y0), (.long y1), (.long y2), (.long (0 : Int64))] (.long (0 : Int64))) (n_c1 : n0 ≤ c1) (V_c2 : Arv Z h0 c2 k_c2 .long (16 : Int32) [(.long y0), (.long y1), (.long y2), (.long (0 : Int64))] (.long (0 : Int64))) (n_c2 : n0 ≤ c2) (V_c3 : Arv Z h0 c3 k_c3 .long (16 : Int32) [(.long y3), (.long y4), (.long y5), (.long (0 : Int64))] (.long (0 : Int64))) (n_c3 : n0 ≤ c3) (ne_c0_c1 : c0 ≠ c1) (ne_c0_c2 : c0 ≠ c2) (ne_c0_c3 : c0 ≠ c3) (ne_c1_c2 : c1 ≠ c2) (ne_c1_c3 : c1 ≠ c3) (ne_c2_c3 : c2 ≠ c3) :
    MetFree l (⟨"com/example/meter/meter/store/Spans", "newestSecond", "()J"⟩ : MethodName) (head1 (Jvm.Cond.code (⟨"com/example/meter/meter/store/Spans", "newestSecond", "()J"⟩ : MethodName) prog_11_method_7_code 1 (some .long) :: ws) ({ frames := 0, cells := 0, slots := 0, locals := 0 } : Room)) (fun a U => a = #[(.ref c0)] ∧ Z.Warmed39 U.vm ∧ U.heap = h0) (fun _ _ _ _ _ => True) (fun _ U o U' => ∃ v L, o = .returned v ∧ own_Q (some (.long y2)) n0 h0 v U'.heap L ∧ FrameEnd U o U' L ({ frames := 0, cells := 0, slots := 0, locals := 0 } : Room).cells ({ frames := 0, cells := 0, slots := 0, locals := 0 } : Room).slots) := by
  refine MetFree.of_bodySF (plainFor_of_name pn_0) hisR ?_
  intro p e s m args below meth c s₁ Bd hml0 hP hK
  obtain ⟨rfl, hZ, hh⟩ := hP
  have hx := Bd.exec
  have hby := Bd.bytes
  have hml : c.maxLocals = 1 := hml0
  have hlk := BodyLoose.notSynchronized Bd
  have hret := Bd.returns
  have hown : s.vm.findClass "com/example/meter/meter/store/Spans" = some m.cls := findClass_of_methodNamed Bd.named
  have hnm := (name_of_methodNamed Bd.named Bd.method).1
  have X0 : Stand p l e ({ frames := 0, cells := 0, slots := 0, locals := 0 } : Room) s m #[(.ref c0)] below meth c s₁ [] 0 0 := Stand.of_body Bd
  have e0 : s₁.heap = h0 := by rw [← hh, Bd.state]; rfl
  have N0 := Fr.nil n0
  rw [ef_11 m c0]
  show Go p e below _ (s₁.setTop (mkF m 0 #[oA c0] []))
  refine own_aload_n 1 X0 hx hby d11_0 rfl rfl rfl ?_
  refine own_getF 4 X0 hx hby hZ hown (own_w hw 32 rfl) e0 F_c0_head d11_1 rfl ?_
  intro T323 X323 e323
  refine own_aload_n 5 X323 hx hby d11_4 rfl rfl rfl ?_
  refine own_getF 8 X323 hx hby hZ hown (own_w hw 26 rfl) e323 F_c0_end d11_5 rfl ?_
  intro T324 X324 e324
  refine own_icY 17 X324 hx hby d11_8 (by decide) (by decide) (by decide) ?_
  refine own_aload_n 18 X324 hx hby d11_17 rfl rfl rfl ?_
  refine own_getF 21 X324 hx hby hZ hown (own_w hw 17 rfl) e324 F_c0_lasts d11_18 rfl ?_
  intro T325 X325 e325
  refine own_aload_n 22 X325 hx hby d11_21 rfl rfl rfl ?_
  refine own_getF 25 X325 hx hby hZ hown (own_w hw 26 rfl) e325 F_c0_end d11_22 rfl ?_
  intro T326 X326 e326
  refine own_iconst 26 (1 : Int32) X326 hx hby d11_25 rfl (by decide) ?_
  refine own_isub 27 (2 : Int32) X326 hx hby d11_26 rfl (by decide) ?_
  refine own_laload 28 (.long y2) X326 hx hby hZ e326 V_c2 d11_27 rfl (by decide) rfl ?_
  exact own_ret (Q := own_Q (some (.long y2)) n0 h0) X326 hx hby hret hlk d11_28 rfl (Or.inr (Or.inl ⟨rfl, rfl, _, rfl⟩)) (by decide) (by decide) ⟨rfl, N0, e326⟩
set_option maxRecDepth 65536 in
set_option maxHeartbeats 40000000 in
theorem rm12_60 (l : Launch) (Z : State) (a0 : Array Value) (hw : ∀ d ∈ tables_1, d.before a0 Z = true) (ws : List Jvm.Cond) (w_NONE k_NONE : Addr) (W : own_W Z w_NONE k_NONE) (c0 : Addr) (c1 : Addr) (k_c1 : ClassId) (c2 : Addr) (k_c2 : ClassId) (c3 : Addr) (k_c3 : ClassId) (y0 : Int64) (y1 : Int64) (y2 : Int64) (y3 : Int64) (y4 : Int64) (y5 : Int64) (y6 : Int64) (h0 : Heap) (n0 : Nat) (O0 : Old Z n0 h0) (E_c0 : Exa Z h0 c0 "com/example/meter/meter/store/Spans") (F_c0_droppedTotal : Fld Z h0 c0 "com/example/meter/meter/store/Spans" "droppedTotal" "J" (.long (0 : Int64))) (F_c0_end : Fld Z h0 c0 "com/example/meter/meter/store/Spans" "end" "I" (.int (3 : Int32))) (F_c0_firsts : Fld Z h0 c0 "com/example/meter/meter/store/Spans" "firsts" "[J" (.ref c1)) (F_c0_head : Fld Z h0 c0 "com/example/meter/meter/store/Spans" "head" "I" (.int (0 : Int32))) (F_c0_lasts : Fld Z h0 c0 "com/example/meter/meter/store/Spans" "lasts" "[J" (.ref c2)) (F_c0_totals : Fld Z h0 c0 "com/example/meter/meter/store/Spans" "totals" "[J" (.ref c3)) (n_c0 : n0 ≤ c0) (V_c1 : Arv Z h0 c1 k_c1 .long (16 : Int32) [(.long y1), (.long y2), (.long y3), (.long (0 : Int64))] (.long (0 : Int64))) (n_c1 : n0 ≤ c1) (V_c2 : Arv Z h0 c2 k_c2 .long (16 : Int32) [(.long y1), (.long y2), (.long y3), (.long (0 : Int64))] (.long (0 : Int64))) (n_c2 : n0 ≤ c2) (V_c3 : Arv Z h0 c3 k_c3 .long (16 : Int32) [(.long y4), (.long y5), (.long y6), (.long (0 : Int64))] (.long (0 : Int64))) (n_c3 : n0 ≤ c3) (ne_c0_c1 : c0 ≠ c1) (ne_c0_c2 : c0 ≠ c2) (ne_c0_c3 : c0 ≠ c3) (ne_c1_c2 : c1 ≠ c2) (ne_c1_c3 : c1 ≠ c3) (ne_c2_c3 : c2 ≠ c3) (hc332 : y0 < y1) :
    MetFree l (⟨"com/example/meter/meter/store/Spans", "endsAfter", "(J)Z"⟩ : MethodName) (head1 (Jvm.Cond.code (⟨"com/example/meter/meter/store/Spans", "endsAfter", "(J)Z"⟩ : MethodName) prog_11_method_8_code 3 (some .boolean) :: ws) ({ frames := 0, cells := 0, slots := 0, locals := 0 } : Room)) (fun a U => a = #[(.ref c0), (.long y0)] ∧ Z.Warmed39 U.vm ∧ U.heap = h0) (fun _ _ _ _ _ => True) (fun _ U o U' => ∃ v L, o = .returned v ∧ own_Q (some (.int (1 : Int32))) n0 h0 v U'.heap L ∧ FrameEnd U o U' L ({ frames := 0, cells := 0, slots := 0, locals := 0 } : Room).cells ({ frames := 0, cells := 0, slots := 0, locals := 0 } : Room).slots) := by
  refine MetFree.of_bodySF (plainFor_of_name pn_0) hisR ?_
  intro p e s m args below meth c s₁ Bd hml0 hP hK
  obtain ⟨rfl, hZ, hh⟩ := hP
  have hx := Bd.exec
  have hby := Bd.bytes
  have hml : c.maxLocals = 3 := hml0
  have hlk := BodyLoose.notSynchronized Bd
  have hret := Bd.returns
  have hown : s.vm.findClass "com/example/meter/meter/store/Spans" = some m.cls := findClass_of_methodNamed Bd.named
  have hnm := (name_of_methodNamed Bd.named Bd.method).1
  have X0 : Stand p l e ({ frames := 0, cells := 0, slots := 0, locals := 0 } : Room) s m #[(.ref c0), (.long y0)] below meth c s₁ [] 0 0 := Stand.of_body Bd
  have e0 : s₁.heap = h0 := by rw [← hh, Bd.state]; rfl
  have N0 := Fr.nil n0
  rw [ef_12 m c0 y0]
  show Go p e below _ (s₁.setTop (mkF m 0 #[oA c0, oJ y0, oS] []))
  refine own_aload_n 1 X0 hx hby d12_0 rfl rfl rfl ?_
  refine own_getF 4 X0 hx hby hZ hown (own_w hw 32 rfl) e0 F_c0_head d12_1 rfl ?_
  intro T328 X328 e328
  refine own_aload_n 5 X328 hx hby d12_4 rfl rfl rfl ?_
  refine own_getF 8 X328 hx hby hZ hown (own_w hw 26 rfl) e328 F_c0_end d12_5 rfl ?_
  intro T329 X329 e329
  refine own_icN 11 X329 hx hby d12_8 rfl (by decide) ?_
  refine own_aload_n 12 X329 hx hby d12_11 rfl rfl rfl ?_
  refine own_getF 15 X329 hx hby hZ hown (own_w hw 17 rfl) e329 F_c0_lasts d12_12 rfl ?_
  intro T330 X330 e330
  refine own_aload_n 16 X330 hx hby d12_15 rfl rfl rfl ?_
  refine own_getF 19 X330 hx hby hZ hown (own_w hw 32 rfl) e330 F_c0_head d12_16 rfl ?_
  intro T331 X331 e331
  refine own_laload 20 (.long y1) X331 hx hby hZ e331 V_c2 d12_19 rfl (by decide) rfl ?_
  refine own_lload_n 21 X331 hx hby d12_20 rfl rfl ?_
  refine own_lcmp 22 (XT.cmpL y1 y0) X331 hx hby d12_21 rfl rfl ?_
  refine own_ifN 25 X331 hx hby d12_22 rfl (own_tltL hc332).2.2.2 ?_
  refine own_iconst 26 (1 : Int32) X331 hx hby d12_25 rfl (by decide) ?_
  refine own_goto 30 X331 hx hby d12_26 (by decide) (by decide) ?_
  exact own_ret (Q := own_Q (some (.int (1 : Int32))) n0 h0) X331 hx hby hret hlk d12_30 rfl (Or.inl ⟨rfl, by simp, _, rfl⟩) (by decide) (by decide) ⟨rfl, N0, e331⟩
set_option maxRecDepth 65536 in
set_option maxHeartbeats 40000000 in
theorem rm12_61 (l : Launch) (Z : State) (a0 : Array Value) (hw : ∀ d ∈ tables_1, d.before a0 Z = true) (ws : List Jvm.Cond) (w_NONE k_NONE : Addr) (W : own_W Z w_NONE k_NONE) (c0 : Addr) (c1 : Addr) (k_c1 : ClassId) (c2 : Addr) (k_c2 : ClassId) (c3 : Addr) (k_c3 : ClassId) (y0 : Int64) (y1 : Int64) (y2 : Int64) (y3 : Int64) (y4 : Int64) (y5 : Int64) (y6 : Int64) (h0 : Heap) (n0 : Nat) (O0 : Old Z n0 h0) (E_c0 : Exa Z h0 c0 "com/example/meter/meter/store/Spans") (F_c0_droppedTotal : Fld Z h0 c0 "com/example/meter/meter/store/Spans" "droppedTotal" "J" (.long (0 : Int64))) (F_c0_end : Fld Z h0 c0 "com/example/meter/meter/store/Spans" "end" "I" (.int (3 : Int32))) (F_c0_firsts : Fld Z h0 c0 "com/example/meter/meter/store/Spans" "firsts" "[J" (.ref c1)) (F_c0_head : Fld Z h0 c0 "com/example/meter/meter/store/Spans" "head" "I" (.int (0 : Int32))) (F_c0_lasts : Fld Z h0 c0 "com/example/meter/meter/store/Spans" "lasts" "[J" (.ref c2)) (F_c0_totals : Fld Z h0 c0 "com/example/meter/meter/store/Spans" "totals" "[J" (.ref c3)) (n_c0 : n0 ≤ c0) (V_c1 : Arv Z h0 c1 k_c1 .long (16 : Int32) [(.long y1), (.long y2), (.long y3), (.long (0 : Int64))] (.long (0 : Int64))) (n_c1 : n0 ≤ c1) (V_c2 : Arv Z h0 c2 k_c2 .long (16 : Int32) [(.long y1), (.long y2), (.long y3), (.long (0 : Int64))] (.long (0 : Int64))) (n_c2 : n0 ≤ c2) (V_c3 : Arv Z h0 c3 k_c3 .long (16 : Int32) [(.long y4), (.long y5), (.long y6), (.long (0 : Int64))] (.long (0 : Int64))) (n_c3 : n0 ≤ c3) (ne_c0_c1 : c0 ≠ c1) (ne_c0_c2 : c0 ≠ c2) (ne_c0_c3 : c0 ≠ c3) (ne_c1_c2 : c1 ≠ c2) (ne_c1_c3 : c1 ≠ c3) (ne_c2_c3 : c2 ≠ c3) (hc332 : ¬ (y0 < y1)) :
    MetFree l (⟨"com/example/meter/meter/store/Spans", "endsAfter", "(J)Z"⟩ : MethodName) (head1 (Jvm.Cond.code (⟨"com/example/meter/meter/store/Spans", "endsAfter", "(J)Z"⟩ : MethodName) prog_11_method_8_code 3 (some .boolean) :: ws) ({ frames := 0, cells := 0, slots := 0, locals := 0 } : Room)) (fun a U => a = #[(.ref c0), (.long y0)] ∧ Z.Warmed39 U.vm ∧ U.heap = h0) (fun _ _ _ _ _ => True) (fun _ U o U' => ∃ v L, o = .returned v ∧ own_Q (some (.int (0 : Int32))) n0 h0 v U'.heap L ∧ FrameEnd U o U' L ({ frames := 0, cells := 0, slots := 0, locals := 0 } : Room).cells ({ frames := 0, cells := 0, slots := 0, locals := 0 } : Room).slots) := by
  refine MetFree.of_bodySF (plainFor_of_name pn_0) hisR ?_
  intro p e s m args below meth c s₁ Bd hml0 hP hK
  obtain ⟨rfl, hZ, hh⟩ := hP
  have hx := Bd.exec
  have hby := Bd.bytes
  have hml : c.maxLocals = 3 := hml0
  have hlk := BodyLoose.notSynchronized Bd
  have hret := Bd.returns
  have hown : s.vm.findClass "com/example/meter/meter/store/Spans" = some m.cls := findClass_of_methodNamed Bd.named
  have hnm := (name_of_methodNamed Bd.named Bd.method).1
  have X0 : Stand p l e ({ frames := 0, cells := 0, slots := 0, locals := 0 } : Room) s m #[(.ref c0), (.long y0)] below meth c s₁ [] 0 0 := Stand.of_body Bd
  have e0 : s₁.heap = h0 := by rw [← hh, Bd.state]; rfl
  have N0 := Fr.nil n0
  rw [ef_12 m c0 y0]
  show Go p e below _ (s₁.setTop (mkF m 0 #[oA c0, oJ y0, oS] []))
  refine own_aload_n 1 X0 hx hby d12_0 rfl rfl rfl ?_
  refine own_getF 4 X0 hx hby hZ hown (own_w hw 32 rfl) e0 F_c0_head d12_1 rfl ?_
  intro T328 X328 e328
  refine own_aload_n 5 X328 hx hby d12_4 rfl rfl rfl ?_
  refine own_getF 8 X328 hx hby hZ hown (own_w hw 26 rfl) e328 F_c0_end d12_5 rfl ?_
  intro T329 X329 e329
  refine own_icN 11 X329 hx hby d12_8 rfl (by decide) ?_
  refine own_aload_n 12 X329 hx hby d12_11 rfl rfl rfl ?_
  refine own_getF 15 X329 hx hby hZ hown (own_w hw 17 rfl) e329 F_c0_lasts d12_12 rfl ?_
  intro T330 X330 e330
  refine own_aload_n 16 X330 hx hby d12_15 rfl rfl rfl ?_
  refine own_getF 19 X330 hx hby hZ hown (own_w hw 32 rfl) e330 F_c0_head d12_16 rfl ?_
  intro T331 X331 e331
  refine own_laload 20 (.long y1) X331 hx hby hZ e331 V_c2 d12_19 rfl (by decide) rfl ?_
  refine own_lload_n 21 X331 hx hby d12_20 rfl rfl ?_
  refine own_lcmp 22 (XT.cmpL y1 y0) X331 hx hby d12_21 rfl rfl ?_
  refine own_ifY 29 X331 hx hby d12_22 (by decide) (by decide) (own_fltL hc332).2.2.2 ?_
  refine own_iconst 30 (0 : Int32) X331 hx hby d12_29 rfl (by decide) ?_
  exact own_ret (Q := own_Q (some (.int (0 : Int32))) n0 h0) X331 hx hby hret hlk d12_30 rfl (Or.inl ⟨rfl, by simp, _, rfl⟩) (by decide) (by decide) ⟨rfl, N0, e331⟩
set_option maxRecDepth 65536 in
set_option maxHeartbeats 40000000 in
theorem rm9_62 (l : Launch) (Z : State) (a0 : Array Value) (hw : ∀ d ∈ tables_1, d.before a0 Z = true) (ws : List Jvm.Cond) (w_NONE k_NONE : Addr) (W : own_W Z w_NONE k_NONE) (c0 : Addr) (c1 : Addr) (k_c1 : ClassId) (c2 : Addr) (k_c2 : ClassId) (c3 : Addr) (k_c3 : ClassId) (y0 : Int64) (y1 : Int64) (y2 : Int64) (y3 : Int64) (y4 : Int64) (y5 : Int64) (h0 : Heap) (n0 : Nat) (O0 : Old Z n0 h0) (E_c0 : Exa Z h0 c0 "com/example/meter/meter/store/Spans") (F_c0_droppedTotal : Fld Z h0 c0 "com/example/meter/meter/store/Spans" "droppedTotal" "J" (.long y0)) (F_c0_end : Fld Z h0 c0 "com/example/meter/meter/store/Spans" "end" "I" (.int (3 : Int32))) (F_c0_firsts : Fld Z h0 c0 "com/example/meter/meter/store/Spans" "firsts" "[J" (.ref c1)) (F_c0_head : Fld Z h0 c0 "com/example/meter/meter/store/Spans" "head" "I" (.int (1 : Int32))) (F_c0_lasts : Fld Z h0 c0 "com/example/meter/meter/store/Spans" "lasts" "[J" (.ref c2)) (F_c0_totals : Fld Z h0 c0 "com/example/meter/meter/store/Spans" "totals" "[J" (.ref c3)) (n_c0 : n0 ≤ c0) (V_c1 : Arv Z h0 c1 k_c1 .long (16 : Int32) [(.long y1), (.long y2), (.long y3), (.long (0 : Int64))] (.long (0 : Int64))) (n_c1 : n0 ≤ c1) (V_c2 : Arv Z h0 c2 k_c2 .long (16 : Int32) [(.long y1), (.long y2), (.long y3), (.long (0 : Int64))] (.long (0 : Int64))) (n_c2 : n0 ≤ c2) (V_c3 : Arv Z h0 c3 k_c3 .long (16 : Int32) [(.long y0), (.long y4), (.long y5), (.long (0 : Int64))] (.long (0 : Int64))) (n_c3 : n0 ≤ c3) (ne_c0_c1 : c0 ≠ c1) (ne_c0_c2 : c0 ≠ c2) (ne_c0_c3 : c0 ≠ c3) (ne_c1_c2 : c1 ≠ c2) (ne_c1_c3 : c1 ≠ c3) (ne_c2_c3 : c2 ≠ c3) :
    MetFree l (⟨"com/example/meter/meter/store/Spans", "size", "()I"⟩ : MethodName) (head1 (Jvm.Cond.code (⟨"com/example/meter/meter/store/Spans", "size", "()I"⟩ : MethodName) prog_11_method_5_code 1 (some .int) :: ws) ({ frames := 0, cells := 0, slots := 0, locals := 0 } : Room)) (fun a U => a = #[(.ref c0)] ∧ Z.Warmed39 U.vm ∧ U.heap = h0) (fun _ _ _ _ _ => True) (fun _ U o U' => ∃ v L, o = .returned v ∧ own_Q (some (.int (2 : Int32))) n0 h0 v U'.heap L ∧ FrameEnd U o U' L ({ frames := 0, cells := 0, slots := 0, locals := 0 } : Room).cells ({ frames := 0, cells := 0, slots := 0, locals := 0 } : Room).slots) := by
  refine MetFree.of_bodySF (plainFor_of_name pn_0) hisR ?_
  intro p e s m args below meth c s₁ Bd hml0 hP hK
  obtain ⟨rfl, hZ, hh⟩ := hP
  have hx := Bd.exec
  have hby := Bd.bytes
  have hml : c.maxLocals = 1 := hml0
  have hlk := BodyLoose.notSynchronized Bd
  have hret := Bd.returns
  have hown : s.vm.findClass "com/example/meter/meter/store/Spans" = some m.cls := findClass_of_methodNamed Bd.named
  have hnm := (name_of_methodNamed Bd.named Bd.method).1
  have X0 : Stand p l e ({ frames := 0, cells := 0, slots := 0, locals := 0 } : Room) s m #[(.ref c0)] below meth c s₁ [] 0 0 := Stand.of_body Bd
  have e0 : s₁.heap = h0 := by rw [← hh, Bd.state]; rfl
  have N0 := Fr.nil n0
  rw [ef_9 m c0]
  show Go p e below _ (s₁.setTop (mkF m 0 #[oA c0] []))
  refine own_aload_n 1 X0 hx hby d9_0 rfl rfl rfl ?_
  refine own_getF 4 X0 hx hby hZ hown (own_w hw 26 rfl) e0 F_c0_end d9_1 rfl ?_
  intro T338 X338 e338
  refine own_aload_n 5 X338 hx hby d9_4 rfl rfl rfl ?_
  refine own_getF 8 X338 hx hby hZ hown (own_w hw 32 rfl) e338 F_c0_head d9_5 rfl ?_
  intro T339 X339 e339
  refine own_isub 9 (2 : Int32) X339 hx hby d9_8 rfl (by decide) ?_
  exact own_ret (Q := own_Q (some (.int (2 : Int32))) n0 h0) X339 hx hby hret hlk d9_9 rfl (Or.inl ⟨rfl, by simp, _, rfl⟩) (by decide) (by decide) ⟨rfl, N0, e339⟩
set_option maxRecDepth 65536 in
set_option maxHeartbeats 40000000 in
theorem rm7_63 (l : Launch) (Z : State) (a0 : Array Value) (hw : ∀ d ∈ tables_1, d.before a0 Z = true) (ws : List Jvm.Cond) (w_NONE k_NONE : Addr) (W : own_W Z w_NONE k_NONE) (c0 : Addr) (c1 : Addr) (k_c1 : ClassId) (c2 : Addr) (k_c2 : ClassId) (c3 : Addr) (k_c3 : ClassId) (y0 : Int64) (y1 : Int64) (y2 : Int64) (y3 : Int64) (y4 : Int64) (y5 : Int64) (h0 : Heap) (n0 : Nat) (O0 : Old Z n0 h0) (E_c0 : Exa Z h0 c0 "com/example/meter/meter/store/Spans") (F_c0_droppedTotal : Fld Z h0 c0 "com/example/meter/meter/store/Spans" "droppedTotal" "J" (.long y0)) (F_c0_end : Fld Z h0 c0 "com/example/meter/meter/store/Spans" "end" "I" (.int (3 : Int32))) (F_c0_firsts : Fld Z h0 c0 "com/example/meter/meter/store/Spans" "firsts" "[J" (.ref c1)) (F_c0_head : Fld Z h0 c0 "com/example/meter/meter/store/Spans" "head" "I" (.int (1 : Int32))) (F_c0_lasts : Fld Z h0 c0 "com/example/meter/meter/store/Spans" "lasts" "[J" (.ref c2)) (F_c0_totals : Fld Z h0 c0 "com/example/meter/meter/store/Spans" "totals" "[J" (.ref c3)) (n_c0 : n0 ≤ c0) (V_c1 : Arv Z h0 c1 k_c1 .long (16 : Int32) [(.long y1), (.long y2), (.long y3), (.long (0 : Int64))] (.long (0 : Int64))) (n_c1 : n0 ≤ c1) (V_c2 : Arv Z h0 c2 k_c2 .long (16 : Int32) [(.long y1), (.long y2), (.long y3), (.long (0 : Int64))] (.long (0 : Int64))) (n_c2 : n0 ≤ c2) (V_c3 : Arv Z h0 c3 k_c3 .long (16 : Int32) [(.long y0), (.long y4), (.long y5), (.long (0 : Int64))] (.long (0 : Int64))) (n_c3 : n0 ≤ c3) (ne_c0_c1 : c0 ≠ c1) (ne_c0_c2 : c0 ≠ c2) (ne_c0_c3 : c0 ≠ c3) (ne_c1_c2 : c1 ≠ c2) (ne_c1_c3 : c1 ≠ c3) (ne_c2_c3 : c2 ≠ c3) :
    MetFree l (⟨"com/example/meter/meter/store/Spans", "totalBefore", "(I)J"⟩ : MethodName) (head1 (Jvm.Cond.code (⟨"com/example/meter/meter/store/Spans", "totalBefore", "(I)J"⟩ : MethodName) prog_11_method_14_code 2 (some .long) :: ws) ({ frames := 0, cells := 0, slots := 0, locals := 0 } : Room)) (fun a U => a = #[(.ref c0), (.int (3 : Int32))] ∧ Z.Warmed39 U.vm ∧ U.heap = h0) (fun _ _ _ _ _ => True) (fun _ U o U' => ∃ v L, o = .returned v ∧ own_Q (some (.long y5)) n0 h0 v U'.heap L ∧ FrameEnd U o U' L ({ frames := 0, cells := 0, slots := 0, locals := 0 } : Room).cells ({ frames := 0, cells := 0, slots := 0, locals := 0 } : Room).slots) := by
  refine MetFree.of_bodySF (plainFor_of_name pn_0) hisR ?_
  intro p e s m args below meth c s₁ Bd hml0 hP hK
  obtain ⟨rfl, hZ, hh⟩ := hP
  have hx := Bd.exec
  have hby := Bd.bytes
  have hml : c.maxLocals = 2 := hml0
  have hlk := BodyLoose.notSynchronized Bd
  have hret := Bd.returns
  have hown : s.vm.findClass "com/example/meter/meter/store/Spans" = some m.cls := findClass_of_methodNamed Bd.named
  have hnm := (name_of_methodNamed Bd.named Bd.method).1
  have X0 : Stand p l e ({ frames := 0, cells := 0, slots := 0, locals := 0 } : Room) s m #[(.ref c0), (.int (3 : Int32))] below meth c s₁ [] 0 0 := Stand.of_body Bd
  have e0 : s₁.heap = h0 := by rw [← hh, Bd.state]; rfl
  have N0 := Fr.nil n0
  rw [ef_7 m c0 (3 : Int32)]
  show Go p e below _ (s₁.setTop (mkF m 0 #[oA c0, oI (3 : Int32)] []))
  refine own_iload_n 1 X0 hx hby d7_0 rfl rfl ?_
  refine own_aload_n 2 X0 hx hby d7_1 rfl rfl rfl ?_
  refine own_getF 5 X0 hx hby hZ hown (own_w hw 32 rfl) e0 F_c0_head d7_2 rfl ?_
  intro T342 X342 e342
  refine own_icY 15 X342 hx hby d7_5 (by decide) (by decide) (by decide) ?_
  refine own_aload_n 16 X342 hx hby d7_15 rfl rfl rfl ?_
  refine own_getF 19 X342 hx hby hZ hown (own_w hw 19 rfl) e342 F_c0_totals d7_16 rfl ?_
  intro T343 X343 e343
  refine own_iload_n 20 X343 hx hby d7_19 rfl rfl ?_
  refine own_iconst 21 (1 : Int32) X343 hx hby d7_20 rfl (by decide) ?_
  refine own_isub 22 (2 : Int32) X343 hx hby d7_21 rfl (by decide) ?_
  refine own_laload 23 (.long y5) X343 hx hby hZ e343 V_c3 d7_22 rfl (by decide) rfl ?_
  exact own_ret (Q := own_Q (some (.long y5)) n0 h0) X343 hx hby hret hlk d7_23 rfl (Or.inr (Or.inl ⟨rfl, rfl, _, rfl⟩)) (by decide) (by decide) ⟨rfl, N0, e343⟩
set_option maxRecDepth 65536 in
set_option maxHeartbeats 40000000 in
theorem rm10_64 (l : Launch) (Z : State) (a0 : Array Value) (hw : ∀ d ∈ tables_1, d.before a0 Z = true) (ws : List Jvm.Cond) (w_NONE k_NONE : Addr) (W : own_W Z w_NONE k_NONE) (c0 : Addr) (c1 : Addr) (k_c1 : ClassId) (c2 : Addr) (k_c2 : ClassId) (c3 : Addr) (k_c3 : ClassId) (y0 : Int64) (y1 : Int64) (y2 : Int64) (y3 : Int64) (y4 : Int64) (y5 : Int64) (h0 : Heap) (n0 : Nat) (O0 : Old Z n0 h0) (E_c0 : Exa Z h0 c0 "com/example/meter/meter/store/Spans") (F_c0_droppedTotal : Fld Z h0 c0 "com/example/meter/meter/store/Spans" "droppedTotal" "J" (.long y0)) (F_c0_end : Fld Z h0 c0 "com/example/meter/meter/store/Spans" "end" "I" (.int (3 : Int32))) (F_c0_firsts : Fld Z h0 c0 "com/example/meter/meter/store/Spans" "firsts" "[J" (.ref c1)) (F_c0_head : Fld Z h0 c0 "com/example/meter/meter/store/Spans" "head" "I" (.int (1 : Int32))) (F_c0_lasts : Fld Z h0 c0 "com/example/meter/meter/store/Spans" "lasts" "[J" (.ref c2)) (F_c0_totals : Fld Z h0 c0 "com/example/meter/meter/store/Spans" "totals" "[J" (.ref c3)) (n_c0 : n0 ≤ c0) (V_c1 : Arv Z h0 c1 k_c1 .long (16 : Int32) [(.long y1), (.long y2), (.long y3), (.long (0 : Int64))] (.long (0 : Int64))) (n_c1 : n0 ≤ c1) (V_c2 : Arv Z h0 c2 k_c2 .long (16 : Int32) [(.long y1), (.long y2), (.long y3), (.long (0 : Int64))] (.long (0 : Int64))) (n_c2 : n0 ≤ c2) (V_c3 : Arv Z h0 c3 k_c3 .long (16 : Int32) [(.long y0), (.long y4), (.long y5), (.long (0 : Int64))] (.long (0 : Int64))) (n_c3 : n0 ≤ c3) (ne_c0_c1 : c0 ≠ c1) (ne_c0_c2 : c0 ≠ c2) (ne_c0_c3 : c0 ≠ c3) (ne_c1_c2 : c1 ≠ c2) (ne_c1_c3 : c1 ≠ c3) (ne_c2_c3 : c2 ≠ c3) :
    MetFree l (⟨"com/example/meter/meter/store/Spans", "hits", "()J"⟩ : MethodName) (head1 (Jvm.Cond.code (⟨"com/example/meter/meter/store/Spans", "hits", "()J"⟩ : MethodName) prog_11_method_6_code 1 (some .long) :: ws) ({ frames := 1, cells := 0, slots := 0, locals := 13 } : Room)) (fun a U => a = #[(.ref c0)] ∧ Z.Warmed39 U.vm ∧ U.heap = h0) (fun _ _ _ _ _ => True) (fun _ U o U' => ∃ v L, o = .returned v ∧ own_Q (some (.long (y5 - y0))) n0 h0 v U'.heap L ∧ FrameEnd U o U' L ({ frames := 1, cells := 0, slots := 0, locals := 13 } : Room).cells ({ frames := 1, cells := 0, slots := 0, locals := 13 } : Room).slots) := by
  refine MetFree.of_bodySF (plainFor_of_name pn_0) hisR ?_
  intro p e s m args below meth c s₁ Bd hml0 hP hK
  obtain ⟨rfl, hZ, hh⟩ := hP
  have hx := Bd.exec
  have hby := Bd.bytes
  have hml : c.maxLocals = 1 := hml0
  have hlk := BodyLoose.notSynchronized Bd
  have hret := Bd.returns
  have hown : s.vm.findClass "com/example/meter/meter/store/Spans" = some m.cls := findClass_of_methodNamed Bd.named
  have hnm := (name_of_methodNamed Bd.named Bd.method).1
  have X0 : Stand p l e ({ frames := 1, cells := 0, slots := 0, locals := 13 } : Room) s m #[(.ref c0)] below meth c s₁ [] 0 0 := Stand.of_body Bd
  have e0 : s₁.heap = h0 := by rw [← hh, Bd.state]; rfl
  have N0 := Fr.nil n0
  rw [ef_10 m c0]
  show Go p e below _ (s₁.setTop (mkF m 0 #[oA c0] []))
  refine own_aload_n 1 X0 hx hby d10_0 rfl rfl rfl ?_
  refine own_aload_n 2 X0 hx hby d10_1 rfl rfl rfl ?_
  refine own_getF 5 X0 hx hby hZ hown (own_w hw 26 rfl) e0 F_c0_end d10_2 rfl ?_
  intro T341 X341 e341
  refine own_priv (W := 0) 8 (rm7_63 l Z a0 hw [] w_NONE k_NONE W c0 c1 k_c1 c2 k_c2 c3 k_c3 y0 y1 y2 y3 y4 y5 h0 n0 O0 E_c0 F_c0_droppedTotal F_c0_end F_c0_firsts F_c0_head F_c0_lasts F_c0_totals n_c0 V_c1 n_c1 V_c2 n_c2 V_c3 n_c3 ne_c0_c1 ne_c0_c2 ne_c0_c3 ne_c1_c2 ne_c1_c3 ne_c2_c3) X341 hx hby hZ hown (own_w hw 47 rfl) (own_w hw 48 rfl) (own_w hw 49 rfl) (own_w hw 24 rfl) (own_w hw 6 rfl) (own_w hw 50 rfl) rfl (by decide) (by rw [hml]; rfl) c0 [(.int (3 : Int32))] [] pd_3 rfl d10_5 rfl e341 E_c0 rfl rfl rfl (by decide) (by decide) (by decide) (by decide) ?_
  rintro _ T344 L344 X344 ⟨rfl, N344, e344⟩
  have N344 := Fr.app N0 N344
  show Go p e below _ (T344.setTop (mkF m 8 _ [(.long y5)]))
  refine own_aload_n 9 X344 hx hby d10_8 rfl rfl rfl ?_
  refine own_getF 12 X344 hx hby hZ hown (own_w hw 51 rfl) e344 F_c0_droppedTotal d10_9 rfl ?_
  intro T345 X345 e345
  refine own_lsub 13 (y5 - y0) X345 hx hby d10_12 rfl rfl ?_
  exact own_ret (Q := own_Q (some (.long (y5 - y0))) n0 h0) X345 hx hby hret hlk d10_13 rfl (Or.inr (Or.inl ⟨rfl, rfl, _, rfl⟩)) (by decide) (by decide) ⟨rfl, N344, e345⟩
set_option maxRecDepth 65536 in
set_option maxHeartbeats 40000000 in
theorem rm11_65 (l : Launch) (Z : State) (a0 : Array Value) (hw : ∀ d ∈ tables_1, d.before a0 Z = true) (ws : List Jvm.Cond) (w_NONE k_NONE : Addr) (W : own_W Z w_NONE k_NONE) (c0 : Addr) (c1 : Addr) (k_c1 : ClassId) (c2 : Addr) (k_c2 : ClassId) (c3 : Addr) (k_c3 : ClassId) (y0 : Int64) (y1 : Int64) (y2 : Int64) (y3 : Int64) (y4 : Int64) (y5 : Int64) (h0 : Heap) (n0 : Nat) (O0 : Old Z n0 h0) (E_c0 : Exa Z h0 c0 "com/example/meter/meter/store/Spans") (F_c0_droppedTotal : Fld Z h0 c0 "com/example/meter/meter/store/Spans" "droppedTotal" "J" (.long y0)) (F_c0_end : Fld Z h0 c0 "com/example/meter/meter/store/Spans" "end" "I" (.int (3 : Int32))) (F_c0_firsts : Fld Z h0 c0 "com/example/meter/meter/store/Spans" "firsts" "[J" (.ref c1)) (F_c0_head : Fld Z h0 c0 "com/example/meter/meter/store/Spans" "head" "I" (.int (1 : Int32))) (F_c0_lasts : Fld Z h0 c0 "com/example/meter/meter/store/Spans" "lasts" "[J" (.ref c2)) (F_c0_totals : Fld Z h0 c0 "com/example/meter/meter/store/Spans" "totals" "[J" (.ref c3)) (n_c0 : n0 ≤ c0) (V_c1 : Arv Z h0 c1 k_c1 .long (16 : Int32) [(.long y1), (.long y2), (.long y3), (.long (0 : Int64))] (.long (0 : Int64))) (n_c1 : n0 ≤ c1) (V_c2 : Arv Z h0 c2 k_c2 .long (16 : Int32) [(.long y1), (.long y2), (.long y3), (.long (0 : Int64))] (.long (0 : Int64))) (n_c2 : n0 ≤ c2) (V_c3 : Arv Z h0 c3 k_c3 .long (16 : Int32) [(.long y0), (.long y4), (.long y5), (.long (0 : Int64))] (.long (0 : Int64))) (n_c3 : n0 ≤ c3) (ne_c0_c1 : c0 ≠ c1) (ne_c0_c2 : c0 ≠ c2) (ne_c0_c3 : c0 ≠ c3) (ne_c1_c2 : c1 ≠ c2) (ne_c1_c3 : c1 ≠ c3) (ne_c2_c3 : c2 ≠ c3) :
    MetFree l (⟨"com/example/meter/meter/store/Spans", "newestSecond", "()J"⟩ : MethodName) (head1 (Jvm.Cond.code (⟨"com/example/meter/meter/store/Spans", "newestSecond", "()J"⟩ : MethodName) prog_11_method_7_code 1 (some .long) :: ws) ({ frames := 0, cells := 0, slots := 0, locals := 0 } : Room)) (fun a U => a = #[(.ref c0)] ∧ Z.Warmed39 U.vm ∧ U.heap = h0) (fun _ _ _ _ _ => True) (fun _ U o U' => ∃ v L, o = .returned v ∧ own_Q (some (.long y3)) n0 h0 v U'.heap L ∧ FrameEnd U o U' L ({ frames := 0, cells := 0, slots := 0, locals := 0 } : Room).cells ({ frames := 0, cells := 0, slots := 0, locals := 0 } : Room).slots) := by
  refine MetFree.of_bodySF (plainFor_of_name pn_0) hisR ?_
  intro p e s m args below meth c s₁ Bd hml0 hP hK
  obtain ⟨rfl, hZ, hh⟩ := hP
  have hx := Bd.exec
  have hby := Bd.bytes
  have hml : c.maxLocals = 1 := hml0
  have hlk := BodyLoose.notSynchronized Bd
  have hret := Bd.returns
  have hown : s.vm.findClass "com/example/meter/meter/store/Spans" = some m.cls := findClass_of_methodNamed Bd.named
  have hnm := (name_of_methodNamed Bd.named Bd.method).1
  have X0 : Stand p l e ({ frames := 0, cells := 0, slots := 0, locals := 0 } : Room) s m #[(.ref c0)] below meth c s₁ [] 0 0 := Stand.of_body Bd
  have e0 : s₁.heap = h0 := by rw [← hh, Bd.state]; rfl
  have N0 := Fr.nil n0
  rw [ef_11 m c0]
  show Go p e below _ (s₁.setTop (mkF m 0 #[oA c0] []))
  refine own_aload_n 1 X0 hx hby d11_0 rfl rfl rfl ?_
  refine own_getF 4 X0 hx hby hZ hown (own_w hw 32 rfl) e0 F_c0_head d11_1 rfl ?_
  intro T347 X347 e347
  refine own_aload_n 5 X347 hx hby d11_4 rfl rfl rfl ?_
  refine own_getF 8 X347 hx hby hZ hown (own_w hw 26 rfl) e347 F_c0_end d11_5 rfl ?_
  intro T348 X348 e348
  refine own_icY 17 X348 hx hby d11_8 (by decide) (by decide) (by decide) ?_
  refine own_aload_n 18 X348 hx hby d11_17 rfl rfl rfl ?_
  refine own_getF 21 X348 hx hby hZ hown (own_w hw 17 rfl) e348 F_c0_lasts d11_18 rfl ?_
  intro T349 X349 e349
  refine own_aload_n 22 X349 hx hby d11_21 rfl rfl rfl ?_
  refine own_getF 25 X349 hx hby hZ hown (own_w hw 26 rfl) e349 F_c0_end d11_22 rfl ?_
  intro T350 X350 e350
  refine own_iconst 26 (1 : Int32) X350 hx hby d11_25 rfl (by decide) ?_
  refine own_isub 27 (2 : Int32) X350 hx hby d11_26 rfl (by decide) ?_
  refine own_laload 28 (.long y3) X350 hx hby hZ e350 V_c2 d11_27 rfl (by decide) rfl ?_
  exact own_ret (Q := own_Q (some (.long y3)) n0 h0) X350 hx hby hret hlk d11_28 rfl (Or.inr (Or.inl ⟨rfl, rfl, _, rfl⟩)) (by decide) (by decide) ⟨rfl, N0, e350⟩
set_option maxRecDepth 65536 in
set_option maxHeartbeats 40000000 in
theorem rm12_66 (l : Launch) (Z : State) (a0 : Array Value) (hw : ∀ d ∈ tables_1, d.before a0 Z = true) (ws : List Jvm.Cond) (w_NONE k_NONE : Addr) (W : own_W Z w_NONE k_NONE) (c0 : Addr) (c1 : Addr) (k_c1 : ClassId) (c2 : Addr) (k_c2 : ClassId) (c3 : Addr) (k_c3 : ClassId) (y0 : Int64) (y1 : Int64) (y2 : Int64) (y3 : Int64) (y4 : Int64) (y5 : Int64) (y6 : Int64) (h0 : Heap) (n0 : Nat) (O0 : Old Z n0 h0) (E_c0 : Exa Z h0 c0 "com/example/meter/meter/store/Spans") (F_c0_droppedTotal : Fld Z h0 c0 "com/example/meter/meter/store/Spans" "droppedTotal" "J" (.long y1)) (F_c0_end : Fld Z h0 c0 "com/example/meter/meter/store/Spans" "end" "I" (.int (3 : Int32))) (F_c0_firsts : Fld Z h0 c0 "com/example/meter/meter/store/Spans" "firsts" "[J" (.ref c1)) (F_c0_head : Fld Z h0 c0 "com/example/meter/meter/store/Spans" "head" "I" (.int (1 : Int32))) (F_c0_lasts : Fld Z h0 c0 "com/example/meter/meter/store/Spans" "lasts" "[J" (.ref c2)) (F_c0_totals : Fld Z h0 c0 "com/example/meter/meter/store/Spans" "totals" "[J" (.ref c3)) (n_c0 : n0 ≤ c0) (V_c1 : Arv Z h0 c1 k_c1 .long (16 : Int32) [(.long y2), (.long y3), (.long y4), (.long (0 : Int64))] (.long (0 : Int64))) (n_c1 : n0 ≤ c1) (V_c2 : Arv Z h0 c2 k_c2 .long (16 : Int32) [(.long y2), (.long y3), (.long y4), (.long (0 : Int64))] (.long (0 : Int64))) (n_c2 : n0 ≤ c2) (V_c3 : Arv Z h0 c3 k_c3 .long (16 : Int32) [(.long y1), (.long y5), (.long y6), (.long (0 : Int64))] (.long (0 : Int64))) (n_c3 : n0 ≤ c3) (ne_c0_c1 : c0 ≠ c1) (ne_c0_c2 : c0 ≠ c2) (ne_c0_c3 : c0 ≠ c3) (ne_c1_c2 : c1 ≠ c2) (ne_c1_c3 : c1 ≠ c3) (ne_c2_c3 : c2 ≠ c3) (hc356 : y0 < y3) :
    MetFree l (⟨"com/example/meter/meter/store/Spans", "endsAfter", "(J)Z"⟩ : MethodName) (head1 (Jvm.Cond.code (⟨"com/example/meter/meter/store/Spans", "endsAfter", "(J)Z"⟩ : MethodName) prog_11_method_8_code 3 (some .boolean) :: ws) ({ frames := 0, cells := 0, slots := 0, locals := 0 } : Room)) (fun a U => a = #[(.ref c0), (.long y0)] ∧ Z.Warmed39 U.vm ∧ U.heap = h0) (fun _ _ _ _ _ => True) (fun _ U o U' => ∃ v L, o = .returned v ∧ own_Q (some (.int (1 : Int32))) n0 h0 v U'.heap L ∧ FrameEnd U o U' L ({ frames := 0, cells := 0, slots := 0, locals := 0 } : Room).cells ({ frames := 0, cells := 0, slots := 0, locals := 0 } : Room).slots) := by
  refine MetFree.of_bodySF (plainFor_of_name pn_0) hisR ?_
  intro p e s m args below meth c s₁ Bd hml0 hP hK
  obtain ⟨rfl, hZ, hh⟩ := hP
  have hx := Bd.exec
  have hby := Bd.bytes
  have hml : c.maxLocals = 3 := hml0
  have hlk := BodyLoose.notSynchronized Bd
  have hret := Bd.returns
  have hown : s.vm.findClass "com/example/meter/meter/store/Spans" = some m.cls := findClass_of_methodNamed Bd.named
  have hnm := (name_of_methodNamed Bd.named Bd.method).1
  have X0 : Stand p l e ({ frames := 0, cells := 0, slots := 0, locals := 0 } : Room) s m #[(.ref c0), (.long y0)] below meth c s₁ [] 0 0 := Stand.of_body Bd
  have e0 : s₁.heap = h0 := by rw [← hh, Bd.state]; rfl
  have N0 := Fr.nil n0
  rw [ef_12 m c0 y0]
  show Go p e below _ (s₁.setTop (mkF m 0 #[oA c0, oJ y0, oS] []))
  refine own_aload_n 1 X0 hx hby d12_0 rfl rfl rfl ?_
  refine own_getF 4 X0 hx hby hZ hown (own_w hw 32 rfl) e0 F_c0_head d12_1 rfl ?_
  intro T352 X352 e352
  refine own_aload_n 5 X352 hx hby d12_4 rfl rfl rfl ?_
  refine own_getF 8 X352 hx hby hZ hown (own_w hw 26 rfl) e352 F_c0_end d12_5 rfl ?_
  intro T353 X353 e353
  refine own_icN 11 X353 hx hby d12_8 rfl (by decide) ?_
  refine own_aload_n 12 X353 hx hby d12_11 rfl rfl rfl ?_
  refine own_getF 15 X353 hx hby hZ hown (own_w hw 17 rfl) e353 F_c0_lasts d12_12 rfl ?_
  intro T354 X354 e354
  refine own_aload_n 16 X354 hx hby d12_15 rfl rfl rfl ?_
  refine own_getF 19 X354 hx hby hZ hown (own_w hw 32 rfl) e354 F_c0_head d12_16 rfl ?_
  intro T355 X355 e355
  refine own_laload 20 (.long y3) X355 hx hby hZ e355 V_c2 d12_19 rfl (by decide) rfl ?_
  refine own_lload_n 21 X355 hx hby d12_20 rfl rfl ?_
  refine own_lcmp 22 (XT.cmpL y3 y0) X355 hx hby d12_21 rfl rfl ?_
  refine own_ifN 25 X355 hx hby d12_22 rfl (own_tltL hc356).2.2.2 ?_
  refine own_iconst 26 (1 : Int32) X355 hx hby d12_25 rfl (by decide) ?_
  refine own_goto 30 X355 hx hby d12_26 (by decide) (by decide) ?_
  exact own_ret (Q := own_Q (some (.int (1 : Int32))) n0 h0) X355 hx hby hret hlk d12_30 rfl (Or.inl ⟨rfl, by simp, _, rfl⟩) (by decide) (by decide) ⟨rfl, N0, e355⟩
set_option maxRecDepth 65536 in
set_option maxHeartbeats 40000000 in
theorem rm12_67 (l : Launch) (Z : State) (a0 : Array Value) (hw : ∀ d ∈ tables_1, d.before a0 Z = true) (ws : List Jvm.Cond) (w_NONE k_NONE : Addr) (W : own_W Z w_NONE k_NONE) (c0 : Addr) (c1 : Addr) (k_c1 : ClassId) (c2 : Addr) (k_c2 : ClassId) (c3 : Addr) (k_c3 : ClassId) (y0 : Int64) (y1 : Int64) (y2 : Int64) (y3 : Int64) (y4 : Int64) (y5 : Int64) (y6 : Int64) (h0 : Heap) (n0 : Nat) (O0 : Old Z n0 h0) (E_c0 : Exa Z h0 c0 "com/example/meter/meter/store/Spans") (F_c0_droppedTotal : Fld Z h0 c0 "com/example/meter/meter/store/Spans" "droppedTotal" "J" (.long y1)) (F_c0_end : Fld Z h0 c0 "com/example/meter/meter/store/Spans" "end" "I" (.int (3 : Int32))) (F_c0_firsts : Fld Z h0 c0 "com/example/meter/meter/store/Spans" "firsts" "[J" (.ref c1)) (F_c0_head : Fld Z h0 c0 "com/example/meter/meter/store/Spans" "head" "I" (.int (1 : Int32))) (F_c0_lasts : Fld Z h0 c0 "com/example/meter/meter/store/Spans" "lasts" "[J" (.ref c2)) (F_c0_totals : Fld Z h0 c0 "com/example/meter/meter/store/Spans" "totals" "[J" (.ref c3)) (n_c0 : n0 ≤ c0) (V_c1 : Arv Z h0 c1 k_c1 .long (16 : Int32) [(.long y2), (.long y3), (.long y4), (.long (0 : Int64))] (.long (0 : Int64))) (n_c1 : n0 ≤ c1) (V_c2 : Arv Z h0 c2 k_c2 .long (16 : Int32) [(.long y2), (.long y3), (.long y4), (.long (0 : Int64))] (.long (0 : Int64))) (n_c2 : n0 ≤ c2) (V_c3 : Arv Z h0 c3 k_c3 .long (16 : Int32) [(.long y1), (.long y5), (.long y6), (.long (0 : Int64))] (.long (0 : Int64))) (n_c3 : n0 ≤ c3) (ne_c0_c1 : c0 ≠ c1) (ne_c0_c2 : c0 ≠ c2) (ne_c0_c3 : c0 ≠ c3) (ne_c1_c2 : c1 ≠ c2) (ne_c1_c3 : c1 ≠ c3) (ne_c2_c3 : c2 ≠ c3) (hc356 : ¬ (y0 < y3)) :
    MetFree l (⟨"com/example/meter/meter/store/Spans", "endsAfter", "(J)Z"⟩ : MethodName) (head1 (Jvm.Cond.code (⟨"com/example/meter/meter/store/Spans", "endsAfter", "(J)Z"⟩ : MethodName) prog_11_method_8_code 3 (some .boolean) :: ws) ({ frames := 0, cells := 0, slots := 0, locals := 0 } : Room)) (fun a U => a = #[(.ref c0), (.long y0)] ∧ Z.Warmed39 U.vm ∧ U.heap = h0) (fun _ _ _ _ _ => True) (fun _ U o U' => ∃ v L, o = .returned v ∧ own_Q (some (.int (0 : Int32))) n0 h0 v U'.heap L ∧ FrameEnd U o U' L ({ frames := 0, cells := 0, slots := 0, locals := 0 } : Room).cells ({ frames := 0, cells := 0, slots := 0, locals := 0 } : Room).slots) := by
  refine MetFree.of_bodySF (plainFor_of_name pn_0) hisR ?_
  intro p e s m args below meth c s₁ Bd hml0 hP hK
  obtain ⟨rfl, hZ, hh⟩ := hP
  have hx := Bd.exec
  have hby := Bd.bytes
  have hml : c.maxLocals = 3 := hml0
  have hlk := BodyLoose.notSynchronized Bd
  have hret := Bd.returns
  have hown : s.vm.findClass "com/example/meter/meter/store/Spans" = some m.cls := findClass_of_methodNamed Bd.named
  have hnm := (name_of_methodNamed Bd.named Bd.method).1
  have X0 : Stand p l e ({ frames := 0, cells := 0, slots := 0, locals := 0 } : Room) s m #[(.ref c0), (.long y0)] below meth c s₁ [] 0 0 := Stand.of_body Bd
  have e0 : s₁.heap = h0 := by rw [← hh, Bd.state]; rfl
  have N0 := Fr.nil n0
  rw [ef_12 m c0 y0]
  show Go p e below _ (s₁.setTop (mkF m 0 #[oA c0, oJ y0, oS] []))
  refine own_aload_n 1 X0 hx hby d12_0 rfl rfl rfl ?_
  refine own_getF 4 X0 hx hby hZ hown (own_w hw 32 rfl) e0 F_c0_head d12_1 rfl ?_
  intro T352 X352 e352
  refine own_aload_n 5 X352 hx hby d12_4 rfl rfl rfl ?_
  refine own_getF 8 X352 hx hby hZ hown (own_w hw 26 rfl) e352 F_c0_end d12_5 rfl ?_
  intro T353 X353 e353
  refine own_icN 11 X353 hx hby d12_8 rfl (by decide) ?_
  refine own_aload_n 12 X353 hx hby d12_11 rfl rfl rfl ?_
  refine own_getF 15 X353 hx hby hZ hown (own_w hw 17 rfl) e353 F_c0_lasts d12_12 rfl ?_
  intro T354 X354 e354
  refine own_aload_n 16 X354 hx hby d12_15 rfl rfl rfl ?_
  refine own_getF 19 X354 hx hby hZ hown (own_w hw 32 rfl) e354 F_c0_head d12_16 rfl ?_
  intro T355 X355 e355
  refine own_laload 20 (.long y3) X355 hx hby hZ e355 V_c2 d12_19 rfl (by decide) rfl ?_
  refine own_lload_n 21 X355 hx hby d12_20 rfl rfl ?_
  refine own_lcmp 22 (XT.cmpL y3 y0) X355 hx hby d12_21 rfl rfl ?_
  refine own_ifY 29 X355 hx hby d12_22 (by decide) (by decide) (own_fltL hc356).2.2.2 ?_
  refine own_iconst 30 (0 : Int32) X355 hx hby d12_29 rfl (by decide) ?_
  exact own_ret (Q := own_Q (some (.int (0 : Int32))) n0 h0) X355 hx hby hret hlk d12_30 rfl (Or.inl ⟨rfl, by simp, _, rfl⟩) (by decide) (by decide) ⟨rfl, N0, e355⟩
set_option maxRecDepth 65536 in
set_option maxHeartbeats 40000000 in
theorem rm9_68 (l : Launch) (Z : State) (a0 : Array Value) (hw : ∀ d ∈ tables_1, d.before a0 Z = true) (ws : List Jvm.Cond) (w_NONE k_NONE : Addr) (W : own_W Z w_NONE k_NONE) (c0 : Addr) (c1 : Addr) (k_c1 : ClassId) (c2 : Addr) (k_c2 : ClassId) (c3 : Addr) (k_c3 : ClassId) (y0 : Int64) (y1 : Int64) (y2 : Int64) (y3 : Int64) (y4 : Int64) (y5 : Int64) (h0 : Heap) (n0 : Nat) (O0 : Old Z n0 h0) (E_c0 : Exa Z h0 c0 "com/example/meter/meter/store/Spans") (F_c0_droppedTotal : Fld Z h0 c0 "com/example/meter/meter/store/Spans" "droppedTotal" "J" (.long y0)) (F_c0_end : Fld Z h0 c0 "com/example/meter/meter/store/Spans" "end" "I" (.int (3 : Int32))) (F_c0_firsts : Fld Z h0 c0 "com/example/meter/meter/store/Spans" "firsts" "[J" (.ref c1)) (F_c0_head : Fld Z h0 c0 "com/example/meter/meter/store/Spans" "head" "I" (.int (2 : Int32))) (F_c0_lasts : Fld Z h0 c0 "com/example/meter/meter/store/Spans" "lasts" "[J" (.ref c2)) (F_c0_totals : Fld Z h0 c0 "com/example/meter/meter/store/Spans" "totals" "[J" (.ref c3)) (n_c0 : n0 ≤ c0) (V_c1 : Arv Z h0 c1 k_c1 .long (16 : Int32) [(.long y1), (.long y2), (.long y3), (.long (0 : Int64))] (.long (0 : Int64))) (n_c1 : n0 ≤ c1) (V_c2 : Arv Z h0 c2 k_c2 .long (16 : Int32) [(.long y1), (.long y2), (.long y3), (.long (0 : Int64))] (.long (0 : Int64))) (n_c2 : n0 ≤ c2) (V_c3 : Arv Z h0 c3 k_c3 .long (16 : Int32) [(.long y4), (.long y0), (.long y5), (.long (0 : Int64))] (.long (0 : Int64))) (n_c3 : n0 ≤ c3) (ne_c0_c1 : c0 ≠ c1) (ne_c0_c2 : c0 ≠ c2) (ne_c0_c3 : c0 ≠ c3) (ne_c1_c2 : c1 ≠ c2) (ne_c1_c3 : c1 ≠ c3) (ne_c2_c3 : c2 ≠ c3) :
    MetFree l (⟨"com/example/meter/meter/store/Spans", "size", "()I"⟩ : MethodName) (head1 (Jvm.Cond.code (⟨"com/example/meter/meter/store/Spans", "size", "()I"⟩ : MethodName) prog_11_method_5_code 1 (some .int) :: ws) ({ frames := 0, cells := 0, slots := 0, locals := 0 } : Room)) (fun a U => a = #[(.ref c0)] ∧ Z.Warmed39 U.vm ∧ U.heap = h0) (fun _ _ _ _ _ => True) (fun _ U o U' => ∃ v L, o = .returned v ∧ own_Q (some (.int (1 : Int32))) n0 h0 v U'.heap L ∧ FrameEnd U o U' L ({ frames := 0, cells := 0, slots := 0, locals := 0 } : Room).cells ({ frames := 0, cells := 0, slots := 0, locals := 0 } : Room).slots) := by
  refine MetFree.of_bodySF (plainFor_of_name pn_0) hisR ?_
  intro p e s m args below meth c s₁ Bd hml0 hP hK
  obtain ⟨rfl, hZ, hh⟩ := hP
  have hx := Bd.exec
  have hby := Bd.bytes
  have hml : c.maxLocals = 1 := hml0
  have hlk := BodyLoose.notSynchronized Bd
  have hret := Bd.returns
  have hown : s.vm.findClass "com/example/meter/meter/store/Spans" = some m.cls := findClass_of_methodNamed Bd.named
  have hnm := (name_of_methodNamed Bd.named Bd.method).1
  have X0 : Stand p l e ({ frames := 0, cells := 0, slots := 0, locals := 0 } : Room) s m #[(.ref c0)] below meth c s₁ [] 0 0 := Stand.of_body Bd
  have e0 : s₁.heap = h0 := by rw [← hh, Bd.state]; rfl
  have N0 := Fr.nil n0
  rw [ef_9 m c0]
  show Go p e below _ (s₁.setTop (mkF m 0 #[oA c0] []))
  refine own_aload_n 1 X0 hx hby d9_0 rfl rfl rfl ?_
  refine own_getF 4 X0 hx hby hZ hown (own_w hw 26 rfl) e0 F_c0_end d9_1 rfl ?_
  intro T361 X361 e361
  refine own_aload_n 5 X361 hx hby d9_4 rfl rfl rfl ?_
  refine own_getF 8 X361 hx hby hZ hown (own_w hw 32 rfl) e361 F_c0_head d9_5 rfl ?_
  intro T362 X362 e362
  refine own_isub 9 (1 : Int32) X362 hx hby d9_8 rfl (by decide) ?_
  exact own_ret (Q := own_Q (some (.int (1 : Int32))) n0 h0) X362 hx hby hret hlk d9_9 rfl (Or.inl ⟨rfl, by simp, _, rfl⟩) (by decide) (by decide) ⟨rfl, N0, e362⟩
set_option maxRecDepth 65536 in
set_option maxHeartbeats 40000000 in
theorem rm7_69 (l : Launch) (Z : State) (a0 : Array Value) (hw : ∀ d ∈ tables_1, d.before a0 Z = true) (ws : List Jvm.Cond) (w_NONE k_NONE : Addr) (W : own_W Z w_NONE k_NONE) (c0 : Addr) (c1 : Addr) (k_c1 : ClassId) (c2 : Addr) (k_c2 : ClassId) (c3 : Addr) (k_c3 : ClassId) (y0 : Int64) (y1 : Int64) (y2 : Int64) (y3 : Int64) (y4 : Int64) (y5 : Int64) (h0 : Heap) (n0 : Nat) (O0 : Old Z n0 h0) (E_c0 : Exa Z h0 c0 "com/example/meter/meter/store/Spans") (F_c0_droppedTotal : Fld Z h0 c0 "com/example/meter/meter/store/Spans" "droppedTotal" "J" (.long y0)) (F_c0_end : Fld Z h0 c0 "com/example/meter/meter/store/Spans" "end" "I" (.int (3 : Int32))) (F_c0_firsts : Fld Z h0 c0 "com/example/meter/meter/store/Spans" "firsts" "[J" (.ref c1)) (F_c0_head : Fld Z h0 c0 "com/example/meter/meter/store/Spans" "head" "I" (.int (2 : Int32))) (F_c0_lasts : Fld Z h0 c0 "com/example/meter/meter/store/Spans" "lasts" "[J" (.ref c2)) (F_c0_totals : Fld Z h0 c0 "com/example/meter/meter/store/Spans" "totals" "[J" (.ref c3)) (n_c0 : n0 ≤ c0) (V_c1 : Arv Z h0 c1 k_c1 .long (16 : Int32) [(.long y1), (.long y2), (.long y3), (.long (0 : Int64))] (.long (0 : Int64))) (n_c1 : n0 ≤ c1) (V_c2 : Arv Z h0 c2 k_c2 .long (16 : Int32) [(.long y1), (.long y2), (.long y3), (.long (0 : Int64))] (.long (0 : Int64))) (n_c2 : n0 ≤ c2) (V_c3 : Arv Z h0 c3 k_c3 .long (16 : Int32) [(.long y4), (.long y0), (.long y5), (.long (0 : Int64))] (.long (0 : Int64))) (n_c3 : n0 ≤ c3) (ne_c0_c1 : c0 ≠ c1) (ne_c0_c2 : c0 ≠ c2) (ne_c0_c3 : c0 ≠ c3) (ne_c1_c2 : c1 ≠ c2) (ne_c1_c3 : c1 ≠ c3) (ne_c2_c3 : c2 ≠ c3) :
    MetFree l (⟨"com/example/meter/meter/store/Spans", "totalBefore", "(I)J"⟩ : MethodName) (head1 (Jvm.Cond.code (⟨"com/example/meter/meter/store/Spans", "totalBefore", "(I)J"⟩ : MethodName) prog_11_method_14_code 2 (some .long) :: ws) ({ frames := 0, cells := 0, slots := 0, locals := 0 } : Room)) (fun a U => a = #[(.ref c0), (.int (3 : Int32))] ∧ Z.Warmed39 U.vm ∧ U.heap = h0) (fun _ _ _ _ _ => True) (fun _ U o U' => ∃ v L, o = .returned v ∧ own_Q (some (.long y5)) n0 h0 v U'.heap L ∧ FrameEnd U o U' L ({ frames := 0, cells := 0, slots := 0, locals := 0 } : Room).cells ({ frames := 0, cells := 0, slots := 0, locals := 0 } : Room).slots) := by
  refine MetFree.of_bodySF (plainFor_of_name pn_0) hisR ?_
  intro p e s m args below meth c s₁ Bd hml0 hP hK
  obtain ⟨rfl, hZ, hh⟩ := hP
  have hx := Bd.exec
  have hby := Bd.bytes
  have hml : c.maxLocals = 2 := hml0
  have hlk := BodyLoose.notSynchronized Bd
  have hret := Bd.returns
  have hown : s.vm.findClass "com/example/meter/meter/store/Spans" = some m.cls := findClass_of_methodNamed Bd.named
  have hnm := (name_of_methodNamed Bd.named Bd.method).1
  have X0 : Stand p l e ({ frames := 0, cells := 0, slots := 0, locals := 0 } : Room) s m #[(.ref c0), (.int (3 : Int32))] below meth c s₁ [] 0 0 := Stand.of_body Bd
  have e0 : s₁.heap = h0 := by rw [← hh, Bd.state]; rfl
  have N0 := Fr.nil n0
  rw [ef_7 m c0 (3 : Int32)]
  show Go p e below _ (s₁.setTop (mkF m 0 #[oA c0, oI (3 : Int32)] []))
  refine own_iload_n 1 X0 hx hby d7_0 rfl rfl ?_
  refine own_aload_n 2 X0 hx hby d7_1 rfl rfl rfl ?_
  refine own_getF 5 X0 hx hby hZ hown (own_w hw 32 rfl) e0 F_c0_head d7_2 rfl ?_
  intro T365 X365 e365
  refine own_icY 15 X365 hx hby d7_5 (by decide) (by decide) (by decide) ?_
  refine own_aload_n 16 X365 hx hby d7_15 rfl rfl rfl ?_
  refine own_getF 19 X365 hx hby hZ hown (own_w hw 19 rfl) e365 F_c0_totals d7_16 rfl ?_
  intro T366 X366 e366
  refine own_iload_n 20 X366 hx hby d7_19 rfl rfl ?_
  refine own_iconst 21 (1 : Int32) X366 hx hby d7_20 rfl (by decide) ?_
  refine own_isub 22 (2 : Int32) X366 hx hby d7_21 rfl (by decide) ?_
  refine own_laload 23 (.long y5) X366 hx hby hZ e366 V_c3 d7_22 rfl (by decide) rfl ?_
  exact own_ret (Q := own_Q (some (.long y5)) n0 h0) X366 hx hby hret hlk d7_23 rfl (Or.inr (Or.inl ⟨rfl, rfl, _, rfl⟩)) (by decide) (by decide) ⟨rfl, N0, e366⟩
set_option maxRecDepth 65536 in
set_option maxHeartbeats 40000000 in
theorem rm10_70 (l : Launch) (Z : State) (a0 : Array Value) (hw : ∀ d ∈ tables_1, d.before a0 Z = true) (ws : List Jvm.Cond) (w_NONE k_NONE : Addr) (W : own_W Z w_NONE k_NONE) (c0 : Addr) (c1 : Addr) (k_c1 : ClassId) (c2 : Addr) (k_c2 : ClassId) (c3 : Addr) (k_c3 : ClassId) (y0 : Int64) (y1 : Int64) (y2 : Int64) (y3 : Int64) (y4 : Int64) (y5 : Int64) (h0 : Heap) (n0 : Nat) (O0 : Old Z n0 h0) (E_c0 : Exa Z h0 c0 "com/example/meter/meter/store/Spans") (F_c0_droppedTotal : Fld Z h0 c0 "com/example/meter/meter/store/Spans" "droppedTotal" "J" (.long y0)) (F_c0_end : Fld Z h0 c0 "com/example/meter/meter/store/Spans" "end" "I" (.int (3 : Int32))) (F_c0_firsts : Fld Z h0 c0 "com/example/meter/meter/store/Spans" "firsts" "[J" (.ref c1)) (F_c0_head : Fld Z h0 c0 "com/example/meter/meter/store/Spans" "head" "I" (.int (2 : Int32))) (F_c0_lasts : Fld Z h0 c0 "com/example/meter/meter/store/Spans" "lasts" "[J" (.ref c2)) (F_c0_totals : Fld Z h0 c0 "com/example/meter/meter/store/Spans" "totals" "[J" (.ref c3)) (n_c0 : n0 ≤ c0) (V_c1 : Arv Z h0 c1 k_c1 .long (16 : Int32) [(.long y1), (.long y2), (.long y3), (.long (0 : Int64))] (.long (0 : Int64))) (n_c1 : n0 ≤ c1) (V_c2 : Arv Z h0 c2 k_c2 .long (16 : Int32) [(.long y1), (.long y2), (.long y3), (.long (0 : Int64))] (.long (0 : Int64))) (n_c2 : n0 ≤ c2) (V_c3 : Arv Z h0 c3 k_c3 .long (16 : Int32) [(.long y4), (.long y0), (.long y5), (.long (0 : Int64))] (.long (0 : Int64))) (n_c3 : n0 ≤ c3) (ne_c0_c1 : c0 ≠ c1) (ne_c0_c2 : c0 ≠ c2) (ne_c0_c3 : c0 ≠ c3) (ne_c1_c2 : c1 ≠ c2) (ne_c1_c3 : c1 ≠ c3) (ne_c2_c3 : c2 ≠ c3) :
    MetFree l (⟨"com/example/meter/meter/store/Spans", "hits", "()J"⟩ : MethodName) (head1 (Jvm.Cond.code (⟨"com/example/meter/meter/store/Spans", "hits", "()J"⟩ : MethodName) prog_11_method_6_code 1 (some .long) :: ws) ({ frames := 1, cells := 0, slots := 0, locals := 13 } : Room)) (fun a U => a = #[(.ref c0)] ∧ Z.Warmed39 U.vm ∧ U.heap = h0) (fun _ _ _ _ _ => True) (fun _ U o U' => ∃ v L, o = .returned v ∧ own_Q (some (.long (y5 - y0))) n0 h0 v U'.heap L ∧ FrameEnd U o U' L ({ frames := 1, cells := 0, slots := 0, locals := 13 } : Room).cells ({ frames := 1, cells := 0, slots := 0, locals := 13 } : Room).slots) := by
  refine MetFree.of_bodySF (plainFor_of_name pn_0) hisR ?_
  intro p e s m args below meth c s₁ Bd hml0 hP hK
  obtain ⟨rfl, hZ, hh⟩ := hP
  have hx := Bd.exec
  have hby := Bd.bytes
  have hml : c.maxLocals = 1 := hml0
  have hlk := BodyLoose.notSynchronized Bd
  have hret := Bd.returns
  have hown : s.vm.findClass "com/example/meter/meter/store/Spans" = some m.cls := findClass_of_methodNamed Bd.named
  have hnm := (name_of_methodNamed Bd.named Bd.method).1
  have X0 : Stand p l e ({ frames := 1, cells := 0, slots := 0, locals := 13 } : Room) s m #[(.ref c0)] below meth c s₁ [] 0 0 := Stand.of_body Bd
  have e0 : s₁.heap = h0 := by rw [← hh, Bd.state]; rfl
  have N0 := Fr.nil n0
  rw [ef_10 m c0]
  show Go p e below _ (s₁.setTop (mkF m 0 #[oA c0] []))
  refine own_aload_n 1 X0 hx hby d10_0 rfl rfl rfl ?_
  refine own_aload_n 2 X0 hx hby d10_1 rfl rfl rfl ?_
  refine own_getF 5 X0 hx hby hZ hown (own_w hw 26 rfl) e0 F_c0_end d10_2 rfl ?_
  intro T364 X364 e364
  refine own_priv (W := 0) 8 (rm7_69 l Z a0 hw [] w_NONE k_NONE W c0 c1 k_c1 c2 k_c2 c3 k_c3 y0 y1 y2 y3 y4 y5 h0 n0 O0 E_c0 F_c0_droppedTotal F_c0_end F_c0_firsts F_c0_head F_c0_lasts F_c0_totals n_c0 V_c1 n_c1 V_c2 n_c2 V_c3 n_c3 ne_c0_c1 ne_c0_c2 ne_c0_c3 ne_c1_c2 ne_c1_c3 ne_c2_c3) X364 hx hby hZ hown (own_w hw 47 rfl) (own_w hw 48 rfl) (own_w hw 49 rfl) (own_w hw 24 rfl) (own_w hw 6 rfl) (own_w hw 50 rfl) rfl (by decide) (by rw [hml]; rfl) c0 [(.int (3 : Int32))] [] pd_3 rfl d10_5 rfl e364 E_c0 rfl rfl rfl (by decide) (by decide) (by decide) (by decide) ?_
  rintro _ T367 L367 X367 ⟨rfl, N367, e367⟩
  have N367 := Fr.app N0 N367
  show Go p e below _ (T367.setTop (mkF m 8 _ [(.long y5)]))
  refine own_aload_n 9 X367 hx hby d10_8 rfl rfl rfl ?_
  refine own_getF 12 X367 hx hby hZ hown (own_w hw 51 rfl) e367 F_c0_droppedTotal d10_9 rfl ?_
  intro T368 X368 e368
  refine own_lsub 13 (y5 - y0) X368 hx hby d10_12 rfl rfl ?_
  exact own_ret (Q := own_Q (some (.long (y5 - y0))) n0 h0) X368 hx hby hret hlk d10_13 rfl (Or.inr (Or.inl ⟨rfl, rfl, _, rfl⟩)) (by decide) (by decide) ⟨rfl, N367, e368⟩
set_option maxRecDepth 65536 in
set_option maxHeartbeats 40000000 in
theorem rm11_71 (l : Launch) (Z : State) (a0 : Array Value) (hw : ∀ d ∈ tables_1, d.before a0 Z = true) (ws : List Jvm.Cond) (w_NONE k_NONE : Addr) (W : own_W Z w_NONE k_NONE) (c0 : Addr) (c1 : Addr) (k_c1 : ClassId) (c2 : Addr) (k_c2 : ClassId) (c3 : Addr) (k_c3 : ClassId) (y0 : Int64) (y1 : Int64) (y2 : Int64) (y3 : Int64) (y4 : Int64) (y5 : Int64) (h0 : Heap) (n0 : Nat) (O0 : Old Z n0 h0) (E_c0 : Exa Z h0 c0 "com/example/meter/meter/store/Spans") (F_c0_droppedTotal : Fld Z h0 c0 "com/example/meter/meter/store/Spans" "droppedTotal" "J" (.long y0)) (F_c0_end : Fld Z h0 c0 "com/example/meter/meter/store/Spans" "end" "I" (.int (3 : Int32))) (F_c0_firsts : Fld Z h0 c0 "com/example/meter/meter/store/Spans" "firsts" "[J" (.ref c1)) (F_c0_head : Fld Z h0 c0 "com/example/meter/meter/store/Spans" "head" "I" (.int (2 : Int32))) (F_c0_lasts : Fld Z h0 c0 "com/example/meter/meter/store/Spans" "lasts" "[J" (.ref c2)) (F_c0_totals : Fld Z h0 c0 "com/example/meter/meter/store/Spans" "totals" "[J" (.ref c3)) (n_c0 : n0 ≤ c0) (V_c1 : Arv Z h0 c1 k_c1 .long (16 : Int32) [(.long y1), (.long y2), (.long y3), (.long (0 : Int64))] (.long (0 : Int64))) (n_c1 : n0 ≤ c1) (V_c2 : Arv Z h0 c2 k_c2 .long (16 : Int32) [(.long y1), (.long y2), (.long y3), (.long (0 : Int64))] (.long (0 : Int64))) (n_c2 : n0 ≤ c2) (V_c3 : Arv Z h0 c3 k_c3 .long (16 : Int32) [(.long y4), (.long y0), (.long y5), (.long (0 : Int64))] (.long (0 : Int64))) (n_c3 : n0 ≤ c3) (ne_c0_c1 : c0 ≠ c1) (ne_c0_c2 : c0 ≠ c2) (ne_c0_c3 : c0 ≠ c3) (ne_c1_c2 : c1 ≠ c2) (ne_c1_c3 : c1 ≠ c3) (ne_c2_c3 : c2 ≠ c3) :
    MetFree l (⟨"com/example/meter/meter/store/Spans", "newestSecond", "()J"⟩ : MethodName) (head1 (Jvm.Cond.code (⟨"com/example/meter/meter/store/Spans", "newestSecond", "()J"⟩ : MethodName) prog_11_method_7_code 1 (some .long) :: ws) ({ frames := 0, cells := 0, slots := 0, locals := 0 } : Room)) (fun a U => a = #[(.ref c0)] ∧ Z.Warmed39 U.vm ∧ U.heap = h0) (fun _ _ _ _ _ => True) (fun _ U o U' => ∃ v L, o = .returned v ∧ own_Q (some (.long y3)) n0 h0 v U'.heap L ∧ FrameEnd U o U' L ({ frames := 0, cells := 0, slots := 0, locals := 0 } : Room).cells ({ frames := 0, cells := 0, slots := 0, locals := 0 } : Room).slots) := by
  refine MetFree.of_bodySF (plainFor_of_name pn_0) hisR ?_
  intro p e s m args below meth c s₁ Bd hml0 hP hK
  obtain ⟨rfl, hZ, hh⟩ := hP
  have hx := Bd.exec
  have hby := Bd.bytes
  have hml : c.maxLocals = 1 := hml0
  have hlk := BodyLoose.notSynchronized Bd
  have hret := Bd.returns
  have hown : s.vm.findClass "com/example/meter/meter/store/Spans" = some m.cls := findClass_of_methodNamed Bd.named
  have hnm := (name_of_methodNamed Bd.named Bd.method).1
  have X0 : Stand p l e ({ frames := 0, cells := 0, slots := 0, locals := 0 } : Room) s m #[(.ref c0)] below meth c s₁ [] 0 0 := Stand.of_body Bd
  have e0 : s₁.heap = h0 := by rw [← hh, Bd.state]; rfl
  have N0 := Fr.nil n0
  rw [ef_11 m c0]
  show Go p e below _ (s₁.setTop (mkF m 0 #[oA c0] []))
  refine own_aload_n 1 X0 hx hby d11_0 rfl rfl rfl ?_
  refine own_getF 4 X0 hx hby hZ hown (own_w hw 32 rfl) e0 F_c0_head d11_1 rfl ?_
  intro T370 X370 e370
  refine own_aload_n 5 X370 hx hby d11_4 rfl rfl rfl ?_
  refine own_getF 8 X370 hx hby hZ hown (own_w hw 26 rfl) e370 F_c0_end d11_5 rfl ?_
  intro T371 X371 e371
  refine own_icY 17 X371 hx hby d11_8 (by decide) (by decide) (by decide) ?_
  refine own_aload_n 18 X371 hx hby d11_17 rfl rfl rfl ?_
  refine own_getF 21 X371 hx hby hZ hown (own_w hw 17 rfl) e371 F_c0_lasts d11_18 rfl ?_
  intro T372 X372 e372
  refine own_aload_n 22 X372 hx hby d11_21 rfl rfl rfl ?_
  refine own_getF 25 X372 hx hby hZ hown (own_w hw 26 rfl) e372 F_c0_end d11_22 rfl ?_
  intro T373 X373 e373
  refine own_iconst 26 (1 : Int32) X373 hx hby d11_25 rfl (by decide) ?_
  refine own_isub 27 (2 : Int32) X373 hx hby d11_26 rfl (by decide) ?_
  refine own_laload 28 (.long y3) X373 hx hby hZ e373 V_c2 d11_27 rfl (by decide) rfl ?_
  exact own_ret (Q := own_Q (some (.long y3)) n0 h0) X373 hx hby hret hlk d11_28 rfl (Or.inr (Or.inl ⟨rfl, rfl, _, rfl⟩)) (by decide) (by decide) ⟨rfl, N0, e373⟩
set_option maxRecDepth 65536 in
set_option maxHeartbeats 40000000 in
theorem rm12_72 (l : Launch) (Z : State) (a0 : Array Value) (hw : ∀ d ∈ tables_1, d.before a0 Z = true) (ws : List Jvm.Cond) (w_NONE k_NONE : Addr) (W : own_W Z w_NONE k_NONE) (c0 : Addr) (c1 : Addr) (k_c1 : ClassId) (c2 : Addr) (k_c2 : ClassId) (c3 : Addr) (k_c3 : ClassId) (y0 : Int64) (y1 : Int64) (y2 : Int64) (y3 : Int64) (y4 : Int64) (y5 : Int64) (y6 : Int64) (h0 : Heap) (n0 : Nat) (O0 : Old Z n0 h0) (E_c0 : Exa Z h0 c0 "com/example/meter/meter/store/Spans") (F_c0_droppedTotal : Fld Z h0 c0 "com/example/meter/meter/store/Spans" "droppedTotal" "J" (.long y1)) (F_c0_end : Fld Z h0 c0 "com/example/meter/meter/store/Spans" "end" "I" (.int (3 : Int32))) (F_c0_firsts : Fld Z h0 c0 "com/example/meter/meter/store/Spans" "firsts" "[J" (.ref c1)) (F_c0_head : Fld Z h0 c0 "com/example/meter/meter/store/Spans" "head" "I" (.int (2 : Int32))) (F_c0_lasts : Fld Z h0 c0 "com/example/meter/meter/store/Spans" "lasts" "[J" (.ref c2)) (F_c0_totals : Fld Z h0 c0 "com/example/meter/meter/store/Spans" "totals" "[J" (.ref c3)) (n_c0 : n0 ≤ c0) (V_c1 : Arv Z h0 c1 k_c1 .long (16 : Int32) [(.long y2), (.long y3), (.long y4), (.long (0 : Int64))] (.long (0 : Int64))) (n_c1 : n0 ≤ c1) (V_c2 : Arv Z h0 c2 k_c2 .long (16 : Int32) [(.long y2), (.long y3), (.long y4), (.long (0 : Int64))] (.long (0 : Int64))) (n_c2 : n0 ≤ c2) (V_c3 : Arv Z h0 c3 k_c3 .long (16 : Int32) [(.long y5), (.long y1), (.long y6), (.long (0 : Int64))] (.long (0 : Int64))) (n_c3 : n0 ≤ c3) (ne_c0_c1 : c0 ≠ c1) (ne_c0_c2 : c0 ≠ c2) (ne_c0_c3 : c0 ≠ c3) (ne_c1_c2 : c1 ≠ c2) (ne_c1_c3 : c1 ≠ c3) (ne_c2_c3 : c2 ≠ c3) (hc379 : y0 < y4) :
    MetFree l (⟨"com/example/meter/meter/store/Spans", "endsAfter", "(J)Z"⟩ : MethodName) (head1 (Jvm.Cond.code (⟨"com/example/meter/meter/store/Spans", "endsAfter", "(J)Z"⟩ : MethodName) prog_11_method_8_code 3 (some .boolean) :: ws) ({ frames := 0, cells := 0, slots := 0, locals := 0 } : Room)) (fun a U => a = #[(.ref c0), (.long y0)] ∧ Z.Warmed39 U.vm ∧ U.heap = h0) (fun _ _ _ _ _ => True) (fun _ U o U' => ∃ v L, o = .returned v ∧ own_Q (some (.int (1 : Int32))) n0 h0 v U'.heap L ∧ FrameEnd U o U' L ({ frames := 0, cells := 0, slots := 0, locals := 0 } : Room).cells ({ frames := 0, cells := 0, slots := 0, locals := 0 } : Room).slots) := by
  refine MetFree.of_bodySF (plainFor_of_name pn_0) hisR ?_
  intro p e s m args below meth c s₁ Bd hml0 hP hK
  obtain ⟨rfl, hZ, hh⟩ := hP
  have hx := Bd.exec
  have hby := Bd.bytes
  have hml : c.maxLocals = 3 := hml0
  have hlk := BodyLoose.notSynchronized Bd
  have hret := Bd.returns
  have hown : s.vm.findClass "com/example/meter/meter/store/Spans" = some m.cls := findClass_of_methodNamed Bd.named
  have hnm := (name_of_methodNamed Bd.named Bd.method).1
  have X0 : Stand p l e ({ frames := 0, cells := 0, slots := 0, locals := 0 } : Room) s m #[(.ref c0), (.long y0)] below meth c s₁ [] 0 0 := Stand.of_body Bd
  have e0 : s₁.heap = h0 := by rw [← hh, Bd.state]; rfl
  have N0 := Fr.nil n0
  rw [ef_12 m c0 y0]
  show Go p e below _ (s₁.setTop (mkF m 0 #[oA c0, oJ y0, oS] []))
  refine own_aload_n 1 X0 hx hby d12_0 rfl rfl rfl ?_
  refine own_getF 4 X0 hx hby hZ hown (own_w hw 32 rfl) e0 F_c0_head d12_1 rfl ?_
  intro T375 X375 e375
  refine own_aload_n 5 X375 hx hby d12_4 rfl rfl rfl ?_
  refine own_getF 8 X375 hx hby hZ hown (own_w hw 26 rfl) e375 F_c0_end d12_5 rfl ?_
  intro T376 X376 e376
  refine own_icN 11 X376 hx hby d12_8 rfl (by decide) ?_
  refine own_aload_n 12 X376 hx hby d12_11 rfl rfl rfl ?_
  refine own_getF 15 X376 hx hby hZ hown (own_w hw 17 rfl) e376 F_c0_lasts d12_12 rfl ?_
  intro T377 X377 e377
  refine own_aload_n 16 X377 hx hby d12_15 rfl rfl rfl ?_
  refine own_getF 19 X377 hx hby hZ hown (own_w hw 32 rfl) e377 F_c0_head d12_16 rfl ?_
  intro T378 X378 e378
  refine own_laload 20 (.long y4) X378 hx hby hZ e378 V_c2 d12_19 rfl (by decide) rfl ?_
  refine own_lload_n 21 X378 hx hby d12_20 rfl rfl ?_
  refine own_lcmp 22 (XT.cmpL y4 y0) X378 hx hby d12_21 rfl rfl ?_
  refine own_ifN 25 X378 hx hby d12_22 rfl (own_tltL hc379).2.2.2 ?_
  refine own_iconst 26 (1 : Int32) X378 hx hby d12_25 rfl (by decide) ?_
  refine own_goto 30 X378 hx hby d12_26 (by decide) (by decide) ?_
  exact own_ret (Q := own_Q (some (.int (1 : Int32))) n0 h0) X378 hx hby hret hlk d12_30 rfl (Or.inl ⟨rfl, by simp, _, rfl⟩) (by decide) (by decide) ⟨rfl, N0, e378⟩
set_option maxRecDepth 65536 in
set_option maxHeartbeats 40000000 in
theorem rm12_73 (l : Launch) (Z : State) (a0 : Array Value) (hw : ∀ d ∈ tables_1, d.before a0 Z = true) (ws : List Jvm.Cond) (w_NONE k_NONE : Addr) (W : own_W Z w_NONE k_NONE) (c0 : Addr) (c1 : Addr) (k_c1 : ClassId) (c2 : Addr) (k_c2 : ClassId) (c3 : Addr) (k_c3 : ClassId) (y0 : Int64) (y1 : Int64) (y2 : Int64) (y3 : Int64) (y4 : Int64) (y5 : Int64) (y6 : Int64) (h0 : Heap) (n0 : Nat) (O0 : Old Z n0 h0) (E_c0 : Exa Z h0 c0 "com/example/meter/meter/store/Spans") (F_c0_droppedTotal : Fld Z h0 c0 "com/example/meter/meter/store/Spans" "droppedTotal" "J" (.long y1)) (F_c0_end : Fld Z h0 c0 "com/example/meter/meter/store/Spans" "end" "I" (.int (3 : Int32))) (F_c0_firsts : Fld Z h0 c0 "com/example/meter/meter/store/Spans" "firsts" "[J" (.ref c1)) (F_c0_head : Fld Z h0 c0 "com/example/meter/meter/store/Spans" "head" "I" (.int (2 : Int32))) (F_c0_lasts : Fld Z h0 c0 "com/example/meter/meter/store/Spans" "lasts" "[J" (.ref c2)) (F_c0_totals : Fld Z h0 c0 "com/example/meter/meter/store/Spans" "totals" "[J" (.ref c3)) (n_c0 : n0 ≤ c0) (V_c1 : Arv Z h0 c1 k_c1 .long (16 : Int32) [(.long y2), (.long y3), (.long y4), (.long (0 : Int64))] (.long (0 : Int64))) (n_c1 : n0 ≤ c1) (V_c2 : Arv Z h0 c2 k_c2 .long (16 : Int32) [(.long y2), (.long y3), (.long y4), (.long (0 : Int64))] (.long (0 : Int64))) (n_c2 : n0 ≤ c2) (V_c3 : Arv Z h0 c3 k_c3 .long (16 : Int32) [(.long y5), (.long y1), (.long y6), (.long (0 : Int64))] (.long (0 : Int64))) (n_c3 : n0 ≤ c3) (ne_c0_c1 : c0 ≠ c1) (ne_c0_c2 : c0 ≠ c2) (ne_c0_c3 : c0 ≠ c3) (ne_c1_c2 : c1 ≠ c2) (ne_c1_c3 : c1 ≠ c3) (ne_c2_c3 : c2 ≠ c3) (hc379 : ¬ (y0 < y4)) :
    MetFree l (⟨"com/example/meter/meter/store/Spans", "endsAfter", "(J)Z"⟩ : MethodName) (head1 (Jvm.Cond.code (⟨"com/example/meter/meter/store/Spans", "endsAfter", "(J)Z"⟩ : MethodName) prog_11_method_8_code 3 (some .boolean) :: ws) ({ frames := 0, cells := 0, slots := 0, locals := 0 } : Room)) (fun a U => a = #[(.ref c0), (.long y0)] ∧ Z.Warmed39 U.vm ∧ U.heap = h0) (fun _ _ _ _ _ => True) (fun _ U o U' => ∃ v L, o = .returned v ∧ own_Q (some (.int (0 : Int32))) n0 h0 v U'.heap L ∧ FrameEnd U o U' L ({ frames := 0, cells := 0, slots := 0, locals := 0 } : Room).cells ({ frames := 0, cells := 0, slots := 0, locals := 0 } : Room).slots) := by
  refine MetFree.of_bodySF (plainFor_of_name pn_0) hisR ?_
  intro p e s m args below meth c s₁ Bd hml0 hP hK
  obtain ⟨rfl, hZ, hh⟩ := hP
  have hx := Bd.exec
  have hby := Bd.bytes
  have hml : c.maxLocals = 3 := hml0
  have hlk := BodyLoose.notSynchronized Bd
  have hret := Bd.returns
  have hown : s.vm.findClass "com/example/meter/meter/store/Spans" = some m.cls := findClass_of_methodNamed Bd.named
  have hnm := (name_of_methodNamed Bd.named Bd.method).1
  have X0 : Stand p l e ({ frames := 0, cells := 0, slots := 0, locals := 0 } : Room) s m #[(.ref c0), (.long y0)] below meth c s₁ [] 0 0 := Stand.of_body Bd
  have e0 : s₁.heap = h0 := by rw [← hh, Bd.state]; rfl
  have N0 := Fr.nil n0
  rw [ef_12 m c0 y0]
  show Go p e below _ (s₁.setTop (mkF m 0 #[oA c0, oJ y0, oS] []))
  refine own_aload_n 1 X0 hx hby d12_0 rfl rfl rfl ?_
  refine own_getF 4 X0 hx hby hZ hown (own_w hw 32 rfl) e0 F_c0_head d12_1 rfl ?_
  intro T375 X375 e375
  refine own_aload_n 5 X375 hx hby d12_4 rfl rfl rfl ?_
  refine own_getF 8 X375 hx hby hZ hown (own_w hw 26 rfl) e375 F_c0_end d12_5 rfl ?_
  intro T376 X376 e376
  refine own_icN 11 X376 hx hby d12_8 rfl (by decide) ?_
  refine own_aload_n 12 X376 hx hby d12_11 rfl rfl rfl ?_
  refine own_getF 15 X376 hx hby hZ hown (own_w hw 17 rfl) e376 F_c0_lasts d12_12 rfl ?_
  intro T377 X377 e377
  refine own_aload_n 16 X377 hx hby d12_15 rfl rfl rfl ?_
  refine own_getF 19 X377 hx hby hZ hown (own_w hw 32 rfl) e377 F_c0_head d12_16 rfl ?_
  intro T378 X378 e378
  refine own_laload 20 (.long y4) X378 hx hby hZ e378 V_c2 d12_19 rfl (by decide) rfl ?_
  refine own_lload_n 21 X378 hx hby d12_20 rfl rfl ?_
  refine own_lcmp 22 (XT.cmpL y4 y0) X378 hx hby d12_21 rfl rfl ?_
  refine own_ifY 29 X378 hx hby d12_22 (by decide) (by decide) (own_fltL hc379).2.2.2 ?_
  refine own_iconst 30 (0 : Int32) X378 hx hby d12_29 rfl (by decide) ?_
  exact own_ret (Q := own_Q (some (.int (0 : Int32))) n0 h0) X378 hx hby hret hlk d12_30 rfl (Or.inl ⟨rfl, by simp, _, rfl⟩) (by decide) (by decide) ⟨rfl, N0, e378⟩
set_option maxRecDepth 65536 in
set_option maxHeartbeats 40000000 in
theorem rm9_74 (l : Launch) (Z : State) (a0 : Array Value) (hw : ∀ d ∈ tables_1, d.before a0 Z = true) (ws : List Jvm.Cond) (w_NONE k_NONE : Addr) (W : own_W Z w_NONE k_NONE) (c0 : Addr) (c1 : Addr) (k_c1 : ClassId) (c2 : Addr) (k_c2 : ClassId) (c3 : Addr) (k_c3 : ClassId) (y0 : Int64) (y1 : Int64) (y2 : Int64) (y3 : Int64) (y4 : Int64) (y5 : Int64) (h0 : Heap) (n0 : Nat) (O0 : Old Z n0 h0) (E_c0 : Exa Z h0 c0 "com/example/meter/meter/store/Spans") (F_c0_droppedTotal : Fld Z h0 c0 "com/example/meter/meter/store/Spans" "droppedTotal" "J" (.long y0)) (F_c0_end : Fld Z h0 c0 "com/example/meter/meter/store/Spans" "end" "I" (.int (3 : Int32))) (F_c0_firsts : Fld Z h0 c0 "com/example/meter/meter/store/Spans" "firsts" "[J" (.ref c1)) (F_c0_head : Fld Z h0 c0 "com/example/meter/meter/store/Spans" "head" "I" (.int (3 : Int32))) (F_c0_lasts : Fld Z h0 c0 "com/example/meter/meter/store/Spans" "lasts" "[J" (.ref c2)) (F_c0_totals : Fld Z h0 c0 "com/example/meter/meter/store/Spans" "totals" "[J" (.ref c3)) (n_c0 : n0 ≤ c0) (V_c1 : Arv Z h0 c1 k_c1 .long (16 : Int32) [(.long y1), (.long y2), (.long y3), (.long (0 : Int64))] (.long (0 : Int64))) (n_c1 : n0 ≤ c1) (V_c2 : Arv Z h0 c2 k_c2 .long (16 : Int32) [(.long y1), (.long y2), (.long y3), (.long (0 : Int64))] (.long (0 : Int64))) (n_c2 : n0 ≤ c2) (V_c3 : Arv Z h0 c3 k_c3 .long (16 : Int32) [(.long y4), (.long y5), (.long y0), (.long (0 : Int64))] (.long (0 : Int64))) (n_c3 : n0 ≤ c3) (ne_c0_c1 : c0 ≠ c1) (ne_c0_c2 : c0 ≠ c2) (ne_c0_c3 : c0 ≠ c3) (ne_c1_c2 : c1 ≠ c2) (ne_c1_c3 : c1 ≠ c3) (ne_c2_c3 : c2 ≠ c3) :
    MetFree l (⟨"com/example/meter/meter/store/Spans", "size", "()I"⟩ : MethodName) (head1 (Jvm.Cond.code (⟨"com/example/meter/meter/store/Spans", "size", "()I"⟩ : MethodName) prog_11_method_5_code 1 (some .int) :: ws) ({ frames := 0, cells := 0, slots := 0, locals := 0 } : Room)) (fun a U => a = #[(.ref c0)] ∧ Z.Warmed39 U.vm ∧ U.heap = h0) (fun _ _ _ _ _ => True) (fun _ U o U' => ∃ v L, o = .returned v ∧ own_Q (some (.int (0 : Int32))) n0 h0 v U'.heap L ∧ FrameEnd U o U' L ({ frames := 0, cells := 0, slots := 0, locals := 0 } : Room).cells ({ frames := 0, cells := 0, slots := 0, locals := 0 } : Room).slots) := by
  refine MetFree.of_bodySF (plainFor_of_name pn_0) hisR ?_
  intro p e s m args below meth c s₁ Bd hml0 hP hK
  obtain ⟨rfl, hZ, hh⟩ := hP
  have hx := Bd.exec
  have hby := Bd.bytes
  have hml : c.maxLocals = 1 := hml0
  have hlk := BodyLoose.notSynchronized Bd
  have hret := Bd.returns
  have hown : s.vm.findClass "com/example/meter/meter/store/Spans" = some m.cls := findClass_of_methodNamed Bd.named
  have hnm := (name_of_methodNamed Bd.named Bd.method).1
  have X0 : Stand p l e ({ frames := 0, cells := 0, slots := 0, locals := 0 } : Room) s m #[(.ref c0)] below meth c s₁ [] 0 0 := Stand.of_body Bd
  have e0 : s₁.heap = h0 := by rw [← hh, Bd.state]; rfl
  have N0 := Fr.nil n0
  rw [ef_9 m c0]
  show Go p e below _ (s₁.setTop (mkF m 0 #[oA c0] []))
  refine own_aload_n 1 X0 hx hby d9_0 rfl rfl rfl ?_
  refine own_getF 4 X0 hx hby hZ hown (own_w hw 26 rfl) e0 F_c0_end d9_1 rfl ?_
  intro T382 X382 e382
  refine own_aload_n 5 X382 hx hby d9_4 rfl rfl rfl ?_
  refine own_getF 8 X382 hx hby hZ hown (own_w hw 32 rfl) e382 F_c0_head d9_5 rfl ?_
  intro T383 X383 e383
  refine own_isub 9 (0 : Int32) X383 hx hby d9_8 rfl (by decide) ?_
  exact own_ret (Q := own_Q (some (.int (0 : Int32))) n0 h0) X383 hx hby hret hlk d9_9 rfl (Or.inl ⟨rfl, by simp, _, rfl⟩) (by decide) (by decide) ⟨rfl, N0, e383⟩
set_option maxRecDepth 65536 in
set_option maxHeartbeats 40000000 in
theorem rm7_75 (l : Launch) (Z : State) (a0 : Array Value) (hw : ∀ d ∈ tables_1, d.before a0 Z = true) (ws : List Jvm.Cond) (w_NONE k_NONE : Addr) (W : own_W Z w_NONE k_NONE) (c0 : Addr) (c1 : Addr) (k_c1 : ClassId) (c2 : Addr) (k_c2 : ClassId) (c3 : Addr) (k_c3 : ClassId) (y0 : Int64) (y1 : Int64) (y2 : Int64) (y3 : Int64) (y4 : Int64) (y5 : Int64) (h0 : Heap) (n0 : Nat) (O0 : Old Z n0 h0) (E_c0 : Exa Z h0 c0 "com/example/meter/meter/store/Spans") (F_c0_droppedTotal : Fld Z h0 c0 "com/example/meter/meter/store/Spans" "droppedTotal" "J" (.long y0)) (F_c0_end : Fld Z h0 c0 "com/example/meter/meter/store/Spans" "end" "I" (.int (3 : Int32))) (F_c0_firsts : Fld Z h0 c0 "com/example/meter/meter/store/Spans" "firsts" "[J" (.ref c1)) (F_c0_head : Fld Z h0 c0 "com/example/meter/meter/store/Spans" "head" "I" (.int (3 : Int32))) (F_c0_lasts : Fld Z h0 c0 "com/example/meter/meter/store/Spans" "lasts" "[J" (.ref c2)) (F_c0_totals : Fld Z h0 c0 "com/example/meter/meter/store/Spans" "totals" "[J" (.ref c3)) (n_c0 : n0 ≤ c0) (V_c1 : Arv Z h0 c1 k_c1 .long (16 : Int32) [(.long y1), (.long y2), (.long y3), (.long (0 : Int64))] (.long (0 : Int64))) (n_c1 : n0 ≤ c1) (V_c2 : Arv Z h0 c2 k_c2 .long (16 : Int32) [(.long y1), (.long y2), (.long y3), (.long (0 : Int64))] (.long (0 : Int64))) (n_c2 : n0 ≤ c2) (V_c3 : Arv Z h0 c3 k_c3 .long (16 : Int32) [(.long y4), (.long y5), (.long y0), (.long (0 : Int64))] (.long (0 : Int64))) (n_c3 : n0 ≤ c3) (ne_c0_c1 : c0 ≠ c1) (ne_c0_c2 : c0 ≠ c2) (ne_c0_c3 : c0 ≠ c3) (ne_c1_c2 : c1 ≠ c2) (ne_c1_c3 : c1 ≠ c3) (ne_c2_c3 : c2 ≠ c3) :
    MetFree l (⟨"com/example/meter/meter/store/Spans", "totalBefore", "(I)J"⟩ : MethodName) (head1 (Jvm.Cond.code (⟨"com/example/meter/meter/store/Spans", "totalBefore", "(I)J"⟩ : MethodName) prog_11_method_14_code 2 (some .long) :: ws) ({ frames := 0, cells := 0, slots := 0, locals := 0 } : Room)) (fun a U => a = #[(.ref c0), (.int (3 : Int32))] ∧ Z.Warmed39 U.vm ∧ U.heap = h0) (fun _ _ _ _ _ => True) (fun _ U o U' => ∃ v L, o = .returned v ∧ own_Q (some (.long y0)) n0 h0 v U'.heap L ∧ FrameEnd U o U' L ({ frames := 0, cells := 0, slots := 0, locals := 0 } : Room).cells ({ frames := 0, cells := 0, slots := 0, locals := 0 } : Room).slots) := by
  refine MetFree.of_bodySF (plainFor_of_name pn_0) hisR ?_
  intro p e s m args below meth c s₁ Bd hml0 hP hK
  obtain ⟨rfl, hZ, hh⟩ := hP
  have hx := Bd.exec
  have hby := Bd.bytes
  have hml : c.maxLocals = 2 := hml0
  have hlk := BodyLoose.notSynchronized Bd
  have hret := Bd.returns
  have hown : s.vm.findClass "com/example/meter/meter/store/Spans" = some m.cls := findClass_of_methodNamed Bd.named
  have hnm := (name_of_methodNamed Bd.named Bd.method).1
  have X0 : Stand p l e ({ frames := 0, cells := 0, slots := 0, locals := 0 } : Room) s m #[(.ref c0), (.int (3 : Int32))] below meth c s₁ [] 0 0 := Stand.of_body Bd
  have e0 : s₁.heap = h0 := by rw [← hh, Bd.state]; rfl
  have N0 := Fr.nil n0
  rw [ef_7 m c0 (3 : Int32)]
  show Go p e below _ (s₁.setTop (mkF m 0 #[oA c0, oI (3 : Int32)] []))
  refine own_iload_n 1 X0 hx hby d7_0 rfl rfl ?_
  refine own_aload_n 2 X0 hx hby d7_1 rfl rfl rfl ?_
  refine own_getF 5 X0 hx hby hZ hown (own_w hw 32 rfl) e0 F_c0_head d7_2 rfl ?_
  intro T386 X386 e386
  refine own_icN 8 X386 hx hby d7_5 rfl (by decide) ?_
  refine own_aload_n 9 X386 hx hby d7_8 rfl rfl rfl ?_
  refine own_getF 12 X386 hx hby hZ hown (own_w hw 51 rfl) e386 F_c0_droppedTotal d7_9 rfl ?_
  intro T387 X387 e387
  refine own_goto 23 X387 hx hby d7_12 (by decide) (by decide) ?_
  exact own_ret (Q := own_Q (some (.long y0)) n0 h0) X387 hx hby hret hlk d7_23 rfl (Or.inr (Or.inl ⟨rfl, rfl, _, rfl⟩)) (by decide) (by decide) ⟨rfl, N0, e387⟩
set_option maxRecDepth 65536 in
set_option maxHeartbeats 40000000 in
theorem rm10_76 (l : Launch) (Z : State) (a0 : Array Value) (hw : ∀ d ∈ tables_1, d.before a0 Z = true) (ws : List Jvm.Cond) (w_NONE k_NONE : Addr) (W : own_W Z w_NONE k_NONE) (c0 : Addr) (c1 : Addr) (k_c1 : ClassId) (c2 : Addr) (k_c2 : ClassId) (c3 : Addr) (k_c3 : ClassId) (y0 : Int64) (y1 : Int64) (y2 : Int64) (y3 : Int64) (y4 : Int64) (y5 : Int64) (h0 : Heap) (n0 : Nat) (O0 : Old Z n0 h0) (E_c0 : Exa Z h0 c0 "com/example/meter/meter/store/Spans") (F_c0_droppedTotal : Fld Z h0 c0 "com/example/meter/meter/store/Spans" "droppedTotal" "J" (.long y0)) (F_c0_end : Fld Z h0 c0 "com/example/meter/meter/store/Spans" "end" "I" (.int (3 : Int32))) (F_c0_firsts : Fld Z h0 c0 "com/example/meter/meter/store/Spans" "firsts" "[J" (.ref c1)) (F_c0_head : Fld Z h0 c0 "com/example/meter/meter/store/Spans" "head" "I" (.int (3 : Int32))) (F_c0_lasts : Fld Z h0 c0 "com/example/meter/meter/store/Spans" "lasts" "[J" (.ref c2)) (F_c0_totals : Fld Z h0 c0 "com/example/meter/meter/store/Spans" "totals" "[J" (.ref c3)) (n_c0 : n0 ≤ c0) (V_c1 : Arv Z h0 c1 k_c1 .long (16 : Int32) [(.long y1), (.long y2), (.long y3), (.long (0 : Int64))] (.long (0 : Int64))) (n_c1 : n0 ≤ c1) (V_c2 : Arv Z h0 c2 k_c2 .long (16 : Int32) [(.long y1), (.long y2), (.long y3), (.long (0 : Int64))] (.long (0 : Int64))) (n_c2 : n0 ≤ c2) (V_c3 : Arv Z h0 c3 k_c3 .long (16 : Int32) [(.long y4), (.long y5), (.long y0), (.long (0 : Int64))] (.long (0 : Int64))) (n_c3 : n0 ≤ c3) (ne_c0_c1 : c0 ≠ c1) (ne_c0_c2 : c0 ≠ c2) (ne_c0_c3 : c0 ≠ c3) (ne_c1_c2 : c1 ≠ c2) (ne_c1_c3 : c1 ≠ c3) (ne_c2_c3 : c2 ≠ c3) :
    MetFree l (⟨"com/example/meter/meter/store/Spans", "hits", "()J"⟩ : MethodName) (head1 (Jvm.Cond.code (⟨"com/example/meter/meter/store/Spans", "hits", "()J"⟩ : MethodName) prog_11_method_6_code 1 (some .long) :: ws) ({ frames := 1, cells := 0, slots := 0, locals := 13 } : Room)) (fun a U => a = #[(.ref c0)] ∧ Z.Warmed39 U.vm ∧ U.heap = h0) (fun _ _ _ _ _ => True) (fun _ U o U' => ∃ v L, o = .returned v ∧ own_Q (some (.long (y0 - y0))) n0 h0 v U'.heap L ∧ FrameEnd U o U' L ({ frames := 1, cells := 0, slots := 0, locals := 13 } : Room).cells ({ frames := 1, cells := 0, slots := 0, locals := 13 } : Room).slots) := by
  refine MetFree.of_bodySF (plainFor_of_name pn_0) hisR ?_
  intro p e s m args below meth c s₁ Bd hml0 hP hK
  obtain ⟨rfl, hZ, hh⟩ := hP
  have hx := Bd.exec
  have hby := Bd.bytes
  have hml : c.maxLocals = 1 := hml0
  have hlk := BodyLoose.notSynchronized Bd
  have hret := Bd.returns
  have hown : s.vm.findClass "com/example/meter/meter/store/Spans" = some m.cls := findClass_of_methodNamed Bd.named
  have hnm := (name_of_methodNamed Bd.named Bd.method).1
  have X0 : Stand p l e ({ frames := 1, cells := 0, slots := 0, locals := 13 } : Room) s m #[(.ref c0)] below meth c s₁ [] 0 0 := Stand.of_body Bd
  have e0 : s₁.heap = h0 := by rw [← hh, Bd.state]; rfl
  have N0 := Fr.nil n0
  rw [ef_10 m c0]
  show Go p e below _ (s₁.setTop (mkF m 0 #[oA c0] []))
  refine own_aload_n 1 X0 hx hby d10_0 rfl rfl rfl ?_
  refine own_aload_n 2 X0 hx hby d10_1 rfl rfl rfl ?_
  refine own_getF 5 X0 hx hby hZ hown (own_w hw 26 rfl) e0 F_c0_end d10_2 rfl ?_
  intro T385 X385 e385
  refine own_priv (W := 0) 8 (rm7_75 l Z a0 hw [] w_NONE k_NONE W c0 c1 k_c1 c2 k_c2 c3 k_c3 y0 y1 y2 y3 y4 y5 h0 n0 O0 E_c0 F_c0_droppedTotal F_c0_end F_c0_firsts F_c0_head F_c0_lasts F_c0_totals n_c0 V_c1 n_c1 V_c2 n_c2 V_c3 n_c3 ne_c0_c1 ne_c0_c2 ne_c0_c3 ne_c1_c2 ne_c1_c3 ne_c2_c3) X385 hx hby hZ hown (own_w hw 47 rfl) (own_w hw 48 rfl) (own_w hw 49 rfl) (own_w hw 24 rfl) (own_w hw 6 rfl) (own_w hw 50 rfl) rfl (by decide) (by rw [hml]; rfl) c0 [(.int (3 : Int32))] [] pd_3 rfl d10_5 rfl e385 E_c0 rfl rfl rfl (by decide) (by decide) (by decide) (by decide) ?_
  rintro _ T388 L388 X388 ⟨rfl, N388, e388⟩
  have N388 := Fr.app N0 N388
  show Go p e below _ (T388.setTop (mkF m 8 _ [(.long y0)]))
  refine own_aload_n 9 X388 hx hby d10_8 rfl rfl rfl ?_
  refine own_getF 12 X388 hx hby hZ hown (own_w hw 51 rfl) e388 F_c0_droppedTotal d10_9 rfl ?_
  intro T389 X389 e389
  refine own_lsub 13 (y0 - y0) X389 hx hby d10_12 rfl rfl ?_
  exact own_ret (Q := own_Q (some (.long (y0 - y0))) n0 h0) X389 hx hby hret hlk d10_13 rfl (Or.inr (Or.inl ⟨rfl, rfl, _, rfl⟩)) (by decide) (by decide) ⟨rfl, N388, e389⟩
set_option maxRecDepth 65536 in
set_option maxHeartbeats 40000000 in
theorem rm11_77 (l : Launch) (Z : State) (a0 : Array Value) (hw : ∀ d ∈ tables_1, d.before a0 Z = true) (ws : List Jvm.Cond) (w_NONE k_NONE : Addr) (W : own_W Z w_NONE k_NONE) (c0 : Addr) (c1 : Addr) (k_c1 : ClassId) (c2 : Addr) (k_c2 : ClassId) (c3 : Addr) (k_c3 : ClassId) (y0 : Int64) (y1 : Int64) (y2 : Int64) (y3 : Int64) (y4 : Int64) (y5 : Int64) (h0 : Heap) (n0 : Nat) (O0 : Old Z n0 h0) (E_c0 : Exa Z h0 c0 "com/example/meter/meter/store/Spans") (F_c0_droppedTotal : Fld Z h0 c0 "com/example/meter/meter/store/Spans" "droppedTotal" "J" (.long y0)) (F_c0_end : Fld Z h0 c0 "com/example/meter/meter/store/Spans" "end" "I" (.int (3 : Int32))) (F_c0_firsts : Fld Z h0 c0 "com/example/meter/meter/store/Spans" "firsts" "[J" (.ref c1)) (F_c0_head : Fld Z h0 c0 "com/example/meter/meter/store/Spans" "head" "I" (.int (3 : Int32))) (F_c0_lasts : Fld Z h0 c0 "com/example/meter/meter/store/Spans" "lasts" "[J" (.ref c2)) (F_c0_totals : Fld Z h0 c0 "com/example/meter/meter/store/Spans" "totals" "[J" (.ref c3)) (n_c0 : n0 ≤ c0) (V_c1 : Arv Z h0 c1 k_c1 .long (16 : Int32) [(.long y1), (.long y2), (.long y3), (.long (0 : Int64))] (.long (0 : Int64))) (n_c1 : n0 ≤ c1) (V_c2 : Arv Z h0 c2 k_c2 .long (16 : Int32) [(.long y1), (.long y2), (.long y3), (.long (0 : Int64))] (.long (0 : Int64))) (n_c2 : n0 ≤ c2) (V_c3 : Arv Z h0 c3 k_c3 .long (16 : Int32) [(.long y4), (.long y5), (.long y0), (.long (0 : Int64))] (.long (0 : Int64))) (n_c3 : n0 ≤ c3) (ne_c0_c1 : c0 ≠ c1) (ne_c0_c2 : c0 ≠ c2) (ne_c0_c3 : c0 ≠ c3) (ne_c1_c2 : c1 ≠ c2) (ne_c1_c3 : c1 ≠ c3) (ne_c2_c3 : c2 ≠ c3) :
    MetFree l (⟨"com/example/meter/meter/store/Spans", "newestSecond", "()J"⟩ : MethodName) (head1 (Jvm.Cond.code (⟨"com/example/meter/meter/store/Spans", "newestSecond", "()J"⟩ : MethodName) prog_11_method_7_code 1 (some .long) :: ws) ({ frames := 0, cells := 0, slots := 0, locals := 0 } : Room)) (fun a U => a = #[(.ref c0)] ∧ Z.Warmed39 U.vm ∧ U.heap = h0) (fun _ _ _ _ _ => True) (fun _ U o U' => ∃ v L, o = .returned v ∧ own_Q (some (.long (-1 : Int64))) n0 h0 v U'.heap L ∧ FrameEnd U o U' L ({ frames := 0, cells := 0, slots := 0, locals := 0 } : Room).cells ({ frames := 0, cells := 0, slots := 0, locals := 0 } : Room).slots) := by
  refine MetFree.of_bodySF (plainFor_of_name pn_0) hisR ?_
  intro p e s m args below meth c s₁ Bd hml0 hP hK
  obtain ⟨rfl, hZ, hh⟩ := hP
  have hx := Bd.exec
  have hby := Bd.bytes
  have hml : c.maxLocals = 1 := hml0
  have hlk := BodyLoose.notSynchronized Bd
  have hret := Bd.returns
  have hown : s.vm.findClass "com/example/meter/meter/store/Spans" = some m.cls := findClass_of_methodNamed Bd.named
  have hnm := (name_of_methodNamed Bd.named Bd.method).1
  have X0 : Stand p l e ({ frames := 0, cells := 0, slots := 0, locals := 0 } : Room) s m #[(.ref c0)] below meth c s₁ [] 0 0 := Stand.of_body Bd
  have e0 : s₁.heap = h0 := by rw [← hh, Bd.state]; rfl
  have N0 := Fr.nil n0
  rw [ef_11 m c0]
  show Go p e below _ (s₁.setTop (mkF m 0 #[oA c0] []))
  refine own_aload_n 1 X0 hx hby d11_0 rfl rfl rfl ?_
  refine own_getF 4 X0 hx hby hZ hown (own_w hw 32 rfl) e0 F_c0_head d11_1 rfl ?_
  intro T391 X391 e391
  refine own_aload_n 5 X391 hx hby d11_4 rfl rfl rfl ?_
  refine own_getF 8 X391 hx hby hZ hown (own_w hw 26 rfl) e391 F_c0_end d11_5 rfl ?_
  intro T392 X392 e392
  refine own_icN 11 X392 hx hby d11_8 rfl (by decide) ?_
  refine own_ldc2 14 X392 hx hby hZ hown (own_w hw 79 rfl) d11_11 rfl ?_
  refine own_goto 28 X392 hx hby d11_14 (by decide) (by decide) ?_
  exact own_ret (Q := own_Q (some (.long (-1 : Int64))) n0 h0) X392 hx hby hret hlk d11_28 rfl (Or.inr (Or.inl ⟨rfl, rfl, _, rfl⟩)) (by decide) (by decide) ⟨rfl, N0, e392⟩
set_option maxRecDepth 65536 in
set_option maxHeartbeats 40000000 in
theorem rm12_78 (l : Launch) (Z : State) (a0 : Array Value) (hw : ∀ d ∈ tables_1, d.before a0 Z = true) (ws : List Jvm.Cond) (w_NONE k_NONE : Addr) (W : own_W Z w_NONE k_NONE) (c0 : Addr) (c1 : Addr) (k_c1 : ClassId) (c2 : Addr) (k_c2 : ClassId) (c3 : Addr) (k_c3 : ClassId) (y0 : Int64) (y1 : Int64) (y2 : Int64) (y3 : Int64) (y4 : Int64) (y5 : Int64) (y6 : Int64) (h0 : Heap) (n0 : Nat) (O0 : Old Z n0 h0) (E_c0 : Exa Z h0 c0 "com/example/meter/meter/store/Spans") (F_c0_droppedTotal : Fld Z h0 c0 "com/example/meter/meter/store/Spans" "droppedTotal" "J" (.long y1)) (F_c0_end : Fld Z h0 c0 "com/example/meter/meter/store/Spans" "end" "I" (.int (3 : Int32))) (F_c0_firsts : Fld Z h0 c0 "com/example/meter/meter/store/Spans" "firsts" "[J" (.ref c1)) (F_c0_head : Fld Z h0 c0 "com/example/meter/meter/store/Spans" "head" "I" (.int (3 : Int32))) (F_c0_lasts : Fld Z h0 c0 "com/example/meter/meter/store/Spans" "lasts" "[J" (.ref c2)) (F_c0_totals : Fld Z h0 c0 "com/example/meter/meter/store/Spans" "totals" "[J" (.ref c3)) (n_c0 : n0 ≤ c0) (V_c1 : Arv Z h0 c1 k_c1 .long (16 : Int32) [(.long y2), (.long y3), (.long y4), (.long (0 : Int64))] (.long (0 : Int64))) (n_c1 : n0 ≤ c1) (V_c2 : Arv Z h0 c2 k_c2 .long (16 : Int32) [(.long y2), (.long y3), (.long y4), (.long (0 : Int64))] (.long (0 : Int64))) (n_c2 : n0 ≤ c2) (V_c3 : Arv Z h0 c3 k_c3 .long (16 : Int32) [(.long y5), (.long y6), (.long y1), (.long (0 : Int64))] (.long (0 : Int64))) (n_c3 : n0 ≤ c3) (ne_c0_c1 : c0 ≠ c1) (ne_c0_c2 : c0 ≠ c2) (ne_c0_c3 : c0 ≠ c3) (ne_c1_c2 : c1 ≠ c2) (ne_c1_c3 : c1 ≠ c3) (ne_c2_c3 : c2 ≠ c3) :
    MetFree l (⟨"com/example/meter/meter/store/Spans", "endsAfter", "(J)Z"⟩ : MethodName) (head1 (Jvm.Cond.code (⟨"com/example/meter/meter/store/Spans", "endsAfter", "(J)Z"⟩ : MethodName) prog_11_method_8_code 3 (some .boolean) :: ws) ({ frames := 0, cells := 0, slots := 0, locals := 0 } : Room)) (fun a U => a = #[(.ref c0), (.long y0)] ∧ Z.Warmed39 U.vm ∧ U.heap = h0) (fun _ _ _ _ _ => True) (fun _ U o U' => ∃ v L, o = .returned v ∧ own_Q (some (.int (1 : Int32))) n0 h0 v U'.heap L ∧ FrameEnd U o U' L ({ frames := 0, cells := 0, slots := 0, locals := 0 } : Room).cells ({ frames := 0, cells := 0, slots := 0, locals := 0 } : Room).slots) := by
  refine MetFree.of_bodySF (plainFor_of_name pn_0) hisR ?_
  intro p e s m args below meth c s₁ Bd hml0 hP hK
  obtain ⟨rfl, hZ, hh⟩ := hP
  have hx := Bd.exec
  have hby := Bd.bytes
  have hml : c.maxLocals = 3 := hml0
  have hlk := BodyLoose.notSynchronized Bd
  have hret := Bd.returns
  have hown : s.vm.findClass "com/example/meter/meter/store/Spans" = some m.cls := findClass_of_methodNamed Bd.named
  have hnm := (name_of_methodNamed Bd.named Bd.method).1
  have X0 : Stand p l e ({ frames := 0, cells := 0, slots := 0, locals := 0 } : Room) s m #[(.ref c0), (.long y0)] below meth c s₁ [] 0 0 := Stand.of_body Bd
  have e0 : s₁.heap = h0 := by rw [← hh, Bd.state]; rfl
  have N0 := Fr.nil n0
  rw [ef_12 m c0 y0]
  show Go p e below _ (s₁.setTop (mkF m 0 #[oA c0, oJ y0, oS] []))
  refine own_aload_n 1 X0 hx hby d12_0 rfl rfl rfl ?_
  refine own_getF 4 X0 hx hby hZ hown (own_w hw 32 rfl) e0 F_c0_head d12_1 rfl ?_
  intro T394 X394 e394
  refine own_aload_n 5 X394 hx hby d12_4 rfl rfl rfl ?_
  refine own_getF 8 X394 hx hby hZ hown (own_w hw 26 rfl) e394 F_c0_end d12_5 rfl ?_
  intro T395 X395 e395
  refine own_icY 25 X395 hx hby d12_8 (by decide) (by decide) (by decide) ?_
  refine own_iconst 26 (1 : Int32) X395 hx hby d12_25 rfl (by decide) ?_
  refine own_goto 30 X395 hx hby d12_26 (by decide) (by decide) ?_
  exact own_ret (Q := own_Q (some (.int (1 : Int32))) n0 h0) X395 hx hby hret hlk d12_30 rfl (Or.inl ⟨rfl, by simp, _, rfl⟩) (by decide) (by decide) ⟨rfl, N0, e395⟩
set_option maxRecDepth 65536 in
set_option maxHeartbeats 40000000 in
theorem cut_96_0 (l : Launch) (Z : State) (a0 : Array Value) (hw : ∀ d ∈ tables_1, d.before a0 Z = true) (w_NONE k_NONE : Addr) (W : own_W Z w_NONE k_NONE) (y0 : Int64) (x2 : Int32) (y3 : Int64) (y5 : Int64) (x7 : Int32) (x8 : Int32) (y9 : Int64) (y11 : Int64) (y13 : Int64) (y15 : Int64) (y17 : Int64) (y19 : Int64) (y21 : Int64) (h0 : Heap) (n0 : Nat) (O0 : Old Z n0 h0) (hq0 : ¬ (x8 < (0 : Int32))) (hq1 : ¬ ((3 : Int32) < x8)) (hq2 : y9 < y11) (hq3 : y11 < y13) (hq4 : ¬ (y15 < (0 : Int64))) (hq5 : ¬ ((2097152 : Int64) < y15)) (hq6 : ¬ (y17 < (0 : Int64))) (hq7 : ¬ ((2097152 : Int64) < y17)) (hq8 : ¬ (y19 < (0 : Int64))) (hq9 : ¬ ((2097152 : Int64) < y19)) {p : Program} {e : Env} {s : State} {m : MethodId} {args : Array Value} {below : List Frame} {meth : Method} {c : Code} {T : State} {locs : List Loc}
    (X0 : Stand p l e room_1 s m args below meth c T locs 0 0) (hx : p.tables.exec = Jvm.exec) (hby : c.code = code) (hml : c.maxLocals = 29) (hret : meth.sig.returnType = some .boolean) (hlk : meth.locks = false) (hZ : Z.Warmed39 s.vm) (hown : s.vm.findClass "com/example/meter/meter/store/SpansDropThroughPinLaw" = some m.cls) (e0 : T.heap = h0) (N0 : Fr n0 locs) :
    Go p e below (fun s₂ o => s₂.status = .running ∧ Ended s₂ below o ∧ ∃ v L, o = .returned v ∧ own_Q1 n0 v s₂.heap L ∧ FrameEnd s o s₂ L 16 192) (T.setTop (mkF m 96 #[oJ y0, oS, oI x2, oJ y3, oS, oJ y5, oS, oI x7, oI x8, oJ y9, oS, oJ y11, oS, oJ y13, oS, oJ y15, oS, oJ y17, oS, oJ y19, oS, oJ y21, oS, oU, oU, oU, oU, oU, oU] [])) := by
  refine own_new 99 6 X0 hx hby hZ hown (own_w hw 4 rfl) (own_w hw 5 rfl) (own_w hw 6 rfl) e0 at_96 rfl (by decide) (by decide) ?_
  intro T24 h24 b24 X24 e24 E24 g24 A24 D24
  have n_b24 : n0 ≤ b24 := Nat.le_trans (own_n0 O0) (Nat.le_of_eq g24.symm)
  have O24 := O0.ext E24
  have F_b24_firsts : Fld Z h24 b24 "com/example/meter/meter/store/Spans" "firsts" "[J" .null := D24 (Or.inl (own_w hw 16 rfl)) (ty := (.array .long)) (by decide)
  have F_b24_lasts : Fld Z h24 b24 "com/example/meter/meter/store/Spans" "lasts" "[J" .null := D24 (Or.inl (own_w hw 18 rfl)) (ty := (.array .long)) (by decide)
  have F_b24_totals : Fld Z h24 b24 "com/example/meter/meter/store/Spans" "totals" "[J" .null := D24 (Or.inl (own_w hw 20 rfl)) (ty := (.array .long)) (by decide)
  have F_b24_end : Fld Z h24 b24 "com/example/meter/meter/store/Spans" "end" "I" (.int (0 : Int32)) := D24 (Or.inl (own_w hw 27 rfl)) (ty := .int) (by decide)
  have F_b24_head : Fld Z h24 b24 "com/example/meter/meter/store/Spans" "head" "I" (.int (0 : Int32)) := D24 (Or.inl (own_w hw 33 rfl)) (ty := .int) (by decide)
  have F_b24_droppedTotal : Fld Z h24 b24 "com/example/meter/meter/store/Spans" "droppedTotal" "J" (.long (0 : Int64)) := D24 (Or.inl (own_w hw 52 rfl)) (ty := .long) (by decide)
  refine own_dup 100 X24 hx hby at_99 rfl rfl ?_
  refine own_spec (W := 1) 103 (rm1_1 l Z a0 hw [] w_NONE k_NONE W b24 h24 n0 O24 A24 F_b24_droppedTotal F_b24_end F_b24_firsts F_b24_head F_b24_lasts F_b24_totals n_b24) X24 hx hby hZ hown rfl (own_w hw 7 rfl) (own_w hw 8 rfl) (own_w hw 6 rfl) (own_w hw 9 rfl) (by decide) (by rw [hml]; rfl) b24 [] [(.ref b24)] pd_0 rfl at_100 rfl e24 rfl rfl rfl (by decide) (by decide) (by decide) (by decide) ?_
  rintro _ T32 L32 X32 ⟨rfl, N32, Kc32, E_b24_32, F_b24_droppedTotal_32, F_b24_end_32, F_b24_firsts_32, F_b24_head_32, F_b24_lasts_32, F_b24_totals_32⟩
  have N32 := Fr.app N0 N32
  have O32 := O24.keep Kc32 (allS n_b24 all0)
  show Go p e below _ (T32.setTop (mkF m 103 _ [(.ref b24)]))
  refine own_astore 105 #[oJ y0, oS, oI x2, oJ y3, oS, oJ y5, oS, oI x7, oI x8, oJ y9, oS, oJ y11, oS, oJ y13, oS, oJ y15, oS, oJ y17, oS, oJ y19, oS, oJ y21, oS, oA b24, oU, oU, oU, oU, oU] X32 hx hby at_103 rfl rfl rfl ?_
  refine own_iload 107 X32 hx hby at_105 rfl rfl ?_
  refine own_iconst 108 (1 : Int32) X32 hx hby at_107 rfl (by decide) ?_
  by_cases hc33 : x8 < (1 : Int32)
  · refine own_icY 120 X32 hx hby at_108 (by decide) (by decide) (tlt hc33).1 ?_
    refine own_iload 122 X32 hx hby at_120 rfl rfl ?_
    refine own_iconst 123 (2 : Int32) X32 hx hby at_122 rfl (by decide) ?_
    refine own_icY 135 X32 hx hby at_123 (by decide) (by decide) (tlt (by have : 0 ≤ (x8).toInt ∧ (x8).toInt ≤ 3 := own_bdI hq0 hq1; have : ((2 : Int32)).toInt = 2 := rfl; have : ((1 : Int32)).toInt = 1 := rfl; have : (x8).toInt < ((1 : Int32)).toInt := Int32.lt_iff_toInt_lt.mp hc33; exact Int32.lt_iff_toInt_lt.mpr (by omega))).1 ?_
    refine own_iload 137 X32 hx hby at_135 rfl rfl ?_
    refine own_iconst 138 (3 : Int32) X32 hx hby at_137 rfl (by decide) ?_
    refine own_icY 150 X32 hx hby at_138 (by decide) (by decide) (tlt (by have : 0 ≤ (x8).toInt ∧ (x8).toInt ≤ 3 := own_bdI hq0 hq1; have : ((3 : Int32)).toInt = 3 := rfl; have : ((1 : Int32)).toInt = 1 := rfl; have : (x8).toInt < ((1 : Int32)).toInt := Int32.lt_iff_toInt_lt.mp hc33; exact Int32.lt_iff_toInt_lt.mpr (by omega))).1 ?_
    refine own_aload 152 X32 hx hby at_150 rfl rfl rfl ?_
    refine own_lload 154 X32 hx hby at_152 rfl rfl ?_
    refine own_virt (W := 0) 157 (rm8_2 l Z a0 hw [] w_NONE k_NONE W b24 y21 T32.heap n0 O32 E_b24_32 F_b24_droppedTotal_32 F_b24_end_32 F_b24_firsts_32 F_b24_head_32 F_b24_lasts_32 F_b24_totals_32 n_b24) X32 hx hby hZ hown (own_w hw 53 rfl) (own_w hw 54 rfl) (notFace_of_selects (args := #[]) (mvT hZ (own_w hw 56 rfl))) (own_w hw 56 rfl) (own_w hw 55 rfl) (own_w hw 6 rfl) (own_w hw 57 rfl) (by decide) (by rw [hml]; rfl) b24 [(.long y21)] [] pd_1 rfl at_154 rfl rfl E_b24_32 rfl rfl rfl (by decide) (by decide) (by decide) (by decide) ?_
    rintro _ T36 L36 X36 ⟨rfl, N36, e36⟩
    have N36 := Fr.app N32 N36
    show Go p e below _ (T36.setTop (mkF m 157 _ []))
    refine own_iconst 158 (0 : Int32) X36 hx hby at_157 rfl (by decide) ?_
    refine own_istore 160 #[oJ y0, oS, oI x2, oJ y3, oS, oJ y5, oS, oI x7, oI x8, oJ y9, oS, oJ y11, oS, oJ y13, oS, oJ y15, oS, oJ y17, oS, oJ y19, oS, oJ y21, oS, oA b24, oI (0 : Int32), oU, oU, oU, oU] X36 hx hby at_158 rfl rfl ?_
    refine own_lconst 161 (0 : Int64) X36 hx hby at_160 rfl (by decide) ?_
    refine own_lstore 163 #[oJ y0, oS, oI x2, oJ y3, oS, oJ y5, oS, oI x7, oI x8, oJ y9, oS, oJ y11, oS, oJ y13, oS, oJ y15, oS, oJ y17, oS, oJ y19, oS, oJ y21, oS, oA b24, oI (0 : Int32), oJ (0 : Int64), oS, oU, oU] X36 hx hby at_161 rfl rfl ?_
    refine own_ldc2 166 X36 hx hby hZ hown (own_w hw 58 rfl) at_163 rfl ?_
    refine own_lstore 168 #[oJ y0, oS, oI x2, oJ y3, oS, oJ y5, oS, oI x7, oI x8, oJ y9, oS, oJ y11, oS, oJ y13, oS, oJ y15, oS, oJ y17, oS, oJ y19, oS, oJ y21, oS, oA b24, oI (0 : Int32), oJ (0 : Int64), oS, oJ (-1 : Int64), oS] X36 hx hby at_166 rfl rfl ?_
    refine own_iload 170 X36 hx hby at_168 rfl rfl ?_
    refine own_iconst 171 (1 : Int32) X36 hx hby at_170 rfl (by decide) ?_
    refine own_icY 196 X36 hx hby at_171 (by decide) (by decide) (tlt hc33).1 ?_
    refine own_iload 198 X36 hx hby at_196 rfl rfl ?_
    refine own_iconst 199 (2 : Int32) X36 hx hby at_198 rfl (by decide) ?_
    refine own_icY 224 X36 hx hby at_199 (by decide) (by decide) (tlt (by have : 0 ≤ (x8).toInt ∧ (x8).toInt ≤ 3 := own_bdI hq0 hq1; have : ((2 : Int32)).toInt = 2 := rfl; have : ((1 : Int32)).toInt = 1 := rfl; have : (x8).toInt < ((1 : Int32)).toInt := Int32.lt_iff_toInt_lt.mp hc33; exact Int32.lt_iff_toInt_lt.mpr (by omega))).1 ?_
    refine own_iload 226 X36 hx hby at_224 rfl rfl ?_
    refine own_iconst 227 (3 : Int32) X36 hx hby at_226 rfl (by decide) ?_
    refine own_icY 252 X36 hx hby at_227 (by decide) (by decide) (tlt (by have : 0 ≤ (x8).toInt ∧ (x8).toInt ≤ 3 := own_bdI hq0 hq1; have : ((3 : Int32)).toInt = 3 := rfl; have : ((1 : Int32)).toInt = 1 := rfl; have : (x8).toInt < ((1 : Int32)).toInt := Int32.lt_iff_toInt_lt.mp hc33; exact Int32.lt_iff_toInt_lt.mpr (by omega))).1 ?_
    refine own_aload 254 X36 hx hby at_252 rfl rfl rfl ?_
    refine own_virt (W := 0) 257 (rm9_3 l Z a0 hw [] w_NONE k_NONE W b24 T32.heap n0 O32 E_b24_32 F_b24_droppedTotal_32 F_b24_end_32 F_b24_firsts_32 F_b24_head_32 F_b24_lasts_32 F_b24_totals_32 n_b24) X36 hx hby hZ hown (own_w hw 59 rfl) (own_w hw 60 rfl) (notFace_of_selects (args := #[]) (mvT hZ (own_w hw 62 rfl))) (own_w hw 62 rfl) (own_w hw 61 rfl) (own_w hw 6 rfl) (own_w hw 63 rfl) (by decide) (by rw [hml]; rfl) b24 [] [] pd_2 rfl at_254 rfl e36 E_b24_32 rfl rfl rfl (by decide) (by decide) (by decide) (by decide) ?_
    rintro _ T39 L39 X39 ⟨rfl, N39, e39⟩
    have N39 := Fr.app N36 N39
    show Go p e below _ (T39.setTop (mkF m 257 _ [(.int (0 : Int32))]))
    refine own_iload 259 X39 hx hby at_257 rfl rfl ?_
    refine own_icN 262 X39 hx hby at_259 rfl (by decide) ?_
    refine own_aload 264 X39 hx hby at_262 rfl rfl rfl ?_
    refine own_virt (W := 0) 267 (rm10_5 l Z a0 hw [] w_NONE k_NONE W b24 T32.heap n0 O32 E_b24_32 F_b24_droppedTotal_32 F_b24_end_32 F_b24_firsts_32 F_b24_head_32 F_b24_lasts_32 F_b24_totals_32 n_b24) X39 hx hby hZ hown (own_w hw 64 rfl) (own_w hw 65 rfl) (notFace_of_selects (args := #[]) (mvT hZ (own_w hw 67 rfl))) (own_w hw 67 rfl) (own_w hw 66 rfl) (own_w hw 6 rfl) (own_w hw 68 rfl) (by decide) (by rw [hml]; rfl) b24 [] [] pd_4 rfl at_264 rfl e39 E_b24_32 rfl rfl rfl (by decide) (by decide) (by decide) (by decide) ?_
    rintro _ T45 L45 X45 ⟨rfl, N45, e45⟩
    have N45 := Fr.app N39 N45
    show Go p e below _ (T45.setTop (mkF m 267 _ [(.long (0 : Int64))]))
    refine own_lload 269 X45 hx hby at_267 rfl rfl ?_
    refine own_lcmp 270 (0 : Int32) X45 hx hby at_269 rfl (by decide) ?_
    refine own_ifN 273 X45 hx hby at_270 rfl (by decide) ?_
    refine own_aload 275 X45 hx hby at_273 rfl rfl rfl ?_
    refine own_virt (W := 0) 278 (rm11_6 l Z a0 hw [] w_NONE k_NONE W b24 T32.heap n0 O32 E_b24_32 F_b24_droppedTotal_32 F_b24_end_32 F_b24_firsts_32 F_b24_head_32 F_b24_lasts_32 F_b24_totals_32 n_b24) X45 hx hby hZ hown (own_w hw 69 rfl) (own_w hw 70 rfl) (notFace_of_selects (args := #[]) (mvT hZ (own_w hw 72 rfl))) (own_w hw 72 rfl) (own_w hw 71 rfl) (own_w hw 6 rfl) (own_w hw 73 rfl) (by decide) (by rw [hml]; rfl) b24 [] [] pd_4 rfl at_275 rfl e45 E_b24_32 rfl rfl rfl (by decide) (by decide) (by decide) (by decide) ?_
    rintro _ T48 L48 X48 ⟨rfl, N48, e48⟩
    have N48 := Fr.app N45 N48
    show Go p e below _ (T48.setTop (mkF m 278 _ [(.long (-1 : Int64))]))
    refine own_lload 280 X48 hx hby at_278 rfl rfl ?_
    refine own_lcmp 281 (0 : Int32) X48 hx hby at_280 rfl (by decide) ?_
    refine own_ifN 284 X48 hx hby at_281 rfl (by decide) ?_
    refine own_aload 286 X48 hx hby at_284 rfl rfl rfl ?_
    refine own_lload 288 X48 hx hby at_286 rfl rfl ?_
    refine own_virt (W := 0) 291 (rm12_7 l Z a0 hw [] w_NONE k_NONE W b24 y21 T32.heap n0 O32 E_b24_32 F_b24_droppedTotal_32 F_b24_end_32 F_b24_firsts_32 F_b24_head_32 F_b24_lasts_32 F_b24_totals_32 n_b24) X48 hx hby hZ hown (own_w hw 74 rfl) (own_w hw 75 rfl) (notFace_of_selects (args := #[]) (mvT hZ (own_w hw 77 rfl))) (own_w hw 77 rfl) (own_w hw 76 rfl) (own_w hw 6 rfl) (own_w hw 78 rfl) (by decide) (by rw [hml]; rfl) b24 [(.long y21)] [] pd_5 rfl at_288 rfl e48 E_b24_32 rfl rfl rfl (by decide) (by decide) (by decide) (by decide) ?_
    rintro _ T51 L51 X51 ⟨rfl, N51, e51⟩
    have N51 := Fr.app N48 N51
    show Go p e below _ (T51.setTop (mkF m 291 _ [(.int (1 : Int32))]))
    refine own_ifN 294 X51 hx hby at_291 rfl (by decide) ?_
    refine own_iconst 295 (1 : Int32) X51 hx hby at_294 rfl (by decide) ?_
    refine own_goto 299 X51 hx hby at_295 (by decide) (by decide) ?_
    exact own_ret (Q := own_Q1 n0) X51 hx hby hret hlk at_299 rfl (Or.inl ⟨rfl, by simp, _, rfl⟩) (by decide) (by decide) ⟨rfl, N51⟩
  refine own_icN 111 X32 hx hby at_108 rfl (flt hc33).1 ?_
  refine own_aload 113 X32 hx hby at_111 rfl rfl rfl ?_
  refine own_lload 115 X32 hx hby at_113 rfl rfl ?_
  refine own_lload 117 X32 hx hby at_115 rfl rfl ?_
  refine own_virt (W := 0) 120 (rm3_14 l Z a0 hw [] w_NONE k_NONE W b24 y9 y15 T32.heap n0 O32 E_b24_32 F_b24_droppedTotal_32 F_b24_end_32 F_b24_firsts_32 F_b24_head_32 F_b24_lasts_32 F_b24_totals_32 n_b24) X32 hx hby hZ hown (own_w hw 21 rfl) (own_w hw 22 rfl) (notFace_of_selects (args := #[]) (mvT hZ (own_w hw 24 rfl))) (own_w hw 24 rfl) (own_w hw 23 rfl) (own_w hw 6 rfl) (own_w hw 25 rfl) (by decide) (by rw [hml]; rfl) b24 [(.long y9), (.long y15)] [] pd_8 rfl at_117 rfl rfl E_b24_32 rfl rfl rfl (by decide) (by decide) (by decide) (by decide) ?_
  rintro _ T102 L102 X102 ⟨b102_0, b102_1, b102_2, k102_0, k102_1, k102_2, rfl, N102, Kc102, n_b102_0, sz_b102_0, n_b102_1, sz_b102_1, n_b102_2, sz_b102_2, ne_b102_0_b102_1, ne_b102_0_b102_2, ne_b102_1_b102_2, E_b24_102, F_b24_droppedTotal_102, F_b24_end_102, F_b24_firsts_102, F_b24_head_102, F_b24_lasts_102, F_b24_totals_102, V_b102_0_102, V_b102_1_102, V_b102_2_102⟩
  have N102 := Fr.app N32 N102
  have ne_b24_b102_0 : b24 ≠ b102_0 := Nat.ne_of_lt (Nat.lt_of_lt_of_le E_b24_32.lt sz_b102_0)
  have ne_b24_b102_1 : b24 ≠ b102_1 := Nat.ne_of_lt (Nat.lt_of_lt_of_le E_b24_32.lt sz_b102_1)
  have ne_b24_b102_2 : b24 ≠ b102_2 := Nat.ne_of_lt (Nat.lt_of_lt_of_le E_b24_32.lt sz_b102_2)
  have O102 := O32.keep Kc102 (allS n_b24 all0)
  show Go p e below _ (T102.setTop (mkF m 120 _ []))
  refine own_iload 122 X102 hx hby at_120 rfl rfl ?_
  refine own_iconst 123 (2 : Int32) X102 hx hby at_122 rfl (by decide) ?_
  by_cases hc103 : x8 < (2 : Int32)
  · refine own_icY 135 X102 hx hby at_123 (by decide) (by decide) (tlt hc103).1 ?_
    refine own_iload 137 X102 hx hby at_135 rfl rfl ?_
    refine own_iconst 138 (3 : Int32) X102 hx hby at_137 rfl (by decide) ?_
    refine own_icY 150 X102 hx hby at_138 (by decide) (by decide) (tlt (by have : 1 ≤ (x8).toInt ∧ (x8).toInt ≤ 3 := own_bdI hc33 hq1; have : ((3 : Int32)).toInt = 3 := rfl; have : ((2 : Int32)).toInt = 2 := rfl; have : (x8).toInt < ((2 : Int32)).toInt := Int32.lt_iff_toInt_lt.mp hc103; exact Int32.lt_iff_toInt_lt.mpr (by omega))).1 ?_
    refine own_aload 152 X102 hx hby at_150 rfl rfl rfl ?_
    refine own_lload 154 X102 hx hby at_152 rfl rfl ?_
    by_cases hc116 : y21 < y9
    · refine own_virt (W := 0) 157 (rm8_15 l Z a0 hw [] w_NONE k_NONE W b24 b102_0 k102_0 b102_1 k102_1 b102_2 k102_2 y21 y9 ((0 : Int64) + y15) T102.heap n0 O102 E_b24_102 F_b24_droppedTotal_102 F_b24_end_102 F_b24_firsts_102 F_b24_head_102 F_b24_lasts_102 F_b24_totals_102 n_b24 V_b102_0_102 n_b102_0 V_b102_1_102 n_b102_1 V_b102_2_102 n_b102_2 ne_b24_b102_0 ne_b24_b102_1 ne_b24_b102_2 ne_b102_0_b102_1 ne_b102_0_b102_2 ne_b102_1_b102_2 hc116) X102 hx hby hZ hown (own_w hw 53 rfl) (own_w hw 54 rfl) (notFace_of_selects (args := #[]) (mvT hZ (own_w hw 56 rfl))) (own_w hw 56 rfl) (own_w hw 55 rfl) (own_w hw 6 rfl) (own_w hw 57 rfl) (by decide) (by rw [hml]; rfl) b24 [(.long y21)] [] pd_1 rfl at_154 rfl rfl E_b24_102 rfl rfl rfl (by decide) (by decide) (by decide) (by decide) ?_
      rintro _ T117 L117 X117 ⟨rfl, N117, e117⟩
      have N117 := Fr.app N102 N117
      show Go p e below _ (T117.setTop (mkF m 157 _ []))
      refine own_iconst 158 (0 : Int32) X117 hx hby at_157 rfl (by decide) ?_
      refine own_istore 160 #[oJ y0, oS, oI x2, oJ y3, oS, oJ y5, oS, oI x7, oI x8, oJ y9, oS, oJ y11, oS, oJ y13, oS, oJ y15, oS, oJ y17, oS, oJ y19, oS, oJ y21, oS, oA b24, oI (0 : Int32), oU, oU, oU, oU] X117 hx hby at_158 rfl rfl ?_
      refine own_lconst 161 (0 : Int64) X117 hx hby at_160 rfl (by decide) ?_
      refine own_lstore 163 #[oJ y0, oS, oI x2, oJ y3, oS, oJ y5, oS, oI x7, oI x8, oJ y9, oS, oJ y11, oS, oJ y13, oS, oJ y15, oS, oJ y17, oS, oJ y19, oS, oJ y21, oS, oA b24, oI (0 : Int32), oJ (0 : Int64), oS, oU, oU] X117 hx hby at_161 rfl rfl ?_
      refine own_ldc2 166 X117 hx hby hZ hown (own_w hw 58 rfl) at_163 rfl ?_
      refine own_lstore 168 #[oJ y0, oS, oI x2, oJ y3, oS, oJ y5, oS, oI x7, oI x8, oJ y9, oS, oJ y11, oS, oJ y13, oS, oJ y15, oS, oJ y17, oS, oJ y19, oS, oJ y21, oS, oA b24, oI (0 : Int32), oJ (0 : Int64), oS, oJ (-1 : Int64), oS] X117 hx hby at_166 rfl rfl ?_
      refine own_iload 170 X117 hx hby at_168 rfl rfl ?_
      refine own_iconst 171 (1 : Int32) X117 hx hby at_170 rfl (by decide) ?_
      refine own_icN 174 X117 hx hby at_171 rfl (flt hc33).1 ?_
      refine own_lload 176 X117 hx hby at_174 rfl rfl ?_
      refine own_lload 178 X117 hx hby at_176 rfl rfl ?_
      refine own_lcmp 179 (XT.cmpL y9 y21) X117 hx hby at_178 rfl rfl ?_
      refine own_ifN 182 X117 hx hby at_179 rfl (own_tltL hc116).2.2.2 ?_
      refine own_iinc 185 #[oJ y0, oS, oI x2, oJ y3, oS, oJ y5, oS, oI x7, oI x8, oJ y9, oS, oJ y11, oS, oJ y13, oS, oJ y15, oS, oJ y17, oS, oJ y19, oS, oJ y21, oS, oA b24, oI (1 : Int32), oJ (0 : Int64), oS, oJ (-1 : Int64), oS] X117 hx hby at_182 rfl rfl rfl ?_
      refine own_lload 187 X117 hx hby at_185 rfl rfl ?_
      refine own_lload 189 X117 hx hby at_187 rfl rfl ?_
      obtain ⟨v118, dv118⟩ : ∃ z, z = ((0 : Int64) + y15) := ⟨_, rfl⟩
      refine own_ladd 190 v118 X117 hx hby at_189 rfl dv118.symm ?_
      refine own_lstore 192 #[oJ y0, oS, oI x2, oJ y3, oS, oJ y5, oS, oI x7, oI x8, oJ y9, oS, oJ y11, oS, oJ y13, oS, oJ y15, oS, oJ y17, oS, oJ y19, oS, oJ y21, oS, oA b24, oI (1 : Int32), oJ v118, oS, oJ (-1 : Int64), oS] X117 hx hby at_190 rfl rfl ?_
      refine own_lload 194 X117 hx hby at_192 rfl rfl ?_
      refine own_lstore 196 #[oJ y0, oS, oI x2, oJ y3, oS, oJ y5, oS, oI x7, oI x8, oJ y9, oS, oJ y11, oS, oJ y13, oS, oJ y15, oS, oJ y17, oS, oJ y19, oS, oJ y21, oS, oA b24, oI (1 : Int32), oJ v118, oS, oJ y9, oS] X117 hx hby at_194 rfl rfl ?_
      refine own_iload 198 X117 hx hby at_196 rfl rfl ?_
      refine own_iconst 199 (2 : Int32) X117 hx hby at_198 rfl (by decide) ?_
      refine own_icY 224 X117 hx hby at_199 (by decide) (by decide) (tlt hc103).1 ?_
      refine own_iload 226 X117 hx hby at_224 rfl rfl ?_
      refine own_iconst 227 (3 : Int32) X117 hx hby at_226 rfl (by decide) ?_
      refine own_icY 252 X117 hx hby at_227 (by decide) (by decide) (tlt (by have : 1 ≤ (x8).toInt ∧ (x8).toInt ≤ 3 := own_bdI hc33 hq1; have : ((3 : Int32)).toInt = 3 := rfl; have : ((2 : Int32)).toInt = 2 := rfl; have : (x8).toInt < ((2 : Int32)).toInt := Int32.lt_iff_toInt_lt.mp hc103; exact Int32.lt_iff_toInt_lt.mpr (by omega))).1 ?_
      refine own_aload 254 X117 hx hby at_252 rfl rfl rfl ?_
      refine own_virt (W := 0) 257 (rm9_17 l Z a0 hw [] w_NONE k_NONE W b24 b102_0 k102_0 b102_1 k102_1 b102_2 k102_2 y9 ((0 : Int64) + y15) T102.heap n0 O102 E_b24_102 F_b24_droppedTotal_102 F_b24_end_102 F_b24_firsts_102 F_b24_head_102 F_b24_lasts_102 F_b24_totals_102 n_b24 V_b102_0_102 n_b102_0 V_b102_1_102 n_b102_1 V_b102_2_102 n_b102_2 ne_b24_b102_0 ne_b24_b102_1 ne_b24_b102_2 ne_b102_0_b102_1 ne_b102_0_b102_2 ne_b102_1_b102_2) X117 hx hby hZ hown (own_w hw 59 rfl) (own_w hw 60 rfl) (notFace_of_selects (args := #[]) (mvT hZ (own_w hw 62 rfl))) (own_w hw 62 rfl) (own_w hw 61 rfl) (own_w hw 6 rfl) (own_w hw 63 rfl) (by decide) (by rw [hml]; rfl) b24 [] [] pd_2 rfl at_254 rfl e117 E_b24_102 rfl rfl rfl (by decide) (by decide) (by decide) (by decide) ?_
      rintro _ T121 L121 X121 ⟨rfl, N121, e121⟩
      have N121 := Fr.app N117 N121
      show Go p e below _ (T121.setTop (mkF m 257 _ [(.int (1 : Int32))]))
      refine own_iload 259 X121 hx hby at_257 rfl rfl ?_
      refine own_icN 262 X121 hx hby at_259 rfl (by decide) ?_
      refine own_aload 264 X121 hx hby at_262 rfl rfl rfl ?_
      refine own_virt (W := 0) 267 (rm10_19 l Z a0 hw [] w_NONE k_NONE W b24 b102_0 k102_0 b102_1 k102_1 b102_2 k102_2 y9 ((0 : Int64) + y15) T102.heap n0 O102 E_b24_102 F_b24_droppedTotal_102 F_b24_end_102 F_b24_firsts_102 F_b24_head_102 F_b24_lasts_102 F_b24_totals_102 n_b24 V_b102_0_102 n_b102_0 V_b102_1_102 n_b102_1 V_b102_2_102 n_b102_2 ne_b24_b102_0 ne_b24_b102_1 ne_b24_b102_2 ne_b102_0_b102_1 ne_b102_0_b102_2 ne_b102_1_b102_2) X121 hx hby hZ hown (own_w hw 64 rfl) (own_w hw 65 rfl) (notFace_of_selects (args := #[]) (mvT hZ (own_w hw 67 rfl))) (own_w hw 67 rfl) (own_w hw 66 rfl) (own_w hw 6 rfl) (own_w hw 68 rfl) (by decide) (by rw [hml]; rfl) b24 [] [] pd_4 rfl at_264 rfl e121 E_b24_102 rfl rfl rfl (by decide) (by decide) (by decide) (by decide) ?_
      rintro _ T127 L127 X127 ⟨rfl, N127, e127⟩
      have N127 := Fr.app N121 N127
      show Go p e below _ (T127.setTop (mkF m 267 _ [(.long (((0 : Int64) + y15) - (0 : Int64)))]))
      refine own_lload 269 X127 hx hby at_267 rfl rfl ?_
      refine own_lcmp 270 (XT.cmpL (((0 : Int64) + y15) - (0 : Int64)) v118) X127 hx hby at_269 rfl rfl ?_
      refine own_ifN 273 X127 hx hby at_270 rfl (own_teqL (by have : ((0 : Int64)).toInt = 0 := rfl; have : 0 ≤ (y15).toInt ∧ (y15).toInt ≤ 2097152 := own_bdJ hq4 hq5; have : (((0 : Int64) + y15)).toInt = ((0 : Int64)).toInt + (y15).toInt := Jvm.Kit.i64_add (by omega) (by omega); have : ((((0 : Int64) + y15) - (0 : Int64))).toInt = (((0 : Int64) + y15)).toInt - ((0 : Int64)).toInt := Jvm.Kit.i64_sub (by omega) (by omega); have : (v118).toInt = (((0 : Int64) + y15)).toInt := congrArg Int64.toInt dv118; exact Int64.toInt_inj.mp (by omega))).2 ?_
      refine own_aload 275 X127 hx hby at_273 rfl rfl rfl ?_
      refine own_virt (W := 0) 278 (rm11_20 l Z a0 hw [] w_NONE k_NONE W b24 b102_0 k102_0 b102_1 k102_1 b102_2 k102_2 y9 ((0 : Int64) + y15) T102.heap n0 O102 E_b24_102 F_b24_droppedTotal_102 F_b24_end_102 F_b24_firsts_102 F_b24_head_102 F_b24_lasts_102 F_b24_totals_102 n_b24 V_b102_0_102 n_b102_0 V_b102_1_102 n_b102_1 V_b102_2_102 n_b102_2 ne_b24_b102_0 ne_b24_b102_1 ne_b24_b102_2 ne_b102_0_b102_1 ne_b102_0_b102_2 ne_b102_1_b102_2) X127 hx hby hZ hown (own_w hw 69 rfl) (own_w hw 70 rfl) (notFace_of_selects (args := #[]) (mvT hZ (own_w hw 72 rfl))) (own_w hw 72 rfl) (own_w hw 71 rfl) (own_w hw 6 rfl) (own_w hw 73 rfl) (by decide) (by rw [hml]; rfl) b24 [] [] pd_4 rfl at_275 rfl e127 E_b24_102 rfl rfl rfl (by decide) (by decide) (by decide) (by decide) ?_
      rintro _ T132 L132 X132 ⟨rfl, N132, e132⟩
      have N132 := Fr.app N127 N132
      show Go p e below _ (T132.setTop (mkF m 278 _ [(.long y9)]))
      refine own_lload 280 X132 hx hby at_278 rfl rfl ?_
      refine own_lcmp 281 (XT.cmpL y9 y9) X132 hx hby at_280 rfl rfl ?_
      refine own_ifN 284 X132 hx hby at_281 rfl (own_teqL rfl).2 ?_
      refine own_aload 286 X132 hx hby at_284 rfl rfl rfl ?_
      refine own_lload 288 X132 hx hby at_286 rfl rfl ?_
      refine own_virt (W := 0) 291 (rm12_21 l Z a0 hw [] w_NONE k_NONE W b24 b102_0 k102_0 b102_1 k102_1 b102_2 k102_2 y21 y9 ((0 : Int64) + y15) T102.heap n0 O102 E_b24_102 F_b24_droppedTotal_102 F_b24_end_102 F_b24_firsts_102 F_b24_head_102 F_b24_lasts_102 F_b24_totals_102 n_b24 V_b102_0_102 n_b102_0 V_b102_1_102 n_b102_1 V_b102_2_102 n_b102_2 ne_b24_b102_0 ne_b24_b102_1 ne_b24_b102_2 ne_b102_0_b102_1 ne_b102_0_b102_2 ne_b102_1_b102_2 hc116) X132 hx hby hZ hown (own_w hw 74 rfl) (own_w hw 75 rfl) (notFace_of_selects (args := #[]) (mvT hZ (own_w hw 77 rfl))) (own_w hw 77 rfl) (own_w hw 76 rfl) (own_w hw 6 rfl) (own_w hw 78 rfl) (by decide) (by rw [hml]; rfl) b24 [(.long y21)] [] pd_5 rfl at_288 rfl e132 E_b24_102 rfl rfl rfl (by decide) (by decide) (by decide) (by decide) ?_
      rintro _ T138 L138 X138 ⟨rfl, N138, e138⟩
      have N138 := Fr.app N132 N138
      show Go p e below _ (T138.setTop (mkF m 291 _ [(.int (1 : Int32))]))
      refine own_ifN 294 X138 hx hby at_291 rfl (by decide) ?_
      refine own_iconst 295 (1 : Int32) X138 hx hby at_294 rfl (by decide) ?_
      refine own_goto 299 X138 hx hby at_295 (by decide) (by decide) ?_
      exact own_ret (Q := own_Q1 n0) X138 hx hby hret hlk at_299 rfl (Or.inl ⟨rfl, by simp, _, rfl⟩) (by decide) (by decide) ⟨rfl, N138⟩
    refine own_virt (W := 0) 157 (rm8_16 l Z a0 hw [] w_NONE k_NONE W b24 b102_0 k102_0 b102_1 k102_1 b102_2 k102_2 y21 y9 ((0 : Int64) + y15) T102.heap n0 O102 E_b24_102 F_b24_droppedTotal_102 F_b24_end_102 F_b24_firsts_102 F_b24_head_102 F_b24_lasts_102 F_b24_totals_102 n_b24 V_b102_0_102 n_b102_0 V_b102_1_102 n_b102_1 V_b102_2_102 n_b102_2 ne_b24_b102_0 ne_b24_b102_1 ne_b24_b102_2 ne_b102_0_b102_1 ne_b102_0_b102_2 ne_b102_1_b102_2 hc116) X102 hx hby hZ hown (own_w hw 53 rfl) (own_w hw 54 rfl) (notFace_of_selects (args := #[]) (mvT hZ (own_w hw 56 rfl))) (own_w hw 56 rfl) (own_w hw 55 rfl) (own_w hw 6 rfl) (own_w hw 57 rfl) (by decide) (by rw [hml]; rfl) b24 [(.long y21)] [] pd_1 rfl at_154 rfl rfl E_b24_102 rfl rfl rfl (by decide) (by decide) (by decide) (by decide) ?_
    rintro _ T139 L139 X139 ⟨rfl, N139, Kc139, E_b24_139, F_b24_droppedTotal_139, F_b24_end_139, F_b24_firsts_139, F_b24_head_139, F_b24_lasts_139, F_b24_totals_139, V_b102_0_139, V_b102_1_139, V_b102_2_139⟩
    have N139 := Fr.app N102 N139
    have O139 := O102.keep Kc139 (allS n_b24 all0)
    show Go p e below _ (T139.setTop (mkF m 157 _ []))
    refine own_iconst 158 (0 : Int32) X139 hx hby at_157 rfl (by decide) ?_
    refine own_istore 160 #[oJ y0, oS, oI x2, oJ y3, oS, oJ y5, oS, oI x7, oI x8, oJ y9, oS, oJ y11, oS, oJ y13, oS, oJ y15, oS, oJ y17, oS, oJ y19, oS, oJ y21, oS, oA b24, oI (0 : Int32), oU, oU, oU, oU] X139 hx hby at_158 rfl rfl ?_
    refine own_lconst 161 (0 : Int64) X139 hx hby at_160 rfl (by decide) ?_
    refine own_lstore 163 #[oJ y0, oS, oI x2, oJ y3, oS, oJ y5, oS, oI x7, oI x8, oJ y9, oS, oJ y11, oS, oJ y13, oS, oJ y15, oS, oJ y17, oS, oJ y19, oS, oJ y21, oS, oA b24, oI (0 : Int32), oJ (0 : Int64), oS, oU, oU] X139 hx hby at_161 rfl rfl ?_
    refine own_ldc2 166 X139 hx hby hZ hown (own_w hw 58 rfl) at_163 rfl ?_
    refine own_lstore 168 #[oJ y0, oS, oI x2, oJ y3, oS, oJ y5, oS, oI x7, oI x8, oJ y9, oS, oJ y11, oS, oJ y13, oS, oJ y15, oS, oJ y17, oS, oJ y19, oS, oJ y21, oS, oA b24, oI (0 : Int32), oJ (0 : Int64), oS, oJ (-1 : Int64), oS] X139 hx hby at_166 rfl rfl ?_
    refine own_iload 170 X139 hx hby at_168 rfl rfl ?_
    refine own_iconst 171 (1 : Int32) X139 hx hby at_170 rfl (by decide) ?_
    refine own_icN 174 X139 hx hby at_171 rfl (flt hc33).1 ?_
    refine own_lload 176 X139 hx hby at_174 rfl rfl ?_
    refine own_lload 178 X139 hx hby at_176 rfl rfl ?_
    refine own_lcmp 179 (XT.cmpL y9 y21) X139 hx hby at_178 rfl rfl ?_
    refine own_ifY 196 X139 hx hby at_179 (by decide) (by decide) (own_fltL hc116).2.2.2 ?_
    refine own_iload 198 X139 hx hby at_196 rfl rfl ?_
    refine own_iconst 199 (2 : Int32) X139 hx hby at_198 rfl (by decide) ?_
    refine own_icY 224 X139 hx hby at_199 (by decide) (by decide) (tlt hc103).1 ?_
    refine own_iload 226 X139 hx hby at_224 rfl rfl ?_
    refine own_iconst 227 (3 : Int32) X139 hx hby at_226 rfl (by decide) ?_
    refine own_icY 252 X139 hx hby at_227 (by decide) (by decide) (tlt (by have : 1 ≤ (x8).toInt ∧ (x8).toInt ≤ 3 := own_bdI hc33 hq1; have : ((3 : Int32)).toInt = 3 := rfl; have : ((2 : Int32)).toInt = 2 := rfl; have : (x8).toInt < ((2 : Int32)).toInt := Int32.lt_iff_toInt_lt.mp hc103; exact Int32.lt_iff_toInt_lt.mpr (by omega))).1 ?_
    refine own_aload 254 X139 hx hby at_252 rfl rfl rfl ?_
    refine own_virt (W := 0) 257 (rm9_23 l Z a0 hw [] w_NONE k_NONE W b24 b102_0 k102_0 b102_1 k102_1 b102_2 k102_2 ((0 : Int64) + y15) y9 T139.heap n0 O139 E_b24_139 F_b24_droppedTotal_139 F_b24_end_139 F_b24_firsts_139 F_b24_head_139 F_b24_lasts_139 F_b24_totals_139 n_b24 V_b102_0_139 n_b102_0 V_b102_1_139 n_b102_1 V_b102_2_139 n_b102_2 ne_b24_b102_0 ne_b24_b102_1 ne_b24_b102_2 ne_b102_0_b102_1 ne_b102_0_b102_2 ne_b102_1_b102_2) X139 hx hby hZ hown (own_w hw 59 rfl) (own_w hw 60 rfl) (notFace_of_selects (args := #[]) (mvT hZ (own_w hw 62 rfl))) (own_w hw 62 rfl) (own_w hw 61 rfl) (own_w hw 6 rfl) (own_w hw 63 rfl) (by decide) (by rw [hml]; rfl) b24 [] [] pd_2 rfl at_254 rfl rfl E_b24_139 rfl rfl rfl (by decide) (by decide) (by decide) (by decide) ?_
    rintro _ T142 L142 X142 ⟨rfl, N142, e142⟩
    have N142 := Fr.app N139 N142
    show Go p e below _ (T142.setTop (mkF m 257 _ [(.int (0 : Int32))]))
    refine own_iload 259 X142 hx hby at_257 rfl rfl ?_
    refine own_icN 262 X142 hx hby at_259 rfl (by decide) ?_
    refine own_aload 264 X142 hx hby at_262 rfl rfl rfl ?_
    refine own_virt (W := 0) 267 (rm10_25 l Z a0 hw [] w_NONE k_NONE W b24 b102_0 k102_0 b102_1 k102_1 b102_2 k102_2 ((0 : Int64) + y15) y9 T139.heap n0 O139 E_b24_139 F_b24_droppedTotal_139 F_b24_end_139 F_b24_firsts_139 F_b24_head_139 F_b24_lasts_139 F_b24_totals_139 n_b24 V_b102_0_139 n_b102_0 V_b102_1_139 n_b102_1 V_b102_2_139 n_b102_2 ne_b24_b102_0 ne_b24_b102_1 ne_b24_b102_2 ne_b102_0_b102_1 ne_b102_0_b102_2 ne_b102_1_b102_2) X142 hx hby hZ hown (own_w hw 64 rfl) (own_w hw 65 rfl) (notFace_of_selects (args := #[]) (mvT hZ (own_w hw 67 rfl))) (own_w hw 67 rfl) (own_w hw 66 rfl) (own_w hw 6 rfl) (own_w hw 68 rfl) (by decide) (by rw [hml]; rfl) b24 [] [] pd_4 rfl at_264 rfl e142 E_b24_139 rfl rfl rfl (by decide) (by decide) (by decide) (by decide) ?_
    rintro _ T148 L148 X148 ⟨rfl, N148, e148⟩
    have N148 := Fr.app N142 N148
    show Go p e below _ (T148.setTop (mkF m 267 _ [(.long (((0 : Int64) + y15) - ((0 : Int64) + y15)))]))
    refine own_lload 269 X148 hx hby at_267 rfl rfl ?_
    refine own_lcmp 270 (XT.cmpL (((0 : Int64) + y15) - ((0 : Int64) + y15)) (0 : Int64)) X148 hx hby at_269 rfl rfl ?_
    refine own_ifN 273 X148 hx hby at_270 rfl (own_teqL (by have : ((0 : Int64)).toInt = 0 := rfl; have : 0 ≤ (y15).toInt ∧ (y15).toInt ≤ 2097152 := own_bdJ hq4 hq5; have : (((0 : Int64) + y15)).toInt = ((0 : Int64)).toInt + (y15).toInt := Jvm.Kit.i64_add (by omega) (by omega); have : ((((0 : Int64) + y15) - ((0 : Int64) + y15))).toInt = (((0 : Int64) + y15)).toInt - (((0 : Int64) + y15)).toInt := Jvm.Kit.i64_sub (by omega) (by omega); exact Int64.toInt_inj.mp (by omega))).2 ?_
    refine own_aload 275 X148 hx hby at_273 rfl rfl rfl ?_
    refine own_virt (W := 0) 278 (rm11_26 l Z a0 hw [] w_NONE k_NONE W b24 b102_0 k102_0 b102_1 k102_1 b102_2 k102_2 ((0 : Int64) + y15) y9 T139.heap n0 O139 E_b24_139 F_b24_droppedTotal_139 F_b24_end_139 F_b24_firsts_139 F_b24_head_139 F_b24_lasts_139 F_b24_totals_139 n_b24 V_b102_0_139 n_b102_0 V_b102_1_139 n_b102_1 V_b102_2_139 n_b102_2 ne_b24_b102_0 ne_b24_b102_1 ne_b24_b102_2 ne_b102_0_b102_1 ne_b102_0_b102_2 ne_b102_1_b102_2) X148 hx hby hZ hown (own_w hw 69 rfl) (own_w hw 70 rfl) (notFace_of_selects (args := #[]) (mvT hZ (own_w hw 72 rfl))) (own_w hw 72 rfl) (own_w hw 71 rfl) (own_w hw 6 rfl) (own_w hw 73 rfl) (by decide) (by rw [hml]; rfl) b24 [] [] pd_4 rfl at_275 rfl e148 E_b24_139 rfl rfl rfl (by decide) (by decide) (by decide) (by decide) ?_
    rintro _ T151 L151 X151 ⟨rfl, N151, e151⟩
    have N151 := Fr.app N148 N151
    show Go p e below _ (T151.setTop (mkF m 278 _ [(.long (-1 : Int64))]))
    refine own_lload 280 X151 hx hby at_278 rfl rfl ?_
    refine own_lcmp 281 (0 : Int32) X151 hx hby at_280 rfl (by decide) ?_
    refine own_ifN 284 X151 hx hby at_281 rfl (by decide) ?_
    refine own_aload 286 X151 hx hby at_284 rfl rfl rfl ?_
    refine own_lload 288 X151 hx hby at_286 rfl rfl ?_
    refine own_virt (W := 0) 291 (rm12_27 l Z a0 hw [] w_NONE k_NONE W b24 b102_0 k102_0 b102_1 k102_1 b102_2 k102_2 y21 ((0 : Int64) + y15) y9 T139.heap n0 O139 E_b24_139 F_b24_droppedTotal_139 F_b24_end_139 F_b24_firsts_139 F_b24_head_139 F_b24_lasts_139 F_b24_totals_139 n_b24 V_b102_0_139 n_b102_0 V_b102_1_139 n_b102_1 V_b102_2_139 n_b102_2 ne_b24_b102_0 ne_b24_b102_1 ne_b24_b102_2 ne_b102_0_b102_1 ne_b102_0_b102_2 ne_b102_1_b102_2) X151 hx hby hZ hown (own_w hw 74 rfl) (own_w hw 75 rfl) (notFace_of_selects (args := #[]) (mvT hZ (own_w hw 77 rfl))) (own_w hw 77 rfl) (own_w hw 76 rfl) (own_w hw 6 rfl) (own_w hw 78 rfl) (by decide) (by rw [hml]; rfl) b24 [(.long y21)] [] pd_5 rfl at_288 rfl e151 E_b24_139 rfl rfl rfl (by decide) (by decide) (by decide) (by decide) ?_
    rintro _ T154 L154 X154 ⟨rfl, N154, e154⟩
    have N154 := Fr.app N151 N154
    show Go p e below _ (T154.setTop (mkF m 291 _ [(.int (1 : Int32))]))
    refine own_ifN 294 X154 hx hby at_291 rfl (by decide) ?_
    refine own_iconst 295 (1 : Int32) X154 hx hby at_294 rfl (by decide) ?_
    refine own_goto 299 X154 hx hby at_295 (by decide) (by decide) ?_
    exact own_ret (Q := own_Q1 n0) X154 hx hby hret hlk at_299 rfl (Or.inl ⟨rfl, by simp, _, rfl⟩) (by decide) (by decide) ⟨rfl, N154⟩
  refine own_icN 126 X102 hx hby at_123 rfl (flt hc103).1 ?_
  refine own_aload 128 X102 hx hby at_126 rfl rfl rfl ?_
  refine own_lload 130 X102 hx hby at_128 rfl rfl ?_
  refine own_lload 132 X102 hx hby at_130 rfl rfl ?_
  refine own_virt (W := 0) 135 (rm3_29 l Z a0 hw [] w_NONE k_NONE W b24 b102_0 k102_0 b102_1 k102_1 b102_2 k102_2 y11 y17 y9 ((0 : Int64) + y15) T102.heap n0 O102 E_b24_102 F_b24_droppedTotal_102 F_b24_end_102 F_b24_firsts_102 F_b24_head_102 F_b24_lasts_102 F_b24_totals_102 n_b24 V_b102_0_102 n_b102_0 V_b102_1_102 n_b102_1 V_b102_2_102 n_b102_2 ne_b24_b102_0 ne_b24_b102_1 ne_b24_b102_2 ne_b102_0_b102_1 ne_b102_0_b102_2 ne_b102_1_b102_2) X102 hx hby hZ hown (own_w hw 21 rfl) (own_w hw 22 rfl) (notFace_of_selects (args := #[]) (mvT hZ (own_w hw 24 rfl))) (own_w hw 24 rfl) (own_w hw 23 rfl) (own_w hw 6 rfl) (own_w hw 25 rfl) (by decide) (by rw [hml]; rfl) b24 [(.long y11), (.long y17)] [] pd_8 rfl at_132 rfl rfl E_b24_102 rfl rfl rfl (by decide) (by decide) (by decide) (by decide) ?_
  rintro _ T172 L172 X172 ⟨rfl, N172, Kc172, E_b24_172, F_b24_droppedTotal_172, F_b24_end_172, F_b24_firsts_172, F_b24_head_172, F_b24_lasts_172, F_b24_totals_172, V_b102_0_172, V_b102_1_172, V_b102_2_172⟩
  have N172 := Fr.app N102 N172
  have O172 := O102.keep Kc172 (allS n_b102_0 (allS n_b102_1 (allS n_b102_2 (allS n_b24 all0))))
  show Go p e below _ (T172.setTop (mkF m 135 _ []))
  refine own_iload 137 X172 hx hby at_135 rfl rfl ?_
  refine own_iconst 138 (3 : Int32) X172 hx hby at_137 rfl (by decide) ?_
  by_cases hc173 : x8 < (3 : Int32)
  · refine own_icY 150 X172 hx hby at_138 (by decide) (by decide) (tlt hc173).1 ?_
    refine own_aload 152 X172 hx hby at_150 rfl rfl rfl ?_
    refine own_lload 154 X172 hx hby at_152 rfl rfl ?_
    by_cases hc196 : y21 < y9
    · refine own_virt (W := 0) 157 (rm8_30 l Z a0 hw [] w_NONE k_NONE W b24 b102_0 k102_0 b102_1 k102_1 b102_2 k102_2 y21 y9 y11 ((0 : Int64) + y15) (((0 : Int64) + y15) + y17) T172.heap n0 O172 E_b24_172 F_b24_droppedTotal_172 F_b24_end_172 F_b24_firsts_172 F_b24_head_172 F_b24_lasts_172 F_b24_totals_172 n_b24 V_b102_0_172 n_b102_0 V_b102_1_172 n_b102_1 V_b102_2_172 n_b102_2 ne_b24_b102_0 ne_b24_b102_1 ne_b24_b102_2 ne_b102_0_b102_1 ne_b102_0_b102_2 ne_b102_1_b102_2 hc196) X172 hx hby hZ hown (own_w hw 53 rfl) (own_w hw 54 rfl) (notFace_of_selects (args := #[]) (mvT hZ (own_w hw 56 rfl))) (own_w hw 56 rfl) (own_w hw 55 rfl) (own_w hw 6 rfl) (own_w hw 57 rfl) (by decide) (by rw [hml]; rfl) b24 [(.long y21)] [] pd_1 rfl at_154 rfl rfl E_b24_172 rfl rfl rfl (by decide) (by decide) (by decide) (by decide) ?_
      rintro _ T197 L197 X197 ⟨rfl, N197, e197⟩
      have N197 := Fr.app N172 N197
      show Go p e below _ (T197.setTop (mkF m 157 _ []))
      refine own_iconst 158 (0 : Int32) X197 hx hby at_157 rfl (by decide) ?_
      refine own_istore 160 #[oJ y0, oS, oI x2, oJ y3, oS, oJ y5, oS, oI x7, oI x8, oJ y9, oS, oJ y11, oS, oJ y13, oS, oJ y15, oS, oJ y17, oS, oJ y19, oS, oJ y21, oS, oA b24, oI (0 : Int32), oU, oU, oU, oU] X197 hx hby at_158 rfl rfl ?_
      refine own_lconst 161 (0 : Int64) X197 hx hby at_160 rfl (by decide) ?_
      refine own_lstore 163 #[oJ y0, oS, oI x2, oJ y3, oS, oJ y5, oS, oI x7, oI x8, oJ y9, oS, oJ y11, oS, oJ y13, oS, oJ y15, oS, oJ y17, oS, oJ y19, oS, oJ y21, oS, oA b24, oI (0 : Int32), oJ (0 : Int64), oS, oU, oU] X197 hx hby at_161 rfl rfl ?_
      refine own_ldc2 166 X197 hx hby hZ hown (own_w hw 58 rfl) at_163 rfl ?_
      refine own_lstore 168 #[oJ y0, oS, oI x2, oJ y3, oS, oJ y5, oS, oI x7, oI x8, oJ y9, oS, oJ y11, oS, oJ y13, oS, oJ y15, oS, oJ y17, oS, oJ y19, oS, oJ y21, oS, oA b24, oI (0 : Int32), oJ (0 : Int64), oS, oJ (-1 : Int64), oS] X197 hx hby at_166 rfl rfl ?_
      refine own_iload 170 X197 hx hby at_168 rfl rfl ?_
      refine own_iconst 171 (1 : Int32) X197 hx hby at_170 rfl (by decide) ?_
      refine own_icN 174 X197 hx hby at_171 rfl (flt hc33).1 ?_
      refine own_lload 176 X197 hx hby at_174 rfl rfl ?_
      refine own_lload 178 X197 hx hby at_176 rfl rfl ?_
      refine own_lcmp 179 (XT.cmpL y9 y21) X197 hx hby at_178 rfl rfl ?_
      refine own_ifN 182 X197 hx hby at_179 rfl (own_tltL hc196).2.2.2 ?_
      refine own_iinc 185 #[oJ y0, oS, oI x2, oJ y3, oS, oJ y5, oS, oI x7, oI x8, oJ y9, oS, oJ y11, oS, oJ y13, oS, oJ y15, oS, oJ y17, oS, oJ y19, oS, oJ y21, oS, oA b24, oI (1 : Int32), oJ (0 : Int64), oS, oJ (-1 : Int64), oS] X197 hx hby at_182 rfl rfl rfl ?_
      refine own_lload 187 X197 hx hby at_185 rfl rfl ?_
      refine own_lload 189 X197 hx hby at_187 rfl rfl ?_
      obtain ⟨v198, dv198⟩ : ∃ z, z = ((0 : Int64) + y15) := ⟨_, rfl⟩
      refine own_ladd 190 v198 X197 hx hby at_189 rfl dv198.symm ?_
      refine own_lstore 192 #[oJ y0, oS, oI x2, oJ y3, oS, oJ y5, oS, oI x7, oI x8, oJ y9, oS, oJ y11, oS, oJ y13, oS, oJ y15, oS, oJ y17, oS, oJ y19, oS, oJ y21, oS, oA b24, oI (1 : Int32), oJ v198, oS, oJ (-1 : Int64), oS] X197 hx hby at_190 rfl rfl ?_
      refine own_lload 194 X197 hx hby at_192 rfl rfl ?_
      refine own_lstore 196 #[oJ y0, oS, oI x2, oJ y3, oS, oJ y5, oS, oI x7, oI x8, oJ y9, oS, oJ y11, oS, oJ y13, oS, oJ y15, oS, oJ y17, oS, oJ y19, oS, oJ y21, oS, oA b24, oI (1 : Int32), oJ v198, oS, oJ y9, oS] X197 hx hby at_194 rfl rfl ?_
      refine own_iload 198 X197 hx hby at_196 rfl rfl ?_
      refine own_iconst 199 (2 : Int32) X197 hx hby at_198 rfl (by decide) ?_
      refine own_icN 202 X197 hx hby at_199 rfl (flt hc103).1 ?_
      refine own_lload 204 X197 hx hby at_202 rfl rfl ?_
      refine own_lload 206 X197 hx hby at_204 rfl rfl ?_
      refine own_lcmp 207 (XT.cmpL y11 y21) X197 hx hby at_206 rfl rfl ?_
      refine own_ifN 210 X197 hx hby at_207 rfl (own_tltL (by have : -2 ^ 63 ≤ (y21).toInt ∧ (y21).toInt < 2 ^ 63 := own_rngJ y21; have : -2 ^ 63 ≤ (y11).toInt ∧ (y11).toInt < 2 ^ 63 := own_rngJ y11; have : -2 ^ 63 ≤ (y9).toInt ∧ (y9).toInt < 2 ^ 63 := own_rngJ y9; have : (y9).toInt < (y11).toInt := Int64.lt_iff_toInt_lt.mp hq2; have : (y21).toInt < (y9).toInt := Int64.lt_iff_toInt_lt.mp hc196; exact Int64.lt_iff_toInt_lt.mpr (by omega))).2.2.2 ?_
      refine own_iinc 213 #[oJ y0, oS, oI x2, oJ y3, oS, oJ y5, oS, oI x7, oI x8, oJ y9, oS, oJ y11, oS, oJ y13, oS, oJ y15, oS, oJ y17, oS, oJ y19, oS, oJ y21, oS, oA b24, oI (2 : Int32), oJ v198, oS, oJ y9, oS] X197 hx hby at_210 rfl rfl rfl ?_
      refine own_lload 215 X197 hx hby at_213 rfl rfl ?_
      refine own_lload 217 X197 hx hby at_215 rfl rfl ?_
      obtain ⟨v199, dv199⟩ : ∃ z, z = (v198 + y17) := ⟨_, rfl⟩
      refine own_ladd 218 v199 X197 hx hby at_217 rfl dv199.symm ?_
      refine own_lstore 220 #[oJ y0, oS, oI x2, oJ y3, oS, oJ y5, oS, oI x7, oI x8, oJ y9, oS, oJ y11, oS, oJ y13, oS, oJ y15, oS, oJ y17, oS, oJ y19, oS, oJ y21, oS, oA b24, oI (2 : Int32), oJ v199, oS, oJ y9, oS] X197 hx hby at_218 rfl rfl ?_
      refine own_lload 222 X197 hx hby at_220 rfl rfl ?_
      refine own_lstore 224 #[oJ y0, oS, oI x2, oJ y3, oS, oJ y5, oS, oI x7, oI x8, oJ y9, oS, oJ y11, oS, oJ y13, oS, oJ y15, oS, oJ y17, oS, oJ y19, oS, oJ y21, oS, oA b24, oI (2 : Int32), oJ v199, oS, oJ y11, oS] X197 hx hby at_222 rfl rfl ?_
      refine own_iload 226 X197 hx hby at_224 rfl rfl ?_
      refine own_iconst 227 (3 : Int32) X197 hx hby at_226 rfl (by decide) ?_
      refine own_icY 252 X197 hx hby at_227 (by decide) (by decide) (tlt hc173).1 ?_
      refine own_aload 254 X197 hx hby at_252 rfl rfl rfl ?_
      refine own_virt (W := 0) 257 (rm9_33 l Z a0 hw [] w_NONE k_NONE W b24 b102_0 k102_0 b102_1 k102_1 b102_2 k102_2 y9 y11 ((0 : Int64) + y15) (((0 : Int64) + y15) + y17) T172.heap n0 O172 E_b24_172 F_b24_droppedTotal_172 F_b24_end_172 F_b24_firsts_172 F_b24_head_172 F_b24_lasts_172 F_b24_totals_172 n_b24 V_b102_0_172 n_b102_0 V_b102_1_172 n_b102_1 V_b102_2_172 n_b102_2 ne_b24_b102_0 ne_b24_b102_1 ne_b24_b102_2 ne_b102_0_b102_1 ne_b102_0_b102_2 ne_b102_1_b102_2) X197 hx hby hZ hown (own_w hw 59 rfl) (own_w hw 60 rfl) (notFace_of_selects (args := #[]) (mvT hZ (own_w hw 62 rfl))) (own_w hw 62 rfl) (own_w hw 61 rfl) (own_w hw 6 rfl) (own_w hw 63 rfl) (by decide) (by rw [hml]; rfl) b24 [] [] pd_2 rfl at_254 rfl e197 E_b24_172 rfl rfl rfl (by decide) (by decide) (by decide) (by decide) ?_
      rintro _ T202 L202 X202 ⟨rfl, N202, e202⟩
      have N202 := Fr.app N197 N202
      show Go p e below _ (T202.setTop (mkF m 257 _ [(.int (2 : Int32))]))
      refine own_iload 259 X202 hx hby at_257 rfl rfl ?_
      refine own_icN 262 X202 hx hby at_259 rfl (by decide) ?_
      refine own_aload 264 X202 hx hby at_262 rfl rfl rfl ?_
      refine own_virt (W := 0) 267 (rm10_35 l Z a0 hw [] w_NONE k_NONE W b24 b102_0 k102_0 b102_1 k102_1 b102_2 k102_2 y9 y11 ((0 : Int64) + y15) (((0 : Int64) + y15) + y17) T172.heap n0 O172 E_b24_172 F_b24_droppedTotal_172 F_b24_end_172 F_b24_firsts_172 F_b24_head_172 F_b24_lasts_172 F_b24_totals_172 n_b24 V_b102_0_172 n_b102_0 V_b102_1_172 n_b102_1 V_b102_2_172 n_b102_2 ne_b24_b102_0 ne_b24_b102_1 ne_b24_b102_2 ne_b102_0_b102_1 ne_b102_0_b102_2 ne_b102_1_b102_2) X202 hx hby hZ hown (own_w hw 64 rfl) (own_w hw 65 rfl) (notFace_of_selects (args := #[]) (mvT hZ (own_w hw 67 rfl))) (own_w hw 67 rfl) (own_w hw 66 rfl) (own_w hw 6 rfl) (own_w hw 68 rfl) (by decide) (by rw [hml]; rfl) b24 [] [] pd_4 rfl at_264 rfl e202 E_b24_172 rfl rfl rfl (by decide) (by decide) (by decide) (by decide) ?_
      rintro _ T208 L208 X208 ⟨rfl, N208, e208⟩
      have N208 := Fr.app N202 N208
      show Go p e below _ (T208.setTop (mkF m 267 _ [(.long ((((0 : Int64) + y15) + y17) - (0 : Int64)))]))
      refine own_lload 269 X208 hx hby at_267 rfl rfl ?_
      refine own_lcmp 270 (XT.cmpL ((((0 : Int64) + y15) + y17) - (0 : Int64)) v199) X208 hx hby at_269 rfl rfl ?_
      refine own_ifN 273 X208 hx hby at_270 rfl (own_teqL (by have : ((0 : Int64)).toInt = 0 := rfl; have : 0 ≤ (y15).toInt ∧ (y15).toInt ≤ 2097152 := own_bdJ hq4 hq5; have : (((0 : Int64) + y15)).toInt = ((0 : Int64)).toInt + (y15).toInt := Jvm.Kit.i64_add (by omega) (by omega); have : 0 ≤ (y17).toInt ∧ (y17).toInt ≤ 2097152 := own_bdJ hq6 hq7; have : ((((0 : Int64) + y15) + y17)).toInt = (((0 : Int64) + y15)).toInt + (y17).toInt := Jvm.Kit.i64_add (by omega) (by omega); have : (((((0 : Int64) + y15) + y17) - (0 : Int64))).toInt = ((((0 : Int64) + y15) + y17)).toInt - ((0 : Int64)).toInt := Jvm.Kit.i64_sub (by omega) (by omega); have : (v198).toInt = (((0 : Int64) + y15)).toInt := congrArg Int64.toInt dv198; have : ((v198 + y17)).toInt = (v198).toInt + (y17).toInt := Jvm.Kit.i64_add (by omega) (by omega); have : (v199).toInt = ((v198 + y17)).toInt := congrArg Int64.toInt dv199; exact Int64.toInt_inj.mp (by omega))).2 ?_
      refine own_aload 275 X208 hx hby at_273 rfl rfl rfl ?_
      refine own_virt (W := 0) 278 (rm11_36 l Z a0 hw [] w_NONE k_NONE W b24 b102_0 k102_0 b102_1 k102_1 b102_2 k102_2 y9 y11 ((0 : Int64) + y15) (((0 : Int64) + y15) + y17) T172.heap n0 O172 E_b24_172 F_b24_droppedTotal_172 F_b24_end_172 F_b24_firsts_172 F_b24_head_172 F_b24_lasts_172 F_b24_totals_172 n_b24 V_b102_0_172 n_b102_0 V_b102_1_172 n_b102_1 V_b102_2_172 n_b102_2 ne_b24_b102_0 ne_b24_b102_1 ne_b24_b102_2 ne_b102_0_b102_1 ne_b102_0_b102_2 ne_b102_1_b102_2) X208 hx hby hZ hown (own_w hw 69 rfl) (own_w hw 70 rfl) (notFace_of_selects (args := #[]) (mvT hZ (own_w hw 72 rfl))) (own_w hw 72 rfl) (own_w hw 71 rfl) (own_w hw 6 rfl) (own_w hw 73 rfl) (by decide) (by rw [hml]; rfl) b24 [] [] pd_4 rfl at_275 rfl e208 E_b24_172 rfl rfl rfl (by decide) (by decide) (by decide) (by decide) ?_
      rintro _ T213 L213 X213 ⟨rfl, N213, e213⟩
      have N213 := Fr.app N208 N213
      show Go p e below _ (T213.setTop (mkF m 278 _ [(.long y11)]))
      refine own_lload 280 X213 hx hby at_278 rfl rfl ?_
      refine own_lcmp 281 (XT.cmpL y11 y11) X213 hx hby at_280 rfl rfl ?_
      refine own_ifN 284 X213 hx hby at_281 rfl (own_teqL rfl).2 ?_
      refine own_aload 286 X213 hx hby at_284 rfl rfl rfl ?_
      refine own_lload 288 X213 hx hby at_286 rfl rfl ?_
      refine own_virt (W := 0) 291 (rm12_37 l Z a0 hw [] w_NONE k_NONE W b24 b102_0 k102_0 b102_1 k102_1 b102_2 k102_2 y21 y9 y11 ((0 : Int64) + y15) (((0 : Int64) + y15) + y17) T172.heap n0 O172 E_b24_172 F_b24_droppedTotal_172 F_b24_end_172 F_b24_firsts_172 F_b24_head_172 F_b24_lasts_172 F_b24_totals_172 n_b24 V_b102_0_172 n_b102_0 V_b102_1_172 n_b102_1 V_b102_2_172 n_b102_2 ne_b24_b102_0 ne_b24_b102_1 ne_b24_b102_2 ne_b102_0_b102_1 ne_b102_0_b102_2 ne_b102_1_b102_2 hc196) X213 hx hby hZ hown (own_w hw 74 rfl) (own_w hw 75 rfl) (notFace_of_selects (args := #[]) (mvT hZ (own_w hw 77 rfl))) (own_w hw 77 rfl) (own_w hw 76 rfl) (own_w hw 6 rfl) (own_w hw 78 rfl) (by decide) (by rw [hml]; rfl) b24 [(.long y21)] [] pd_5 rfl at_288 rfl e213 E_b24_172 rfl rfl rfl (by decide) (by decide) (by decide) (by decide) ?_
      rintro _ T219 L219 X219 ⟨rfl, N219, e219⟩
      have N219 := Fr.app N213 N219
      show Go p e below _ (T219.setTop (mkF m 291 _ [(.int (1 : Int32))]))
      refine own_ifN 294 X219 hx hby at_291 rfl (by decide) ?_
      refine own_iconst 295 (1 : Int32) X219 hx hby at_294 rfl (by decide) ?_
      refine own_goto 299 X219 hx hby at_295 (by decide) (by decide) ?_
      exact own_ret (Q := own_Q1 n0) X219 hx hby hret hlk at_299 rfl (Or.inl ⟨rfl, by simp, _, rfl⟩) (by decide) (by decide) ⟨rfl, N219⟩
    by_cases hc220 : y21 < y11
    · refine own_virt (W := 0) 157 (rm8_31 l Z a0 hw [] w_NONE k_NONE W b24 b102_0 k102_0 b102_1 k102_1 b102_2 k102_2 y21 y9 y11 ((0 : Int64) + y15) (((0 : Int64) + y15) + y17) T172.heap n0 O172 E_b24_172 F_b24_droppedTotal_172 F_b24_end_172 F_b24_firsts_172 F_b24_head_172 F_b24_lasts_172 F_b24_totals_172 n_b24 V_b102_0_172 n_b102_0 V_b102_1_172 n_b102_1 V_b102_2_172 n_b102_2 ne_b24_b102_0 ne_b24_b102_1 ne_b24_b102_2 ne_b102_0_b102_1 ne_b102_0_b102_2 ne_b102_1_b102_2 hc196 hc220) X172 hx hby hZ hown (own_w hw 53 rfl) (own_w hw 54 rfl) (notFace_of_selects (args := #[]) (mvT hZ (own_w hw 56 rfl))) (own_w hw 56 rfl) (own_w hw 55 rfl) (own_w hw 6 rfl) (own_w hw 57 rfl) (by decide) (by rw [hml]; rfl) b24 [(.long y21)] [] pd_1 rfl at_154 rfl rfl E_b24_172 rfl rfl rfl (by decide) (by decide) (by decide) (by decide) ?_
      rintro _ T221 L221 X221 ⟨rfl, N221, Kc221, E_b24_221, F_b24_droppedTotal_221, F_b24_end_221, F_b24_firsts_221, F_b24_head_221, F_b24_lasts_221, F_b24_totals_221, V_b102_0_221, V_b102_1_221, V_b102_2_221⟩
      have N221 := Fr.app N172 N221
      have O221 := O172.keep Kc221 (allS n_b24 all0)
      show Go p e below _ (T221.setTop (mkF m 157 _ []))
      refine own_iconst 158 (0 : Int32) X221 hx hby at_157 rfl (by decide) ?_
      refine own_istore 160 #[oJ y0, oS, oI x2, oJ y3, oS, oJ y5, oS, oI x7, oI x8, oJ y9, oS, oJ y11, oS, oJ y13, oS, oJ y15, oS, oJ y17, oS, oJ y19, oS, oJ y21, oS, oA b24, oI (0 : Int32), oU, oU, oU, oU] X221 hx hby at_158 rfl rfl ?_
      refine own_lconst 161 (0 : Int64) X221 hx hby at_160 rfl (by decide) ?_
      refine own_lstore 163 #[oJ y0, oS, oI x2, oJ y3, oS, oJ y5, oS, oI x7, oI x8, oJ y9, oS, oJ y11, oS, oJ y13, oS, oJ y15, oS, oJ y17, oS, oJ y19, oS, oJ y21, oS, oA b24, oI (0 : Int32), oJ (0 : Int64), oS, oU, oU] X221 hx hby at_161 rfl rfl ?_
      refine own_ldc2 166 X221 hx hby hZ hown (own_w hw 58 rfl) at_163 rfl ?_
      refine own_lstore 168 #[oJ y0, oS, oI x2, oJ y3, oS, oJ y5, oS, oI x7, oI x8, oJ y9, oS, oJ y11, oS, oJ y13, oS, oJ y15, oS, oJ y17, oS, oJ y19, oS, oJ y21, oS, oA b24, oI (0 : Int32), oJ (0 : Int64), oS, oJ (-1 : Int64), oS] X221 hx hby at_166 rfl rfl ?_
      refine own_iload 170 X221 hx hby at_168 rfl rfl ?_
      refine own_iconst 171 (1 : Int32) X221 hx hby at_170 rfl (by decide) ?_
      refine own_icN 174 X221 hx hby at_171 rfl (flt hc33).1 ?_
      refine own_lload 176 X221 hx hby at_174 rfl rfl ?_
      refine own_lload 178 X221 hx hby at_176 rfl rfl ?_
      refine own_lcmp 179 (XT.cmpL y9 y21) X221 hx hby at_178 rfl rfl ?_
      refine own_ifY 196 X221 hx hby at_179 (by decide) (by decide) (own_fltL hc196).2.2.2 ?_
      refine own_iload 198 X221 hx hby at_196 rfl rfl ?_
      refine own_iconst 199 (2 : Int32) X221 hx hby at_198 rfl (by decide) ?_
      refine own_icN 202 X221 hx hby at_199 rfl (flt hc103).1 ?_
      refine own_lload 204 X221 hx hby at_202 rfl rfl ?_
      refine own_lload 206 X221 hx hby at_204 rfl rfl ?_
      refine own_lcmp 207 (XT.cmpL y11 y21) X221 hx hby at_206 rfl rfl ?_
      refine own_ifN 210 X221 hx hby at_207 rfl (own_tltL hc220).2.2.2 ?_
      refine own_iinc 213 #[oJ y0, oS, oI x2, oJ y3, oS, oJ y5, oS, oI x7, oI x8, oJ y9, oS, oJ y11, oS, oJ y13, oS, oJ y15, oS, oJ y17, oS, oJ y19, oS, oJ y21, oS, oA b24, oI (1 : Int32), oJ (0 : Int64), oS, oJ (-1 : Int64), oS] X221 hx hby at_210 rfl rfl rfl ?_
      refine own_lload 215 X221 hx hby at_213 rfl rfl ?_
      refine own_lload 217 X221 hx hby at_215 rfl rfl ?_
      obtain ⟨v222, dv222⟩ : ∃ z, z = ((0 : Int64) + y17) := ⟨_, rfl⟩
      refine own_ladd 218 v222 X221 hx hby at_217 rfl dv222.symm ?_
      refine own_lstore 220 #[oJ y0, oS, oI x2, oJ y3, oS, oJ y5, oS, oI x7, oI x8, oJ y9, oS, oJ y11, oS, oJ y13, oS, oJ y15, oS, oJ y17, oS, oJ y19, oS, oJ y21, oS, oA b24, oI (1 : Int32), oJ v222, oS, oJ (-1 : Int64), oS] X221 hx hby at_218 rfl rfl ?_
      refine own_lload 222 X221 hx hby at_220 rfl rfl ?_
      refine own_lstore 224 #[oJ y0, oS, oI x2, oJ y3, oS, oJ y5, oS, oI x7, oI x8, oJ y9, oS, oJ y11, oS, oJ y13, oS, oJ y15, oS, oJ y17, oS, oJ y19, oS, oJ y21, oS, oA b24, oI (1 : Int32), oJ v222, oS, oJ y11, oS] X221 hx hby at_222 rfl rfl ?_
      refine own_iload 226 X221 hx hby at_224 rfl rfl ?_
      refine own_iconst 227 (3 : Int32) X221 hx hby at_226 rfl (by decide) ?_
      refine own_icY 252 X221 hx hby at_227 (by decide) (by decide) (tlt hc173).1 ?_
      refine own_aload 254 X221 hx hby at_252 rfl rfl rfl ?_
      refine own_virt (W := 0) 257 (rm9_39 l Z a0 hw [] w_NONE k_NONE W b24 b102_0 k102_0 b102_1 k102_1 b102_2 k102_2 ((0 : Int64) + y15) y9 y11 (((0 : Int64) + y15) + y17) T221.heap n0 O221 E_b24_221 F_b24_droppedTotal_221 F_b24_end_221 F_b24_firsts_221 F_b24_head_221 F_b24_lasts_221 F_b24_totals_221 n_b24 V_b102_0_221 n_b102_0 V_b102_1_221 n_b102_1 V_b102_2_221 n_b102_2 ne_b24_b102_0 ne_b24_b102_1 ne_b24_b102_2 ne_b102_0_b102_1 ne_b102_0_b102_2 ne_b102_1_b102_2) X221 hx hby hZ hown (own_w hw 59 rfl) (own_w hw 60 rfl) (notFace_of_selects (args := #[]) (mvT hZ (own_w hw 62 rfl))) (own_w hw 62 rfl) (own_w hw 61 rfl) (own_w hw 6 rfl) (own_w hw 63 rfl) (by decide) (by rw [hml]; rfl) b24 [] [] pd_2 rfl at_254 rfl rfl E_b24_221 rfl rfl rfl (by decide) (by decide) (by decide) (by decide) ?_
      rintro _ T225 L225 X225 ⟨rfl, N225, e225⟩
      have N225 := Fr.app N221 N225
      show Go p e below _ (T225.setTop (mkF m 257 _ [(.int (1 : Int32))]))
      refine own_iload 259 X225 hx hby at_257 rfl rfl ?_
      refine own_icN 262 X225 hx hby at_259 rfl (by decide) ?_
      refine own_aload 264 X225 hx hby at_262 rfl rfl rfl ?_
      refine own_virt (W := 0) 267 (rm10_41 l Z a0 hw [] w_NONE k_NONE W b24 b102_0 k102_0 b102_1 k102_1 b102_2 k102_2 ((0 : Int64) + y15) y9 y11 (((0 : Int64) + y15) + y17) T221.heap n0 O221 E_b24_221 F_b24_droppedTotal_221 F_b24_end_221 F_b24_firsts_221 F_b24_head_221 F_b24_lasts_221 F_b24_totals_221 n_b24 V_b102_0_221 n_b102_0 V_b102_1_221 n_b102_1 V_b102_2_221 n_b102_2 ne_b24_b102_0 ne_b24_b102_1 ne_b24_b102_2 ne_b102_0_b102_1 ne_b102_0_b102_2 ne_b102_1_b102_2) X225 hx hby hZ hown (own_w hw 64 rfl) (own_w hw 65 rfl) (notFace_of_selects (args := #[]) (mvT hZ (own_w hw 67 rfl))) (own_w hw 67 rfl) (own_w hw 66 rfl) (own_w hw 6 rfl) (own_w hw 68 rfl) (by decide) (by rw [hml]; rfl) b24 [] [] pd_4 rfl at_264 rfl e225 E_b24_221 rfl rfl rfl (by decide) (by decide) (by decide) (by decide) ?_
      rintro _ T231 L231 X231 ⟨rfl, N231, e231⟩
      have N231 := Fr.app N225 N231
      show Go p e below _ (T231.setTop (mkF m 267 _ [(.long ((((0 : Int64) + y15) + y17) - ((0 : Int64) + y15)))]))
      refine own_lload 269 X231 hx hby at_267 rfl rfl ?_
      refine own_lcmp 270 (XT.cmpL ((((0 : Int64) + y15) + y17) - ((0 : Int64) + y15)) v222) X231 hx hby at_269 rfl rfl ?_
      refine own_ifN 273 X231 hx hby at_270 rfl (own_teqL (by have : ((0 : Int64)).toInt = 0 := rfl; have : 0 ≤ (y15).toInt ∧ (y15).toInt ≤ 2097152 := own_bdJ hq4 hq5; have : (((0 : Int64) + y15)).toInt = ((0 : Int64)).toInt + (y15).toInt := Jvm.Kit.i64_add (by omega) (by omega); have : 0 ≤ (y17).toInt ∧ (y17).toInt ≤ 2097152 := own_bdJ hq6 hq7; have : ((((0 : Int64) + y15) + y17)).toInt = (((0 : Int64) + y15)).toInt + (y17).toInt := Jvm.Kit.i64_add (by omega) (by omega); have : (((((0 : Int64) + y15) + y17) - ((0 : Int64) + y15))).toInt = ((((0 : Int64) + y15) + y17)).toInt - (((0 : Int64) + y15)).toInt := Jvm.Kit.i64_sub (by omega) (by omega); have : (((0 : Int64) + y17)).toInt = ((0 : Int64)).toInt + (y17).toInt := Jvm.Kit.i64_add (by omega) (by omega); have : (v222).toInt = (((0 : Int64) + y17)).toInt := congrArg Int64.toInt dv222; exact Int64.toInt_inj.mp (by omega))).2 ?_
      refine own_aload 275 X231 hx hby at_273 rfl rfl rfl ?_
      refine own_virt (W := 0) 278 (rm11_42 l Z a0 hw [] w_NONE k_NONE W b24 b102_0 k102_0 b102_1 k102_1 b102_2 k102_2 ((0 : Int64) + y15) y9 y11 (((0 : Int64) + y15) + y17) T221.heap n0 O221 E_b24_221 F_b24_droppedTotal_221 F_b24_end_221 F_b24_firsts_221 F_b24_head_221 F_b24_lasts_221 F_b24_totals_221 n_b24 V_b102_0_221 n_b102_0 V_b102_1_221 n_b102_1 V_b102_2_221 n_b102_2 ne_b24_b102_0 ne_b24_b102_1 ne_b24_b102_2 ne_b102_0_b102_1 ne_b102_0_b102_2 ne_b102_1_b102_2) X231 hx hby hZ hown (own_w hw 69 rfl) (own_w hw 70 rfl) (notFace_of_selects (args := #[]) (mvT hZ (own_w hw 72 rfl))) (own_w hw 72 rfl) (own_w hw 71 rfl) (own_w hw 6 rfl) (own_w hw 73 rfl) (by decide) (by rw [hml]; rfl) b24 [] [] pd_4 rfl at_275 rfl e231 E_b24_221 rfl rfl rfl (by decide) (by decide) (by decide) (by decide) ?_
      rintro _ T236 L236 X236 ⟨rfl, N236, e236⟩
      have N236 := Fr.app N231 N236
      show Go p e below _ (T236.setTop (mkF m 278 _ [(.long y11)]))
      refine own_lload 280 X236 hx hby at_278 rfl rfl ?_
      refine own_lcmp 281 (XT.cmpL y11 y11) X236 hx hby at_280 rfl rfl ?_
      refine own_ifN 284 X236 hx hby at_281 rfl (own_teqL rfl).2 ?_
      refine own_aload 286 X236 hx hby at_284 rfl rfl rfl ?_
      refine own_lload 288 X236 hx hby at_286 rfl rfl ?_
      refine own_virt (W := 0) 291 (rm12_43 l Z a0 hw [] w_NONE k_NONE W b24 b102_0 k102_0 b102_1 k102_1 b102_2 k102_2 y21 ((0 : Int64) + y15) y9 y11 (((0 : Int64) + y15) + y17) T221.heap n0 O221 E_b24_221 F_b24_droppedTotal_221 F_b24_end_221 F_b24_firsts_221 F_b24_head_221 F_b24_lasts_221 F_b24_totals_221 n_b24 V_b102_0_221 n_b102_0 V_b102_1_221 n_b102_1 V_b102_2_221 n_b102_2 ne_b24_b102_0 ne_b24_b102_1 ne_b24_b102_2 ne_b102_0_b102_1 ne_b102_0_b102_2 ne_b102_1_b102_2 hc220) X236 hx hby hZ hown (own_w hw 74 rfl) (own_w hw 75 rfl) (notFace_of_selects (args := #[]) (mvT hZ (own_w hw 77 rfl))) (own_w hw 77 rfl) (own_w hw 76 rfl) (own_w hw 6 rfl) (own_w hw 78 rfl) (by decide) (by rw [hml]; rfl) b24 [(.long y21)] [] pd_5 rfl at_288 rfl e236 E_b24_221 rfl rfl rfl (by decide) (by decide) (by decide) (by decide) ?_
      rintro _ T242 L242 X242 ⟨rfl, N242, e242⟩
      have N242 := Fr.app N236 N242
      show Go p e below _ (T242.setTop (mkF m 291 _ [(.int (1 : Int32))]))
      refine own_ifN 294 X242 hx hby at_291 rfl (by decide) ?_
      refine own_iconst 295 (1 : Int32) X242 hx hby at_294 rfl (by decide) ?_
      refine own_goto 299 X242 hx hby at_295 (by decide) (by decide) ?_
      exact own_ret (Q := own_Q1 n0) X242 hx hby hret hlk at_299 rfl (Or.inl ⟨rfl, by simp, _, rfl⟩) (by decide) (by decide) ⟨rfl, N242⟩
    refine own_virt (W := 0) 157 (rm8_32 l Z a0 hw [] w_NONE k_NONE W b24 b102_0 k102_0 b102_1 k102_1 b102_2 k102_2 y21 y9 y11 ((0 : Int64) + y15) (((0 : Int64) + y15) + y17) T172.heap n0 O172 E_b24_172 F_b24_droppedTotal_172 F_b24_end_172 F_b24_firsts_172 F_b24_head_172 F_b24_lasts_172 F_b24_totals_172 n_b24 V_b102_0_172 n_b102_0 V_b102_1_172 n_b102_1 V_b102_2_172 n_b102_2 ne_b24_b102_0 ne_b24_b102_1 ne_b24_b102_2 ne_b102_0_b102_1 ne_b102_0_b102_2 ne_b102_1_b102_2 hc196 hc220) X172 hx hby hZ hown (own_w hw 53 rfl) (own_w hw 54 rfl) (notFace_of_selects (args := #[]) (mvT hZ (own_w hw 56 rfl))) (own_w hw 56 rfl) (own_w hw 55 rfl) (own_w hw 6 rfl) (own_w hw 57 rfl) (by decide) (by rw [hml]; rfl) b24 [(.long y21)] [] pd_1 rfl at_154 rfl rfl E_b24_172 rfl rfl rfl (by decide) (by decide) (by decide) (by decide) ?_
    rintro _ T243 L243 X243 ⟨rfl, N243, Kc243, E_b24_243, F_b24_droppedTotal_243, F_b24_end_243, F_b24_firsts_243, F_b24_head_243, F_b24_lasts_243, F_b24_totals_243, V_b102_0_243, V_b102_1_243, V_b102_2_243⟩
    have N243 := Fr.app N172 N243
    have O243 := O172.keep Kc243 (allS n_b24 all0)
    show Go p e below _ (T243.setTop (mkF m 157 _ []))
    refine own_iconst 158 (0 : Int32) X243 hx hby at_157 rfl (by decide) ?_
    refine own_istore 160 #[oJ y0, oS, oI x2, oJ y3, oS, oJ y5, oS, oI x7, oI x8, oJ y9, oS, oJ y11, oS, oJ y13, oS, oJ y15, oS, oJ y17, oS, oJ y19, oS, oJ y21, oS, oA b24, oI (0 : Int32), oU, oU, oU, oU] X243 hx hby at_158 rfl rfl ?_
    refine own_lconst 161 (0 : Int64) X243 hx hby at_160 rfl (by decide) ?_
    refine own_lstore 163 #[oJ y0, oS, oI x2, oJ y3, oS, oJ y5, oS, oI x7, oI x8, oJ y9, oS, oJ y11, oS, oJ y13, oS, oJ y15, oS, oJ y17, oS, oJ y19, oS, oJ y21, oS, oA b24, oI (0 : Int32), oJ (0 : Int64), oS, oU, oU] X243 hx hby at_161 rfl rfl ?_
    refine own_ldc2 166 X243 hx hby hZ hown (own_w hw 58 rfl) at_163 rfl ?_
    refine own_lstore 168 #[oJ y0, oS, oI x2, oJ y3, oS, oJ y5, oS, oI x7, oI x8, oJ y9, oS, oJ y11, oS, oJ y13, oS, oJ y15, oS, oJ y17, oS, oJ y19, oS, oJ y21, oS, oA b24, oI (0 : Int32), oJ (0 : Int64), oS, oJ (-1 : Int64), oS] X243 hx hby at_166 rfl rfl ?_
    refine own_iload 170 X243 hx hby at_168 rfl rfl ?_
    refine own_iconst 171 (1 : Int32) X243 hx hby at_170 rfl (by decide) ?_
    refine own_icN 174 X243 hx hby at_171 rfl (flt hc33).1 ?_
    refine own_lload 176 X243 hx hby at_174 rfl rfl ?_
    refine own_lload 178 X243 hx hby at_176 rfl rfl ?_
    refine own_lcmp 179 (XT.cmpL y9 y21) X243 hx hby at_178 rfl rfl ?_
    refine own_ifY 196 X243 hx hby at_179 (by decide) (by decide) (own_fltL hc196).2.2.2 ?_
    refine own_iload 198 X243 hx hby at_196 rfl rfl ?_
    refine own_iconst 199 (2 : Int32) X243 hx hby at_198 rfl (by decide) ?_
    refine own_icN 202 X243 hx hby at_199 rfl (flt hc103).1 ?_
    refine own_lload 204 X243 hx hby at_202 rfl rfl ?_
    refine own_lload 206 X243 hx hby at_204 rfl rfl ?_
    refine own_lcmp 207 (XT.cmpL y11 y21) X243 hx hby at_206 rfl rfl ?_
    refine own_ifY 224 X243 hx hby at_207 (by decide) (by decide) (own_fltL hc220).2.2.2 ?_
    refine own_iload 226 X243 hx hby at_224 rfl rfl ?_
    refine own_iconst 227 (3 : Int32) X243 hx hby at_226 rfl (by decide) ?_
    refine own_icY 252 X243 hx hby at_227 (by decide) (by decide) (tlt hc173).1 ?_
    refine own_aload 254 X243 hx hby at_252 rfl rfl rfl ?_
    refine own_virt (W := 0) 257 (rm9_45 l Z a0 hw [] w_NONE k_NONE W b24 b102_0 k102_0 b102_1 k102_1 b102_2 k102_2 (((0 : Int64) + y15) + y17) y9 y11 ((0 : Int64) + y15) T243.heap n0 O243 E_b24_243 F_b24_droppedTotal_243 F_b24_end_243 F_b24_firsts_243 F_b24_head_243 F_b24_lasts_243 F_b24_totals_243 n_b24 V_b102_0_243 n_b102_0 V_b102_1_243 n_b102_1 V_b102_2_243 n_b102_2 ne_b24_b102_0 ne_b24_b102_1 ne_b24_b102_2 ne_b102_0_b102_1 ne_b102_0_b102_2 ne_b102_1_b102_2) X243 hx hby hZ hown (own_w hw 59 rfl) (own_w hw 60 rfl) (notFace_of_selects (args := #[]) (mvT hZ (own_w hw 62 rfl))) (own_w hw 62 rfl) (own_w hw 61 rfl) (own_w hw 6 rfl) (own_w hw 63 rfl) (by decide) (by rw [hml]; rfl) b24 [] [] pd_2 rfl at_254 rfl rfl E_b24_243 rfl rfl rfl (by decide) (by decide) (by decide) (by decide) ?_
    rintro _ T246 L246 X246 ⟨rfl, N246, e246⟩
    have N246 := Fr.app N243 N246
    show Go p e below _ (T246.setTop (mkF m 257 _ [(.int (0 : Int32))]))
    refine own_iload 259 X246 hx hby at_257 rfl rfl ?_
    refine own_icN 262 X246 hx hby at_259 rfl (by decide) ?_
    refine own_aload 264 X246 hx hby at_262 rfl rfl rfl ?_
    refine own_virt (W := 0) 267 (rm10_47 l Z a0 hw [] w_NONE k_NONE W b24 b102_0 k102_0 b102_1 k102_1 b102_2 k102_2 (((0 : Int64) + y15) + y17) y9 y11 ((0 : Int64) + y15) T243.heap n0 O243 E_b24_243 F_b24_droppedTotal_243 F_b24_end_243 F_b24_firsts_243 F_b24_head_243 F_b24_lasts_243 F_b24_totals_243 n_b24 V_b102_0_243 n_b102_0 V_b102_1_243 n_b102_1 V_b102_2_243 n_b102_2 ne_b24_b102_0 ne_b24_b102_1 ne_b24_b102_2 ne_b102_0_b102_1 ne_b102_0_b102_2 ne_b102_1_b102_2) X246 hx hby hZ hown (own_w hw 64 rfl) (own_w hw 65 rfl) (notFace_of_selects (args := #[]) (mvT hZ (own_w hw 67 rfl))) (own_w hw 67 rfl) (own_w hw 66 rfl) (own_w hw 6 rfl) (own_w hw 68 rfl) (by decide) (by rw [hml]; rfl) b24 [] [] pd_4 rfl at_264 rfl e246 E_b24_243 rfl rfl rfl (by decide) (by decide) (by decide) (by decide) ?_
    rintro _ T252 L252 X252 ⟨rfl, N252, e252⟩
    have N252 := Fr.app N246 N252
    show Go p e below _ (T252.setTop (mkF m 267 _ [(.long ((((0 : Int64) + y15) + y17) - (((0 : Int64) + y15) + y17)))]))
    refine own_lload 269 X252 hx hby at_267 rfl rfl ?_
    refine own_lcmp 270 (XT.cmpL ((((0 : Int64) + y15) + y17) - (((0 : Int64) + y15) + y17)) (0 : Int64)) X252 hx hby at_269 rfl rfl ?_
    refine own_ifN 273 X252 hx hby at_270 rfl (own_teqL (by have : ((0 : Int64)).toInt = 0 := rfl; have : 0 ≤ (y15).toInt ∧ (y15).toInt ≤ 2097152 := own_bdJ hq4 hq5; have : (((0 : Int64) + y15)).toInt = ((0 : Int64)).toInt + (y15).toInt := Jvm.Kit.i64_add (by omega) (by omega); have : 0 ≤ (y17).toInt ∧ (y17).toInt ≤ 2097152 := own_bdJ hq6 hq7; have : ((((0 : Int64) + y15) + y17)).toInt = (((0 : Int64) + y15)).toInt + (y17).toInt := Jvm.Kit.i64_add (by omega) (by omega); have : (((((0 : Int64) + y15) + y17) - (((0 : Int64) + y15) + y17))).toInt = ((((0 : Int64) + y15) + y17)).toInt - ((((0 : Int64) + y15) + y17)).toInt := Jvm.Kit.i64_sub (by omega) (by omega); exact Int64.toInt_inj.mp (by omega))).2 ?_
    refine own_aload 275 X252 hx hby at_273 rfl rfl rfl ?_
    refine own_virt (W := 0) 278 (rm11_48 l Z a0 hw [] w_NONE k_NONE W b24 b102_0 k102_0 b102_1 k102_1 b102_2 k102_2 (((0 : Int64) + y15) + y17) y9 y11 ((0 : Int64) + y15) T243.heap n0 O243 E_b24_243 F_b24_droppedTotal_243 F_b24_end_243 F_b24_firsts_243 F_b24_head_243 F_b24_lasts_243 F_b24_totals_243 n_b24 V_b102_0_243 n_b102_0 V_b102_1_243 n_b102_1 V_b102_2_243 n_b102_2 ne_b24_b102_0 ne_b24_b102_1 ne_b24_b102_2 ne_b102_0_b102_1 ne_b102_0_b102_2 ne_b102_1_b102_2) X252 hx hby hZ hown (own_w hw 69 rfl) (own_w hw 70 rfl) (notFace_of_selects (args := #[]) (mvT hZ (own_w hw 72 rfl))) (own_w hw 72 rfl) (own_w hw 71 rfl) (own_w hw 6 rfl) (own_w hw 73 rfl) (by decide) (by rw [hml]; rfl) b24 [] [] pd_4 rfl at_275 rfl e252 E_b24_243 rfl rfl rfl (by decide) (by decide) (by decide) (by decide) ?_
    rintro _ T255 L255 X255 ⟨rfl, N255, e255⟩
    have N255 := Fr.app N252 N255
    show Go p e below _ (T255.setTop (mkF m 278 _ [(.long (-1 : Int64))]))
    refine own_lload 280 X255 hx hby at_278 rfl rfl ?_
    refine own_lcmp 281 (0 : Int32) X255 hx hby at_280 rfl (by decide) ?_
    refine own_ifN 284 X255 hx hby at_281 rfl (by decide) ?_
    refine own_aload 286 X255 hx hby at_284 rfl rfl rfl ?_
    refine own_lload 288 X255 hx hby at_286 rfl rfl ?_
    refine own_virt (W := 0) 291 (rm12_49 l Z a0 hw [] w_NONE k_NONE W b24 b102_0 k102_0 b102_1 k102_1 b102_2 k102_2 y21 (((0 : Int64) + y15) + y17) y9 y11 ((0 : Int64) + y15) T243.heap n0 O243 E_b24_243 F_b24_droppedTotal_243 F_b24_end_243 F_b24_firsts_243 F_b24_head_243 F_b24_lasts_243 F_b24_totals_243 n_b24 V_b102_0_243 n_b102_0 V_b102_1_243 n_b102_1 V_b102_2_243 n_b102_2 ne_b24_b102_0 ne_b24_b102_1 ne_b24_b102_2 ne_b102_0_b102_1 ne_b102_0_b102_2 ne_b102_1_b102_2) X255 hx hby hZ hown (own_w hw 74 rfl) (own_w hw 75 rfl) (notFace_of_selects (args := #[]) (mvT hZ (own_w hw 77 rfl))) (own_w hw 77 rfl) (own_w hw 76 rfl) (own_w hw 6 rfl) (own_w hw 78 rfl) (by decide) (by rw [hml]; rfl) b24 [(.long y21)] [] pd_5 rfl at_288 rfl e255 E_b24_243 rfl rfl rfl (by decide) (by decide) (by decide) (by decide) ?_
    rintro _ T258 L258 X258 ⟨rfl, N258, e258⟩
    have N258 := Fr.app N255 N258
    show Go p e below _ (T258.setTop (mkF m 291 _ [(.int (1 : Int32))]))
    refine own_ifN 294 X258 hx hby at_291 rfl (by decide) ?_
    refine own_iconst 295 (1 : Int32) X258 hx hby at_294 rfl (by decide) ?_
    refine own_goto 299 X258 hx hby at_295 (by decide) (by decide) ?_
    exact own_ret (Q := own_Q1 n0) X258 hx hby hret hlk at_299 rfl (Or.inl ⟨rfl, by simp, _, rfl⟩) (by decide) (by decide) ⟨rfl, N258⟩
  refine own_icN 141 X172 hx hby at_138 rfl (flt hc173).1 ?_
  refine own_aload 143 X172 hx hby at_141 rfl rfl rfl ?_
  refine own_lload 145 X172 hx hby at_143 rfl rfl ?_
  refine own_lload 147 X172 hx hby at_145 rfl rfl ?_
  refine own_virt (W := 0) 150 (rm3_51 l Z a0 hw [] w_NONE k_NONE W b24 b102_0 k102_0 b102_1 k102_1 b102_2 k102_2 y13 y19 y9 y11 ((0 : Int64) + y15) (((0 : Int64) + y15) + y17) T172.heap n0 O172 E_b24_172 F_b24_droppedTotal_172 F_b24_end_172 F_b24_firsts_172 F_b24_head_172 F_b24_lasts_172 F_b24_totals_172 n_b24 V_b102_0_172 n_b102_0 V_b102_1_172 n_b102_1 V_b102_2_172 n_b102_2 ne_b24_b102_0 ne_b24_b102_1 ne_b24_b102_2 ne_b102_0_b102_1 ne_b102_0_b102_2 ne_b102_1_b102_2) X172 hx hby hZ hown (own_w hw 21 rfl) (own_w hw 22 rfl) (notFace_of_selects (args := #[]) (mvT hZ (own_w hw 24 rfl))) (own_w hw 24 rfl) (own_w hw 23 rfl) (own_w hw 6 rfl) (own_w hw 25 rfl) (by decide) (by rw [hml]; rfl) b24 [(.long y13), (.long y19)] [] pd_8 rfl at_147 rfl rfl E_b24_172 rfl rfl rfl (by decide) (by decide) (by decide) (by decide) ?_
  rintro _ T276 L276 X276 ⟨rfl, N276, Kc276, E_b24_276, F_b24_droppedTotal_276, F_b24_end_276, F_b24_firsts_276, F_b24_head_276, F_b24_lasts_276, F_b24_totals_276, V_b102_0_276, V_b102_1_276, V_b102_2_276⟩
  have N276 := Fr.app N172 N276
  have O276 := O172.keep Kc276 (allS n_b102_0 (allS n_b102_1 (allS n_b102_2 (allS n_b24 all0))))
  show Go p e below _ (T276.setTop (mkF m 150 _ []))
  refine own_aload 152 X276 hx hby at_150 rfl rfl rfl ?_
  refine own_lload 154 X276 hx hby at_152 rfl rfl ?_
  by_cases hc309 : y21 < y9
  · refine own_virt (W := 0) 157 (rm8_52 l Z a0 hw [] w_NONE k_NONE W b24 b102_0 k102_0 b102_1 k102_1 b102_2 k102_2 y21 y9 y11 y13 ((0 : Int64) + y15) (((0 : Int64) + y15) + y17) ((((0 : Int64) + y15) + y17) + y19) T276.heap n0 O276 E_b24_276 F_b24_droppedTotal_276 F_b24_end_276 F_b24_firsts_276 F_b24_head_276 F_b24_lasts_276 F_b24_totals_276 n_b24 V_b102_0_276 n_b102_0 V_b102_1_276 n_b102_1 V_b102_2_276 n_b102_2 ne_b24_b102_0 ne_b24_b102_1 ne_b24_b102_2 ne_b102_0_b102_1 ne_b102_0_b102_2 ne_b102_1_b102_2 hc309) X276 hx hby hZ hown (own_w hw 53 rfl) (own_w hw 54 rfl) (notFace_of_selects (args := #[]) (mvT hZ (own_w hw 56 rfl))) (own_w hw 56 rfl) (own_w hw 55 rfl) (own_w hw 6 rfl) (own_w hw 57 rfl) (by decide) (by rw [hml]; rfl) b24 [(.long y21)] [] pd_1 rfl at_154 rfl rfl E_b24_276 rfl rfl rfl (by decide) (by decide) (by decide) (by decide) ?_
    rintro _ T310 L310 X310 ⟨rfl, N310, e310⟩
    have N310 := Fr.app N276 N310
    show Go p e below _ (T310.setTop (mkF m 157 _ []))
    refine own_iconst 158 (0 : Int32) X310 hx hby at_157 rfl (by decide) ?_
    refine own_istore 160 #[oJ y0, oS, oI x2, oJ y3, oS, oJ y5, oS, oI x7, oI x8, oJ y9, oS, oJ y11, oS, oJ y13, oS, oJ y15, oS, oJ y17, oS, oJ y19, oS, oJ y21, oS, oA b24, oI (0 : Int32), oU, oU, oU, oU] X310 hx hby at_158 rfl rfl ?_
    refine own_lconst 161 (0 : Int64) X310 hx hby at_160 rfl (by decide) ?_
    refine own_lstore 163 #[oJ y0, oS, oI x2, oJ y3, oS, oJ y5, oS, oI x7, oI x8, oJ y9, oS, oJ y11, oS, oJ y13, oS, oJ y15, oS, oJ y17, oS, oJ y19, oS, oJ y21, oS, oA b24, oI (0 : Int32), oJ (0 : Int64), oS, oU, oU] X310 hx hby at_161 rfl rfl ?_
    refine own_ldc2 166 X310 hx hby hZ hown (own_w hw 58 rfl) at_163 rfl ?_
    refine own_lstore 168 #[oJ y0, oS, oI x2, oJ y3, oS, oJ y5, oS, oI x7, oI x8, oJ y9, oS, oJ y11, oS, oJ y13, oS, oJ y15, oS, oJ y17, oS, oJ y19, oS, oJ y21, oS, oA b24, oI (0 : Int32), oJ (0 : Int64), oS, oJ (-1 : Int64), oS] X310 hx hby at_166 rfl rfl ?_
    refine own_iload 170 X310 hx hby at_168 rfl rfl ?_
    refine own_iconst 171 (1 : Int32) X310 hx hby at_170 rfl (by decide) ?_
    refine own_icN 174 X310 hx hby at_171 rfl (flt hc33).1 ?_
    refine own_lload 176 X310 hx hby at_174 rfl rfl ?_
    refine own_lload 178 X310 hx hby at_176 rfl rfl ?_
    refine own_lcmp 179 (XT.cmpL y9 y21) X310 hx hby at_178 rfl rfl ?_
    refine own_ifN 182 X310 hx hby at_179 rfl (own_tltL hc309).2.2.2 ?_
    refine own_iinc 185 #[oJ y0, oS, oI x2, oJ y3, oS, oJ y5, oS, oI x7, oI x8, oJ y9, oS, oJ y11, oS, oJ y13, oS, oJ y15, oS, oJ y17, oS, oJ y19, oS, oJ y21, oS, oA b24, oI (1 : Int32), oJ (0 : Int64), oS, oJ (-1 : Int64), oS] X310 hx hby at_182 rfl rfl rfl ?_
    refine own_lload 187 X310 hx hby at_185 rfl rfl ?_
    refine own_lload 189 X310 hx hby at_187 rfl rfl ?_
    obtain ⟨v311, dv311⟩ : ∃ z, z = ((0 : Int64) + y15) := ⟨_, rfl⟩
    refine own_ladd 190 v311 X310 hx hby at_189 rfl dv311.symm ?_
    refine own_lstore 192 #[oJ y0, oS, oI x2, oJ y3, oS, oJ y5, oS, oI x7, oI x8, oJ y9, oS, oJ y11, oS, oJ y13, oS, oJ y15, oS, oJ y17, oS, oJ y19, oS, oJ y21, oS, oA b24, oI (1 : Int32), oJ v311, oS, oJ (-1 : Int64), oS] X310 hx hby at_190 rfl rfl ?_
    refine own_lload 194 X310 hx hby at_192 rfl rfl ?_
    refine own_lstore 196 #[oJ y0, oS, oI x2, oJ y3, oS, oJ y5, oS, oI x7, oI x8, oJ y9, oS, oJ y11, oS, oJ y13, oS, oJ y15, oS, oJ y17, oS, oJ y19, oS, oJ y21, oS, oA b24, oI (1 : Int32), oJ v311, oS, oJ y9, oS] X310 hx hby at_194 rfl rfl ?_
    refine own_iload 198 X310 hx hby at_196 rfl rfl ?_
    refine own_iconst 199 (2 : Int32) X310 hx hby at_198 rfl (by decide) ?_
    refine own_icN 202 X310 hx hby at_199 rfl (flt hc103).1 ?_
    refine own_lload 204 X310 hx hby at_202 rfl rfl ?_
    refine own_lload 206 X310 hx hby at_204 rfl rfl ?_
    refine own_lcmp 207 (XT.cmpL y11 y21) X310 hx hby at_206 rfl rfl ?_
    refine own_ifN 210 X310 hx hby at_207 rfl (own_tltL (by have : -2 ^ 63 ≤ (y21).toInt ∧ (y21).toInt < 2 ^ 63 := own_rngJ y21; have : -2 ^ 63 ≤ (y11).toInt ∧ (y11).toInt < 2 ^ 63 := own_rngJ y11; have : -2 ^ 63 ≤ (y9).toInt ∧ (y9).toInt < 2 ^ 63 := own_rngJ y9; have : (y9).toInt < (y11).toInt := Int64.lt_iff_toInt_lt.mp hq2; have : (y21).toInt < (y9).toInt := Int64.lt_iff_toInt_lt.mp hc309; exact Int64.lt_iff_toInt_lt.mpr (by omega))).2.2.2 ?_
    refine own_iinc 213 #[oJ y0, oS, oI x2, oJ y3, oS, oJ y5, oS, oI x7, oI x8, oJ y9, oS, oJ y11, oS, oJ y13, oS, oJ y15, oS, oJ y17, oS, oJ y19, oS, oJ y21, oS, oA b24, oI (2 : Int32), oJ v311, oS, oJ y9, oS] X310 hx hby at_210 rfl rfl rfl ?_
    refine own_lload 215 X310 hx hby at_213 rfl rfl ?_
    refine own_lload 217 X310 hx hby at_215 rfl rfl ?_
    obtain ⟨v312, dv312⟩ : ∃ z, z = (v311 + y17) := ⟨_, rfl⟩
    refine own_ladd 218 v312 X310 hx hby at_217 rfl dv312.symm ?_
    refine own_lstore 220 #[oJ y0, oS, oI x2, oJ y3, oS, oJ y5, oS, oI x7, oI x8, oJ y9, oS, oJ y11, oS, oJ y13, oS, oJ y15, oS, oJ y17, oS, oJ y19, oS, oJ y21, oS, oA b24, oI (2 : Int32), oJ v312, oS, oJ y9, oS] X310 hx hby at_218 rfl rfl ?_
    refine own_lload 222 X310 hx hby at_220 rfl rfl ?_
    refine own_lstore 224 #[oJ y0, oS, oI x2, oJ y3, oS, oJ y5, oS, oI x7, oI x8, oJ y9, oS, oJ y11, oS, oJ y13, oS, oJ y15, oS, oJ y17, oS, oJ y19, oS, oJ y21, oS, oA b24, oI (2 : Int32), oJ v312, oS, oJ y11, oS] X310 hx hby at_222 rfl rfl ?_
    refine own_iload 226 X310 hx hby at_224 rfl rfl ?_
    refine own_iconst 227 (3 : Int32) X310 hx hby at_226 rfl (by decide) ?_
    refine own_icN 230 X310 hx hby at_227 rfl (flt hc173).1 ?_
    refine own_lload 232 X310 hx hby at_230 rfl rfl ?_
    refine own_lload 234 X310 hx hby at_232 rfl rfl ?_
    refine own_lcmp 235 (XT.cmpL y13 y21) X310 hx hby at_234 rfl rfl ?_
    refine own_ifN 238 X310 hx hby at_235 rfl (own_tltL (by have : -2 ^ 63 ≤ (y21).toInt ∧ (y21).toInt < 2 ^ 63 := own_rngJ y21; have : -2 ^ 63 ≤ (y13).toInt ∧ (y13).toInt < 2 ^ 63 := own_rngJ y13; have : -2 ^ 63 ≤ (y9).toInt ∧ (y9).toInt < 2 ^ 63 := own_rngJ y9; have : -2 ^ 63 ≤ (y11).toInt ∧ (y11).toInt < 2 ^ 63 := own_rngJ y11; have : (y9).toInt < (y11).toInt := Int64.lt_iff_toInt_lt.mp hq2; have : (y11).toInt < (y13).toInt := Int64.lt_iff_toInt_lt.mp hq3; have : (y21).toInt < (y9).toInt := Int64.lt_iff_toInt_lt.mp hc309; exact Int64.lt_iff_toInt_lt.mpr (by omega))).2.2.2 ?_
    refine own_iinc 241 #[oJ y0, oS, oI x2, oJ y3, oS, oJ y5, oS, oI x7, oI x8, oJ y9, oS, oJ y11, oS, oJ y13, oS, oJ y15, oS, oJ y17, oS, oJ y19, oS, oJ y21, oS, oA b24, oI (3 : Int32), oJ v312, oS, oJ y11, oS] X310 hx hby at_238 rfl rfl rfl ?_
    refine own_lload 243 X310 hx hby at_241 rfl rfl ?_
    refine own_lload 245 X310 hx hby at_243 rfl rfl ?_
    obtain ⟨v313, dv313⟩ : ∃ z, z = (v312 + y19) := ⟨_, rfl⟩
    refine own_ladd 246 v313 X310 hx hby at_245 rfl dv313.symm ?_
    refine own_lstore 248 #[oJ y0, oS, oI x2, oJ y3, oS, oJ y5, oS, oI x7, oI x8, oJ y9, oS, oJ y11, oS, oJ y13, oS, oJ y15, oS, oJ y17, oS, oJ y19, oS, oJ y21, oS, oA b24, oI (3 : Int32), oJ v313, oS, oJ y11, oS] X310 hx hby at_246 rfl rfl ?_
    refine own_lload 250 X310 hx hby at_248 rfl rfl ?_
    refine own_lstore 252 #[oJ y0, oS, oI x2, oJ y3, oS, oJ y5, oS, oI x7, oI x8, oJ y9, oS, oJ y11, oS, oJ y13, oS, oJ y15, oS, oJ y17, oS, oJ y19, oS, oJ y21, oS, oA b24, oI (3 : Int32), oJ v313, oS, oJ y13, oS] X310 hx hby at_250 rfl rfl ?_
    refine own_aload 254 X310 hx hby at_252 rfl rfl rfl ?_
    refine own_virt (W := 0) 257 (rm9_56 l Z a0 hw [] w_NONE k_NONE W b24 b102_0 k102_0 b102_1 k102_1 b102_2 k102_2 y9 y11 y13 ((0 : Int64) + y15) (((0 : Int64) + y15) + y17) ((((0 : Int64) + y15) + y17) + y19) T276.heap n0 O276 E_b24_276 F_b24_droppedTotal_276 F_b24_end_276 F_b24_firsts_276 F_b24_head_276 F_b24_lasts_276 F_b24_totals_276 n_b24 V_b102_0_276 n_b102_0 V_b102_1_276 n_b102_1 V_b102_2_276 n_b102_2 ne_b24_b102_0 ne_b24_b102_1 ne_b24_b102_2 ne_b102_0_b102_1 ne_b102_0_b102_2 ne_b102_1_b102_2) X310 hx hby hZ hown (own_w hw 59 rfl) (own_w hw 60 rfl) (notFace_of_selects (args := #[]) (mvT hZ (own_w hw 62 rfl))) (own_w hw 62 rfl) (own_w hw 61 rfl) (own_w hw 6 rfl) (own_w hw 63 rfl) (by decide) (by rw [hml]; rfl) b24 [] [] pd_2 rfl at_254 rfl e310 E_b24_276 rfl rfl rfl (by decide) (by decide) (by decide) (by decide) ?_
    rintro _ T316 L316 X316 ⟨rfl, N316, e316⟩
    have N316 := Fr.app N310 N316
    show Go p e below _ (T316.setTop (mkF m 257 _ [(.int (3 : Int32))]))
    refine own_iload 259 X316 hx hby at_257 rfl rfl ?_
    refine own_icN 262 X316 hx hby at_259 rfl (by decide) ?_
    refine own_aload 264 X316 hx hby at_262 rfl rfl rfl ?_
    refine own_virt (W := 0) 267 (rm10_58 l Z a0 hw [] w_NONE k_NONE W b24 b102_0 k102_0 b102_1 k102_1 b102_2 k102_2 y9 y11 y13 ((0 : Int64) + y15) (((0 : Int64) + y15) + y17) ((((0 : Int64) + y15) + y17) + y19) T276.heap n0 O276 E_b24_276 F_b24_droppedTotal_276 F_b24_end_276 F_b24_firsts_276 F_b24_head_276 F_b24_lasts_276 F_b24_totals_276 n_b24 V_b102_0_276 n_b102_0 V_b102_1_276 n_b102_1 V_b102_2_276 n_b102_2 ne_b24_b102_0 ne_b24_b102_1 ne_b24_b102_2 ne_b102_0_b102_1 ne_b102_0_b102_2 ne_b102_1_b102_2) X316 hx hby hZ hown (own_w hw 64 rfl) (own_w hw 65 rfl) (notFace_of_selects (args := #[]) (mvT hZ (own_w hw 67 rfl))) (own_w hw 67 rfl) (own_w hw 66 rfl) (own_w hw 6 rfl) (own_w hw 68 rfl) (by decide) (by rw [hml]; rfl) b24 [] [] pd_4 rfl at_264 rfl e316 E_b24_276 rfl rfl rfl (by decide) (by decide) (by decide) (by decide) ?_
    rintro _ T322 L322 X322 ⟨rfl, N322, e322⟩
    have N322 := Fr.app N316 N322
    show Go p e below _ (T322.setTop (mkF m 267 _ [(.long (((((0 : Int64) + y15) + y17) + y19) - (0 : Int64)))]))
    refine own_lload 269 X322 hx hby at_267 rfl rfl ?_
    refine own_lcmp 270 (XT.cmpL (((((0 : Int64) + y15) + y17) + y19) - (0 : Int64)) v313) X322 hx hby at_269 rfl rfl ?_
    refine own_ifN 273 X322 hx hby at_270 rfl (own_teqL (by have : ((0 : Int64)).toInt = 0 := rfl; have : 0 ≤ (y15).toInt ∧ (y15).toInt ≤ 2097152 := own_bdJ hq4 hq5; have : (((0 : Int64) + y15)).toInt = ((0 : Int64)).toInt + (y15).toInt := Jvm.Kit.i64_add (by omega) (by omega); have : 0 ≤ (y17).toInt ∧ (y17).toInt ≤ 2097152 := own_bdJ hq6 hq7; have : ((((0 : Int64) + y15) + y17)).toInt = (((0 : Int64) + y15)).toInt + (y17).toInt := Jvm.Kit.i64_add (by omega) (by omega); have : 0 ≤ (y19).toInt ∧ (y19).toInt ≤ 2097152 := own_bdJ hq8 hq9; have : (((((0 : Int64) + y15) + y17) + y19)).toInt = ((((0 : Int64) + y15) + y17)).toInt + (y19).toInt := Jvm.Kit.i64_add (by omega) (by omega); have : ((((((0 : Int64) + y15) + y17) + y19) - (0 : Int64))).toInt = (((((0 : Int64) + y15) + y17) + y19)).toInt - ((0 : Int64)).toInt := Jvm.Kit.i64_sub (by omega) (by omega); have : (v311).toInt = (((0 : Int64) + y15)).toInt := congrArg Int64.toInt dv311; have : ((v311 + y17)).toInt = (v311).toInt + (y17).toInt := Jvm.Kit.i64_add (by omega) (by omega); have : (v312).toInt = ((v311 + y17)).toInt := congrArg Int64.toInt dv312; have : ((v312 + y19)).toInt = (v312).toInt + (y19).toInt := Jvm.Kit.i64_add (by omega) (by omega); have : (v313).toInt = ((v312 + y19)).toInt := congrArg Int64.toInt dv313; exact Int64.toInt_inj.mp (by omega))).2 ?_
    refine own_aload 275 X322 hx hby at_273 rfl rfl rfl ?_
    refine own_virt (W := 0) 278 (rm11_59 l Z a0 hw [] w_NONE k_NONE W b24 b102_0 k102_0 b102_1 k102_1 b102_2 k102_2 y9 y11 y13 ((0 : Int64) + y15) (((0 : Int64) + y15) + y17) ((((0 : Int64) + y15) + y17) + y19) T276.heap n0 O276 E_b24_276 F_b24_droppedTotal_276 F_b24_end_276 F_b24_firsts_276 F_b24_head_276 F_b24_lasts_276 F_b24_totals_276 n_b24 V_b102_0_276 n_b102_0 V_b102_1_276 n_b102_1 V_b102_2_276 n_b102_2 ne_b24_b102_0 ne_b24_b102_1 ne_b24_b102_2 ne_b102_0_b102_1 ne_b102_0_b102_2 ne_b102_1_b102_2) X322 hx hby hZ hown (own_w hw 69 rfl) (own_w hw 70 rfl) (notFace_of_selects (args := #[]) (mvT hZ (own_w hw 72 rfl))) (own_w hw 72 rfl) (own_w hw 71 rfl) (own_w hw 6 rfl) (own_w hw 73 rfl) (by decide) (by rw [hml]; rfl) b24 [] [] pd_4 rfl at_275 rfl e322 E_b24_276 rfl rfl rfl (by decide) (by decide) (by decide) (by decide) ?_
    rintro _ T327 L327 X327 ⟨rfl, N327, e327⟩
    have N327 := Fr.app N322 N327
    show Go p e below _ (T327.setTop (mkF m 278 _ [(.long y13)]))
    refine own_lload 280 X327 hx hby at_278 rfl rfl ?_
    refine own_lcmp 281 (XT.cmpL y13 y13) X327 hx hby at_280 rfl rfl ?_
    refine own_ifN 284 X327 hx hby at_281 rfl (own_teqL rfl).2 ?_
    refine own_aload 286 X327 hx hby at_284 rfl rfl rfl ?_
    refine own_lload 288 X327 hx hby at_286 rfl rfl ?_
    refine own_virt (W := 0) 291 (rm12_60 l Z a0 hw [] w_NONE k_NONE W b24 b102_0 k102_0 b102_1 k102_1 b102_2 k102_2 y21 y9 y11 y13 ((0 : Int64) + y15) (((0 : Int64) + y15) + y17) ((((0 : Int64) + y15) + y17) + y19) T276.heap n0 O276 E_b24_276 F_b24_droppedTotal_276 F_b24_end_276 F_b24_firsts_276 F_b24_head_276 F_b24_lasts_276 F_b24_totals_276 n_b24 V_b102_0_276 n_b102_0 V_b102_1_276 n_b102_1 V_b102_2_276 n_b102_2 ne_b24_b102_0 ne_b24_b102_1 ne_b24_b102_2 ne_b102_0_b102_1 ne_b102_0_b102_2 ne_b102_1_b102_2 hc309) X327 hx hby hZ hown (own_w hw 74 rfl) (own_w hw 75 rfl) (notFace_of_selects (args := #[]) (mvT hZ (own_w hw 77 rfl))) (own_w hw 77 rfl) (own_w hw 76 rfl) (own_w hw 6 rfl) (own_w hw 78 rfl) (by decide) (by rw [hml]; rfl) b24 [(.long y21)] [] pd_5 rfl at_288 rfl e327 E_b24_276 rfl rfl rfl (by decide) (by decide) (by decide) (by decide) ?_
    rintro _ T333 L333 X333 ⟨rfl, N333, e333⟩
    have N333 := Fr.app N327 N333
    show Go p e below _ (T333.setTop (mkF m 291 _ [(.int (1 : Int32))]))
    refine own_ifN 294 X333 hx hby at_291 rfl (by decide) ?_
    refine own_iconst 295 (1 : Int32) X333 hx hby at_294 rfl (by decide) ?_
    refine own_goto 299 X333 hx hby at_295 (by decide) (by decide) ?_
    exact own_ret (Q := own_Q1 n0) X333 hx hby hret hlk at_299 rfl (Or.inl ⟨rfl, by simp, _, rfl⟩) (by decide) (by decide) ⟨rfl, N333⟩
  by_cases hc334 : y21 < y11
  · refine own_virt (W := 0) 157 (rm8_53 l Z a0 hw [] w_NONE k_NONE W b24 b102_0 k102_0 b102_1 k102_1 b102_2 k102_2 y21 y9 y11 y13 ((0 : Int64) + y15) (((0 : Int64) + y15) + y17) ((((0 : Int64) + y15) + y17) + y19) T276.heap n0 O276 E_b24_276 F_b24_droppedTotal_276 F_b24_end_276 F_b24_firsts_276 F_b24_head_276 F_b24_lasts_276 F_b24_totals_276 n_b24 V_b102_0_276 n_b102_0 V_b102_1_276 n_b102_1 V_b102_2_276 n_b102_2 ne_b24_b102_0 ne_b24_b102_1 ne_b24_b102_2 ne_b102_0_b102_1 ne_b102_0_b102_2 ne_b102_1_b102_2 hc309 hc334) X276 hx hby hZ hown (own_w hw 53 rfl) (own_w hw 54 rfl) (notFace_of_selects (args := #[]) (mvT hZ (own_w hw 56 rfl))) (own_w hw 56 rfl) (own_w hw 55 rfl) (own_w hw 6 rfl) (own_w hw 57 rfl) (by decide) (by rw [hml]; rfl) b24 [(.long y21)] [] pd_1 rfl at_154 rfl rfl E_b24_276 rfl rfl rfl (by decide) (by decide) (by decide) (by decide) ?_
    rintro _ T335 L335 X335 ⟨rfl, N335, Kc335, E_b24_335, F_b24_droppedTotal_335, F_b24_end_335, F_b24_firsts_335, F_b24_head_335, F_b24_lasts_335, F_b24_totals_335, V_b102_0_335, V_b102_1_335, V_b102_2_335⟩
    have N335 := Fr.app N276 N335
    have O335 := O276.keep Kc335 (allS n_b24 all0)
    show Go p e below _ (T335.setTop (mkF m 157 _ []))
    refine own_iconst 158 (0 : Int32) X335 hx hby at_157 rfl (by decide) ?_
    refine own_istore 160 #[oJ y0, oS, oI x2, oJ y3, oS, oJ y5, oS, oI x7, oI x8, oJ y9, oS, oJ y11, oS, oJ y13, oS, oJ y15, oS, oJ y17, oS, oJ y19, oS, oJ y21, oS, oA b24, oI (0 : Int32), oU, oU, oU, oU] X335 hx hby at_158 rfl rfl ?_
    refine own_lconst 161 (0 : Int64) X335 hx hby at_160 rfl (by decide) ?_
    refine own_lstore 163 #[oJ y0, oS, oI x2, oJ y3, oS, oJ y5, oS, oI x7, oI x8, oJ y9, oS, oJ y11, oS, oJ y13, oS, oJ y15, oS, oJ y17, oS, oJ y19, oS, oJ y21, oS, oA b24, oI (0 : Int32), oJ (0 : Int64), oS, oU, oU] X335 hx hby at_161 rfl rfl ?_
    refine own_ldc2 166 X335 hx hby hZ hown (own_w hw 58 rfl) at_163 rfl ?_
    refine own_lstore 168 #[oJ y0, oS, oI x2, oJ y3, oS, oJ y5, oS, oI x7, oI x8, oJ y9, oS, oJ y11, oS, oJ y13, oS, oJ y15, oS, oJ y17, oS, oJ y19, oS, oJ y21, oS, oA b24, oI (0 : Int32), oJ (0 : Int64), oS, oJ (-1 : Int64), oS] X335 hx hby at_166 rfl rfl ?_
    refine own_iload 170 X335 hx hby at_168 rfl rfl ?_
    refine own_iconst 171 (1 : Int32) X335 hx hby at_170 rfl (by decide) ?_
    refine own_icN 174 X335 hx hby at_171 rfl (flt hc33).1 ?_
    refine own_lload 176 X335 hx hby at_174 rfl rfl ?_
    refine own_lload 178 X335 hx hby at_176 rfl rfl ?_
    refine own_lcmp 179 (XT.cmpL y9 y21) X335 hx hby at_178 rfl rfl ?_
    refine own_ifY 196 X335 hx hby at_179 (by decide) (by decide) (own_fltL hc309).2.2.2 ?_
    refine own_iload 198 X335 hx hby at_196 rfl rfl ?_
    refine own_iconst 199 (2 : Int32) X335 hx hby at_198 rfl (by decide) ?_
    refine own_icN 202 X335 hx hby at_199 rfl (flt hc103).1 ?_
    refine own_lload 204 X335 hx hby at_202 rfl rfl ?_
    refine own_lload 206 X335 hx hby at_204 rfl rfl ?_
    refine own_lcmp 207 (XT.cmpL y11 y21) X335 hx hby at_206 rfl rfl ?_
    refine own_ifN 210 X335 hx hby at_207 rfl (own_tltL hc334).2.2.2 ?_
    refine own_iinc 213 #[oJ y0, oS, oI x2, oJ y3, oS, oJ y5, oS, oI x7, oI x8, oJ y9, oS, oJ y11, oS, oJ y13, oS, oJ y15, oS, oJ y17, oS, oJ y19, oS, oJ y21, oS, oA b24, oI (1 : Int32), oJ (0 : Int64), oS, oJ (-1 : Int64), oS] X335 hx hby at_210 rfl rfl rfl ?_
    refine own_lload 215 X335 hx hby at_213 rfl rfl ?_
    refine own_lload 217 X335 hx hby at_215 rfl rfl ?_
    obtain ⟨v336, dv336⟩ : ∃ z, z = ((0 : Int64) + y17) := ⟨_, rfl⟩
    refine own_ladd 218 v336 X335 hx hby at_217 rfl dv336.symm ?_
    refine own_lstore 220 #[oJ y0, oS, oI x2, oJ y3, oS, oJ y5, oS, oI x7, oI x8, oJ y9, oS, oJ y11, oS, oJ y13, oS, oJ y15, oS, oJ y17, oS, oJ y19, oS, oJ y21, oS, oA b24, oI (1 : Int32), oJ v336, oS, oJ (-1 : Int64), oS] X335 hx hby at_218 rfl rfl ?_
    refine own_lload 222 X335 hx hby at_220 rfl rfl ?_
    refine own_lstore 224 #[oJ y0, oS, oI x2, oJ y3, oS, oJ y5, oS, oI x7, oI x8, oJ y9, oS, oJ y11, oS, oJ y13, oS, oJ y15, oS, oJ y17, oS, oJ y19, oS, oJ y21, oS, oA b24, oI (1 : Int32), oJ v336, oS, oJ y11, oS] X335 hx hby at_222 rfl rfl ?_
    refine own_iload 226 X335 hx hby at_224 rfl rfl ?_
    refine own_iconst 227 (3 : Int32) X335 hx hby at_226 rfl (by decide) ?_
    refine own_icN 230 X335 hx hby at_227 rfl (flt hc173).1 ?_
    refine own_lload 232 X335 hx hby at_230 rfl rfl ?_
    refine own_lload 234 X335 hx hby at_232 rfl rfl ?_
    refine own_lcmp 235 (XT.cmpL y13 y21) X335 hx hby at_234 rfl rfl ?_
    refine own_ifN 238 X335 hx hby at_235 rfl (own_tltL (by have : -2 ^ 63 ≤ (y21).toInt ∧ (y21).toInt < 2 ^ 63 := own_rngJ y21; have : -2 ^ 63 ≤ (y13).toInt ∧ (y13).toInt < 2 ^ 63 := own_rngJ y13; have : -2 ^ 63 ≤ (y11).toInt ∧ (y11).toInt < 2 ^ 63 := own_rngJ y11; have : (y11).toInt < (y13).toInt := Int64.lt_iff_toInt_lt.mp hq3; have : (y21).toInt < (y11).toInt := Int64.lt_iff_toInt_lt.mp hc334; exact Int64.lt_iff_toInt_lt.mpr (by omega))).2.2.2 ?_
    refine own_iinc 241 #[oJ y0, oS, oI x2, oJ y3, oS, oJ y5, oS, oI x7, oI x8, oJ y9, oS, oJ y11, oS, oJ y13, oS, oJ y15, oS, oJ y17, oS, oJ y19, oS, oJ y21, oS, oA b24, oI (2 : Int32), oJ v336, oS, oJ y11, oS] X335 hx hby at_238 rfl rfl rfl ?_
    refine own_lload 243 X335 hx hby at_241 rfl rfl ?_
    refine own_lload 245 X335 hx hby at_243 rfl rfl ?_
    obtain ⟨v337, dv337⟩ : ∃ z, z = (v336 + y19) := ⟨_, rfl⟩
    refine own_ladd 246 v337 X335 hx hby at_245 rfl dv337.symm ?_
    refine own_lstore 248 #[oJ y0, oS, oI x2, oJ y3, oS, oJ y5, oS, oI x7, oI x8, oJ y9, oS, oJ y11, oS, oJ y13, oS, oJ y15, oS, oJ y17, oS, oJ y19, oS, oJ y21, oS, oA b24, oI (2 : Int32), oJ v337, oS, oJ y11, oS] X335 hx hby at_246 rfl rfl ?_
    refine own_lload 250 X335 hx hby at_248 rfl rfl ?_
    refine own_lstore 252 #[oJ y0, oS, oI x2, oJ y3, oS, oJ y5, oS, oI x7, oI x8, oJ y9, oS, oJ y11, oS, oJ y13, oS, oJ y15, oS, oJ y17, oS, oJ y19, oS, oJ y21, oS, oA b24, oI (2 : Int32), oJ v337, oS, oJ y13, oS] X335 hx hby at_250 rfl rfl ?_
    refine own_aload 254 X335 hx hby at_252 rfl rfl rfl ?_
    refine own_virt (W := 0) 257 (rm9_62 l Z a0 hw [] w_NONE k_NONE W b24 b102_0 k102_0 b102_1 k102_1 b102_2 k102_2 ((0 : Int64) + y15) y9 y11 y13 (((0 : Int64) + y15) + y17) ((((0 : Int64) + y15) + y17) + y19) T335.heap n0 O335 E_b24_335 F_b24_droppedTotal_335 F_b24_end_335 F_b24_firsts_335 F_b24_head_335 F_b24_lasts_335 F_b24_totals_335 n_b24 V_b102_0_335 n_b102_0 V_b102_1_335 n_b102_1 V_b102_2_335 n_b102_2 ne_b24_b102_0 ne_b24_b102_1 ne_b24_b102_2 ne_b102_0_b102_1 ne_b102_0_b102_2 ne_b102_1_b102_2) X335 hx hby hZ hown (own_w hw 59 rfl) (own_w hw 60 rfl) (notFace_of_selects (args := #[]) (mvT hZ (own_w hw 62 rfl))) (own_w hw 62 rfl) (own_w hw 61 rfl) (own_w hw 6 rfl) (own_w hw 63 rfl) (by decide) (by rw [hml]; rfl) b24 [] [] pd_2 rfl at_254 rfl rfl E_b24_335 rfl rfl rfl (by decide) (by decide) (by decide) (by decide) ?_
    rintro _ T340 L340 X340 ⟨rfl, N340, e340⟩
    have N340 := Fr.app N335 N340
    show Go p e below _ (T340.setTop (mkF m 257 _ [(.int (2 : Int32))]))
    refine own_iload 259 X340 hx hby at_257 rfl rfl ?_
    refine own_icN 262 X340 hx hby at_259 rfl (by decide) ?_
    refine own_aload 264 X340 hx hby at_262 rfl rfl rfl ?_
    refine own_virt (W := 0) 267 (rm10_64 l Z a0 hw [] w_NONE k_NONE W b24 b102_0 k102_0 b102_1 k102_1 b102_2 k102_2 ((0 : Int64) + y15) y9 y11 y13 (((0 : Int64) + y15) + y17) ((((0 : Int64) + y15) + y17) + y19) T335.heap n0 O335 E_b24_335 F_b24_droppedTotal_335 F_b24_end_335 F_b24_firsts_335 F_b24_head_335 F_b24_lasts_335 F_b24_totals_335 n_b24 V_b102_0_335 n_b102_0 V_b102_1_335 n_b102_1 V_b102_2_335 n_b102_2 ne_b24_b102_0 ne_b24_b102_1 ne_b24_b102_2 ne_b102_0_b102_1 ne_b102_0_b102_2 ne_b102_1_b102_2) X340 hx hby hZ hown (own_w hw 64 rfl) (own_w hw 65 rfl) (notFace_of_selects (args := #[]) (mvT hZ (own_w hw 67 rfl))) (own_w hw 67 rfl) (own_w hw 66 rfl) (own_w hw 6 rfl) (own_w hw 68 rfl) (by decide) (by rw [hml]; rfl) b24 [] [] pd_4 rfl at_264 rfl e340 E_b24_335 rfl rfl rfl (by decide) (by decide) (by decide) (by decide) ?_
    rintro _ T346 L346 X346 ⟨rfl, N346, e346⟩
    have N346 := Fr.app N340 N346
    show Go p e below _ (T346.setTop (mkF m 267 _ [(.long (((((0 : Int64) + y15) + y17) + y19) - ((0 : Int64) + y15)))]))
    refine own_lload 269 X346 hx hby at_267 rfl rfl ?_
    refine own_lcmp 270 (XT.cmpL (((((0 : Int64) + y15) + y17) + y19) - ((0 : Int64) + y15)) v337) X346 hx hby at_269 rfl rfl ?_
    refine own_ifN 273 X346 hx hby at_270 rfl (own_teqL (by have : ((0 : Int64)).toInt = 0 := rfl; have : 0 ≤ (y15).toInt ∧ (y15).toInt ≤ 2097152 := own_bdJ hq4 hq5; have : (((0 : Int64) + y15)).toInt = ((0 : Int64)).toInt + (y15).toInt := Jvm.Kit.i64_add (by omega) (by omega); have : 0 ≤ (y17).toInt ∧ (y17).toInt ≤ 2097152 := own_bdJ hq6 hq7; have : ((((0 : Int64) + y15) + y17)).toInt = (((0 : Int64) + y15)).toInt + (y17).toInt := Jvm.Kit.i64_add (by omega) (by omega); have : 0 ≤ (y19).toInt ∧ (y19).toInt ≤ 2097152 := own_bdJ hq8 hq9; have : (((((0 : Int64) + y15) + y17) + y19)).toInt = ((((0 : Int64) + y15) + y17)).toInt + (y19).toInt := Jvm.Kit.i64_add (by omega) (by omega); have : ((((((0 : Int64) + y15) + y17) + y19) - ((0 : Int64) + y15))).toInt = (((((0 : Int64) + y15) + y17) + y19)).toInt - (((0 : Int64) + y15)).toInt := Jvm.Kit.i64_sub (by omega) (by omega); have : (((0 : Int64) + y17)).toInt = ((0 : Int64)).toInt + (y17).toInt := Jvm.Kit.i64_add (by omega) (by omega); have : (v336).toInt = (((0 : Int64) + y17)).toInt := congrArg Int64.toInt dv336; have : ((v336 + y19)).toInt = (v336).toInt + (y19).toInt := Jvm.Kit.i64_add (by omega) (by omega); have : (v337).toInt = ((v336 + y19)).toInt := congrArg Int64.toInt dv337; exact Int64.toInt_inj.mp (by omega))).2 ?_
    refine own_aload 275 X346 hx hby at_273 rfl rfl rfl ?_
    refine own_virt (W := 0) 278 (rm11_65 l Z a0 hw [] w_NONE k_NONE W b24 b102_0 k102_0 b102_1 k102_1 b102_2 k102_2 ((0 : Int64) + y15) y9 y11 y13 (((0 : Int64) + y15) + y17) ((((0 : Int64) + y15) + y17) + y19) T335.heap n0 O335 E_b24_335 F_b24_droppedTotal_335 F_b24_end_335 F_b24_firsts_335 F_b24_head_335 F_b24_lasts_335 F_b24_totals_335 n_b24 V_b102_0_335 n_b102_0 V_b102_1_335 n_b102_1 V_b102_2_335 n_b102_2 ne_b24_b102_0 ne_b24_b102_1 ne_b24_b102_2 ne_b102_0_b102_1 ne_b102_0_b102_2 ne_b102_1_b102_2) X346 hx hby hZ hown (own_w hw 69 rfl) (own_w hw 70 rfl) (notFace_of_selects (args := #[]) (mvT hZ (own_w hw 72 rfl))) (own_w hw 72 rfl) (own_w hw 71 rfl) (own_w hw 6 rfl) (own_w hw 73 rfl) (by decide) (by rw [hml]; rfl) b24 [] [] pd_4 rfl at_275 rfl e346 E_b24_335 rfl rfl rfl (by decide) (by decide) (by decide) (by decide) ?_
    rintro _ T351 L351 X351 ⟨rfl, N351, e351⟩
    have N351 := Fr.app N346 N351
    show Go p e below _ (T351.setTop (mkF m 278 _ [(.long y13)]))
    refine own_lload 280 X351 hx hby at_278 rfl rfl ?_
    refine own_lcmp 281 (XT.cmpL y13 y13) X351 hx hby at_280 rfl rfl ?_
    refine own_ifN 284 X351 hx hby at_281 rfl (own_teqL rfl).2 ?_
    refine own_aload 286 X351 hx hby at_284 rfl rfl rfl ?_
    refine own_lload 288 X351 hx hby at_286 rfl rfl ?_
    refine own_virt (W := 0) 291 (rm12_66 l Z a0 hw [] w_NONE k_NONE W b24 b102_0 k102_0 b102_1 k102_1 b102_2 k102_2 y21 ((0 : Int64) + y15) y9 y11 y13 (((0 : Int64) + y15) + y17) ((((0 : Int64) + y15) + y17) + y19) T335.heap n0 O335 E_b24_335 F_b24_droppedTotal_335 F_b24_end_335 F_b24_firsts_335 F_b24_head_335 F_b24_lasts_335 F_b24_totals_335 n_b24 V_b102_0_335 n_b102_0 V_b102_1_335 n_b102_1 V_b102_2_335 n_b102_2 ne_b24_b102_0 ne_b24_b102_1 ne_b24_b102_2 ne_b102_0_b102_1 ne_b102_0_b102_2 ne_b102_1_b102_2 hc334) X351 hx hby hZ hown (own_w hw 74 rfl) (own_w hw 75 rfl) (notFace_of_selects (args := #[]) (mvT hZ (own_w hw 77 rfl))) (own_w hw 77 rfl) (own_w hw 76 rfl) (own_w hw 6 rfl) (own_w hw 78 rfl) (by decide) (by rw [hml]; rfl) b24 [(.long y21)] [] pd_5 rfl at_288 rfl e351 E_b24_335 rfl rfl rfl (by decide) (by decide) (by decide) (by decide) ?_
    rintro _ T357 L357 X357 ⟨rfl, N357, e357⟩
    have N357 := Fr.app N351 N357
    show Go p e below _ (T357.setTop (mkF m 291 _ [(.int (1 : Int32))]))
    refine own_ifN 294 X357 hx hby at_291 rfl (by decide) ?_
    refine own_iconst 295 (1 : Int32) X357 hx hby at_294 rfl (by decide) ?_
    refine own_goto 299 X357 hx hby at_295 (by decide) (by decide) ?_
    exact own_ret (Q := own_Q1 n0) X357 hx hby hret hlk at_299 rfl (Or.inl ⟨rfl, by simp, _, rfl⟩) (by decide) (by decide) ⟨rfl, N357⟩
  by_cases hc358 : y21 < y13
  · refine own_virt (W := 0) 157 (rm8_54 l Z a0 hw [] w_NONE k_NONE W b24 b102_0 k102_0 b102_1 k102_1 b102_2 k102_2 y21 y9 y11 y13 ((0 : Int64) + y15) (((0 : Int64) + y15) + y17) ((((0 : Int64) + y15) + y17) + y19) T276.heap n0 O276 E_b24_276 F_b24_droppedTotal_276 F_b24_end_276 F_b24_firsts_276 F_b24_head_276 F_b24_lasts_276 F_b24_totals_276 n_b24 V_b102_0_276 n_b102_0 V_b102_1_276 n_b102_1 V_b102_2_276 n_b102_2 ne_b24_b102_0 ne_b24_b102_1 ne_b24_b102_2 ne_b102_0_b102_1 ne_b102_0_b102_2 ne_b102_1_b102_2 hc309 hc334 hc358) X276 hx hby hZ hown (own_w hw 53 rfl) (own_w hw 54 rfl) (notFace_of_selects (args := #[]) (mvT hZ (own_w hw 56 rfl))) (own_w hw 56 rfl) (own_w hw 55 rfl) (own_w hw 6 rfl) (own_w hw 57 rfl) (by decide) (by rw [hml]; rfl) b24 [(.long y21)] [] pd_1 rfl at_154 rfl rfl E_b24_276 rfl rfl rfl (by decide) (by decide) (by decide) (by decide) ?_
    rintro _ T359 L359 X359 ⟨rfl, N359, Kc359, E_b24_359, F_b24_droppedTotal_359, F_b24_end_359, F_b24_firsts_359, F_b24_head_359, F_b24_lasts_359, F_b24_totals_359, V_b102_0_359, V_b102_1_359, V_b102_2_359⟩
    have N359 := Fr.app N276 N359
    have O359 := O276.keep Kc359 (allS n_b24 all0)
    show Go p e below _ (T359.setTop (mkF m 157 _ []))
    refine own_iconst 158 (0 : Int32) X359 hx hby at_157 rfl (by decide) ?_
    refine own_istore 160 #[oJ y0, oS, oI x2, oJ y3, oS, oJ y5, oS, oI x7, oI x8, oJ y9, oS, oJ y11, oS, oJ y13, oS, oJ y15, oS, oJ y17, oS, oJ y19, oS, oJ y21, oS, oA b24, oI (0 : Int32), oU, oU, oU, oU] X359 hx hby at_158 rfl rfl ?_
    refine own_lconst 161 (0 : Int64) X359 hx hby at_160 rfl (by decide) ?_
    refine own_lstore 163 #[oJ y0, oS, oI x2, oJ y3, oS, oJ y5, oS, oI x7, oI x8, oJ y9, oS, oJ y11, oS, oJ y13, oS, oJ y15, oS, oJ y17, oS, oJ y19, oS, oJ y21, oS, oA b24, oI (0 : Int32), oJ (0 : Int64), oS, oU, oU] X359 hx hby at_161 rfl rfl ?_
    refine own_ldc2 166 X359 hx hby hZ hown (own_w hw 58 rfl) at_163 rfl ?_
    refine own_lstore 168 #[oJ y0, oS, oI x2, oJ y3, oS, oJ y5, oS, oI x7, oI x8, oJ y9, oS, oJ y11, oS, oJ y13, oS, oJ y15, oS, oJ y17, oS, oJ y19, oS, oJ y21, oS, oA b24, oI (0 : Int32), oJ (0 : Int64), oS, oJ (-1 : Int64), oS] X359 hx hby at_166 rfl rfl ?_
    refine own_iload 170 X359 hx hby at_168 rfl rfl ?_
    refine own_iconst 171 (1 : Int32) X359 hx hby at_170 rfl (by decide) ?_
    refine own_icN 174 X359 hx hby at_171 rfl (flt hc33).1 ?_
    refine own_lload 176 X359 hx hby at_174 rfl rfl ?_
    refine own_lload 178 X359 hx hby at_176 rfl rfl ?_
    refine own_lcmp 179 (XT.cmpL y9 y21) X359 hx hby at_178 rfl rfl ?_
    refine own_ifY 196 X359 hx hby at_179 (by decide) (by decide) (own_fltL hc309).2.2.2 ?_
    refine own_iload 198 X359 hx hby at_196 rfl rfl ?_
    refine own_iconst 199 (2 : Int32) X359 hx hby at_198 rfl (by decide) ?_
    refine own_icN 202 X359 hx hby at_199 rfl (flt hc103).1 ?_
    refine own_lload 204 X359 hx hby at_202 rfl rfl ?_
    refine own_lload 206 X359 hx hby at_204 rfl rfl ?_
    refine own_lcmp 207 (XT.cmpL y11 y21) X359 hx hby at_206 rfl rfl ?_
    refine own_ifY 224 X359 hx hby at_207 (by decide) (by decide) (own_fltL hc334).2.2.2 ?_
    refine own_iload 226 X359 hx hby at_224 rfl rfl ?_
    refine own_iconst 227 (3 : Int32) X359 hx hby at_226 rfl (by decide) ?_
    refine own_icN 230 X359 hx hby at_227 rfl (flt hc173).1 ?_
    refine own_lload 232 X359 hx hby at_230 rfl rfl ?_
    refine own_lload 234 X359 hx hby at_232 rfl rfl ?_
    refine own_lcmp 235 (XT.cmpL y13 y21) X359 hx hby at_234 rfl rfl ?_
    refine own_ifN 238 X359 hx hby at_235 rfl (own_tltL hc358).2.2.2 ?_
    refine own_iinc 241 #[oJ y0, oS, oI x2, oJ y3, oS, oJ y5, oS, oI x7, oI x8, oJ y9, oS, oJ y11, oS, oJ y13, oS, oJ y15, oS, oJ y17, oS, oJ y19, oS, oJ y21, oS, oA b24, oI (1 : Int32), oJ (0 : Int64), oS, oJ (-1 : Int64), oS] X359 hx hby at_238 rfl rfl rfl ?_
    refine own_lload 243 X359 hx hby at_241 rfl rfl ?_
    refine own_lload 245 X359 hx hby at_243 rfl rfl ?_
    obtain ⟨v360, dv360⟩ : ∃ z, z = ((0 : Int64) + y19) := ⟨_, rfl⟩
    refine own_ladd 246 v360 X359 hx hby at_245 rfl dv360.symm ?_
    refine own_lstore 248 #[oJ y0, oS, oI x2, oJ y3, oS, oJ y5, oS, oI x7, oI x8, oJ y9, oS, oJ y11, oS, oJ y13, oS, oJ y15, oS, oJ y17, oS, oJ y19, oS, oJ y21, oS, oA b24, oI (1 : Int32), oJ v360, oS, oJ (-1 : Int64), oS] X359 hx hby at_246 rfl rfl ?_
    refine own_lload 250 X359 hx hby at_248 rfl rfl ?_
    refine own_lstore 252 #[oJ y0, oS, oI x2, oJ y3, oS, oJ y5, oS, oI x7, oI x8, oJ y9, oS, oJ y11, oS, oJ y13, oS, oJ y15, oS, oJ y17, oS, oJ y19, oS, oJ y21, oS, oA b24, oI (1 : Int32), oJ v360, oS, oJ y13, oS] X359 hx hby at_250 rfl rfl ?_
    refine own_aload 254 X359 hx hby at_252 rfl rfl rfl ?_
    refine own_virt (W := 0) 257 (rm9_68 l Z a0 hw [] w_NONE k_NONE W b24 b102_0 k102_0 b102_1 k102_1 b102_2 k102_2 (((0 : Int64) + y15) + y17) y9 y11 y13 ((0 : Int64) + y15) ((((0 : Int64) + y15) + y17) + y19) T359.heap n0 O359 E_b24_359 F_b24_droppedTotal_359 F_b24_end_359 F_b24_firsts_359 F_b24_head_359 F_b24_lasts_359 F_b24_totals_359 n_b24 V_b102_0_359 n_b102_0 V_b102_1_359 n_b102_1 V_b102_2_359 n_b102_2 ne_b24_b102_0 ne_b24_b102_1 ne_b24_b102_2 ne_b102_0_b102_1 ne_b102_0_b102_2 ne_b102_1_b102_2) X359 hx hby hZ hown (own_w hw 59 rfl) (own_w hw 60 rfl) (notFace_of_selects (args := #[]) (mvT hZ (own_w hw 62 rfl))) (own_w hw 62 rfl) (own_w hw 61 rfl) (own_w hw 6 rfl) (own_w hw 63 rfl) (by decide) (by rw [hml]; rfl) b24 [] [] pd_2 rfl at_254 rfl rfl E_b24_359 rfl rfl rfl (by decide) (by decide) (by decide) (by decide) ?_
    rintro _ T363 L363 X363 ⟨rfl, N363, e363⟩
    have N363 := Fr.app N359 N363
    show Go p e below _ (T363.setTop (mkF m 257 _ [(.int (1 : Int32))]))
    refine own_iload 259 X363 hx hby at_257 rfl rfl ?_
    refine own_icN 262 X363 hx hby at_259 rfl (by decide) ?_
    refine own_aload 264 X363 hx hby at_262 rfl rfl rfl ?_
    refine own_virt (W := 0) 267 (rm10_70 l Z a0 hw [] w_NONE k_NONE W b24 b102_0 k102_0 b102_1 k102_1 b102_2 k102_2 (((0 : Int64) + y15) + y17) y9 y11 y13 ((0 : Int64) + y15) ((((0 : Int64) + y15) + y17) + y19) T359.heap n0 O359 E_b24_359 F_b24_droppedTotal_359 F_b24_end_359 F_b24_firsts_359 F_b24_head_359 F_b24_lasts_359 F_b24_totals_359 n_b24 V_b102_0_359 n_b102_0 V_b102_1_359 n_b102_1 V_b102_2_359 n_b102_2 ne_b24_b102_0 ne_b24_b102_1 ne_b24_b102_2 ne_b102_0_b102_1 ne_b102_0_b102_2 ne_b102_1_b102_2) X363 hx hby hZ hown (own_w hw 64 rfl) (own_w hw 65 rfl) (notFace_of_selects (args := #[]) (mvT hZ (own_w hw 67 rfl))) (own_w hw 67 rfl) (own_w hw 66 rfl) (own_w hw 6 rfl) (own_w hw 68 rfl) (by decide) (by rw [hml]; rfl) b24 [] [] pd_4 rfl at_264 rfl e363 E_b24_359 rfl rfl rfl (by decide) (by decide) (by decide) (by decide) ?_
    rintro _ T369 L369 X369 ⟨rfl, N369, e369⟩
    have N369 := Fr.app N363 N369
    show Go p e below _ (T369.setTop (mkF m 267 _ [(.long (((((0 : Int64) + y15) + y17) + y19) - (((0 : Int64) + y15) + y17)))]))
    refine own_lload 269 X369 hx hby at_267 rfl rfl ?_
    refine own_lcmp 270 (XT.cmpL (((((0 : Int64) + y15) + y17) + y19) - (((0 : Int64) + y15) + y17)) v360) X369 hx hby at_269 rfl rfl ?_
    refine own_ifN 273 X369 hx hby at_270 rfl (own_teqL (by have : ((0 : Int64)).toInt = 0 := rfl; have : 0 ≤ (y15).toInt ∧ (y15).toInt ≤ 2097152 := own_bdJ hq4 hq5; have : (((0 : Int64) + y15)).toInt = ((0 : Int64)).toInt + (y15).toInt := Jvm.Kit.i64_add (by omega) (by omega); have : 0 ≤ (y17).toInt ∧ (y17).toInt ≤ 2097152 := own_bdJ hq6 hq7; have : ((((0 : Int64) + y15) + y17)).toInt = (((0 : Int64) + y15)).toInt + (y17).toInt := Jvm.Kit.i64_add (by omega) (by omega); have : 0 ≤ (y19).toInt ∧ (y19).toInt ≤ 2097152 := own_bdJ hq8 hq9; have : (((((0 : Int64) + y15) + y17) + y19)).toInt = ((((0 : Int64) + y15) + y17)).toInt + (y19).toInt := Jvm.Kit.i64_add (by omega) (by omega); have : ((((((0 : Int64) + y15) + y17) + y19) - (((0 : Int64) + y15) + y17))).toInt = (((((0 : Int64) + y15) + y17) + y19)).toInt - ((((0 : Int64) + y15) + y17)).toInt := Jvm.Kit.i64_sub (by omega) (by omega); have : (((0 : Int64) + y19)).toInt = ((0 : Int64)).toInt + (y19).toInt := Jvm.Kit.i64_add (by omega) (by omega); have : (v360).toInt = (((0 : Int64) + y19)).toInt := congrArg Int64.toInt dv360; exact Int64.toInt_inj.mp (by omega))).2 ?_
    refine own_aload 275 X369 hx hby at_273 rfl rfl rfl ?_
    refine own_virt (W := 0) 278 (rm11_71 l Z a0 hw [] w_NONE k_NONE W b24 b102_0 k102_0 b102_1 k102_1 b102_2 k102_2 (((0 : Int64) + y15) + y17) y9 y11 y13 ((0 : Int64) + y15) ((((0 : Int64) + y15) + y17) + y19) T359.heap n0 O359 E_b24_359 F_b24_droppedTotal_359 F_b24_end_359 F_b24_firsts_359 F_b24_head_359 F_b24_lasts_359 F_b24_totals_359 n_b24 V_b102_0_359 n_b102_0 V_b102_1_359 n_b102_1 V_b102_2_359 n_b102_2 ne_b24_b102_0 ne_b24_b102_1 ne_b24_b102_2 ne_b102_0_b102_1 ne_b102_0_b102_2 ne_b102_1_b102_2) X369 hx hby hZ hown (own_w hw 69 rfl) (own_w hw 70 rfl) (notFace_of_selects (args := #[]) (mvT hZ (own_w hw 72 rfl))) (own_w hw 72 rfl) (own_w hw 71 rfl) (own_w hw 6 rfl) (own_w hw 73 rfl) (by decide) (by rw [hml]; rfl) b24 [] [] pd_4 rfl at_275 rfl e369 E_b24_359 rfl rfl rfl (by decide) (by decide) (by decide) (by decide) ?_
    rintro _ T374 L374 X374 ⟨rfl, N374, e374⟩
    have N374 := Fr.app N369 N374
    show Go p e below _ (T374.setTop (mkF m 278 _ [(.long y13)]))
    refine own_lload 280 X374 hx hby at_278 rfl rfl ?_
    refine own_lcmp 281 (XT.cmpL y13 y13) X374 hx hby at_280 rfl rfl ?_
    refine own_ifN 284 X374 hx hby at_281 rfl (own_teqL rfl).2 ?_
    refine own_aload 286 X374 hx hby at_284 rfl rfl rfl ?_
    refine own_lload 288 X374 hx hby at_286 rfl rfl ?_
    refine own_virt (W := 0) 291 (rm12_72 l Z a0 hw [] w_NONE k_NONE W b24 b102_0 k102_0 b102_1 k102_1 b102_2 k102_2 y21 (((0 : Int64) + y15) + y17) y9 y11 y13 ((0 : Int64) + y15) ((((0 : Int64) + y15) + y17) + y19) T359.heap n0 O359 E_b24_359 F_b24_droppedTotal_359 F_b24_end_359 F_b24_firsts_359 F_b24_head_359 F_b24_lasts_359 F_b24_totals_359 n_b24 V_b102_0_359 n_b102_0 V_b102_1_359 n_b102_1 V_b102_2_359 n_b102_2 ne_b24_b102_0 ne_b24_b102_1 ne_b24_b102_2 ne_b102_0_b102_1 ne_b102_0_b102_2 ne_b102_1_b102_2 hc358) X374 hx hby hZ hown (own_w hw 74 rfl) (own_w hw 75 rfl) (notFace_of_selects (args := #[]) (mvT hZ (own_w hw 77 rfl))) (own_w hw 77 rfl) (own_w hw 76 rfl) (own_w hw 6 rfl) (own_w hw 78 rfl) (by decide) (by rw [hml]; rfl) b24 [(.long y21)] [] pd_5 rfl at_288 rfl e374 E_b24_359 rfl rfl rfl (by decide) (by decide) (by decide) (by decide) ?_
    rintro _ T380 L380 X380 ⟨rfl, N380, e380⟩
    have N380 := Fr.app N374 N380
    show Go p e below _ (T380.setTop (mkF m 291 _ [(.int (1 : Int32))]))
    refine own_ifN 294 X380 hx hby at_291 rfl (by decide) ?_
    refine own_iconst 295 (1 : Int32) X380 hx hby at_294 rfl (by decide) ?_
    refine own_goto 299 X380 hx hby at_295 (by decide) (by decide) ?_
    exact own_ret (Q := own_Q1 n0) X380 hx hby hret hlk at_299 rfl (Or.inl ⟨rfl, by simp, _, rfl⟩) (by decide) (by decide) ⟨rfl, N380⟩
  refine own_virt (W := 0) 157 (rm8_55 l Z a0 hw [] w_NONE k_NONE W b24 b102_0 k102_0 b102_1 k102_1 b102_2 k102_2 y21 y9 y11 y13 ((0 : Int64) + y15) (((0 : Int64) + y15) + y17) ((((0 : Int64) + y15) + y17) + y19) T276.heap n0 O276 E_b24_276 F_b24_droppedTotal_276 F_b24_end_276 F_b24_firsts_276 F_b24_head_276 F_b24_lasts_276 F_b24_totals_276 n_b24 V_b102_0_276 n_b102_0 V_b102_1_276 n_b102_1 V_b102_2_276 n_b102_2 ne_b24_b102_0 ne_b24_b102_1 ne_b24_b102_2 ne_b102_0_b102_1 ne_b102_0_b102_2 ne_b102_1_b102_2 hc309 hc334 hc358) X276 hx hby hZ hown (own_w hw 53 rfl) (own_w hw 54 rfl) (notFace_of_selects (args := #[]) (mvT hZ (own_w hw 56 rfl))) (own_w hw 56 rfl) (own_w hw 55 rfl) (own_w hw 6 rfl) (own_w hw 57 rfl) (by decide) (by rw [hml]; rfl) b24 [(.long y21)] [] pd_1 rfl at_154 rfl rfl E_b24_276 rfl rfl rfl (by decide) (by decide) (by decide) (by decide) ?_
  rintro _ T381 L381 X381 ⟨rfl, N381, Kc381, E_b24_381, F_b24_droppedTotal_381, F_b24_end_381, F_b24_firsts_381, F_b24_head_381, F_b24_lasts_381, F_b24_totals_381, V_b102_0_381, V_b102_1_381, V_b102_2_381⟩
  have N381 := Fr.app N276 N381
  have O381 := O276.keep Kc381 (allS n_b24 all0)
  show Go p e below _ (T381.setTop (mkF m 157 _ []))
  refine own_iconst 158 (0 : Int32) X381 hx hby at_157 rfl (by decide) ?_
  refine own_istore 160 #[oJ y0, oS, oI x2, oJ y3, oS, oJ y5, oS, oI x7, oI x8, oJ y9, oS, oJ y11, oS, oJ y13, oS, oJ y15, oS, oJ y17, oS, oJ y19, oS, oJ y21, oS, oA b24, oI (0 : Int32), oU, oU, oU, oU] X381 hx hby at_158 rfl rfl ?_
  refine own_lconst 161 (0 : Int64) X381 hx hby at_160 rfl (by decide) ?_
  refine own_lstore 163 #[oJ y0, oS, oI x2, oJ y3, oS, oJ y5, oS, oI x7, oI x8, oJ y9, oS, oJ y11, oS, oJ y13, oS, oJ y15, oS, oJ y17, oS, oJ y19, oS, oJ y21, oS, oA b24, oI (0 : Int32), oJ (0 : Int64), oS, oU, oU] X381 hx hby at_161 rfl rfl ?_
  refine own_ldc2 166 X381 hx hby hZ hown (own_w hw 58 rfl) at_163 rfl ?_
  refine own_lstore 168 #[oJ y0, oS, oI x2, oJ y3, oS, oJ y5, oS, oI x7, oI x8, oJ y9, oS, oJ y11, oS, oJ y13, oS, oJ y15, oS, oJ y17, oS, oJ y19, oS, oJ y21, oS, oA b24, oI (0 : Int32), oJ (0 : Int64), oS, oJ (-1 : Int64), oS] X381 hx hby at_166 rfl rfl ?_
  refine own_iload 170 X381 hx hby at_168 rfl rfl ?_
  refine own_iconst 171 (1 : Int32) X381 hx hby at_170 rfl (by decide) ?_
  refine own_icN 174 X381 hx hby at_171 rfl (flt hc33).1 ?_
  refine own_lload 176 X381 hx hby at_174 rfl rfl ?_
  refine own_lload 178 X381 hx hby at_176 rfl rfl ?_
  refine own_lcmp 179 (XT.cmpL y9 y21) X381 hx hby at_178 rfl rfl ?_
  refine own_ifY 196 X381 hx hby at_179 (by decide) (by decide) (own_fltL hc309).2.2.2 ?_
  refine own_iload 198 X381 hx hby at_196 rfl rfl ?_
  refine own_iconst 199 (2 : Int32) X381 hx hby at_198 rfl (by decide) ?_
  refine own_icN 202 X381 hx hby at_199 rfl (flt hc103).1 ?_
  refine own_lload 204 X381 hx hby at_202 rfl rfl ?_
  refine own_lload 206 X381 hx hby at_204 rfl rfl ?_
  refine own_lcmp 207 (XT.cmpL y11 y21) X381 hx hby at_206 rfl rfl ?_
  refine own_ifY 224 X381 hx hby at_207 (by decide) (by decide) (own_fltL hc334).2.2.2 ?_
  refine own_iload 226 X381 hx hby at_224 rfl rfl ?_
  refine own_iconst 227 (3 : Int32) X381 hx hby at_226 rfl (by decide) ?_
  refine own_icN 230 X381 hx hby at_227 rfl (flt hc173).1 ?_
  refine own_lload 232 X381 hx hby at_230 rfl rfl ?_
  refine own_lload 234 X381 hx hby at_232 rfl rfl ?_
  refine own_lcmp 235 (XT.cmpL y13 y21) X381 hx hby at_234 rfl rfl ?_
  refine own_ifY 252 X381 hx hby at_235 (by decide) (by decide) (own_fltL hc358).2.2.2 ?_
  refine own_aload 254 X381 hx hby at_252 rfl rfl rfl ?_
  refine own_virt (W := 0) 257 (rm9_74 l Z a0 hw [] w_NONE k_NONE W b24 b102_0 k102_0 b102_1 k102_1 b102_2 k102_2 ((((0 : Int64) + y15) + y17) + y19) y9 y11 y13 ((0 : Int64) + y15) (((0 : Int64) + y15) + y17) T381.heap n0 O381 E_b24_381 F_b24_droppedTotal_381 F_b24_end_381 F_b24_firsts_381 F_b24_head_381 F_b24_lasts_381 F_b24_totals_381 n_b24 V_b102_0_381 n_b102_0 V_b102_1_381 n_b102_1 V_b102_2_381 n_b102_2 ne_b24_b102_0 ne_b24_b102_1 ne_b24_b102_2 ne_b102_0_b102_1 ne_b102_0_b102_2 ne_b102_1_b102_2) X381 hx hby hZ hown (own_w hw 59 rfl) (own_w hw 60 rfl) (notFace_of_selects (args := #[]) (mvT hZ (own_w hw 62 rfl))) (own_w hw 62 rfl) (own_w hw 61 rfl) (own_w hw 6 rfl) (own_w hw 63 rfl) (by decide) (by rw [hml]; rfl) b24 [] [] pd_2 rfl at_254 rfl rfl E_b24_381 rfl rfl rfl (by decide) (by decide) (by decide) (by decide) ?_
  rintro _ T384 L384 X384 ⟨rfl, N384, e384⟩
  have N384 := Fr.app N381 N384
  show Go p e below _ (T384.setTop (mkF m 257 _ [(.int (0 : Int32))]))
  refine own_iload 259 X384 hx hby at_257 rfl rfl ?_
  refine own_icN 262 X384 hx hby at_259 rfl (by decide) ?_
  refine own_aload 264 X384 hx hby at_262 rfl rfl rfl ?_
  refine own_virt (W := 0) 267 (rm10_76 l Z a0 hw [] w_NONE k_NONE W b24 b102_0 k102_0 b102_1 k102_1 b102_2 k102_2 ((((0 : Int64) + y15) + y17) + y19) y9 y11 y13 ((0 : Int64) + y15) (((0 : Int64) + y15) + y17) T381.heap n0 O381 E_b24_381 F_b24_droppedTotal_381 F_b24_end_381 F_b24_firsts_381 F_b24_head_381 F_b24_lasts_381 F_b24_totals_381 n_b24 V_b102_0_381 n_b102_0 V_b102_1_381 n_b102_1 V_b102_2_381 n_b102_2 ne_b24_b102_0 ne_b24_b102_1 ne_b24_b102_2 ne_b102_0_b102_1 ne_b102_0_b102_2 ne_b102_1_b102_2) X384 hx hby hZ hown (own_w hw 64 rfl) (own_w hw 65 rfl) (notFace_of_selects (args := #[]) (mvT hZ (own_w hw 67 rfl))) (own_w hw 67 rfl) (own_w hw 66 rfl) (own_w hw 6 rfl) (own_w hw 68 rfl) (by decide) (by rw [hml]; rfl) b24 [] [] pd_4 rfl at_264 rfl e384 E_b24_381 rfl rfl rfl (by decide) (by decide) (by decide) (by decide) ?_
  rintro _ T390 L390 X390 ⟨rfl, N390, e390⟩
  have N390 := Fr.app N384 N390
  show Go p e below _ (T390.setTop (mkF m 267 _ [(.long (((((0 : Int64) + y15) + y17) + y19) - ((((0 : Int64) + y15) + y17) + y19)))]))
  refine own_lload 269 X390 hx hby at_267 rfl rfl ?_
  refine own_lcmp 270 (XT.cmpL (((((0 : Int64) + y15) + y17) + y19) - ((((0 : Int64) + y15) + y17) + y19)) (0 : Int64)) X390 hx hby at_269 rfl rfl ?_
  refine own_ifN 273 X390 hx hby at_270 rfl (own_teqL (by have : ((0 : Int64)).toInt = 0 := rfl; have : 0 ≤ (y15).toInt ∧ (y15).toInt ≤ 2097152 := own_bdJ hq4 hq5; have : (((0 : Int64) + y15)).toInt = ((0 : Int64)).toInt + (y15).toInt := Jvm.Kit.i64_add (by omega) (by omega); have : 0 ≤ (y17).toInt ∧ (y17).toInt ≤ 2097152 := own_bdJ hq6 hq7; have : ((((0 : Int64) + y15) + y17)).toInt = (((0 : Int64) + y15)).toInt + (y17).toInt := Jvm.Kit.i64_add (by omega) (by omega); have : 0 ≤ (y19).toInt ∧ (y19).toInt ≤ 2097152 := own_bdJ hq8 hq9; have : (((((0 : Int64) + y15) + y17) + y19)).toInt = ((((0 : Int64) + y15) + y17)).toInt + (y19).toInt := Jvm.Kit.i64_add (by omega) (by omega); have : ((((((0 : Int64) + y15) + y17) + y19) - ((((0 : Int64) + y15) + y17) + y19))).toInt = (((((0 : Int64) + y15) + y17) + y19)).toInt - (((((0 : Int64) + y15) + y17) + y19)).toInt := Jvm.Kit.i64_sub (by omega) (by omega); exact Int64.toInt_inj.mp (by omega))).2 ?_
  refine own_aload 275 X390 hx hby at_273 rfl rfl rfl ?_
  refine own_virt (W := 0) 278 (rm11_77 l Z a0 hw [] w_NONE k_NONE W b24 b102_0 k102_0 b102_1 k102_1 b102_2 k102_2 ((((0 : Int64) + y15) + y17) + y19) y9 y11 y13 ((0 : Int64) + y15) (((0 : Int64) + y15) + y17) T381.heap n0 O381 E_b24_381 F_b24_droppedTotal_381 F_b24_end_381 F_b24_firsts_381 F_b24_head_381 F_b24_lasts_381 F_b24_totals_381 n_b24 V_b102_0_381 n_b102_0 V_b102_1_381 n_b102_1 V_b102_2_381 n_b102_2 ne_b24_b102_0 ne_b24_b102_1 ne_b24_b102_2 ne_b102_0_b102_1 ne_b102_0_b102_2 ne_b102_1_b102_2) X390 hx hby hZ hown (own_w hw 69 rfl) (own_w hw 70 rfl) (notFace_of_selects (args := #[]) (mvT hZ (own_w hw 72 rfl))) (own_w hw 72 rfl) (own_w hw 71 rfl) (own_w hw 6 rfl) (own_w hw 73 rfl) (by decide) (by rw [hml]; rfl) b24 [] [] pd_4 rfl at_275 rfl e390 E_b24_381 rfl rfl rfl (by decide) (by decide) (by decide) (by decide) ?_
  rintro _ T393 L393 X393 ⟨rfl, N393, e393⟩
  have N393 := Fr.app N390 N393
  show Go p e below _ (T393.setTop (mkF m 278 _ [(.long (-1 : Int64))]))
  refine own_lload 280 X393 hx hby at_278 rfl rfl ?_
  refine own_lcmp 281 (0 : Int32) X393 hx hby at_280 rfl (by decide) ?_
  refine own_ifN 284 X393 hx hby at_281 rfl (by decide) ?_
  refine own_aload 286 X393 hx hby at_284 rfl rfl rfl ?_
  refine own_lload 288 X393 hx hby at_286 rfl rfl ?_
  refine own_virt (W := 0) 291 (rm12_78 l Z a0 hw [] w_NONE k_NONE W b24 b102_0 k102_0 b102_1 k102_1 b102_2 k102_2 y21 ((((0 : Int64) + y15) + y17) + y19) y9 y11 y13 ((0 : Int64) + y15) (((0 : Int64) + y15) + y17) T381.heap n0 O381 E_b24_381 F_b24_droppedTotal_381 F_b24_end_381 F_b24_firsts_381 F_b24_head_381 F_b24_lasts_381 F_b24_totals_381 n_b24 V_b102_0_381 n_b102_0 V_b102_1_381 n_b102_1 V_b102_2_381 n_b102_2 ne_b24_b102_0 ne_b24_b102_1 ne_b24_b102_2 ne_b102_0_b102_1 ne_b102_0_b102_2 ne_b102_1_b102_2) X393 hx hby hZ hown (own_w hw 74 rfl) (own_w hw 75 rfl) (notFace_of_selects (args := #[]) (mvT hZ (own_w hw 77 rfl))) (own_w hw 77 rfl) (own_w hw 76 rfl) (own_w hw 6 rfl) (own_w hw 78 rfl) (by decide) (by rw [hml]; rfl) b24 [(.long y21)] [] pd_5 rfl at_288 rfl e393 E_b24_381 rfl rfl rfl (by decide) (by decide) (by decide) (by decide) ?_
  rintro _ T396 L396 X396 ⟨rfl, N396, e396⟩
  have N396 := Fr.app N393 N396
  show Go p e below _ (T396.setTop (mkF m 291 _ [(.int (1 : Int32))]))
  refine own_ifN 294 X396 hx hby at_291 rfl (by decide) ?_
  refine own_iconst 295 (1 : Int32) X396 hx hby at_294 rfl (by decide) ?_
  refine own_goto 299 X396 hx hby at_295 (by decide) (by decide) ?_
  exact own_ret (Q := own_Q1 n0) X396 hx hby hret hlk at_299 rfl (Or.inl ⟨rfl, by simp, _, rfl⟩) (by decide) (by decide) ⟨rfl, N396⟩
set_option maxRecDepth 65536 in
set_option maxHeartbeats 40000000 in
theorem rm0 (l : Launch) (Z : State) (a0 : Array Value) (hw : ∀ d ∈ tables_1, d.before a0 Z = true) (ws : List Jvm.Cond) (w_NONE k_NONE : Addr) (W : own_W Z w_NONE k_NONE) (q0 : Int64) (x1 : Int32) (q2 : Int64) (q3 : Int64) (x4 : Int32) (h0 : Heap) (n0 : Nat) (O0 : Old Z n0 h0)  :
    MetFree l x (head1 (Jvm.Cond.code x code maxLocals ret :: ws) room_1) (fun a U => a = #[(.long q0), (.int x1), (.long q2), (.long q3), (.int x4)] ∧ Z.Warmed39 U.vm ∧ U.heap = h0) (fun _ _ _ _ _ => True) (fun _ U o U' => ∃ v L, o = .returned v ∧ own_Q1 n0 v U'.heap L ∧ FrameEnd U o U' L 16 192) := by
  refine MetFree.of_bodySF (plainFor_of_name pn_1) hisR ?_
  intro p e s m args below meth c s₁ Bd hml0 hP hK
  obtain ⟨rfl, hZ, hh⟩ := hP
  have hx := Bd.exec
  have hby := Bd.bytes
  have hml : c.maxLocals = 29 := hml0
  have hlk := BodyLoose.notSynchronized Bd
  have hret := Bd.returns
  have hown : s.vm.findClass "com/example/meter/meter/store/SpansDropThroughPinLaw" = some m.cls := findClass_of_methodNamed Bd.named
  have hnm := (name_of_methodNamed Bd.named Bd.method).1
  have X0 : Stand p l e room_1 s m #[(.long q0), (.int x1), (.long q2), (.long q3), (.int x4)] below meth c s₁ [] 0 0 := Stand.of_body Bd
  have e0 : s₁.heap = h0 := by rw [← hh, Bd.state]; rfl
  have N0 := Fr.nil n0
  rw [ef_0 m q0 x1 q2 q3 x4]
  show Go p e below _ (s₁.setTop (mkF m 0 #[oJ q0, oS, oI x1, oJ q2, oS, oJ q3, oS, oI x4, oU, oU, oU, oU, oU, oU, oU, oU, oU, oU, oU, oU, oU, oU, oU, oU, oU, oU, oU, oU, oU] []))
  refine own_iload 2 X0 hx hby at_0 rfl rfl ?_
  refine own_iconst 3 (3 : Int32) X0 hx hby at_2 rfl (by decide) ?_
  obtain ⟨v1, dv1⟩ : ∃ z, z = (x4 &&& (3 : Int32)) := ⟨_, rfl⟩
  refine own_iand 4 v1 X0 hx hby at_3 rfl dv1.symm ?_
  refine own_istore 6 #[oJ q0, oS, oI x1, oJ q2, oS, oJ q3, oS, oI x4, oI v1, oU, oU, oU, oU, oU, oU, oU, oU, oU, oU, oU, oU, oU, oU, oU, oU, oU, oU, oU, oU] X0 hx hby at_4 rfl rfl ?_
  refine own_lload_n 7 X0 hx hby at_6 rfl rfl ?_
  refine own_ldc2 10 X0 hx hby hZ hown (own_w hw 0 rfl) at_7 rfl ?_
  obtain ⟨v2, dv2⟩ : ∃ z, z = (q0 &&& (4611686018427387903 : Int64)) := ⟨_, rfl⟩
  refine own_land 11 v2 X0 hx hby at_10 rfl dv2.symm ?_
  refine own_lstore 13 #[oJ q0, oS, oI x1, oJ q2, oS, oJ q3, oS, oI x4, oI v1, oJ v2, oS, oU, oU, oU, oU, oU, oU, oU, oU, oU, oU, oU, oU, oU, oU, oU, oU, oU, oU] X0 hx hby at_11 rfl rfl ?_
  refine own_lload 15 X0 hx hby at_13 rfl rfl ?_
  refine own_lconst 16 (1 : Int64) X0 hx hby at_15 rfl (by decide) ?_
  obtain ⟨v3, dv3⟩ : ∃ z, z = (v2 + (1 : Int64)) := ⟨_, rfl⟩
  refine own_ladd 17 v3 X0 hx hby at_16 rfl dv3.symm ?_
  refine own_iload_n 18 X0 hx hby at_17 rfl rfl ?_
  refine own_ldc 20 X0 hx hby hZ hown (own_w hw 1 rfl) at_18 rfl ?_
  obtain ⟨v4, dv4⟩ : ∃ z, z = (x1 &&& (65535 : Int32)) := ⟨_, rfl⟩
  refine own_iand 21 v4 X0 hx hby at_20 rfl dv4.symm ?_
  obtain ⟨v5, dv5⟩ : ∃ z, z = (v4).toInt64 := ⟨_, rfl⟩
  refine own_i2l 22 v5 X0 hx hby at_21 rfl dv5.symm ?_
  obtain ⟨v6, dv6⟩ : ∃ z, z = (v3 + v5) := ⟨_, rfl⟩
  refine own_ladd 23 v6 X0 hx hby at_22 rfl dv6.symm ?_
  refine own_lstore 25 #[oJ q0, oS, oI x1, oJ q2, oS, oJ q3, oS, oI x4, oI v1, oJ v2, oS, oJ v6, oS, oU, oU, oU, oU, oU, oU, oU, oU, oU, oU, oU, oU, oU, oU, oU, oU] X0 hx hby at_23 rfl rfl ?_
  refine own_lload 27 X0 hx hby at_25 rfl rfl ?_
  refine own_lconst 28 (1 : Int64) X0 hx hby at_27 rfl (by decide) ?_
  obtain ⟨v7, dv7⟩ : ∃ z, z = (v6 + (1 : Int64)) := ⟨_, rfl⟩
  refine own_ladd 29 v7 X0 hx hby at_28 rfl dv7.symm ?_
  refine own_iload_n 30 X0 hx hby at_29 rfl rfl ?_
  refine own_bipush 32 (16 : Int32) X0 hx hby at_30 rfl (by decide) ?_
  obtain ⟨v8, dv8⟩ : ∃ z, z = (XT.ushr x1 (16 : Int32)) := ⟨_, rfl⟩
  refine own_iushr 33 v8 X0 hx hby at_32 rfl dv8.symm ?_
  refine own_ldc 35 X0 hx hby hZ hown (own_w hw 1 rfl) at_33 rfl ?_
  obtain ⟨v9, dv9⟩ : ∃ z, z = (v8 &&& (65535 : Int32)) := ⟨_, rfl⟩
  refine own_iand 36 v9 X0 hx hby at_35 rfl dv9.symm ?_
  obtain ⟨v10, dv10⟩ : ∃ z, z = (v9).toInt64 := ⟨_, rfl⟩
  refine own_i2l 37 v10 X0 hx hby at_36 rfl dv10.symm ?_
  obtain ⟨v11, dv11⟩ : ∃ z, z = (v7 + v10) := ⟨_, rfl⟩
  refine own_ladd 38 v11 X0 hx hby at_37 rfl dv11.symm ?_
  refine own_lstore 40 #[oJ q0, oS, oI x1, oJ q2, oS, oJ q3, oS, oI x4, oI v1, oJ v2, oS, oJ v6, oS, oJ v11, oS, oU, oU, oU, oU, oU, oU, oU, oU, oU, oU, oU, oU, oU, oU] X0 hx hby at_38 rfl rfl ?_
  refine own_lconst 41 (1 : Int64) X0 hx hby at_40 rfl (by decide) ?_
  refine own_lload_n 42 X0 hx hby at_41 rfl rfl ?_
  refine own_ldc2 45 X0 hx hby hZ hown (own_w hw 2 rfl) at_42 rfl ?_
  obtain ⟨v12, dv12⟩ : ∃ z, z = (q2 &&& (1048575 : Int64)) := ⟨_, rfl⟩
  refine own_land 46 v12 X0 hx hby at_45 rfl dv12.symm ?_
  obtain ⟨v13, dv13⟩ : ∃ z, z = ((1 : Int64) + v12) := ⟨_, rfl⟩
  refine own_ladd 47 v13 X0 hx hby at_46 rfl dv13.symm ?_
  refine own_lstore 49 #[oJ q0, oS, oI x1, oJ q2, oS, oJ q3, oS, oI x4, oI v1, oJ v2, oS, oJ v6, oS, oJ v11, oS, oJ v13, oS, oU, oU, oU, oU, oU, oU, oU, oU, oU, oU, oU, oU] X0 hx hby at_47 rfl rfl ?_
  refine own_lconst 50 (1 : Int64) X0 hx hby at_49 rfl (by decide) ?_
  refine own_lload_n 51 X0 hx hby at_50 rfl rfl ?_
  refine own_bipush 53 (20 : Int32) X0 hx hby at_51 rfl (by decide) ?_
  obtain ⟨v14, dv14⟩ : ∃ z, z = (XT.ushrL q2 (20 : Int32)) := ⟨_, rfl⟩
  refine own_lushr 54 v14 X0 hx hby at_53 rfl dv14.symm ?_
  refine own_ldc2 57 X0 hx hby hZ hown (own_w hw 2 rfl) at_54 rfl ?_
  obtain ⟨v15, dv15⟩ : ∃ z, z = (v14 &&& (1048575 : Int64)) := ⟨_, rfl⟩
  refine own_land 58 v15 X0 hx hby at_57 rfl dv15.symm ?_
  obtain ⟨v16, dv16⟩ : ∃ z, z = ((1 : Int64) + v15) := ⟨_, rfl⟩
  refine own_ladd 59 v16 X0 hx hby at_58 rfl dv16.symm ?_
  refine own_lstore 61 #[oJ q0, oS, oI x1, oJ q2, oS, oJ q3, oS, oI x4, oI v1, oJ v2, oS, oJ v6, oS, oJ v11, oS, oJ v13, oS, oJ v16, oS, oU, oU, oU, oU, oU, oU, oU, oU, oU, oU] X0 hx hby at_59 rfl rfl ?_
  refine own_lconst 62 (1 : Int64) X0 hx hby at_61 rfl (by decide) ?_
  refine own_lload_n 63 X0 hx hby at_62 rfl rfl ?_
  refine own_bipush 65 (40 : Int32) X0 hx hby at_63 rfl (by decide) ?_
  obtain ⟨v17, dv17⟩ : ∃ z, z = (XT.ushrL q2 (40 : Int32)) := ⟨_, rfl⟩
  refine own_lushr 66 v17 X0 hx hby at_65 rfl dv17.symm ?_
  refine own_ldc2 69 X0 hx hby hZ hown (own_w hw 2 rfl) at_66 rfl ?_
  obtain ⟨v18, dv18⟩ : ∃ z, z = (v17 &&& (1048575 : Int64)) := ⟨_, rfl⟩
  refine own_land 70 v18 X0 hx hby at_69 rfl dv18.symm ?_
  obtain ⟨v19, dv19⟩ : ∃ z, z = ((1 : Int64) + v18) := ⟨_, rfl⟩
  refine own_ladd 71 v19 X0 hx hby at_70 rfl dv19.symm ?_
  refine own_lstore 73 #[oJ q0, oS, oI x1, oJ q2, oS, oJ q3, oS, oI x4, oI v1, oJ v2, oS, oJ v6, oS, oJ v11, oS, oJ v13, oS, oJ v16, oS, oJ v19, oS, oU, oU, oU, oU, oU, oU, oU, oU] X0 hx hby at_71 rfl rfl ?_
  refine own_iload 75 X0 hx hby at_73 rfl rfl ?_
  refine own_iconst 76 (4 : Int32) X0 hx hby at_75 rfl (by decide) ?_
  obtain ⟨v20, dv20⟩ : ∃ z, z = (x4 &&& (4 : Int32)) := ⟨_, rfl⟩
  refine own_iand 77 v20 X0 hx hby at_76 rfl dv20.symm ?_
  by_cases hc21 : v20 = (0 : Int32)
  · refine own_ifY 85 X0 hx hby at_77 (by decide) (by decide) ((if0 _ _).trans (teq hc21).1) ?_
    refine own_lload 87 X0 hx hby at_85 rfl rfl ?_
    refine own_lload 89 X0 hx hby at_87 rfl rfl ?_
    refine own_ldc2 92 X0 hx hby hZ hown (own_w hw 3 rfl) at_89 rfl ?_
    obtain ⟨v22, dv22⟩ : ∃ z, z = (q3 - (q3 / (262144 : Int64)) * (262144 : Int64)) := ⟨_, rfl⟩
    refine own_lrem 93 v22 X0 hx hby at_92 rfl (by decide) dv22.symm ?_
    obtain ⟨v23, dv23⟩ : ∃ z, z = (v2 + v22) := ⟨_, rfl⟩
    refine own_ladd 94 v23 X0 hx hby at_93 rfl dv23.symm ?_
    refine own_lstore 96 #[oJ q0, oS, oI x1, oJ q2, oS, oJ q3, oS, oI x4, oI v1, oJ v2, oS, oJ v6, oS, oJ v11, oS, oJ v13, oS, oJ v16, oS, oJ v19, oS, oJ v23, oS, oU, oU, oU, oU, oU, oU] X0 hx hby at_94 rfl rfl ?_
    exact cut_96_0 l Z a0 hw w_NONE k_NONE W q0 x1 q2 q3 x4 v1 v2 v6 v11 v13 v16 v19 v23 h0 n0 O0 (by have : 0 ≤ ((x4 &&& (3 : Int32))).toInt ∧ ((x4 &&& (3 : Int32))).toInt ≤ 3 := own_mkI x4 (3 : Int32) 2 (by decide) (by decide); have : (v1).toInt = ((x4 &&& (3 : Int32))).toInt := congrArg Int32.toInt dv1; have : ((0 : Int32)).toInt = 0 := rfl; exact fun q => absurd (Int32.lt_iff_toInt_lt.mp q) (by omega)) (by have : ((3 : Int32)).toInt = 3 := rfl; have : 0 ≤ ((x4 &&& (3 : Int32))).toInt ∧ ((x4 &&& (3 : Int32))).toInt ≤ 3 := own_mkI x4 (3 : Int32) 2 (by decide) (by decide); have : (v1).toInt = ((x4 &&& (3 : Int32))).toInt := congrArg Int32.toInt dv1; exact fun q => absurd (Int32.lt_iff_toInt_lt.mp q) (by omega)) (by have : 0 ≤ ((q0 &&& (4611686018427387903 : Int64))).toInt ∧ ((q0 &&& (4611686018427387903 : Int64))).toInt ≤ 4611686018427387903 := own_mkJ q0 (4611686018427387903 : Int64) 62 (by decide) (by decide); have : (v2).toInt = ((q0 &&& (4611686018427387903 : Int64))).toInt := congrArg Int64.toInt dv2; have : ((1 : Int64)).toInt = 1 := rfl; have : ((v2 + (1 : Int64))).toInt = (v2).toInt + ((1 : Int64)).toInt := Jvm.Kit.i64_add (by omega) (by omega); have : (v3).toInt = ((v2 + (1 : Int64))).toInt := congrArg Int64.toInt dv3; have : ((v4).toInt64).toInt = (v4).toInt := Jvm.Kit.i64_of_i32 _; have : 0 ≤ ((x1 &&& (65535 : Int32))).toInt ∧ ((x1 &&& (65535 : Int32))).toInt ≤ 65535 := own_mkI x1 (65535 : Int32) 16 (by decide) (by decide); have : (v4).toInt = ((x1 &&& (65535 : Int32))).toInt := congrArg Int32.toInt dv4; have : (v5).toInt = ((v4).toInt64).toInt := congrArg Int64.toInt dv5; have : ((v3 + v5)).toInt = (v3).toInt + (v5).toInt := Jvm.Kit.i64_add (by omega) (by omega); have : (v6).toInt = ((v3 + v5)).toInt := congrArg Int64.toInt dv6; exact Int64.lt_iff_toInt_lt.mpr (by omega)) (by have : 0 ≤ ((q0 &&& (4611686018427387903 : Int64))).toInt ∧ ((q0 &&& (4611686018427387903 : Int64))).toInt ≤ 4611686018427387903 := own_mkJ q0 (4611686018427387903 : Int64) 62 (by decide) (by decide); have : (v2).toInt = ((q0 &&& (4611686018427387903 : Int64))).toInt := congrArg Int64.toInt dv2; have : ((1 : Int64)).toInt = 1 := rfl; have : ((v2 + (1 : Int64))).toInt = (v2).toInt + ((1 : Int64)).toInt := Jvm.Kit.i64_add (by omega) (by omega); have : (v3).toInt = ((v2 + (1 : Int64))).toInt := congrArg Int64.toInt dv3; have : ((v4).toInt64).toInt = (v4).toInt := Jvm.Kit.i64_of_i32 _; have : 0 ≤ ((x1 &&& (65535 : Int32))).toInt ∧ ((x1 &&& (65535 : Int32))).toInt ≤ 65535 := own_mkI x1 (65535 : Int32) 16 (by decide) (by decide); have : (v4).toInt = ((x1 &&& (65535 : Int32))).toInt := congrArg Int32.toInt dv4; have : (v5).toInt = ((v4).toInt64).toInt := congrArg Int64.toInt dv5; have : ((v3 + v5)).toInt = (v3).toInt + (v5).toInt := Jvm.Kit.i64_add (by omega) (by omega); have : (v6).toInt = ((v3 + v5)).toInt := congrArg Int64.toInt dv6; have : ((v6 + (1 : Int64))).toInt = (v6).toInt + ((1 : Int64)).toInt := Jvm.Kit.i64_add (by omega) (by omega); have : (v7).toInt = ((v6 + (1 : Int64))).toInt := congrArg Int64.toInt dv7; have : ((v9).toInt64).toInt = (v9).toInt := Jvm.Kit.i64_of_i32 _; have : 0 ≤ ((v8 &&& (65535 : Int32))).toInt ∧ ((v8 &&& (65535 : Int32))).toInt ≤ 65535 := own_mkI v8 (65535 : Int32) 16 (by decide) (by decide); have : (v9).toInt = ((v8 &&& (65535 : Int32))).toInt := congrArg Int32.toInt dv9; have : (v10).toInt = ((v9).toInt64).toInt := congrArg Int64.toInt dv10; have : ((v7 + v10)).toInt = (v7).toInt + (v10).toInt := Jvm.Kit.i64_add (by omega) (by omega); have : (v11).toInt = ((v7 + v10)).toInt := congrArg Int64.toInt dv11; exact Int64.lt_iff_toInt_lt.mpr (by omega)) (by have : ((1 : Int64)).toInt = 1 := rfl; have : 0 ≤ ((q2 &&& (1048575 : Int64))).toInt ∧ ((q2 &&& (1048575 : Int64))).toInt ≤ 1048575 := own_mkJ q2 (1048575 : Int64) 20 (by decide) (by decide); have : (v12).toInt = ((q2 &&& (1048575 : Int64))).toInt := congrArg Int64.toInt dv12; have : (((1 : Int64) + v12)).toInt = ((1 : Int64)).toInt + (v12).toInt := Jvm.Kit.i64_add (by omega) (by omega); have : (v13).toInt = (((1 : Int64) + v12)).toInt := congrArg Int64.toInt dv13; have : ((0 : Int64)).toInt = 0 := rfl; exact fun q => absurd (Int64.lt_iff_toInt_lt.mp q) (by omega)) (by have : ((2097152 : Int64)).toInt = 2097152 := rfl; have : ((1 : Int64)).toInt = 1 := rfl; have : 0 ≤ ((q2 &&& (1048575 : Int64))).toInt ∧ ((q2 &&& (1048575 : Int64))).toInt ≤ 1048575 := own_mkJ q2 (1048575 : Int64) 20 (by decide) (by decide); have : (v12).toInt = ((q2 &&& (1048575 : Int64))).toInt := congrArg Int64.toInt dv12; have : (((1 : Int64) + v12)).toInt = ((1 : Int64)).toInt + (v12).toInt := Jvm.Kit.i64_add (by omega) (by omega); have : (v13).toInt = (((1 : Int64) + v12)).toInt := congrArg Int64.toInt dv13; exact fun q => absurd (Int64.lt_iff_toInt_lt.mp q) (by omega)) (by have : ((1 : Int64)).toInt = 1 := rfl; have : 0 ≤ ((v14 &&& (1048575 : Int64))).toInt ∧ ((v14 &&& (1048575 : Int64))).toInt ≤ 1048575 := own_mkJ v14 (1048575 : Int64) 20 (by decide) (by decide); have : (v15).toInt = ((v14 &&& (1048575 : Int64))).toInt := congrArg Int64.toInt dv15; have : (((1 : Int64) + v15)).toInt = ((1 : Int64)).toInt + (v15).toInt := Jvm.Kit.i64_add (by omega) (by omega); have : (v16).toInt = (((1 : Int64) + v15)).toInt := congrArg Int64.toInt dv16; have : ((0 : Int64)).toInt = 0 := rfl; exact fun q => absurd (Int64.lt_iff_toInt_lt.mp q) (by omega)) (by have : ((2097152 : Int64)).toInt = 2097152 := rfl; have : ((1 : Int64)).toInt = 1 := rfl; have : 0 ≤ ((v14 &&& (1048575 : Int64))).toInt ∧ ((v14 &&& (1048575 : Int64))).toInt ≤ 1048575 := own_mkJ v14 (1048575 : Int64) 20 (by decide) (by decide); have : (v15).toInt = ((v14 &&& (1048575 : Int64))).toInt := congrArg Int64.toInt dv15; have : (((1 : Int64) + v15)).toInt = ((1 : Int64)).toInt + (v15).toInt := Jvm.Kit.i64_add (by omega) (by omega); have : (v16).toInt = (((1 : Int64) + v15)).toInt := congrArg Int64.toInt dv16; exact fun q => absurd (Int64.lt_iff_toInt_lt.mp q) (by omega)) (by have : ((1 : Int64)).toInt = 1 := rfl; have : 0 ≤ ((v17 &&& (1048575 : Int64))).toInt ∧ ((v17 &&& (1048575 : Int64))).toInt ≤ 1048575 := own_mkJ v17 (1048575 : Int64) 20 (by decide) (by decide); have : (v18).toInt = ((v17 &&& (1048575 : Int64))).toInt := congrArg Int64.toInt dv18; have : (((1 : Int64) + v18)).toInt = ((1 : Int64)).toInt + (v18).toInt := Jvm.Kit.i64_add (by omega) (by omega); have : (v19).toInt = (((1 : Int64) + v18)).toInt := congrArg Int64.toInt dv19; have : ((0 : Int64)).toInt = 0 := rfl; exact fun q => absurd (Int64.lt_iff_toInt_lt.mp q) (by omega)) (by have : ((2097152 : Int64)).toInt = 2097152 := rfl; have : ((1 : Int64)).toInt = 1 := rfl; have : 0 ≤ ((v17 &&& (1048575 : Int64))).toInt ∧ ((v17 &&& (1048575 : Int64))).toInt ≤ 1048575 := own_mkJ v17 (1048575 : Int64) 20 (by decide) (by decide); have : (v18).toInt = ((v17 &&& (1048575 : Int64))).toInt := congrArg Int64.toInt dv18; have : (((1 : Int64) + v18)).toInt = ((1 : Int64)).toInt + (v18).toInt := Jvm.Kit.i64_add (by omega) (by omega); have : (v19).toInt = (((1 : Int64) + v18)).toInt := congrArg Int64.toInt dv19; exact fun q => absurd (Int64.lt_iff_toInt_lt.mp q) (by omega)) X0 hx hby hml hret hlk hZ hown e0 N0
  refine own_ifN 80 X0 hx hby at_77 rfl ((if0 _ _).trans (feq hc21).1) ?_
  refine own_lload 82 X0 hx hby at_80 rfl rfl ?_
  refine own_goto 94 X0 hx hby at_82 (by decide) (by decide) ?_
  refine own_lstore 96 #[oJ q0, oS, oI x1, oJ q2, oS, oJ q3, oS, oI x4, oI v1, oJ v2, oS, oJ v6, oS, oJ v11, oS, oJ v13, oS, oJ v16, oS, oJ v19, oS, oJ q3, oS, oU, oU, oU, oU, oU, oU] X0 hx hby at_94 rfl rfl ?_
  exact cut_96_0 l Z a0 hw w_NONE k_NONE W q0 x1 q2 q3 x4 v1 v2 v6 v11 v13 v16 v19 q3 h0 n0 O0 (by have : 0 ≤ ((x4 &&& (3 : Int32))).toInt ∧ ((x4 &&& (3 : Int32))).toInt ≤ 3 := own_mkI x4 (3 : Int32) 2 (by decide) (by decide); have : (v1).toInt = ((x4 &&& (3 : Int32))).toInt := congrArg Int32.toInt dv1; have : ((0 : Int32)).toInt = 0 := rfl; exact fun q => absurd (Int32.lt_iff_toInt_lt.mp q) (by omega)) (by have : ((3 : Int32)).toInt = 3 := rfl; have : 0 ≤ ((x4 &&& (3 : Int32))).toInt ∧ ((x4 &&& (3 : Int32))).toInt ≤ 3 := own_mkI x4 (3 : Int32) 2 (by decide) (by decide); have : (v1).toInt = ((x4 &&& (3 : Int32))).toInt := congrArg Int32.toInt dv1; exact fun q => absurd (Int32.lt_iff_toInt_lt.mp q) (by omega)) (by have : 0 ≤ ((q0 &&& (4611686018427387903 : Int64))).toInt ∧ ((q0 &&& (4611686018427387903 : Int64))).toInt ≤ 4611686018427387903 := own_mkJ q0 (4611686018427387903 : Int64) 62 (by decide) (by decide); have : (v2).toInt = ((q0 &&& (4611686018427387903 : Int64))).toInt := congrArg Int64.toInt dv2; have : ((1 : Int64)).toInt = 1 := rfl; have : ((v2 + (1 : Int64))).toInt = (v2).toInt + ((1 : Int64)).toInt := Jvm.Kit.i64_add (by omega) (by omega); have : (v3).toInt = ((v2 + (1 : Int64))).toInt := congrArg Int64.toInt dv3; have : ((v4).toInt64).toInt = (v4).toInt := Jvm.Kit.i64_of_i32 _; have : 0 ≤ ((x1 &&& (65535 : Int32))).toInt ∧ ((x1 &&& (65535 : Int32))).toInt ≤ 65535 := own_mkI x1 (65535 : Int32) 16 (by decide) (by decide); have : (v4).toInt = ((x1 &&& (65535 : Int32))).toInt := congrArg Int32.toInt dv4; have : (v5).toInt = ((v4).toInt64).toInt := congrArg Int64.toInt dv5; have : ((v3 + v5)).toInt = (v3).toInt + (v5).toInt := Jvm.Kit.i64_add (by omega) (by omega); have : (v6).toInt = ((v3 + v5)).toInt := congrArg Int64.toInt dv6; exact Int64.lt_iff_toInt_lt.mpr (by omega)) (by have : 0 ≤ ((q0 &&& (4611686018427387903 : Int64))).toInt ∧ ((q0 &&& (4611686018427387903 : Int64))).toInt ≤ 4611686018427387903 := own_mkJ q0 (4611686018427387903 : Int64) 62 (by decide) (by decide); have : (v2).toInt = ((q0 &&& (4611686018427387903 : Int64))).toInt := congrArg Int64.toInt dv2; have : ((1 : Int64)).toInt = 1 := rfl; have : ((v2 + (1 : Int64))).toInt = (v2).toInt + ((1 : Int64)).toInt := Jvm.Kit.i64_add (by omega) (by omega); have : (v3).toInt = ((v2 + (1 : Int64))).toInt := congrArg Int64.toInt dv3; have : ((v4).toInt64).toInt = (v4).toInt := Jvm.Kit.i64_of_i32 _; have : 0 ≤ ((x1 &&& (65535 : Int32))).toInt ∧ ((x1 &&& (65535 : Int32))).toInt ≤ 65535 := own_mkI x1 (65535 : Int32) 16 (by decide) (by decide); have : (v4).toInt = ((x1 &&& (65535 : Int32))).toInt := congrArg Int32.toInt dv4; have : (v5).toInt = ((v4).toInt64).toInt := congrArg Int64.toInt dv5; have : ((v3 + v5)).toInt = (v3).toInt + (v5).toInt := Jvm.Kit.i64_add (by omega) (by omega); have : (v6).toInt = ((v3 + v5)).toInt := congrArg Int64.toInt dv6; have : ((v6 + (1 : Int64))).toInt = (v6).toInt + ((1 : Int64)).toInt := Jvm.Kit.i64_add (by omega) (by omega); have : (v7).toInt = ((v6 + (1 : Int64))).toInt := congrArg Int64.toInt dv7; have : ((v9).toInt64).toInt = (v9).toInt := Jvm.Kit.i64_of_i32 _; have : 0 ≤ ((v8 &&& (65535 : Int32))).toInt ∧ ((v8 &&& (65535 : Int32))).toInt ≤ 65535 := own_mkI v8 (65535 : Int32) 16 (by decide) (by decide); have : (v9).toInt = ((v8 &&& (65535 : Int32))).toInt := congrArg Int32.toInt dv9; have : (v10).toInt = ((v9).toInt64).toInt := congrArg Int64.toInt dv10; have : ((v7 + v10)).toInt = (v7).toInt + (v10).toInt := Jvm.Kit.i64_add (by omega) (by omega); have : (v11).toInt = ((v7 + v10)).toInt := congrArg Int64.toInt dv11; exact Int64.lt_iff_toInt_lt.mpr (by omega)) (by have : ((1 : Int64)).toInt = 1 := rfl; have : 0 ≤ ((q2 &&& (1048575 : Int64))).toInt ∧ ((q2 &&& (1048575 : Int64))).toInt ≤ 1048575 := own_mkJ q2 (1048575 : Int64) 20 (by decide) (by decide); have : (v12).toInt = ((q2 &&& (1048575 : Int64))).toInt := congrArg Int64.toInt dv12; have : (((1 : Int64) + v12)).toInt = ((1 : Int64)).toInt + (v12).toInt := Jvm.Kit.i64_add (by omega) (by omega); have : (v13).toInt = (((1 : Int64) + v12)).toInt := congrArg Int64.toInt dv13; have : ((0 : Int64)).toInt = 0 := rfl; exact fun q => absurd (Int64.lt_iff_toInt_lt.mp q) (by omega)) (by have : ((2097152 : Int64)).toInt = 2097152 := rfl; have : ((1 : Int64)).toInt = 1 := rfl; have : 0 ≤ ((q2 &&& (1048575 : Int64))).toInt ∧ ((q2 &&& (1048575 : Int64))).toInt ≤ 1048575 := own_mkJ q2 (1048575 : Int64) 20 (by decide) (by decide); have : (v12).toInt = ((q2 &&& (1048575 : Int64))).toInt := congrArg Int64.toInt dv12; have : (((1 : Int64) + v12)).toInt = ((1 : Int64)).toInt + (v12).toInt := Jvm.Kit.i64_add (by omega) (by omega); have : (v13).toInt = (((1 : Int64) + v12)).toInt := congrArg Int64.toInt dv13; exact fun q => absurd (Int64.lt_iff_toInt_lt.mp q) (by omega)) (by have : ((1 : Int64)).toInt = 1 := rfl; have : 0 ≤ ((v14 &&& (1048575 : Int64))).toInt ∧ ((v14 &&& (1048575 : Int64))).toInt ≤ 1048575 := own_mkJ v14 (1048575 : Int64) 20 (by decide) (by decide); have : (v15).toInt = ((v14 &&& (1048575 : Int64))).toInt := congrArg Int64.toInt dv15; have : (((1 : Int64) + v15)).toInt = ((1 : Int64)).toInt + (v15).toInt := Jvm.Kit.i64_add (by omega) (by omega); have : (v16).toInt = (((1 : Int64) + v15)).toInt := congrArg Int64.toInt dv16; have : ((0 : Int64)).toInt = 0 := rfl; exact fun q => absurd (Int64.lt_iff_toInt_lt.mp q) (by omega)) (by have : ((2097152 : Int64)).toInt = 2097152 := rfl; have : ((1 : Int64)).toInt = 1 := rfl; have : 0 ≤ ((v14 &&& (1048575 : Int64))).toInt ∧ ((v14 &&& (1048575 : Int64))).toInt ≤ 1048575 := own_mkJ v14 (1048575 : Int64) 20 (by decide) (by decide); have : (v15).toInt = ((v14 &&& (1048575 : Int64))).toInt := congrArg Int64.toInt dv15; have : (((1 : Int64) + v15)).toInt = ((1 : Int64)).toInt + (v15).toInt := Jvm.Kit.i64_add (by omega) (by omega); have : (v16).toInt = (((1 : Int64) + v15)).toInt := congrArg Int64.toInt dv16; exact fun q => absurd (Int64.lt_iff_toInt_lt.mp q) (by omega)) (by have : ((1 : Int64)).toInt = 1 := rfl; have : 0 ≤ ((v17 &&& (1048575 : Int64))).toInt ∧ ((v17 &&& (1048575 : Int64))).toInt ≤ 1048575 := own_mkJ v17 (1048575 : Int64) 20 (by decide) (by decide); have : (v18).toInt = ((v17 &&& (1048575 : Int64))).toInt := congrArg Int64.toInt dv18; have : (((1 : Int64) + v18)).toInt = ((1 : Int64)).toInt + (v18).toInt := Jvm.Kit.i64_add (by omega) (by omega); have : (v19).toInt = (((1 : Int64) + v18)).toInt := congrArg Int64.toInt dv19; have : ((0 : Int64)).toInt = 0 := rfl; exact fun q => absurd (Int64.lt_iff_toInt_lt.mp q) (by omega)) (by have : ((2097152 : Int64)).toInt = 2097152 := rfl; have : ((1 : Int64)).toInt = 1 := rfl; have : 0 ≤ ((v17 &&& (1048575 : Int64))).toInt ∧ ((v17 &&& (1048575 : Int64))).toInt ≤ 1048575 := own_mkJ v17 (1048575 : Int64) 20 (by decide) (by decide); have : (v18).toInt = ((v17 &&& (1048575 : Int64))).toInt := congrArg Int64.toInt dv18; have : (((1 : Int64) + v18)).toInt = ((1 : Int64)).toInt + (v18).toInt := Jvm.Kit.i64_add (by omega) (by omega); have : (v19).toInt = (((1 : Int64) + v18)).toInt := congrArg Int64.toInt dv19; exact fun q => absurd (Int64.lt_iff_toInt_lt.mp q) (by omega)) X0 hx hby hml hret hlk hZ hown e0 N0
set_option maxRecDepth 65536 in
set_option maxHeartbeats 40000000 in
theorem comes_1 {Post : Tables → Env → Array Value → State → Outcome → State → Prop} (hpost : ∀ tb e args s v u, (limb_1_1.after args s (.returned v) u = true ∧ limb_1_2.after args s (.returned v) u = true) → FrameEnd s (.returned v) u (Jvm.fieldLocs frame_1_writes args s ++ Jvm.arrayLocs frame_1_arrays args s ++ Jvm.staticLocs frame_1_statics s) 16 192 → Post tb e args s (.returned v) u) :
    ArmFor flags0 classFile x code maxLocals ret World_1 tables_1 room_1 Calls_1 rest_1 Pre_1 Post := by
  intro l hfl _ _ p e ha hc hk s m args below hf hA hF happ hP
  obtain ⟨hcalls, hrest, hpre⟩ := hP
  obtain ⟨-, -, -, hnamed, -, -, -, hat⟩ := (Spec.applies_iff hf).mp happ
  obtain ⟨hg, hn⟩ := and_e (Cond.before_iff.mp (show (Jvm.Cond.and given_1 narrow_1).before args s = true from hpre))
  obtain ⟨ga0, gb0⟩ := and_e hg
  obtain ⟨ga1, gb1⟩ := and_e gb0
  obtain ⟨ga2, gb2⟩ := and_e gb1
  obtain ⟨ga3, gb3⟩ := and_e gb2
  obtain ⟨ga4, ga5⟩ := and_e gb3
  obtain ⟨u0, u1, u2, u3, u4, rfl⟩ : ∃ u0 u1 u2 u3 u4 : Value, args = #[u0, u1, u2, u3, u4] := by
    have hs : args.size = 5 := by simpa [Cond.value, given_1] using ga0
    obtain ⟨L⟩ := args
    match L, hs with
    | [u0, u1, u2, u3, u4], _ => exact ⟨u0, u1, u2, u3, u4, rfl⟩
  have hw := fun d (hd : d ∈ tables_1) => atoms_spec (ws := Jvm.Cond.code x code maxLocals ret :: tables_1) hat d (List.mem_cons_of_mem _ hd)
  have hfit : Fit s := fun {y c} hc i hi => by
    obtain ⟨ha, rfl⟩ := Array.getElem?_eq_some_iff.mp hc
    have q := List.all_eq_true.mp ((Array.all_eq_true_iff_forall_mem.mp hF) _ (Array.getElem_mem ha)) i (List.mem_range.mpr hi)
    simpa [Array.getElem?_eq_getElem hi] using q
  obtain ⟨i0, ei0⟩ := isL_v ga1
  obtain rfl : u0 = (.long i0) := Option.some.inj ei0
  obtain ⟨i1, ei1⟩ := is_v ga2
  obtain rfl : u1 = (.int i1) := Option.some.inj ei1
  obtain ⟨i2, ei2⟩ := isL_v ga3
  obtain rfl : u2 = (.long i2) := Option.some.inj ei2
  obtain ⟨i3, ei3⟩ := isL_v ga4
  obtain rfl : u3 = (.long i3) := Option.some.inj ei3
  obtain ⟨i4, ei4⟩ := is_v ga5
  obtain rfl : u4 = (.int i4) := Option.some.inj ei4
  obtain ⟨na0, nb0⟩ := and_e hn
  obtain ⟨na1, na2⟩ := and_e nb0
  obtain ⟨w_NONE, v_w_NONE⟩ := arr_v na0
  have S_w_NONE := Sta.start v_w_NONE (Or.inr ⟨(own_w hw 6 rfl), (own_w hw 14 rfl)⟩)
  obtain ⟨cl_w_NONE, A_w_NONE⟩ := Arr.start v_w_NONE na0
  obtain ⟨q_w_NONE, l_w_NONE⟩ := own_len_at (eqv_i (Term.int_eval _) na2) v_w_NONE (A_w_NONE.fin (Vm.Alike.refl _))
  have V_w_NONE : Arv s s.heap w_NONE _ .long (0 : Int32) [] (.long (0 : Int64)) := Arv.start hfit A_w_NONE q_w_NONE l_w_NONE (by decide) rfl trivial
  obtain ⟨n, o, h1, h2, h3, _, L, rfl, ⟨rfl, N⟩, hq⟩ := rm0 l s _ hw tables_1 w_NONE _ ⟨S_w_NONE, V_w_NONE⟩ i0 i1 i2 i3 i4 s.heap s.heap.size (Old.start s) p e ha hc hk s m _ below hf ((Spec.applies_iff_loose hf).mp happ).1 ⟨rfl, State.Warmed39.refl s, rfl⟩ trivial
  refine ⟨n, _, h1, h2, h3, hpost _ _ _ _ _ _ ⟨Cond.after_iff.mpr rfl, Cond.after_iff.mpr (eq_i res_at (Term.int_eval (1)) rfl)⟩ ⟨hq.1, hq.2.1, (hq.2.2.sift fun y hy => Or.inr (N y hy)).mono (by decide) (by decide)⟩⟩
theorem main_1_1 : Claimed_1_1 := comes_1 fun _ _ _ _ _ _ h hF => ⟨h.1, hF⟩
theorem main_1_2 : Claimed_1_2 := comes_1 fun _ _ _ _ _ _ h hF => ⟨h.2, hF⟩
end Jvm.Pilot.@@N@@
namespace Jvm.Pilot.@@N@@
open Jvm Jvm.ClassFile Sem Op Lib Jvm.Free Jvm.Stand Jvm.Pilot.@@N@@.Jvm.D
/-! MADE BY PROGRAM (witnessworld.py) out of the Statement's table words and the real class files: 13 classes; the members and pool entries that the words name. The judged class is class 1, her method 1. -/
namespace start1
open Jvm.ClassFile
def u (s : String) : CpInfo := .utf8 (stringToUtf16 s)
/-- a pool by its gaps: so many unusable entries, then the entry; so many at the end -/
def gap : Nat → List CpInfo → List CpInfo
  | 0, r => r
  | n + 1, r => .unusable :: gap n r
def poolList (es : List (Nat × CpInfo)) (last : Nat) : List CpInfo := es.foldr (fun e r => gap e.1 (e.2 :: r)) (gap last [])
def pool (es : List (Nat × CpInfo)) (last : Nat) : Array CpInfo := ⟨poolList es last⟩
def fileOf (pool : Array CpInfo) (this : Nat) (attrs : Array Attribute := #[]) (ms : Array MethodInfo := #[]) (fl : Nat := 33) (sup : Nat := 0) (ifs : Array Nat := #[]) (fds : Array FieldInfo := #[]) : ClassFile where
  minorVersion := 0
  majorVersion := 65
  constantPool := pool
  accessFlags := fl
  thisClass := this
  superClass := sup
  interfaces := ifs
  fields := fds
  methods := ms
  attributes := attrs
def plain (name : String) (sup : Option ClassId) : Class where
  name := name
  kind := .ordinary
  loader := none
  accessFlags := 33
  super := sup
  interfaces := #[]
  cf := none
  fields := #[]
  methods := #[]
  instanceTypes := #[]
  staticTypes := #[]
  resolved := #[]
  callSites := []
  init := .initialized
  statics := none
  mirror := none

def pool0 : Array CpInfo := pool [(5, u "<init>"), (0, u "()V"), (1, .class_ 10), (1, u "java/lang/Object")] 113

def k0c0 : Code := { maxStack := 0, maxLocals := 1, code := object_method_1_code, exceptionTable := #[], attributes := #[] }
def k0m0 : Method := { name := "<init>", desc := "()V", sig := { parameters := [], returnType := none }, accessFlags := 1, code := some k0c0 }
/-- java/lang/Object -/
def k0 : Class := { plain "java/lang/Object" none with
  accessFlags := 33
  interfaces := #[]
  cf := some (fileOf pool0 8 #[] #[{ accessFlags := 1, nameIndex := 5, descriptorIndex := 6, attributes := #[] }] 33 0 #[] #[])
  fields := #[]
  methods := #[k0m0]
  instanceTypes := #[]
  staticTypes := #[]
  resolved := Array.replicate 124 none
  statics := none }

def pool1 : Array CpInfo := pool [(2, .class_ 4), (0, .nameAndType 5 6), (0, u "java/lang/Object"), (0, u "<init>"), (0, u "()V"), (0, .long 4611686018427387903), (1, .integer 65535), (0, .long 1048575), (1, .long 262144), (1, .class_ 15), (0, u "com/example/meter/meter/store/Spans"), (0, .methodref 14 3), (0, .methodref 14 18), (0, .nameAndType 19 20), (0, u "append"), (0, u "(JJ)V"), (0, .methodref 14 22), (0, .nameAndType 23 24), (0, u "dropThrough"), (0, u "(J)V"), (0, .long 18446744073709551615), (1, .methodref 14 28), (0, .nameAndType 29 30), (0, u "size"), (0, u "()I"), (0, .methodref 14 32), (0, .nameAndType 33 34), (0, u "hits"), (0, u "()J"), (0, .methodref 14 36), (0, .nameAndType 37 34), (0, u "newestSecond"), (0, .methodref 14 39), (0, .nameAndType 40 41), (0, u "endsAfter"), (0, u "(J)Z"), (0, .class_ 43), (0, u "com/example/meter/meter/store/SpansDropThroughPinLaw"), (2, u "law"), (0, u "(JIJJI)Z")] 3

def k1m0 : Method := { name := "<init>", desc := "()V", sig := { parameters := [], returnType := none }, accessFlags := 1, code := none }
def k1c1 : Code := { maxStack := 6, maxLocals := 29, code := code, exceptionTable := #[], attributes := #[] }
def k1m1 : Method := { name := "law", desc := "(JIJJI)Z", sig := { parameters := [.long, .int, .long, .long, .int], returnType := some .boolean }, accessFlags := 9, code := some k1c1 }
/-- com/example/meter/meter/store/SpansDropThroughPinLaw -/
def k1 : Class := { plain "com/example/meter/meter/store/SpansDropThroughPinLaw" (some 0) with
  accessFlags := 49
  interfaces := #[]
  cf := some (fileOf pool1 42 #[] #[{ accessFlags := 1, nameIndex := 5, descriptorIndex := 6, attributes := #[] }, { accessFlags := 9, nameIndex := 46, descriptorIndex := 47, attributes := #[] }] 49 2 #[] #[])
  fields := #[]
  methods := #[k1m0, k1m1]
  instanceTypes := #[]
  staticTypes := #[]
  resolved := Array.replicate 51 none
  statics := none }

def pool2 : Array CpInfo := pool [(1, .methodref 2 3), (0, .class_ 4), (0, .nameAndType 5 6), (0, u "java/lang/Object"), (0, u "<init>"), (0, u "()V"), (0, .fieldref 8 9), (0, .class_ 10), (0, .nameAndType 11 12), (0, u "com/example/meter/meter/store/Spans"), (0, u "NONE"), (0, u "[J"), (0, .fieldref 8 14), (0, .nameAndType 15 12), (0, u "firsts"), (0, .fieldref 8 17), (0, .nameAndType 18 12), (0, u "lasts"), (0, .fieldref 8 20), (0, .nameAndType 21 12), (0, u "totals"), (0, .fieldref 8 23), (0, .nameAndType 24 25), (0, u "end"), (0, u "I"), (25, .class_ 53), (1, u "java/lang/Math"), (11, u "size"), (0, u "()I"), (5, u "(J)V"), (0, .fieldref 8 74), (0, .nameAndType 75 25), (0, u "head"), (0, .methodref 8 77), (0, .nameAndType 78 79), (0, u "totalBefore"), (0, u "(I)J"), (0, .fieldref 8 81), (0, .nameAndType 82 83), (0, u "droppedTotal"), (0, u "J"), (0, .long 18446744073709551615), (1, .methodref 8 87), (0, .nameAndType 88 6), (0, u "makeRoom"), (8, .methodref 51 98), (0, .nameAndType 99 100), (0, u "max"), (0, u "(II)I"), (0, .methodref 8 102), (0, .nameAndType 103 104), (0, u "movedDown"), (0, u "([JI)[J"), (0, .methodref 106 107), (0, .class_ 108), (0, .nameAndType 109 110), (0, u "java/lang/System"), (0, u "arraycopy"), (0, u "(Ljava/lang/Object;ILjava/lang/Object;II)V"), (0, u "ERROR_DIVISOR"), (1, u "INITIAL_CAPACITY"), (9, u "hits"), (0, u "()J"), (0, u "newestSecond"), (0, u "endsAfter"), (0, u "(J)Z"), (0, u "append"), (0, u "(JJ)V"), (0, u "dropThrough")] 5

def k2c0 : Code := { maxStack := 2, maxLocals := 1, code := prog_11_method_1_code, exceptionTable := #[], attributes := #[] }
def k2m0 : Method := { name := "<init>", desc := "()V", sig := { parameters := [], returnType := none }, accessFlags := 0, code := some k2c0 }
def k2c1 : Code := { maxStack := 2, maxLocals := 1, code := prog_11_method_5_code, exceptionTable := #[], attributes := #[] }
def k2m1 : Method := { name := "size", desc := "()I", sig := { parameters := [], returnType := some .int }, accessFlags := 0, code := some k2c1 }
def k2c2 : Code := { maxStack := 4, maxLocals := 1, code := prog_11_method_6_code, exceptionTable := #[], attributes := #[] }
def k2m2 : Method := { name := "hits", desc := "()J", sig := { parameters := [], returnType := some .long }, accessFlags := 0, code := some k2c2 }
def k2c3 : Code := { maxStack := 3, maxLocals := 1, code := prog_11_method_7_code, exceptionTable := #[], attributes := #[] }
def k2m3 : Method := { name := "newestSecond", desc := "()J", sig := { parameters := [], returnType := some .long }, accessFlags := 0, code := some k2c3 }
def k2c4 : Code := { maxStack := 4, maxLocals := 3, code := prog_11_method_8_code, exceptionTable := #[], attributes := #[] }
def k2m4 : Method := { name := "endsAfter", desc := "(J)Z", sig := { parameters := [.long], returnType := some .boolean }, accessFlags := 0, code := some k2c4 }
def k2c5 : Code := { maxStack := 6, maxLocals := 5, code := prog_11_method_9_code, exceptionTable := #[], attributes := #[] }
def k2m5 : Method := { name := "append", desc := "(JJ)V", sig := { parameters := [.long, .long], returnType := none }, accessFlags := 0, code := some k2c5 }
def k2c6 : Code := { maxStack := 4, maxLocals := 3, code := prog_11_method_10_code, exceptionTable := #[], attributes := #[] }
def k2m6 : Method := { name := "dropThrough", desc := "(J)V", sig := { parameters := [.long], returnType := none }, accessFlags := 0, code := some k2c6 }
def k2c7 : Code := { maxStack := 3, maxLocals := 2, code := prog_11_method_14_code, exceptionTable := #[], attributes := #[] }
def k2m7 : Method := { name := "totalBefore", desc := "(I)J", sig := { parameters := [.int], returnType := some .long }, accessFlags := 2, code := some k2c7 }
def k2c8 : Code := { maxStack := 4, maxLocals := 4, code := prog_11_method_15_code, exceptionTable := #[], attributes := #[] }
def k2m8 : Method := { name := "makeRoom", desc := "()V", sig := { parameters := [], returnType := none }, accessFlags := 2, code := some k2c8 }
def k2c9 : Code := { maxStack := 6, maxLocals := 4, code := prog_11_method_16_code, exceptionTable := #[], attributes := #[] }
def k2m9 : Method := { name := "movedDown", desc := "([JI)[J", sig := { parameters := [(.array .long), .int], returnType := some (.array .long) }, accessFlags := 2, code := some k2c9 }
/-- com/example/meter/meter/store/Spans -/
def k2 : Class := { plain "com/example/meter/meter/store/Spans" (some 0) with
  accessFlags := 48
  interfaces := #[]
  cf := some (fileOf pool2 8 #[] #[{ accessFlags := 0, nameIndex := 5, descriptorIndex := 6, attributes := #[] }, { accessFlags := 0, nameIndex := 65, descriptorIndex := 66, attributes := #[] }, { accessFlags := 0, nameIndex := 123, descriptorIndex := 124, attributes := #[] }, { accessFlags := 0, nameIndex := 125, descriptorIndex := 124, attributes := #[] }, { accessFlags := 0, nameIndex := 126, descriptorIndex := 127, attributes := #[] }, { accessFlags := 0, nameIndex := 128, descriptorIndex := 129, attributes := #[] }, { accessFlags := 0, nameIndex := 130, descriptorIndex := 72, attributes := #[] }, { accessFlags := 2, nameIndex := 78, descriptorIndex := 79, attributes := #[] }, { accessFlags := 2, nameIndex := 88, descriptorIndex := 6, attributes := #[] }, { accessFlags := 2, nameIndex := 103, descriptorIndex := 104, attributes := #[] }] 48 2 #[] #[{ accessFlags := 26, nameIndex := 111, descriptorIndex := 83, attributes := #[] }, { accessFlags := 26, nameIndex := 113, descriptorIndex := 25, attributes := #[] }, { accessFlags := 26, nameIndex := 11, descriptorIndex := 12, attributes := #[] }, { accessFlags := 2, nameIndex := 15, descriptorIndex := 12, attributes := #[] }, { accessFlags := 2, nameIndex := 18, descriptorIndex := 12, attributes := #[] }, { accessFlags := 2, nameIndex := 21, descriptorIndex := 12, attributes := #[] }, { accessFlags := 2, nameIndex := 75, descriptorIndex := 25, attributes := #[] }, { accessFlags := 2, nameIndex := 24, descriptorIndex := 25, attributes := #[] }, { accessFlags := 2, nameIndex := 82, descriptorIndex := 83, attributes := #[] }])
  fields := #[{ name := "ERROR_DIVISOR", type := .long, accessFlags := 26, slot := 0, constantValue := 0 }, { name := "INITIAL_CAPACITY", type := .int, accessFlags := 26, slot := 1, constantValue := 0 }, { name := "NONE", type := (.array .long), accessFlags := 26, slot := 2, constantValue := 0 }, { name := "firsts", type := (.array .long), accessFlags := 2, slot := 0, constantValue := 0 }, { name := "lasts", type := (.array .long), accessFlags := 2, slot := 1, constantValue := 0 }, { name := "totals", type := (.array .long), accessFlags := 2, slot := 2, constantValue := 0 }, { name := "head", type := .int, accessFlags := 2, slot := 3, constantValue := 0 }, { name := "end", type := .int, accessFlags := 2, slot := 4, constantValue := 0 }, { name := "droppedTotal", type := .long, accessFlags := 2, slot := 5, constantValue := 0 }]
  methods := #[k2m0, k2m1, k2m2, k2m3, k2m4, k2m5, k2m6, k2m7, k2m8, k2m9]
  instanceTypes := #[(.array .long), (.array .long), (.array .long), .int, .int, .long]
  staticTypes := #[.long, .int, (.array .long)]
  resolved := Array.replicate 136 none
  statics := some 0 }

def pool3 : Array CpInfo := pool [(1, .class_ 2), (0, u "java/lang/Math"), (1, .class_ 6), (1, u "java/lang/Object"), (0, u "<init>"), (0, u "()V"), (89, .class_ 100), (1, u "java/lang/Math$RandomNumberGeneratorHolder"), (71, u "negativeZeroFloatBits"), (0, u "J"), (2, u "negativeZeroDoubleBits"), (21, u "max"), (46, u "$assertionsDisabled"), (0, u "Z"), (88, u "(II)I"), (2, u "twoToTheDoubleScaleDown"), (0, u "D"), (4, u "twoToTheDoubleScaleUp"), (9, u "E"), (3, u "PI"), (2, u "TAU"), (2, u "DEGREES_TO_RADIANS"), (0, u "RADIANS_TO_DEGREES")] 94

def k3m0 : Method := { name := "<init>", desc := "()V", sig := { parameters := [], returnType := none }, accessFlags := 2, code := none }
def k3c1 : Code := { maxStack := 2, maxLocals := 2, code := jdk_29_method_65_code, exceptionTable := #[], attributes := #[] }
def k3m1 : Method := { name := "max", desc := "(II)I", sig := { parameters := [.int, .int], returnType := some .int }, accessFlags := 9, code := some k3c1 }
/-- java/lang/Math -/
def k3 : Class := { plain "java/lang/Math" (some 0) with
  accessFlags := 49
  interfaces := #[]
  cf := some (fileOf pool3 1 #[.nestMembers #[98]] #[{ accessFlags := 2, nameIndex := 7, descriptorIndex := 8, attributes := #[] }, { accessFlags := 9, nameIndex := 198, descriptorIndex := 335, attributes := #[] }] 49 4 #[] #[{ accessFlags := 25, nameIndex := 354, descriptorIndex := 339, attributes := #[] }, { accessFlags := 25, nameIndex := 358, descriptorIndex := 339, attributes := #[] }, { accessFlags := 25, nameIndex := 361, descriptorIndex := 339, attributes := #[] }, { accessFlags := 26, nameIndex := 364, descriptorIndex := 339, attributes := #[] }, { accessFlags := 26, nameIndex := 365, descriptorIndex := 339, attributes := #[] }, { accessFlags := 26, nameIndex := 172, descriptorIndex := 173, attributes := #[] }, { accessFlags := 26, nameIndex := 176, descriptorIndex := 173, attributes := #[] }, { accessFlags := 8, nameIndex := 344, descriptorIndex := 339, attributes := #[] }, { accessFlags := 8, nameIndex := 338, descriptorIndex := 339, attributes := #[] }, { accessFlags := 4120, nameIndex := 245, descriptorIndex := 246, attributes := #[] }])
  fields := #[{ name := "E", type := .double, accessFlags := 25, slot := 0, constantValue := 0 }, { name := "PI", type := .double, accessFlags := 25, slot := 1, constantValue := 0 }, { name := "TAU", type := .double, accessFlags := 25, slot := 2, constantValue := 0 }, { name := "DEGREES_TO_RADIANS", type := .double, accessFlags := 26, slot := 3, constantValue := 0 }, { name := "RADIANS_TO_DEGREES", type := .double, accessFlags := 26, slot := 4, constantValue := 0 }, { name := "negativeZeroFloatBits", type := .long, accessFlags := 26, slot := 5, constantValue := 0 }, { name := "negativeZeroDoubleBits", type := .long, accessFlags := 26, slot := 6, constantValue := 0 }, { name := "twoToTheDoubleScaleUp", type := .double, accessFlags := 8, slot := 7, constantValue := 0 }, { name := "twoToTheDoubleScaleDown", type := .double, accessFlags := 8, slot := 8, constantValue := 0 }, { name := "$assertionsDisabled", type := .boolean, accessFlags := 4120, slot := 9, constantValue := 0 }]
  methods := #[k3m0, k3m1]
  instanceTypes := #[]
  staticTypes := #[.double, .double, .double, .double, .double, .long, .long, .double, .double, .boolean]
  resolved := Array.replicate 460 none
  statics := none }

def pool4 : Array CpInfo := pool [(2, .class_ 4), (1, u "java/lang/Object"), (0, u "<init>"), (0, u "()V"), (1, .class_ 10), (1, u "java/lang/System"), (0, u "allowSecurityManager"), (0, u "I"), (16, u "cons"), (0, u "Ljava/io/Console;"), (77, .class_ 110), (1, u "java/lang/System$CallersHolder"), (43, u "initialErrStream"), (0, u "Ljava/io/PrintStream;"), (19, u "security"), (0, u "Ljava/lang/SecurityManager;"), (31, .class_ 209), (0, u "java/lang/System$1"), (7, u "props"), (0, u "Ljava/util/Properties;"), (2, u "lineSeparator"), (0, u "Ljava/lang/String;"), (96, .class_ 321), (1, u "java/lang/System$LoggerFinder"), (5, .class_ 328), (0, u "java/lang/System$Logger"), (67, u "err"), (2, u "out"), (91, u "notSupportedJnuEncoding"), (15, u "in"), (17, u "initialIn"), (0, u "Ljava/io/InputStream;"), (35, u "bootLayer"), (0, u "Ljava/lang/ModuleLayer;"), (99, .class_ 664), (0, u "java/lang/System$2"), (9, u "NEVER"), (2, u "MAYBE"), (49, u "arraycopy"), (0, u "(Ljava/lang/Object;ILjava/lang/Object;II)V"), (72, .class_ 802), (0, u "java/lang/System$Logger$Level")] 31

def k4m0 : Method := { name := "<init>", desc := "()V", sig := { parameters := [], returnType := none }, accessFlags := 2, code := none }
def k4m1 : Method := { name := "arraycopy", desc := "(Ljava/lang/Object;ILjava/lang/Object;II)V", sig := { parameters := [(.object "java/lang/Object"), .int, (.object "java/lang/Object"), .int, .int], returnType := none }, accessFlags := 265, code := none }
/-- java/lang/System -/
def k4 : Class := { plain "java/lang/System" (some 0) with
  accessFlags := 49
  interfaces := #[]
  cf := some (fileOf pool4 8 #[.nestMembers #[319, 327, 801, 108, 663, 208]] #[{ accessFlags := 2, nameIndex := 5, descriptorIndex := 6, attributes := #[] }, { accessFlags := 265, nameIndex := 727, descriptorIndex := 728, attributes := #[] }] 49 2 #[] #[{ accessFlags := 25, nameIndex := 507, descriptorIndex := 526, attributes := #[] }, { accessFlags := 25, nameIndex := 399, descriptorIndex := 155, attributes := #[] }, { accessFlags := 25, nameIndex := 396, descriptorIndex := 155, attributes := #[] }, { accessFlags := 10, nameIndex := 525, descriptorIndex := 526, attributes := #[] }, { accessFlags := 26, nameIndex := 674, descriptorIndex := 12, attributes := #[] }, { accessFlags := 26, nameIndex := 677, descriptorIndex := 12, attributes := #[] }, { accessFlags := 10, nameIndex := 11, descriptorIndex := 12, attributes := #[] }, { accessFlags := 74, nameIndex := 175, descriptorIndex := 176, attributes := #[] }, { accessFlags := 10, nameIndex := 491, descriptorIndex := 222, attributes := #[] }, { accessFlags := 74, nameIndex := 29, descriptorIndex := 30, attributes := #[] }, { accessFlags := 74, nameIndex := 154, descriptorIndex := 155, attributes := #[] }, { accessFlags := 10, nameIndex := 217, descriptorIndex := 218, attributes := #[] }, { accessFlags := 10, nameIndex := 221, descriptorIndex := 222, attributes := #[] }, { accessFlags := 8, nameIndex := 562, descriptorIndex := 563, attributes := #[] }])
  fields := #[{ name := "in", type := (.object "java/io/InputStream"), accessFlags := 25, slot := 0, constantValue := 0 }, { name := "out", type := (.object "java/io/PrintStream"), accessFlags := 25, slot := 1, constantValue := 0 }, { name := "err", type := (.object "java/io/PrintStream"), accessFlags := 25, slot := 2, constantValue := 0 }, { name := "initialIn", type := (.object "java/io/InputStream"), accessFlags := 10, slot := 3, constantValue := 0 }, { name := "NEVER", type := .int, accessFlags := 26, slot := 4, constantValue := 0 }, { name := "MAYBE", type := .int, accessFlags := 26, slot := 5, constantValue := 0 }, { name := "allowSecurityManager", type := .int, accessFlags := 10, slot := 6, constantValue := 0 }, { name := "security", type := (.object "java/lang/SecurityManager"), accessFlags := 74, slot := 7, constantValue := 0 }, { name := "notSupportedJnuEncoding", type := (.object "java/lang/String"), accessFlags := 10, slot := 8, constantValue := 0 }, { name := "cons", type := (.object "java/io/Console"), accessFlags := 74, slot := 9, constantValue := 0 }, { name := "initialErrStream", type := (.object "java/io/PrintStream"), accessFlags := 74, slot := 10, constantValue := 0 }, { name := "props", type := (.object "java/util/Properties"), accessFlags := 10, slot := 11, constantValue := 0 }, { name := "lineSeparator", type := (.object "java/lang/String"), accessFlags := 10, slot := 12, constantValue := 0 }, { name := "bootLayer", type := (.object "java/lang/ModuleLayer"), accessFlags := 8, slot := 13, constantValue := 0 }]
  methods := #[k4m0, k4m1]
  instanceTypes := #[]
  staticTypes := #[(.object "java/io/InputStream"), (.object "java/io/PrintStream"), (.object "java/io/PrintStream"), (.object "java/io/InputStream"), .int, .int, .int, (.object "java/lang/SecurityManager"), (.object "java/lang/String"), (.object "java/io/Console"), (.object "java/io/PrintStream"), (.object "java/util/Properties"), (.object "java/lang/String"), (.object "java/lang/ModuleLayer")]
  resolved := Array.replicate 834 none
  statics := none }

def pool5 : Array CpInfo := pool [(1, u "java/lang/Cloneable"), (0, .class_ 1), (0, u "java/lang/Object"), (0, .class_ 3)] 3

/-- java/lang/Cloneable -/
def k5 : Class := { plain "java/lang/Cloneable" (some 0) with
  accessFlags := 1537
  interfaces := #[]
  cf := some (fileOf pool5 2 #[] #[] 1537 4 #[] #[])
  fields := #[]
  methods := #[]
  instanceTypes := #[]
  staticTypes := #[]
  resolved := Array.replicate 8 none
  statics := none }

def pool6 : Array CpInfo := pool [(1, u "java/io/Serializable"), (0, .class_ 1), (0, u "java/lang/Object"), (0, .class_ 3)] 3

/-- java/io/Serializable -/
def k6 : Class := { plain "java/io/Serializable" (some 0) with
  accessFlags := 1537
  interfaces := #[]
  cf := some (fileOf pool6 2 #[] #[] 1537 4 #[] #[])
  fields := #[]
  methods := #[]
  instanceTypes := #[]
  staticTypes := #[]
  resolved := Array.replicate 8 none
  statics := none }

/-- the primitive byte -/
def k7 : Class := { plain "byte" none with kind := .primitive 'B', accessFlags := 0x411 }
/-- [B -/
def k8 : Class := { plain "[B" (some 0) with kind := .array 7 .byte, interfaces := #[5, 6], accessFlags := 1041 }

/-- the primitive int -/
def k9 : Class := { plain "int" none with kind := .primitive 'I', accessFlags := 0x411 }
/-- [I -/
def k10 : Class := { plain "[I" (some 0) with kind := .array 9 .int, interfaces := #[5, 6], accessFlags := 1041 }

/-- the primitive long -/
def k11 : Class := { plain "long" none with kind := .primitive 'J', accessFlags := 0x411 }
/-- [J -/
def k12 : Class := { plain "[J" (some 0) with kind := .array 11 .long, interfaces := #[5, 6], accessFlags := 1041 }

def heap : Heap := #[{ cls := 2, slots := #[.long 0, .int 0, .ref 1], vm := .statics 2 },
  { cls := 12, slots := #[], vm := .none }]
def classes : Array Class := #[k0, k1, k2, k3, k4, k5, k6, k7, k8, k9, k10, k11, k12]
def interned : List (Array UInt16 × Addr) := []
def slotsUsed : Nat := 3
def theMethod : MethodId := ⟨1, 1⟩
def args0 : Array Value := #[.long 5, .int 5, .long 5, .long 5, .int 5]
def aboutOver (below : List Frame) : State where
  vm := { classes := classes, interned := interned.toArray }
  heap := heap
  slotsUsed := slotsUsed
  threads := #[{ frames := .invoking theMethod args0 :: below }]
def below0 : List Frame := [.native { method := ⟨0, 0⟩, args := #[] }]
def about1 : State := aboutOver below0
def p0 : Program := .bare "" "" ""
def e0 : Env := launch0.env 0 0 0
theorem w_frames : about1.frames = Frame.invoking theMethod args0 :: below0 := rfl
set_option maxRecDepth 65536 in
theorem w_args : argsFit about1.vm theMethod args0 = true := by decide +kernel
set_option maxRecDepth 65536 in
theorem w_heap : heapFits about1 = true := by decide +kernel
set_option maxRecDepth 65536 in
theorem w_runnable : about1.curStatus? = some .runnable := by decide +kernel
set_option maxRecDepth 65536 in
theorem w_alone : about1.alone = true := by decide +kernel
set_option maxRecDepth 65536 in
theorem w_named : about1.methodNamed? x = some theMethod := by decide +kernel
set_option maxRecDepth 65536 in
theorem w_hears : about1.hears theMethod below0 = true := by decide +kernel
set_option maxRecDepth 65536 in
theorem w_ripe : about1.ripe theMethod args0 below0 = true := by decide +kernel
theorem w_running : about1.status = .running := rfl
set_option maxRecDepth 65536 in
theorem w_room : about1.hasRoom e0.platform room_1 = true :=
  launch0.hasRoom_least _ room_1 (by decide +kernel) (by decide +kernel) (by decide +kernel) (by decide +kernel) (by decide +kernel) (by decide +kernel)
theorem allAtoms_all (ts : List Jvm.Cond) (a : Array Jvm.Value) (st : Jvm.State) : (allAtoms ts).before a st = ts.all (fun c => c.before a st) := by
  induction ts with
  | nil => rfl
  | cons c t ih =>
    show (Jvm.Cond.and c (allAtoms t)).before a st = _
    rw [Jvm.Cond.before_and, ih, List.all_cons]
def words1 : List Jvm.Cond := Jvm.Cond.code x code maxLocals ret :: tables_1
/-- a 'code' word, met by the world's own term for the bytes: nothing is compared byte by byte -/
theorem code_word {y : MethodName} {bytes : ByteArray} {mx : Nat} {rt : Option FieldType} {a : Array Value} {s : State} {m : MethodId} {meth : Method} {c : Code} (h1 : s.methodNamed? y = some m) (h2 : s.vm.method? m = some meth) (h3 : meth.code = some c) (h4 : c.code = bytes)
    (h5 : (c.maxLocals == mx && c.exceptionTable.isEmpty && decide (c.maxStack ≤ mostOperands) && decide (meth.sig.returnType = rt) && !meth.locks && decide (parseMethodDescriptor y.desc = some meth.sig)) = true) : (Jvm.Cond.code y bytes mx rt).before a s = true := by
  simp only [Bool.and_eq_true, beq_iff_eq, Bool.not_eq_true', decide_eq_true_eq] at h5
  obtain ⟨⟨⟨⟨⟨g1, g2⟩, g3⟩, g4⟩, g5⟩, g6⟩ := h5
  simp [Cond.before, Cond.holds, Cond.value, h1, h2, h3, h4, g1, g2, g3, g4, g5, g6]
def isCode : Jvm.Cond → Bool
  | .code _ _ _ _ => true
  | _ => false
theorem all_split {L : List Jvm.Cond} {P : Jvm.Cond → Bool} (h1 : L.all (fun c => isCode c || P c) = true) (h2 : ∀ c ∈ L.filter isCode, P c = true) : L.all P = true := by
  refine List.all_eq_true.mpr fun c hc => ?_
  have h := List.all_eq_true.mp h1 c hc
  rcases Bool.eq_false_or_eq_true (isCode c) with hi | hi
  · exact h2 c (List.mem_filter.mpr ⟨hc, hi⟩)
  · simpa [hi] using h
set_option maxRecDepth 65536 in
theorem w_c0 : (Jvm.Cond.code x code maxLocals ret).before args0 about1 = true := code_word (m := ⟨1, 1⟩) (meth := k1m1) (c := k1c1) (by decide +kernel) rfl rfl rfl (by decide +kernel)
set_option maxRecDepth 65536 in
theorem w_c1 : (Jvm.Cond.code ({ cls := "com/example/meter/meter/store/Spans", name := "<init>", desc := "()V" } : Jvm.MethodName) prog_11_method_1_code (1 : Nat) (Option.none : Option Jvm.ClassFile.FieldType)).before args0 about1 = true := code_word (m := ⟨2, 0⟩) (meth := k2m0) (c := k2c0) (by decide +kernel) rfl rfl rfl (by decide +kernel)
set_option maxRecDepth 65536 in
theorem w_c2 : (Jvm.Cond.code ({ cls := "java/lang/Object", name := "<init>", desc := "()V" } : Jvm.MethodName) object_method_1_code (1 : Nat) (Option.none : Option Jvm.ClassFile.FieldType)).before args0 about1 = true := code_word (m := ⟨0, 0⟩) (meth := k0m0) (c := k0c0) (by decide +kernel) rfl rfl rfl (by decide +kernel)
set_option maxRecDepth 65536 in
theorem w_c3 : (Jvm.Cond.code ({ cls := "com/example/meter/meter/store/Spans", name := "append", desc := "(JJ)V" } : Jvm.MethodName) prog_11_method_9_code (5 : Nat) (Option.none : Option Jvm.ClassFile.FieldType)).before args0 about1 = true := code_word (m := ⟨2, 5⟩) (meth := k2m5) (c := k2c5) (by decide +kernel) rfl rfl rfl (by decide +kernel)
set_option maxRecDepth 65536 in
theorem w_c4 : (Jvm.Cond.code ({ cls := "com/example/meter/meter/store/Spans", name := "makeRoom", desc := "()V" } : Jvm.MethodName) prog_11_method_15_code (4 : Nat) (Option.none : Option Jvm.ClassFile.FieldType)).before args0 about1 = true := code_word (m := ⟨2, 8⟩) (meth := k2m8) (c := k2c8) (by decide +kernel) rfl rfl rfl (by decide +kernel)
set_option maxRecDepth 65536 in
theorem w_c5 : (Jvm.Cond.code ({ cls := "java/lang/Math", name := "max", desc := "(II)I" } : Jvm.MethodName) jdk_29_method_65_code (2 : Nat) (Option.some Jvm.ClassFile.FieldType.int)).before args0 about1 = true := code_word (m := ⟨3, 1⟩) (meth := k3m1) (c := k3c1) (by decide +kernel) rfl rfl rfl (by decide +kernel)
set_option maxRecDepth 65536 in
theorem w_c6 : (Jvm.Cond.code ({ cls := "com/example/meter/meter/store/Spans", name := "movedDown", desc := "([JI)[J" } : Jvm.MethodName) prog_11_method_16_code (4 : Nat) (Option.some (Jvm.ClassFile.FieldType.array Jvm.ClassFile.FieldType.long))).before args0 about1 = true := code_word (m := ⟨2, 9⟩) (meth := k2m9) (c := k2c9) (by decide +kernel) rfl rfl rfl (by decide +kernel)
set_option maxRecDepth 65536 in
theorem w_c7 : (Jvm.Cond.code ({ cls := "com/example/meter/meter/store/Spans", name := "totalBefore", desc := "(I)J" } : Jvm.MethodName) prog_11_method_14_code (2 : Nat) (Option.some Jvm.ClassFile.FieldType.long)).before args0 about1 = true := code_word (m := ⟨2, 7⟩) (meth := k2m7) (c := k2c7) (by decide +kernel) rfl rfl rfl (by decide +kernel)
set_option maxRecDepth 65536 in
theorem w_c8 : (Jvm.Cond.code ({ cls := "com/example/meter/meter/store/Spans", name := "dropThrough", desc := "(J)V" } : Jvm.MethodName) prog_11_method_10_code (3 : Nat) (Option.none : Option Jvm.ClassFile.FieldType)).before args0 about1 = true := code_word (m := ⟨2, 6⟩) (meth := k2m6) (c := k2c6) (by decide +kernel) rfl rfl rfl (by decide +kernel)
set_option maxRecDepth 65536 in
theorem w_c9 : (Jvm.Cond.code ({ cls := "com/example/meter/meter/store/Spans", name := "size", desc := "()I" } : Jvm.MethodName) prog_11_method_5_code (1 : Nat) (Option.some Jvm.ClassFile.FieldType.int)).before args0 about1 = true := code_word (m := ⟨2, 1⟩) (meth := k2m1) (c := k2c1) (by decide +kernel) rfl rfl rfl (by decide +kernel)
set_option maxRecDepth 65536 in
theorem w_c10 : (Jvm.Cond.code ({ cls := "com/example/meter/meter/store/Spans", name := "hits", desc := "()J" } : Jvm.MethodName) prog_11_method_6_code (1 : Nat) (Option.some Jvm.ClassFile.FieldType.long)).before args0 about1 = true := code_word (m := ⟨2, 2⟩) (meth := k2m2) (c := k2c2) (by decide +kernel) rfl rfl rfl (by decide +kernel)
set_option maxRecDepth 65536 in
theorem w_c11 : (Jvm.Cond.code ({ cls := "com/example/meter/meter/store/Spans", name := "newestSecond", desc := "()J" } : Jvm.MethodName) prog_11_method_7_code (1 : Nat) (Option.some Jvm.ClassFile.FieldType.long)).before args0 about1 = true := code_word (m := ⟨2, 3⟩) (meth := k2m3) (c := k2c3) (by decide +kernel) rfl rfl rfl (by decide +kernel)
set_option maxRecDepth 65536 in
theorem w_c12 : (Jvm.Cond.code ({ cls := "com/example/meter/meter/store/Spans", name := "endsAfter", desc := "(J)Z" } : Jvm.MethodName) prog_11_method_8_code (3 : Nat) (Option.some Jvm.ClassFile.FieldType.boolean)).before args0 about1 = true := code_word (m := ⟨2, 4⟩) (meth := k2m4) (c := k2c4) (by decide +kernel) rfl rfl rfl (by decide +kernel)
def codes1 : List Jvm.Cond := [Jvm.Cond.code x code maxLocals ret, Jvm.Cond.code ({ cls := "com/example/meter/meter/store/Spans", name := "<init>", desc := "()V" } : Jvm.MethodName) prog_11_method_1_code (1 : Nat) (Option.none : Option Jvm.ClassFile.FieldType), Jvm.Cond.code ({ cls := "java/lang/Object", name := "<init>", desc := "()V" } : Jvm.MethodName) object_method_1_code (1 : Nat) (Option.none : Option Jvm.ClassFile.FieldType), Jvm.Cond.code ({ cls := "com/example/meter/meter/store/Spans", name := "append", desc := "(JJ)V" } : Jvm.MethodName) prog_11_method_9_code (5 : Nat) (Option.none : Option Jvm.ClassFile.FieldType), Jvm.Cond.code ({ cls := "com/example/meter/meter/store/Spans", name := "makeRoom", desc := "()V" } : Jvm.MethodName) prog_11_method_15_code (4 : Nat) (Option.none : Option Jvm.ClassFile.FieldType), Jvm.Cond.code ({ cls := "java/lang/Math", name := "max", desc := "(II)I" } : Jvm.MethodName) jdk_29_method_65_code (2 : Nat) (Option.some Jvm.ClassFile.FieldType.int), Jvm.Cond.code ({ cls := "com/example/meter/meter/store/Spans", name := "movedDown", desc := "([JI)[J" } : Jvm.MethodName) prog_11_method_16_code (4 : Nat) (Option.some (Jvm.ClassFile.FieldType.array Jvm.ClassFile.FieldType.long)), Jvm.Cond.code ({ cls := "com/example/meter/meter/store/Spans", name := "totalBefore", desc := "(I)J" } : Jvm.MethodName) prog_11_method_14_code (2 : Nat) (Option.some Jvm.ClassFile.FieldType.long), Jvm.Cond.code ({ cls := "com/example/meter/meter/store/Spans", name := "dropThrough", desc := "(J)V" } : Jvm.MethodName) prog_11_method_10_code (3 : Nat) (Option.none : Option Jvm.ClassFile.FieldType), Jvm.Cond.code ({ cls := "com/example/meter/meter/store/Spans", name := "size", desc := "()I" } : Jvm.MethodName) prog_11_method_5_code (1 : Nat) (Option.some Jvm.ClassFile.FieldType.int), Jvm.Cond.code ({ cls := "com/example/meter/meter/store/Spans", name := "hits", desc := "()J" } : Jvm.MethodName) prog_11_method_6_code (1 : Nat) (Option.some Jvm.ClassFile.FieldType.long), Jvm.Cond.code ({ cls := "com/example/meter/meter/store/Spans", name := "newestSecond", desc := "()J" } : Jvm.MethodName) prog_11_method_7_code (1 : Nat) (Option.some Jvm.ClassFile.FieldType.long), Jvm.Cond.code ({ cls := "com/example/meter/meter/store/Spans", name := "endsAfter", desc := "(J)Z" } : Jvm.MethodName) prog_11_method_8_code (3 : Nat) (Option.some Jvm.ClassFile.FieldType.boolean)]
set_option maxRecDepth 65536 in
theorem codes_eq : words1.filter isCode = codes1 := rfl
theorem w_codes : ∀ c ∈ words1.filter isCode, c.before args0 about1 = true := by
  rw [codes_eq]
  intro c hc
  simp only [codes1, List.mem_cons, List.not_mem_nil, or_false] at hc
  rcases hc with rfl | rfl | rfl | rfl | rfl | rfl | rfl | rfl | rfl | rfl | rfl | rfl | rfl
  · exact w_c0
  · exact w_c1
  · exact w_c2
  · exact w_c3
  · exact w_c4
  · exact w_c5
  · exact w_c6
  · exact w_c7
  · exact w_c8
  · exact w_c9
  · exact w_c10
  · exact w_c11
  · exact w_c12
set_option maxRecDepth 65536 in
theorem w_t1 : (words1.take 24).all (fun c => isCode c || c.before args0 about1) = true := by decide +kernel
set_option maxRecDepth 65536 in
theorem w_t2 : ((words1.drop 24).take 24).all (fun c => isCode c || c.before args0 about1) = true := by decide +kernel
set_option maxRecDepth 65536 in
theorem w_t3 : (((words1.drop 24).drop 24).take 24).all (fun c => isCode c || c.before args0 about1) = true := by decide +kernel
set_option maxRecDepth 65536 in
theorem w_t4 : (((words1.drop 24).drop 24).drop 24).all (fun c => isCode c || c.before args0 about1) = true := by decide +kernel
theorem w_tables : (allAtoms (Jvm.Cond.code x code maxLocals ret :: tables_1)).before args0 about1 = true := by
  rw [allAtoms_all]
  show words1.all (fun c => c.before args0 about1) = true
  refine all_split ?_ w_codes
  rw [← List.take_append_drop 24 words1, List.all_append, w_t1, ← List.take_append_drop 24 (words1.drop 24), List.all_append, w_t2, ← List.take_append_drop 24 ((words1.drop 24).drop 24), List.all_append, w_t3, w_t4]
  rfl
set_option maxRecDepth 65536 in
theorem w_case : (Jvm.Cond.and given_1 narrow_1).before args0 about1 = true := by decide +kernel
theorem w_applies : (headSpec (Jvm.Cond.code x code maxLocals ret :: tables_1) room_1).applies x e0.platform about1 = true :=
  (Spec.applies_iff w_frames).mpr ⟨w_running, w_runnable, w_alone, w_named, w_hears, w_ripe, w_room, w_tables⟩
theorem atStart : AtStart classFile x code maxLocals ret World_1 tables_1 room_1 Calls_1 rest_1 Pre_1 launch0 p0 e0 about1 theMethod args0 below0 :=
  ⟨lists_1, trivial, launch0.admits_env _ _ _, launch0.least_env, fairChoices_fair.cas, fairChoices_fair.clock, w_frames, w_args, w_heap, w_applies, trivial, trivial, w_case⟩
end start1
theorem witness_1 : WitnessClaimed_1 := ⟨start1.p0, start1.e0, start1.about1, start1.theMethod, start1.args0, start1.below0, start1.atStart⟩
end Jvm.Pilot.@@N@@
