import JvmDerived
import JvmDerived.Pilot.@@N@@Statement
import JvmDerived.Pilot.@@N@@Code
set_option linter.unusedVariables false
set_option linter.unusedSimpArgs false
@@BLOCK:NumsL.lean.txt@@
namespace Jvm.Pilot.@@N@@
open Jvm Jvm.ClassFile Sem Op Lib Jvm.Free Jvm.Stand Jvm.LawKit Jvm.RoadKit Bundle Jvm.Pilot.@@N@@.Jvm.D
abbrev oI (x : Int32) : Slot := .val (.int x)
abbrev oJ (x : Int64) : Slot := .val (.long x)
abbrev oA (x : Addr) : Slot := .val (.ref x)
abbrev oN : Slot := .val .null
abbrev oU : Slot := .unset
abbrev oS : Slot := .second
theorem own_w {Z : State} {a0 : Array Value} (hw : ∀ d ∈ tables_1, d.before a0 Z = true) (i : Nat) {d : Jvm.Cond} (h : tables_1[i]? = some d) : d.before a0 Z = true := hw d (List.mem_of_getElem? h)
section Own
variable {p : Program} {l : Launch} {e : Env} {R : Room} {s : State} {m : MethodId} {args : Array Value} {below : List Frame} {meth : Method} {c : Code} {T : State} {locs : List Loc} {cells slots : Nat} {P : State → Outcome → Prop} {pc : Nat} {ls : Array Slot} {st : List Value} {Z : State} {a0 : Array Value} {h : Heap} {bytes : ByteArray}
/-- the run goes on from A and ends so that P holds -/
def Go (p : Program) (e : Env) (below : List Frame) (P : State → Outcome → Prop) (A : State) : Prop := ∃ s₂ o, Steps p.tables e below A s₂ ∧ P s₂ o
theorem own_go {A A' : State} (h : ∀ t, Steps p.tables e below A' t → Steps p.tables e below A t) (k : Go p e below P A') : Go p e below P A := by
  obtain ⟨s₂, o, h1, h2⟩ := k
  exact ⟨s₂, o, h _ h1, h2⟩
/-! loads, stores, constants -/
theorem own_iload_n (pc' : Nat) (X : Stand p l e R s m args below meth c T locs cells slots) (hx : p.tables.exec = Jvm.exec) (hby : c.code = bytes) {k : Fin 4} {v : Int32} (hd : decode bytes pc = .ok (.iload_n k, 1)) (hp : pc + 1 = pc') (hl : ls[k.val]? = some (.val (.int v))) (r : Go p e below P (T.setTop (mkF m pc' ls (.int v :: st)))) : Go p e below P (T.setTop (mkF m pc ls st)) := by
  subst hp; exact own_go (fun t q => XS.iloadN X.here hx rfl (hb hby hd) hl q) r
theorem own_iload (pc' : Nat) (X : Stand p l e R s m args below meth c T locs cells slots) (hx : p.tables.exec = Jvm.exec) (hby : c.code = bytes) {k : Nat} {v : Int32} (hd : decode bytes pc = .ok (.iload k, 2)) (hp : pc + 2 = pc') (hl : ls[k]? = some (.val (.int v))) (r : Go p e below P (T.setTop (mkF m pc' ls (.int v :: st)))) : Go p e below P (T.setTop (mkF m pc ls st)) := by
  subst hp; exact own_go (fun t q => XS.iload X.here hx rfl (hb hby hd) hl q) r
theorem own_lload_n (pc' : Nat) (X : Stand p l e R s m args below meth c T locs cells slots) (hx : p.tables.exec = Jvm.exec) (hby : c.code = bytes) {k : Fin 4} {v : Int64} (hd : decode bytes pc = .ok (.lload_n k, 1)) (hp : pc + 1 = pc') (hl : ls[k.val]? = some (.val (.long v))) (r : Go p e below P (T.setTop (mkF m pc' ls (.long v :: st)))) : Go p e below P (T.setTop (mkF m pc ls st)) := by
  subst hp; exact own_go (fun t q => XT.lloadN X.here hx rfl (hb hby hd) hl q) r
theorem own_lload (pc' : Nat) (X : Stand p l e R s m args below meth c T locs cells slots) (hx : p.tables.exec = Jvm.exec) (hby : c.code = bytes) {k : Nat} {v : Int64} (hd : decode bytes pc = .ok (.lload k, 2)) (hp : pc + 2 = pc') (hl : ls[k]? = some (.val (.long v))) (r : Go p e below P (T.setTop (mkF m pc' ls (.long v :: st)))) : Go p e below P (T.setTop (mkF m pc ls st)) := by
  subst hp; exact own_go (fun t q => XT.lload X.here hx rfl (hb hby hd) hl q) r
theorem own_aload_n (pc' : Nat) (X : Stand p l e R s m args below meth c T locs cells slots) (hx : p.tables.exec = Jvm.exec) (hby : c.code = bytes) {k : Fin 4} {v : Value} (hd : decode bytes pc = .ok (.aload_n k, 1)) (hp : pc + 1 = pc') (hl : ls[k.val]? = some (.val v)) (hv : v.isRef = true) (r : Go p e below P (T.setTop (mkF m pc' ls (v :: st)))) : Go p e below P (T.setTop (mkF m pc ls st)) := by
  subst hp; exact own_go (fun t q => XS.aloadN X.here hx rfl (hb hby hd) hl hv q) r
theorem own_aload (pc' : Nat) (X : Stand p l e R s m args below meth c T locs cells slots) (hx : p.tables.exec = Jvm.exec) (hby : c.code = bytes) {k : Nat} {v : Value} (hd : decode bytes pc = .ok (.aload k, 2)) (hp : pc + 2 = pc') (hl : ls[k]? = some (.val v)) (hv : v.isRef = true) (r : Go p e below P (T.setTop (mkF m pc' ls (v :: st)))) : Go p e below P (T.setTop (mkF m pc ls st)) := by
  subst hp; exact own_go (fun t q => XS.aload X.here hx rfl (hb hby hd) hl hv q) r
theorem own_istore_n (pc' : Nat) (l' : Array Slot) (X : Stand p l e R s m args below meth c T locs cells slots) (hx : p.tables.exec = Jvm.exec) (hby : c.code = bytes) {k : Fin 4} {v : Int32} (hd : decode bytes pc = .ok (.istore_n k, 1)) (hp : pc + 1 = pc') (hl : storeLocals ls k.val (.int v) = some l') (r : Go p e below P (T.setTop (mkF m pc' l' st))) : Go p e below P (T.setTop (mkF m pc ls (.int v :: st))) := by
  subst hp; exact own_go (fun t q => XS.istoreN X.here hx rfl (hb hby hd) rfl hl q) r
theorem own_istore (pc' : Nat) (l' : Array Slot) (X : Stand p l e R s m args below meth c T locs cells slots) (hx : p.tables.exec = Jvm.exec) (hby : c.code = bytes) {k : Nat} {v : Int32} (hd : decode bytes pc = .ok (.istore k, 2)) (hp : pc + 2 = pc') (hl : storeLocals ls k (.int v) = some l') (r : Go p e below P (T.setTop (mkF m pc' l' st))) : Go p e below P (T.setTop (mkF m pc ls (.int v :: st))) := by
  subst hp; exact own_go (fun t q => XS.istore X.here hx rfl (hb hby hd) rfl hl q) r
theorem own_lstore_n (pc' : Nat) (l' : Array Slot) (X : Stand p l e R s m args below meth c T locs cells slots) (hx : p.tables.exec = Jvm.exec) (hby : c.code = bytes) {k : Fin 4} {v : Int64} (hd : decode bytes pc = .ok (.lstore_n k, 1)) (hp : pc + 1 = pc') (hl : storeLocals ls k.val (.long v) = some l') (r : Go p e below P (T.setTop (mkF m pc' l' st))) : Go p e below P (T.setTop (mkF m pc ls (.long v :: st))) := by
  subst hp; exact own_go (fun t q => XT.lstoreN X.here hx rfl (hb hby hd) rfl hl q) r
theorem own_lstore (pc' : Nat) (l' : Array Slot) (X : Stand p l e R s m args below meth c T locs cells slots) (hx : p.tables.exec = Jvm.exec) (hby : c.code = bytes) {k : Nat} {v : Int64} (hd : decode bytes pc = .ok (.lstore k, 2)) (hp : pc + 2 = pc') (hl : storeLocals ls k (.long v) = some l') (r : Go p e below P (T.setTop (mkF m pc' l' st))) : Go p e below P (T.setTop (mkF m pc ls (.long v :: st))) := by
  subst hp; exact own_go (fun t q => XT.lstore X.here hx rfl (hb hby hd) rfl hl q) r
theorem own_astore_n (pc' : Nat) (l' : Array Slot) (X : Stand p l e R s m args below meth c T locs cells slots) (hx : p.tables.exec = Jvm.exec) (hby : c.code = bytes) {k : Fin 4} {v : Value} (hd : decode bytes pc = .ok (.astore_n k, 1)) (hp : pc + 1 = pc') (hv : v.isRef = true) (hl : storeLocals ls k.val v = some l') (r : Go p e below P (T.setTop (mkF m pc' l' st))) : Go p e below P (T.setTop (mkF m pc ls (v :: st))) := by
  subst hp; exact own_go (fun t q => XS.astoreN X.here hx rfl (hb hby hd) rfl hv hl q) r
theorem own_astore (pc' : Nat) (l' : Array Slot) (X : Stand p l e R s m args below meth c T locs cells slots) (hx : p.tables.exec = Jvm.exec) (hby : c.code = bytes) {k : Nat} {v : Value} (hd : decode bytes pc = .ok (.astore k, 2)) (hp : pc + 2 = pc') (hv : v.isRef = true) (hl : storeLocals ls k v = some l') (r : Go p e below P (T.setTop (mkF m pc' l' st))) : Go p e below P (T.setTop (mkF m pc ls (v :: st))) := by
  subst hp; exact own_go (fun t q => XS.astore X.here hx rfl (hb hby hd) rfl hv hl q) r
theorem own_iconst (pc' : Nat) (w : Int32) (X : Stand p l e R s m args below meth c T locs cells slots) (hx : p.tables.exec = Jvm.exec) (hby : c.code = bytes) {i : Int} (hd : decode bytes pc = .ok (.iconst i, 1)) (hp : pc + 1 = pc') (hw : Int32.ofInt i = w) (r : Go p e below P (T.setTop (mkF m pc' ls (.int w :: st)))) : Go p e below P (T.setTop (mkF m pc ls st)) := by
  subst hp hw; exact own_go (fun t q => XS.iconst X.here hx rfl (hb hby hd) q) r
theorem own_bipush (pc' : Nat) (w : Int32) (X : Stand p l e R s m args below meth c T locs cells slots) (hx : p.tables.exec = Jvm.exec) (hby : c.code = bytes) {i : Int} (hd : decode bytes pc = .ok (.bipush i, 2)) (hp : pc + 2 = pc') (hw : (Int8.ofInt i).toInt32 = w) (r : Go p e below P (T.setTop (mkF m pc' ls (.int w :: st)))) : Go p e below P (T.setTop (mkF m pc ls st)) := by
  subst hp hw; exact own_go (fun t q => XS.bipush X.here hx rfl (hb hby hd) q) r
theorem own_sipush (pc' : Nat) (w : Int32) (X : Stand p l e R s m args below meth c T locs cells slots) (hx : p.tables.exec = Jvm.exec) (hby : c.code = bytes) {i : Int} (hd : decode bytes pc = .ok (.sipush i, 3)) (hp : pc + 3 = pc') (hw : (Int16.ofInt i).toInt32 = w) (r : Go p e below P (T.setTop (mkF m pc' ls (.int w :: st)))) : Go p e below P (T.setTop (mkF m pc ls st)) := by
  subst hp hw; exact own_go (fun t q => XS.sipush X.here hx rfl (hb hby hd) q) r
theorem own_lconst (pc' : Nat) (w : Int64) (X : Stand p l e R s m args below meth c T locs cells slots) (hx : p.tables.exec = Jvm.exec) (hby : c.code = bytes) {k : Fin 2} (hd : decode bytes pc = .ok (.lconst k, 1)) (hp : pc + 1 = pc') (hw : Int64.ofNat k = w) (r : Go p e below P (T.setTop (mkF m pc' ls (.long w :: st)))) : Go p e below P (T.setTop (mkF m pc ls st)) := by
  subst hp hw; exact own_go (fun t q => XT.lconst X.here hx rfl (hb hby hd) q) r
theorem own_null (pc' : Nat) (X : Stand p l e R s m args below meth c T locs cells slots) (hx : p.tables.exec = Jvm.exec) (hby : c.code = bytes) (hd : decode bytes pc = .ok (.aconst_null, 1)) (hp : pc + 1 = pc') (r : Go p e below P (T.setTop (mkF m pc' ls (.null :: st)))) : Go p e below P (T.setTop (mkF m pc ls st)) := by
  subst hp; exact own_go (fun t q => XS.aconstNull X.here hx rfl (hb hby hd) q) r
theorem own_ldc (pc' : Nat) (X : Stand p l e R s m args below meth c T locs cells slots) (hx : p.tables.exec = Jvm.exec) (hby : c.code = bytes) (hZ : Z.Warmed39 s.vm) {own : String} {index : Nat} {v : Int32} (hown : s.vm.findClass own = some m.cls) (w : (Cond.constant own index v).before a0 Z = true) (hd : decode bytes pc = .ok (.ldc index, 2)) (hp : pc + 2 = pc') (r : Go p e below P (T.setTop (mkF m pc' ls (.int v :: st)))) : Go p e below P (T.setTop (mkF m pc ls st)) := by
  subst hp; exact own_go (fun t q => X.ldcI hx hown (mvT hZ w) rfl (hb hby hd) q) r
theorem own_ldc2 (pc' : Nat) (X : Stand p l e R s m args below meth c T locs cells slots) (hx : p.tables.exec = Jvm.exec) (hby : c.code = bytes) (hZ : Z.Warmed39 s.vm) {own : String} {index : Nat} {v : Int64} (hown : s.vm.findClass own = some m.cls) (w : (Cond.constantLong own index v).before a0 Z = true) (hd : decode bytes pc = .ok (.ldc2_w index, 3)) (hp : pc + 3 = pc') (r : Go p e below P (T.setTop (mkF m pc' ls (.long v :: st)))) : Go p e below P (T.setTop (mkF m pc ls st)) := by
  subst hp; exact own_go (fun t q => X.ldc2J hx hown (mvT hZ w) rfl (hb hby hd) q) r
/-! arithmetic -/
theorem own_iadd (pc' : Nat) (w : Int32) (X : Stand p l e R s m args below meth c T locs cells slots) (hx : p.tables.exec = Jvm.exec) (hby : c.code = bytes) {x y : Int32} (hd : decode bytes pc = .ok (.iadd, 1)) (hp : pc + 1 = pc') (hw : x + y = w) (r : Go p e below P (T.setTop (mkF m pc' ls (.int w :: st)))) : Go p e below P (T.setTop (mkF m pc ls (.int y :: .int x :: st))) := by
  subst hp hw; exact own_go (fun t q => XS.iadd X.here hx rfl (hb hby hd) rfl q) r
theorem own_isub (pc' : Nat) (w : Int32) (X : Stand p l e R s m args below meth c T locs cells slots) (hx : p.tables.exec = Jvm.exec) (hby : c.code = bytes) {x y : Int32} (hd : decode bytes pc = .ok (.isub, 1)) (hp : pc + 1 = pc') (hw : x - y = w) (r : Go p e below P (T.setTop (mkF m pc' ls (.int w :: st)))) : Go p e below P (T.setTop (mkF m pc ls (.int y :: .int x :: st))) := by
  subst hp hw; exact own_go (fun t q => XS.isub X.here hx rfl (hb hby hd) rfl q) r
theorem own_imul (pc' : Nat) (w : Int32) (X : Stand p l e R s m args below meth c T locs cells slots) (hx : p.tables.exec = Jvm.exec) (hby : c.code = bytes) {x y : Int32} (hd : decode bytes pc = .ok (.imul, 1)) (hp : pc + 1 = pc') (hw : x * y = w) (r : Go p e below P (T.setTop (mkF m pc' ls (.int w :: st)))) : Go p e below P (T.setTop (mkF m pc ls (.int y :: .int x :: st))) := by
  subst hp hw; exact own_go (fun t q => XS.imul X.here hx rfl (hb hby hd) rfl q) r
theorem own_idiv (pc' : Nat) (w : Int32) (X : Stand p l e R s m args below meth c T locs cells slots) (hx : p.tables.exec = Jvm.exec) (hby : c.code = bytes) {x y : Int32} (hd : decode bytes pc = .ok (.idiv, 1)) (hp : pc + 1 = pc') (hy : y ≠ 0) (hw : x / y = w) (r : Go p e below P (T.setTop (mkF m pc' ls (.int w :: st)))) : Go p e below P (T.setTop (mkF m pc ls (.int y :: .int x :: st))) := by
  subst hp hw; exact own_go (fun t q => XS.idiv X.here hx rfl (hb hby hd) rfl hy q) r
theorem own_irem (pc' : Nat) (w : Int32) (X : Stand p l e R s m args below meth c T locs cells slots) (hx : p.tables.exec = Jvm.exec) (hby : c.code = bytes) {x y : Int32} (hd : decode bytes pc = .ok (.irem, 1)) (hp : pc + 1 = pc') (hy : y ≠ 0) (hw : x % y = w) (r : Go p e below P (T.setTop (mkF m pc' ls (.int w :: st)))) : Go p e below P (T.setTop (mkF m pc ls (.int y :: .int x :: st))) := by
  subst hp hw; exact own_go (fun t q => iremM X hx rfl (hb hby hd) rfl hy q) r
theorem own_iand (pc' : Nat) (w : Int32) (X : Stand p l e R s m args below meth c T locs cells slots) (hx : p.tables.exec = Jvm.exec) (hby : c.code = bytes) {x y : Int32} (hd : decode bytes pc = .ok (.iand, 1)) (hp : pc + 1 = pc') (hw : x &&& y = w) (r : Go p e below P (T.setTop (mkF m pc' ls (.int w :: st)))) : Go p e below P (T.setTop (mkF m pc ls (.int y :: .int x :: st))) := by
  subst hp hw; exact own_go (fun t q => XS.iand X.here hx rfl (hb hby hd) rfl q) r
theorem own_ishr (pc' : Nat) (w : Int32) (X : Stand p l e R s m args below meth c T locs cells slots) (hx : p.tables.exec = Jvm.exec) (hby : c.code = bytes) {x y : Int32} (hd : decode bytes pc = .ok (.ishr, 1)) (hp : pc + 1 = pc') (hw : x >>> (y &&& 31) = w) (r : Go p e below P (T.setTop (mkF m pc' ls (.int w :: st)))) : Go p e below P (T.setTop (mkF m pc ls (.int y :: .int x :: st))) := by
  subst hp hw; exact own_go (fun t q => XT.ishr X.here hx rfl (hb hby hd) rfl q) r
theorem own_iushr (pc' : Nat) (w : Int32) (X : Stand p l e R s m args below meth c T locs cells slots) (hx : p.tables.exec = Jvm.exec) (hby : c.code = bytes) {x y : Int32} (hd : decode bytes pc = .ok (.iushr, 1)) (hp : pc + 1 = pc') (hw : XT.ushr x y = w) (r : Go p e below P (T.setTop (mkF m pc' ls (.int w :: st)))) : Go p e below P (T.setTop (mkF m pc ls (.int y :: .int x :: st))) := by
  subst hp hw; exact own_go (fun t q => XT.iushr X.here hx rfl (hb hby hd) rfl q) r
theorem own_ladd (pc' : Nat) (w : Int64) (X : Stand p l e R s m args below meth c T locs cells slots) (hx : p.tables.exec = Jvm.exec) (hby : c.code = bytes) {x y : Int64} (hd : decode bytes pc = .ok (.ladd, 1)) (hp : pc + 1 = pc') (hw : x + y = w) (r : Go p e below P (T.setTop (mkF m pc' ls (.long w :: st)))) : Go p e below P (T.setTop (mkF m pc ls (.long y :: .long x :: st))) := by
  subst hp hw; exact own_go (fun t q => XT.ladd X.here hx rfl (hb hby hd) rfl q) r
theorem own_lsub (pc' : Nat) (w : Int64) (X : Stand p l e R s m args below meth c T locs cells slots) (hx : p.tables.exec = Jvm.exec) (hby : c.code = bytes) {x y : Int64} (hd : decode bytes pc = .ok (.lsub, 1)) (hp : pc + 1 = pc') (hw : x - y = w) (r : Go p e below P (T.setTop (mkF m pc' ls (.long w :: st)))) : Go p e below P (T.setTop (mkF m pc ls (.long y :: .long x :: st))) := by
  subst hp hw; exact own_go (fun t q => XT.lsub X.here hx rfl (hb hby hd) rfl q) r
theorem own_lmul (pc' : Nat) (w : Int64) (X : Stand p l e R s m args below meth c T locs cells slots) (hx : p.tables.exec = Jvm.exec) (hby : c.code = bytes) {x y : Int64} (hd : decode bytes pc = .ok (.lmul, 1)) (hp : pc + 1 = pc') (hw : x * y = w) (r : Go p e below P (T.setTop (mkF m pc' ls (.long w :: st)))) : Go p e below P (T.setTop (mkF m pc ls (.long y :: .long x :: st))) := by
  subst hp hw; exact own_go (fun t q => XT.lmul X.here hx rfl (hb hby hd) rfl q) r
theorem own_ldiv (pc' : Nat) (w : Int64) (X : Stand p l e R s m args below meth c T locs cells slots) (hx : p.tables.exec = Jvm.exec) (hby : c.code = bytes) {x y : Int64} (hd : decode bytes pc = .ok (.ldiv, 1)) (hp : pc + 1 = pc') (hy : y ≠ 0) (hw : x / y = w) (r : Go p e below P (T.setTop (mkF m pc' ls (.long w :: st)))) : Go p e below P (T.setTop (mkF m pc ls (.long y :: .long x :: st))) := by
  subst hp hw; exact own_go (fun t q => XT.ldiv X.here hx rfl (hb hby hd) rfl hy q) r
theorem own_lrem (pc' : Nat) (w : Int64) (X : Stand p l e R s m args below meth c T locs cells slots) (hx : p.tables.exec = Jvm.exec) (hby : c.code = bytes) {x y : Int64} (hd : decode bytes pc = .ok (.lrem, 1)) (hp : pc + 1 = pc') (hy : y ≠ 0) (hw : x - (x / y) * y = w) (r : Go p e below P (T.setTop (mkF m pc' ls (.long w :: st)))) : Go p e below P (T.setTop (mkF m pc ls (.long y :: .long x :: st))) := by
  subst hp hw; exact own_go (fun t q => XT.lrem X.here hx rfl (hb hby hd) rfl hy q) r
theorem own_land (pc' : Nat) (w : Int64) (X : Stand p l e R s m args below meth c T locs cells slots) (hx : p.tables.exec = Jvm.exec) (hby : c.code = bytes) {x y : Int64} (hd : decode bytes pc = .ok (.land, 1)) (hp : pc + 1 = pc') (hw : x &&& y = w) (r : Go p e below P (T.setTop (mkF m pc' ls (.long w :: st)))) : Go p e below P (T.setTop (mkF m pc ls (.long y :: .long x :: st))) := by
  subst hp hw; exact own_go (fun t q => XT.land X.here hx rfl (hb hby hd) rfl q) r
theorem own_lushr (pc' : Nat) (w : Int64) (X : Stand p l e R s m args below meth c T locs cells slots) (hx : p.tables.exec = Jvm.exec) (hby : c.code = bytes) {x : Int64} {y : Int32} (hd : decode bytes pc = .ok (.lushr, 1)) (hp : pc + 1 = pc') (hw : XT.ushrL x y = w) (r : Go p e below P (T.setTop (mkF m pc' ls (.long w :: st)))) : Go p e below P (T.setTop (mkF m pc ls (.int y :: .long x :: st))) := by
  subst hp hw; exact own_go (fun t q => XT.lushr X.here hx rfl (hb hby hd) rfl q) r
theorem own_i2l (pc' : Nat) (w : Int64) (X : Stand p l e R s m args below meth c T locs cells slots) (hx : p.tables.exec = Jvm.exec) (hby : c.code = bytes) {x : Int32} (hd : decode bytes pc = .ok (.i2l, 1)) (hp : pc + 1 = pc') (hw : x.toInt64 = w) (r : Go p e below P (T.setTop (mkF m pc' ls (.long w :: st)))) : Go p e below P (T.setTop (mkF m pc ls (.int x :: st))) := by
  subst hp hw; exact own_go (fun t q => XT.i2l X.here hx rfl (hb hby hd) rfl q) r
theorem own_l2i (pc' : Nat) (w : Int32) (X : Stand p l e R s m args below meth c T locs cells slots) (hx : p.tables.exec = Jvm.exec) (hby : c.code = bytes) {x : Int64} (hd : decode bytes pc = .ok (.l2i, 1)) (hp : pc + 1 = pc') (hw : x.toInt32 = w) (r : Go p e below P (T.setTop (mkF m pc' ls (.int w :: st)))) : Go p e below P (T.setTop (mkF m pc ls (.long x :: st))) := by
  subst hp hw; exact own_go (fun t q => XT.l2i X.here hx rfl (hb hby hd) rfl q) r
theorem own_lcmp (pc' : Nat) (w : Int32) (X : Stand p l e R s m args below meth c T locs cells slots) (hx : p.tables.exec = Jvm.exec) (hby : c.code = bytes) {x y : Int64} (hd : decode bytes pc = .ok (.lcmp, 1)) (hp : pc + 1 = pc') (hw : XT.cmpL x y = w) (r : Go p e below P (T.setTop (mkF m pc' ls (.int w :: st)))) : Go p e below P (T.setTop (mkF m pc ls (.long y :: .long x :: st))) := by
  subst hp hw; exact own_go (fun t q => XT.lcmp X.here hx rfl (hb hby hd) rfl q) r
theorem own_iinc (pc' : Nat) (l' : Array Slot) (X : Stand p l e R s m args below meth c T locs cells slots) (hx : p.tables.exec = Jvm.exec) (hby : c.code = bytes) {k : Nat} {i : Int} {x : Int32} (hd : decode bytes pc = .ok (.iinc k i, 3)) (hp : pc + 3 = pc') (hl : ls[k]? = some (.val (.int x))) (hl' : storeLocals ls k (.int (x + Int32.ofInt i)) = some l') (r : Go p e below P (T.setTop (mkF m pc' l' st))) : Go p e below P (T.setTop (mkF m pc ls st)) := by
  subst hp; exact own_go (fun t q => XS.iinc X.here hx rfl (hb hby hd) hl hl' q) r
theorem own_dup (pc' : Nat) (X : Stand p l e R s m args below meth c T locs cells slots) (hx : p.tables.exec = Jvm.exec) (hby : c.code = bytes) {v : Value} (hd : decode bytes pc = .ok (.dup, 1)) (hp : pc + 1 = pc') (hc : v.category = 1) (r : Go p e below P (T.setTop (mkF m pc' ls (v :: v :: st)))) : Go p e below P (T.setTop (mkF m pc ls (v :: st))) := by
  subst hp; exact own_go (fun t q => XS.dup X.here hx rfl (hb hby hd) rfl hc q) r
theorem own_pop (pc' : Nat) (X : Stand p l e R s m args below meth c T locs cells slots) (hx : p.tables.exec = Jvm.exec) (hby : c.code = bytes) {v : Value} (hd : decode bytes pc = .ok (.pop, 1)) (hp : pc + 1 = pc') (hc : v.category = 1) (r : Go p e below P (T.setTop (mkF m pc' ls st))) : Go p e below P (T.setTop (mkF m pc ls (v :: st))) := by
  subst hp; exact own_go (fun t q => XT.pop X.here hx rfl (hb hby hd) rfl hc q) r
/-! branches -/
theorem own_goto (pc' : Nat) (X : Stand p l e R s m args below meth c T locs cells slots) (hx : p.tables.exec = Jvm.exec) (hby : c.code = bytes) {o : Int} (hd : decode bytes pc = .ok (.goto o, 3)) (ho : 0 ≤ (pc : Int) + o) (hp : ((pc : Int) + o).toNat = pc') (r : Go p e below P (T.setTop (mkF m pc' ls st))) : Go p e below P (T.setTop (mkF m pc ls st)) :=
  own_go (fun t q => XS.goto X.here hx rfl rfl (hb hby hd) ho hp q) r
theorem own_ifY (pc' : Nat) (X : Stand p l e R s m args below meth c T locs cells slots) (hx : p.tables.exec = Jvm.exec) (hby : c.code = bytes) {cd : ClassFile.Cond} {x : Int32} {o : Int} (hd : decode bytes pc = .ok (.ifCond cd o, 3)) (ho : 0 ≤ (pc : Int) + o) (hp : ((pc : Int) + o).toNat = pc') (hc : ifCond.holds cd x = true) (r : Go p e below P (T.setTop (mkF m pc' ls st))) : Go p e below P (T.setTop (mkF m pc ls (.int x :: st))) :=
  own_go (fun t q => XS.ifYes X.here hx rfl rfl (hb hby hd) rfl hc ho hp q) r
theorem own_ifN (pc' : Nat) (X : Stand p l e R s m args below meth c T locs cells slots) (hx : p.tables.exec = Jvm.exec) (hby : c.code = bytes) {cd : ClassFile.Cond} {x : Int32} {o : Int} (hd : decode bytes pc = .ok (.ifCond cd o, 3)) (hp : pc + 3 = pc') (hc : ifCond.holds cd x = false) (r : Go p e below P (T.setTop (mkF m pc' ls st))) : Go p e below P (T.setTop (mkF m pc ls (.int x :: st))) := by
  subst hp; exact own_go (fun t q => XS.ifNo X.here hx rfl (hb hby hd) rfl hc q) r
theorem own_icY (pc' : Nat) (X : Stand p l e R s m args below meth c T locs cells slots) (hx : p.tables.exec = Jvm.exec) (hby : c.code = bytes) {cd : ClassFile.Cond} {x y : Int32} {o : Int} (hd : decode bytes pc = .ok (.if_icmp cd o, 3)) (ho : 0 ≤ (pc : Int) + o) (hp : ((pc : Int) + o).toNat = pc') (hc : if_icmp.holds cd x y = true) (r : Go p e below P (T.setTop (mkF m pc' ls st))) : Go p e below P (T.setTop (mkF m pc ls (.int y :: .int x :: st))) :=
  own_go (fun t q => XS.icmpYes X.here hx rfl rfl (hb hby hd) rfl hc ho hp q) r
theorem own_icN (pc' : Nat) (X : Stand p l e R s m args below meth c T locs cells slots) (hx : p.tables.exec = Jvm.exec) (hby : c.code = bytes) {cd : ClassFile.Cond} {x y : Int32} {o : Int} (hd : decode bytes pc = .ok (.if_icmp cd o, 3)) (hp : pc + 3 = pc') (hc : if_icmp.holds cd x y = false) (r : Go p e below P (T.setTop (mkF m pc' ls st))) : Go p e below P (T.setTop (mkF m pc ls (.int y :: .int x :: st))) := by
  subst hp; exact own_go (fun t q => XS.icmpNo X.here hx rfl (hb hby hd) rfl hc q) r
theorem own_acmp (pc' : Nat) (same : Bool) (X : Stand p l e R s m args below meth c T locs cells slots) (hx : p.tables.exec = Jvm.exec) (hby : c.code = bytes) {cd : ACond} {x y : Value} {o : Int} (hd : decode bytes pc = .ok (.if_acmp cd o, 3)) (h1 : x.isRef = true) (h2 : y.isRef = true) (ho : 0 ≤ (pc : Int) + o) (hp : pc' = if acV cd same = true then ((pc : Int) + o).toNat else pc + 3) (hq : decide (x = y) = same) (r : Go p e below P (T.setTop (mkF m pc' ls st))) : Go p e below P (T.setTop (mkF m pc ls (y :: x :: st))) :=
  own_go (fun t q => Jvm.RoadKit.acmp X hx rfl h1 h2 rfl (hb hby hd) rfl hq ho hp q) r
theorem own_nullY (pc' : Nat) (X : Stand p l e R s m args below meth c T locs cells slots) (hx : p.tables.exec = Jvm.exec) (hby : c.code = bytes) {o : Int} (hd : decode bytes pc = .ok (.ifnull o, 3)) (ho : 0 ≤ (pc : Int) + o) (hp : ((pc : Int) + o).toNat = pc') (r : Go p e below P (T.setTop (mkF m pc' ls st))) : Go p e below P (T.setTop (mkF m pc ls (.null :: st))) :=
  own_go (fun t q => XS.ifnullYes X.here hx rfl rfl (hb hby hd) rfl ho hp q) r
theorem own_nullN (pc' : Nat) (X : Stand p l e R s m args below meth c T locs cells slots) (hx : p.tables.exec = Jvm.exec) (hby : c.code = bytes) {o : Int} {b : Addr} (hd : decode bytes pc = .ok (.ifnull o, 3)) (hp : pc + 3 = pc') (r : Go p e below P (T.setTop (mkF m pc' ls st))) : Go p e below P (T.setTop (mkF m pc ls (.ref b :: st))) := by
  subst hp; exact own_go (fun t q => XS.ifnullNo X.here hx rfl (hb hby hd) rfl q) r
theorem own_nnY (pc' : Nat) (X : Stand p l e R s m args below meth c T locs cells slots) (hx : p.tables.exec = Jvm.exec) (hby : c.code = bytes) {o : Int} {b : Addr} (hd : decode bytes pc = .ok (.ifnonnull o, 3)) (ho : 0 ≤ (pc : Int) + o) (hp : ((pc : Int) + o).toNat = pc') (r : Go p e below P (T.setTop (mkF m pc' ls st))) : Go p e below P (T.setTop (mkF m pc ls (.ref b :: st))) :=
  own_go (fun t q => XT.ifnonnullYes X.here hx rfl rfl (hb hby hd) rfl ho hp q) r
theorem own_nnN (pc' : Nat) (X : Stand p l e R s m args below meth c T locs cells slots) (hx : p.tables.exec = Jvm.exec) (hby : c.code = bytes) {o : Int} (hd : decode bytes pc = .ok (.ifnonnull o, 3)) (hp : pc + 3 = pc') (r : Go p e below P (T.setTop (mkF m pc' ls st))) : Go p e below P (T.setTop (mkF m pc ls (.null :: st))) := by
  subst hp; exact own_go (fun t q => XT.ifnonnullNo X.here hx rfl (hb hby hd) rfl q) r
/-! what lcmp and a branch behind it say -/
theorem own_tltL {x y : Int64} (h : x < y) : ifCond.holds .lt (XT.cmpL x y) = true ∧ ifCond.holds .ge (XT.cmpL x y) = false ∧ ifCond.holds .gt (XT.cmpL y x) = true ∧ ifCond.holds .le (XT.cmpL y x) = false := by
  have h1 : ¬ y < x := fun q => absurd h (Int64.lt_asymm q)
  have h2 : ¬ x = y := fun q => absurd (q ▸ h) Int64.lt_irrefl
  have h3 : ¬ y = x := fun q => h2 q.symm
  simp only [XT.cmpL, h, h1, h2, h3, if_true, if_false]
  decide
theorem own_fltL {x y : Int64} (h : ¬ x < y) : ifCond.holds .lt (XT.cmpL x y) = false ∧ ifCond.holds .ge (XT.cmpL x y) = true ∧ ifCond.holds .gt (XT.cmpL y x) = false ∧ ifCond.holds .le (XT.cmpL y x) = true := by
  by_cases q : x = y
  · subst q
    simp only [XT.cmpL, h, if_true, if_false]
    decide
  · have h1 : y < x := by
      rw [Int64.lt_iff_toInt_lt] at h ⊢
      have : x.toInt ≠ y.toInt := fun z => q (Int64.toInt_inj.mp z)
      omega
    have h3 : ¬ y = x := fun z => q z.symm
    simp only [XT.cmpL, h, h1, q, h3, if_true, if_false]
    decide
theorem own_teqL {x y : Int64} (h : x = y) : ifCond.holds .eq (XT.cmpL x y) = true ∧ ifCond.holds .ne (XT.cmpL x y) = false := by
  subst h
  simp only [XT.cmpL, Int64.lt_irrefl, if_true, if_false]
  decide
theorem own_feqL {x y : Int64} (h : ¬ x = y) : ifCond.holds .eq (XT.cmpL x y) = false ∧ ifCond.holds .ne (XT.cmpL x y) = true := by
  by_cases q : y < x
  · simp only [XT.cmpL, q, if_true]
    decide
  · simp only [XT.cmpL, q, h, if_false]
    decide
/-! fields, statics -/
theorem own_getS (pc' : Nat) (X : Stand p l e R s m args below meth c T locs cells slots) (hx : p.tables.exec = Jvm.exec) (hby : c.code = bytes) (hZ : Z.Warmed39 s.vm) {own O n d : String} {index : Nat} (hown : s.vm.findClass own = some m.cls) (w : (Cond.fieldLink own index O n d).before a0 Z = true) (eT : T.heap = h) {v : Value} (F : Sta Z h O n d v) (hd : decode bytes pc = .ok (.getstatic index, 3)) (hp : pc + 3 = pc')
    (r : ∀ T', Stand p l e R s m args below meth c T' locs cells slots → T'.heap = h → Go p e below P (T'.setTop (mkF m pc' ls (v :: st)))) : Go p e below P (T.setTop (mkF m pc ls st)) := by
  subst hp
  obtain ⟨T', X', e', q⟩ := getS2 X hx hZ hown (host := "") (Or.inl w) Via.refl eT F (g := mkF m pc ls st) rfl (hb hby hd)
  exact own_go q (r T' X' e')
theorem own_getSN (pc' : Nat) (X : Stand p l e R s m args below meth c T locs cells slots) (hx : p.tables.exec = Jvm.exec) (hby : c.code = bytes) (hZ : Z.Warmed39 s.vm) {own O n d host : String} {index : Nat} (hown : s.vm.findClass own = some m.cls) (w : (Cond.fieldLinkNest own index O n d host).before a0 Z = true) (eT : T.heap = h) {v : Value} (F : Sta Z h O n d v) (hd : decode bytes pc = .ok (.getstatic index, 3)) (hp : pc + 3 = pc')
    (r : ∀ T', Stand p l e R s m args below meth c T' locs cells slots → T'.heap = h → Go p e below P (T'.setTop (mkF m pc' ls (v :: st)))) : Go p e below P (T.setTop (mkF m pc ls st)) := by
  subst hp
  obtain ⟨T', X', e', q⟩ := getS2 X hx hZ hown (Or.inr w) Via.refl eT F (g := mkF m pc ls st) rfl (hb hby hd)
  exact own_go q (r T' X' e')
theorem own_getF (pc' : Nat) (X : Stand p l e R s m args below meth c T locs cells slots) (hx : p.tables.exec = Jvm.exec) (hby : c.code = bytes) (hZ : Z.Warmed39 s.vm) {own O n d : String} {index : Nat} (hown : s.vm.findClass own = some m.cls) (w : (Cond.fieldLink own index O n d).before a0 Z = true) (eT : T.heap = h) {a : Addr} {v : Value} (F : Fld Z h a O n d v) (hd : decode bytes pc = .ok (.getfield index, 3)) (hp : pc + 3 = pc')
    (r : ∀ T', Stand p l e R s m args below meth c T' locs cells slots → T'.heap = h → Go p e below P (T'.setTop (mkF m pc' ls (v :: st)))) : Go p e below P (T.setTop (mkF m pc ls (.ref a :: st))) := by
  subst hp
  obtain ⟨T', X', e', q⟩ := getF X hx hZ hown (host := "") (Or.inl w) Via.refl eT F (g := mkF m pc ls (.ref a :: st)) rfl rfl (hb hby hd)
  exact own_go q (r T' X' e')
/-! arrays -/
theorem own_n0 {n0 : Nat} (O : Old Z n0 h) : n0 ≤ h.size := O.1 ▸ O.2.1
theorem own_newR (pc' : Nat) (N : Nat) (X : Stand p l e R s m args below meth c T locs cells slots) (hx : p.tables.exec = Jvm.exec) (hby : c.code = bytes) (hZ : Z.Warmed39 s.vm) {own C : String} {index : Nat} (hown : s.vm.findClass own = some m.cls) (w1 : (Cond.classLink own index C).before a0 Z = true) (w2 : (Cond.arrayOver (.object C)).before a0 Z = true) (eT : T.heap = h)
    (hd : decode bytes pc = .ok (.anewarray index, 3)) (hp : pc + 3 = pc') {n : Int32} (hn : ¬ n < 0) (hcap : n.toNatClampNeg ≤ N) (hbig : N * 8 ≤ 536870912) (hc : cells + 1 ≤ R.cells) (hl : slots + N ≤ R.slots)
    (r : ∀ T' h' cA b, Stand p l e R s m args below meth c T' locs (cells + 1) (slots + N) → T'.heap = h' → Ext h h' → b = h.size → Arv Z h' b cA (.object C) n (List.replicate N .null) .null → Ovr Z cA C → Go p e below P (T'.setTop (mkF m pc' ls (.ref b :: st)))) : Go p e below P (T.setTop (mkF m pc ls (.int n :: st))) := by
  subst hp
  obtain ⟨T', h', cA, X', e', E', A', O', q⟩ := newR X hx hZ hown w1 w2 eT (g := mkF m pc ls (.int n :: st)) rfl (hb hby hd) rfl hn hcap hbig hc hl
  exact own_go q (r T' h' cA h.size X' e' E' rfl ((Arv.new A' hn).pad (pad_rep [] .null N)) O')
theorem own_newP (pc' : Nat) (N : Nat) {aty : ArrayType} (X : Stand p l e R s m args below meth c T locs cells slots) (hx : p.tables.exec = Jvm.exec) (hby : c.code = bytes) (hZ : Z.Warmed39 s.vm) (w : (Cond.arrayClass (newarray.typeOf aty)).before a0 Z = true) (eT : T.heap = h)
    (hd : decode bytes pc = .ok (.newarray aty, 2)) (hp : pc + 2 = pc') {n : Int32} (hn : ¬ n < 0) (hcap : n.toNatClampNeg ≤ N) (hbig : N * 8 ≤ 536870912) (hc : cells + 1 ≤ R.cells) (hl : slots + N ≤ R.slots)
    (r : ∀ T' h' cA b, Stand p l e R s m args below meth c T' locs (cells + 1) (slots + N) → T'.heap = h' → Ext h h' → b = h.size → Arv Z h' b cA (newarray.typeOf aty) n (List.replicate N (defaultValue (newarray.typeOf aty))) (defaultValue (newarray.typeOf aty)) → Go p e below P (T'.setTop (mkF m pc' ls (.ref b :: st)))) : Go p e below P (T.setTop (mkF m pc ls (.int n :: st))) := by
  subst hp
  obtain ⟨T', h', cA, X', e', E', A', q⟩ := newP X hx hZ w eT (g := mkF m pc ls (.int n :: st)) rfl (hb hby hd) rfl hn hcap hbig hc hl
  exact own_go q (r T' h' cA h.size X' e' E' rfl ((Arv.new A' hn).pad (pad_rep [] _ N)))
theorem own_stR (pc' : Nat) (i : Nat) (X : Stand p l e R s m args below meth c T locs cells slots) (hx : p.tables.exec = Jvm.exec) (hby : c.code = bytes) (hZ : Z.Warmed39 s.vm) (eT : T.heap = h) {a y : Addr} {cA : ClassId} {C : String} {n j : Int32} {vs : List Value} (V : Arv Z h a cA (.object C) n vs .null) (O : Ovr Z cA C) (I : Ins Z h y C true)
    (hd : decode bytes pc = .ok (.aastore, 1)) (hp : pc + 1 = pc') (hj : ¬ j < 0 ∧ j < n) (hi : j.toNatClampNeg = i) (hv : i < vs.length)
    (r : ∀ T' h', Stand p l e R s m args below meth c T' (locs ++ [⟨a, j.toNatClampNeg⟩]) cells slots → T'.heap = h' → Wr h h' a j.toNatClampNeg (.ref y) → Arv Z h' a cA (.object C) n (vs.set i (.ref y)) .null → Go p e below P (T'.setTop (mkF m pc' ls st))) : Go p e below P (T.setTop (mkF m pc ls (.ref y :: .int j :: .ref a :: st))) := by
  subst hp
  obtain ⟨cl, A, q1, S, q3, H, G⟩ := V
  obtain ⟨T', h', X', e', W', q⟩ := stR X hx hZ eT A (j := j) (inb_of S hj) rfl (Sto.ofV A q1 O I) (g := mkF m pc ls (.ref y :: .int j :: .ref a :: st)) rfl rfl (hb hby hd)
  exact own_go q (r T' h' X' e' W' (Arv.set A q1 S q3 H G rfl W' i hi hv))
theorem own_stZ (pc' : Nat) (i : Nat) (X : Stand p l e R s m args below meth c T locs cells slots) (hx : p.tables.exec = Jvm.exec) (hby : c.code = bytes) (hZ : Z.Warmed39 s.vm) (eT : T.heap = h) {a : Addr} {cA : ClassId} {n j x : Int32} {vs : List Value} {dv : Value} (V : Arv Z h a cA .boolean n vs dv)
    (hd : decode bytes pc = .ok (.bastore, 1)) (hp : pc + 1 = pc') (hj : ¬ j < 0 ∧ j < n) (hi : j.toNatClampNeg = i) (hv : i < vs.length) (hx1 : nar .boolean x = x)
    (r : ∀ T' h', Stand p l e R s m args below meth c T' (locs ++ [⟨a, j.toNatClampNeg⟩]) cells slots → T'.heap = h' → Wr h h' a j.toNatClampNeg (.int x) → Arv Z h' a cA .boolean n (vs.set i (.int x)) dv → Go p e below P (T'.setTop (mkF m pc' ls st))) : Go p e below P (T.setTop (mkF m pc ls (.int x :: .int j :: .ref a :: st))) := by
  subst hp
  obtain ⟨cl, A, q1, S, q3, H, G⟩ := V
  obtain ⟨T', h', X', e', W', q⟩ := stZ X hx hZ eT A (j := j) (x := x) (inb_of S hj) (g := mkF m pc ls (.int x :: .int j :: .ref a :: st)) rfl rfl (hb hby hd)
  rw [hx1] at W'
  exact own_go q (r T' h' X' e' W' (Arv.set A q1 S q3 H G (hx1 ▸ fits_nar_bool x) W' i hi hv))
theorem own_aaload (pc' : Nat) (v : Value) (X : Stand p l e R s m args below meth c T locs cells slots) (hx : p.tables.exec = Jvm.exec) (hby : c.code = bytes) (hZ : Z.Warmed39 s.vm) (eT : T.heap = h) {a : Addr} {cA : ClassId} {ty : FieldType} {n j : Int32} {vs : List Value} {dv : Value} (V : Arv Z h a cA ty n vs dv) (hty : ty.isReference = true)
    (hd : decode bytes pc = .ok (.aaload, 1)) (hp : pc + 1 = pc') (hj : ¬ j < 0 ∧ j < n) (hv : vs.getD j.toNatClampNeg dv = v)
    (r : Go p e below P (T.setTop (mkF m pc' ls (v :: st)))) : Go p e below P (T.setTop (mkF m pc ls (.int j :: .ref a :: st))) := by
  subst hp
  obtain ⟨cl, A, q1, S, q3, H, G⟩ := V
  exact own_go (fun t q => X.aaload hx (j := j) (v := v) (by rw [eT]; exact A.1) (State.isArrayOf_alike hZ.alike A.2.1) hty A.2.2 (inb_of S hj) (H.at (inb_of S hj) hv) (g := mkF m pc ls (.int j :: .ref a :: st)) rfl rfl (hb hby hd) t q) r
theorem own_zaload (pc' : Nat) (v : Value) (X : Stand p l e R s m args below meth c T locs cells slots) (hx : p.tables.exec = Jvm.exec) (hby : c.code = bytes) (hZ : Z.Warmed39 s.vm) (eT : T.heap = h) {a : Addr} {cA : ClassId} {n j : Int32} {vs : List Value} {dv : Value} (V : Arv Z h a cA .boolean n vs dv)
    (hd : decode bytes pc = .ok (.baload, 1)) (hp : pc + 1 = pc') (hj : ¬ j < 0 ∧ j < n) (hv : vs.getD j.toNatClampNeg dv = v)
    (r : Go p e below P (T.setTop (mkF m pc' ls (v :: st)))) : Go p e below P (T.setTop (mkF m pc ls (.int j :: .ref a :: st))) := by
  subst hp
  obtain ⟨cl, A, q1, S, q3, H, G⟩ := V
  exact own_go (fun t q => X.baloadBooleans hx (j := j) (v := v) (by rw [eT]; exact A.1) (State.isArrayOf_alike hZ.alike A.2.1) A.2.2 (inb_of S hj) (H.at (inb_of S hj) hv) (g := mkF m pc ls (.int j :: .ref a :: st)) rfl rfl (hb hby hd) t q) r
theorem own_len (pc' : Nat) (X : Stand p l e R s m args below meth c T locs cells slots) (hx : p.tables.exec = Jvm.exec) (hby : c.code = bytes) (hZ : Z.Warmed39 s.vm) (eT : T.heap = h) {a : Addr} {cA : ClassId} {ty : FieldType} {n : Int32} {vs : List Value} {dv : Value} (V : Arv Z h a cA ty n vs dv)
    (hd : decode bytes pc = .ok (.arraylength, 1)) (hp : pc + 1 = pc')
    (r : Go p e below P (T.setTop (mkF m pc' ls (.int n :: st)))) : Go p e below P (T.setTop (mkF m pc ls (.ref a :: st))) := by
  subst hp
  obtain ⟨cl, A, q1, S, q3, H, G⟩ := V
  rw [← len_of S q3] at r
  exact own_go (fun t q => X.arraylength hx (by rw [eT]; exact A.1) (State.isArrayOf_alike hZ.alike A.2.1) (g := mkF m pc ls (.ref a :: st)) rfl rfl (hb hby hd) t q) r
/-! calls -/
theorem own_callS (pc' : Nat) {h : Heap} {as' : Array Value} {rm : Room} {Q : Option Value → Heap → List Loc → Prop} {y : MethodName} {code' : ByteArray} {maxL : Nat} {ret' : Option FieldType}
    (hM : MetFree l y (head1 [Cond.code y code' maxL ret'] rm) (fun a U => a = as' ∧ Z.Warmed39 U.vm ∧ U.heap = h) (fun _ _ _ _ _ => True) (fun _ U o U' => ∃ v L, o = .returned v ∧ Q v U'.heap L ∧ FrameEnd U o U' L rm.cells rm.slots))
    (X : Stand p l e R s m args below meth c T locs cells slots) (hx : p.tables.exec = Jvm.exec) (hby : c.code = bytes) (hZ : Z.Warmed39 s.vm) {own : String} {index W : Nat} (hown : s.vm.findClass own = some m.cls)
    (w1 : (Cond.methodLink own index y).before a0 Z = true) (w2 : (Cond.static y).before a0 Z = true) (w3 : (Cond.initialized y.cls).before a0 Z = true) (w4 : (Cond.code y code' maxL ret').before a0 Z = true)
    (hy : y.cls ≠ "java/lang/invoke/MethodHandle" ∧ y.cls ≠ "java/lang/invoke/VarHandle") (hsz : ls.size = c.maxLocals) (argsL rest : List Value) {ps : List FieldType} {rt : Option FieldType} (hps : parseMethodDescriptor y.desc = some ⟨ps, rt⟩) (hlen : argsL.length = ps.length)
    (hd : decode bytes pc = .ok (.invokestatic index, 3)) (hp : pc + 3 = pc') (eT : T.heap = h) (hst : st = argsL.reverse ++ rest) (has : argsL.toArray = as') (hW : (rest.map fun v => v.category).sum = W)
    (hf : rm.frames + 1 ≤ R.frames) (hl : W + (maxL + 11) + rm.locals ≤ R.locals) (hc : cells + rm.cells ≤ R.cells) (hs : slots + rm.slots ≤ R.slots)
    (r : ∀ v T' L, Stand p l e R s m args below meth c T' (locs ++ L) (cells + rm.cells) (slots + rm.slots) → Q v T'.heap L → Go p e below P (T'.setTop (mkF m pc' ls (v.toList ++ rest)))) : Go p e below P (T.setTop (mkF m pc ls st)) := by
  subst hp
  obtain ⟨v, _, ⟨T', L', k', n'⟩, -, X', ⟨L, hQ, l1, l2, l3⟩, q⟩ := Jvm.LawKit.callS X hx hown (mvT hZ w1) (mvT hZ w2) (mvT hZ w3) (mvT hZ w4) hy (backOf (W := W) hM hZ w4 w3 hf hl) (g := mkF m pc ls st) rfl hsz (argsL := argsL) (rest := rest) (lenOf hps hlen) hst (by show 2 * 0 + _ ≤ _; omega) (hb hby hd) (fun _ _ => ⟨has, eT, hc, hs⟩)
  dsimp only [Pt.U, Pt.locs, Pt.cells, Pt.slots] at X' l1 l2 l3 q hQ
  subst l1 l2 l3
  exact own_go q (r v T' L X' hQ)
theorem own_virt (pc' : Nat) {h : Heap} {as' : Array Value} {rm : Room} {Q : Option Value → Heap → List Loc → Prop} {y z : MethodName} {code' : ByteArray} {maxL : Nat} {ret' : Option FieldType}
    (hM : MetFree l z (head1 [Cond.code z code' maxL ret'] rm) (fun a U => a = as' ∧ Z.Warmed39 U.vm ∧ U.heap = h) (fun _ _ _ _ _ => True) (fun _ U o U' => ∃ v L, o = .returned v ∧ Q v U'.heap L ∧ FrameEnd U o U' L rm.cells rm.slots))
    (X : Stand p l e R s m args below meth c T locs cells slots) (hx : p.tables.exec = Jvm.exec) (hby : c.code = bytes) (hZ : Z.Warmed39 s.vm) {own C : String} {index W : Nat} (hown : s.vm.findClass own = some m.cls)
    (w1 : (Cond.methodLink own index y).before a0 Z = true) (w2 : (Cond.declares y).before a0 Z = true) (nf : NotFace s y) (w3 : (Cond.selects C y z).before a0 Z = true) (w4 : (Cond.instanceMethod z).before a0 Z = true) (w5 : (Cond.initialized z.cls).before a0 Z = true) (w6 : (Cond.code z code' maxL ret').before a0 Z = true)
    (hy : y.cls ≠ "java/lang/invoke/MethodHandle" ∧ y.cls ≠ "java/lang/invoke/VarHandle") (hsz : ls.size = c.maxLocals) (b : Addr) (argsL rest : List Value) {ps : List FieldType} {rt : Option FieldType} (hps : parseMethodDescriptor y.desc = some ⟨ps, rt⟩) (hlen : argsL.length = ps.length)
    (hd : decode bytes pc = .ok (.invokevirtual index, 3)) (hp : pc + 3 = pc') (eT : T.heap = h) (E : Exa Z h b C) (hst : st = argsL.reverse ++ .ref b :: rest) (has : (.ref b :: argsL).toArray = as') (hW : (rest.map fun v => v.category).sum = W)
    (hf : rm.frames + 1 ≤ R.frames) (hl : W + (maxL + 11) + rm.locals ≤ R.locals) (hc : cells + rm.cells ≤ R.cells) (hs : slots + rm.slots ≤ R.slots)
    (r : ∀ v T' L, Stand p l e R s m args below meth c T' (locs ++ L) (cells + rm.cells) (slots + rm.slots) → Q v T'.heap L → Go p e below P (T'.setTop (mkF m pc' ls (v.toList ++ rest)))) : Go p e below P (T.setTop (mkF m pc ls st)) := by
  subst hp
  obtain ⟨cq, kq, q1, q2, q3⟩ := isOf (s := s) (T := T) hZ eT E
  obtain ⟨v, _, ⟨T', L', k', n'⟩, -, X', ⟨L, hQ, l1, l2, l3⟩, q⟩ := X.virtualBack hx hown (mvT hZ w1) (mvT hZ w2) nf (mvT hZ w3) (mvT hZ w4) hy (backOf (W := W) hM hZ w6 w5 hf hl) q1 q3 (g := mkF m pc ls st) rfl hsz (Steps.refl _) (argsL := argsL) (rest := rest) (lenOf hps hlen) hst (by show 2 * 0 + _ ≤ _; omega) (hb hby hd) (fun _ _ => ⟨has, eT, hc, hs⟩)
  dsimp only [Pt.U, Pt.locs, Pt.cells, Pt.slots] at X' l1 l2 l3 q hQ
  subst l1 l2 l3
  exact own_go (fun t k => q.trans k) (r v T' L X' hQ)
/-! the end of a walk -/
theorem own_ret {Q : Option Value → Heap → List Loc → Prop} {K N : Nat} {t : FieldType} {w : Value} {i : Instr} (X : Stand p l e R s m args below meth c T locs cells slots) (hx : p.tables.exec = Jvm.exec) (hby : c.code = bytes) (hret : meth.sig.returnType = some t) (hlocks : meth.locks = false)
    (hd : decode bytes pc = .ok (i, 1)) (hn : narrow t w = w)
    (hi : (i = .ireturn ∧ (t = .int ∨ t = .boolean ∨ t = .byte ∨ t = .char ∨ t = .short) ∧ ∃ z, w = .int z) ∨ (i = .lreturn ∧ t = .long ∧ ∃ z, w = .long z) ∨ (i = .dreturn ∧ t = .double ∧ ∃ z, w = .double z) ∨ (i = .freturn ∧ t = .float ∧ ∃ z, w = .float z) ∨ (i = .areturn ∧ t.isReference = true ∧ w.isRef = true))
    (hK : cells ≤ K) (hN : slots ≤ N) (hQ : Q (some w) T.heap locs) :
    Go p e below (fun s₂ o => s₂.status = .running ∧ Ended s₂ below o ∧ ∃ v L, o = .returned v ∧ Q v s₂.heap L ∧ FrameEnd s o s₂ L K N) (T.setTop (mkF m pc ls (w :: st))) := by
  obtain ⟨fs, hr, hrun, hended, hW, hsame⟩ := X.leave (v := some w) (fun h => by rw [hret] at h; cases h) hlocks
  exact ⟨_, _, retOut X hx hret hn hi (hb hby hd) hr, hrun, hended, _, _, rfl, hQ, ⟨_, rfl⟩, hW, hsame.mono hK hN⟩
theorem own_ret0 {Q : Option Value → Heap → List Loc → Prop} {K N : Nat} (X : Stand p l e R s m args below meth c T locs cells slots) (hx : p.tables.exec = Jvm.exec) (hby : c.code = bytes) (hret : meth.sig.returnType = none) (hlocks : meth.locks = false)
    (hd : decode bytes pc = .ok (.return_, 1)) (hK : cells ≤ K) (hN : slots ≤ N) (hQ : Q none T.heap locs) :
    Go p e below (fun s₂ o => s₂.status = .running ∧ Ended s₂ below o ∧ ∃ v L, o = .returned v ∧ Q v s₂.heap L ∧ FrameEnd s o s₂ L K N) (T.setTop (mkF m pc ls [])) := by
  obtain ⟨fs, hr, hrun, hended, hW, hsame⟩ := X.leave (v := none) (fun _ => rfl) hlocks
  exact ⟨_, _, X.returnOut hx hret (hb hby hd) hr, hrun, hended, _, _, rfl, hQ, ⟨_, rfl⟩, hW, hsame.mono hK hN⟩
/-! the case's words -/
theorem own_fld {Z : State} {args : Array Value} {t : Term} {C n d : String} {v : Int32} {x : Addr} (h : (Cond.eq (Term.field t C n d) (Term.int v)).value args Z none Z [] = some true) (ht : t.eval args Z none [] Z = some (.ref x)) : Fld Z Z.heap x C n d (.int v) :=
  Fld.start ((fld_at ht).symm.trans (eqv_i (Term.int_eval v) h))
theorem own_fldN {Z : State} {args : Array Value} {t : Term} {C n d : String} {x : Addr} (h : (Cond.eq (Term.field t C n d) Term.null).value args Z none Z [] = some true) (ht : t.eval args Z none [] Z = some (.ref x)) : Fld Z Z.heap x C n d .null :=
  Fld.start ((fld_at ht).symm.trans (null_v h))
theorem own_eqvR {Z : State} {args : Array Value} {X F : Term} {y : Addr} (hF : F.eval args Z none [] Z = some (.ref y)) (h : (Cond.eq X F).value args Z none Z [] = some true) : X.eval args Z none [] Z = some (.ref y) := by
  obtain ⟨x, y', e1, e2, k1, k2⟩ := cmp_v (Or.inl h)
  cases hF.symm.trans e2
  have hx : x.isRef = true := k2.2
  exact e1.trans (congrArg some (gotT (eq_R e1 hF hx rfl) h))
theorem own_fldR {Z : State} {args : Array Value} {t F : Term} {C n d : String} {x y : Addr} (h : (Cond.eq (Term.field t C n d) F).value args Z none Z [] = some true) (ht : t.eval args Z none [] Z = some (.ref x)) (hF : F.eval args Z none [] Z = some (.ref y)) : Fld Z Z.heap x C n d (.ref y) :=
  Fld.start ((fld_at ht).symm.trans (own_eqvR hF h))
theorem own_len_at {Z : State} {args : Array Value} {t : Term} {z : Int32} {a : Addr} {cl : Cell} (h : (Term.length t).eval args Z none [] Z = some (.int z)) (ht : t.eval args Z none [] Z = some (.ref a)) (ha : Z.arrayAt? a = some cl) : cl.slots.size < 2 ^ 31 ∧ cl.slots.size.toInt32 = z := by
  by_cases q : cl.slots.size < 2 ^ 31
  · refine ⟨q, ?_⟩
    rw [len_f ht ha q] at h
    exact Value.int.inj (Option.some.inj h)
  · exfalso
    simp [Term.eval, ht, ha, q] at h
/-- what a callee that writes nothing leaves -/
def own_Q (r : Option Value) (n0 : Nat) (h0 : Heap) (v : Option Value) (h : Heap) (L : List Loc) : Prop := v = r ∧ Fr n0 L ∧ h = h0
/-- what the law leaves -/
def own_Q1 (n0 : Nat) (v : Option Value) (h : Heap) (L : List Loc) : Prop := v = some (.int 1) ∧ Fr n0 L
end Own
section Own2
variable {p : Program} {l : Launch} {e : Env} {R : Room} {s : State} {m : MethodId} {args : Array Value} {below : List Frame} {meth : Method} {c : Code} {T : State} {locs : List Loc} {cells slots : Nat} {P : State → Outcome → Prop} {pc : Nat} {ls : Array Slot} {st : List Value} {Z : State} {a0 : Array Value} {h : Heap} {bytes : ByteArray}
/-! objects -/
theorem own_new (pc' : Nat) (k : Nat) (X : Stand p l e R s m args below meth c T locs cells slots) (hx : p.tables.exec = Jvm.exec) (hby : c.code = bytes) (hZ : Z.Warmed39 s.vm) {own C : String} {index : Nat} (hown : s.vm.findClass own = some m.cls) (w : (Cond.classLink own index C).before a0 Z = true) (wi : (Cond.instantiable C k).before a0 Z = true) (wz : (Cond.initialized C).before a0 Z = true) (eT : T.heap = h)
    (hd : decode bytes pc = .ok (.new index, 3)) (hp : pc + 3 = pc') (hc : cells + 1 ≤ R.cells) (hl : slots + k ≤ R.slots)
    (r : ∀ T' h' b, Stand p l e R s m args below meth c T' locs (cells + 1) (slots + k) → T'.heap = h' → Ext h h' → b = h.size → Exa Z h' b C → (∀ {O nm d : String} {ty : FieldType}, Laid Z a0 C O nm d → parseFieldDescriptor d = some ty → Fld Z h' b O nm d (defaultValue ty)) → Go p e below P (T'.setTop (mkF m pc' ls (.ref b :: st)))) : Go p e below P (T.setTop (mkF m pc ls st)) := by
  subst hp
  obtain ⟨T', h', X', e', E', A', D', -, q⟩ := newO X hx hZ hown w wi wz eT (g := mkF m pc ls st) rfl (hb hby hd) hc hl
  exact own_go q (r T' h' h.size X' e' E' rfl A' D')
theorem own_putF (pc' : Nat) (X : Stand p l e R s m args below meth c T locs cells slots) (hx : p.tables.exec = Jvm.exec) (hby : c.code = bytes) (hZ : Z.Warmed39 s.vm) {own O n d C : String} {index kk : Nat} (ty : FieldType) (hown : s.vm.findClass own = some m.cls) (w : (Cond.fieldLink own index O n d).before a0 Z = true) (eT : T.heap = h) {a : Addr} {v old : Value} (F : Fld Z h a O n d old) (E : Exa Z h a C) (L : (Cond.lays C O n d).before a0 Z = true ∨ ((Cond.laysFinal C O n d).before a0 Z = true ∧ own = O ∧ meth.name = "<init>")) (wi : (Cond.instantiable C kk).before a0 Z = true)
    (hty : parseFieldDescriptor d = some ty) (hn : narrow ty v = v) (hf : fits ty v = true) (hd : decode bytes pc = .ok (.putfield index, 3)) (hp : pc + 3 = pc')
    (r : ∀ T' h', Stand p l e R s m args below meth c T' (locs ++ [⟨a, Jvm.RoadKit.slotOf Z O n d⟩]) cells slots → T'.heap = h' → Wr h h' a (Jvm.RoadKit.slotOf Z O n d) v → Go p e below P (T'.setTop (mkF m pc' ls st))) : Go p e below P (T.setTop (mkF m pc ls (v :: .ref a :: st))) := by
  subst hp
  obtain ⟨T', h', X', e', W', q⟩ := putF X hx hZ hown (host := "") (Or.inl w) Via.refl eT F E L wi hty hn hf (g := mkF m pc ls (v :: .ref a :: st)) rfl rfl (hb hby hd)
  exact own_go q (r T' h' X' e' W')
theorem own_initO (pc' : Nat) (W : Nat) (X : Stand p l e R s m args below meth c T locs cells slots) (hx : p.tables.exec = Jvm.exec) (hby : c.code = bytes) (hZ : Z.Warmed39 s.vm) {own : String} {idx : Nat} (hown : s.vm.findClass own = some m.cls) (w1 : (Cond.methodLink own idx Lib.objectInit).before a0 Z = true) (w2 : (Cond.instanceMethod Lib.objectInit).before a0 Z = true)
    (w3 : (Cond.code Lib.objectInit object_method_1_code 1 none).before a0 Z = true) (hsz : ls.size = c.maxLocals) {a : Addr} (hd : decode bytes pc = .ok (.invokespecial idx, 3)) (hp : pc + 3 = pc') (eT : T.heap = h) (hW : (st.map fun v => v.category).sum = W) (hf : 1 ≤ R.frames) (hl : W + 12 ≤ R.locals)
    (r : ∀ T', Stand p l e R s m args below meth c T' locs cells slots → T'.heap = h → Go p e below P (T'.setTop (mkF m pc' ls st))) : Go p e below P (T.setTop (mkF m pc ls (.ref a :: st))) := by
  subst hp
  obtain ⟨T', X', e', q⟩ := initO X hx hZ hown w1 w2 w3 eT (g := mkF m pc ls (.ref a :: st)) rfl hsz rfl (hb hby hd) hf (W := W) (by show 2 * 0 + _ ≤ _; omega) hl
  exact own_go q (r T' X' e')
theorem own_cast (pc' : Nat) (X : Stand p l e R s m args below meth c T locs cells slots) (hx : p.tables.exec = Jvm.exec) (hby : c.code = bytes) (hZ : Z.Warmed39 s.vm) {own K : String} {index : Nat} (hown : s.vm.findClass own = some m.cls) (w : (Cond.classLink own index K).before a0 Z = true) (eT : T.heap = h) {a : Addr} (F : Ins Z h a K true) (hd : decode bytes pc = .ok (.checkcast index, 3)) (hp : pc + 3 = pc')
    (r : ∀ T', Stand p l e R s m args below meth c T' locs cells slots → T'.heap = h → Go p e below P (T'.setTop (mkF m pc' ls (.ref a :: st)))) : Go p e below P (T.setTop (mkF m pc ls (.ref a :: st))) := by
  subst hp
  obtain ⟨T', X', e', q⟩ := castY X hx hZ hown w eT F (g := mkF m pc ls (.ref a :: st)) rfl rfl (hb hby hd)
  exact own_go q (r T' X' e')
theorem own_instY (pc' : Nat) (X : Stand p l e R s m args below meth c T locs cells slots) (hx : p.tables.exec = Jvm.exec) (hby : c.code = bytes) (hZ : Z.Warmed39 s.vm) {own K : String} {index : Nat} (hown : s.vm.findClass own = some m.cls) (w : (Cond.classLink own index K).before a0 Z = true) (eT : T.heap = h) {a : Addr} (F : Ins Z h a K true) (hd : decode bytes pc = .ok (.instanceof index, 3)) (hp : pc + 3 = pc')
    (r : ∀ T', Stand p l e R s m args below meth c T' locs cells slots → T'.heap = h → Go p e below P (T'.setTop (mkF m pc' ls (.int 1 :: st)))) : Go p e below P (T.setTop (mkF m pc ls (.ref a :: st))) := by
  subst hp
  obtain ⟨T', X', e', q⟩ := instY X hx hZ hown w eT F (g := mkF m pc ls (.ref a :: st)) rfl rfl (hb hby hd)
  exact own_go q (r T' X' e')
theorem own_instN (pc' : Nat) (X : Stand p l e R s m args below meth c T locs cells slots) (hx : p.tables.exec = Jvm.exec) (hby : c.code = bytes) (hZ : Z.Warmed39 s.vm) {own K C : String} {index : Nat} (hown : s.vm.findClass own = some m.cls) (w : (Cond.classLink own index K).before a0 Z = true) (eT : T.heap = h) {a : Addr} (E : Exa Z h a C) (F : ∃ c t, Z.vm.findClass C = some c ∧ Z.vm.findClass K = some t ∧ Z.vm.assignable c t = false) (hd : decode bytes pc = .ok (.instanceof index, 3)) (hp : pc + 3 = pc')
    (r : ∀ T', Stand p l e R s m args below meth c T' locs cells slots → T'.heap = h → Go p e below P (T'.setTop (mkF m pc' ls (.int 0 :: st)))) : Go p e below P (T.setTop (mkF m pc ls (.ref a :: st))) := by
  subst hp
  obtain ⟨T', X', e', q⟩ := instNo X hx hZ hown w eT E F (g := mkF m pc ls (.ref a :: st)) rfl rfl (hb hby hd)
  exact own_go q (r T' X' e')
theorem own_inst0 (pc' : Nat) (X : Stand p l e R s m args below meth c T locs cells slots) (hx : p.tables.exec = Jvm.exec) (hby : c.code = bytes) {index : Nat} (hd : decode bytes pc = .ok (.instanceof index, 3)) (hp : pc + 3 = pc')
    (r : Go p e below P (T.setTop (mkF m pc' ls (.int 0 :: st)))) : Go p e below P (T.setTop (mkF m pc ls (.null :: st))) := by
  subst hp
  exact own_go (fun t q => X.instanceofNull hx (g := mkF m pc ls (.null :: st)) rfl rfl (hb hby hd) t q) r
theorem own_lsw (pc' : Nat) (X : Stand p l e R s m args below meth c T locs cells slots) (hx : p.tables.exec = Jvm.exec) (hby : c.code = bytes) {k : Int32} {dflt : Int} {pairs : Array (Int × Int)} {len : Nat} (hd : decode bytes pc = .ok (.lookupswitch dflt pairs, len)) (hsorted : (pairs.toList.zip (pairs.toList.drop 1)).all (fun (a, next) => a.1 < next.1) = true) {a off : Int} (hfind : pairs.find? (·.1 == k.toInt) = some (a, off)) (ho : 0 ≤ (pc : Int) + off) (hp : ((pc : Int) + off).toNat = pc')
    (r : Go p e below P (T.setTop (mkF m pc' ls st))) : Go p e below P (T.setTop (mkF m pc ls (.int k :: st))) := by
  subst hp
  exact own_go (fun t q => X.lookupswitchHit hx (g := mkF m pc ls (.int k :: st)) rfl rfl (hb hby hd) hsorted hfind ho t q) r
/-! arrays of longs -/
theorem own_stJ (pc' : Nat) (i : Nat) (X : Stand p l e R s m args below meth c T locs cells slots) (hx : p.tables.exec = Jvm.exec) (hby : c.code = bytes) (hZ : Z.Warmed39 s.vm) (eT : T.heap = h) {a : Addr} {cA : ClassId} {n j : Int32} {x : Int64} {vs : List Value} {dv : Value} (V : Arv Z h a cA .long n vs dv)
    (hd : decode bytes pc = .ok (.lastore, 1)) (hp : pc + 1 = pc') (hj : ¬ j < 0 ∧ j < n) (hi : j.toNatClampNeg = i) (hv : i < vs.length)
    (r : ∀ T' h', Stand p l e R s m args below meth c T' (locs ++ [⟨a, j.toNatClampNeg⟩]) cells slots → T'.heap = h' → Wr h h' a j.toNatClampNeg (.long x) → Arv Z h' a cA .long n (vs.set i (.long x)) dv → Go p e below P (T'.setTop (mkF m pc' ls st))) : Go p e below P (T.setTop (mkF m pc ls (.long x :: .int j :: .ref a :: st))) := by
  subst hp
  obtain ⟨cl, A, q1, S, q3, H, G⟩ := V
  obtain ⟨T', h', X', e', W', q⟩ := stJ X hx hZ eT A (j := j) (inb_of S hj) (g := mkF m pc ls (.long x :: .int j :: .ref a :: st)) rfl rfl (hb hby hd)
  exact own_go q (r T' h' X' e' W' (Arv.set A q1 S q3 H G rfl W' i hi hv))
theorem own_shrink {a : Addr} {k : ClassId} {ty : FieldType} {z : Int32} {d : Value} {N : Nat} (M : Nat) (V : Arv Z h a k ty z (List.replicate N d) d) : Arv Z h a k ty z (List.replicate M d) d := V.pad fun i => (pad_rep [] d M i).trans (pad_rep [] d N i).symm
theorem own_laload (pc' : Nat) (v : Value) (X : Stand p l e R s m args below meth c T locs cells slots) (hx : p.tables.exec = Jvm.exec) (hby : c.code = bytes) (hZ : Z.Warmed39 s.vm) (eT : T.heap = h) {a : Addr} {cA : ClassId} {n j : Int32} {vs : List Value} {dv : Value} (V : Arv Z h a cA .long n vs dv)
    (hd : decode bytes pc = .ok (.laload, 1)) (hp : pc + 1 = pc') (hj : ¬ j < 0 ∧ j < n) (hv : vs.getD j.toNatClampNeg dv = v)
    (r : Go p e below P (T.setTop (mkF m pc' ls (v :: st)))) : Go p e below P (T.setTop (mkF m pc ls (.int j :: .ref a :: st))) := by
  subst hp
  obtain ⟨cl, A, q1, S, q3, H, G⟩ := V
  exact own_go (fun t q => X.laload hx (j := j) (v := v) (by rw [eT]; exact A.1) (State.isArrayOf_alike hZ.alike A.2.1) A.2.2 (inb_of S hj) (H.at (inb_of S hj) hv) (g := mkF m pc ls (.int j :: .ref a :: st)) rfl rfl (hb hby hd) t q) r
/-- System.arraycopy of no element at all -/
theorem own_cp0 (pc' : Nat) (W : Nat) (X : Stand p l e R s m args below meth c T locs cells slots) (hx : p.tables.exec = Jvm.exec) (hby : c.code = bytes) (hZ : Z.Warmed39 s.vm) {own : String} {index : Nat} (hown : s.vm.findClass own = some m.cls)
    (w1 : (Cond.methodLink own index Jvm.Stand.acN).before a0 Z = true) (w2 : (Cond.native Jvm.Stand.acN).before a0 Z = true) (w3 : (Cond.static Jvm.Stand.acN).before a0 Z = true) (w4 : (Cond.initialized "java/lang/System").before a0 Z = true) (eT : T.heap = h)
    {a b : Addr} {k k' : ClassId} {z z' : Int32} {vs vd : List Value} {dv dd : Value} (A : Arv Z h a k .long z vs dv) (B : Arv Z h b k' .long z' vd dd) {n0 : Nat} (N : Fr n0 locs) (ge : n0 ≤ b) (hsz : ls.size = c.maxLocals) (hd : decode bytes pc = .ok (.invokestatic index, 3)) (hp : pc + 3 = pc') (hW : (st.map fun v => v.category).sum = W)
    (hf : 1 ≤ R.frames) (hlo : W + (nativeFrameWords "java/lang/System" "arraycopy" 5 + 11) ≤ R.locals)
    (r : ∀ T' h' L, Stand p l e R s m args below meth c T' L cells slots → T'.heap = h' → Fr n0 L → Keep h h' [b] → Arv Z h' b k' .long z' vd dd → Go p e below P (T'.setTop (mkF m pc' ls st))) : Go p e below P (T.setTop (mkF m pc ls (.int 0 :: .int 0 :: .ref b :: .int 0 :: .ref a :: st))) := by
  subst hp
  obtain ⟨T', h', L, X', e', N', K', V', q⟩ := cpA X hx hZ hown w1 w2 w3 w4 eT A B (us := []) (sp := 0) (dp := 0) (nn := 0) (Or.inl ⟨rfl, rfl⟩) (by decide) (by decide) (by decide) (Nat.zero_le _) (Nat.zero_le _) rfl (Nat.zero_le _) N ge (g := mkF m pc ls (.int 0 :: .int 0 :: .ref b :: .int 0 :: .ref a :: st)) rfl hsz rfl (hb hby hd) hf (W := W) (by show 2 * 0 + _ ≤ _; omega) hlo
  exact own_go q (r T' h' L X' e' N' K' V')
/-! calls -/
theorem own_spec (pc' : Nat) {h : Heap} {as' : Array Value} {rm : Room} {Q : Option Value → Heap → List Loc → Prop} {y : MethodName} {code' : ByteArray} {maxL : Nat}
    (hM : MetFree l y (head1 [Cond.code y code' maxL none] rm) (fun a U => a = as' ∧ Z.Warmed39 U.vm ∧ U.heap = h) (fun _ _ _ _ _ => True) (fun _ U o U' => ∃ v L, o = .returned v ∧ Q v U'.heap L ∧ FrameEnd U o U' L rm.cells rm.slots))
    (X : Stand p l e R s m args below meth c T locs cells slots) (hx : p.tables.exec = Jvm.exec) (hby : c.code = bytes) (hZ : Z.Warmed39 s.vm) {own : String} {index W : Nat} (hown : s.vm.findClass own = some m.cls)
    (hn : y.name = "<init>") (w1 : (Cond.methodLink own index y).before a0 Z = true) (w4 : (Cond.instanceMethod y).before a0 Z = true) (w5 : (Cond.initialized y.cls).before a0 Z = true) (w6 : (Cond.code y code' maxL none).before a0 Z = true)
    (hy : y.cls ≠ "java/lang/invoke/MethodHandle" ∧ y.cls ≠ "java/lang/invoke/VarHandle") (hsz : ls.size = c.maxLocals) (b : Addr) (argsL rest : List Value) {ps : List FieldType} {rt : Option FieldType} (hps : parseMethodDescriptor y.desc = some ⟨ps, rt⟩) (hlen : argsL.length = ps.length)
    (hd : decode bytes pc = .ok (.invokespecial index, 3)) (hp : pc + 3 = pc') (eT : T.heap = h) (hst : st = argsL.reverse ++ .ref b :: rest) (has : (.ref b :: argsL).toArray = as') (hW : (rest.map fun v => v.category).sum = W)
    (hf : rm.frames + 1 ≤ R.frames) (hl : W + (maxL + 11) + rm.locals ≤ R.locals) (hc : cells + rm.cells ≤ R.cells) (hs : slots + rm.slots ≤ R.slots)
    (r : ∀ v T' L, Stand p l e R s m args below meth c T' (locs ++ L) (cells + rm.cells) (slots + rm.slots) → Q v T'.heap L → Go p e below P (T'.setTop (mkF m pc' ls (v.toList ++ rest)))) : Go p e below P (T.setTop (mkF m pc ls st)) := by
  subst hp
  obtain ⟨v, _, ⟨T', L', k', n'⟩, -, X', ⟨L, hQ, l1, l2, l3⟩, q⟩ := X.specialBack hx hn hown (mvT hZ w1) (mvT hZ w4) (mvT hZ w6) hy (backOf (W := W) hM hZ w6 w5 hf hl) (g := mkF m pc ls st) rfl hsz (Steps.refl _) (a := b) (argsL := argsL) (rest := rest) (lenOf hps hlen) hst (by show 2 * 0 + _ ≤ _; omega) (hb hby hd) (fun _ _ => ⟨has, eT, hc, hs⟩)
  dsimp only [Pt.U, Pt.locs, Pt.cells, Pt.slots] at X' l1 l2 l3 q hQ
  subst l1 l2 l3
  exact own_go (fun t k => q.trans k) (r v T' L X' hQ)
theorem own_priv (pc' : Nat) {h : Heap} {as' : Array Value} {rm : Room} {Q : Option Value → Heap → List Loc → Prop} {y : MethodName} {code' : ByteArray} {maxL : Nat} {ret' : Option FieldType}
    (hM : MetFree l y (head1 [Cond.code y code' maxL ret'] rm) (fun a U => a = as' ∧ Z.Warmed39 U.vm ∧ U.heap = h) (fun _ _ _ _ _ => True) (fun _ U o U' => ∃ v L, o = .returned v ∧ Q v U'.heap L ∧ FrameEnd U o U' L rm.cells rm.slots))
    (X : Stand p l e R s m args below meth c T locs cells slots) (hx : p.tables.exec = Jvm.exec) (hby : c.code = bytes) (hZ : Z.Warmed39 s.vm) {own : String} {index W : Nat} (hown : s.vm.findClass own = some m.cls)
    (w1 : (Cond.methodLink own index y).before a0 Z = true) (w4 : (Cond.instanceMethod y).before a0 Z = true) (wp : (Cond.privateMethod y).before a0 Z = true) {y2 : MethodName} {C2 : String} (wsel : (Cond.selects C2 y2 y2).before a0 Z = true) (w5 : (Cond.initialized y.cls).before a0 Z = true) (w6 : (Cond.code y code' maxL ret').before a0 Z = true)
    (hy2 : y2.cls = y.cls) (hy : y.cls ≠ "java/lang/invoke/MethodHandle" ∧ y.cls ≠ "java/lang/invoke/VarHandle") (hsz : ls.size = c.maxLocals) (b : Addr) (argsL rest : List Value) {ps : List FieldType} {rt : Option FieldType} (hps : parseMethodDescriptor y.desc = some ⟨ps, rt⟩) (hlen : argsL.length = ps.length)
    (hd : decode bytes pc = .ok (.invokevirtual index, 3)) (hp : pc + 3 = pc') (eT : T.heap = h) {C : String} (E : Exa Z h b C) (hst : st = argsL.reverse ++ .ref b :: rest) (has : (.ref b :: argsL).toArray = as') (hW : (rest.map fun v => v.category).sum = W)
    (hf : rm.frames + 1 ≤ R.frames) (hl : W + (maxL + 11) + rm.locals ≤ R.locals) (hc : cells + rm.cells ≤ R.cells) (hs : slots + rm.slots ≤ R.slots)
    (r : ∀ v T' L, Stand p l e R s m args below meth c T' (locs ++ L) (cells + rm.cells) (slots + rm.slots) → Q v T'.heap L → Go p e below P (T'.setTop (mkF m pc' ls (v.toList ++ rest)))) : Go p e below P (T.setTop (mkF m pc ls st)) := by
  subst hp
  have hpa : s.PrivateAt y := Cond.privateMethod_at (mvP hZ wp (args := #[]))
  have hsel : (Cond.selects y.cls y y).before args s = true := by
    obtain ⟨c2, r2, m2, q1, q2, q3, q4, kP, hkP, hkPi⟩ := Cond.selects_spec (mvT (args := args) hZ wsel)
    obtain ⟨kr, hkr, hni⟩ := notFace_of_selects (mvT (args := args) hZ wsel) _ q3
    have hc2 := findClass_of_methodNamed q3
    rw [hy2] at hc2
    exact selects_self_of_private hc2 hkr hni hpa (mvT hZ w4) hy
  obtain ⟨cq, q1, q2⟩ := E.cell
  obtain ⟨v, _, ⟨T', L', k', n'⟩, -, X', ⟨L, hQ, l1, l2, l3⟩, q⟩ := X.privateBack hx hown (mvT hZ w1) (mvT hZ w4) hsel hpa (mvT hZ w6) hy (backOf (W := W) hM hZ w6 w5 hf hl) (g := mkF m pc ls st) rfl hsz (Steps.refl _) (a := b) (by rw [eT]; exact q1) q2 (argsL := argsL) (rest := rest) (lenOf hps hlen) hst (by show 2 * 0 + _ ≤ _; omega) (hb hby hd) (fun _ _ => ⟨has, eT, hc, hs⟩)
  dsimp only [Pt.U, Pt.locs, Pt.cells, Pt.slots] at X' l1 l2 l3 q hQ
  subst l1 l2 l3
  exact own_go (fun t k => q.trans k) (r v T' L X' hQ)
theorem own_face (pc' : Nat) {h : Heap} {as' : Array Value} {rm : Room} {Q : Option Value → Heap → List Loc → Prop} {xi y : MethodName} {code' : ByteArray} {maxL : Nat} {ret' : Option FieldType}
    (hM : MetFree l y (head1 [Cond.code y code' maxL ret'] rm) (fun a U => a = as' ∧ Z.Warmed39 U.vm ∧ U.heap = h) (fun _ _ _ _ _ => True) (fun _ U o U' => ∃ v L, o = .returned v ∧ Q v U'.heap L ∧ FrameEnd U o U' L rm.cells rm.slots))
    (X : Stand p l e R s m args below meth c T locs cells slots) (hx : p.tables.exec = Jvm.exec) (hby : c.code = bytes) (hZ : Z.Warmed39 s.vm) {own C : String} {index count W : Nat} (hown : s.vm.findClass own = some m.cls)
    (w1 : (Cond.methodLink own index xi).before a0 Z = true) (w2 : (Cond.declares xi).before a0 Z = true) (w3 : ∀ A, (Cond.interfaceMethod xi.cls xi.cls xi.name xi.desc).before A s = true) (w4 : (Cond.selects C xi y).before a0 Z = true) (w5 : (Cond.instanceMethod y).before a0 Z = true) (w6 : (Cond.publicMethod y).before a0 Z = true) (w7 : (Cond.unhidden C xi.name xi.desc).before a0 Z = true) (w8 : (Cond.castable C xi.cls).before a0 Z = true) (w9 : (Cond.initialized y.cls).before a0 Z = true) (w10 : (Cond.code y code' maxL ret').before a0 Z = true)
    (hy : xi.cls ≠ "java/lang/invoke/MethodHandle" ∧ xi.cls ≠ "java/lang/invoke/VarHandle") (hsz : ls.size = c.maxLocals) (b : Addr) (argsL rest : List Value) {ps : List FieldType} {rt : Option FieldType} (hps : parseMethodDescriptor xi.desc = some ⟨ps, rt⟩) (hlen : argsL.length = ps.length)
    (hd : decode bytes pc = .ok (.invokeinterface index count, 5)) (hp : pc + 5 = pc') (eT : T.heap = h) (E : Exa Z h b C) (hst : st = argsL.reverse ++ .ref b :: rest) (has : (.ref b :: argsL).toArray = as') (hW : (rest.map fun v => v.category).sum = W)
    (hf : rm.frames + 1 ≤ R.frames) (hl : W + (maxL + 11) + rm.locals ≤ R.locals) (hc : cells + rm.cells ≤ R.cells) (hs : slots + rm.slots ≤ R.slots)
    (r : ∀ v T' L, Stand p l e R s m args below meth c T' (locs ++ L) (cells + rm.cells) (slots + rm.slots) → Q v T'.heap L → Go p e below P (T'.setTop (mkF m pc' ls (v.toList ++ rest)))) : Go p e below P (T.setTop (mkF m pc ls st)) := by
  subst hp
  obtain ⟨cq, kq, q1, q2, q3⟩ := isOf (s := s) (T := T) hZ eT E
  obtain ⟨v, _, ⟨T', L', k', n'⟩, -, X', ⟨L, hQ, l1, l2, l3⟩, q⟩ := X.interfaceBack hx hown (mvT hZ w1) (mvT hZ w2) (w3 args) (mvT hZ w4) (mvT hZ w5) (mvT hZ w6) (mvT hZ w7) (mvT hZ w8) hy (backOf (W := W) hM hZ w10 w9 hf hl) q1 q2 q3 (g := mkF m pc ls st) rfl hsz (Steps.refl _) (argsL := argsL) (rest := rest) (lenOf hps hlen) hst (by show 2 * 0 + _ ≤ _; omega) (hb hby hd) (fun _ _ => ⟨has, eT, hc, hs⟩)
  dsimp only [Pt.U, Pt.locs, Pt.cells, Pt.slots] at X' l1 l2 l3 q hQ
  subst l1 l2 l3
  exact own_go (fun t k => q.trans k) (r v T' L X' hQ)
theorem own_virtUp (pc' : Nat) {h : Heap} {as' : Array Value} {rm : Room} {Q : Option Value → Heap → List Loc → Prop} {y z : MethodName} {code' : ByteArray} {maxL : Nat} {ret' : Option FieldType} (owner : String)
    (hM : MetFree l z (head1 [Cond.code z code' maxL ret'] rm) (fun a U => a = as' ∧ Z.Warmed39 U.vm ∧ U.heap = h) (fun _ _ _ _ _ => True) (fun _ U o U' => ∃ v L, o = .returned v ∧ Q v U'.heap L ∧ FrameEnd U o U' L rm.cells rm.slots))
    (X : Stand p l e R s m args below meth c T locs cells slots) (hx : p.tables.exec = Jvm.exec) (hby : c.code = bytes) (hZ : Z.Warmed39 s.vm) {own C : String} {index W : Nat} (hown : s.vm.findClass own = some m.cls)
    (w1 : (Cond.methodLink own index y).before a0 Z = true) (wsm : (Cond.sameMethod y.cls owner y.name y.desc).before a0 Z = true) (w2 : (Cond.declares ⟨owner, y.name, y.desc⟩).before a0 Z = true) (ho : owner ≠ "java/lang/invoke/MethodHandle" ∧ owner ≠ "java/lang/invoke/VarHandle") (w3 : (Cond.selects C y z).before a0 Z = true) (w4 : (Cond.instanceMethod z).before a0 Z = true) (w5 : (Cond.initialized z.cls).before a0 Z = true) (w6 : (Cond.code z code' maxL ret').before a0 Z = true)
    (hsz : ls.size = c.maxLocals) (b : Addr) (argsL rest : List Value) {ps : List FieldType} {rt : Option FieldType} (hps : parseMethodDescriptor y.desc = some ⟨ps, rt⟩) (hlen : argsL.length = ps.length)
    (hd : decode bytes pc = .ok (.invokevirtual index, 3)) (hp : pc + 3 = pc') (eT : T.heap = h) (E : Exa Z h b C) (hst : st = argsL.reverse ++ .ref b :: rest) (has : (.ref b :: argsL).toArray = as') (hW : (rest.map fun v => v.category).sum = W)
    (hf : rm.frames + 1 ≤ R.frames) (hl : W + (maxL + 11) + rm.locals ≤ R.locals) (hc : cells + rm.cells ≤ R.cells) (hs : slots + rm.slots ≤ R.slots)
    (r : ∀ v T' L, Stand p l e R s m args below meth c T' (locs ++ L) (cells + rm.cells) (slots + rm.slots) → Q v T'.heap L → Go p e below P (T'.setTop (mkF m pc' ls (v.toList ++ rest)))) : Go p e below P (T.setTop (mkF m pc ls st)) := by
  subst hp
  obtain ⟨cq, kq, q1, q2, q3⟩ := isOf (s := s) (T := T) hZ eT E
  obtain ⟨v, _, ⟨T', L', k', n'⟩, -, X', ⟨L, hQ, l1, l2, l3⟩, q⟩ := X.virtualBackUp hx hown (mvT hZ w1) (mvT hZ wsm) (mvT hZ w2) ho (mvT hZ w3) (mvT hZ w4) (backOf (W := W) hM hZ w6 w5 hf hl) q1 q3 (g := mkF m pc ls st) rfl hsz (Steps.refl _) (argsL := argsL) (rest := rest) (lenOf hps hlen) hst (by show 2 * 0 + _ ≤ _; omega) (hb hby hd) (fun _ _ => ⟨has, eT, hc, hs⟩)
  dsimp only [Pt.U, Pt.locs, Pt.cells, Pt.slots] at X' l1 l2 l3 q hQ
  subst l1 l2 l3
  exact own_go (fun t k => q.trans k) (r v T' L X' hQ)
/-! the wide frame: a String constant may be booked -/
theorem own_ldcS (pc' : Nat) (n : Nat) {vm0 : Vm} (X : Stand p l e R (s.setVm vm0) m args below meth c T locs cells slots) (hx : p.tables.exec = Jvm.exec) (hby : c.code = bytes) (hZ : Z.Warmed39 (s.setVm vm0).vm) {own text : String} {index : Nat} (hown : (s.setVm vm0).vm.findClass own = some m.cls) (w : (Cond.stringLink own index text).before a0 Z = true) (wS : ∀ a ∈ Bundle.stringAtoms, a.before a0 Z = true)
    (eT : T.heap = h) {k0 : Nat} (hS : s.Since vm0 k0) (hk : k0 ≤ h.size) (hd : decode bytes pc = .ok (.ldc index, 2)) (hp : pc + 2 = pc') (hn : 4 * text.toList.length ≤ n) (hbig : n ≤ 536870912) (hc : cells + 2 ≤ R.cells) (hl : slots + (n + 4) ≤ R.slots)
    (r : ∀ (a : Addr) (T' : State) (h' : Heap) (k1 : Nat), Stand p l e R (s.setVm T'.vm) m args below meth c T' locs (cells + 2) (slots + (n + 4)) → T'.heap = h' → Ext h h' → s.Since T'.vm k1 → k1 ≤ h'.size → Z.Warmed39 (s.setVm T'.vm).vm → (s.setVm T'.vm).vm.findClass own = some m.cls → Go p e below P (T'.setTop (mkF m pc' ls (.ref a :: st)))) : Go p e below P (T.setTop (mkF m pc ls st)) := by
  subst hp
  obtain ⟨a, T', h', k1, X', e', E', S', k', Z', o', q⟩ := ldcS X hx hZ hown w wS eT hS hk (g := mkF m pc ls st) rfl (hb hby hd) hn hbig hc hl
  exact own_go q (r a T' h' k1 X' e' E' S' k' Z' o')
theorem own_specS (pc' : Nat) {vm0 : Vm} {h : Heap} {as' : Array Value} {rm : Room} {Q : Option Value → Heap → List Loc → Prop} {y : MethodName} {code' : ByteArray} {maxL : Nat}
    (hM : MetFree l y (head1 [Cond.code y code' maxL none] rm) (fun a U => a = as' ∧ Z.Warmed39 U.vm ∧ U.heap = h) (fun _ _ _ _ _ => True) (fun _ U o U' => ∃ v L, o = .returned v ∧ Q v U'.heap L ∧ ReturnedEndW U o U' L rm.cells rm.slots))
    (X : Stand p l e R (s.setVm vm0) m args below meth c T locs cells slots) (hx : p.tables.exec = Jvm.exec) (hby : c.code = bytes) (hZ : Z.Warmed39 (s.setVm vm0).vm) {own : String} {index W : Nat} (hown : (s.setVm vm0).vm.findClass own = some m.cls)
    (hn : y.name = "<init>") (w1 : (Cond.methodLink own index y).before a0 Z = true) (w4 : (Cond.instanceMethod y).before a0 Z = true) (w5 : (Cond.initialized y.cls).before a0 Z = true) (w6 : (Cond.code y code' maxL none).before a0 Z = true)
    (hy : y.cls ≠ "java/lang/invoke/MethodHandle" ∧ y.cls ≠ "java/lang/invoke/VarHandle") (hsz : ls.size = c.maxLocals) (b : Addr) (argsL rest : List Value) {ps : List FieldType} {rt : Option FieldType} (hps : parseMethodDescriptor y.desc = some ⟨ps, rt⟩) (hlen : argsL.length = ps.length)
    (hd : decode bytes pc = .ok (.invokespecial index, 3)) (hp : pc + 3 = pc') (eT : T.heap = h) (hst : st = argsL.reverse ++ .ref b :: rest) (has : (.ref b :: argsL).toArray = as') (hW : (rest.map fun v => v.category).sum = W)
    (hf : rm.frames + 1 ≤ R.frames) (hl : W + (maxL + 11) + rm.locals ≤ R.locals) (hc : cells + rm.cells ≤ R.cells) (hs : slots + rm.slots ≤ R.slots) {k0 : Nat} (hS : s.Since vm0 k0) (hk : k0 ≤ h.size)
    (r : ∀ v T' L, Stand p l e R (s.setVm T'.vm) m args below meth c T' (locs ++ L) (cells + rm.cells) (slots + rm.slots) → Q v T'.heap L → s.Since T'.vm T'.heap.size → Z.Warmed39 (s.setVm T'.vm).vm → (s.setVm T'.vm).vm.findClass own = some m.cls → Go p e below P (T'.setTop (mkF m pc' ls (v.toList ++ rest)))) : Go p e below P (T.setTop (mkF m pc ls st)) := by
  subst hp
  obtain ⟨v, _, ⟨T', L', k', n'⟩, -, X', S', g', ⟨L, hQ, l1, l2, l3⟩, q⟩ := X.specialBackS hx hn hown (mvT hZ w1) (mvT hZ w4) (mvT hZ w6) hy (backOfS (W := W) hM hZ w6 w5 hf hl) (g := mkF m pc ls st) rfl hsz (Steps.refl _) (a := b) (argsL := argsL) (rest := rest) (lenOf hps hlen) hst (by show 2 * 0 + _ ≤ _; omega) (hb hby hd) (fun _ _ => ⟨has, eT, hc, hs⟩)
  dsimp only [Pt.U, Pt.locs, Pt.cells, Pt.slots] at X' l1 l2 l3 q hQ S' g'
  subst l1 l2 l3
  have hk' : k0 ≤ T.heap.size := by rw [eT]; exact hk
  have S2 : s.Since T'.vm T'.heap.size := foldS hS hk' S' g'
  refine own_go (fun t k => q.trans k) (r v T' L X' hQ S2 (State.Warmed39.trans (t := s.setVm vm0) hZ S'.1) ?_)
  rw [show (s.setVm T'.vm).vm = T'.vm from rfl, S'.1.alike.findClass]; exact hown
theorem own_retW {Q : Option Value → Heap → List Loc → Prop} {K N : Nat} {vm0 : Vm} {t : FieldType} {w : Value} {i : Instr} (X : Stand p l e R (s.setVm vm0) m args below meth c T locs cells slots) (hx : p.tables.exec = Jvm.exec) (hby : c.code = bytes) (hret : meth.sig.returnType = some t) (hlocks : meth.locks = false) {k0 : Nat} (hS : s.Since vm0 k0) (hk : k0 ≤ T.heap.size)
    (hd : decode bytes pc = .ok (i, 1)) (hn : narrow t w = w)
    (hi : (i = .ireturn ∧ (t = .int ∨ t = .boolean ∨ t = .byte ∨ t = .char ∨ t = .short) ∧ ∃ z, w = .int z) ∨ (i = .lreturn ∧ t = .long ∧ ∃ z, w = .long z) ∨ (i = .dreturn ∧ t = .double ∧ ∃ z, w = .double z) ∨ (i = .freturn ∧ t = .float ∧ ∃ z, w = .float z) ∨ (i = .areturn ∧ t.isReference = true ∧ w.isRef = true))
    (hK : cells ≤ K) (hN : slots ≤ N) (hQ : Q (some w) T.heap locs) :
    Go p e below (fun s₂ o => s₂.status = .running ∧ Ended s₂ below o ∧ ∃ v L, o = .returned v ∧ Q v s₂.heap L ∧ ReturnedEndW s o s₂ L K N) (T.setTop (mkF m pc ls (w :: st))) := by
  obtain ⟨fs, hr, hrun, hended, r1, r2, r3, r4⟩ := X.leaveW hS hk (v := some w) (fun h => by rw [hret] at h; cases h) hlocks
  exact ⟨_, _, retOut X hx hret hn hi (hb hby hd) hr, hrun, hended, _, _, rfl, hQ, r1, r2, r3, r4.mono hK hN⟩
theorem own_ret0W {Q : Option Value → Heap → List Loc → Prop} {K N : Nat} {vm0 : Vm} (X : Stand p l e R (s.setVm vm0) m args below meth c T locs cells slots) (hx : p.tables.exec = Jvm.exec) (hby : c.code = bytes) (hret : meth.sig.returnType = none) (hlocks : meth.locks = false) {k0 : Nat} (hS : s.Since vm0 k0) (hk : k0 ≤ T.heap.size)
    (hd : decode bytes pc = .ok (.return_, 1)) (hK : cells ≤ K) (hN : slots ≤ N) (hQ : Q none T.heap locs) :
    Go p e below (fun s₂ o => s₂.status = .running ∧ Ended s₂ below o ∧ ∃ v L, o = .returned v ∧ Q v s₂.heap L ∧ ReturnedEndW s o s₂ L K N) (T.setTop (mkF m pc ls [])) := by
  obtain ⟨fs, hr, hrun, hended, r1, r2, r3, r4⟩ := X.leaveW hS hk (v := none) (fun _ => rfl) hlocks
  exact ⟨_, _, X.returnOut hx hret (hb hby hd) hr, hrun, hended, _, _, rfl, hQ, r1, r2, r3, r4.mono hK hN⟩
end Own2
/-! small facts on ints -/
theorem own_mask_nn (x : Int32) : 0 ≤ (x &&& 2147483647).toInt := by
  have h : (x &&& 2147483647).toInt = x.toInt % 2 ^ 31 := Jvm.Kit.i32_mask x 2147483647 (k := 31) (by decide) (by decide)
  omega
theorem own_mod_toInt (x y : Int32) (hy : 0 < y.toInt) (hx : 0 ≤ x.toInt) : (x % y).toInt = x.toInt % y.toInt := Jvm.Kit.i32_rem_nonneg hx
theorem own_and_toInt1 (x : Int32) : (x &&& 1).toInt = x.toInt % 2 := Jvm.Kit.i32_mask x 1 (k := 1) (by decide) (by decide)
theorem own_and_toInt3 (x : Int32) : (x &&& 3).toInt = x.toInt % 4 := Jvm.Kit.i32_mask x 3 (k := 2) (by decide) (by decide)
theorem own_and_toInt7 (x : Int32) : (x &&& 7).toInt = x.toInt % 8 := Jvm.Kit.i32_mask x 7 (k := 3) (by decide) (by decide)
theorem own_mkI (x m : Int32) (k : Nat) (hk : k < 32) (hm : m.toBitVec.toNat = 2 ^ k - 1) : 0 ≤ (x &&& m).toInt ∧ (x &&& m).toInt ≤ m.toInt := by
  have h1 := Jvm.Kit.i32_mask x m hk hm
  have h2 : m.toInt = 2 ^ k - 1 := by
    have h3 : m.toInt = (m.toBitVec).toInt := rfl
    have h4 : (2 : Nat) ^ k ≤ 2 ^ 31 := Nat.pow_le_pow_right (by decide) (by omega)
    rw [h3, BitVec.toInt_eq_toNat_cond, hm]
    have h5 : 0 < (2 : Nat) ^ k := Nat.pow_pos (by decide)
    have h6 : ((2 ^ k - 1 : Nat) : Int) = (2 : Int) ^ k - 1 := by
      rw [Int.natCast_sub h5]; simp
    split
    · exact h6
    · omega
  have h7 : (0 : Int) < 2 ^ k := Int.pow_pos (by decide)
  have h8 := Int.emod_nonneg x.toInt (Int.ne_of_gt h7)
  have h9 := Int.emod_lt_of_pos x.toInt h7
  omega
theorem own_mkJ (x m : Int64) (k : Nat) (hk : k < 64) (hm : m.toBitVec.toNat = 2 ^ k - 1) : 0 ≤ (x &&& m).toInt ∧ (x &&& m).toInt ≤ m.toInt := by
  have h1 := Jvm.Kit.i64_mask x m hk hm
  have h2 : m.toInt = 2 ^ k - 1 := by
    have h3 : m.toInt = (m.toBitVec).toInt := rfl
    have h4 : (2 : Nat) ^ k ≤ 2 ^ 63 := Nat.pow_le_pow_right (by decide) (by omega)
    rw [h3, BitVec.toInt_eq_toNat_cond, hm]
    have h5 : 0 < (2 : Nat) ^ k := Nat.pow_pos (by decide)
    have h6 : ((2 ^ k - 1 : Nat) : Int) = (2 : Int) ^ k - 1 := by
      rw [Int.natCast_sub h5]; simp
    split
    · exact h6
    · omega
  have h7 : (0 : Int) < 2 ^ k := Int.pow_pos (by decide)
  have h8 := Int.emod_nonneg x.toInt (Int.ne_of_gt h7)
  have h9 := Int.emod_lt_of_pos x.toInt h7
  omega
theorem own_rngI (x : Int32) : -2 ^ 31 ≤ x.toInt ∧ x.toInt < 2 ^ 31 := ⟨Int32.le_toInt x, Int32.toInt_lt x⟩
theorem own_rngJ (x : Int64) : -2 ^ 63 ≤ x.toInt ∧ x.toInt < 2 ^ 63 := ⟨Int64.le_toInt x, Int64.toInt_lt x⟩
theorem own_rmI {x : Int32} (hx : 0 ≤ x.toInt) (y : Int32) (hy : 0 < y.toInt) : 0 ≤ (x % y).toInt ∧ (x % y).toInt ≤ y.toInt - 1 := by
  rw [Jvm.Kit.i32_rem_nonneg hx]
  have h8 := Int.emod_nonneg x.toInt (Int.ne_of_gt hy)
  have h9 := Int.emod_lt_of_pos x.toInt hy
  omega
theorem own_rmJ (x y : Int64) (hy : 0 < y.toInt) : -(y.toInt - 1) ≤ (x - (x / y) * y).toInt ∧ (x - (x / y) * y).toInt ≤ y.toInt - 1 := by
  rw [Jvm.Kit.i64_rem]
  have h1 := Int.tmod_lt_of_pos x.toInt hy
  have h2 := Int.lt_tmod_of_pos x.toInt hy
  omega
theorem own_dvI {x : Int32} (hx : 0 ≤ x.toInt) (y : Int32) (hy : 0 < y.toInt) : (x / y).toInt = x.toInt / y.toInt := by
  rw [Jvm.Kit.i32_div (by omega), Int.tdiv_eq_ediv_of_nonneg hx]
theorem own_bdI {x a b : Int32} (h1 : ¬ (x < a)) (h2 : ¬ (b < x)) : a.toInt ≤ x.toInt ∧ x.toInt ≤ b.toInt := by
  rw [Int32.lt_iff_toInt_lt] at h1 h2
  omega
theorem own_bdJ {x a b : Int64} (h1 : ¬ (x < a)) (h2 : ¬ (b < x)) : a.toInt ≤ x.toInt ∧ x.toInt ≤ b.toInt := by
  rw [Int64.lt_iff_toInt_lt] at h1 h2
  omega
def own_W (Z : State) (w_NONE k_NONE : Addr) : Prop := Sta Z Z.heap "com/example/meter/meter/store/Spans" "NONE" "[J" (.ref w_NONE) ∧ Arv Z Z.heap w_NONE k_NONE .long (0 : Int32) [] (.long (0 : Int64))
theorem d1_0 : decode prog_11_method_1_code 0 = .ok (.aload_n 0, 1) := by decide +kernel
theorem d1_1 : decode prog_11_method_1_code 1 = .ok (.invokespecial 1, 3) := by decide +kernel
theorem d1_4 : decode prog_11_method_1_code 4 = .ok (.aload_n 0, 1) := by decide +kernel
theorem d1_5 : decode prog_11_method_1_code 5 = .ok (.getstatic 7, 3) := by decide +kernel
theorem d1_8 : decode prog_11_method_1_code 8 = .ok (.putfield 13, 3) := by decide +kernel
theorem d1_11 : decode prog_11_method_1_code 11 = .ok (.aload_n 0, 1) := by decide +kernel
theorem d1_12 : decode prog_11_method_1_code 12 = .ok (.getstatic 7, 3) := by decide +kernel
theorem d1_15 : decode prog_11_method_1_code 15 = .ok (.putfield 16, 3) := by decide +kernel
theorem d1_18 : decode prog_11_method_1_code 18 = .ok (.aload_n 0, 1) := by decide +kernel
theorem d1_19 : decode prog_11_method_1_code 19 = .ok (.getstatic 7, 3) := by decide +kernel
theorem d1_22 : decode prog_11_method_1_code 22 = .ok (.putfield 19, 3) := by decide +kernel
theorem d1_25 : decode prog_11_method_1_code 25 = .ok (.return_, 1) := by decide +kernel
theorem ef_1 (m : MethodId) (r0 : Addr) : entryFrame m #[(.ref r0)] 1 = mkF m 0 #[oA r0] [] := by first | (simp [entryFrame, mkF, argsToLocals, Value.category]; done) | rfl
theorem pn_0 : plainName "com/example/meter/meter/store/Spans" = true := by first | (simp [plainName, overriddenIn]; done) | decide +kernel
theorem pd_0 : parseMethodDescriptor "()V" = some ⟨[], none⟩ := by decide +kernel
theorem d8_0 : decode prog_11_method_7_code 0 = .ok (.aload_n 0, 1) := by decide +kernel
theorem d8_1 : decode prog_11_method_7_code 1 = .ok (.getfield 73, 3) := by decide +kernel
theorem d8_4 : decode prog_11_method_7_code 4 = .ok (.aload_n 0, 1) := by decide +kernel
theorem d8_5 : decode prog_11_method_7_code 5 = .ok (.getfield 22, 3) := by decide +kernel
theorem d8_8 : decode prog_11_method_7_code 8 = .ok (.if_icmp .ne 9, 3) := by decide +kernel
theorem d8_11 : decode prog_11_method_7_code 11 = .ok (.ldc2_w 84, 3) := by decide +kernel
theorem d8_14 : decode prog_11_method_7_code 14 = .ok (.goto 14, 3) := by decide +kernel
theorem d8_28 : decode prog_11_method_7_code 28 = .ok (.lreturn, 1) := by decide +kernel
theorem ef_8 (m : MethodId) (r0 : Addr) : entryFrame m #[(.ref r0)] 1 = mkF m 0 #[oA r0] [] := by first | (simp [entryFrame, mkF, argsToLocals, Value.category]; done) | rfl
theorem pd_1 : parseMethodDescriptor "()J" = some ⟨[], some .long⟩ := by decide +kernel
theorem d9_0 : decode prog_11_method_10_code 0 = .ok (.aload_n 0, 1) := by decide +kernel
theorem d9_1 : decode prog_11_method_10_code 1 = .ok (.getfield 73, 3) := by decide +kernel
theorem d9_4 : decode prog_11_method_10_code 4 = .ok (.aload_n 0, 1) := by decide +kernel
theorem d9_5 : decode prog_11_method_10_code 5 = .ok (.getfield 22, 3) := by decide +kernel
theorem d9_8 : decode prog_11_method_10_code 8 = .ok (.if_icmp .ge 43, 3) := by decide +kernel
theorem d9_51 : decode prog_11_method_10_code 51 = .ok (.return_, 1) := by decide +kernel
theorem ef_9 (m : MethodId) (r0 : Addr) (q1 : Int64) : entryFrame m #[(.ref r0), (.long q1)] 3 = mkF m 0 #[oA r0, oJ q1, oS] [] := by first | (simp [entryFrame, mkF, argsToLocals, Value.category]; done) | rfl
theorem pd_2 : parseMethodDescriptor "(J)V" = some ⟨[.long], none⟩ := by decide +kernel
theorem d3_0 : decode prog_11_method_9_code 0 = .ok (.aload_n 0, 1) := by decide +kernel
theorem d3_1 : decode prog_11_method_9_code 1 = .ok (.getfield 22, 3) := by decide +kernel
theorem d3_4 : decode prog_11_method_9_code 4 = .ok (.aload_n 0, 1) := by decide +kernel
theorem d3_5 : decode prog_11_method_9_code 5 = .ok (.getfield 16, 3) := by decide +kernel
theorem d3_8 : decode prog_11_method_9_code 8 = .ok (.arraylength, 1) := by decide +kernel
theorem d3_9 : decode prog_11_method_9_code 9 = .ok (.if_icmp .ne 7, 3) := by decide +kernel
theorem d3_12 : decode prog_11_method_9_code 12 = .ok (.aload_n 0, 1) := by decide +kernel
theorem d3_13 : decode prog_11_method_9_code 13 = .ok (.invokevirtual 86, 3) := by decide +kernel
theorem d4_0 : decode prog_11_method_15_code 0 = .ok (.aload_n 0, 1) := by decide +kernel
theorem d4_1 : decode prog_11_method_15_code 1 = .ok (.getfield 22, 3) := by decide +kernel
theorem d4_4 : decode prog_11_method_15_code 4 = .ok (.aload_n 0, 1) := by decide +kernel
theorem d4_5 : decode prog_11_method_15_code 5 = .ok (.getfield 73, 3) := by decide +kernel
theorem d4_8 : decode prog_11_method_15_code 8 = .ok (.isub, 1) := by decide +kernel
theorem d4_9 : decode prog_11_method_15_code 9 = .ok (.istore_n 1, 1) := by decide +kernel
theorem d4_10 : decode prog_11_method_15_code 10 = .ok (.aload_n 0, 1) := by decide +kernel
theorem d4_11 : decode prog_11_method_15_code 11 = .ok (.getfield 16, 3) := by decide +kernel
theorem d4_14 : decode prog_11_method_15_code 14 = .ok (.arraylength, 1) := by decide +kernel
theorem d4_15 : decode prog_11_method_15_code 15 = .ok (.iload_n 1, 1) := by decide +kernel
theorem d4_16 : decode prog_11_method_15_code 16 = .ok (.isub, 1) := by decide +kernel
theorem d4_17 : decode prog_11_method_15_code 17 = .ok (.istore_n 2, 1) := by decide +kernel
theorem d4_18 : decode prog_11_method_15_code 18 = .ok (.iload_n 2, 1) := by decide +kernel
theorem d4_19 : decode prog_11_method_15_code 19 = .ok (.aload_n 0, 1) := by decide +kernel
theorem d4_20 : decode prog_11_method_15_code 20 = .ok (.getfield 16, 3) := by decide +kernel
theorem d4_23 : decode prog_11_method_15_code 23 = .ok (.arraylength, 1) := by decide +kernel
theorem d4_24 : decode prog_11_method_15_code 24 = .ok (.bipush 8, 2) := by decide +kernel
theorem d4_26 : decode prog_11_method_15_code 26 = .ok (.idiv, 1) := by decide +kernel
theorem d4_27 : decode prog_11_method_15_code 27 = .ok (.if_icmp .le 11, 3) := by decide +kernel
theorem d4_38 : decode prog_11_method_15_code 38 = .ok (.bipush 16, 2) := by decide +kernel
theorem d4_40 : decode prog_11_method_15_code 40 = .ok (.iconst 2, 1) := by decide +kernel
theorem d4_41 : decode prog_11_method_15_code 41 = .ok (.aload_n 0, 1) := by decide +kernel
theorem d4_42 : decode prog_11_method_15_code 42 = .ok (.getfield 16, 3) := by decide +kernel
theorem d4_45 : decode prog_11_method_15_code 45 = .ok (.arraylength, 1) := by decide +kernel
theorem d4_46 : decode prog_11_method_15_code 46 = .ok (.imul, 1) := by decide +kernel
theorem d4_47 : decode prog_11_method_15_code 47 = .ok (.invokestatic 97, 3) := by decide +kernel
theorem d5_0 : decode jdk_29_method_65_code 0 = .ok (.iload_n 0, 1) := by decide +kernel
theorem d5_1 : decode jdk_29_method_65_code 1 = .ok (.iload_n 1, 1) := by decide +kernel
theorem d5_2 : decode jdk_29_method_65_code 2 = .ok (.if_icmp .lt 7, 3) := by decide +kernel
theorem d5_5 : decode jdk_29_method_65_code 5 = .ok (.iload_n 0, 1) := by decide +kernel
theorem d5_6 : decode jdk_29_method_65_code 6 = .ok (.goto 4, 3) := by decide +kernel
theorem d5_10 : decode jdk_29_method_65_code 10 = .ok (.ireturn, 1) := by decide +kernel
theorem ef_5 (m : MethodId) (x0 : Int32) (x1 : Int32) : entryFrame m #[(.int x0), (.int x1)] 2 = mkF m 0 #[oI x0, oI x1] [] := by first | (simp [entryFrame, mkF, argsToLocals, Value.category]; done) | rfl
theorem pd_3 : parseMethodDescriptor "(II)I" = some ⟨[.int, .int], some .int⟩ := by decide +kernel
theorem d4_50 : decode prog_11_method_15_code 50 = .ok (.istore_n 3, 1) := by decide +kernel
theorem d4_51 : decode prog_11_method_15_code 51 = .ok (.aload_n 0, 1) := by decide +kernel
theorem d4_52 : decode prog_11_method_15_code 52 = .ok (.aload_n 0, 1) := by decide +kernel
theorem d4_53 : decode prog_11_method_15_code 53 = .ok (.aload_n 0, 1) := by decide +kernel
theorem d4_54 : decode prog_11_method_15_code 54 = .ok (.getfield 13, 3) := by decide +kernel
theorem d4_57 : decode prog_11_method_15_code 57 = .ok (.iload_n 3, 1) := by decide +kernel
theorem d4_58 : decode prog_11_method_15_code 58 = .ok (.invokevirtual 101, 3) := by decide +kernel
theorem d6_0 : decode prog_11_method_16_code 0 = .ok (.iload_n 2, 1) := by decide +kernel
theorem d6_1 : decode prog_11_method_16_code 1 = .ok (.aload_n 1, 1) := by decide +kernel
theorem d6_2 : decode prog_11_method_16_code 2 = .ok (.arraylength, 1) := by decide +kernel
theorem d6_3 : decode prog_11_method_16_code 3 = .ok (.if_icmp .ne 7, 3) := by decide +kernel
theorem d6_10 : decode prog_11_method_16_code 10 = .ok (.iload_n 2, 1) := by decide +kernel
theorem d6_11 : decode prog_11_method_16_code 11 = .ok (.newarray .long, 2) := by decide +kernel
theorem d6_13 : decode prog_11_method_16_code 13 = .ok (.astore_n 3, 1) := by decide +kernel
theorem d6_14 : decode prog_11_method_16_code 14 = .ok (.aload_n 1, 1) := by decide +kernel
theorem d6_15 : decode prog_11_method_16_code 15 = .ok (.aload_n 0, 1) := by decide +kernel
theorem d6_16 : decode prog_11_method_16_code 16 = .ok (.getfield 73, 3) := by decide +kernel
theorem d6_19 : decode prog_11_method_16_code 19 = .ok (.aload_n 3, 1) := by decide +kernel
theorem d6_20 : decode prog_11_method_16_code 20 = .ok (.iconst 0, 1) := by decide +kernel
theorem d6_21 : decode prog_11_method_16_code 21 = .ok (.aload_n 0, 1) := by decide +kernel
theorem d6_22 : decode prog_11_method_16_code 22 = .ok (.getfield 22, 3) := by decide +kernel
theorem d6_25 : decode prog_11_method_16_code 25 = .ok (.aload_n 0, 1) := by decide +kernel
theorem d6_26 : decode prog_11_method_16_code 26 = .ok (.getfield 73, 3) := by decide +kernel
theorem d6_29 : decode prog_11_method_16_code 29 = .ok (.isub, 1) := by decide +kernel
theorem d6_30 : decode prog_11_method_16_code 30 = .ok (.invokestatic 105, 3) := by decide +kernel
theorem d6_33 : decode prog_11_method_16_code 33 = .ok (.aload_n 3, 1) := by decide +kernel
theorem d6_34 : decode prog_11_method_16_code 34 = .ok (.areturn, 1) := by decide +kernel
theorem ef_6 (m : MethodId) (r0 : Addr) (r1 : Addr) (x2 : Int32) : entryFrame m #[(.ref r0), (.ref r1), (.int x2)] 4 = mkF m 0 #[oA r0, oA r1, oI x2, oU] [] := by first | (simp [entryFrame, mkF, argsToLocals, Value.category]; done) | rfl
theorem pd_4 : parseMethodDescriptor "([JI)[J" = some ⟨[(.array .long), .int], some (.array .long)⟩ := by decide +kernel
theorem d4_61 : decode prog_11_method_15_code 61 = .ok (.putfield 13, 3) := by decide +kernel
theorem d4_64 : decode prog_11_method_15_code 64 = .ok (.aload_n 0, 1) := by decide +kernel
theorem d4_65 : decode prog_11_method_15_code 65 = .ok (.aload_n 0, 1) := by decide +kernel
theorem d4_66 : decode prog_11_method_15_code 66 = .ok (.aload_n 0, 1) := by decide +kernel
theorem d4_67 : decode prog_11_method_15_code 67 = .ok (.getfield 16, 3) := by decide +kernel
theorem d4_70 : decode prog_11_method_15_code 70 = .ok (.iload_n 3, 1) := by decide +kernel
theorem d4_71 : decode prog_11_method_15_code 71 = .ok (.invokevirtual 101, 3) := by decide +kernel
theorem d4_74 : decode prog_11_method_15_code 74 = .ok (.putfield 16, 3) := by decide +kernel
theorem d4_77 : decode prog_11_method_15_code 77 = .ok (.aload_n 0, 1) := by decide +kernel
theorem d4_78 : decode prog_11_method_15_code 78 = .ok (.aload_n 0, 1) := by decide +kernel
theorem d4_79 : decode prog_11_method_15_code 79 = .ok (.aload_n 0, 1) := by decide +kernel
theorem d4_80 : decode prog_11_method_15_code 80 = .ok (.getfield 19, 3) := by decide +kernel
theorem d4_83 : decode prog_11_method_15_code 83 = .ok (.iload_n 3, 1) := by decide +kernel
theorem d4_84 : decode prog_11_method_15_code 84 = .ok (.invokevirtual 101, 3) := by decide +kernel
theorem d4_87 : decode prog_11_method_15_code 87 = .ok (.putfield 19, 3) := by decide +kernel
theorem d4_90 : decode prog_11_method_15_code 90 = .ok (.aload_n 0, 1) := by decide +kernel
theorem d4_91 : decode prog_11_method_15_code 91 = .ok (.iconst 0, 1) := by decide +kernel
theorem d4_92 : decode prog_11_method_15_code 92 = .ok (.putfield 73, 3) := by decide +kernel
theorem d4_95 : decode prog_11_method_15_code 95 = .ok (.aload_n 0, 1) := by decide +kernel
theorem d4_96 : decode prog_11_method_15_code 96 = .ok (.iload_n 1, 1) := by decide +kernel
theorem d4_97 : decode prog_11_method_15_code 97 = .ok (.putfield 22, 3) := by decide +kernel
theorem d4_100 : decode prog_11_method_15_code 100 = .ok (.return_, 1) := by decide +kernel
theorem ef_4 (m : MethodId) (r0 : Addr) : entryFrame m #[(.ref r0)] 4 = mkF m 0 #[oA r0, oU, oU, oU] [] := by first | (simp [entryFrame, mkF, argsToLocals, Value.category]; done) | rfl
theorem d3_16 : decode prog_11_method_9_code 16 = .ok (.aload_n 0, 1) := by decide +kernel
theorem d3_17 : decode prog_11_method_9_code 17 = .ok (.getfield 13, 3) := by decide +kernel
theorem d3_20 : decode prog_11_method_9_code 20 = .ok (.aload_n 0, 1) := by decide +kernel
theorem d3_21 : decode prog_11_method_9_code 21 = .ok (.getfield 22, 3) := by decide +kernel
theorem d3_24 : decode prog_11_method_9_code 24 = .ok (.lload_n 1, 1) := by decide +kernel
theorem d3_25 : decode prog_11_method_9_code 25 = .ok (.lastore, 1) := by decide +kernel
theorem d3_26 : decode prog_11_method_9_code 26 = .ok (.aload_n 0, 1) := by decide +kernel
theorem d3_27 : decode prog_11_method_9_code 27 = .ok (.getfield 16, 3) := by decide +kernel
theorem d3_30 : decode prog_11_method_9_code 30 = .ok (.aload_n 0, 1) := by decide +kernel
theorem d3_31 : decode prog_11_method_9_code 31 = .ok (.getfield 22, 3) := by decide +kernel
theorem d3_34 : decode prog_11_method_9_code 34 = .ok (.lload_n 1, 1) := by decide +kernel
theorem d3_35 : decode prog_11_method_9_code 35 = .ok (.lastore, 1) := by decide +kernel
theorem d3_36 : decode prog_11_method_9_code 36 = .ok (.aload_n 0, 1) := by decide +kernel
theorem d3_37 : decode prog_11_method_9_code 37 = .ok (.getfield 19, 3) := by decide +kernel
theorem d3_40 : decode prog_11_method_9_code 40 = .ok (.aload_n 0, 1) := by decide +kernel
theorem d3_41 : decode prog_11_method_9_code 41 = .ok (.getfield 22, 3) := by decide +kernel
theorem d3_44 : decode prog_11_method_9_code 44 = .ok (.aload_n 0, 1) := by decide +kernel
theorem d3_45 : decode prog_11_method_9_code 45 = .ok (.aload_n 0, 1) := by decide +kernel
theorem d3_46 : decode prog_11_method_9_code 46 = .ok (.getfield 22, 3) := by decide +kernel
theorem d3_49 : decode prog_11_method_9_code 49 = .ok (.invokevirtual 76, 3) := by decide +kernel
theorem d7_0 : decode prog_11_method_14_code 0 = .ok (.iload_n 1, 1) := by decide +kernel
theorem d7_1 : decode prog_11_method_14_code 1 = .ok (.aload_n 0, 1) := by decide +kernel
theorem d7_2 : decode prog_11_method_14_code 2 = .ok (.getfield 73, 3) := by decide +kernel
theorem d7_5 : decode prog_11_method_14_code 5 = .ok (.if_icmp .ne 10, 3) := by decide +kernel
theorem d7_8 : decode prog_11_method_14_code 8 = .ok (.aload_n 0, 1) := by decide +kernel
theorem d7_9 : decode prog_11_method_14_code 9 = .ok (.getfield 80, 3) := by decide +kernel
theorem d7_12 : decode prog_11_method_14_code 12 = .ok (.goto 11, 3) := by decide +kernel
theorem d7_23 : decode prog_11_method_14_code 23 = .ok (.lreturn, 1) := by decide +kernel
theorem ef_7 (m : MethodId) (r0 : Addr) (x1 : Int32) : entryFrame m #[(.ref r0), (.int x1)] 2 = mkF m 0 #[oA r0, oI x1] [] := by first | (simp [entryFrame, mkF, argsToLocals, Value.category]; done) | rfl
theorem pd_5 : parseMethodDescriptor "(I)J" = some ⟨[.int], some .long⟩ := by decide +kernel
theorem d3_52 : decode prog_11_method_9_code 52 = .ok (.lload_n 3, 1) := by decide +kernel
theorem d3_53 : decode prog_11_method_9_code 53 = .ok (.ladd, 1) := by decide +kernel
theorem d3_54 : decode prog_11_method_9_code 54 = .ok (.lastore, 1) := by decide +kernel
theorem d3_55 : decode prog_11_method_9_code 55 = .ok (.aload_n 0, 1) := by decide +kernel
theorem d3_56 : decode prog_11_method_9_code 56 = .ok (.dup, 1) := by decide +kernel
theorem d3_57 : decode prog_11_method_9_code 57 = .ok (.getfield 22, 3) := by decide +kernel
theorem d3_60 : decode prog_11_method_9_code 60 = .ok (.iconst 1, 1) := by decide +kernel
theorem d3_61 : decode prog_11_method_9_code 61 = .ok (.iadd, 1) := by decide +kernel
theorem d3_62 : decode prog_11_method_9_code 62 = .ok (.putfield 22, 3) := by decide +kernel
theorem d3_65 : decode prog_11_method_9_code 65 = .ok (.return_, 1) := by decide +kernel
theorem ef_3 (m : MethodId) (r0 : Addr) (q1 : Int64) (q2 : Int64) : entryFrame m #[(.ref r0), (.long q1), (.long q2)] 5 = mkF m 0 #[oA r0, oJ q1, oS, oJ q2, oS] [] := by first | (simp [entryFrame, mkF, argsToLocals, Value.category]; done) | rfl
theorem pd_6 : parseMethodDescriptor "(JJ)V" = some ⟨[.long, .long], none⟩ := by decide +kernel
theorem d8_17 : decode prog_11_method_7_code 17 = .ok (.aload_n 0, 1) := by decide +kernel
theorem d8_18 : decode prog_11_method_7_code 18 = .ok (.getfield 16, 3) := by decide +kernel
theorem d8_21 : decode prog_11_method_7_code 21 = .ok (.aload_n 0, 1) := by decide +kernel
theorem d8_22 : decode prog_11_method_7_code 22 = .ok (.getfield 22, 3) := by decide +kernel
theorem d8_25 : decode prog_11_method_7_code 25 = .ok (.iconst 1, 1) := by decide +kernel
theorem d8_26 : decode prog_11_method_7_code 26 = .ok (.isub, 1) := by decide +kernel
theorem d8_27 : decode prog_11_method_7_code 27 = .ok (.laload, 1) := by decide +kernel
theorem d10_0 : decode prog_11_method_12_code 0 = .ok (.aload_n 0, 1) := by decide +kernel
theorem d10_1 : decode prog_11_method_12_code 1 = .ok (.getfield 19, 3) := by decide +kernel
theorem d10_4 : decode prog_11_method_12_code 4 = .ok (.aload_n 0, 1) := by decide +kernel
theorem d10_5 : decode prog_11_method_12_code 5 = .ok (.getfield 22, 3) := by decide +kernel
theorem d10_8 : decode prog_11_method_12_code 8 = .ok (.iconst 1, 1) := by decide +kernel
theorem d10_9 : decode prog_11_method_12_code 9 = .ok (.isub, 1) := by decide +kernel
theorem d10_10 : decode prog_11_method_12_code 10 = .ok (.laload, 1) := by decide +kernel
theorem d10_11 : decode prog_11_method_12_code 11 = .ok (.lstore_n 1, 1) := by decide +kernel
theorem d10_12 : decode prog_11_method_12_code 12 = .ok (.aload_n 0, 1) := by decide +kernel
theorem d10_13 : decode prog_11_method_12_code 13 = .ok (.getfield 22, 3) := by decide +kernel
theorem d10_16 : decode prog_11_method_12_code 16 = .ok (.iconst 1, 1) := by decide +kernel
theorem d10_17 : decode prog_11_method_12_code 17 = .ok (.isub, 1) := by decide +kernel
theorem d10_18 : decode prog_11_method_12_code 18 = .ok (.istore_n 3, 1) := by decide +kernel
theorem d10_19 : decode prog_11_method_12_code 19 = .ok (.aload_n 0, 1) := by decide +kernel
theorem d10_20 : decode prog_11_method_12_code 20 = .ok (.getfield 22, 3) := by decide +kernel
theorem d10_23 : decode prog_11_method_12_code 23 = .ok (.iconst 2, 1) := by decide +kernel
theorem d10_24 : decode prog_11_method_12_code 24 = .ok (.isub, 1) := by decide +kernel
theorem d10_25 : decode prog_11_method_12_code 25 = .ok (.istore 4, 2) := by decide +kernel
theorem d10_27 : decode prog_11_method_12_code 27 = .ok (.iload 4, 2) := by decide +kernel
theorem d10_29 : decode prog_11_method_12_code 29 = .ok (.aload_n 0, 1) := by decide +kernel
theorem d10_30 : decode prog_11_method_12_code 30 = .ok (.getfield 73, 3) := by decide +kernel
theorem d10_33 : decode prog_11_method_12_code 33 = .ok (.if_icmp .lt 103, 3) := by decide +kernel
theorem d10_136 : decode prog_11_method_12_code 136 = .ok (.aload_n 0, 1) := by decide +kernel
theorem d10_137 : decode prog_11_method_12_code 137 = .ok (.iload_n 3, 1) := by decide +kernel
theorem d10_138 : decode prog_11_method_12_code 138 = .ok (.putfield 73, 3) := by decide +kernel
theorem d10_141 : decode prog_11_method_12_code 141 = .ok (.return_, 1) := by decide +kernel
theorem ef_10 (m : MethodId) (r0 : Addr) : entryFrame m #[(.ref r0)] 9 = mkF m 0 #[oA r0, oU, oU, oU, oU, oU, oU, oU, oU] [] := by first | (simp [entryFrame, mkF, argsToLocals, Value.category]; done) | rfl
theorem d9_11 : decode prog_11_method_10_code 11 = .ok (.aload_n 0, 1) := by decide +kernel
theorem d9_12 : decode prog_11_method_10_code 12 = .ok (.getfield 16, 3) := by decide +kernel
theorem d9_15 : decode prog_11_method_10_code 15 = .ok (.aload_n 0, 1) := by decide +kernel
theorem d9_16 : decode prog_11_method_10_code 16 = .ok (.getfield 73, 3) := by decide +kernel
theorem d9_19 : decode prog_11_method_10_code 19 = .ok (.laload, 1) := by decide +kernel
theorem d9_20 : decode prog_11_method_10_code 20 = .ok (.lload_n 1, 1) := by decide +kernel
theorem d9_21 : decode prog_11_method_10_code 21 = .ok (.lcmp, 1) := by decide +kernel
theorem d9_22 : decode prog_11_method_10_code 22 = .ok (.ifCond .gt 29, 3) := by decide +kernel
theorem d9_25 : decode prog_11_method_10_code 25 = .ok (.aload_n 0, 1) := by decide +kernel
theorem d9_26 : decode prog_11_method_10_code 26 = .ok (.aload_n 0, 1) := by decide +kernel
theorem d9_27 : decode prog_11_method_10_code 27 = .ok (.getfield 19, 3) := by decide +kernel
theorem d9_30 : decode prog_11_method_10_code 30 = .ok (.aload_n 0, 1) := by decide +kernel
theorem d9_31 : decode prog_11_method_10_code 31 = .ok (.getfield 73, 3) := by decide +kernel
theorem d9_34 : decode prog_11_method_10_code 34 = .ok (.laload, 1) := by decide +kernel
theorem d9_35 : decode prog_11_method_10_code 35 = .ok (.putfield 80, 3) := by decide +kernel
theorem d9_38 : decode prog_11_method_10_code 38 = .ok (.aload_n 0, 1) := by decide +kernel
theorem d9_39 : decode prog_11_method_10_code 39 = .ok (.dup, 1) := by decide +kernel
theorem d9_40 : decode prog_11_method_10_code 40 = .ok (.getfield 73, 3) := by decide +kernel
theorem d9_43 : decode prog_11_method_10_code 43 = .ok (.iconst 1, 1) := by decide +kernel
theorem d9_44 : decode prog_11_method_10_code 44 = .ok (.iadd, 1) := by decide +kernel
theorem d9_45 : decode prog_11_method_10_code 45 = .ok (.putfield 73, 3) := by decide +kernel
theorem d9_48 : decode prog_11_method_10_code 48 = .ok (.goto (-48), 3) := by decide +kernel
theorem d7_15 : decode prog_11_method_14_code 15 = .ok (.aload_n 0, 1) := by decide +kernel
theorem d7_16 : decode prog_11_method_14_code 16 = .ok (.getfield 19, 3) := by decide +kernel
theorem d7_19 : decode prog_11_method_14_code 19 = .ok (.iload_n 1, 1) := by decide +kernel
theorem d7_20 : decode prog_11_method_14_code 20 = .ok (.iconst 1, 1) := by decide +kernel
theorem d7_21 : decode prog_11_method_14_code 21 = .ok (.isub, 1) := by decide +kernel
theorem d7_22 : decode prog_11_method_14_code 22 = .ok (.laload, 1) := by decide +kernel
theorem d10_36 : decode prog_11_method_12_code 36 = .ok (.aload_n 0, 1) := by decide +kernel
theorem d10_37 : decode prog_11_method_12_code 37 = .ok (.getfield 19, 3) := by decide +kernel
theorem d10_40 : decode prog_11_method_12_code 40 = .ok (.iload_n 3, 1) := by decide +kernel
theorem d10_41 : decode prog_11_method_12_code 41 = .ok (.laload, 1) := by decide +kernel
theorem d10_42 : decode prog_11_method_12_code 42 = .ok (.aload_n 0, 1) := by decide +kernel
theorem d10_43 : decode prog_11_method_12_code 43 = .ok (.iload 4, 2) := by decide +kernel
theorem d10_45 : decode prog_11_method_12_code 45 = .ok (.invokevirtual 76, 3) := by decide +kernel
theorem d10_48 : decode prog_11_method_12_code 48 = .ok (.lsub, 1) := by decide +kernel
theorem d10_49 : decode prog_11_method_12_code 49 = .ok (.lstore 5, 2) := by decide +kernel
theorem d10_51 : decode prog_11_method_12_code 51 = .ok (.lload_n 1, 1) := by decide +kernel
theorem d10_52 : decode prog_11_method_12_code 52 = .ok (.aload_n 0, 1) := by decide +kernel
theorem d10_53 : decode prog_11_method_12_code 53 = .ok (.getfield 19, 3) := by decide +kernel
theorem d10_56 : decode prog_11_method_12_code 56 = .ok (.iload_n 3, 1) := by decide +kernel
theorem d10_57 : decode prog_11_method_12_code 57 = .ok (.laload, 1) := by decide +kernel
theorem d10_58 : decode prog_11_method_12_code 58 = .ok (.lsub, 1) := by decide +kernel
theorem d10_59 : decode prog_11_method_12_code 59 = .ok (.lstore 7, 2) := by decide +kernel
theorem d10_61 : decode prog_11_method_12_code 61 = .ok (.lload 5, 2) := by decide +kernel
theorem d10_63 : decode prog_11_method_12_code 63 = .ok (.lload 7, 2) := by decide +kernel
theorem d10_65 : decode prog_11_method_12_code 65 = .ok (.invokestatic 46, 3) := by decide +kernel
theorem d11_0 : decode prog_11_method_13_code 0 = .ok (.ldc2_w 56, 3) := by decide +kernel
theorem d11_3 : decode prog_11_method_13_code 3 = .ok (.lload_n 0, 1) := by decide +kernel
theorem d11_4 : decode prog_11_method_13_code 4 = .ok (.ldc2_w 95, 3) := by decide +kernel
theorem d11_7 : decode prog_11_method_13_code 7 = .ok (.ldiv, 1) := by decide +kernel
theorem d11_8 : decode prog_11_method_13_code 8 = .ok (.lmul, 1) := by decide +kernel
theorem d11_9 : decode prog_11_method_13_code 9 = .ok (.ldc2_w 56, 3) := by decide +kernel
theorem d11_12 : decode prog_11_method_13_code 12 = .ok (.ladd, 1) := by decide +kernel
theorem d11_13 : decode prog_11_method_13_code 13 = .ok (.lreturn, 1) := by decide +kernel
theorem ef_11 (m : MethodId) (q0 : Int64) : entryFrame m #[(.long q0)] 2 = mkF m 0 #[oJ q0, oS] [] := by first | (simp [entryFrame, mkF, argsToLocals, Value.category]; done) | rfl
theorem pd_7 : parseMethodDescriptor "(J)J" = some ⟨[.long], some .long⟩ := by decide +kernel
theorem d10_68 : decode prog_11_method_12_code 68 = .ok (.lcmp, 1) := by decide +kernel
theorem d10_69 : decode prog_11_method_12_code 69 = .ok (.ifCond .gt 19, 3) := by decide +kernel
theorem d10_88 : decode prog_11_method_12_code 88 = .ok (.iinc 3 (-1), 3) := by decide +kernel
theorem d10_91 : decode prog_11_method_12_code 91 = .ok (.aload_n 0, 1) := by decide +kernel
theorem d10_92 : decode prog_11_method_12_code 92 = .ok (.getfield 13, 3) := by decide +kernel
theorem d10_95 : decode prog_11_method_12_code 95 = .ok (.iload_n 3, 1) := by decide +kernel
theorem d10_96 : decode prog_11_method_12_code 96 = .ok (.aload_n 0, 1) := by decide +kernel
theorem d10_97 : decode prog_11_method_12_code 97 = .ok (.getfield 13, 3) := by decide +kernel
theorem d10_100 : decode prog_11_method_12_code 100 = .ok (.iload 4, 2) := by decide +kernel
theorem d10_102 : decode prog_11_method_12_code 102 = .ok (.laload, 1) := by decide +kernel
theorem d10_103 : decode prog_11_method_12_code 103 = .ok (.lastore, 1) := by decide +kernel
theorem d10_104 : decode prog_11_method_12_code 104 = .ok (.aload_n 0, 1) := by decide +kernel
theorem d10_105 : decode prog_11_method_12_code 105 = .ok (.getfield 16, 3) := by decide +kernel
theorem d10_108 : decode prog_11_method_12_code 108 = .ok (.iload_n 3, 1) := by decide +kernel
theorem d10_109 : decode prog_11_method_12_code 109 = .ok (.aload_n 0, 1) := by decide +kernel
theorem d10_110 : decode prog_11_method_12_code 110 = .ok (.getfield 16, 3) := by decide +kernel
theorem d10_113 : decode prog_11_method_12_code 113 = .ok (.iload 4, 2) := by decide +kernel
theorem d10_115 : decode prog_11_method_12_code 115 = .ok (.laload, 1) := by decide +kernel
theorem d10_116 : decode prog_11_method_12_code 116 = .ok (.lastore, 1) := by decide +kernel
theorem d10_117 : decode prog_11_method_12_code 117 = .ok (.aload_n 0, 1) := by decide +kernel
theorem d10_118 : decode prog_11_method_12_code 118 = .ok (.getfield 19, 3) := by decide +kernel
theorem d10_121 : decode prog_11_method_12_code 121 = .ok (.iload_n 3, 1) := by decide +kernel
theorem d10_122 : decode prog_11_method_12_code 122 = .ok (.aload_n 0, 1) := by decide +kernel
theorem d10_123 : decode prog_11_method_12_code 123 = .ok (.getfield 19, 3) := by decide +kernel
theorem d10_126 : decode prog_11_method_12_code 126 = .ok (.iload 4, 2) := by decide +kernel
theorem d10_128 : decode prog_11_method_12_code 128 = .ok (.laload, 1) := by decide +kernel
theorem d10_129 : decode prog_11_method_12_code 129 = .ok (.lastore, 1) := by decide +kernel
theorem d10_130 : decode prog_11_method_12_code 130 = .ok (.iinc 4 (-1), 3) := by decide +kernel
theorem d10_133 : decode prog_11_method_12_code 133 = .ok (.goto (-106), 3) := by decide +kernel
theorem d10_72 : decode prog_11_method_12_code 72 = .ok (.aload_n 0, 1) := by decide +kernel
theorem d10_73 : decode prog_11_method_12_code 73 = .ok (.getfield 13, 3) := by decide +kernel
theorem d10_76 : decode prog_11_method_12_code 76 = .ok (.iload_n 3, 1) := by decide +kernel
theorem d10_77 : decode prog_11_method_12_code 77 = .ok (.aload_n 0, 1) := by decide +kernel
theorem d10_78 : decode prog_11_method_12_code 78 = .ok (.getfield 13, 3) := by decide +kernel
theorem d10_81 : decode prog_11_method_12_code 81 = .ok (.iload 4, 2) := by decide +kernel
theorem d10_83 : decode prog_11_method_12_code 83 = .ok (.laload, 1) := by decide +kernel
theorem d10_84 : decode prog_11_method_12_code 84 = .ok (.lastore, 1) := by decide +kernel
theorem d10_85 : decode prog_11_method_12_code 85 = .ok (.goto 45, 3) := by decide +kernel
theorem ef_0 (m : MethodId) (q0 : Int64) (q1 : Int64) (q2 : Int64) (q3 : Int64) (x4 : Int32) (x5 : Int32) : entryFrame m #[(.long q0), (.long q1), (.long q2), (.long q3), (.int x4), (.int x5)] maxLocals = mkF m 0 #[oJ q0, oS, oJ q1, oS, oJ q2, oS, oJ q3, oS, oI x4, oI x5, oU, oU, oU, oU, oU, oU, oU, oU, oU, oU, oU, oU, oU, oU, oU, oU, oU, oU, oU, oU, oU, oU, oU, oU] [] := by first | (simp [entryFrame, mkF, argsToLocals, Value.category, maxLocals]; done) | rfl
theorem pn_1 : plainName "com/example/meter/meter/store/SpansNewestSecondPinLaw" = true := by first | (simp [plainName, overriddenIn]; done) | decide +kernel
def Q_rm1_1 (Z : State) (w_NONE k_NONE : Addr) (c0 : Addr) (h0 : Heap) (n0 : Nat) (v : Option Value) (h : Heap) (L : List Loc) : Prop := v = none ∧ Fr n0 L ∧ Keep h0 h [c0] ∧ Exa Z h c0 "com/example/meter/meter/store/Spans" ∧ Fld Z h c0 "com/example/meter/meter/store/Spans" "droppedTotal" "J" (.long (0 : Int64)) ∧ Fld Z h c0 "com/example/meter/meter/store/Spans" "end" "I" (.int (0 : Int32)) ∧ Fld Z h c0 "com/example/meter/meter/store/Spans" "firsts" "[J" (.ref w_NONE) ∧ Fld Z h c0 "com/example/meter/meter/store/Spans" "head" "I" (.int (0 : Int32)) ∧ Fld Z h c0 "com/example/meter/meter/store/Spans" "lasts" "[J" (.ref w_NONE) ∧ Fld Z h c0 "com/example/meter/meter/store/Spans" "totals" "[J" (.ref w_NONE)
set_option maxRecDepth 65536 in
set_option maxHeartbeats 40000000 in
theorem rm1_1 (l : Launch) (Z : State) (a0 : Array Value) (hw : ∀ d ∈ tables_1, d.before a0 Z = true) (ws : List Jvm.Cond) (w_NONE k_NONE : Addr) (W : own_W Z w_NONE k_NONE) (c0 : Addr) (h0 : Heap) (n0 : Nat) (O0 : Old Z n0 h0) (E_c0 : Exa Z h0 c0 "com/example/meter/meter/store/Spans") (F_c0_droppedTotal : Fld Z h0 c0 "com/example/meter/meter/store/Spans" "droppedTotal" "J" (.long (0 : Int64))) (F_c0_end : Fld Z h0 c0 "com/example/meter/meter/store/Spans" "end" "I" (.int (0 : Int32))) (F_c0_firsts : Fld Z h0 c0 "com/example/meter/meter/store/Spans" "firsts" "[J" .null) (F_c0_head : Fld Z h0 c0 "com/example/meter/meter/store/Spans" "head" "I" (.int (0 : Int32))) (F_c0_lasts : Fld Z h0 c0 "com/example/meter/meter/store/Spans" "lasts" "[J" .null) (F_c0_totals : Fld Z h0 c0 "com/example/meter/meter/store/Spans" "totals" "[J" .null) (n_c0 : n0 ≤ c0) :
    MetFree l (⟨"com/example/meter/meter/store/Spans", "<init>", "()V"⟩ : MethodName) (head1 (Jvm.Cond.code (⟨"com/example/meter/meter/store/Spans", "<init>", "()V"⟩ : MethodName) prog_11_method_1_code 1 none :: ws) ({ frames := 1, cells := 0, slots := 0, locals := 12 } : Room)) (fun a U => a = #[(.ref c0)] ∧ Z.Warmed39 U.vm ∧ U.heap = h0) (fun _ _ _ _ _ => True) (fun _ U o U' => ∃ v L, o = .returned v ∧ Q_rm1_1 Z w_NONE k_NONE c0 h0 n0 v U'.heap L ∧ FrameEnd U o U' L ({ frames := 1, cells := 0, slots := 0, locals := 12 } : Room).cells ({ frames := 1, cells := 0, slots := 0, locals := 12 } : Room).slots) := by
  refine MetFree.of_bodySF (plainFor_of_name pn_0) hisR ?_
  intro p e s m args below meth c s₁ Bd hml0 hP hK
  obtain ⟨rfl, hZ, hh⟩ := hP
  have hx := Bd.exec
  have hby := Bd.bytes
  have hml : c.maxLocals = 1 := hml0
  have hlk := BodyLoose.notSynchronized Bd
  have hret := Bd.returns
  have hown : s.vm.findClass "com/example/meter/meter/store/Spans" = some m.cls := findClass_of_methodNamed Bd.named
  have hnm := (name_of_methodNamed Bd.named Bd.method).1
  have X0 : Stand p l e ({ frames := 1, cells := 0, slots := 0, locals := 12 } : Room) s m #[(.ref c0)] below meth c s₁ [] 0 0 := Stand.of_body Bd
  have e0 : s₁.heap = h0 := by rw [← hh, Bd.state]; rfl
  have N0 := Fr.nil n0
  rw [ef_1 m c0]
  show Go p e below _ (s₁.setTop (mkF m 0 #[oA c0] []))
  refine own_aload_n 1 X0 hx hby d1_0 rfl rfl rfl ?_
  refine own_initO 4 0 X0 hx hby hZ hown (own_w hw 7 rfl) (own_w hw 8 rfl) (own_w hw 9 rfl) (by rw [hml]; rfl) d1_1 rfl e0 rfl (by decide) (by decide) ?_
  intro T27 X27 e27
  refine own_aload_n 5 X27 hx hby d1_4 rfl rfl rfl ?_
  refine own_getS 8 X27 hx hby hZ hown (own_w hw 10 rfl) e27 (W.1.ext O0.2) d1_5 rfl ?_
  intro T28 X28 e28
  refine own_putF 11 X28 hx hby hZ (.array .long) hown (own_w hw 12 rfl) e28 F_c0_firsts E_c0 (Or.inl (own_w hw 13 rfl)) (own_w hw 2 rfl) (by decide) rfl rfl d1_8 rfl ?_
  intro T29 h29 X29 e29 W29
  have E_c0_29 := E_c0.wr W29
  have F_c0_droppedTotal_29 := F_c0_droppedTotal.other W29 (Or.inr (slot_ne (Or.inl (own_w hw 49 rfl)) (Or.inl (own_w hw 13 rfl)) (by decide) (t := .long) (t' := (.array .long)) (by decide) (by decide)))
  have F_c0_end_29 := F_c0_end.other W29 (Or.inr (slot_ne (Or.inl (own_w hw 24 rfl)) (Or.inl (own_w hw 13 rfl)) (by decide) (t := .int) (t' := (.array .long)) (by decide) (by decide)))
  have F_c0_firsts_29 := F_c0_firsts.same W29
  have F_c0_head_29 := F_c0_head.other W29 (Or.inr (slot_ne (Or.inl (own_w hw 30 rfl)) (Or.inl (own_w hw 13 rfl)) (by decide) (t := .int) (t' := (.array .long)) (by decide) (by decide)))
  have F_c0_lasts_29 := F_c0_lasts.other W29 (Or.inr (slot_ne (Or.inl (own_w hw 15 rfl)) (Or.inl (own_w hw 13 rfl)) (by decide) (t := (.array .long)) (t' := (.array .long)) (by decide) (by decide)))
  have F_c0_totals_29 := F_c0_totals.other W29 (Or.inr (slot_ne (Or.inl (own_w hw 17 rfl)) (Or.inl (own_w hw 13 rfl)) (by decide) (t := (.array .long)) (t' := (.array .long)) (by decide) (by decide)))
  have K29 : Keep h0 h29 [c0] := (Keep.refl h0 [c0]).wr W29 (Or.inl (List.mem_of_getElem? (i := 0) rfl))
  have O29 := O0.wr W29 n_c0
  have N29 := Fr.snoc X29 N0 n_c0
  refine own_aload_n 12 X29 hx hby d1_11 rfl rfl rfl ?_
  refine own_getS 15 X29 hx hby hZ hown (own_w hw 10 rfl) e29 (W.1.ext O29.2) d1_12 rfl ?_
  intro T30 X30 e30
  refine own_putF 18 X30 hx hby hZ (.array .long) hown (own_w hw 14 rfl) e30 F_c0_lasts_29 E_c0_29 (Or.inl (own_w hw 15 rfl)) (own_w hw 2 rfl) (by decide) rfl rfl d1_15 rfl ?_
  intro T31 h31 X31 e31 W31
  have E_c0_31 := E_c0_29.wr W31
  have F_c0_droppedTotal_31 := F_c0_droppedTotal_29.other W31 (Or.inr (slot_ne (Or.inl (own_w hw 49 rfl)) (Or.inl (own_w hw 15 rfl)) (by decide) (t := .long) (t' := (.array .long)) (by decide) (by decide)))
  have F_c0_end_31 := F_c0_end_29.other W31 (Or.inr (slot_ne (Or.inl (own_w hw 24 rfl)) (Or.inl (own_w hw 15 rfl)) (by decide) (t := .int) (t' := (.array .long)) (by decide) (by decide)))
  have F_c0_firsts_31 := F_c0_firsts_29.other W31 (Or.inr (slot_ne (Or.inl (own_w hw 13 rfl)) (Or.inl (own_w hw 15 rfl)) (by decide) (t := (.array .long)) (t' := (.array .long)) (by decide) (by decide)))
  have F_c0_head_31 := F_c0_head_29.other W31 (Or.inr (slot_ne (Or.inl (own_w hw 30 rfl)) (Or.inl (own_w hw 15 rfl)) (by decide) (t := .int) (t' := (.array .long)) (by decide) (by decide)))
  have F_c0_lasts_31 := F_c0_lasts_29.same W31
  have F_c0_totals_31 := F_c0_totals_29.other W31 (Or.inr (slot_ne (Or.inl (own_w hw 17 rfl)) (Or.inl (own_w hw 15 rfl)) (by decide) (t := (.array .long)) (t' := (.array .long)) (by decide) (by decide)))
  have K31 : Keep h0 h31 [c0] := K29.wr W31 (Or.inl (List.mem_of_getElem? (i := 0) rfl))
  have O31 := O29.wr W31 n_c0
  have N31 := Fr.snoc X31 N29 n_c0
  refine own_aload_n 19 X31 hx hby d1_18 rfl rfl rfl ?_
  refine own_getS 22 X31 hx hby hZ hown (own_w hw 10 rfl) e31 (W.1.ext O31.2) d1_19 rfl ?_
  intro T32 X32 e32
  refine own_putF 25 X32 hx hby hZ (.array .long) hown (own_w hw 16 rfl) e32 F_c0_totals_31 E_c0_31 (Or.inl (own_w hw 17 rfl)) (own_w hw 2 rfl) (by decide) rfl rfl d1_22 rfl ?_
  intro T33 h33 X33 e33 W33
  have E_c0_33 := E_c0_31.wr W33
  have F_c0_droppedTotal_33 := F_c0_droppedTotal_31.other W33 (Or.inr (slot_ne (Or.inl (own_w hw 49 rfl)) (Or.inl (own_w hw 17 rfl)) (by decide) (t := .long) (t' := (.array .long)) (by decide) (by decide)))
  have F_c0_end_33 := F_c0_end_31.other W33 (Or.inr (slot_ne (Or.inl (own_w hw 24 rfl)) (Or.inl (own_w hw 17 rfl)) (by decide) (t := .int) (t' := (.array .long)) (by decide) (by decide)))
  have F_c0_firsts_33 := F_c0_firsts_31.other W33 (Or.inr (slot_ne (Or.inl (own_w hw 13 rfl)) (Or.inl (own_w hw 17 rfl)) (by decide) (t := (.array .long)) (t' := (.array .long)) (by decide) (by decide)))
  have F_c0_head_33 := F_c0_head_31.other W33 (Or.inr (slot_ne (Or.inl (own_w hw 30 rfl)) (Or.inl (own_w hw 17 rfl)) (by decide) (t := .int) (t' := (.array .long)) (by decide) (by decide)))
  have F_c0_lasts_33 := F_c0_lasts_31.other W33 (Or.inr (slot_ne (Or.inl (own_w hw 15 rfl)) (Or.inl (own_w hw 17 rfl)) (by decide) (t := (.array .long)) (t' := (.array .long)) (by decide) (by decide)))
  have F_c0_totals_33 := F_c0_totals_31.same W33
  have K33 : Keep h0 h33 [c0] := K31.wr W33 (Or.inl (List.mem_of_getElem? (i := 0) rfl))
  have O33 := O31.wr W33 n_c0
  have N33 := Fr.snoc X33 N31 n_c0
  exact own_ret0 (Q := Q_rm1_1 Z w_NONE k_NONE c0 h0 n0) X33 hx hby hret hlk d1_25 (by decide) (by decide) (by rw [e33]; exact ⟨rfl, N33, K33, E_c0_33, F_c0_droppedTotal_33, F_c0_end_33, F_c0_firsts_33, F_c0_head_33, F_c0_lasts_33, F_c0_totals_33⟩)
set_option maxRecDepth 65536 in
set_option maxHeartbeats 40000000 in
theorem rm8_2 (l : Launch) (Z : State) (a0 : Array Value) (hw : ∀ d ∈ tables_1, d.before a0 Z = true) (ws : List Jvm.Cond) (w_NONE k_NONE : Addr) (W : own_W Z w_NONE k_NONE) (c0 : Addr) (h0 : Heap) (n0 : Nat) (O0 : Old Z n0 h0) (E_c0 : Exa Z h0 c0 "com/example/meter/meter/store/Spans") (F_c0_droppedTotal : Fld Z h0 c0 "com/example/meter/meter/store/Spans" "droppedTotal" "J" (.long (0 : Int64))) (F_c0_end : Fld Z h0 c0 "com/example/meter/meter/store/Spans" "end" "I" (.int (0 : Int32))) (F_c0_firsts : Fld Z h0 c0 "com/example/meter/meter/store/Spans" "firsts" "[J" (.ref w_NONE)) (F_c0_head : Fld Z h0 c0 "com/example/meter/meter/store/Spans" "head" "I" (.int (0 : Int32))) (F_c0_lasts : Fld Z h0 c0 "com/example/meter/meter/store/Spans" "lasts" "[J" (.ref w_NONE)) (F_c0_totals : Fld Z h0 c0 "com/example/meter/meter/store/Spans" "totals" "[J" (.ref w_NONE)) (n_c0 : n0 ≤ c0) :
    MetFree l (⟨"com/example/meter/meter/store/Spans", "newestSecond", "()J"⟩ : MethodName) (head1 (Jvm.Cond.code (⟨"com/example/meter/meter/store/Spans", "newestSecond", "()J"⟩ : MethodName) prog_11_method_7_code 1 (some .long) :: ws) ({ frames := 0, cells := 0, slots := 0, locals := 0 } : Room)) (fun a U => a = #[(.ref c0)] ∧ Z.Warmed39 U.vm ∧ U.heap = h0) (fun _ _ _ _ _ => True) (fun _ U o U' => ∃ v L, o = .returned v ∧ own_Q (some (.long (-1 : Int64))) n0 h0 v U'.heap L ∧ FrameEnd U o U' L ({ frames := 0, cells := 0, slots := 0, locals := 0 } : Room).cells ({ frames := 0, cells := 0, slots := 0, locals := 0 } : Room).slots) := by
  refine MetFree.of_bodySF (plainFor_of_name pn_0) hisR ?_
  intro p e s m args below meth c s₁ Bd hml0 hP hK
  obtain ⟨rfl, hZ, hh⟩ := hP
  have hx := Bd.exec
  have hby := Bd.bytes
  have hml : c.maxLocals = 1 := hml0
  have hlk := BodyLoose.notSynchronized Bd
  have hret := Bd.returns
  have hown : s.vm.findClass "com/example/meter/meter/store/Spans" = some m.cls := findClass_of_methodNamed Bd.named
  have hnm := (name_of_methodNamed Bd.named Bd.method).1
  have X0 : Stand p l e ({ frames := 0, cells := 0, slots := 0, locals := 0 } : Room) s m #[(.ref c0)] below meth c s₁ [] 0 0 := Stand.of_body Bd
  have e0 : s₁.heap = h0 := by rw [← hh, Bd.state]; rfl
  have N0 := Fr.nil n0
  rw [ef_8 m c0]
  show Go p e below _ (s₁.setTop (mkF m 0 #[oA c0] []))
  refine own_aload_n 1 X0 hx hby d8_0 rfl rfl rfl ?_
  refine own_getF 4 X0 hx hby hZ hown (own_w hw 29 rfl) e0 F_c0_head d8_1 rfl ?_
  intro T36 X36 e36
  refine own_aload_n 5 X36 hx hby d8_4 rfl rfl rfl ?_
  refine own_getF 8 X36 hx hby hZ hown (own_w hw 23 rfl) e36 F_c0_end d8_5 rfl ?_
  intro T37 X37 e37
  refine own_icN 11 X37 hx hby d8_8 rfl (by decide) ?_
  refine own_ldc2 14 X37 hx hby hZ hown (own_w hw 66 rfl) d8_11 rfl ?_
  refine own_goto 28 X37 hx hby d8_14 (by decide) (by decide) ?_
  exact own_ret (Q := own_Q (some (.long (-1 : Int64))) n0 h0) X37 hx hby hret hlk d8_28 rfl (Or.inr (Or.inl ⟨rfl, rfl, _, rfl⟩)) (by decide) (by decide) ⟨rfl, N0, e37⟩
set_option maxRecDepth 65536 in
set_option maxHeartbeats 40000000 in
theorem rm9_3 (l : Launch) (Z : State) (a0 : Array Value) (hw : ∀ d ∈ tables_1, d.before a0 Z = true) (ws : List Jvm.Cond) (w_NONE k_NONE : Addr) (W : own_W Z w_NONE k_NONE) (c0 : Addr) (y0 : Int64) (h0 : Heap) (n0 : Nat) (O0 : Old Z n0 h0) (E_c0 : Exa Z h0 c0 "com/example/meter/meter/store/Spans") (F_c0_droppedTotal : Fld Z h0 c0 "com/example/meter/meter/store/Spans" "droppedTotal" "J" (.long (0 : Int64))) (F_c0_end : Fld Z h0 c0 "com/example/meter/meter/store/Spans" "end" "I" (.int (0 : Int32))) (F_c0_firsts : Fld Z h0 c0 "com/example/meter/meter/store/Spans" "firsts" "[J" (.ref w_NONE)) (F_c0_head : Fld Z h0 c0 "com/example/meter/meter/store/Spans" "head" "I" (.int (0 : Int32))) (F_c0_lasts : Fld Z h0 c0 "com/example/meter/meter/store/Spans" "lasts" "[J" (.ref w_NONE)) (F_c0_totals : Fld Z h0 c0 "com/example/meter/meter/store/Spans" "totals" "[J" (.ref w_NONE)) (n_c0 : n0 ≤ c0) :
    MetFree l (⟨"com/example/meter/meter/store/Spans", "dropThrough", "(J)V"⟩ : MethodName) (head1 (Jvm.Cond.code (⟨"com/example/meter/meter/store/Spans", "dropThrough", "(J)V"⟩ : MethodName) prog_11_method_10_code 3 none :: ws) ({ frames := 0, cells := 0, slots := 0, locals := 0 } : Room)) (fun a U => a = #[(.ref c0), (.long y0)] ∧ Z.Warmed39 U.vm ∧ U.heap = h0) (fun _ _ _ _ _ => True) (fun _ U o U' => ∃ v L, o = .returned v ∧ own_Q none n0 h0 v U'.heap L ∧ FrameEnd U o U' L ({ frames := 0, cells := 0, slots := 0, locals := 0 } : Room).cells ({ frames := 0, cells := 0, slots := 0, locals := 0 } : Room).slots) := by
  refine MetFree.of_bodySF (plainFor_of_name pn_0) hisR ?_
  intro p e s m args below meth c s₁ Bd hml0 hP hK
  obtain ⟨rfl, hZ, hh⟩ := hP
  have hx := Bd.exec
  have hby := Bd.bytes
  have hml : c.maxLocals = 3 := hml0
  have hlk := BodyLoose.notSynchronized Bd
  have hret := Bd.returns
  have hown : s.vm.findClass "com/example/meter/meter/store/Spans" = some m.cls := findClass_of_methodNamed Bd.named
  have hnm := (name_of_methodNamed Bd.named Bd.method).1
  have X0 : Stand p l e ({ frames := 0, cells := 0, slots := 0, locals := 0 } : Room) s m #[(.ref c0), (.long y0)] below meth c s₁ [] 0 0 := Stand.of_body Bd
  have e0 : s₁.heap = h0 := by rw [← hh, Bd.state]; rfl
  have N0 := Fr.nil n0
  rw [ef_9 m c0 y0]
  show Go p e below _ (s₁.setTop (mkF m 0 #[oA c0, oJ y0, oS] []))
  refine own_aload_n 1 X0 hx hby d9_0 rfl rfl rfl ?_
  refine own_getF 4 X0 hx hby hZ hown (own_w hw 29 rfl) e0 F_c0_head d9_1 rfl ?_
  intro T43 X43 e43
  refine own_aload_n 5 X43 hx hby d9_4 rfl rfl rfl ?_
  refine own_getF 8 X43 hx hby hZ hown (own_w hw 23 rfl) e43 F_c0_end d9_5 rfl ?_
  intro T44 X44 e44
  refine own_icY 51 X44 hx hby d9_8 (by decide) (by decide) (by decide) ?_
  exact own_ret0 (Q := own_Q none n0 h0) X44 hx hby hret hlk d9_51 (by decide) (by decide) ⟨rfl, N0, e44⟩
set_option maxRecDepth 65536 in
set_option maxHeartbeats 40000000 in
theorem rm5_4 (l : Launch) (Z : State) (a0 : Array Value) (hw : ∀ d ∈ tables_1, d.before a0 Z = true) (ws : List Jvm.Cond) (w_NONE k_NONE : Addr) (W : own_W Z w_NONE k_NONE)  (h0 : Heap) (n0 : Nat) (O0 : Old Z n0 h0)  :
    MetFree l (⟨"java/lang/Math", "max", "(II)I"⟩ : MethodName) (head1 (Jvm.Cond.code (⟨"java/lang/Math", "max", "(II)I"⟩ : MethodName) jdk_29_method_65_code 2 (some .int) :: ws) ({ frames := 0, cells := 0, slots := 0, locals := 0 } : Room)) (fun a U => a = #[(.int (16 : Int32)), (.int (0 : Int32))] ∧ Z.Warmed39 U.vm ∧ U.heap = h0) (fun _ _ _ _ _ => True) (fun _ U o U' => ∃ v L, o = .returned v ∧ own_Q (some (.int (16 : Int32))) n0 h0 v U'.heap L ∧ FrameEnd U o U' L ({ frames := 0, cells := 0, slots := 0, locals := 0 } : Room).cells ({ frames := 0, cells := 0, slots := 0, locals := 0 } : Room).slots) := by
  refine MetFree.of_bodySF (Jvm.Free.JP.mathPlain rfl (by decide +kernel)) hisR ?_
  intro p e s m args below meth c s₁ Bd hml0 hP hK
  obtain ⟨rfl, hZ, hh⟩ := hP
  have hx := Bd.exec
  have hby := Bd.bytes
  have hml : c.maxLocals = 2 := hml0
  have hlk := BodyLoose.notSynchronized Bd
  have hret := Bd.returns
  have hown : s.vm.findClass "java/lang/Math" = some m.cls := findClass_of_methodNamed Bd.named
  have hnm := (name_of_methodNamed Bd.named Bd.method).1
  have X0 : Stand p l e ({ frames := 0, cells := 0, slots := 0, locals := 0 } : Room) s m #[(.int (16 : Int32)), (.int (0 : Int32))] below meth c s₁ [] 0 0 := Stand.of_body Bd
  have e0 : s₁.heap = h0 := by rw [← hh, Bd.state]; rfl
  have N0 := Fr.nil n0
  rw [ef_5 m (16 : Int32) (0 : Int32)]
  show Go p e below _ (s₁.setTop (mkF m 0 #[oI (16 : Int32), oI (0 : Int32)] []))
  refine own_iload_n 1 X0 hx hby d5_0 rfl rfl ?_
  refine own_iload_n 2 X0 hx hby d5_1 rfl rfl ?_
  refine own_icN 5 X0 hx hby d5_2 rfl (by decide) ?_
  refine own_iload_n 6 X0 hx hby d5_5 rfl rfl ?_
  refine own_goto 10 X0 hx hby d5_6 (by decide) (by decide) ?_
  exact own_ret (Q := own_Q (some (.int (16 : Int32))) n0 h0) X0 hx hby hret hlk d5_10 rfl (Or.inl ⟨rfl, by simp, _, rfl⟩) (by decide) (by decide) ⟨rfl, N0, e0⟩
def Q_rm6_5 (Z : State) (w_NONE k_NONE : Addr) (c0 : Addr) (h0 : Heap) (n0 : Nat) (v : Option Value) (h : Heap) (L : List Loc) : Prop := ∃ b58 : Addr, ∃ k58 : ClassId, v = (some (.ref b58)) ∧ Fr n0 L ∧ Keep h0 h [] ∧ n0 ≤ b58 ∧ h0.size ≤ b58 ∧ Exa Z h c0 "com/example/meter/meter/store/Spans" ∧ Fld Z h c0 "com/example/meter/meter/store/Spans" "droppedTotal" "J" (.long (0 : Int64)) ∧ Fld Z h c0 "com/example/meter/meter/store/Spans" "end" "I" (.int (0 : Int32)) ∧ Fld Z h c0 "com/example/meter/meter/store/Spans" "firsts" "[J" (.ref w_NONE) ∧ Fld Z h c0 "com/example/meter/meter/store/Spans" "head" "I" (.int (0 : Int32)) ∧ Fld Z h c0 "com/example/meter/meter/store/Spans" "lasts" "[J" (.ref w_NONE) ∧ Fld Z h c0 "com/example/meter/meter/store/Spans" "totals" "[J" (.ref w_NONE) ∧ Arv Z h b58 k58 .long (16 : Int32) [(.long (0 : Int64)), (.long (0 : Int64)), (.long (0 : Int64)), (.long (0 : Int64))] (.long (0 : Int64))
set_option maxRecDepth 65536 in
set_option maxHeartbeats 40000000 in
theorem rm6_5 (l : Launch) (Z : State) (a0 : Array Value) (hw : ∀ d ∈ tables_1, d.before a0 Z = true) (ws : List Jvm.Cond) (w_NONE k_NONE : Addr) (W : own_W Z w_NONE k_NONE) (c0 : Addr) (h0 : Heap) (n0 : Nat) (O0 : Old Z n0 h0) (E_c0 : Exa Z h0 c0 "com/example/meter/meter/store/Spans") (F_c0_droppedTotal : Fld Z h0 c0 "com/example/meter/meter/store/Spans" "droppedTotal" "J" (.long (0 : Int64))) (F_c0_end : Fld Z h0 c0 "com/example/meter/meter/store/Spans" "end" "I" (.int (0 : Int32))) (F_c0_firsts : Fld Z h0 c0 "com/example/meter/meter/store/Spans" "firsts" "[J" (.ref w_NONE)) (F_c0_head : Fld Z h0 c0 "com/example/meter/meter/store/Spans" "head" "I" (.int (0 : Int32))) (F_c0_lasts : Fld Z h0 c0 "com/example/meter/meter/store/Spans" "lasts" "[J" (.ref w_NONE)) (F_c0_totals : Fld Z h0 c0 "com/example/meter/meter/store/Spans" "totals" "[J" (.ref w_NONE)) (n_c0 : n0 ≤ c0) :
    MetFree l (⟨"com/example/meter/meter/store/Spans", "movedDown", "([JI)[J"⟩ : MethodName) (head1 (Jvm.Cond.code (⟨"com/example/meter/meter/store/Spans", "movedDown", "([JI)[J"⟩ : MethodName) prog_11_method_16_code 4 (some (.array .long)) :: ws) ({ frames := 1, cells := 1, slots := 16, locals := 36 } : Room)) (fun a U => a = #[(.ref c0), (.ref w_NONE), (.int (16 : Int32))] ∧ Z.Warmed39 U.vm ∧ U.heap = h0) (fun _ _ _ _ _ => True) (fun _ U o U' => ∃ v L, o = .returned v ∧ Q_rm6_5 Z w_NONE k_NONE c0 h0 n0 v U'.heap L ∧ FrameEnd U o U' L ({ frames := 1, cells := 1, slots := 16, locals := 36 } : Room).cells ({ frames := 1, cells := 1, slots := 16, locals := 36 } : Room).slots) := by
  refine MetFree.of_bodySF (plainFor_of_name pn_0) hisR ?_
  intro p e s m args below meth c s₁ Bd hml0 hP hK
  obtain ⟨rfl, hZ, hh⟩ := hP
  have hx := Bd.exec
  have hby := Bd.bytes
  have hml : c.maxLocals = 4 := hml0
  have hlk := BodyLoose.notSynchronized Bd
  have hret := Bd.returns
  have hown : s.vm.findClass "com/example/meter/meter/store/Spans" = some m.cls := findClass_of_methodNamed Bd.named
  have hnm := (name_of_methodNamed Bd.named Bd.method).1
  have X0 : Stand p l e ({ frames := 1, cells := 1, slots := 16, locals := 36 } : Room) s m #[(.ref c0), (.ref w_NONE), (.int (16 : Int32))] below meth c s₁ [] 0 0 := Stand.of_body Bd
  have e0 : s₁.heap = h0 := by rw [← hh, Bd.state]; rfl
  have N0 := Fr.nil n0
  rw [ef_6 m c0 w_NONE (16 : Int32)]
  show Go p e below _ (s₁.setTop (mkF m 0 #[oA c0, oA w_NONE, oI (16 : Int32), oU] []))
  refine own_iload_n 1 X0 hx hby d6_0 rfl rfl ?_
  refine own_aload_n 2 X0 hx hby d6_1 rfl rfl rfl ?_
  refine own_len 3 X0 hx hby hZ e0 (W.2.ext O0.2) d6_2 rfl ?_
  refine own_icY 10 X0 hx hby d6_3 (by decide) (by decide) (by decide) ?_
  refine own_iload_n 11 X0 hx hby d6_10 rfl rfl ?_
  refine own_newP 13 16 X0 hx hby hZ (own_w hw 39 rfl) e0 d6_11 rfl (by decide) (by decide) (by decide) (by decide) (by decide) ?_
  intro T58 h58 k58 b58 X58 e58 E58 g58 V58
  have ne_c0_b58 : c0 ≠ b58 := Nat.ne_of_lt (Nat.lt_of_lt_of_le E_c0.lt (Nat.le_of_eq g58.symm))
  have n_b58 : n0 ≤ b58 := Nat.le_trans (own_n0 O0) (Nat.le_of_eq g58.symm)
  have sz_b58 : h0.size ≤ b58 := Nat.le_trans (Keep.refl h0 []).1 (Nat.le_of_eq g58.symm)
  have E_c0_58 := E_c0.ext E58
  have F_c0_droppedTotal_58 := F_c0_droppedTotal.ext E58
  have F_c0_end_58 := F_c0_end.ext E58
  have F_c0_firsts_58 := F_c0_firsts.ext E58
  have F_c0_head_58 := F_c0_head.ext E58
  have F_c0_lasts_58 := F_c0_lasts.ext E58
  have F_c0_totals_58 := F_c0_totals.ext E58
  have K58 : Keep h0 h58 [] := (Keep.refl h0 []).ext E58
  have O58 := O0.ext E58
  have V58 : Arv Z h58 b58 k58 .long (16 : Int32) [(.long (0 : Int64)), (.long (0 : Int64)), (.long (0 : Int64)), (.long (0 : Int64))] (.long (0 : Int64)) := own_shrink 4 V58
  show Go p e below _ (T58.setTop (mkF m 13 _ [(.ref b58)]))
  refine own_astore_n 14 #[oA c0, oA w_NONE, oI (16 : Int32), oA b58] X58 hx hby d6_13 rfl rfl rfl ?_
  refine own_aload_n 15 X58 hx hby d6_14 rfl rfl rfl ?_
  refine own_aload_n 16 X58 hx hby d6_15 rfl rfl rfl ?_
  refine own_getF 19 X58 hx hby hZ hown (own_w hw 29 rfl) e58 F_c0_head_58 d6_16 rfl ?_
  intro T59 X59 e59
  refine own_aload_n 20 X59 hx hby d6_19 rfl rfl rfl ?_
  refine own_iconst 21 (0 : Int32) X59 hx hby d6_20 rfl (by decide) ?_
  refine own_aload_n 22 X59 hx hby d6_21 rfl rfl rfl ?_
  refine own_getF 25 X59 hx hby hZ hown (own_w hw 23 rfl) e59 F_c0_end_58 d6_22 rfl ?_
  intro T60 X60 e60
  refine own_aload_n 26 X60 hx hby d6_25 rfl rfl rfl ?_
  refine own_getF 29 X60 hx hby hZ hown (own_w hw 29 rfl) e60 F_c0_head_58 d6_26 rfl ?_
  intro T61 X61 e61
  refine own_isub 30 (0 : Int32) X61 hx hby d6_29 rfl (by decide) ?_
  refine own_cp0 33 0 X61 hx hby hZ hown (own_w hw 40 rfl) (own_w hw 43 rfl) (own_w hw 41 rfl) (own_w hw 42 rfl) e61 (W.2.ext O58.2) V58 N0 n_b58 (by rw [hml]; rfl) d6_30 rfl rfl (by decide) (by decide) ?_
  intro T62 h62 L62 X62 e62 N62 Kc62 V62
  have E_c0_62 := E_c0_58.keep Kc62
  have F_c0_droppedTotal_62 := F_c0_droppedTotal_58.keep Kc62 (ninS ne_c0_b58 nin0)
  have F_c0_end_62 := F_c0_end_58.keep Kc62 (ninS ne_c0_b58 nin0)
  have F_c0_firsts_62 := F_c0_firsts_58.keep Kc62 (ninS ne_c0_b58 nin0)
  have F_c0_head_62 := F_c0_head_58.keep Kc62 (ninS ne_c0_b58 nin0)
  have F_c0_lasts_62 := F_c0_lasts_58.keep Kc62 (ninS ne_c0_b58 nin0)
  have F_c0_totals_62 := F_c0_totals_58.keep Kc62 (ninS ne_c0_b58 nin0)
  have K62 : Keep h0 h62 [] := K58.trans Kc62 (allS (Or.inr sz_b58) all0)
  have O62 := O58.keep Kc62 (allS n_b58 all0)
  refine own_aload_n 34 X62 hx hby d6_33 rfl rfl rfl ?_
  exact own_ret (Q := Q_rm6_5 Z w_NONE k_NONE c0 h0 n0) X62 hx hby hret hlk d6_34 rfl (Or.inr (Or.inr (Or.inr (Or.inr ⟨rfl, rfl, rfl⟩)))) (by decide) (by decide) (by rw [e62]; exact ⟨b58, k58, rfl, N62, K62, n_b58, sz_b58, E_c0_62, F_c0_droppedTotal_62, F_c0_end_62, F_c0_firsts_62, F_c0_head_62, F_c0_lasts_62, F_c0_totals_62, V62⟩)
def Q_rm6_6 (Z : State) (w_NONE k_NONE : Addr) (c0 : Addr) (c1 : Addr) (k_c1 : ClassId) (h0 : Heap) (n0 : Nat) (v : Option Value) (h : Heap) (L : List Loc) : Prop := ∃ b66 : Addr, ∃ k66 : ClassId, v = (some (.ref b66)) ∧ Fr n0 L ∧ Keep h0 h [] ∧ n0 ≤ b66 ∧ h0.size ≤ b66 ∧ Exa Z h c0 "com/example/meter/meter/store/Spans" ∧ Fld Z h c0 "com/example/meter/meter/store/Spans" "droppedTotal" "J" (.long (0 : Int64)) ∧ Fld Z h c0 "com/example/meter/meter/store/Spans" "end" "I" (.int (0 : Int32)) ∧ Fld Z h c0 "com/example/meter/meter/store/Spans" "firsts" "[J" (.ref c1) ∧ Fld Z h c0 "com/example/meter/meter/store/Spans" "head" "I" (.int (0 : Int32)) ∧ Fld Z h c0 "com/example/meter/meter/store/Spans" "lasts" "[J" (.ref w_NONE) ∧ Fld Z h c0 "com/example/meter/meter/store/Spans" "totals" "[J" (.ref w_NONE) ∧ Arv Z h c1 k_c1 .long (16 : Int32) [(.long (0 : Int64)), (.long (0 : Int64)), (.long (0 : Int64)), (.long (0 : Int64))] (.long (0 : Int64)) ∧ Arv Z h b66 k66 .long (16 : Int32) [(.long (0 : Int64)), (.long (0 : Int64)), (.long (0 : Int64)), (.long (0 : Int64))] (.long (0 : Int64))
set_option maxRecDepth 65536 in
set_option maxHeartbeats 40000000 in
theorem rm6_6 (l : Launch) (Z : State) (a0 : Array Value) (hw : ∀ d ∈ tables_1, d.before a0 Z = true) (ws : List Jvm.Cond) (w_NONE k_NONE : Addr) (W : own_W Z w_NONE k_NONE) (c0 : Addr) (c1 : Addr) (k_c1 : ClassId) (h0 : Heap) (n0 : Nat) (O0 : Old Z n0 h0) (E_c0 : Exa Z h0 c0 "com/example/meter/meter/store/Spans") (F_c0_droppedTotal : Fld Z h0 c0 "com/example/meter/meter/store/Spans" "droppedTotal" "J" (.long (0 : Int64))) (F_c0_end : Fld Z h0 c0 "com/example/meter/meter/store/Spans" "end" "I" (.int (0 : Int32))) (F_c0_firsts : Fld Z h0 c0 "com/example/meter/meter/store/Spans" "firsts" "[J" (.ref c1)) (F_c0_head : Fld Z h0 c0 "com/example/meter/meter/store/Spans" "head" "I" (.int (0 : Int32))) (F_c0_lasts : Fld Z h0 c0 "com/example/meter/meter/store/Spans" "lasts" "[J" (.ref w_NONE)) (F_c0_totals : Fld Z h0 c0 "com/example/meter/meter/store/Spans" "totals" "[J" (.ref w_NONE)) (n_c0 : n0 ≤ c0) (V_c1 : Arv Z h0 c1 k_c1 .long (16 : Int32) [(.long (0 : Int64)), (.long (0 : Int64)), (.long (0 : Int64)), (.long (0 : Int64))] (.long (0 : Int64))) (n_c1 : n0 ≤ c1) (ne_c0_c1 : c0 ≠ c1) :
    MetFree l (⟨"com/example/meter/meter/store/Spans", "movedDown", "([JI)[J"⟩ : MethodName) (head1 (Jvm.Cond.code (⟨"com/example/meter/meter/store/Spans", "movedDown", "([JI)[J"⟩ : MethodName) prog_11_method_16_code 4 (some (.array .long)) :: ws) ({ frames := 1, cells := 1, slots := 16, locals := 36 } : Room)) (fun a U => a = #[(.ref c0), (.ref w_NONE), (.int (16 : Int32))] ∧ Z.Warmed39 U.vm ∧ U.heap = h0) (fun _ _ _ _ _ => True) (fun _ U o U' => ∃ v L, o = .returned v ∧ Q_rm6_6 Z w_NONE k_NONE c0 c1 k_c1 h0 n0 v U'.heap L ∧ FrameEnd U o U' L ({ frames := 1, cells := 1, slots := 16, locals := 36 } : Room).cells ({ frames := 1, cells := 1, slots := 16, locals := 36 } : Room).slots) := by
  refine MetFree.of_bodySF (plainFor_of_name pn_0) hisR ?_
  intro p e s m args below meth c s₁ Bd hml0 hP hK
  obtain ⟨rfl, hZ, hh⟩ := hP
  have hx := Bd.exec
  have hby := Bd.bytes
  have hml : c.maxLocals = 4 := hml0
  have hlk := BodyLoose.notSynchronized Bd
  have hret := Bd.returns
  have hown : s.vm.findClass "com/example/meter/meter/store/Spans" = some m.cls := findClass_of_methodNamed Bd.named
  have hnm := (name_of_methodNamed Bd.named Bd.method).1
  have X0 : Stand p l e ({ frames := 1, cells := 1, slots := 16, locals := 36 } : Room) s m #[(.ref c0), (.ref w_NONE), (.int (16 : Int32))] below meth c s₁ [] 0 0 := Stand.of_body Bd
  have e0 : s₁.heap = h0 := by rw [← hh, Bd.state]; rfl
  have N0 := Fr.nil n0
  rw [ef_6 m c0 w_NONE (16 : Int32)]
  show Go p e below _ (s₁.setTop (mkF m 0 #[oA c0, oA w_NONE, oI (16 : Int32), oU] []))
  refine own_iload_n 1 X0 hx hby d6_0 rfl rfl ?_
  refine own_aload_n 2 X0 hx hby d6_1 rfl rfl rfl ?_
  refine own_len 3 X0 hx hby hZ e0 (W.2.ext O0.2) d6_2 rfl ?_
  refine own_icY 10 X0 hx hby d6_3 (by decide) (by decide) (by decide) ?_
  refine own_iload_n 11 X0 hx hby d6_10 rfl rfl ?_
  refine own_newP 13 16 X0 hx hby hZ (own_w hw 39 rfl) e0 d6_11 rfl (by decide) (by decide) (by decide) (by decide) (by decide) ?_
  intro T66 h66 k66 b66 X66 e66 E66 g66 V66
  have ne_c0_b66 : c0 ≠ b66 := Nat.ne_of_lt (Nat.lt_of_lt_of_le E_c0.lt (Nat.le_of_eq g66.symm))
  have ne_c1_b66 : c1 ≠ b66 := Nat.ne_of_lt (Nat.lt_of_lt_of_le V_c1.lt (Nat.le_of_eq g66.symm))
  have n_b66 : n0 ≤ b66 := Nat.le_trans (own_n0 O0) (Nat.le_of_eq g66.symm)
  have sz_b66 : h0.size ≤ b66 := Nat.le_trans (Keep.refl h0 []).1 (Nat.le_of_eq g66.symm)
  have E_c0_66 := E_c0.ext E66
  have F_c0_droppedTotal_66 := F_c0_droppedTotal.ext E66
  have F_c0_end_66 := F_c0_end.ext E66
  have F_c0_firsts_66 := F_c0_firsts.ext E66
  have F_c0_head_66 := F_c0_head.ext E66
  have F_c0_lasts_66 := F_c0_lasts.ext E66
  have F_c0_totals_66 := F_c0_totals.ext E66
  have V_c1_66 := V_c1.ext E66
  have K66 : Keep h0 h66 [] := (Keep.refl h0 []).ext E66
  have O66 := O0.ext E66
  have V66 : Arv Z h66 b66 k66 .long (16 : Int32) [(.long (0 : Int64)), (.long (0 : Int64)), (.long (0 : Int64)), (.long (0 : Int64))] (.long (0 : Int64)) := own_shrink 4 V66
  show Go p e below _ (T66.setTop (mkF m 13 _ [(.ref b66)]))
  refine own_astore_n 14 #[oA c0, oA w_NONE, oI (16 : Int32), oA b66] X66 hx hby d6_13 rfl rfl rfl ?_
  refine own_aload_n 15 X66 hx hby d6_14 rfl rfl rfl ?_
  refine own_aload_n 16 X66 hx hby d6_15 rfl rfl rfl ?_
  refine own_getF 19 X66 hx hby hZ hown (own_w hw 29 rfl) e66 F_c0_head_66 d6_16 rfl ?_
  intro T67 X67 e67
  refine own_aload_n 20 X67 hx hby d6_19 rfl rfl rfl ?_
  refine own_iconst 21 (0 : Int32) X67 hx hby d6_20 rfl (by decide) ?_
  refine own_aload_n 22 X67 hx hby d6_21 rfl rfl rfl ?_
  refine own_getF 25 X67 hx hby hZ hown (own_w hw 23 rfl) e67 F_c0_end_66 d6_22 rfl ?_
  intro T68 X68 e68
  refine own_aload_n 26 X68 hx hby d6_25 rfl rfl rfl ?_
  refine own_getF 29 X68 hx hby hZ hown (own_w hw 29 rfl) e68 F_c0_head_66 d6_26 rfl ?_
  intro T69 X69 e69
  refine own_isub 30 (0 : Int32) X69 hx hby d6_29 rfl (by decide) ?_
  refine own_cp0 33 0 X69 hx hby hZ hown (own_w hw 40 rfl) (own_w hw 43 rfl) (own_w hw 41 rfl) (own_w hw 42 rfl) e69 (W.2.ext O66.2) V66 N0 n_b66 (by rw [hml]; rfl) d6_30 rfl rfl (by decide) (by decide) ?_
  intro T70 h70 L70 X70 e70 N70 Kc70 V70
  have E_c0_70 := E_c0_66.keep Kc70
  have F_c0_droppedTotal_70 := F_c0_droppedTotal_66.keep Kc70 (ninS ne_c0_b66 nin0)
  have F_c0_end_70 := F_c0_end_66.keep Kc70 (ninS ne_c0_b66 nin0)
  have F_c0_firsts_70 := F_c0_firsts_66.keep Kc70 (ninS ne_c0_b66 nin0)
  have F_c0_head_70 := F_c0_head_66.keep Kc70 (ninS ne_c0_b66 nin0)
  have F_c0_lasts_70 := F_c0_lasts_66.keep Kc70 (ninS ne_c0_b66 nin0)
  have F_c0_totals_70 := F_c0_totals_66.keep Kc70 (ninS ne_c0_b66 nin0)
  have V_c1_70 := V_c1_66.keep Kc70 (ninS ne_c1_b66 nin0)
  have K70 : Keep h0 h70 [] := K66.trans Kc70 (allS (Or.inr sz_b66) all0)
  have O70 := O66.keep Kc70 (allS n_b66 all0)
  refine own_aload_n 34 X70 hx hby d6_33 rfl rfl rfl ?_
  exact own_ret (Q := Q_rm6_6 Z w_NONE k_NONE c0 c1 k_c1 h0 n0) X70 hx hby hret hlk d6_34 rfl (Or.inr (Or.inr (Or.inr (Or.inr ⟨rfl, rfl, rfl⟩)))) (by decide) (by decide) (by rw [e70]; exact ⟨b66, k66, rfl, N70, K70, n_b66, sz_b66, E_c0_70, F_c0_droppedTotal_70, F_c0_end_70, F_c0_firsts_70, F_c0_head_70, F_c0_lasts_70, F_c0_totals_70, V_c1_70, V70⟩)
def Q_rm6_7 (Z : State) (w_NONE k_NONE : Addr) (c0 : Addr) (c1 : Addr) (k_c1 : ClassId) (c2 : Addr) (k_c2 : ClassId) (h0 : Heap) (n0 : Nat) (v : Option Value) (h : Heap) (L : List Loc) : Prop := ∃ b74 : Addr, ∃ k74 : ClassId, v = (some (.ref b74)) ∧ Fr n0 L ∧ Keep h0 h [] ∧ n0 ≤ b74 ∧ h0.size ≤ b74 ∧ Exa Z h c0 "com/example/meter/meter/store/Spans" ∧ Fld Z h c0 "com/example/meter/meter/store/Spans" "droppedTotal" "J" (.long (0 : Int64)) ∧ Fld Z h c0 "com/example/meter/meter/store/Spans" "end" "I" (.int (0 : Int32)) ∧ Fld Z h c0 "com/example/meter/meter/store/Spans" "firsts" "[J" (.ref c1) ∧ Fld Z h c0 "com/example/meter/meter/store/Spans" "head" "I" (.int (0 : Int32)) ∧ Fld Z h c0 "com/example/meter/meter/store/Spans" "lasts" "[J" (.ref c2) ∧ Fld Z h c0 "com/example/meter/meter/store/Spans" "totals" "[J" (.ref w_NONE) ∧ Arv Z h c1 k_c1 .long (16 : Int32) [(.long (0 : Int64)), (.long (0 : Int64)), (.long (0 : Int64)), (.long (0 : Int64))] (.long (0 : Int64)) ∧ Arv Z h c2 k_c2 .long (16 : Int32) [(.long (0 : Int64)), (.long (0 : Int64)), (.long (0 : Int64)), (.long (0 : Int64))] (.long (0 : Int64)) ∧ Arv Z h b74 k74 .long (16 : Int32) [(.long (0 : Int64)), (.long (0 : Int64)), (.long (0 : Int64)), (.long (0 : Int64))] (.long (0 : Int64))
set_option maxRecDepth 65536 in
set_option maxHeartbeats 40000000 in
theorem rm6_7 (l : Launch) (Z : State) (a0 : Array Value) (hw : ∀ d ∈ tables_1, d.before a0 Z = true) (ws : List Jvm.Cond) (w_NONE k_NONE : Addr) (W : own_W Z w_NONE k_NONE) (c0 : Addr) (c1 : Addr) (k_c1 : ClassId) (c2 : Addr) (k_c2 : ClassId) (h0 : Heap) (n0 : Nat) (O0 : Old Z n0 h0) (E_c0 : Exa Z h0 c0 "com/example/meter/meter/store/Spans") (F_c0_droppedTotal : Fld Z h0 c0 "com/example/meter/meter/store/Spans" "droppedTotal" "J" (.long (0 : Int64))) (F_c0_end : Fld Z h0 c0 "com/example/meter/meter/store/Spans" "end" "I" (.int (0 : Int32))) (F_c0_firsts : Fld Z h0 c0 "com/example/meter/meter/store/Spans" "firsts" "[J" (.ref c1)) (F_c0_head : Fld Z h0 c0 "com/example/meter/meter/store/Spans" "head" "I" (.int (0 : Int32))) (F_c0_lasts : Fld Z h0 c0 "com/example/meter/meter/store/Spans" "lasts" "[J" (.ref c2)) (F_c0_totals : Fld Z h0 c0 "com/example/meter/meter/store/Spans" "totals" "[J" (.ref w_NONE)) (n_c0 : n0 ≤ c0) (V_c1 : Arv Z h0 c1 k_c1 .long (16 : Int32) [(.long (0 : Int64)), (.long (0 : Int64)), (.long (0 : Int64)), (.long (0 : Int64))] (.long (0 : Int64))) (n_c1 : n0 ≤ c1) (V_c2 : Arv Z h0 c2 k_c2 .long (16 : Int32) [(.long (0 : Int64)), (.long (0 : Int64)), (.long (0 : Int64)), (.long (0 : Int64))] (.long (0 : Int64))) (n_c2 : n0 ≤ c2) (ne_c0_c1 : c0 ≠ c1) (ne_c0_c2 : c0 ≠ c2) (ne_c1_c2 : c1 ≠ c2) :
    MetFree l (⟨"com/example/meter/meter/store/Spans", "movedDown", "([JI)[J"⟩ : MethodName) (head1 (Jvm.Cond.code (⟨"com/example/meter/meter/store/Spans", "movedDown", "([JI)[J"⟩ : MethodName) prog_11_method_16_code 4 (some (.array .long)) :: ws) ({ frames := 1, cells := 1, slots := 16, locals := 36 } : Room)) (fun a U => a = #[(.ref c0), (.ref w_NONE), (.int (16 : Int32))] ∧ Z.Warmed39 U.vm ∧ U.heap = h0) (fun _ _ _ _ _ => True) (fun _ U o U' => ∃ v L, o = .returned v ∧ Q_rm6_7 Z w_NONE k_NONE c0 c1 k_c1 c2 k_c2 h0 n0 v U'.heap L ∧ FrameEnd U o U' L ({ frames := 1, cells := 1, slots := 16, locals := 36 } : Room).cells ({ frames := 1, cells := 1, slots := 16, locals := 36 } : Room).slots) := by
  refine MetFree.of_bodySF (plainFor_of_name pn_0) hisR ?_
  intro p e s m args below meth c s₁ Bd hml0 hP hK
  obtain ⟨rfl, hZ, hh⟩ := hP
  have hx := Bd.exec
  have hby := Bd.bytes
  have hml : c.maxLocals = 4 := hml0
  have hlk := BodyLoose.notSynchronized Bd
  have hret := Bd.returns
  have hown : s.vm.findClass "com/example/meter/meter/store/Spans" = some m.cls := findClass_of_methodNamed Bd.named
  have hnm := (name_of_methodNamed Bd.named Bd.method).1
  have X0 : Stand p l e ({ frames := 1, cells := 1, slots := 16, locals := 36 } : Room) s m #[(.ref c0), (.ref w_NONE), (.int (16 : Int32))] below meth c s₁ [] 0 0 := Stand.of_body Bd
  have e0 : s₁.heap = h0 := by rw [← hh, Bd.state]; rfl
  have N0 := Fr.nil n0
  rw [ef_6 m c0 w_NONE (16 : Int32)]
  show Go p e below _ (s₁.setTop (mkF m 0 #[oA c0, oA w_NONE, oI (16 : Int32), oU] []))
  refine own_iload_n 1 X0 hx hby d6_0 rfl rfl ?_
  refine own_aload_n 2 X0 hx hby d6_1 rfl rfl rfl ?_
  refine own_len 3 X0 hx hby hZ e0 (W.2.ext O0.2) d6_2 rfl ?_
  refine own_icY 10 X0 hx hby d6_3 (by decide) (by decide) (by decide) ?_
  refine own_iload_n 11 X0 hx hby d6_10 rfl rfl ?_
  refine own_newP 13 16 X0 hx hby hZ (own_w hw 39 rfl) e0 d6_11 rfl (by decide) (by decide) (by decide) (by decide) (by decide) ?_
  intro T74 h74 k74 b74 X74 e74 E74 g74 V74
  have ne_c0_b74 : c0 ≠ b74 := Nat.ne_of_lt (Nat.lt_of_lt_of_le E_c0.lt (Nat.le_of_eq g74.symm))
  have ne_c1_b74 : c1 ≠ b74 := Nat.ne_of_lt (Nat.lt_of_lt_of_le V_c1.lt (Nat.le_of_eq g74.symm))
  have ne_c2_b74 : c2 ≠ b74 := Nat.ne_of_lt (Nat.lt_of_lt_of_le V_c2.lt (Nat.le_of_eq g74.symm))
  have n_b74 : n0 ≤ b74 := Nat.le_trans (own_n0 O0) (Nat.le_of_eq g74.symm)
  have sz_b74 : h0.size ≤ b74 := Nat.le_trans (Keep.refl h0 []).1 (Nat.le_of_eq g74.symm)
  have E_c0_74 := E_c0.ext E74
  have F_c0_droppedTotal_74 := F_c0_droppedTotal.ext E74
  have F_c0_end_74 := F_c0_end.ext E74
  have F_c0_firsts_74 := F_c0_firsts.ext E74
  have F_c0_head_74 := F_c0_head.ext E74
  have F_c0_lasts_74 := F_c0_lasts.ext E74
  have F_c0_totals_74 := F_c0_totals.ext E74
  have V_c1_74 := V_c1.ext E74
  have V_c2_74 := V_c2.ext E74
  have K74 : Keep h0 h74 [] := (Keep.refl h0 []).ext E74
  have O74 := O0.ext E74
  have V74 : Arv Z h74 b74 k74 .long (16 : Int32) [(.long (0 : Int64)), (.long (0 : Int64)), (.long (0 : Int64)), (.long (0 : Int64))] (.long (0 : Int64)) := own_shrink 4 V74
  show Go p e below _ (T74.setTop (mkF m 13 _ [(.ref b74)]))
  refine own_astore_n 14 #[oA c0, oA w_NONE, oI (16 : Int32), oA b74] X74 hx hby d6_13 rfl rfl rfl ?_
  refine own_aload_n 15 X74 hx hby d6_14 rfl rfl rfl ?_
  refine own_aload_n 16 X74 hx hby d6_15 rfl rfl rfl ?_
  refine own_getF 19 X74 hx hby hZ hown (own_w hw 29 rfl) e74 F_c0_head_74 d6_16 rfl ?_
  intro T75 X75 e75
  refine own_aload_n 20 X75 hx hby d6_19 rfl rfl rfl ?_
  refine own_iconst 21 (0 : Int32) X75 hx hby d6_20 rfl (by decide) ?_
  refine own_aload_n 22 X75 hx hby d6_21 rfl rfl rfl ?_
  refine own_getF 25 X75 hx hby hZ hown (own_w hw 23 rfl) e75 F_c0_end_74 d6_22 rfl ?_
  intro T76 X76 e76
  refine own_aload_n 26 X76 hx hby d6_25 rfl rfl rfl ?_
  refine own_getF 29 X76 hx hby hZ hown (own_w hw 29 rfl) e76 F_c0_head_74 d6_26 rfl ?_
  intro T77 X77 e77
  refine own_isub 30 (0 : Int32) X77 hx hby d6_29 rfl (by decide) ?_
  refine own_cp0 33 0 X77 hx hby hZ hown (own_w hw 40 rfl) (own_w hw 43 rfl) (own_w hw 41 rfl) (own_w hw 42 rfl) e77 (W.2.ext O74.2) V74 N0 n_b74 (by rw [hml]; rfl) d6_30 rfl rfl (by decide) (by decide) ?_
  intro T78 h78 L78 X78 e78 N78 Kc78 V78
  have E_c0_78 := E_c0_74.keep Kc78
  have F_c0_droppedTotal_78 := F_c0_droppedTotal_74.keep Kc78 (ninS ne_c0_b74 nin0)
  have F_c0_end_78 := F_c0_end_74.keep Kc78 (ninS ne_c0_b74 nin0)
  have F_c0_firsts_78 := F_c0_firsts_74.keep Kc78 (ninS ne_c0_b74 nin0)
  have F_c0_head_78 := F_c0_head_74.keep Kc78 (ninS ne_c0_b74 nin0)
  have F_c0_lasts_78 := F_c0_lasts_74.keep Kc78 (ninS ne_c0_b74 nin0)
  have F_c0_totals_78 := F_c0_totals_74.keep Kc78 (ninS ne_c0_b74 nin0)
  have V_c1_78 := V_c1_74.keep Kc78 (ninS ne_c1_b74 nin0)
  have V_c2_78 := V_c2_74.keep Kc78 (ninS ne_c2_b74 nin0)
  have K78 : Keep h0 h78 [] := K74.trans Kc78 (allS (Or.inr sz_b74) all0)
  have O78 := O74.keep Kc78 (allS n_b74 all0)
  refine own_aload_n 34 X78 hx hby d6_33 rfl rfl rfl ?_
  exact own_ret (Q := Q_rm6_7 Z w_NONE k_NONE c0 c1 k_c1 c2 k_c2 h0 n0) X78 hx hby hret hlk d6_34 rfl (Or.inr (Or.inr (Or.inr (Or.inr ⟨rfl, rfl, rfl⟩)))) (by decide) (by decide) (by rw [e78]; exact ⟨b74, k74, rfl, N78, K78, n_b74, sz_b74, E_c0_78, F_c0_droppedTotal_78, F_c0_end_78, F_c0_firsts_78, F_c0_head_78, F_c0_lasts_78, F_c0_totals_78, V_c1_78, V_c2_78, V78⟩)
def Q_rm4_8 (Z : State) (w_NONE k_NONE : Addr) (c0 : Addr) (h0 : Heap) (n0 : Nat) (v : Option Value) (h : Heap) (L : List Loc) : Prop := ∃ b63_0 : Addr, ∃ b71_0 : Addr, ∃ b79_0 : Addr, ∃ k63_0 : ClassId, ∃ k71_0 : ClassId, ∃ k79_0 : ClassId, v = none ∧ Fr n0 L ∧ Keep h0 h [c0] ∧ n0 ≤ b63_0 ∧ h0.size ≤ b63_0 ∧ n0 ≤ b71_0 ∧ h0.size ≤ b71_0 ∧ n0 ≤ b79_0 ∧ h0.size ≤ b79_0 ∧ b63_0 ≠ b71_0 ∧ b63_0 ≠ b79_0 ∧ b71_0 ≠ b79_0 ∧ Exa Z h c0 "com/example/meter/meter/store/Spans" ∧ Fld Z h c0 "com/example/meter/meter/store/Spans" "droppedTotal" "J" (.long (0 : Int64)) ∧ Fld Z h c0 "com/example/meter/meter/store/Spans" "end" "I" (.int (0 : Int32)) ∧ Fld Z h c0 "com/example/meter/meter/store/Spans" "firsts" "[J" (.ref b63_0) ∧ Fld Z h c0 "com/example/meter/meter/store/Spans" "head" "I" (.int (0 : Int32)) ∧ Fld Z h c0 "com/example/meter/meter/store/Spans" "lasts" "[J" (.ref b71_0) ∧ Fld Z h c0 "com/example/meter/meter/store/Spans" "totals" "[J" (.ref b79_0) ∧ Arv Z h b63_0 k63_0 .long (16 : Int32) [(.long (0 : Int64)), (.long (0 : Int64)), (.long (0 : Int64)), (.long (0 : Int64))] (.long (0 : Int64)) ∧ Arv Z h b71_0 k71_0 .long (16 : Int32) [(.long (0 : Int64)), (.long (0 : Int64)), (.long (0 : Int64)), (.long (0 : Int64))] (.long (0 : Int64)) ∧ Arv Z h b79_0 k79_0 .long (16 : Int32) [(.long (0 : Int64)), (.long (0 : Int64)), (.long (0 : Int64)), (.long (0 : Int64))] (.long (0 : Int64))
set_option maxRecDepth 65536 in
set_option maxHeartbeats 40000000 in
theorem rm4_8 (l : Launch) (Z : State) (a0 : Array Value) (hw : ∀ d ∈ tables_1, d.before a0 Z = true) (ws : List Jvm.Cond) (w_NONE k_NONE : Addr) (W : own_W Z w_NONE k_NONE) (c0 : Addr) (h0 : Heap) (n0 : Nat) (O0 : Old Z n0 h0) (E_c0 : Exa Z h0 c0 "com/example/meter/meter/store/Spans") (F_c0_droppedTotal : Fld Z h0 c0 "com/example/meter/meter/store/Spans" "droppedTotal" "J" (.long (0 : Int64))) (F_c0_end : Fld Z h0 c0 "com/example/meter/meter/store/Spans" "end" "I" (.int (0 : Int32))) (F_c0_firsts : Fld Z h0 c0 "com/example/meter/meter/store/Spans" "firsts" "[J" (.ref w_NONE)) (F_c0_head : Fld Z h0 c0 "com/example/meter/meter/store/Spans" "head" "I" (.int (0 : Int32))) (F_c0_lasts : Fld Z h0 c0 "com/example/meter/meter/store/Spans" "lasts" "[J" (.ref w_NONE)) (F_c0_totals : Fld Z h0 c0 "com/example/meter/meter/store/Spans" "totals" "[J" (.ref w_NONE)) (n_c0 : n0 ≤ c0) :
    MetFree l (⟨"com/example/meter/meter/store/Spans", "makeRoom", "()V"⟩ : MethodName) (head1 (Jvm.Cond.code (⟨"com/example/meter/meter/store/Spans", "makeRoom", "()V"⟩ : MethodName) prog_11_method_15_code 4 none :: ws) ({ frames := 2, cells := 3, slots := 48, locals := 52 } : Room)) (fun a U => a = #[(.ref c0)] ∧ Z.Warmed39 U.vm ∧ U.heap = h0) (fun _ _ _ _ _ => True) (fun _ U o U' => ∃ v L, o = .returned v ∧ Q_rm4_8 Z w_NONE k_NONE c0 h0 n0 v U'.heap L ∧ FrameEnd U o U' L ({ frames := 2, cells := 3, slots := 48, locals := 52 } : Room).cells ({ frames := 2, cells := 3, slots := 48, locals := 52 } : Room).slots) := by
  refine MetFree.of_bodySF (plainFor_of_name pn_0) hisR ?_
  intro p e s m args below meth c s₁ Bd hml0 hP hK
  obtain ⟨rfl, hZ, hh⟩ := hP
  have hx := Bd.exec
  have hby := Bd.bytes
  have hml : c.maxLocals = 4 := hml0
  have hlk := BodyLoose.notSynchronized Bd
  have hret := Bd.returns
  have hown : s.vm.findClass "com/example/meter/meter/store/Spans" = some m.cls := findClass_of_methodNamed Bd.named
  have hnm := (name_of_methodNamed Bd.named Bd.method).1
  have X0 : Stand p l e ({ frames := 2, cells := 3, slots := 48, locals := 52 } : Room) s m #[(.ref c0)] below meth c s₁ [] 0 0 := Stand.of_body Bd
  have e0 : s₁.heap = h0 := by rw [← hh, Bd.state]; rfl
  have N0 := Fr.nil n0
  rw [ef_4 m c0]
  show Go p e below _ (s₁.setTop (mkF m 0 #[oA c0, oU, oU, oU] []))
  refine own_aload_n 1 X0 hx hby d4_0 rfl rfl rfl ?_
  refine own_getF 4 X0 hx hby hZ hown (own_w hw 23 rfl) e0 F_c0_end d4_1 rfl ?_
  intro T51 X51 e51
  refine own_aload_n 5 X51 hx hby d4_4 rfl rfl rfl ?_
  refine own_getF 8 X51 hx hby hZ hown (own_w hw 29 rfl) e51 F_c0_head d4_5 rfl ?_
  intro T52 X52 e52
  refine own_isub 9 (0 : Int32) X52 hx hby d4_8 rfl (by decide) ?_
  refine own_istore_n 10 #[oA c0, oI (0 : Int32), oU, oU] X52 hx hby d4_9 rfl rfl ?_
  refine own_aload_n 11 X52 hx hby d4_10 rfl rfl rfl ?_
  refine own_getF 14 X52 hx hby hZ hown (own_w hw 14 rfl) e52 F_c0_lasts d4_11 rfl ?_
  intro T53 X53 e53
  refine own_len 15 X53 hx hby hZ e53 (W.2.ext O0.2) d4_14 rfl ?_
  refine own_iload_n 16 X53 hx hby d4_15 rfl rfl ?_
  refine own_isub 17 (0 : Int32) X53 hx hby d4_16 rfl (by decide) ?_
  refine own_istore_n 18 #[oA c0, oI (0 : Int32), oI (0 : Int32), oU] X53 hx hby d4_17 rfl rfl ?_
  refine own_iload_n 19 X53 hx hby d4_18 rfl rfl ?_
  refine own_aload_n 20 X53 hx hby d4_19 rfl rfl rfl ?_
  refine own_getF 23 X53 hx hby hZ hown (own_w hw 14 rfl) e53 F_c0_lasts d4_20 rfl ?_
  intro T54 X54 e54
  refine own_len 24 X54 hx hby hZ e54 (W.2.ext O0.2) d4_23 rfl ?_
  refine own_bipush 26 (8 : Int32) X54 hx hby d4_24 rfl (by decide) ?_
  refine own_idiv 27 (0 : Int32) X54 hx hby d4_26 rfl (by decide) (by decide) ?_
  refine own_icY 38 X54 hx hby d4_27 (by decide) (by decide) (by decide) ?_
  refine own_bipush 40 (16 : Int32) X54 hx hby d4_38 rfl (by decide) ?_
  refine own_iconst 41 (2 : Int32) X54 hx hby d4_40 rfl (by decide) ?_
  refine own_aload_n 42 X54 hx hby d4_41 rfl rfl rfl ?_
  refine own_getF 45 X54 hx hby hZ hown (own_w hw 14 rfl) e54 F_c0_lasts d4_42 rfl ?_
  intro T55 X55 e55
  refine own_len 46 X55 hx hby hZ e55 (W.2.ext O0.2) d4_45 rfl ?_
  refine own_imul 47 (0 : Int32) X55 hx hby d4_46 rfl (by decide) ?_
  refine own_callS (W := 0) 50 (rm5_4 l Z a0 hw [] w_NONE k_NONE W  h0 n0 O0) X55 hx hby hZ hown (own_w hw 31 rfl) (own_w hw 32 rfl) (own_w hw 33 rfl) (own_w hw 34 rfl) (by decide) (by rw [hml]; rfl) [(.int (16 : Int32)), (.int (0 : Int32))] [] pd_3 rfl d4_47 rfl e55 rfl rfl rfl (by decide) (by decide) (by decide) (by decide) ?_
  rintro _ T56 L56 X56 ⟨rfl, N56, e56⟩
  have N56 := Fr.app N0 N56
  show Go p e below _ (T56.setTop (mkF m 50 _ [(.int (16 : Int32))]))
  refine own_istore_n 51 #[oA c0, oI (0 : Int32), oI (0 : Int32), oI (16 : Int32)] X56 hx hby d4_50 rfl rfl ?_
  refine own_aload_n 52 X56 hx hby d4_51 rfl rfl rfl ?_
  refine own_aload_n 53 X56 hx hby d4_52 rfl rfl rfl ?_
  refine own_aload_n 54 X56 hx hby d4_53 rfl rfl rfl ?_
  refine own_getF 57 X56 hx hby hZ hown (own_w hw 12 rfl) e56 F_c0_firsts d4_54 rfl ?_
  intro T57 X57 e57
  refine own_iload_n 58 X57 hx hby d4_57 rfl rfl ?_
  refine own_priv (W := 1) 61 (rm6_5 l Z a0 hw [] w_NONE k_NONE W c0 h0 n0 O0 E_c0 F_c0_droppedTotal F_c0_end F_c0_firsts F_c0_head F_c0_lasts F_c0_totals n_c0) X57 hx hby hZ hown (own_w hw 35 rfl) (own_w hw 36 rfl) (own_w hw 37 rfl) (own_w hw 21 rfl) (own_w hw 3 rfl) (own_w hw 38 rfl) rfl (by decide) (by rw [hml]; rfl) c0 [(.ref w_NONE), (.int (16 : Int32))] [(.ref c0)] pd_4 rfl d4_58 rfl e57 E_c0 rfl rfl rfl (by decide) (by decide) (by decide) (by decide) ?_
  rintro _ T63 L63 X63 ⟨b63_0, k63_0, rfl, N63, Kc63, n_b63_0, sz_b63_0, E_c0_63, F_c0_droppedTotal_63, F_c0_end_63, F_c0_firsts_63, F_c0_head_63, F_c0_lasts_63, F_c0_totals_63, V_b63_0_63⟩
  have N63 := Fr.app N56 N63
  have ne_c0_b63_0 : c0 ≠ b63_0 := Nat.ne_of_lt (Nat.lt_of_lt_of_le E_c0.lt sz_b63_0)
  have sz_b63_0 : h0.size ≤ b63_0 := Nat.le_trans (Keep.refl h0 [c0]).1 sz_b63_0
  have K63 : Keep h0 T63.heap [c0] := (Keep.refl h0 [c0]).trans Kc63 all0
  have O63 := O0.keep Kc63 all0
  show Go p e below _ (T63.setTop (mkF m 61 _ [(.ref b63_0), (.ref c0)]))
  refine own_putF 64 X63 hx hby hZ (.array .long) hown (own_w hw 12 rfl) rfl F_c0_firsts_63 E_c0_63 (Or.inl (own_w hw 13 rfl)) (own_w hw 2 rfl) (by decide) rfl rfl d4_61 rfl ?_
  intro T64 h64 X64 e64 W64
  have E_c0_64 := E_c0_63.wr W64
  have F_c0_droppedTotal_64 := F_c0_droppedTotal_63.other W64 (Or.inr (slot_ne (Or.inl (own_w hw 49 rfl)) (Or.inl (own_w hw 13 rfl)) (by decide) (t := .long) (t' := (.array .long)) (by decide) (by decide)))
  have F_c0_end_64 := F_c0_end_63.other W64 (Or.inr (slot_ne (Or.inl (own_w hw 24 rfl)) (Or.inl (own_w hw 13 rfl)) (by decide) (t := .int) (t' := (.array .long)) (by decide) (by decide)))
  have F_c0_firsts_64 := F_c0_firsts_63.same W64
  have F_c0_head_64 := F_c0_head_63.other W64 (Or.inr (slot_ne (Or.inl (own_w hw 30 rfl)) (Or.inl (own_w hw 13 rfl)) (by decide) (t := .int) (t' := (.array .long)) (by decide) (by decide)))
  have F_c0_lasts_64 := F_c0_lasts_63.other W64 (Or.inr (slot_ne (Or.inl (own_w hw 15 rfl)) (Or.inl (own_w hw 13 rfl)) (by decide) (t := (.array .long)) (t' := (.array .long)) (by decide) (by decide)))
  have F_c0_totals_64 := F_c0_totals_63.other W64 (Or.inr (slot_ne (Or.inl (own_w hw 17 rfl)) (Or.inl (own_w hw 13 rfl)) (by decide) (t := (.array .long)) (t' := (.array .long)) (by decide) (by decide)))
  have V_b63_0_64 := V_b63_0_63.other W64 (Ne.symm ne_c0_b63_0)
  have K64 : Keep h0 h64 [c0] := K63.wr W64 (Or.inl (List.mem_of_getElem? (i := 0) rfl))
  have O64 := O63.wr W64 n_c0
  have N64 := Fr.snoc X64 N63 n_c0
  refine own_aload_n 65 X64 hx hby d4_64 rfl rfl rfl ?_
  refine own_aload_n 66 X64 hx hby d4_65 rfl rfl rfl ?_
  refine own_aload_n 67 X64 hx hby d4_66 rfl rfl rfl ?_
  refine own_getF 70 X64 hx hby hZ hown (own_w hw 14 rfl) e64 F_c0_lasts_64 d4_67 rfl ?_
  intro T65 X65 e65
  refine own_iload_n 71 X65 hx hby d4_70 rfl rfl ?_
  refine own_priv (W := 1) 74 (rm6_6 l Z a0 hw [] w_NONE k_NONE W c0 b63_0 k63_0 h64 n0 O64 E_c0_64 F_c0_droppedTotal_64 F_c0_end_64 F_c0_firsts_64 F_c0_head_64 F_c0_lasts_64 F_c0_totals_64 n_c0 V_b63_0_64 n_b63_0 ne_c0_b63_0) X65 hx hby hZ hown (own_w hw 35 rfl) (own_w hw 36 rfl) (own_w hw 37 rfl) (own_w hw 21 rfl) (own_w hw 3 rfl) (own_w hw 38 rfl) rfl (by decide) (by rw [hml]; rfl) c0 [(.ref w_NONE), (.int (16 : Int32))] [(.ref c0)] pd_4 rfl d4_71 rfl e65 E_c0_64 rfl rfl rfl (by decide) (by decide) (by decide) (by decide) ?_
  rintro _ T71 L71 X71 ⟨b71_0, k71_0, rfl, N71, Kc71, n_b71_0, sz_b71_0, E_c0_71, F_c0_droppedTotal_71, F_c0_end_71, F_c0_firsts_71, F_c0_head_71, F_c0_lasts_71, F_c0_totals_71, V_b63_0_71, V_b71_0_71⟩
  have N71 := Fr.app N64 N71
  have ne_c0_b71_0 : c0 ≠ b71_0 := Nat.ne_of_lt (Nat.lt_of_lt_of_le E_c0_64.lt sz_b71_0)
  have ne_b63_0_b71_0 : b63_0 ≠ b71_0 := Nat.ne_of_lt (Nat.lt_of_lt_of_le V_b63_0_64.lt sz_b71_0)
  have sz_b71_0 : h0.size ≤ b71_0 := Nat.le_trans K64.1 sz_b71_0
  have K71 : Keep h0 T71.heap [c0] := K64.trans Kc71 all0
  have O71 := O64.keep Kc71 all0
  show Go p e below _ (T71.setTop (mkF m 74 _ [(.ref b71_0), (.ref c0)]))
  refine own_putF 77 X71 hx hby hZ (.array .long) hown (own_w hw 14 rfl) rfl F_c0_lasts_71 E_c0_71 (Or.inl (own_w hw 15 rfl)) (own_w hw 2 rfl) (by decide) rfl rfl d4_74 rfl ?_
  intro T72 h72 X72 e72 W72
  have E_c0_72 := E_c0_71.wr W72
  have F_c0_droppedTotal_72 := F_c0_droppedTotal_71.other W72 (Or.inr (slot_ne (Or.inl (own_w hw 49 rfl)) (Or.inl (own_w hw 15 rfl)) (by decide) (t := .long) (t' := (.array .long)) (by decide) (by decide)))
  have F_c0_end_72 := F_c0_end_71.other W72 (Or.inr (slot_ne (Or.inl (own_w hw 24 rfl)) (Or.inl (own_w hw 15 rfl)) (by decide) (t := .int) (t' := (.array .long)) (by decide) (by decide)))
  have F_c0_firsts_72 := F_c0_firsts_71.other W72 (Or.inr (slot_ne (Or.inl (own_w hw 13 rfl)) (Or.inl (own_w hw 15 rfl)) (by decide) (t := (.array .long)) (t' := (.array .long)) (by decide) (by decide)))
  have F_c0_head_72 := F_c0_head_71.other W72 (Or.inr (slot_ne (Or.inl (own_w hw 30 rfl)) (Or.inl (own_w hw 15 rfl)) (by decide) (t := .int) (t' := (.array .long)) (by decide) (by decide)))
  have F_c0_lasts_72 := F_c0_lasts_71.same W72
  have F_c0_totals_72 := F_c0_totals_71.other W72 (Or.inr (slot_ne (Or.inl (own_w hw 17 rfl)) (Or.inl (own_w hw 15 rfl)) (by decide) (t := (.array .long)) (t' := (.array .long)) (by decide) (by decide)))
  have V_b63_0_72 := V_b63_0_71.other W72 (Ne.symm ne_c0_b63_0)
  have V_b71_0_72 := V_b71_0_71.other W72 (Ne.symm ne_c0_b71_0)
  have K72 : Keep h0 h72 [c0] := K71.wr W72 (Or.inl (List.mem_of_getElem? (i := 0) rfl))
  have O72 := O71.wr W72 n_c0
  have N72 := Fr.snoc X72 N71 n_c0
  refine own_aload_n 78 X72 hx hby d4_77 rfl rfl rfl ?_
  refine own_aload_n 79 X72 hx hby d4_78 rfl rfl rfl ?_
  refine own_aload_n 80 X72 hx hby d4_79 rfl rfl rfl ?_
  refine own_getF 83 X72 hx hby hZ hown (own_w hw 16 rfl) e72 F_c0_totals_72 d4_80 rfl ?_
  intro T73 X73 e73
  refine own_iload_n 84 X73 hx hby d4_83 rfl rfl ?_
  refine own_priv (W := 1) 87 (rm6_7 l Z a0 hw [] w_NONE k_NONE W c0 b63_0 k63_0 b71_0 k71_0 h72 n0 O72 E_c0_72 F_c0_droppedTotal_72 F_c0_end_72 F_c0_firsts_72 F_c0_head_72 F_c0_lasts_72 F_c0_totals_72 n_c0 V_b63_0_72 n_b63_0 V_b71_0_72 n_b71_0 ne_c0_b63_0 ne_c0_b71_0 ne_b63_0_b71_0) X73 hx hby hZ hown (own_w hw 35 rfl) (own_w hw 36 rfl) (own_w hw 37 rfl) (own_w hw 21 rfl) (own_w hw 3 rfl) (own_w hw 38 rfl) rfl (by decide) (by rw [hml]; rfl) c0 [(.ref w_NONE), (.int (16 : Int32))] [(.ref c0)] pd_4 rfl d4_84 rfl e73 E_c0_72 rfl rfl rfl (by decide) (by decide) (by decide) (by decide) ?_
  rintro _ T79 L79 X79 ⟨b79_0, k79_0, rfl, N79, Kc79, n_b79_0, sz_b79_0, E_c0_79, F_c0_droppedTotal_79, F_c0_end_79, F_c0_firsts_79, F_c0_head_79, F_c0_lasts_79, F_c0_totals_79, V_b63_0_79, V_b71_0_79, V_b79_0_79⟩
  have N79 := Fr.app N72 N79
  have ne_c0_b79_0 : c0 ≠ b79_0 := Nat.ne_of_lt (Nat.lt_of_lt_of_le E_c0_72.lt sz_b79_0)
  have ne_b63_0_b79_0 : b63_0 ≠ b79_0 := Nat.ne_of_lt (Nat.lt_of_lt_of_le V_b63_0_72.lt sz_b79_0)
  have ne_b71_0_b79_0 : b71_0 ≠ b79_0 := Nat.ne_of_lt (Nat.lt_of_lt_of_le V_b71_0_72.lt sz_b79_0)
  have sz_b79_0 : h0.size ≤ b79_0 := Nat.le_trans K72.1 sz_b79_0
  have K79 : Keep h0 T79.heap [c0] := K72.trans Kc79 all0
  have O79 := O72.keep Kc79 all0
  show Go p e below _ (T79.setTop (mkF m 87 _ [(.ref b79_0), (.ref c0)]))
  refine own_putF 90 X79 hx hby hZ (.array .long) hown (own_w hw 16 rfl) rfl F_c0_totals_79 E_c0_79 (Or.inl (own_w hw 17 rfl)) (own_w hw 2 rfl) (by decide) rfl rfl d4_87 rfl ?_
  intro T80 h80 X80 e80 W80
  have E_c0_80 := E_c0_79.wr W80
  have F_c0_droppedTotal_80 := F_c0_droppedTotal_79.other W80 (Or.inr (slot_ne (Or.inl (own_w hw 49 rfl)) (Or.inl (own_w hw 17 rfl)) (by decide) (t := .long) (t' := (.array .long)) (by decide) (by decide)))
  have F_c0_end_80 := F_c0_end_79.other W80 (Or.inr (slot_ne (Or.inl (own_w hw 24 rfl)) (Or.inl (own_w hw 17 rfl)) (by decide) (t := .int) (t' := (.array .long)) (by decide) (by decide)))
  have F_c0_firsts_80 := F_c0_firsts_79.other W80 (Or.inr (slot_ne (Or.inl (own_w hw 13 rfl)) (Or.inl (own_w hw 17 rfl)) (by decide) (t := (.array .long)) (t' := (.array .long)) (by decide) (by decide)))
  have F_c0_head_80 := F_c0_head_79.other W80 (Or.inr (slot_ne (Or.inl (own_w hw 30 rfl)) (Or.inl (own_w hw 17 rfl)) (by decide) (t := .int) (t' := (.array .long)) (by decide) (by decide)))
  have F_c0_lasts_80 := F_c0_lasts_79.other W80 (Or.inr (slot_ne (Or.inl (own_w hw 15 rfl)) (Or.inl (own_w hw 17 rfl)) (by decide) (t := (.array .long)) (t' := (.array .long)) (by decide) (by decide)))
  have F_c0_totals_80 := F_c0_totals_79.same W80
  have V_b63_0_80 := V_b63_0_79.other W80 (Ne.symm ne_c0_b63_0)
  have V_b71_0_80 := V_b71_0_79.other W80 (Ne.symm ne_c0_b71_0)
  have V_b79_0_80 := V_b79_0_79.other W80 (Ne.symm ne_c0_b79_0)
  have K80 : Keep h0 h80 [c0] := K79.wr W80 (Or.inl (List.mem_of_getElem? (i := 0) rfl))
  have O80 := O79.wr W80 n_c0
  have N80 := Fr.snoc X80 N79 n_c0
  refine own_aload_n 91 X80 hx hby d4_90 rfl rfl rfl ?_
  refine own_iconst 92 (0 : Int32) X80 hx hby d4_91 rfl (by decide) ?_
  refine own_putF 95 X80 hx hby hZ .int hown (own_w hw 29 rfl) e80 F_c0_head_80 E_c0_80 (Or.inl (own_w hw 30 rfl)) (own_w hw 2 rfl) (by decide) rfl rfl d4_92 rfl ?_
  intro T81 h81 X81 e81 W81
  have E_c0_81 := E_c0_80.wr W81
  have F_c0_droppedTotal_81 := F_c0_droppedTotal_80.other W81 (Or.inr (slot_ne (Or.inl (own_w hw 49 rfl)) (Or.inl (own_w hw 30 rfl)) (by decide) (t := .long) (t' := .int) (by decide) (by decide)))
  have F_c0_end_81 := F_c0_end_80.other W81 (Or.inr (slot_ne (Or.inl (own_w hw 24 rfl)) (Or.inl (own_w hw 30 rfl)) (by decide) (t := .int) (t' := .int) (by decide) (by decide)))
  have F_c0_firsts_81 := F_c0_firsts_80.other W81 (Or.inr (slot_ne (Or.inl (own_w hw 13 rfl)) (Or.inl (own_w hw 30 rfl)) (by decide) (t := (.array .long)) (t' := .int) (by decide) (by decide)))
  have F_c0_head_81 := F_c0_head_80.same W81
  have F_c0_lasts_81 := F_c0_lasts_80.other W81 (Or.inr (slot_ne (Or.inl (own_w hw 15 rfl)) (Or.inl (own_w hw 30 rfl)) (by decide) (t := (.array .long)) (t' := .int) (by decide) (by decide)))
  have F_c0_totals_81 := F_c0_totals_80.other W81 (Or.inr (slot_ne (Or.inl (own_w hw 17 rfl)) (Or.inl (own_w hw 30 rfl)) (by decide) (t := (.array .long)) (t' := .int) (by decide) (by decide)))
  have V_b63_0_81 := V_b63_0_80.other W81 (Ne.symm ne_c0_b63_0)
  have V_b71_0_81 := V_b71_0_80.other W81 (Ne.symm ne_c0_b71_0)
  have V_b79_0_81 := V_b79_0_80.other W81 (Ne.symm ne_c0_b79_0)
  have K81 : Keep h0 h81 [c0] := K80.wr W81 (Or.inl (List.mem_of_getElem? (i := 0) rfl))
  have O81 := O80.wr W81 n_c0
  have N81 := Fr.snoc X81 N80 n_c0
  refine own_aload_n 96 X81 hx hby d4_95 rfl rfl rfl ?_
  refine own_iload_n 97 X81 hx hby d4_96 rfl rfl ?_
  refine own_putF 100 X81 hx hby hZ .int hown (own_w hw 23 rfl) e81 F_c0_end_81 E_c0_81 (Or.inl (own_w hw 24 rfl)) (own_w hw 2 rfl) (by decide) rfl rfl d4_97 rfl ?_
  intro T82 h82 X82 e82 W82
  have E_c0_82 := E_c0_81.wr W82
  have F_c0_droppedTotal_82 := F_c0_droppedTotal_81.other W82 (Or.inr (slot_ne (Or.inl (own_w hw 49 rfl)) (Or.inl (own_w hw 24 rfl)) (by decide) (t := .long) (t' := .int) (by decide) (by decide)))
  have F_c0_end_82 := F_c0_end_81.same W82
  have F_c0_firsts_82 := F_c0_firsts_81.other W82 (Or.inr (slot_ne (Or.inl (own_w hw 13 rfl)) (Or.inl (own_w hw 24 rfl)) (by decide) (t := (.array .long)) (t' := .int) (by decide) (by decide)))
  have F_c0_head_82 := F_c0_head_81.other W82 (Or.inr (slot_ne (Or.inl (own_w hw 30 rfl)) (Or.inl (own_w hw 24 rfl)) (by decide) (t := .int) (t' := .int) (by decide) (by decide)))
  have F_c0_lasts_82 := F_c0_lasts_81.other W82 (Or.inr (slot_ne (Or.inl (own_w hw 15 rfl)) (Or.inl (own_w hw 24 rfl)) (by decide) (t := (.array .long)) (t' := .int) (by decide) (by decide)))
  have F_c0_totals_82 := F_c0_totals_81.other W82 (Or.inr (slot_ne (Or.inl (own_w hw 17 rfl)) (Or.inl (own_w hw 24 rfl)) (by decide) (t := (.array .long)) (t' := .int) (by decide) (by decide)))
  have V_b63_0_82 := V_b63_0_81.other W82 (Ne.symm ne_c0_b63_0)
  have V_b71_0_82 := V_b71_0_81.other W82 (Ne.symm ne_c0_b71_0)
  have V_b79_0_82 := V_b79_0_81.other W82 (Ne.symm ne_c0_b79_0)
  have K82 : Keep h0 h82 [c0] := K81.wr W82 (Or.inl (List.mem_of_getElem? (i := 0) rfl))
  have O82 := O81.wr W82 n_c0
  have N82 := Fr.snoc X82 N81 n_c0
  exact own_ret0 (Q := Q_rm4_8 Z w_NONE k_NONE c0 h0 n0) X82 hx hby hret hlk d4_100 (by decide) (by decide) (by rw [e82]; exact ⟨b63_0, b71_0, b79_0, k63_0, k71_0, k79_0, rfl, N82, K82, n_b63_0, sz_b63_0, n_b71_0, sz_b71_0, n_b79_0, sz_b79_0, ne_b63_0_b71_0, ne_b63_0_b79_0, ne_b71_0_b79_0, E_c0_82, F_c0_droppedTotal_82, F_c0_end_82, F_c0_firsts_82, F_c0_head_82, F_c0_lasts_82, F_c0_totals_82, V_b63_0_82, V_b71_0_82, V_b79_0_82⟩)
set_option maxRecDepth 65536 in
set_option maxHeartbeats 40000000 in
theorem rm7_9 (l : Launch) (Z : State) (a0 : Array Value) (hw : ∀ d ∈ tables_1, d.before a0 Z = true) (ws : List Jvm.Cond) (w_NONE k_NONE : Addr) (W : own_W Z w_NONE k_NONE) (c0 : Addr) (c1 : Addr) (k_c1 : ClassId) (c2 : Addr) (k_c2 : ClassId) (c3 : Addr) (k_c3 : ClassId) (y0 : Int64) (h0 : Heap) (n0 : Nat) (O0 : Old Z n0 h0) (E_c0 : Exa Z h0 c0 "com/example/meter/meter/store/Spans") (F_c0_droppedTotal : Fld Z h0 c0 "com/example/meter/meter/store/Spans" "droppedTotal" "J" (.long (0 : Int64))) (F_c0_end : Fld Z h0 c0 "com/example/meter/meter/store/Spans" "end" "I" (.int (0 : Int32))) (F_c0_firsts : Fld Z h0 c0 "com/example/meter/meter/store/Spans" "firsts" "[J" (.ref c1)) (F_c0_head : Fld Z h0 c0 "com/example/meter/meter/store/Spans" "head" "I" (.int (0 : Int32))) (F_c0_lasts : Fld Z h0 c0 "com/example/meter/meter/store/Spans" "lasts" "[J" (.ref c2)) (F_c0_totals : Fld Z h0 c0 "com/example/meter/meter/store/Spans" "totals" "[J" (.ref c3)) (n_c0 : n0 ≤ c0) (V_c1 : Arv Z h0 c1 k_c1 .long (16 : Int32) [(.long y0), (.long (0 : Int64)), (.long (0 : Int64)), (.long (0 : Int64))] (.long (0 : Int64))) (n_c1 : n0 ≤ c1) (V_c2 : Arv Z h0 c2 k_c2 .long (16 : Int32) [(.long y0), (.long (0 : Int64)), (.long (0 : Int64)), (.long (0 : Int64))] (.long (0 : Int64))) (n_c2 : n0 ≤ c2) (V_c3 : Arv Z h0 c3 k_c3 .long (16 : Int32) [(.long (0 : Int64)), (.long (0 : Int64)), (.long (0 : Int64)), (.long (0 : Int64))] (.long (0 : Int64))) (n_c3 : n0 ≤ c3) (ne_c0_c1 : c0 ≠ c1) (ne_c0_c2 : c0 ≠ c2) (ne_c0_c3 : c0 ≠ c3) (ne_c1_c2 : c1 ≠ c2) (ne_c1_c3 : c1 ≠ c3) (ne_c2_c3 : c2 ≠ c3) :
    MetFree l (⟨"com/example/meter/meter/store/Spans", "totalBefore", "(I)J"⟩ : MethodName) (head1 (Jvm.Cond.code (⟨"com/example/meter/meter/store/Spans", "totalBefore", "(I)J"⟩ : MethodName) prog_11_method_14_code 2 (some .long) :: ws) ({ frames := 0, cells := 0, slots := 0, locals := 0 } : Room)) (fun a U => a = #[(.ref c0), (.int (0 : Int32))] ∧ Z.Warmed39 U.vm ∧ U.heap = h0) (fun _ _ _ _ _ => True) (fun _ U o U' => ∃ v L, o = .returned v ∧ own_Q (some (.long (0 : Int64))) n0 h0 v U'.heap L ∧ FrameEnd U o U' L ({ frames := 0, cells := 0, slots := 0, locals := 0 } : Room).cells ({ frames := 0, cells := 0, slots := 0, locals := 0 } : Room).slots) := by
  refine MetFree.of_bodySF (plainFor_of_name pn_0) hisR ?_
  intro p e s m args below meth c s₁ Bd hml0 hP hK
  obtain ⟨rfl, hZ, hh⟩ := hP
  have hx := Bd.exec
  have hby := Bd.bytes
  have hml : c.maxLocals = 2 := hml0
  have hlk := BodyLoose.notSynchronized Bd
  have hret := Bd.returns
  have hown : s.vm.findClass "com/example/meter/meter/store/Spans" = some m.cls := findClass_of_methodNamed Bd.named
  have hnm := (name_of_methodNamed Bd.named Bd.method).1
  have X0 : Stand p l e ({ frames := 0, cells := 0, slots := 0, locals := 0 } : Room) s m #[(.ref c0), (.int (0 : Int32))] below meth c s₁ [] 0 0 := Stand.of_body Bd
  have e0 : s₁.heap = h0 := by rw [← hh, Bd.state]; rfl
  have N0 := Fr.nil n0
  rw [ef_7 m c0 (0 : Int32)]
  show Go p e below _ (s₁.setTop (mkF m 0 #[oA c0, oI (0 : Int32)] []))
  refine own_iload_n 1 X0 hx hby d7_0 rfl rfl ?_
  refine own_aload_n 2 X0 hx hby d7_1 rfl rfl rfl ?_
  refine own_getF 5 X0 hx hby hZ hown (own_w hw 29 rfl) e0 F_c0_head d7_2 rfl ?_
  intro T93 X93 e93
  refine own_icN 8 X93 hx hby d7_5 rfl (by decide) ?_
  refine own_aload_n 9 X93 hx hby d7_8 rfl rfl rfl ?_
  refine own_getF 12 X93 hx hby hZ hown (own_w hw 48 rfl) e93 F_c0_droppedTotal d7_9 rfl ?_
  intro T94 X94 e94
  refine own_goto 23 X94 hx hby d7_12 (by decide) (by decide) ?_
  exact own_ret (Q := own_Q (some (.long (0 : Int64))) n0 h0) X94 hx hby hret hlk d7_23 rfl (Or.inr (Or.inl ⟨rfl, rfl, _, rfl⟩)) (by decide) (by decide) ⟨rfl, N0, e94⟩
def Q_rm3_10 (Z : State) (w_NONE k_NONE : Addr) (c0 : Addr) (y0 : Int64) (y1 : Int64) (h0 : Heap) (n0 : Nat) (v : Option Value) (h : Heap) (L : List Loc) : Prop := ∃ b83_0 : Addr, ∃ b83_1 : Addr, ∃ b83_2 : Addr, ∃ k83_0 : ClassId, ∃ k83_1 : ClassId, ∃ k83_2 : ClassId, v = none ∧ Fr n0 L ∧ Keep h0 h [c0] ∧ n0 ≤ b83_0 ∧ h0.size ≤ b83_0 ∧ n0 ≤ b83_1 ∧ h0.size ≤ b83_1 ∧ n0 ≤ b83_2 ∧ h0.size ≤ b83_2 ∧ b83_0 ≠ b83_1 ∧ b83_0 ≠ b83_2 ∧ b83_1 ≠ b83_2 ∧ Exa Z h c0 "com/example/meter/meter/store/Spans" ∧ Fld Z h c0 "com/example/meter/meter/store/Spans" "droppedTotal" "J" (.long (0 : Int64)) ∧ Fld Z h c0 "com/example/meter/meter/store/Spans" "end" "I" (.int (1 : Int32)) ∧ Fld Z h c0 "com/example/meter/meter/store/Spans" "firsts" "[J" (.ref b83_0) ∧ Fld Z h c0 "com/example/meter/meter/store/Spans" "head" "I" (.int (0 : Int32)) ∧ Fld Z h c0 "com/example/meter/meter/store/Spans" "lasts" "[J" (.ref b83_1) ∧ Fld Z h c0 "com/example/meter/meter/store/Spans" "totals" "[J" (.ref b83_2) ∧ Arv Z h b83_0 k83_0 .long (16 : Int32) [(.long y0), (.long (0 : Int64)), (.long (0 : Int64)), (.long (0 : Int64))] (.long (0 : Int64)) ∧ Arv Z h b83_1 k83_1 .long (16 : Int32) [(.long y0), (.long (0 : Int64)), (.long (0 : Int64)), (.long (0 : Int64))] (.long (0 : Int64)) ∧ Arv Z h b83_2 k83_2 .long (16 : Int32) [(.long ((0 : Int64) + y1)), (.long (0 : Int64)), (.long (0 : Int64)), (.long (0 : Int64))] (.long (0 : Int64))
set_option maxRecDepth 65536 in
set_option maxHeartbeats 40000000 in
theorem rm3_10 (l : Launch) (Z : State) (a0 : Array Value) (hw : ∀ d ∈ tables_1, d.before a0 Z = true) (ws : List Jvm.Cond) (w_NONE k_NONE : Addr) (W : own_W Z w_NONE k_NONE) (c0 : Addr) (y0 : Int64) (y1 : Int64) (h0 : Heap) (n0 : Nat) (O0 : Old Z n0 h0) (E_c0 : Exa Z h0 c0 "com/example/meter/meter/store/Spans") (F_c0_droppedTotal : Fld Z h0 c0 "com/example/meter/meter/store/Spans" "droppedTotal" "J" (.long (0 : Int64))) (F_c0_end : Fld Z h0 c0 "com/example/meter/meter/store/Spans" "end" "I" (.int (0 : Int32))) (F_c0_firsts : Fld Z h0 c0 "com/example/meter/meter/store/Spans" "firsts" "[J" (.ref w_NONE)) (F_c0_head : Fld Z h0 c0 "com/example/meter/meter/store/Spans" "head" "I" (.int (0 : Int32))) (F_c0_lasts : Fld Z h0 c0 "com/example/meter/meter/store/Spans" "lasts" "[J" (.ref w_NONE)) (F_c0_totals : Fld Z h0 c0 "com/example/meter/meter/store/Spans" "totals" "[J" (.ref w_NONE)) (n_c0 : n0 ≤ c0) :
    MetFree l (⟨"com/example/meter/meter/store/Spans", "append", "(JJ)V"⟩ : MethodName) (head1 (Jvm.Cond.code (⟨"com/example/meter/meter/store/Spans", "append", "(JJ)V"⟩ : MethodName) prog_11_method_9_code 5 none :: ws) ({ frames := 3, cells := 3, slots := 48, locals := 67 } : Room)) (fun a U => a = #[(.ref c0), (.long y0), (.long y1)] ∧ Z.Warmed39 U.vm ∧ U.heap = h0) (fun _ _ _ _ _ => True) (fun _ U o U' => ∃ v L, o = .returned v ∧ Q_rm3_10 Z w_NONE k_NONE c0 y0 y1 h0 n0 v U'.heap L ∧ FrameEnd U o U' L ({ frames := 3, cells := 3, slots := 48, locals := 67 } : Room).cells ({ frames := 3, cells := 3, slots := 48, locals := 67 } : Room).slots) := by
  refine MetFree.of_bodySF (plainFor_of_name pn_0) hisR ?_
  intro p e s m args below meth c s₁ Bd hml0 hP hK
  obtain ⟨rfl, hZ, hh⟩ := hP
  have hx := Bd.exec
  have hby := Bd.bytes
  have hml : c.maxLocals = 5 := hml0
  have hlk := BodyLoose.notSynchronized Bd
  have hret := Bd.returns
  have hown : s.vm.findClass "com/example/meter/meter/store/Spans" = some m.cls := findClass_of_methodNamed Bd.named
  have hnm := (name_of_methodNamed Bd.named Bd.method).1
  have X0 : Stand p l e ({ frames := 3, cells := 3, slots := 48, locals := 67 } : Room) s m #[(.ref c0), (.long y0), (.long y1)] below meth c s₁ [] 0 0 := Stand.of_body Bd
  have e0 : s₁.heap = h0 := by rw [← hh, Bd.state]; rfl
  have N0 := Fr.nil n0
  rw [ef_3 m c0 y0 y1]
  show Go p e below _ (s₁.setTop (mkF m 0 #[oA c0, oJ y0, oS, oJ y1, oS] []))
  refine own_aload_n 1 X0 hx hby d3_0 rfl rfl rfl ?_
  refine own_getF 4 X0 hx hby hZ hown (own_w hw 23 rfl) e0 F_c0_end d3_1 rfl ?_
  intro T49 X49 e49
  refine own_aload_n 5 X49 hx hby d3_4 rfl rfl rfl ?_
  refine own_getF 8 X49 hx hby hZ hown (own_w hw 14 rfl) e49 F_c0_lasts d3_5 rfl ?_
  intro T50 X50 e50
  refine own_len 9 X50 hx hby hZ e50 (W.2.ext O0.2) d3_8 rfl ?_
  refine own_icN 12 X50 hx hby d3_9 rfl (by decide) ?_
  refine own_aload_n 13 X50 hx hby d3_12 rfl rfl rfl ?_
  refine own_priv (W := 0) 16 (rm4_8 l Z a0 hw [] w_NONE k_NONE W c0 h0 n0 O0 E_c0 F_c0_droppedTotal F_c0_end F_c0_firsts F_c0_head F_c0_lasts F_c0_totals n_c0) X50 hx hby hZ hown (own_w hw 25 rfl) (own_w hw 26 rfl) (own_w hw 27 rfl) (own_w hw 21 rfl) (own_w hw 3 rfl) (own_w hw 28 rfl) rfl (by decide) (by rw [hml]; rfl) c0 [] [] pd_0 rfl d3_13 rfl e50 E_c0 rfl rfl rfl (by decide) (by decide) (by decide) (by decide) ?_
  rintro _ T83 L83 X83 ⟨b83_0, b83_1, b83_2, k83_0, k83_1, k83_2, rfl, N83, Kc83, n_b83_0, sz_b83_0, n_b83_1, sz_b83_1, n_b83_2, sz_b83_2, ne_b83_0_b83_1, ne_b83_0_b83_2, ne_b83_1_b83_2, E_c0_83, F_c0_droppedTotal_83, F_c0_end_83, F_c0_firsts_83, F_c0_head_83, F_c0_lasts_83, F_c0_totals_83, V_b83_0_83, V_b83_1_83, V_b83_2_83⟩
  have N83 := Fr.app N0 N83
  have ne_c0_b83_0 : c0 ≠ b83_0 := Nat.ne_of_lt (Nat.lt_of_lt_of_le E_c0.lt sz_b83_0)
  have sz_b83_0 : h0.size ≤ b83_0 := Nat.le_trans (Keep.refl h0 [c0]).1 sz_b83_0
  have ne_c0_b83_1 : c0 ≠ b83_1 := Nat.ne_of_lt (Nat.lt_of_lt_of_le E_c0.lt sz_b83_1)
  have sz_b83_1 : h0.size ≤ b83_1 := Nat.le_trans (Keep.refl h0 [c0]).1 sz_b83_1
  have ne_c0_b83_2 : c0 ≠ b83_2 := Nat.ne_of_lt (Nat.lt_of_lt_of_le E_c0.lt sz_b83_2)
  have sz_b83_2 : h0.size ≤ b83_2 := Nat.le_trans (Keep.refl h0 [c0]).1 sz_b83_2
  have K83 : Keep h0 T83.heap [c0] := (Keep.refl h0 [c0]).trans Kc83 (allS (Or.inl (List.mem_of_getElem? (i := 0) rfl)) all0)
  have O83 := O0.keep Kc83 (allS n_c0 all0)
  show Go p e below _ (T83.setTop (mkF m 16 _ []))
  refine own_aload_n 17 X83 hx hby d3_16 rfl rfl rfl ?_
  refine own_getF 20 X83 hx hby hZ hown (own_w hw 12 rfl) rfl F_c0_firsts_83 d3_17 rfl ?_
  intro T84 X84 e84
  refine own_aload_n 21 X84 hx hby d3_20 rfl rfl rfl ?_
  refine own_getF 24 X84 hx hby hZ hown (own_w hw 23 rfl) e84 F_c0_end_83 d3_21 rfl ?_
  intro T85 X85 e85
  refine own_lload_n 25 X85 hx hby d3_24 rfl rfl ?_
  refine own_stJ 26 0 X85 hx hby hZ e85 V_b83_0_83 d3_25 rfl (by decide) (by decide) (Nat.le_of_ble_eq_true rfl) ?_
  intro T86 h86 X86 e86 W86 V86
  have V86 : Arv Z h86 b83_0 k83_0 .long (16 : Int32) [(.long y0), (.long (0 : Int64)), (.long (0 : Int64)), (.long (0 : Int64))] (.long (0 : Int64)) := V86
  have E_c0_86 := E_c0_83.wr W86
  have F_c0_droppedTotal_86 := F_c0_droppedTotal_83.other W86 (Or.inl ne_c0_b83_0)
  have F_c0_end_86 := F_c0_end_83.other W86 (Or.inl ne_c0_b83_0)
  have F_c0_firsts_86 := F_c0_firsts_83.other W86 (Or.inl ne_c0_b83_0)
  have F_c0_head_86 := F_c0_head_83.other W86 (Or.inl ne_c0_b83_0)
  have F_c0_lasts_86 := F_c0_lasts_83.other W86 (Or.inl ne_c0_b83_0)
  have F_c0_totals_86 := F_c0_totals_83.other W86 (Or.inl ne_c0_b83_0)
  have V_b83_1_86 := V_b83_1_83.other W86 (Ne.symm ne_b83_0_b83_1)
  have V_b83_2_86 := V_b83_2_83.other W86 (Ne.symm ne_b83_0_b83_2)
  have K86 : Keep h0 h86 [c0] := K83.wr W86 (Or.inr sz_b83_0)
  have O86 := O83.wr W86 n_b83_0
  have N86 := Fr.snoc X86 N83 n_b83_0
  refine own_aload_n 27 X86 hx hby d3_26 rfl rfl rfl ?_
  refine own_getF 30 X86 hx hby hZ hown (own_w hw 14 rfl) e86 F_c0_lasts_86 d3_27 rfl ?_
  intro T87 X87 e87
  refine own_aload_n 31 X87 hx hby d3_30 rfl rfl rfl ?_
  refine own_getF 34 X87 hx hby hZ hown (own_w hw 23 rfl) e87 F_c0_end_86 d3_31 rfl ?_
  intro T88 X88 e88
  refine own_lload_n 35 X88 hx hby d3_34 rfl rfl ?_
  refine own_stJ 36 0 X88 hx hby hZ e88 V_b83_1_86 d3_35 rfl (by decide) (by decide) (Nat.le_of_ble_eq_true rfl) ?_
  intro T89 h89 X89 e89 W89 V89
  have V89 : Arv Z h89 b83_1 k83_1 .long (16 : Int32) [(.long y0), (.long (0 : Int64)), (.long (0 : Int64)), (.long (0 : Int64))] (.long (0 : Int64)) := V89
  have E_c0_89 := E_c0_86.wr W89
  have F_c0_droppedTotal_89 := F_c0_droppedTotal_86.other W89 (Or.inl ne_c0_b83_1)
  have F_c0_end_89 := F_c0_end_86.other W89 (Or.inl ne_c0_b83_1)
  have F_c0_firsts_89 := F_c0_firsts_86.other W89 (Or.inl ne_c0_b83_1)
  have F_c0_head_89 := F_c0_head_86.other W89 (Or.inl ne_c0_b83_1)
  have F_c0_lasts_89 := F_c0_lasts_86.other W89 (Or.inl ne_c0_b83_1)
  have F_c0_totals_89 := F_c0_totals_86.other W89 (Or.inl ne_c0_b83_1)
  have V_b83_0_89 := V86.other W89 ne_b83_0_b83_1
  have V_b83_2_89 := V_b83_2_86.other W89 (Ne.symm ne_b83_1_b83_2)
  have K89 : Keep h0 h89 [c0] := K86.wr W89 (Or.inr sz_b83_1)
  have O89 := O86.wr W89 n_b83_1
  have N89 := Fr.snoc X89 N86 n_b83_1
  refine own_aload_n 37 X89 hx hby d3_36 rfl rfl rfl ?_
  refine own_getF 40 X89 hx hby hZ hown (own_w hw 16 rfl) e89 F_c0_totals_89 d3_37 rfl ?_
  intro T90 X90 e90
  refine own_aload_n 41 X90 hx hby d3_40 rfl rfl rfl ?_
  refine own_getF 44 X90 hx hby hZ hown (own_w hw 23 rfl) e90 F_c0_end_89 d3_41 rfl ?_
  intro T91 X91 e91
  refine own_aload_n 45 X91 hx hby d3_44 rfl rfl rfl ?_
  refine own_aload_n 46 X91 hx hby d3_45 rfl rfl rfl ?_
  refine own_getF 49 X91 hx hby hZ hown (own_w hw 23 rfl) e91 F_c0_end_89 d3_46 rfl ?_
  intro T92 X92 e92
  refine own_priv (W := 2) 52 (rm7_9 l Z a0 hw [] w_NONE k_NONE W c0 b83_0 k83_0 b83_1 k83_1 b83_2 k83_2 y0 h89 n0 O89 E_c0_89 F_c0_droppedTotal_89 F_c0_end_89 F_c0_firsts_89 F_c0_head_89 F_c0_lasts_89 F_c0_totals_89 n_c0 V_b83_0_89 n_b83_0 V89 n_b83_1 V_b83_2_89 n_b83_2 ne_c0_b83_0 ne_c0_b83_1 ne_c0_b83_2 ne_b83_0_b83_1 ne_b83_0_b83_2 ne_b83_1_b83_2) X92 hx hby hZ hown (own_w hw 44 rfl) (own_w hw 45 rfl) (own_w hw 46 rfl) (own_w hw 21 rfl) (own_w hw 3 rfl) (own_w hw 47 rfl) rfl (by decide) (by rw [hml]; rfl) c0 [(.int (0 : Int32))] [(.int (0 : Int32)), (.ref b83_2)] pd_5 rfl d3_49 rfl e92 E_c0_89 rfl rfl rfl (by decide) (by decide) (by decide) (by decide) ?_
  rintro _ T95 L95 X95 ⟨rfl, N95, e95⟩
  have N95 := Fr.app N89 N95
  show Go p e below _ (T95.setTop (mkF m 52 _ [(.long (0 : Int64)), (.int (0 : Int32)), (.ref b83_2)]))
  refine own_lload_n 53 X95 hx hby d3_52 rfl rfl ?_
  refine own_ladd 54 ((0 : Int64) + y1) X95 hx hby d3_53 rfl rfl ?_
  refine own_stJ 55 0 X95 hx hby hZ e95 V_b83_2_89 d3_54 rfl (by decide) (by decide) (Nat.le_of_ble_eq_true rfl) ?_
  intro T96 h96 X96 e96 W96 V96
  have V96 : Arv Z h96 b83_2 k83_2 .long (16 : Int32) [(.long ((0 : Int64) + y1)), (.long (0 : Int64)), (.long (0 : Int64)), (.long (0 : Int64))] (.long (0 : Int64)) := V96
  have E_c0_96 := E_c0_89.wr W96
  have F_c0_droppedTotal_96 := F_c0_droppedTotal_89.other W96 (Or.inl ne_c0_b83_2)
  have F_c0_end_96 := F_c0_end_89.other W96 (Or.inl ne_c0_b83_2)
  have F_c0_firsts_96 := F_c0_firsts_89.other W96 (Or.inl ne_c0_b83_2)
  have F_c0_head_96 := F_c0_head_89.other W96 (Or.inl ne_c0_b83_2)
  have F_c0_lasts_96 := F_c0_lasts_89.other W96 (Or.inl ne_c0_b83_2)
  have F_c0_totals_96 := F_c0_totals_89.other W96 (Or.inl ne_c0_b83_2)
  have V_b83_0_96 := V_b83_0_89.other W96 ne_b83_0_b83_2
  have V_b83_1_96 := V89.other W96 ne_b83_1_b83_2
  have K96 : Keep h0 h96 [c0] := K89.wr W96 (Or.inr sz_b83_2)
  have O96 := O89.wr W96 n_b83_2
  have N96 := Fr.snoc X96 N95 n_b83_2
  refine own_aload_n 56 X96 hx hby d3_55 rfl rfl rfl ?_
  refine own_dup 57 X96 hx hby d3_56 rfl rfl ?_
  refine own_getF 60 X96 hx hby hZ hown (own_w hw 23 rfl) e96 F_c0_end_96 d3_57 rfl ?_
  intro T97 X97 e97
  refine own_iconst 61 (1 : Int32) X97 hx hby d3_60 rfl (by decide) ?_
  refine own_iadd 62 (1 : Int32) X97 hx hby d3_61 rfl (by decide) ?_
  refine own_putF 65 X97 hx hby hZ .int hown (own_w hw 23 rfl) e97 F_c0_end_96 E_c0_96 (Or.inl (own_w hw 24 rfl)) (own_w hw 2 rfl) (by decide) rfl rfl d3_62 rfl ?_
  intro T98 h98 X98 e98 W98
  have E_c0_98 := E_c0_96.wr W98
  have F_c0_droppedTotal_98 := F_c0_droppedTotal_96.other W98 (Or.inr (slot_ne (Or.inl (own_w hw 49 rfl)) (Or.inl (own_w hw 24 rfl)) (by decide) (t := .long) (t' := .int) (by decide) (by decide)))
  have F_c0_end_98 := F_c0_end_96.same W98
  have F_c0_firsts_98 := F_c0_firsts_96.other W98 (Or.inr (slot_ne (Or.inl (own_w hw 13 rfl)) (Or.inl (own_w hw 24 rfl)) (by decide) (t := (.array .long)) (t' := .int) (by decide) (by decide)))
  have F_c0_head_98 := F_c0_head_96.other W98 (Or.inr (slot_ne (Or.inl (own_w hw 30 rfl)) (Or.inl (own_w hw 24 rfl)) (by decide) (t := .int) (t' := .int) (by decide) (by decide)))
  have F_c0_lasts_98 := F_c0_lasts_96.other W98 (Or.inr (slot_ne (Or.inl (own_w hw 15 rfl)) (Or.inl (own_w hw 24 rfl)) (by decide) (t := (.array .long)) (t' := .int) (by decide) (by decide)))
  have F_c0_totals_98 := F_c0_totals_96.other W98 (Or.inr (slot_ne (Or.inl (own_w hw 17 rfl)) (Or.inl (own_w hw 24 rfl)) (by decide) (t := (.array .long)) (t' := .int) (by decide) (by decide)))
  have V_b83_0_98 := V_b83_0_96.other W98 (Ne.symm ne_c0_b83_0)
  have V_b83_1_98 := V_b83_1_96.other W98 (Ne.symm ne_c0_b83_1)
  have V_b83_2_98 := V96.other W98 (Ne.symm ne_c0_b83_2)
  have K98 : Keep h0 h98 [c0] := K96.wr W98 (Or.inl (List.mem_of_getElem? (i := 0) rfl))
  have O98 := O96.wr W98 n_c0
  have N98 := Fr.snoc X98 N96 n_c0
  exact own_ret0 (Q := Q_rm3_10 Z w_NONE k_NONE c0 y0 y1 h0 n0) X98 hx hby hret hlk d3_65 (by decide) (by decide) (by rw [e98]; exact ⟨b83_0, b83_1, b83_2, k83_0, k83_1, k83_2, rfl, N98, K98, n_b83_0, sz_b83_0, n_b83_1, sz_b83_1, n_b83_2, sz_b83_2, ne_b83_0_b83_1, ne_b83_0_b83_2, ne_b83_1_b83_2, E_c0_98, F_c0_droppedTotal_98, F_c0_end_98, F_c0_firsts_98, F_c0_head_98, F_c0_lasts_98, F_c0_totals_98, V_b83_0_98, V_b83_1_98, V_b83_2_98⟩)
set_option maxRecDepth 65536 in
set_option maxHeartbeats 40000000 in
theorem rm8_11 (l : Launch) (Z : State) (a0 : Array Value) (hw : ∀ d ∈ tables_1, d.before a0 Z = true) (ws : List Jvm.Cond) (w_NONE k_NONE : Addr) (W : own_W Z w_NONE k_NONE) (c0 : Addr) (c1 : Addr) (k_c1 : ClassId) (c2 : Addr) (k_c2 : ClassId) (c3 : Addr) (k_c3 : ClassId) (y0 : Int64) (y1 : Int64) (h0 : Heap) (n0 : Nat) (O0 : Old Z n0 h0) (E_c0 : Exa Z h0 c0 "com/example/meter/meter/store/Spans") (F_c0_droppedTotal : Fld Z h0 c0 "com/example/meter/meter/store/Spans" "droppedTotal" "J" (.long (0 : Int64))) (F_c0_end : Fld Z h0 c0 "com/example/meter/meter/store/Spans" "end" "I" (.int (1 : Int32))) (F_c0_firsts : Fld Z h0 c0 "com/example/meter/meter/store/Spans" "firsts" "[J" (.ref c1)) (F_c0_head : Fld Z h0 c0 "com/example/meter/meter/store/Spans" "head" "I" (.int (0 : Int32))) (F_c0_lasts : Fld Z h0 c0 "com/example/meter/meter/store/Spans" "lasts" "[J" (.ref c2)) (F_c0_totals : Fld Z h0 c0 "com/example/meter/meter/store/Spans" "totals" "[J" (.ref c3)) (n_c0 : n0 ≤ c0) (V_c1 : Arv Z h0 c1 k_c1 .long (16 : Int32) [(.long y0), (.long (0 : Int64)), (.long (0 : Int64)), (.long (0 : Int64))] (.long (0 : Int64))) (n_c1 : n0 ≤ c1) (V_c2 : Arv Z h0 c2 k_c2 .long (16 : Int32) [(.long y0), (.long (0 : Int64)), (.long (0 : Int64)), (.long (0 : Int64))] (.long (0 : Int64))) (n_c2 : n0 ≤ c2) (V_c3 : Arv Z h0 c3 k_c3 .long (16 : Int32) [(.long y1), (.long (0 : Int64)), (.long (0 : Int64)), (.long (0 : Int64))] (.long (0 : Int64))) (n_c3 : n0 ≤ c3) (ne_c0_c1 : c0 ≠ c1) (ne_c0_c2 : c0 ≠ c2) (ne_c0_c3 : c0 ≠ c3) (ne_c1_c2 : c1 ≠ c2) (ne_c1_c3 : c1 ≠ c3) (ne_c2_c3 : c2 ≠ c3) :
    MetFree l (⟨"com/example/meter/meter/store/Spans", "newestSecond", "()J"⟩ : MethodName) (head1 (Jvm.Cond.code (⟨"com/example/meter/meter/store/Spans", "newestSecond", "()J"⟩ : MethodName) prog_11_method_7_code 1 (some .long) :: ws) ({ frames := 0, cells := 0, slots := 0, locals := 0 } : Room)) (fun a U => a = #[(.ref c0)] ∧ Z.Warmed39 U.vm ∧ U.heap = h0) (fun _ _ _ _ _ => True) (fun _ U o U' => ∃ v L, o = .returned v ∧ own_Q (some (.long y0)) n0 h0 v U'.heap L ∧ FrameEnd U o U' L ({ frames := 0, cells := 0, slots := 0, locals := 0 } : Room).cells ({ frames := 0, cells := 0, slots := 0, locals := 0 } : Room).slots) := by
  refine MetFree.of_bodySF (plainFor_of_name pn_0) hisR ?_
  intro p e s m args below meth c s₁ Bd hml0 hP hK
  obtain ⟨rfl, hZ, hh⟩ := hP
  have hx := Bd.exec
  have hby := Bd.bytes
  have hml : c.maxLocals = 1 := hml0
  have hlk := BodyLoose.notSynchronized Bd
  have hret := Bd.returns
  have hown : s.vm.findClass "com/example/meter/meter/store/Spans" = some m.cls := findClass_of_methodNamed Bd.named
  have hnm := (name_of_methodNamed Bd.named Bd.method).1
  have X0 : Stand p l e ({ frames := 0, cells := 0, slots := 0, locals := 0 } : Room) s m #[(.ref c0)] below meth c s₁ [] 0 0 := Stand.of_body Bd
  have e0 : s₁.heap = h0 := by rw [← hh, Bd.state]; rfl
  have N0 := Fr.nil n0
  rw [ef_8 m c0]
  show Go p e below _ (s₁.setTop (mkF m 0 #[oA c0] []))
  refine own_aload_n 1 X0 hx hby d8_0 rfl rfl rfl ?_
  refine own_getF 4 X0 hx hby hZ hown (own_w hw 29 rfl) e0 F_c0_head d8_1 rfl ?_
  intro T101 X101 e101
  refine own_aload_n 5 X101 hx hby d8_4 rfl rfl rfl ?_
  refine own_getF 8 X101 hx hby hZ hown (own_w hw 23 rfl) e101 F_c0_end d8_5 rfl ?_
  intro T102 X102 e102
  refine own_icY 17 X102 hx hby d8_8 (by decide) (by decide) (by decide) ?_
  refine own_aload_n 18 X102 hx hby d8_17 rfl rfl rfl ?_
  refine own_getF 21 X102 hx hby hZ hown (own_w hw 14 rfl) e102 F_c0_lasts d8_18 rfl ?_
  intro T103 X103 e103
  refine own_aload_n 22 X103 hx hby d8_21 rfl rfl rfl ?_
  refine own_getF 25 X103 hx hby hZ hown (own_w hw 23 rfl) e103 F_c0_end d8_22 rfl ?_
  intro T104 X104 e104
  refine own_iconst 26 (1 : Int32) X104 hx hby d8_25 rfl (by decide) ?_
  refine own_isub 27 (0 : Int32) X104 hx hby d8_26 rfl (by decide) ?_
  refine own_laload 28 (.long y0) X104 hx hby hZ e104 V_c2 d8_27 rfl (by decide) rfl ?_
  exact own_ret (Q := own_Q (some (.long y0)) n0 h0) X104 hx hby hret hlk d8_28 rfl (Or.inr (Or.inl ⟨rfl, rfl, _, rfl⟩)) (by decide) (by decide) ⟨rfl, N0, e104⟩
def Q_rm10_12 (Z : State) (w_NONE k_NONE : Addr) (c0 : Addr) (c1 : Addr) (k_c1 : ClassId) (c2 : Addr) (k_c2 : ClassId) (c3 : Addr) (k_c3 : ClassId) (y0 : Int64) (y1 : Int64) (h0 : Heap) (n0 : Nat) (v : Option Value) (h : Heap) (L : List Loc) : Prop := v = none ∧ Fr n0 L ∧ Keep h0 h [c0] ∧ Exa Z h c0 "com/example/meter/meter/store/Spans" ∧ Fld Z h c0 "com/example/meter/meter/store/Spans" "droppedTotal" "J" (.long (0 : Int64)) ∧ Fld Z h c0 "com/example/meter/meter/store/Spans" "end" "I" (.int (1 : Int32)) ∧ Fld Z h c0 "com/example/meter/meter/store/Spans" "firsts" "[J" (.ref c1) ∧ Fld Z h c0 "com/example/meter/meter/store/Spans" "head" "I" (.int (0 : Int32)) ∧ Fld Z h c0 "com/example/meter/meter/store/Spans" "lasts" "[J" (.ref c2) ∧ Fld Z h c0 "com/example/meter/meter/store/Spans" "totals" "[J" (.ref c3) ∧ Arv Z h c1 k_c1 .long (16 : Int32) [(.long y0), (.long (0 : Int64)), (.long (0 : Int64)), (.long (0 : Int64))] (.long (0 : Int64)) ∧ Arv Z h c2 k_c2 .long (16 : Int32) [(.long y0), (.long (0 : Int64)), (.long (0 : Int64)), (.long (0 : Int64))] (.long (0 : Int64)) ∧ Arv Z h c3 k_c3 .long (16 : Int32) [(.long y1), (.long (0 : Int64)), (.long (0 : Int64)), (.long (0 : Int64))] (.long (0 : Int64))
set_option maxRecDepth 65536 in
set_option maxHeartbeats 40000000 in
theorem rm10_12 (l : Launch) (Z : State) (a0 : Array Value) (hw : ∀ d ∈ tables_1, d.before a0 Z = true) (ws : List Jvm.Cond) (w_NONE k_NONE : Addr) (W : own_W Z w_NONE k_NONE) (c0 : Addr) (c1 : Addr) (k_c1 : ClassId) (c2 : Addr) (k_c2 : ClassId) (c3 : Addr) (k_c3 : ClassId) (y0 : Int64) (y1 : Int64) (h0 : Heap) (n0 : Nat) (O0 : Old Z n0 h0) (E_c0 : Exa Z h0 c0 "com/example/meter/meter/store/Spans") (F_c0_droppedTotal : Fld Z h0 c0 "com/example/meter/meter/store/Spans" "droppedTotal" "J" (.long (0 : Int64))) (F_c0_end : Fld Z h0 c0 "com/example/meter/meter/store/Spans" "end" "I" (.int (1 : Int32))) (F_c0_firsts : Fld Z h0 c0 "com/example/meter/meter/store/Spans" "firsts" "[J" (.ref c1)) (F_c0_head : Fld Z h0 c0 "com/example/meter/meter/store/Spans" "head" "I" (.int (0 : Int32))) (F_c0_lasts : Fld Z h0 c0 "com/example/meter/meter/store/Spans" "lasts" "[J" (.ref c2)) (F_c0_totals : Fld Z h0 c0 "com/example/meter/meter/store/Spans" "totals" "[J" (.ref c3)) (n_c0 : n0 ≤ c0) (V_c1 : Arv Z h0 c1 k_c1 .long (16 : Int32) [(.long y0), (.long (0 : Int64)), (.long (0 : Int64)), (.long (0 : Int64))] (.long (0 : Int64))) (n_c1 : n0 ≤ c1) (V_c2 : Arv Z h0 c2 k_c2 .long (16 : Int32) [(.long y0), (.long (0 : Int64)), (.long (0 : Int64)), (.long (0 : Int64))] (.long (0 : Int64))) (n_c2 : n0 ≤ c2) (V_c3 : Arv Z h0 c3 k_c3 .long (16 : Int32) [(.long y1), (.long (0 : Int64)), (.long (0 : Int64)), (.long (0 : Int64))] (.long (0 : Int64))) (n_c3 : n0 ≤ c3) (ne_c0_c1 : c0 ≠ c1) (ne_c0_c2 : c0 ≠ c2) (ne_c0_c3 : c0 ≠ c3) (ne_c1_c2 : c1 ≠ c2) (ne_c1_c3 : c1 ≠ c3) (ne_c2_c3 : c2 ≠ c3) :
    MetFree l (⟨"com/example/meter/meter/store/Spans", "join", "()V"⟩ : MethodName) (head1 (Jvm.Cond.code (⟨"com/example/meter/meter/store/Spans", "join", "()V"⟩ : MethodName) prog_11_method_12_code 9 none :: ws) ({ frames := 0, cells := 0, slots := 0, locals := 0 } : Room)) (fun a U => a = #[(.ref c0)] ∧ Z.Warmed39 U.vm ∧ U.heap = h0) (fun _ _ _ _ _ => True) (fun _ U o U' => ∃ v L, o = .returned v ∧ Q_rm10_12 Z w_NONE k_NONE c0 c1 k_c1 c2 k_c2 c3 k_c3 y0 y1 h0 n0 v U'.heap L ∧ FrameEnd U o U' L ({ frames := 0, cells := 0, slots := 0, locals := 0 } : Room).cells ({ frames := 0, cells := 0, slots := 0, locals := 0 } : Room).slots) := by
  refine MetFree.of_bodySF (plainFor_of_name pn_0) hisR ?_
  intro p e s m args below meth c s₁ Bd hml0 hP hK
  obtain ⟨rfl, hZ, hh⟩ := hP
  have hx := Bd.exec
  have hby := Bd.bytes
  have hml : c.maxLocals = 9 := hml0
  have hlk := BodyLoose.notSynchronized Bd
  have hret := Bd.returns
  have hown : s.vm.findClass "com/example/meter/meter/store/Spans" = some m.cls := findClass_of_methodNamed Bd.named
  have hnm := (name_of_methodNamed Bd.named Bd.method).1
  have X0 : Stand p l e ({ frames := 0, cells := 0, slots := 0, locals := 0 } : Room) s m #[(.ref c0)] below meth c s₁ [] 0 0 := Stand.of_body Bd
  have e0 : s₁.heap = h0 := by rw [← hh, Bd.state]; rfl
  have N0 := Fr.nil n0
  rw [ef_10 m c0]
  show Go p e below _ (s₁.setTop (mkF m 0 #[oA c0, oU, oU, oU, oU, oU, oU, oU, oU] []))
  refine own_aload_n 1 X0 hx hby d10_0 rfl rfl rfl ?_
  refine own_getF 4 X0 hx hby hZ hown (own_w hw 16 rfl) e0 F_c0_totals d10_1 rfl ?_
  intro T109 X109 e109
  refine own_aload_n 5 X109 hx hby d10_4 rfl rfl rfl ?_
  refine own_getF 8 X109 hx hby hZ hown (own_w hw 23 rfl) e109 F_c0_end d10_5 rfl ?_
  intro T110 X110 e110
  refine own_iconst 9 (1 : Int32) X110 hx hby d10_8 rfl (by decide) ?_
  refine own_isub 10 (0 : Int32) X110 hx hby d10_9 rfl (by decide) ?_
  refine own_laload 11 (.long y1) X110 hx hby hZ e110 V_c3 d10_10 rfl (by decide) rfl ?_
  refine own_lstore_n 12 #[oA c0, oJ y1, oS, oU, oU, oU, oU, oU, oU] X110 hx hby d10_11 rfl rfl ?_
  refine own_aload_n 13 X110 hx hby d10_12 rfl rfl rfl ?_
  refine own_getF 16 X110 hx hby hZ hown (own_w hw 23 rfl) e110 F_c0_end d10_13 rfl ?_
  intro T111 X111 e111
  refine own_iconst 17 (1 : Int32) X111 hx hby d10_16 rfl (by decide) ?_
  refine own_isub 18 (0 : Int32) X111 hx hby d10_17 rfl (by decide) ?_
  refine own_istore_n 19 #[oA c0, oJ y1, oS, oI (0 : Int32), oU, oU, oU, oU, oU] X111 hx hby d10_18 rfl rfl ?_
  refine own_aload_n 20 X111 hx hby d10_19 rfl rfl rfl ?_
  refine own_getF 23 X111 hx hby hZ hown (own_w hw 23 rfl) e111 F_c0_end d10_20 rfl ?_
  intro T112 X112 e112
  refine own_iconst 24 (2 : Int32) X112 hx hby d10_23 rfl (by decide) ?_
  refine own_isub 25 (-1 : Int32) X112 hx hby d10_24 rfl (by decide) ?_
  refine own_istore 27 #[oA c0, oJ y1, oS, oI (0 : Int32), oI (-1 : Int32), oU, oU, oU, oU] X112 hx hby d10_25 rfl rfl ?_
  refine own_iload 29 X112 hx hby d10_27 rfl rfl ?_
  refine own_aload_n 30 X112 hx hby d10_29 rfl rfl rfl ?_
  refine own_getF 33 X112 hx hby hZ hown (own_w hw 29 rfl) e112 F_c0_head d10_30 rfl ?_
  intro T113 X113 e113
  refine own_icY 136 X113 hx hby d10_33 (by decide) (by decide) (by decide) ?_
  refine own_aload_n 137 X113 hx hby d10_136 rfl rfl rfl ?_
  refine own_iload_n 138 X113 hx hby d10_137 rfl rfl ?_
  refine own_putF 141 X113 hx hby hZ .int hown (own_w hw 29 rfl) e113 F_c0_head E_c0 (Or.inl (own_w hw 30 rfl)) (own_w hw 2 rfl) (by decide) rfl rfl d10_138 rfl ?_
  intro T114 h114 X114 e114 W114
  have E_c0_114 := E_c0.wr W114
  have F_c0_droppedTotal_114 := F_c0_droppedTotal.other W114 (Or.inr (slot_ne (Or.inl (own_w hw 49 rfl)) (Or.inl (own_w hw 30 rfl)) (by decide) (t := .long) (t' := .int) (by decide) (by decide)))
  have F_c0_end_114 := F_c0_end.other W114 (Or.inr (slot_ne (Or.inl (own_w hw 24 rfl)) (Or.inl (own_w hw 30 rfl)) (by decide) (t := .int) (t' := .int) (by decide) (by decide)))
  have F_c0_firsts_114 := F_c0_firsts.other W114 (Or.inr (slot_ne (Or.inl (own_w hw 13 rfl)) (Or.inl (own_w hw 30 rfl)) (by decide) (t := (.array .long)) (t' := .int) (by decide) (by decide)))
  have F_c0_head_114 := F_c0_head.same W114
  have F_c0_lasts_114 := F_c0_lasts.other W114 (Or.inr (slot_ne (Or.inl (own_w hw 15 rfl)) (Or.inl (own_w hw 30 rfl)) (by decide) (t := (.array .long)) (t' := .int) (by decide) (by decide)))
  have F_c0_totals_114 := F_c0_totals.other W114 (Or.inr (slot_ne (Or.inl (own_w hw 17 rfl)) (Or.inl (own_w hw 30 rfl)) (by decide) (t := (.array .long)) (t' := .int) (by decide) (by decide)))
  have V_c1_114 := V_c1.other W114 (Ne.symm ne_c0_c1)
  have V_c2_114 := V_c2.other W114 (Ne.symm ne_c0_c2)
  have V_c3_114 := V_c3.other W114 (Ne.symm ne_c0_c3)
  have K114 : Keep h0 h114 [c0] := (Keep.refl h0 [c0]).wr W114 (Or.inl (List.mem_of_getElem? (i := 0) rfl))
  have O114 := O0.wr W114 n_c0
  have N114 := Fr.snoc X114 N0 n_c0
  exact own_ret0 (Q := Q_rm10_12 Z w_NONE k_NONE c0 c1 k_c1 c2 k_c2 c3 k_c3 y0 y1 h0 n0) X114 hx hby hret hlk d10_141 (by decide) (by decide) (by rw [e114]; exact ⟨rfl, N114, K114, E_c0_114, F_c0_droppedTotal_114, F_c0_end_114, F_c0_firsts_114, F_c0_head_114, F_c0_lasts_114, F_c0_totals_114, V_c1_114, V_c2_114, V_c3_114⟩)
set_option maxRecDepth 65536 in
set_option maxHeartbeats 40000000 in
theorem rm9_13 (l : Launch) (Z : State) (a0 : Array Value) (hw : ∀ d ∈ tables_1, d.before a0 Z = true) (ws : List Jvm.Cond) (w_NONE k_NONE : Addr) (W : own_W Z w_NONE k_NONE) (c0 : Addr) (c1 : Addr) (k_c1 : ClassId) (c2 : Addr) (k_c2 : ClassId) (c3 : Addr) (k_c3 : ClassId) (y0 : Int64) (y1 : Int64) (y2 : Int64) (h0 : Heap) (n0 : Nat) (O0 : Old Z n0 h0) (E_c0 : Exa Z h0 c0 "com/example/meter/meter/store/Spans") (F_c0_droppedTotal : Fld Z h0 c0 "com/example/meter/meter/store/Spans" "droppedTotal" "J" (.long (0 : Int64))) (F_c0_end : Fld Z h0 c0 "com/example/meter/meter/store/Spans" "end" "I" (.int (1 : Int32))) (F_c0_firsts : Fld Z h0 c0 "com/example/meter/meter/store/Spans" "firsts" "[J" (.ref c1)) (F_c0_head : Fld Z h0 c0 "com/example/meter/meter/store/Spans" "head" "I" (.int (0 : Int32))) (F_c0_lasts : Fld Z h0 c0 "com/example/meter/meter/store/Spans" "lasts" "[J" (.ref c2)) (F_c0_totals : Fld Z h0 c0 "com/example/meter/meter/store/Spans" "totals" "[J" (.ref c3)) (n_c0 : n0 ≤ c0) (V_c1 : Arv Z h0 c1 k_c1 .long (16 : Int32) [(.long y1), (.long (0 : Int64)), (.long (0 : Int64)), (.long (0 : Int64))] (.long (0 : Int64))) (n_c1 : n0 ≤ c1) (V_c2 : Arv Z h0 c2 k_c2 .long (16 : Int32) [(.long y1), (.long (0 : Int64)), (.long (0 : Int64)), (.long (0 : Int64))] (.long (0 : Int64))) (n_c2 : n0 ≤ c2) (V_c3 : Arv Z h0 c3 k_c3 .long (16 : Int32) [(.long y2), (.long (0 : Int64)), (.long (0 : Int64)), (.long (0 : Int64))] (.long (0 : Int64))) (n_c3 : n0 ≤ c3) (ne_c0_c1 : c0 ≠ c1) (ne_c0_c2 : c0 ≠ c2) (ne_c0_c3 : c0 ≠ c3) (ne_c1_c2 : c1 ≠ c2) (ne_c1_c3 : c1 ≠ c3) (ne_c2_c3 : c2 ≠ c3) (hc121 : y0 < y1) :
    MetFree l (⟨"com/example/meter/meter/store/Spans", "dropThrough", "(J)V"⟩ : MethodName) (head1 (Jvm.Cond.code (⟨"com/example/meter/meter/store/Spans", "dropThrough", "(J)V"⟩ : MethodName) prog_11_method_10_code 3 none :: ws) ({ frames := 0, cells := 0, slots := 0, locals := 0 } : Room)) (fun a U => a = #[(.ref c0), (.long y0)] ∧ Z.Warmed39 U.vm ∧ U.heap = h0) (fun _ _ _ _ _ => True) (fun _ U o U' => ∃ v L, o = .returned v ∧ own_Q none n0 h0 v U'.heap L ∧ FrameEnd U o U' L ({ frames := 0, cells := 0, slots := 0, locals := 0 } : Room).cells ({ frames := 0, cells := 0, slots := 0, locals := 0 } : Room).slots) := by
  refine MetFree.of_bodySF (plainFor_of_name pn_0) hisR ?_
  intro p e s m args below meth c s₁ Bd hml0 hP hK
  obtain ⟨rfl, hZ, hh⟩ := hP
  have hx := Bd.exec
  have hby := Bd.bytes
  have hml : c.maxLocals = 3 := hml0
  have hlk := BodyLoose.notSynchronized Bd
  have hret := Bd.returns
  have hown : s.vm.findClass "com/example/meter/meter/store/Spans" = some m.cls := findClass_of_methodNamed Bd.named
  have hnm := (name_of_methodNamed Bd.named Bd.method).1
  have X0 : Stand p l e ({ frames := 0, cells := 0, slots := 0, locals := 0 } : Room) s m #[(.ref c0), (.long y0)] below meth c s₁ [] 0 0 := Stand.of_body Bd
  have e0 : s₁.heap = h0 := by rw [← hh, Bd.state]; rfl
  have N0 := Fr.nil n0
  rw [ef_9 m c0 y0]
  show Go p e below _ (s₁.setTop (mkF m 0 #[oA c0, oJ y0, oS] []))
  refine own_aload_n 1 X0 hx hby d9_0 rfl rfl rfl ?_
  refine own_getF 4 X0 hx hby hZ hown (own_w hw 29 rfl) e0 F_c0_head d9_1 rfl ?_
  intro T117 X117 e117
  refine own_aload_n 5 X117 hx hby d9_4 rfl rfl rfl ?_
  refine own_getF 8 X117 hx hby hZ hown (own_w hw 23 rfl) e117 F_c0_end d9_5 rfl ?_
  intro T118 X118 e118
  refine own_icN 11 X118 hx hby d9_8 rfl (by decide) ?_
  refine own_aload_n 12 X118 hx hby d9_11 rfl rfl rfl ?_
  refine own_getF 15 X118 hx hby hZ hown (own_w hw 14 rfl) e118 F_c0_lasts d9_12 rfl ?_
  intro T119 X119 e119
  refine own_aload_n 16 X119 hx hby d9_15 rfl rfl rfl ?_
  refine own_getF 19 X119 hx hby hZ hown (own_w hw 29 rfl) e119 F_c0_head d9_16 rfl ?_
  intro T120 X120 e120
  refine own_laload 20 (.long y1) X120 hx hby hZ e120 V_c2 d9_19 rfl (by decide) rfl ?_
  refine own_lload_n 21 X120 hx hby d9_20 rfl rfl ?_
  refine own_lcmp 22 (XT.cmpL y1 y0) X120 hx hby d9_21 rfl rfl ?_
  refine own_ifY 51 X120 hx hby d9_22 (by decide) (by decide) (own_tltL hc121).2.2.1 ?_
  exact own_ret0 (Q := own_Q none n0 h0) X120 hx hby hret hlk d9_51 (by decide) (by decide) ⟨rfl, N0, e120⟩
def Q_rm9_14 (Z : State) (w_NONE k_NONE : Addr) (c0 : Addr) (c1 : Addr) (k_c1 : ClassId) (c2 : Addr) (k_c2 : ClassId) (c3 : Addr) (k_c3 : ClassId) (y0 : Int64) (y1 : Int64) (y2 : Int64) (h0 : Heap) (n0 : Nat) (v : Option Value) (h : Heap) (L : List Loc) : Prop := v = none ∧ Fr n0 L ∧ Keep h0 h [c0] ∧ Exa Z h c0 "com/example/meter/meter/store/Spans" ∧ Fld Z h c0 "com/example/meter/meter/store/Spans" "droppedTotal" "J" (.long y2) ∧ Fld Z h c0 "com/example/meter/meter/store/Spans" "end" "I" (.int (1 : Int32)) ∧ Fld Z h c0 "com/example/meter/meter/store/Spans" "firsts" "[J" (.ref c1) ∧ Fld Z h c0 "com/example/meter/meter/store/Spans" "head" "I" (.int (1 : Int32)) ∧ Fld Z h c0 "com/example/meter/meter/store/Spans" "lasts" "[J" (.ref c2) ∧ Fld Z h c0 "com/example/meter/meter/store/Spans" "totals" "[J" (.ref c3) ∧ Arv Z h c1 k_c1 .long (16 : Int32) [(.long y1), (.long (0 : Int64)), (.long (0 : Int64)), (.long (0 : Int64))] (.long (0 : Int64)) ∧ Arv Z h c2 k_c2 .long (16 : Int32) [(.long y1), (.long (0 : Int64)), (.long (0 : Int64)), (.long (0 : Int64))] (.long (0 : Int64)) ∧ Arv Z h c3 k_c3 .long (16 : Int32) [(.long y2), (.long (0 : Int64)), (.long (0 : Int64)), (.long (0 : Int64))] (.long (0 : Int64))
set_option maxRecDepth 65536 in
set_option maxHeartbeats 40000000 in
theorem rm9_14 (l : Launch) (Z : State) (a0 : Array Value) (hw : ∀ d ∈ tables_1, d.before a0 Z = true) (ws : List Jvm.Cond) (w_NONE k_NONE : Addr) (W : own_W Z w_NONE k_NONE) (c0 : Addr) (c1 : Addr) (k_c1 : ClassId) (c2 : Addr) (k_c2 : ClassId) (c3 : Addr) (k_c3 : ClassId) (y0 : Int64) (y1 : Int64) (y2 : Int64) (h0 : Heap) (n0 : Nat) (O0 : Old Z n0 h0) (E_c0 : Exa Z h0 c0 "com/example/meter/meter/store/Spans") (F_c0_droppedTotal : Fld Z h0 c0 "com/example/meter/meter/store/Spans" "droppedTotal" "J" (.long (0 : Int64))) (F_c0_end : Fld Z h0 c0 "com/example/meter/meter/store/Spans" "end" "I" (.int (1 : Int32))) (F_c0_firsts : Fld Z h0 c0 "com/example/meter/meter/store/Spans" "firsts" "[J" (.ref c1)) (F_c0_head : Fld Z h0 c0 "com/example/meter/meter/store/Spans" "head" "I" (.int (0 : Int32))) (F_c0_lasts : Fld Z h0 c0 "com/example/meter/meter/store/Spans" "lasts" "[J" (.ref c2)) (F_c0_totals : Fld Z h0 c0 "com/example/meter/meter/store/Spans" "totals" "[J" (.ref c3)) (n_c0 : n0 ≤ c0) (V_c1 : Arv Z h0 c1 k_c1 .long (16 : Int32) [(.long y1), (.long (0 : Int64)), (.long (0 : Int64)), (.long (0 : Int64))] (.long (0 : Int64))) (n_c1 : n0 ≤ c1) (V_c2 : Arv Z h0 c2 k_c2 .long (16 : Int32) [(.long y1), (.long (0 : Int64)), (.long (0 : Int64)), (.long (0 : Int64))] (.long (0 : Int64))) (n_c2 : n0 ≤ c2) (V_c3 : Arv Z h0 c3 k_c3 .long (16 : Int32) [(.long y2), (.long (0 : Int64)), (.long (0 : Int64)), (.long (0 : Int64))] (.long (0 : Int64))) (n_c3 : n0 ≤ c3) (ne_c0_c1 : c0 ≠ c1) (ne_c0_c2 : c0 ≠ c2) (ne_c0_c3 : c0 ≠ c3) (ne_c1_c2 : c1 ≠ c2) (ne_c1_c3 : c1 ≠ c3) (ne_c2_c3 : c2 ≠ c3) (hc121 : ¬ (y0 < y1)) :
    MetFree l (⟨"com/example/meter/meter/store/Spans", "dropThrough", "(J)V"⟩ : MethodName) (head1 (Jvm.Cond.code (⟨"com/example/meter/meter/store/Spans", "dropThrough", "(J)V"⟩ : MethodName) prog_11_method_10_code 3 none :: ws) ({ frames := 0, cells := 0, slots := 0, locals := 0 } : Room)) (fun a U => a = #[(.ref c0), (.long y0)] ∧ Z.Warmed39 U.vm ∧ U.heap = h0) (fun _ _ _ _ _ => True) (fun _ U o U' => ∃ v L, o = .returned v ∧ Q_rm9_14 Z w_NONE k_NONE c0 c1 k_c1 c2 k_c2 c3 k_c3 y0 y1 y2 h0 n0 v U'.heap L ∧ FrameEnd U o U' L ({ frames := 0, cells := 0, slots := 0, locals := 0 } : Room).cells ({ frames := 0, cells := 0, slots := 0, locals := 0 } : Room).slots) := by
  refine MetFree.of_bodySF (plainFor_of_name pn_0) hisR ?_
  intro p e s m args below meth c s₁ Bd hml0 hP hK
  obtain ⟨rfl, hZ, hh⟩ := hP
  have hx := Bd.exec
  have hby := Bd.bytes
  have hml : c.maxLocals = 3 := hml0
  have hlk := BodyLoose.notSynchronized Bd
  have hret := Bd.returns
  have hown : s.vm.findClass "com/example/meter/meter/store/Spans" = some m.cls := findClass_of_methodNamed Bd.named
  have hnm := (name_of_methodNamed Bd.named Bd.method).1
  have X0 : Stand p l e ({ frames := 0, cells := 0, slots := 0, locals := 0 } : Room) s m #[(.ref c0), (.long y0)] below meth c s₁ [] 0 0 := Stand.of_body Bd
  have e0 : s₁.heap = h0 := by rw [← hh, Bd.state]; rfl
  have N0 := Fr.nil n0
  rw [ef_9 m c0 y0]
  show Go p e below _ (s₁.setTop (mkF m 0 #[oA c0, oJ y0, oS] []))
  refine own_aload_n 1 X0 hx hby d9_0 rfl rfl rfl ?_
  refine own_getF 4 X0 hx hby hZ hown (own_w hw 29 rfl) e0 F_c0_head d9_1 rfl ?_
  intro T117 X117 e117
  refine own_aload_n 5 X117 hx hby d9_4 rfl rfl rfl ?_
  refine own_getF 8 X117 hx hby hZ hown (own_w hw 23 rfl) e117 F_c0_end d9_5 rfl ?_
  intro T118 X118 e118
  refine own_icN 11 X118 hx hby d9_8 rfl (by decide) ?_
  refine own_aload_n 12 X118 hx hby d9_11 rfl rfl rfl ?_
  refine own_getF 15 X118 hx hby hZ hown (own_w hw 14 rfl) e118 F_c0_lasts d9_12 rfl ?_
  intro T119 X119 e119
  refine own_aload_n 16 X119 hx hby d9_15 rfl rfl rfl ?_
  refine own_getF 19 X119 hx hby hZ hown (own_w hw 29 rfl) e119 F_c0_head d9_16 rfl ?_
  intro T120 X120 e120
  refine own_laload 20 (.long y1) X120 hx hby hZ e120 V_c2 d9_19 rfl (by decide) rfl ?_
  refine own_lload_n 21 X120 hx hby d9_20 rfl rfl ?_
  refine own_lcmp 22 (XT.cmpL y1 y0) X120 hx hby d9_21 rfl rfl ?_
  refine own_ifN 25 X120 hx hby d9_22 rfl (own_fltL hc121).2.2.1 ?_
  refine own_aload_n 26 X120 hx hby d9_25 rfl rfl rfl ?_
  refine own_aload_n 27 X120 hx hby d9_26 rfl rfl rfl ?_
  refine own_getF 30 X120 hx hby hZ hown (own_w hw 16 rfl) e120 F_c0_totals d9_27 rfl ?_
  intro T122 X122 e122
  refine own_aload_n 31 X122 hx hby d9_30 rfl rfl rfl ?_
  refine own_getF 34 X122 hx hby hZ hown (own_w hw 29 rfl) e122 F_c0_head d9_31 rfl ?_
  intro T123 X123 e123
  refine own_laload 35 (.long y2) X123 hx hby hZ e123 V_c3 d9_34 rfl (by decide) rfl ?_
  refine own_putF 38 X123 hx hby hZ .long hown (own_w hw 48 rfl) e123 F_c0_droppedTotal E_c0 (Or.inl (own_w hw 49 rfl)) (own_w hw 2 rfl) (by decide) rfl rfl d9_35 rfl ?_
  intro T124 h124 X124 e124 W124
  have E_c0_124 := E_c0.wr W124
  have F_c0_droppedTotal_124 := F_c0_droppedTotal.same W124
  have F_c0_end_124 := F_c0_end.other W124 (Or.inr (slot_ne (Or.inl (own_w hw 24 rfl)) (Or.inl (own_w hw 49 rfl)) (by decide) (t := .int) (t' := .long) (by decide) (by decide)))
  have F_c0_firsts_124 := F_c0_firsts.other W124 (Or.inr (slot_ne (Or.inl (own_w hw 13 rfl)) (Or.inl (own_w hw 49 rfl)) (by decide) (t := (.array .long)) (t' := .long) (by decide) (by decide)))
  have F_c0_head_124 := F_c0_head.other W124 (Or.inr (slot_ne (Or.inl (own_w hw 30 rfl)) (Or.inl (own_w hw 49 rfl)) (by decide) (t := .int) (t' := .long) (by decide) (by decide)))
  have F_c0_lasts_124 := F_c0_lasts.other W124 (Or.inr (slot_ne (Or.inl (own_w hw 15 rfl)) (Or.inl (own_w hw 49 rfl)) (by decide) (t := (.array .long)) (t' := .long) (by decide) (by decide)))
  have F_c0_totals_124 := F_c0_totals.other W124 (Or.inr (slot_ne (Or.inl (own_w hw 17 rfl)) (Or.inl (own_w hw 49 rfl)) (by decide) (t := (.array .long)) (t' := .long) (by decide) (by decide)))
  have V_c1_124 := V_c1.other W124 (Ne.symm ne_c0_c1)
  have V_c2_124 := V_c2.other W124 (Ne.symm ne_c0_c2)
  have V_c3_124 := V_c3.other W124 (Ne.symm ne_c0_c3)
  have K124 : Keep h0 h124 [c0] := (Keep.refl h0 [c0]).wr W124 (Or.inl (List.mem_of_getElem? (i := 0) rfl))
  have O124 := O0.wr W124 n_c0
  have N124 := Fr.snoc X124 N0 n_c0
  refine own_aload_n 39 X124 hx hby d9_38 rfl rfl rfl ?_
  refine own_dup 40 X124 hx hby d9_39 rfl rfl ?_
  refine own_getF 43 X124 hx hby hZ hown (own_w hw 29 rfl) e124 F_c0_head_124 d9_40 rfl ?_
  intro T125 X125 e125
  refine own_iconst 44 (1 : Int32) X125 hx hby d9_43 rfl (by decide) ?_
  refine own_iadd 45 (1 : Int32) X125 hx hby d9_44 rfl (by decide) ?_
  refine own_putF 48 X125 hx hby hZ .int hown (own_w hw 29 rfl) e125 F_c0_head_124 E_c0_124 (Or.inl (own_w hw 30 rfl)) (own_w hw 2 rfl) (by decide) rfl rfl d9_45 rfl ?_
  intro T126 h126 X126 e126 W126
  have E_c0_126 := E_c0_124.wr W126
  have F_c0_droppedTotal_126 := F_c0_droppedTotal_124.other W126 (Or.inr (slot_ne (Or.inl (own_w hw 49 rfl)) (Or.inl (own_w hw 30 rfl)) (by decide) (t := .long) (t' := .int) (by decide) (by decide)))
  have F_c0_end_126 := F_c0_end_124.other W126 (Or.inr (slot_ne (Or.inl (own_w hw 24 rfl)) (Or.inl (own_w hw 30 rfl)) (by decide) (t := .int) (t' := .int) (by decide) (by decide)))
  have F_c0_firsts_126 := F_c0_firsts_124.other W126 (Or.inr (slot_ne (Or.inl (own_w hw 13 rfl)) (Or.inl (own_w hw 30 rfl)) (by decide) (t := (.array .long)) (t' := .int) (by decide) (by decide)))
  have F_c0_head_126 := F_c0_head_124.same W126
  have F_c0_lasts_126 := F_c0_lasts_124.other W126 (Or.inr (slot_ne (Or.inl (own_w hw 15 rfl)) (Or.inl (own_w hw 30 rfl)) (by decide) (t := (.array .long)) (t' := .int) (by decide) (by decide)))
  have F_c0_totals_126 := F_c0_totals_124.other W126 (Or.inr (slot_ne (Or.inl (own_w hw 17 rfl)) (Or.inl (own_w hw 30 rfl)) (by decide) (t := (.array .long)) (t' := .int) (by decide) (by decide)))
  have V_c1_126 := V_c1_124.other W126 (Ne.symm ne_c0_c1)
  have V_c2_126 := V_c2_124.other W126 (Ne.symm ne_c0_c2)
  have V_c3_126 := V_c3_124.other W126 (Ne.symm ne_c0_c3)
  have K126 : Keep h0 h126 [c0] := K124.wr W126 (Or.inl (List.mem_of_getElem? (i := 0) rfl))
  have O126 := O124.wr W126 n_c0
  have N126 := Fr.snoc X126 N124 n_c0
  refine own_goto 0 X126 hx hby d9_48 (by decide) (by decide) ?_
  refine own_aload_n 1 X126 hx hby d9_0 rfl rfl rfl ?_
  refine own_getF 4 X126 hx hby hZ hown (own_w hw 29 rfl) e126 F_c0_head_126 d9_1 rfl ?_
  intro T127 X127 e127
  refine own_aload_n 5 X127 hx hby d9_4 rfl rfl rfl ?_
  refine own_getF 8 X127 hx hby hZ hown (own_w hw 23 rfl) e127 F_c0_end_126 d9_5 rfl ?_
  intro T128 X128 e128
  refine own_icY 51 X128 hx hby d9_8 (by decide) (by decide) (by decide) ?_
  exact own_ret0 (Q := Q_rm9_14 Z w_NONE k_NONE c0 c1 k_c1 c2 k_c2 c3 k_c3 y0 y1 y2 h0 n0) X128 hx hby hret hlk d9_51 (by decide) (by decide) (by rw [e128]; exact ⟨rfl, N126, K126, E_c0_126, F_c0_droppedTotal_126, F_c0_end_126, F_c0_firsts_126, F_c0_head_126, F_c0_lasts_126, F_c0_totals_126, V_c1_126, V_c2_126, V_c3_126⟩)
set_option maxRecDepth 65536 in
set_option maxHeartbeats 40000000 in
theorem rm8_15 (l : Launch) (Z : State) (a0 : Array Value) (hw : ∀ d ∈ tables_1, d.before a0 Z = true) (ws : List Jvm.Cond) (w_NONE k_NONE : Addr) (W : own_W Z w_NONE k_NONE) (c0 : Addr) (c1 : Addr) (k_c1 : ClassId) (c2 : Addr) (k_c2 : ClassId) (c3 : Addr) (k_c3 : ClassId) (y0 : Int64) (y1 : Int64) (h0 : Heap) (n0 : Nat) (O0 : Old Z n0 h0) (E_c0 : Exa Z h0 c0 "com/example/meter/meter/store/Spans") (F_c0_droppedTotal : Fld Z h0 c0 "com/example/meter/meter/store/Spans" "droppedTotal" "J" (.long y0)) (F_c0_end : Fld Z h0 c0 "com/example/meter/meter/store/Spans" "end" "I" (.int (1 : Int32))) (F_c0_firsts : Fld Z h0 c0 "com/example/meter/meter/store/Spans" "firsts" "[J" (.ref c1)) (F_c0_head : Fld Z h0 c0 "com/example/meter/meter/store/Spans" "head" "I" (.int (1 : Int32))) (F_c0_lasts : Fld Z h0 c0 "com/example/meter/meter/store/Spans" "lasts" "[J" (.ref c2)) (F_c0_totals : Fld Z h0 c0 "com/example/meter/meter/store/Spans" "totals" "[J" (.ref c3)) (n_c0 : n0 ≤ c0) (V_c1 : Arv Z h0 c1 k_c1 .long (16 : Int32) [(.long y1), (.long (0 : Int64)), (.long (0 : Int64)), (.long (0 : Int64))] (.long (0 : Int64))) (n_c1 : n0 ≤ c1) (V_c2 : Arv Z h0 c2 k_c2 .long (16 : Int32) [(.long y1), (.long (0 : Int64)), (.long (0 : Int64)), (.long (0 : Int64))] (.long (0 : Int64))) (n_c2 : n0 ≤ c2) (V_c3 : Arv Z h0 c3 k_c3 .long (16 : Int32) [(.long y0), (.long (0 : Int64)), (.long (0 : Int64)), (.long (0 : Int64))] (.long (0 : Int64))) (n_c3 : n0 ≤ c3) (ne_c0_c1 : c0 ≠ c1) (ne_c0_c2 : c0 ≠ c2) (ne_c0_c3 : c0 ≠ c3) (ne_c1_c2 : c1 ≠ c2) (ne_c1_c3 : c1 ≠ c3) (ne_c2_c3 : c2 ≠ c3) :
    MetFree l (⟨"com/example/meter/meter/store/Spans", "newestSecond", "()J"⟩ : MethodName) (head1 (Jvm.Cond.code (⟨"com/example/meter/meter/store/Spans", "newestSecond", "()J"⟩ : MethodName) prog_11_method_7_code 1 (some .long) :: ws) ({ frames := 0, cells := 0, slots := 0, locals := 0 } : Room)) (fun a U => a = #[(.ref c0)] ∧ Z.Warmed39 U.vm ∧ U.heap = h0) (fun _ _ _ _ _ => True) (fun _ U o U' => ∃ v L, o = .returned v ∧ own_Q (some (.long (-1 : Int64))) n0 h0 v U'.heap L ∧ FrameEnd U o U' L ({ frames := 0, cells := 0, slots := 0, locals := 0 } : Room).cells ({ frames := 0, cells := 0, slots := 0, locals := 0 } : Room).slots) := by
  refine MetFree.of_bodySF (plainFor_of_name pn_0) hisR ?_
  intro p e s m args below meth c s₁ Bd hml0 hP hK
  obtain ⟨rfl, hZ, hh⟩ := hP
  have hx := Bd.exec
  have hby := Bd.bytes
  have hml : c.maxLocals = 1 := hml0
  have hlk := BodyLoose.notSynchronized Bd
  have hret := Bd.returns
  have hown : s.vm.findClass "com/example/meter/meter/store/Spans" = some m.cls := findClass_of_methodNamed Bd.named
  have hnm := (name_of_methodNamed Bd.named Bd.method).1
  have X0 : Stand p l e ({ frames := 0, cells := 0, slots := 0, locals := 0 } : Room) s m #[(.ref c0)] below meth c s₁ [] 0 0 := Stand.of_body Bd
  have e0 : s₁.heap = h0 := by rw [← hh, Bd.state]; rfl
  have N0 := Fr.nil n0
  rw [ef_8 m c0]
  show Go p e below _ (s₁.setTop (mkF m 0 #[oA c0] []))
  refine own_aload_n 1 X0 hx hby d8_0 rfl rfl rfl ?_
  refine own_getF 4 X0 hx hby hZ hown (own_w hw 29 rfl) e0 F_c0_head d8_1 rfl ?_
  intro T137 X137 e137
  refine own_aload_n 5 X137 hx hby d8_4 rfl rfl rfl ?_
  refine own_getF 8 X137 hx hby hZ hown (own_w hw 23 rfl) e137 F_c0_end d8_5 rfl ?_
  intro T138 X138 e138
  refine own_icN 11 X138 hx hby d8_8 rfl (by decide) ?_
  refine own_ldc2 14 X138 hx hby hZ hown (own_w hw 66 rfl) d8_11 rfl ?_
  refine own_goto 28 X138 hx hby d8_14 (by decide) (by decide) ?_
  exact own_ret (Q := own_Q (some (.long (-1 : Int64))) n0 h0) X138 hx hby hret hlk d8_28 rfl (Or.inr (Or.inl ⟨rfl, rfl, _, rfl⟩)) (by decide) (by decide) ⟨rfl, N0, e138⟩
set_option maxRecDepth 65536 in
set_option maxHeartbeats 40000000 in
theorem rm7_16 (l : Launch) (Z : State) (a0 : Array Value) (hw : ∀ d ∈ tables_1, d.before a0 Z = true) (ws : List Jvm.Cond) (w_NONE k_NONE : Addr) (W : own_W Z w_NONE k_NONE) (c0 : Addr) (c1 : Addr) (k_c1 : ClassId) (c2 : Addr) (k_c2 : ClassId) (c3 : Addr) (k_c3 : ClassId) (y0 : Int64) (y1 : Int64) (y2 : Int64) (h0 : Heap) (n0 : Nat) (O0 : Old Z n0 h0) (E_c0 : Exa Z h0 c0 "com/example/meter/meter/store/Spans") (F_c0_droppedTotal : Fld Z h0 c0 "com/example/meter/meter/store/Spans" "droppedTotal" "J" (.long (0 : Int64))) (F_c0_end : Fld Z h0 c0 "com/example/meter/meter/store/Spans" "end" "I" (.int (1 : Int32))) (F_c0_firsts : Fld Z h0 c0 "com/example/meter/meter/store/Spans" "firsts" "[J" (.ref c1)) (F_c0_head : Fld Z h0 c0 "com/example/meter/meter/store/Spans" "head" "I" (.int (0 : Int32))) (F_c0_lasts : Fld Z h0 c0 "com/example/meter/meter/store/Spans" "lasts" "[J" (.ref c2)) (F_c0_totals : Fld Z h0 c0 "com/example/meter/meter/store/Spans" "totals" "[J" (.ref c3)) (n_c0 : n0 ≤ c0) (V_c1 : Arv Z h0 c1 k_c1 .long (16 : Int32) [(.long y0), (.long y1), (.long (0 : Int64)), (.long (0 : Int64))] (.long (0 : Int64))) (n_c1 : n0 ≤ c1) (V_c2 : Arv Z h0 c2 k_c2 .long (16 : Int32) [(.long y0), (.long y1), (.long (0 : Int64)), (.long (0 : Int64))] (.long (0 : Int64))) (n_c2 : n0 ≤ c2) (V_c3 : Arv Z h0 c3 k_c3 .long (16 : Int32) [(.long y2), (.long (0 : Int64)), (.long (0 : Int64)), (.long (0 : Int64))] (.long (0 : Int64))) (n_c3 : n0 ≤ c3) (ne_c0_c1 : c0 ≠ c1) (ne_c0_c2 : c0 ≠ c2) (ne_c0_c3 : c0 ≠ c3) (ne_c1_c2 : c1 ≠ c2) (ne_c1_c3 : c1 ≠ c3) (ne_c2_c3 : c2 ≠ c3) :
    MetFree l (⟨"com/example/meter/meter/store/Spans", "totalBefore", "(I)J"⟩ : MethodName) (head1 (Jvm.Cond.code (⟨"com/example/meter/meter/store/Spans", "totalBefore", "(I)J"⟩ : MethodName) prog_11_method_14_code 2 (some .long) :: ws) ({ frames := 0, cells := 0, slots := 0, locals := 0 } : Room)) (fun a U => a = #[(.ref c0), (.int (1 : Int32))] ∧ Z.Warmed39 U.vm ∧ U.heap = h0) (fun _ _ _ _ _ => True) (fun _ U o U' => ∃ v L, o = .returned v ∧ own_Q (some (.long y2)) n0 h0 v U'.heap L ∧ FrameEnd U o U' L ({ frames := 0, cells := 0, slots := 0, locals := 0 } : Room).cells ({ frames := 0, cells := 0, slots := 0, locals := 0 } : Room).slots) := by
  refine MetFree.of_bodySF (plainFor_of_name pn_0) hisR ?_
  intro p e s m args below meth c s₁ Bd hml0 hP hK
  obtain ⟨rfl, hZ, hh⟩ := hP
  have hx := Bd.exec
  have hby := Bd.bytes
  have hml : c.maxLocals = 2 := hml0
  have hlk := BodyLoose.notSynchronized Bd
  have hret := Bd.returns
  have hown : s.vm.findClass "com/example/meter/meter/store/Spans" = some m.cls := findClass_of_methodNamed Bd.named
  have hnm := (name_of_methodNamed Bd.named Bd.method).1
  have X0 : Stand p l e ({ frames := 0, cells := 0, slots := 0, locals := 0 } : Room) s m #[(.ref c0), (.int (1 : Int32))] below meth c s₁ [] 0 0 := Stand.of_body Bd
  have e0 : s₁.heap = h0 := by rw [← hh, Bd.state]; rfl
  have N0 := Fr.nil n0
  rw [ef_7 m c0 (1 : Int32)]
  show Go p e below _ (s₁.setTop (mkF m 0 #[oA c0, oI (1 : Int32)] []))
  refine own_iload_n 1 X0 hx hby d7_0 rfl rfl ?_
  refine own_aload_n 2 X0 hx hby d7_1 rfl rfl rfl ?_
  refine own_getF 5 X0 hx hby hZ hown (own_w hw 29 rfl) e0 F_c0_head d7_2 rfl ?_
  intro T152 X152 e152
  refine own_icY 15 X152 hx hby d7_5 (by decide) (by decide) (by decide) ?_
  refine own_aload_n 16 X152 hx hby d7_15 rfl rfl rfl ?_
  refine own_getF 19 X152 hx hby hZ hown (own_w hw 16 rfl) e152 F_c0_totals d7_16 rfl ?_
  intro T153 X153 e153
  refine own_iload_n 20 X153 hx hby d7_19 rfl rfl ?_
  refine own_iconst 21 (1 : Int32) X153 hx hby d7_20 rfl (by decide) ?_
  refine own_isub 22 (0 : Int32) X153 hx hby d7_21 rfl (by decide) ?_
  refine own_laload 23 (.long y2) X153 hx hby hZ e153 V_c3 d7_22 rfl (by decide) rfl ?_
  exact own_ret (Q := own_Q (some (.long y2)) n0 h0) X153 hx hby hret hlk d7_23 rfl (Or.inr (Or.inl ⟨rfl, rfl, _, rfl⟩)) (by decide) (by decide) ⟨rfl, N0, e153⟩
def Q_rm3_17 (Z : State) (w_NONE k_NONE : Addr) (c0 : Addr) (c1 : Addr) (k_c1 : ClassId) (c2 : Addr) (k_c2 : ClassId) (c3 : Addr) (k_c3 : ClassId) (y0 : Int64) (y1 : Int64) (y2 : Int64) (y3 : Int64) (h0 : Heap) (n0 : Nat) (v : Option Value) (h : Heap) (L : List Loc) : Prop := v = none ∧ Fr n0 L ∧ Keep h0 h [c1, c2, c3, c0] ∧ Exa Z h c0 "com/example/meter/meter/store/Spans" ∧ Fld Z h c0 "com/example/meter/meter/store/Spans" "droppedTotal" "J" (.long (0 : Int64)) ∧ Fld Z h c0 "com/example/meter/meter/store/Spans" "end" "I" (.int (2 : Int32)) ∧ Fld Z h c0 "com/example/meter/meter/store/Spans" "firsts" "[J" (.ref c1) ∧ Fld Z h c0 "com/example/meter/meter/store/Spans" "head" "I" (.int (0 : Int32)) ∧ Fld Z h c0 "com/example/meter/meter/store/Spans" "lasts" "[J" (.ref c2) ∧ Fld Z h c0 "com/example/meter/meter/store/Spans" "totals" "[J" (.ref c3) ∧ Arv Z h c1 k_c1 .long (16 : Int32) [(.long y2), (.long y0), (.long (0 : Int64)), (.long (0 : Int64))] (.long (0 : Int64)) ∧ Arv Z h c2 k_c2 .long (16 : Int32) [(.long y2), (.long y0), (.long (0 : Int64)), (.long (0 : Int64))] (.long (0 : Int64)) ∧ Arv Z h c3 k_c3 .long (16 : Int32) [(.long y3), (.long (y3 + y1)), (.long (0 : Int64)), (.long (0 : Int64))] (.long (0 : Int64))
set_option maxRecDepth 65536 in
set_option maxHeartbeats 40000000 in
theorem rm3_17 (l : Launch) (Z : State) (a0 : Array Value) (hw : ∀ d ∈ tables_1, d.before a0 Z = true) (ws : List Jvm.Cond) (w_NONE k_NONE : Addr) (W : own_W Z w_NONE k_NONE) (c0 : Addr) (c1 : Addr) (k_c1 : ClassId) (c2 : Addr) (k_c2 : ClassId) (c3 : Addr) (k_c3 : ClassId) (y0 : Int64) (y1 : Int64) (y2 : Int64) (y3 : Int64) (h0 : Heap) (n0 : Nat) (O0 : Old Z n0 h0) (E_c0 : Exa Z h0 c0 "com/example/meter/meter/store/Spans") (F_c0_droppedTotal : Fld Z h0 c0 "com/example/meter/meter/store/Spans" "droppedTotal" "J" (.long (0 : Int64))) (F_c0_end : Fld Z h0 c0 "com/example/meter/meter/store/Spans" "end" "I" (.int (1 : Int32))) (F_c0_firsts : Fld Z h0 c0 "com/example/meter/meter/store/Spans" "firsts" "[J" (.ref c1)) (F_c0_head : Fld Z h0 c0 "com/example/meter/meter/store/Spans" "head" "I" (.int (0 : Int32))) (F_c0_lasts : Fld Z h0 c0 "com/example/meter/meter/store/Spans" "lasts" "[J" (.ref c2)) (F_c0_totals : Fld Z h0 c0 "com/example/meter/meter/store/Spans" "totals" "[J" (.ref c3)) (n_c0 : n0 ≤ c0) (V_c1 : Arv Z h0 c1 k_c1 .long (16 : Int32) [(.long y2), (.long (0 : Int64)), (.long (0 : Int64)), (.long (0 : Int64))] (.long (0 : Int64))) (n_c1 : n0 ≤ c1) (V_c2 : Arv Z h0 c2 k_c2 .long (16 : Int32) [(.long y2), (.long (0 : Int64)), (.long (0 : Int64)), (.long (0 : Int64))] (.long (0 : Int64))) (n_c2 : n0 ≤ c2) (V_c3 : Arv Z h0 c3 k_c3 .long (16 : Int32) [(.long y3), (.long (0 : Int64)), (.long (0 : Int64)), (.long (0 : Int64))] (.long (0 : Int64))) (n_c3 : n0 ≤ c3) (ne_c0_c1 : c0 ≠ c1) (ne_c0_c2 : c0 ≠ c2) (ne_c0_c3 : c0 ≠ c3) (ne_c1_c2 : c1 ≠ c2) (ne_c1_c3 : c1 ≠ c3) (ne_c2_c3 : c2 ≠ c3) :
    MetFree l (⟨"com/example/meter/meter/store/Spans", "append", "(JJ)V"⟩ : MethodName) (head1 (Jvm.Cond.code (⟨"com/example/meter/meter/store/Spans", "append", "(JJ)V"⟩ : MethodName) prog_11_method_9_code 5 none :: ws) ({ frames := 1, cells := 0, slots := 0, locals := 15 } : Room)) (fun a U => a = #[(.ref c0), (.long y0), (.long y1)] ∧ Z.Warmed39 U.vm ∧ U.heap = h0) (fun _ _ _ _ _ => True) (fun _ U o U' => ∃ v L, o = .returned v ∧ Q_rm3_17 Z w_NONE k_NONE c0 c1 k_c1 c2 k_c2 c3 k_c3 y0 y1 y2 y3 h0 n0 v U'.heap L ∧ FrameEnd U o U' L ({ frames := 1, cells := 0, slots := 0, locals := 15 } : Room).cells ({ frames := 1, cells := 0, slots := 0, locals := 15 } : Room).slots) := by
  refine MetFree.of_bodySF (plainFor_of_name pn_0) hisR ?_
  intro p e s m args below meth c s₁ Bd hml0 hP hK
  obtain ⟨rfl, hZ, hh⟩ := hP
  have hx := Bd.exec
  have hby := Bd.bytes
  have hml : c.maxLocals = 5 := hml0
  have hlk := BodyLoose.notSynchronized Bd
  have hret := Bd.returns
  have hown : s.vm.findClass "com/example/meter/meter/store/Spans" = some m.cls := findClass_of_methodNamed Bd.named
  have hnm := (name_of_methodNamed Bd.named Bd.method).1
  have X0 : Stand p l e ({ frames := 1, cells := 0, slots := 0, locals := 15 } : Room) s m #[(.ref c0), (.long y0), (.long y1)] below meth c s₁ [] 0 0 := Stand.of_body Bd
  have e0 : s₁.heap = h0 := by rw [← hh, Bd.state]; rfl
  have N0 := Fr.nil n0
  rw [ef_3 m c0 y0 y1]
  show Go p e below _ (s₁.setTop (mkF m 0 #[oA c0, oJ y0, oS, oJ y1, oS] []))
  refine own_aload_n 1 X0 hx hby d3_0 rfl rfl rfl ?_
  refine own_getF 4 X0 hx hby hZ hown (own_w hw 23 rfl) e0 F_c0_end d3_1 rfl ?_
  intro T141 X141 e141
  refine own_aload_n 5 X141 hx hby d3_4 rfl rfl rfl ?_
  refine own_getF 8 X141 hx hby hZ hown (own_w hw 14 rfl) e141 F_c0_lasts d3_5 rfl ?_
  intro T142 X142 e142
  refine own_len 9 X142 hx hby hZ e142 V_c2 d3_8 rfl ?_
  refine own_icY 16 X142 hx hby d3_9 (by decide) (by decide) (by decide) ?_
  refine own_aload_n 17 X142 hx hby d3_16 rfl rfl rfl ?_
  refine own_getF 20 X142 hx hby hZ hown (own_w hw 12 rfl) e142 F_c0_firsts d3_17 rfl ?_
  intro T143 X143 e143
  refine own_aload_n 21 X143 hx hby d3_20 rfl rfl rfl ?_
  refine own_getF 24 X143 hx hby hZ hown (own_w hw 23 rfl) e143 F_c0_end d3_21 rfl ?_
  intro T144 X144 e144
  refine own_lload_n 25 X144 hx hby d3_24 rfl rfl ?_
  refine own_stJ 26 1 X144 hx hby hZ e144 V_c1 d3_25 rfl (by decide) (by decide) (Nat.le_of_ble_eq_true rfl) ?_
  intro T145 h145 X145 e145 W145 V145
  have V145 : Arv Z h145 c1 k_c1 .long (16 : Int32) [(.long y2), (.long y0), (.long (0 : Int64)), (.long (0 : Int64))] (.long (0 : Int64)) := V145
  have E_c0_145 := E_c0.wr W145
  have F_c0_droppedTotal_145 := F_c0_droppedTotal.other W145 (Or.inl ne_c0_c1)
  have F_c0_end_145 := F_c0_end.other W145 (Or.inl ne_c0_c1)
  have F_c0_firsts_145 := F_c0_firsts.other W145 (Or.inl ne_c0_c1)
  have F_c0_head_145 := F_c0_head.other W145 (Or.inl ne_c0_c1)
  have F_c0_lasts_145 := F_c0_lasts.other W145 (Or.inl ne_c0_c1)
  have F_c0_totals_145 := F_c0_totals.other W145 (Or.inl ne_c0_c1)
  have V_c2_145 := V_c2.other W145 (Ne.symm ne_c1_c2)
  have V_c3_145 := V_c3.other W145 (Ne.symm ne_c1_c3)
  have K145 : Keep h0 h145 [c1, c2, c3, c0] := (Keep.refl h0 [c1, c2, c3, c0]).wr W145 (Or.inl (List.mem_of_getElem? (i := 0) rfl))
  have O145 := O0.wr W145 n_c1
  have N145 := Fr.snoc X145 N0 n_c1
  refine own_aload_n 27 X145 hx hby d3_26 rfl rfl rfl ?_
  refine own_getF 30 X145 hx hby hZ hown (own_w hw 14 rfl) e145 F_c0_lasts_145 d3_27 rfl ?_
  intro T146 X146 e146
  refine own_aload_n 31 X146 hx hby d3_30 rfl rfl rfl ?_
  refine own_getF 34 X146 hx hby hZ hown (own_w hw 23 rfl) e146 F_c0_end_145 d3_31 rfl ?_
  intro T147 X147 e147
  refine own_lload_n 35 X147 hx hby d3_34 rfl rfl ?_
  refine own_stJ 36 1 X147 hx hby hZ e147 V_c2_145 d3_35 rfl (by decide) (by decide) (Nat.le_of_ble_eq_true rfl) ?_
  intro T148 h148 X148 e148 W148 V148
  have V148 : Arv Z h148 c2 k_c2 .long (16 : Int32) [(.long y2), (.long y0), (.long (0 : Int64)), (.long (0 : Int64))] (.long (0 : Int64)) := V148
  have E_c0_148 := E_c0_145.wr W148
  have F_c0_droppedTotal_148 := F_c0_droppedTotal_145.other W148 (Or.inl ne_c0_c2)
  have F_c0_end_148 := F_c0_end_145.other W148 (Or.inl ne_c0_c2)
  have F_c0_firsts_148 := F_c0_firsts_145.other W148 (Or.inl ne_c0_c2)
  have F_c0_head_148 := F_c0_head_145.other W148 (Or.inl ne_c0_c2)
  have F_c0_lasts_148 := F_c0_lasts_145.other W148 (Or.inl ne_c0_c2)
  have F_c0_totals_148 := F_c0_totals_145.other W148 (Or.inl ne_c0_c2)
  have V_c1_148 := V145.other W148 ne_c1_c2
  have V_c3_148 := V_c3_145.other W148 (Ne.symm ne_c2_c3)
  have K148 : Keep h0 h148 [c1, c2, c3, c0] := K145.wr W148 (Or.inl (List.mem_of_getElem? (i := 1) rfl))
  have O148 := O145.wr W148 n_c2
  have N148 := Fr.snoc X148 N145 n_c2
  refine own_aload_n 37 X148 hx hby d3_36 rfl rfl rfl ?_
  refine own_getF 40 X148 hx hby hZ hown (own_w hw 16 rfl) e148 F_c0_totals_148 d3_37 rfl ?_
  intro T149 X149 e149
  refine own_aload_n 41 X149 hx hby d3_40 rfl rfl rfl ?_
  refine own_getF 44 X149 hx hby hZ hown (own_w hw 23 rfl) e149 F_c0_end_148 d3_41 rfl ?_
  intro T150 X150 e150
  refine own_aload_n 45 X150 hx hby d3_44 rfl rfl rfl ?_
  refine own_aload_n 46 X150 hx hby d3_45 rfl rfl rfl ?_
  refine own_getF 49 X150 hx hby hZ hown (own_w hw 23 rfl) e150 F_c0_end_148 d3_46 rfl ?_
  intro T151 X151 e151
  refine own_priv (W := 2) 52 (rm7_16 l Z a0 hw [] w_NONE k_NONE W c0 c1 k_c1 c2 k_c2 c3 k_c3 y2 y0 y3 h148 n0 O148 E_c0_148 F_c0_droppedTotal_148 F_c0_end_148 F_c0_firsts_148 F_c0_head_148 F_c0_lasts_148 F_c0_totals_148 n_c0 V_c1_148 n_c1 V148 n_c2 V_c3_148 n_c3 ne_c0_c1 ne_c0_c2 ne_c0_c3 ne_c1_c2 ne_c1_c3 ne_c2_c3) X151 hx hby hZ hown (own_w hw 44 rfl) (own_w hw 45 rfl) (own_w hw 46 rfl) (own_w hw 21 rfl) (own_w hw 3 rfl) (own_w hw 47 rfl) rfl (by decide) (by rw [hml]; rfl) c0 [(.int (1 : Int32))] [(.int (1 : Int32)), (.ref c3)] pd_5 rfl d3_49 rfl e151 E_c0_148 rfl rfl rfl (by decide) (by decide) (by decide) (by decide) ?_
  rintro _ T154 L154 X154 ⟨rfl, N154, e154⟩
  have N154 := Fr.app N148 N154
  show Go p e below _ (T154.setTop (mkF m 52 _ [(.long y3), (.int (1 : Int32)), (.ref c3)]))
  refine own_lload_n 53 X154 hx hby d3_52 rfl rfl ?_
  refine own_ladd 54 (y3 + y1) X154 hx hby d3_53 rfl rfl ?_
  refine own_stJ 55 1 X154 hx hby hZ e154 V_c3_148 d3_54 rfl (by decide) (by decide) (Nat.le_of_ble_eq_true rfl) ?_
  intro T155 h155 X155 e155 W155 V155
  have V155 : Arv Z h155 c3 k_c3 .long (16 : Int32) [(.long y3), (.long (y3 + y1)), (.long (0 : Int64)), (.long (0 : Int64))] (.long (0 : Int64)) := V155
  have E_c0_155 := E_c0_148.wr W155
  have F_c0_droppedTotal_155 := F_c0_droppedTotal_148.other W155 (Or.inl ne_c0_c3)
  have F_c0_end_155 := F_c0_end_148.other W155 (Or.inl ne_c0_c3)
  have F_c0_firsts_155 := F_c0_firsts_148.other W155 (Or.inl ne_c0_c3)
  have F_c0_head_155 := F_c0_head_148.other W155 (Or.inl ne_c0_c3)
  have F_c0_lasts_155 := F_c0_lasts_148.other W155 (Or.inl ne_c0_c3)
  have F_c0_totals_155 := F_c0_totals_148.other W155 (Or.inl ne_c0_c3)
  have V_c1_155 := V_c1_148.other W155 ne_c1_c3
  have V_c2_155 := V148.other W155 ne_c2_c3
  have K155 : Keep h0 h155 [c1, c2, c3, c0] := K148.wr W155 (Or.inl (List.mem_of_getElem? (i := 2) rfl))
  have O155 := O148.wr W155 n_c3
  have N155 := Fr.snoc X155 N154 n_c3
  refine own_aload_n 56 X155 hx hby d3_55 rfl rfl rfl ?_
  refine own_dup 57 X155 hx hby d3_56 rfl rfl ?_
  refine own_getF 60 X155 hx hby hZ hown (own_w hw 23 rfl) e155 F_c0_end_155 d3_57 rfl ?_
  intro T156 X156 e156
  refine own_iconst 61 (1 : Int32) X156 hx hby d3_60 rfl (by decide) ?_
  refine own_iadd 62 (2 : Int32) X156 hx hby d3_61 rfl (by decide) ?_
  refine own_putF 65 X156 hx hby hZ .int hown (own_w hw 23 rfl) e156 F_c0_end_155 E_c0_155 (Or.inl (own_w hw 24 rfl)) (own_w hw 2 rfl) (by decide) rfl rfl d3_62 rfl ?_
  intro T157 h157 X157 e157 W157
  have E_c0_157 := E_c0_155.wr W157
  have F_c0_droppedTotal_157 := F_c0_droppedTotal_155.other W157 (Or.inr (slot_ne (Or.inl (own_w hw 49 rfl)) (Or.inl (own_w hw 24 rfl)) (by decide) (t := .long) (t' := .int) (by decide) (by decide)))
  have F_c0_end_157 := F_c0_end_155.same W157
  have F_c0_firsts_157 := F_c0_firsts_155.other W157 (Or.inr (slot_ne (Or.inl (own_w hw 13 rfl)) (Or.inl (own_w hw 24 rfl)) (by decide) (t := (.array .long)) (t' := .int) (by decide) (by decide)))
  have F_c0_head_157 := F_c0_head_155.other W157 (Or.inr (slot_ne (Or.inl (own_w hw 30 rfl)) (Or.inl (own_w hw 24 rfl)) (by decide) (t := .int) (t' := .int) (by decide) (by decide)))
  have F_c0_lasts_157 := F_c0_lasts_155.other W157 (Or.inr (slot_ne (Or.inl (own_w hw 15 rfl)) (Or.inl (own_w hw 24 rfl)) (by decide) (t := (.array .long)) (t' := .int) (by decide) (by decide)))
  have F_c0_totals_157 := F_c0_totals_155.other W157 (Or.inr (slot_ne (Or.inl (own_w hw 17 rfl)) (Or.inl (own_w hw 24 rfl)) (by decide) (t := (.array .long)) (t' := .int) (by decide) (by decide)))
  have V_c1_157 := V_c1_155.other W157 (Ne.symm ne_c0_c1)
  have V_c2_157 := V_c2_155.other W157 (Ne.symm ne_c0_c2)
  have V_c3_157 := V155.other W157 (Ne.symm ne_c0_c3)
  have K157 : Keep h0 h157 [c1, c2, c3, c0] := K155.wr W157 (Or.inl (List.mem_of_getElem? (i := 3) rfl))
  have O157 := O155.wr W157 n_c0
  have N157 := Fr.snoc X157 N155 n_c0
  exact own_ret0 (Q := Q_rm3_17 Z w_NONE k_NONE c0 c1 k_c1 c2 k_c2 c3 k_c3 y0 y1 y2 y3 h0 n0) X157 hx hby hret hlk d3_65 (by decide) (by decide) (by rw [e157]; exact ⟨rfl, N157, K157, E_c0_157, F_c0_droppedTotal_157, F_c0_end_157, F_c0_firsts_157, F_c0_head_157, F_c0_lasts_157, F_c0_totals_157, V_c1_157, V_c2_157, V_c3_157⟩)
set_option maxRecDepth 65536 in
set_option maxHeartbeats 40000000 in
theorem rm8_18 (l : Launch) (Z : State) (a0 : Array Value) (hw : ∀ d ∈ tables_1, d.before a0 Z = true) (ws : List Jvm.Cond) (w_NONE k_NONE : Addr) (W : own_W Z w_NONE k_NONE) (c0 : Addr) (c1 : Addr) (k_c1 : ClassId) (c2 : Addr) (k_c2 : ClassId) (c3 : Addr) (k_c3 : ClassId) (y0 : Int64) (y1 : Int64) (y2 : Int64) (y3 : Int64) (h0 : Heap) (n0 : Nat) (O0 : Old Z n0 h0) (E_c0 : Exa Z h0 c0 "com/example/meter/meter/store/Spans") (F_c0_droppedTotal : Fld Z h0 c0 "com/example/meter/meter/store/Spans" "droppedTotal" "J" (.long (0 : Int64))) (F_c0_end : Fld Z h0 c0 "com/example/meter/meter/store/Spans" "end" "I" (.int (2 : Int32))) (F_c0_firsts : Fld Z h0 c0 "com/example/meter/meter/store/Spans" "firsts" "[J" (.ref c1)) (F_c0_head : Fld Z h0 c0 "com/example/meter/meter/store/Spans" "head" "I" (.int (0 : Int32))) (F_c0_lasts : Fld Z h0 c0 "com/example/meter/meter/store/Spans" "lasts" "[J" (.ref c2)) (F_c0_totals : Fld Z h0 c0 "com/example/meter/meter/store/Spans" "totals" "[J" (.ref c3)) (n_c0 : n0 ≤ c0) (V_c1 : Arv Z h0 c1 k_c1 .long (16 : Int32) [(.long y0), (.long y1), (.long (0 : Int64)), (.long (0 : Int64))] (.long (0 : Int64))) (n_c1 : n0 ≤ c1) (V_c2 : Arv Z h0 c2 k_c2 .long (16 : Int32) [(.long y0), (.long y1), (.long (0 : Int64)), (.long (0 : Int64))] (.long (0 : Int64))) (n_c2 : n0 ≤ c2) (V_c3 : Arv Z h0 c3 k_c3 .long (16 : Int32) [(.long y2), (.long y3), (.long (0 : Int64)), (.long (0 : Int64))] (.long (0 : Int64))) (n_c3 : n0 ≤ c3) (ne_c0_c1 : c0 ≠ c1) (ne_c0_c2 : c0 ≠ c2) (ne_c0_c3 : c0 ≠ c3) (ne_c1_c2 : c1 ≠ c2) (ne_c1_c3 : c1 ≠ c3) (ne_c2_c3 : c2 ≠ c3) :
    MetFree l (⟨"com/example/meter/meter/store/Spans", "newestSecond", "()J"⟩ : MethodName) (head1 (Jvm.Cond.code (⟨"com/example/meter/meter/store/Spans", "newestSecond", "()J"⟩ : MethodName) prog_11_method_7_code 1 (some .long) :: ws) ({ frames := 0, cells := 0, slots := 0, locals := 0 } : Room)) (fun a U => a = #[(.ref c0)] ∧ Z.Warmed39 U.vm ∧ U.heap = h0) (fun _ _ _ _ _ => True) (fun _ U o U' => ∃ v L, o = .returned v ∧ own_Q (some (.long y1)) n0 h0 v U'.heap L ∧ FrameEnd U o U' L ({ frames := 0, cells := 0, slots := 0, locals := 0 } : Room).cells ({ frames := 0, cells := 0, slots := 0, locals := 0 } : Room).slots) := by
  refine MetFree.of_bodySF (plainFor_of_name pn_0) hisR ?_
  intro p e s m args below meth c s₁ Bd hml0 hP hK
  obtain ⟨rfl, hZ, hh⟩ := hP
  have hx := Bd.exec
  have hby := Bd.bytes
  have hml : c.maxLocals = 1 := hml0
  have hlk := BodyLoose.notSynchronized Bd
  have hret := Bd.returns
  have hown : s.vm.findClass "com/example/meter/meter/store/Spans" = some m.cls := findClass_of_methodNamed Bd.named
  have hnm := (name_of_methodNamed Bd.named Bd.method).1
  have X0 : Stand p l e ({ frames := 0, cells := 0, slots := 0, locals := 0 } : Room) s m #[(.ref c0)] below meth c s₁ [] 0 0 := Stand.of_body Bd
  have e0 : s₁.heap = h0 := by rw [← hh, Bd.state]; rfl
  have N0 := Fr.nil n0
  rw [ef_8 m c0]
  show Go p e below _ (s₁.setTop (mkF m 0 #[oA c0] []))
  refine own_aload_n 1 X0 hx hby d8_0 rfl rfl rfl ?_
  refine own_getF 4 X0 hx hby hZ hown (own_w hw 29 rfl) e0 F_c0_head d8_1 rfl ?_
  intro T160 X160 e160
  refine own_aload_n 5 X160 hx hby d8_4 rfl rfl rfl ?_
  refine own_getF 8 X160 hx hby hZ hown (own_w hw 23 rfl) e160 F_c0_end d8_5 rfl ?_
  intro T161 X161 e161
  refine own_icY 17 X161 hx hby d8_8 (by decide) (by decide) (by decide) ?_
  refine own_aload_n 18 X161 hx hby d8_17 rfl rfl rfl ?_
  refine own_getF 21 X161 hx hby hZ hown (own_w hw 14 rfl) e161 F_c0_lasts d8_18 rfl ?_
  intro T162 X162 e162
  refine own_aload_n 22 X162 hx hby d8_21 rfl rfl rfl ?_
  refine own_getF 25 X162 hx hby hZ hown (own_w hw 23 rfl) e162 F_c0_end d8_22 rfl ?_
  intro T163 X163 e163
  refine own_iconst 26 (1 : Int32) X163 hx hby d8_25 rfl (by decide) ?_
  refine own_isub 27 (1 : Int32) X163 hx hby d8_26 rfl (by decide) ?_
  refine own_laload 28 (.long y1) X163 hx hby hZ e163 V_c2 d8_27 rfl (by decide) rfl ?_
  exact own_ret (Q := own_Q (some (.long y1)) n0 h0) X163 hx hby hret hlk d8_28 rfl (Or.inr (Or.inl ⟨rfl, rfl, _, rfl⟩)) (by decide) (by decide) ⟨rfl, N0, e163⟩
set_option maxRecDepth 65536 in
set_option maxHeartbeats 40000000 in
theorem rm7_19 (l : Launch) (Z : State) (a0 : Array Value) (hw : ∀ d ∈ tables_1, d.before a0 Z = true) (ws : List Jvm.Cond) (w_NONE k_NONE : Addr) (W : own_W Z w_NONE k_NONE) (c0 : Addr) (c1 : Addr) (k_c1 : ClassId) (c2 : Addr) (k_c2 : ClassId) (c3 : Addr) (k_c3 : ClassId) (y0 : Int64) (y1 : Int64) (y2 : Int64) (y3 : Int64) (h0 : Heap) (n0 : Nat) (O0 : Old Z n0 h0) (E_c0 : Exa Z h0 c0 "com/example/meter/meter/store/Spans") (F_c0_droppedTotal : Fld Z h0 c0 "com/example/meter/meter/store/Spans" "droppedTotal" "J" (.long (0 : Int64))) (F_c0_end : Fld Z h0 c0 "com/example/meter/meter/store/Spans" "end" "I" (.int (2 : Int32))) (F_c0_firsts : Fld Z h0 c0 "com/example/meter/meter/store/Spans" "firsts" "[J" (.ref c1)) (F_c0_head : Fld Z h0 c0 "com/example/meter/meter/store/Spans" "head" "I" (.int (0 : Int32))) (F_c0_lasts : Fld Z h0 c0 "com/example/meter/meter/store/Spans" "lasts" "[J" (.ref c2)) (F_c0_totals : Fld Z h0 c0 "com/example/meter/meter/store/Spans" "totals" "[J" (.ref c3)) (n_c0 : n0 ≤ c0) (V_c1 : Arv Z h0 c1 k_c1 .long (16 : Int32) [(.long y0), (.long y1), (.long (0 : Int64)), (.long (0 : Int64))] (.long (0 : Int64))) (n_c1 : n0 ≤ c1) (V_c2 : Arv Z h0 c2 k_c2 .long (16 : Int32) [(.long y0), (.long y1), (.long (0 : Int64)), (.long (0 : Int64))] (.long (0 : Int64))) (n_c2 : n0 ≤ c2) (V_c3 : Arv Z h0 c3 k_c3 .long (16 : Int32) [(.long y2), (.long y3), (.long (0 : Int64)), (.long (0 : Int64))] (.long (0 : Int64))) (n_c3 : n0 ≤ c3) (ne_c0_c1 : c0 ≠ c1) (ne_c0_c2 : c0 ≠ c2) (ne_c0_c3 : c0 ≠ c3) (ne_c1_c2 : c1 ≠ c2) (ne_c1_c3 : c1 ≠ c3) (ne_c2_c3 : c2 ≠ c3) :
    MetFree l (⟨"com/example/meter/meter/store/Spans", "totalBefore", "(I)J"⟩ : MethodName) (head1 (Jvm.Cond.code (⟨"com/example/meter/meter/store/Spans", "totalBefore", "(I)J"⟩ : MethodName) prog_11_method_14_code 2 (some .long) :: ws) ({ frames := 0, cells := 0, slots := 0, locals := 0 } : Room)) (fun a U => a = #[(.ref c0), (.int (0 : Int32))] ∧ Z.Warmed39 U.vm ∧ U.heap = h0) (fun _ _ _ _ _ => True) (fun _ U o U' => ∃ v L, o = .returned v ∧ own_Q (some (.long (0 : Int64))) n0 h0 v U'.heap L ∧ FrameEnd U o U' L ({ frames := 0, cells := 0, slots := 0, locals := 0 } : Room).cells ({ frames := 0, cells := 0, slots := 0, locals := 0 } : Room).slots) := by
  refine MetFree.of_bodySF (plainFor_of_name pn_0) hisR ?_
  intro p e s m args below meth c s₁ Bd hml0 hP hK
  obtain ⟨rfl, hZ, hh⟩ := hP
  have hx := Bd.exec
  have hby := Bd.bytes
  have hml : c.maxLocals = 2 := hml0
  have hlk := BodyLoose.notSynchronized Bd
  have hret := Bd.returns
  have hown : s.vm.findClass "com/example/meter/meter/store/Spans" = some m.cls := findClass_of_methodNamed Bd.named
  have hnm := (name_of_methodNamed Bd.named Bd.method).1
  have X0 : Stand p l e ({ frames := 0, cells := 0, slots := 0, locals := 0 } : Room) s m #[(.ref c0), (.int (0 : Int32))] below meth c s₁ [] 0 0 := Stand.of_body Bd
  have e0 : s₁.heap = h0 := by rw [← hh, Bd.state]; rfl
  have N0 := Fr.nil n0
  rw [ef_7 m c0 (0 : Int32)]
  show Go p e below _ (s₁.setTop (mkF m 0 #[oA c0, oI (0 : Int32)] []))
  refine own_iload_n 1 X0 hx hby d7_0 rfl rfl ?_
  refine own_aload_n 2 X0 hx hby d7_1 rfl rfl rfl ?_
  refine own_getF 5 X0 hx hby hZ hown (own_w hw 29 rfl) e0 F_c0_head d7_2 rfl ?_
  intro T174 X174 e174
  refine own_icN 8 X174 hx hby d7_5 rfl (by decide) ?_
  refine own_aload_n 9 X174 hx hby d7_8 rfl rfl rfl ?_
  refine own_getF 12 X174 hx hby hZ hown (own_w hw 48 rfl) e174 F_c0_droppedTotal d7_9 rfl ?_
  intro T175 X175 e175
  refine own_goto 23 X175 hx hby d7_12 (by decide) (by decide) ?_
  exact own_ret (Q := own_Q (some (.long (0 : Int64))) n0 h0) X175 hx hby hret hlk d7_23 rfl (Or.inr (Or.inl ⟨rfl, rfl, _, rfl⟩)) (by decide) (by decide) ⟨rfl, N0, e175⟩
set_option maxRecDepth 65536 in
set_option maxHeartbeats 40000000 in
theorem rm11_20 (l : Launch) (Z : State) (a0 : Array Value) (hw : ∀ d ∈ tables_1, d.before a0 Z = true) (ws : List Jvm.Cond) (w_NONE k_NONE : Addr) (W : own_W Z w_NONE k_NONE) (y0 : Int64) (h0 : Heap) (n0 : Nat) (O0 : Old Z n0 h0)  :
    MetFree l (⟨"com/example/meter/meter/store/Spans", "mostHitsToStand", "(J)J"⟩ : MethodName) (head1 (Jvm.Cond.code (⟨"com/example/meter/meter/store/Spans", "mostHitsToStand", "(J)J"⟩ : MethodName) prog_11_method_13_code 2 (some .long) :: ws) ({ frames := 0, cells := 0, slots := 0, locals := 0 } : Room)) (fun a U => a = #[(.long y0)] ∧ Z.Warmed39 U.vm ∧ U.heap = h0) (fun _ _ _ _ _ => True) (fun _ U o U' => ∃ v L, o = .returned v ∧ own_Q (some (.long (((2 : Int64) * (y0 / (100 : Int64))) + (2 : Int64)))) n0 h0 v U'.heap L ∧ FrameEnd U o U' L ({ frames := 0, cells := 0, slots := 0, locals := 0 } : Room).cells ({ frames := 0, cells := 0, slots := 0, locals := 0 } : Room).slots) := by
  refine MetFree.of_bodySF (plainFor_of_name pn_0) hisR ?_
  intro p e s m args below meth c s₁ Bd hml0 hP hK
  obtain ⟨rfl, hZ, hh⟩ := hP
  have hx := Bd.exec
  have hby := Bd.bytes
  have hml : c.maxLocals = 2 := hml0
  have hlk := BodyLoose.notSynchronized Bd
  have hret := Bd.returns
  have hown : s.vm.findClass "com/example/meter/meter/store/Spans" = some m.cls := findClass_of_methodNamed Bd.named
  have hnm := (name_of_methodNamed Bd.named Bd.method).1
  have X0 : Stand p l e ({ frames := 0, cells := 0, slots := 0, locals := 0 } : Room) s m #[(.long y0)] below meth c s₁ [] 0 0 := Stand.of_body Bd
  have e0 : s₁.heap = h0 := by rw [← hh, Bd.state]; rfl
  have N0 := Fr.nil n0
  rw [ef_11 m y0]
  show Go p e below _ (s₁.setTop (mkF m 0 #[oJ y0, oS] []))
  refine own_ldc2 3 X0 hx hby hZ hown (own_w hw 70 rfl) d11_0 rfl ?_
  refine own_lload_n 4 X0 hx hby d11_3 rfl rfl ?_
  refine own_ldc2 7 X0 hx hby hZ hown (own_w hw 71 rfl) d11_4 rfl ?_
  refine own_ldiv 8 (y0 / (100 : Int64)) X0 hx hby d11_7 rfl (by decide) rfl ?_
  refine own_lmul 9 ((2 : Int64) * (y0 / (100 : Int64))) X0 hx hby d11_8 rfl rfl ?_
  refine own_ldc2 12 X0 hx hby hZ hown (own_w hw 70 rfl) d11_9 rfl ?_
  refine own_ladd 13 (((2 : Int64) * (y0 / (100 : Int64))) + (2 : Int64)) X0 hx hby d11_12 rfl rfl ?_
  exact own_ret (Q := own_Q (some (.long (((2 : Int64) * (y0 / (100 : Int64))) + (2 : Int64)))) n0 h0) X0 hx hby hret hlk d11_13 rfl (Or.inr (Or.inl ⟨rfl, rfl, _, rfl⟩)) (by decide) (by decide) ⟨rfl, N0, e0⟩
def Q_rm10_21 (Z : State) (w_NONE k_NONE : Addr) (c0 : Addr) (c1 : Addr) (k_c1 : ClassId) (c2 : Addr) (k_c2 : ClassId) (c3 : Addr) (k_c3 : ClassId) (y0 : Int64) (y1 : Int64) (y2 : Int64) (y3 : Int64) (h0 : Heap) (n0 : Nat) (v : Option Value) (h : Heap) (L : List Loc) : Prop := v = none ∧ Fr n0 L ∧ Keep h0 h [c1, c2, c3, c0] ∧ Exa Z h c0 "com/example/meter/meter/store/Spans" ∧ Fld Z h c0 "com/example/meter/meter/store/Spans" "droppedTotal" "J" (.long (0 : Int64)) ∧ Fld Z h c0 "com/example/meter/meter/store/Spans" "end" "I" (.int (2 : Int32)) ∧ Fld Z h c0 "com/example/meter/meter/store/Spans" "firsts" "[J" (.ref c1) ∧ Fld Z h c0 "com/example/meter/meter/store/Spans" "head" "I" (.int (0 : Int32)) ∧ Fld Z h c0 "com/example/meter/meter/store/Spans" "lasts" "[J" (.ref c2) ∧ Fld Z h c0 "com/example/meter/meter/store/Spans" "totals" "[J" (.ref c3) ∧ Arv Z h c1 k_c1 .long (16 : Int32) [(.long y0), (.long y1), (.long (0 : Int64)), (.long (0 : Int64))] (.long (0 : Int64)) ∧ Arv Z h c2 k_c2 .long (16 : Int32) [(.long y0), (.long y1), (.long (0 : Int64)), (.long (0 : Int64))] (.long (0 : Int64)) ∧ Arv Z h c3 k_c3 .long (16 : Int32) [(.long y2), (.long y3), (.long (0 : Int64)), (.long (0 : Int64))] (.long (0 : Int64))
set_option maxRecDepth 65536 in
set_option maxHeartbeats 40000000 in
theorem rm10_21 (l : Launch) (Z : State) (a0 : Array Value) (hw : ∀ d ∈ tables_1, d.before a0 Z = true) (ws : List Jvm.Cond) (w_NONE k_NONE : Addr) (W : own_W Z w_NONE k_NONE) (c0 : Addr) (c1 : Addr) (k_c1 : ClassId) (c2 : Addr) (k_c2 : ClassId) (c3 : Addr) (k_c3 : ClassId) (y0 : Int64) (y1 : Int64) (y2 : Int64) (y3 : Int64) (h0 : Heap) (n0 : Nat) (O0 : Old Z n0 h0) (E_c0 : Exa Z h0 c0 "com/example/meter/meter/store/Spans") (F_c0_droppedTotal : Fld Z h0 c0 "com/example/meter/meter/store/Spans" "droppedTotal" "J" (.long (0 : Int64))) (F_c0_end : Fld Z h0 c0 "com/example/meter/meter/store/Spans" "end" "I" (.int (2 : Int32))) (F_c0_firsts : Fld Z h0 c0 "com/example/meter/meter/store/Spans" "firsts" "[J" (.ref c1)) (F_c0_head : Fld Z h0 c0 "com/example/meter/meter/store/Spans" "head" "I" (.int (0 : Int32))) (F_c0_lasts : Fld Z h0 c0 "com/example/meter/meter/store/Spans" "lasts" "[J" (.ref c2)) (F_c0_totals : Fld Z h0 c0 "com/example/meter/meter/store/Spans" "totals" "[J" (.ref c3)) (n_c0 : n0 ≤ c0) (V_c1 : Arv Z h0 c1 k_c1 .long (16 : Int32) [(.long y0), (.long y1), (.long (0 : Int64)), (.long (0 : Int64))] (.long (0 : Int64))) (n_c1 : n0 ≤ c1) (V_c2 : Arv Z h0 c2 k_c2 .long (16 : Int32) [(.long y0), (.long y1), (.long (0 : Int64)), (.long (0 : Int64))] (.long (0 : Int64))) (n_c2 : n0 ≤ c2) (V_c3 : Arv Z h0 c3 k_c3 .long (16 : Int32) [(.long y2), (.long y3), (.long (0 : Int64)), (.long (0 : Int64))] (.long (0 : Int64))) (n_c3 : n0 ≤ c3) (ne_c0_c1 : c0 ≠ c1) (ne_c0_c2 : c0 ≠ c2) (ne_c0_c3 : c0 ≠ c3) (ne_c1_c2 : c1 ≠ c2) (ne_c1_c3 : c1 ≠ c3) (ne_c2_c3 : c2 ≠ c3) (hc179 : (((2 : Int64) * ((y3 - y3) / (100 : Int64))) + (2 : Int64)) < (y3 - (0 : Int64))) :
    MetFree l (⟨"com/example/meter/meter/store/Spans", "join", "()V"⟩ : MethodName) (head1 (Jvm.Cond.code (⟨"com/example/meter/meter/store/Spans", "join", "()V"⟩ : MethodName) prog_11_method_12_code 9 none :: ws) ({ frames := 1, cells := 0, slots := 0, locals := 15 } : Room)) (fun a U => a = #[(.ref c0)] ∧ Z.Warmed39 U.vm ∧ U.heap = h0) (fun _ _ _ _ _ => True) (fun _ U o U' => ∃ v L, o = .returned v ∧ Q_rm10_21 Z w_NONE k_NONE c0 c1 k_c1 c2 k_c2 c3 k_c3 y0 y1 y2 y3 h0 n0 v U'.heap L ∧ FrameEnd U o U' L ({ frames := 1, cells := 0, slots := 0, locals := 15 } : Room).cells ({ frames := 1, cells := 0, slots := 0, locals := 15 } : Room).slots) := by
  refine MetFree.of_bodySF (plainFor_of_name pn_0) hisR ?_
  intro p e s m args below meth c s₁ Bd hml0 hP hK
  obtain ⟨rfl, hZ, hh⟩ := hP
  have hx := Bd.exec
  have hby := Bd.bytes
  have hml : c.maxLocals = 9 := hml0
  have hlk := BodyLoose.notSynchronized Bd
  have hret := Bd.returns
  have hown : s.vm.findClass "com/example/meter/meter/store/Spans" = some m.cls := findClass_of_methodNamed Bd.named
  have hnm := (name_of_methodNamed Bd.named Bd.method).1
  have X0 : Stand p l e ({ frames := 1, cells := 0, slots := 0, locals := 15 } : Room) s m #[(.ref c0)] below meth c s₁ [] 0 0 := Stand.of_body Bd
  have e0 : s₁.heap = h0 := by rw [← hh, Bd.state]; rfl
  have N0 := Fr.nil n0
  rw [ef_10 m c0]
  show Go p e below _ (s₁.setTop (mkF m 0 #[oA c0, oU, oU, oU, oU, oU, oU, oU, oU] []))
  refine own_aload_n 1 X0 hx hby d10_0 rfl rfl rfl ?_
  refine own_getF 4 X0 hx hby hZ hown (own_w hw 16 rfl) e0 F_c0_totals d10_1 rfl ?_
  intro T168 X168 e168
  refine own_aload_n 5 X168 hx hby d10_4 rfl rfl rfl ?_
  refine own_getF 8 X168 hx hby hZ hown (own_w hw 23 rfl) e168 F_c0_end d10_5 rfl ?_
  intro T169 X169 e169
  refine own_iconst 9 (1 : Int32) X169 hx hby d10_8 rfl (by decide) ?_
  refine own_isub 10 (1 : Int32) X169 hx hby d10_9 rfl (by decide) ?_
  refine own_laload 11 (.long y3) X169 hx hby hZ e169 V_c3 d10_10 rfl (by decide) rfl ?_
  refine own_lstore_n 12 #[oA c0, oJ y3, oS, oU, oU, oU, oU, oU, oU] X169 hx hby d10_11 rfl rfl ?_
  refine own_aload_n 13 X169 hx hby d10_12 rfl rfl rfl ?_
  refine own_getF 16 X169 hx hby hZ hown (own_w hw 23 rfl) e169 F_c0_end d10_13 rfl ?_
  intro T170 X170 e170
  refine own_iconst 17 (1 : Int32) X170 hx hby d10_16 rfl (by decide) ?_
  refine own_isub 18 (1 : Int32) X170 hx hby d10_17 rfl (by decide) ?_
  refine own_istore_n 19 #[oA c0, oJ y3, oS, oI (1 : Int32), oU, oU, oU, oU, oU] X170 hx hby d10_18 rfl rfl ?_
  refine own_aload_n 20 X170 hx hby d10_19 rfl rfl rfl ?_
  refine own_getF 23 X170 hx hby hZ hown (own_w hw 23 rfl) e170 F_c0_end d10_20 rfl ?_
  intro T171 X171 e171
  refine own_iconst 24 (2 : Int32) X171 hx hby d10_23 rfl (by decide) ?_
  refine own_isub 25 (0 : Int32) X171 hx hby d10_24 rfl (by decide) ?_
  refine own_istore 27 #[oA c0, oJ y3, oS, oI (1 : Int32), oI (0 : Int32), oU, oU, oU, oU] X171 hx hby d10_25 rfl rfl ?_
  refine own_iload 29 X171 hx hby d10_27 rfl rfl ?_
  refine own_aload_n 30 X171 hx hby d10_29 rfl rfl rfl ?_
  refine own_getF 33 X171 hx hby hZ hown (own_w hw 29 rfl) e171 F_c0_head d10_30 rfl ?_
  intro T172 X172 e172
  refine own_icN 36 X172 hx hby d10_33 rfl (by decide) ?_
  refine own_aload_n 37 X172 hx hby d10_36 rfl rfl rfl ?_
  refine own_getF 40 X172 hx hby hZ hown (own_w hw 16 rfl) e172 F_c0_totals d10_37 rfl ?_
  intro T173 X173 e173
  refine own_iload_n 41 X173 hx hby d10_40 rfl rfl ?_
  refine own_laload 42 (.long y3) X173 hx hby hZ e173 V_c3 d10_41 rfl (by decide) rfl ?_
  refine own_aload_n 43 X173 hx hby d10_42 rfl rfl rfl ?_
  refine own_iload 45 X173 hx hby d10_43 rfl rfl ?_
  refine own_priv (W := 2) 48 (rm7_19 l Z a0 hw [] w_NONE k_NONE W c0 c1 k_c1 c2 k_c2 c3 k_c3 y0 y1 y2 y3 h0 n0 O0 E_c0 F_c0_droppedTotal F_c0_end F_c0_firsts F_c0_head F_c0_lasts F_c0_totals n_c0 V_c1 n_c1 V_c2 n_c2 V_c3 n_c3 ne_c0_c1 ne_c0_c2 ne_c0_c3 ne_c1_c2 ne_c1_c3 ne_c2_c3) X173 hx hby hZ hown (own_w hw 44 rfl) (own_w hw 45 rfl) (own_w hw 46 rfl) (own_w hw 21 rfl) (own_w hw 3 rfl) (own_w hw 47 rfl) rfl (by decide) (by rw [hml]; rfl) c0 [(.int (0 : Int32))] [(.long y3)] pd_5 rfl d10_45 rfl e173 E_c0 rfl rfl rfl (by decide) (by decide) (by decide) (by decide) ?_
  rintro _ T176 L176 X176 ⟨rfl, N176, e176⟩
  have N176 := Fr.app N0 N176
  show Go p e below _ (T176.setTop (mkF m 48 _ [(.long (0 : Int64)), (.long y3)]))
  refine own_lsub 49 (y3 - (0 : Int64)) X176 hx hby d10_48 rfl rfl ?_
  refine own_lstore 51 #[oA c0, oJ y3, oS, oI (1 : Int32), oI (0 : Int32), oJ (y3 - (0 : Int64)), oS, oU, oU] X176 hx hby d10_49 rfl rfl ?_
  refine own_lload_n 52 X176 hx hby d10_51 rfl rfl ?_
  refine own_aload_n 53 X176 hx hby d10_52 rfl rfl rfl ?_
  refine own_getF 56 X176 hx hby hZ hown (own_w hw 16 rfl) e176 F_c0_totals d10_53 rfl ?_
  intro T177 X177 e177
  refine own_iload_n 57 X177 hx hby d10_56 rfl rfl ?_
  refine own_laload 58 (.long y3) X177 hx hby hZ e177 V_c3 d10_57 rfl (by decide) rfl ?_
  refine own_lsub 59 (y3 - y3) X177 hx hby d10_58 rfl rfl ?_
  refine own_lstore 61 #[oA c0, oJ y3, oS, oI (1 : Int32), oI (0 : Int32), oJ (y3 - (0 : Int64)), oS, oJ (y3 - y3), oS] X177 hx hby d10_59 rfl rfl ?_
  refine own_lload 63 X177 hx hby d10_61 rfl rfl ?_
  refine own_lload 65 X177 hx hby d10_63 rfl rfl ?_
  refine own_callS (W := 2) 68 (rm11_20 l Z a0 hw [] w_NONE k_NONE W (y3 - y3) h0 n0 O0) X177 hx hby hZ hown (own_w hw 67 rfl) (own_w hw 68 rfl) (own_w hw 3 rfl) (own_w hw 69 rfl) (by decide) (by rw [hml]; rfl) [(.long (y3 - y3))] [(.long (y3 - (0 : Int64)))] pd_7 rfl d10_65 rfl e177 rfl rfl rfl (by decide) (by decide) (by decide) (by decide) ?_
  rintro _ T178 L178 X178 ⟨rfl, N178, e178⟩
  have N178 := Fr.app N176 N178
  show Go p e below _ (T178.setTop (mkF m 68 _ [(.long (((2 : Int64) * ((y3 - y3) / (100 : Int64))) + (2 : Int64))), (.long (y3 - (0 : Int64)))]))
  refine own_lcmp 69 (XT.cmpL (y3 - (0 : Int64)) (((2 : Int64) * ((y3 - y3) / (100 : Int64))) + (2 : Int64))) X178 hx hby d10_68 rfl rfl ?_
  refine own_ifY 88 X178 hx hby d10_69 (by decide) (by decide) (own_tltL hc179).2.2.1 ?_
  refine own_iinc 91 #[oA c0, oJ y3, oS, oI (0 : Int32), oI (0 : Int32), oJ (y3 - (0 : Int64)), oS, oJ (y3 - y3), oS] X178 hx hby d10_88 rfl rfl rfl ?_
  refine own_aload_n 92 X178 hx hby d10_91 rfl rfl rfl ?_
  refine own_getF 95 X178 hx hby hZ hown (own_w hw 12 rfl) e178 F_c0_firsts d10_92 rfl ?_
  intro T180 X180 e180
  refine own_iload_n 96 X180 hx hby d10_95 rfl rfl ?_
  refine own_aload_n 97 X180 hx hby d10_96 rfl rfl rfl ?_
  refine own_getF 100 X180 hx hby hZ hown (own_w hw 12 rfl) e180 F_c0_firsts d10_97 rfl ?_
  intro T181 X181 e181
  refine own_iload 102 X181 hx hby d10_100 rfl rfl ?_
  refine own_laload 103 (.long y0) X181 hx hby hZ e181 V_c1 d10_102 rfl (by decide) rfl ?_
  refine own_stJ 104 0 X181 hx hby hZ e181 V_c1 d10_103 rfl (by decide) (by decide) (Nat.le_of_ble_eq_true rfl) ?_
  intro T182 h182 X182 e182 W182 V182
  have V182 : Arv Z h182 c1 k_c1 .long (16 : Int32) [(.long y0), (.long y1), (.long (0 : Int64)), (.long (0 : Int64))] (.long (0 : Int64)) := V182
  have E_c0_182 := E_c0.wr W182
  have F_c0_droppedTotal_182 := F_c0_droppedTotal.other W182 (Or.inl ne_c0_c1)
  have F_c0_end_182 := F_c0_end.other W182 (Or.inl ne_c0_c1)
  have F_c0_firsts_182 := F_c0_firsts.other W182 (Or.inl ne_c0_c1)
  have F_c0_head_182 := F_c0_head.other W182 (Or.inl ne_c0_c1)
  have F_c0_lasts_182 := F_c0_lasts.other W182 (Or.inl ne_c0_c1)
  have F_c0_totals_182 := F_c0_totals.other W182 (Or.inl ne_c0_c1)
  have V_c2_182 := V_c2.other W182 (Ne.symm ne_c1_c2)
  have V_c3_182 := V_c3.other W182 (Ne.symm ne_c1_c3)
  have K182 : Keep h0 h182 [c1, c2, c3, c0] := (Keep.refl h0 [c1, c2, c3, c0]).wr W182 (Or.inl (List.mem_of_getElem? (i := 0) rfl))
  have O182 := O0.wr W182 n_c1
  have N182 := Fr.snoc X182 N178 n_c1
  refine own_aload_n 105 X182 hx hby d10_104 rfl rfl rfl ?_
  refine own_getF 108 X182 hx hby hZ hown (own_w hw 14 rfl) e182 F_c0_lasts_182 d10_105 rfl ?_
  intro T183 X183 e183
  refine own_iload_n 109 X183 hx hby d10_108 rfl rfl ?_
  refine own_aload_n 110 X183 hx hby d10_109 rfl rfl rfl ?_
  refine own_getF 113 X183 hx hby hZ hown (own_w hw 14 rfl) e183 F_c0_lasts_182 d10_110 rfl ?_
  intro T184 X184 e184
  refine own_iload 115 X184 hx hby d10_113 rfl rfl ?_
  refine own_laload 116 (.long y0) X184 hx hby hZ e184 V_c2_182 d10_115 rfl (by decide) rfl ?_
  refine own_stJ 117 0 X184 hx hby hZ e184 V_c2_182 d10_116 rfl (by decide) (by decide) (Nat.le_of_ble_eq_true rfl) ?_
  intro T185 h185 X185 e185 W185 V185
  have V185 : Arv Z h185 c2 k_c2 .long (16 : Int32) [(.long y0), (.long y1), (.long (0 : Int64)), (.long (0 : Int64))] (.long (0 : Int64)) := V185
  have E_c0_185 := E_c0_182.wr W185
  have F_c0_droppedTotal_185 := F_c0_droppedTotal_182.other W185 (Or.inl ne_c0_c2)
  have F_c0_end_185 := F_c0_end_182.other W185 (Or.inl ne_c0_c2)
  have F_c0_firsts_185 := F_c0_firsts_182.other W185 (Or.inl ne_c0_c2)
  have F_c0_head_185 := F_c0_head_182.other W185 (Or.inl ne_c0_c2)
  have F_c0_lasts_185 := F_c0_lasts_182.other W185 (Or.inl ne_c0_c2)
  have F_c0_totals_185 := F_c0_totals_182.other W185 (Or.inl ne_c0_c2)
  have V_c1_185 := V182.other W185 ne_c1_c2
  have V_c3_185 := V_c3_182.other W185 (Ne.symm ne_c2_c3)
  have K185 : Keep h0 h185 [c1, c2, c3, c0] := K182.wr W185 (Or.inl (List.mem_of_getElem? (i := 1) rfl))
  have O185 := O182.wr W185 n_c2
  have N185 := Fr.snoc X185 N182 n_c2
  refine own_aload_n 118 X185 hx hby d10_117 rfl rfl rfl ?_
  refine own_getF 121 X185 hx hby hZ hown (own_w hw 16 rfl) e185 F_c0_totals_185 d10_118 rfl ?_
  intro T186 X186 e186
  refine own_iload_n 122 X186 hx hby d10_121 rfl rfl ?_
  refine own_aload_n 123 X186 hx hby d10_122 rfl rfl rfl ?_
  refine own_getF 126 X186 hx hby hZ hown (own_w hw 16 rfl) e186 F_c0_totals_185 d10_123 rfl ?_
  intro T187 X187 e187
  refine own_iload 128 X187 hx hby d10_126 rfl rfl ?_
  refine own_laload 129 (.long y2) X187 hx hby hZ e187 V_c3_185 d10_128 rfl (by decide) rfl ?_
  refine own_stJ 130 0 X187 hx hby hZ e187 V_c3_185 d10_129 rfl (by decide) (by decide) (Nat.le_of_ble_eq_true rfl) ?_
  intro T188 h188 X188 e188 W188 V188
  have V188 : Arv Z h188 c3 k_c3 .long (16 : Int32) [(.long y2), (.long y3), (.long (0 : Int64)), (.long (0 : Int64))] (.long (0 : Int64)) := V188
  have E_c0_188 := E_c0_185.wr W188
  have F_c0_droppedTotal_188 := F_c0_droppedTotal_185.other W188 (Or.inl ne_c0_c3)
  have F_c0_end_188 := F_c0_end_185.other W188 (Or.inl ne_c0_c3)
  have F_c0_firsts_188 := F_c0_firsts_185.other W188 (Or.inl ne_c0_c3)
  have F_c0_head_188 := F_c0_head_185.other W188 (Or.inl ne_c0_c3)
  have F_c0_lasts_188 := F_c0_lasts_185.other W188 (Or.inl ne_c0_c3)
  have F_c0_totals_188 := F_c0_totals_185.other W188 (Or.inl ne_c0_c3)
  have V_c1_188 := V_c1_185.other W188 ne_c1_c3
  have V_c2_188 := V185.other W188 ne_c2_c3
  have K188 : Keep h0 h188 [c1, c2, c3, c0] := K185.wr W188 (Or.inl (List.mem_of_getElem? (i := 2) rfl))
  have O188 := O185.wr W188 n_c3
  have N188 := Fr.snoc X188 N185 n_c3
  refine own_iinc 133 #[oA c0, oJ y3, oS, oI (0 : Int32), oI (-1 : Int32), oJ (y3 - (0 : Int64)), oS, oJ (y3 - y3), oS] X188 hx hby d10_130 rfl rfl rfl ?_
  refine own_goto 27 X188 hx hby d10_133 (by decide) (by decide) ?_
  refine own_iload 29 X188 hx hby d10_27 rfl rfl ?_
  refine own_aload_n 30 X188 hx hby d10_29 rfl rfl rfl ?_
  refine own_getF 33 X188 hx hby hZ hown (own_w hw 29 rfl) e188 F_c0_head_188 d10_30 rfl ?_
  intro T189 X189 e189
  refine own_icY 136 X189 hx hby d10_33 (by decide) (by decide) (by decide) ?_
  refine own_aload_n 137 X189 hx hby d10_136 rfl rfl rfl ?_
  refine own_iload_n 138 X189 hx hby d10_137 rfl rfl ?_
  refine own_putF 141 X189 hx hby hZ .int hown (own_w hw 29 rfl) e189 F_c0_head_188 E_c0_188 (Or.inl (own_w hw 30 rfl)) (own_w hw 2 rfl) (by decide) rfl rfl d10_138 rfl ?_
  intro T190 h190 X190 e190 W190
  have E_c0_190 := E_c0_188.wr W190
  have F_c0_droppedTotal_190 := F_c0_droppedTotal_188.other W190 (Or.inr (slot_ne (Or.inl (own_w hw 49 rfl)) (Or.inl (own_w hw 30 rfl)) (by decide) (t := .long) (t' := .int) (by decide) (by decide)))
  have F_c0_end_190 := F_c0_end_188.other W190 (Or.inr (slot_ne (Or.inl (own_w hw 24 rfl)) (Or.inl (own_w hw 30 rfl)) (by decide) (t := .int) (t' := .int) (by decide) (by decide)))
  have F_c0_firsts_190 := F_c0_firsts_188.other W190 (Or.inr (slot_ne (Or.inl (own_w hw 13 rfl)) (Or.inl (own_w hw 30 rfl)) (by decide) (t := (.array .long)) (t' := .int) (by decide) (by decide)))
  have F_c0_head_190 := F_c0_head_188.same W190
  have F_c0_lasts_190 := F_c0_lasts_188.other W190 (Or.inr (slot_ne (Or.inl (own_w hw 15 rfl)) (Or.inl (own_w hw 30 rfl)) (by decide) (t := (.array .long)) (t' := .int) (by decide) (by decide)))
  have F_c0_totals_190 := F_c0_totals_188.other W190 (Or.inr (slot_ne (Or.inl (own_w hw 17 rfl)) (Or.inl (own_w hw 30 rfl)) (by decide) (t := (.array .long)) (t' := .int) (by decide) (by decide)))
  have V_c1_190 := V_c1_188.other W190 (Ne.symm ne_c0_c1)
  have V_c2_190 := V_c2_188.other W190 (Ne.symm ne_c0_c2)
  have V_c3_190 := V188.other W190 (Ne.symm ne_c0_c3)
  have K190 : Keep h0 h190 [c1, c2, c3, c0] := K188.wr W190 (Or.inl (List.mem_of_getElem? (i := 3) rfl))
  have O190 := O188.wr W190 n_c0
  have N190 := Fr.snoc X190 N188 n_c0
  exact own_ret0 (Q := Q_rm10_21 Z w_NONE k_NONE c0 c1 k_c1 c2 k_c2 c3 k_c3 y0 y1 y2 y3 h0 n0) X190 hx hby hret hlk d10_141 (by decide) (by decide) (by rw [e190]; exact ⟨rfl, N190, K190, E_c0_190, F_c0_droppedTotal_190, F_c0_end_190, F_c0_firsts_190, F_c0_head_190, F_c0_lasts_190, F_c0_totals_190, V_c1_190, V_c2_190, V_c3_190⟩)
def Q_rm10_22 (Z : State) (w_NONE k_NONE : Addr) (c0 : Addr) (c1 : Addr) (k_c1 : ClassId) (c2 : Addr) (k_c2 : ClassId) (c3 : Addr) (k_c3 : ClassId) (y0 : Int64) (y1 : Int64) (y2 : Int64) (y3 : Int64) (h0 : Heap) (n0 : Nat) (v : Option Value) (h : Heap) (L : List Loc) : Prop := v = none ∧ Fr n0 L ∧ Keep h0 h [c1, c0] ∧ Exa Z h c0 "com/example/meter/meter/store/Spans" ∧ Fld Z h c0 "com/example/meter/meter/store/Spans" "droppedTotal" "J" (.long (0 : Int64)) ∧ Fld Z h c0 "com/example/meter/meter/store/Spans" "end" "I" (.int (2 : Int32)) ∧ Fld Z h c0 "com/example/meter/meter/store/Spans" "firsts" "[J" (.ref c1) ∧ Fld Z h c0 "com/example/meter/meter/store/Spans" "head" "I" (.int (1 : Int32)) ∧ Fld Z h c0 "com/example/meter/meter/store/Spans" "lasts" "[J" (.ref c2) ∧ Fld Z h c0 "com/example/meter/meter/store/Spans" "totals" "[J" (.ref c3) ∧ Arv Z h c1 k_c1 .long (16 : Int32) [(.long y0), (.long y0), (.long (0 : Int64)), (.long (0 : Int64))] (.long (0 : Int64)) ∧ Arv Z h c2 k_c2 .long (16 : Int32) [(.long y0), (.long y1), (.long (0 : Int64)), (.long (0 : Int64))] (.long (0 : Int64)) ∧ Arv Z h c3 k_c3 .long (16 : Int32) [(.long y2), (.long y3), (.long (0 : Int64)), (.long (0 : Int64))] (.long (0 : Int64))
set_option maxRecDepth 65536 in
set_option maxHeartbeats 40000000 in
theorem rm10_22 (l : Launch) (Z : State) (a0 : Array Value) (hw : ∀ d ∈ tables_1, d.before a0 Z = true) (ws : List Jvm.Cond) (w_NONE k_NONE : Addr) (W : own_W Z w_NONE k_NONE) (c0 : Addr) (c1 : Addr) (k_c1 : ClassId) (c2 : Addr) (k_c2 : ClassId) (c3 : Addr) (k_c3 : ClassId) (y0 : Int64) (y1 : Int64) (y2 : Int64) (y3 : Int64) (h0 : Heap) (n0 : Nat) (O0 : Old Z n0 h0) (E_c0 : Exa Z h0 c0 "com/example/meter/meter/store/Spans") (F_c0_droppedTotal : Fld Z h0 c0 "com/example/meter/meter/store/Spans" "droppedTotal" "J" (.long (0 : Int64))) (F_c0_end : Fld Z h0 c0 "com/example/meter/meter/store/Spans" "end" "I" (.int (2 : Int32))) (F_c0_firsts : Fld Z h0 c0 "com/example/meter/meter/store/Spans" "firsts" "[J" (.ref c1)) (F_c0_head : Fld Z h0 c0 "com/example/meter/meter/store/Spans" "head" "I" (.int (0 : Int32))) (F_c0_lasts : Fld Z h0 c0 "com/example/meter/meter/store/Spans" "lasts" "[J" (.ref c2)) (F_c0_totals : Fld Z h0 c0 "com/example/meter/meter/store/Spans" "totals" "[J" (.ref c3)) (n_c0 : n0 ≤ c0) (V_c1 : Arv Z h0 c1 k_c1 .long (16 : Int32) [(.long y0), (.long y1), (.long (0 : Int64)), (.long (0 : Int64))] (.long (0 : Int64))) (n_c1 : n0 ≤ c1) (V_c2 : Arv Z h0 c2 k_c2 .long (16 : Int32) [(.long y0), (.long y1), (.long (0 : Int64)), (.long (0 : Int64))] (.long (0 : Int64))) (n_c2 : n0 ≤ c2) (V_c3 : Arv Z h0 c3 k_c3 .long (16 : Int32) [(.long y2), (.long y3), (.long (0 : Int64)), (.long (0 : Int64))] (.long (0 : Int64))) (n_c3 : n0 ≤ c3) (ne_c0_c1 : c0 ≠ c1) (ne_c0_c2 : c0 ≠ c2) (ne_c0_c3 : c0 ≠ c3) (ne_c1_c2 : c1 ≠ c2) (ne_c1_c3 : c1 ≠ c3) (ne_c2_c3 : c2 ≠ c3) (hc179 : ¬ ((((2 : Int64) * ((y3 - y3) / (100 : Int64))) + (2 : Int64)) < (y3 - (0 : Int64)))) :
    MetFree l (⟨"com/example/meter/meter/store/Spans", "join", "()V"⟩ : MethodName) (head1 (Jvm.Cond.code (⟨"com/example/meter/meter/store/Spans", "join", "()V"⟩ : MethodName) prog_11_method_12_code 9 none :: ws) ({ frames := 1, cells := 0, slots := 0, locals := 15 } : Room)) (fun a U => a = #[(.ref c0)] ∧ Z.Warmed39 U.vm ∧ U.heap = h0) (fun _ _ _ _ _ => True) (fun _ U o U' => ∃ v L, o = .returned v ∧ Q_rm10_22 Z w_NONE k_NONE c0 c1 k_c1 c2 k_c2 c3 k_c3 y0 y1 y2 y3 h0 n0 v U'.heap L ∧ FrameEnd U o U' L ({ frames := 1, cells := 0, slots := 0, locals := 15 } : Room).cells ({ frames := 1, cells := 0, slots := 0, locals := 15 } : Room).slots) := by
  refine MetFree.of_bodySF (plainFor_of_name pn_0) hisR ?_
  intro p e s m args below meth c s₁ Bd hml0 hP hK
  obtain ⟨rfl, hZ, hh⟩ := hP
  have hx := Bd.exec
  have hby := Bd.bytes
  have hml : c.maxLocals = 9 := hml0
  have hlk := BodyLoose.notSynchronized Bd
  have hret := Bd.returns
  have hown : s.vm.findClass "com/example/meter/meter/store/Spans" = some m.cls := findClass_of_methodNamed Bd.named
  have hnm := (name_of_methodNamed Bd.named Bd.method).1
  have X0 : Stand p l e ({ frames := 1, cells := 0, slots := 0, locals := 15 } : Room) s m #[(.ref c0)] below meth c s₁ [] 0 0 := Stand.of_body Bd
  have e0 : s₁.heap = h0 := by rw [← hh, Bd.state]; rfl
  have N0 := Fr.nil n0
  rw [ef_10 m c0]
  show Go p e below _ (s₁.setTop (mkF m 0 #[oA c0, oU, oU, oU, oU, oU, oU, oU, oU] []))
  refine own_aload_n 1 X0 hx hby d10_0 rfl rfl rfl ?_
  refine own_getF 4 X0 hx hby hZ hown (own_w hw 16 rfl) e0 F_c0_totals d10_1 rfl ?_
  intro T168 X168 e168
  refine own_aload_n 5 X168 hx hby d10_4 rfl rfl rfl ?_
  refine own_getF 8 X168 hx hby hZ hown (own_w hw 23 rfl) e168 F_c0_end d10_5 rfl ?_
  intro T169 X169 e169
  refine own_iconst 9 (1 : Int32) X169 hx hby d10_8 rfl (by decide) ?_
  refine own_isub 10 (1 : Int32) X169 hx hby d10_9 rfl (by decide) ?_
  refine own_laload 11 (.long y3) X169 hx hby hZ e169 V_c3 d10_10 rfl (by decide) rfl ?_
  refine own_lstore_n 12 #[oA c0, oJ y3, oS, oU, oU, oU, oU, oU, oU] X169 hx hby d10_11 rfl rfl ?_
  refine own_aload_n 13 X169 hx hby d10_12 rfl rfl rfl ?_
  refine own_getF 16 X169 hx hby hZ hown (own_w hw 23 rfl) e169 F_c0_end d10_13 rfl ?_
  intro T170 X170 e170
  refine own_iconst 17 (1 : Int32) X170 hx hby d10_16 rfl (by decide) ?_
  refine own_isub 18 (1 : Int32) X170 hx hby d10_17 rfl (by decide) ?_
  refine own_istore_n 19 #[oA c0, oJ y3, oS, oI (1 : Int32), oU, oU, oU, oU, oU] X170 hx hby d10_18 rfl rfl ?_
  refine own_aload_n 20 X170 hx hby d10_19 rfl rfl rfl ?_
  refine own_getF 23 X170 hx hby hZ hown (own_w hw 23 rfl) e170 F_c0_end d10_20 rfl ?_
  intro T171 X171 e171
  refine own_iconst 24 (2 : Int32) X171 hx hby d10_23 rfl (by decide) ?_
  refine own_isub 25 (0 : Int32) X171 hx hby d10_24 rfl (by decide) ?_
  refine own_istore 27 #[oA c0, oJ y3, oS, oI (1 : Int32), oI (0 : Int32), oU, oU, oU, oU] X171 hx hby d10_25 rfl rfl ?_
  refine own_iload 29 X171 hx hby d10_27 rfl rfl ?_
  refine own_aload_n 30 X171 hx hby d10_29 rfl rfl rfl ?_
  refine own_getF 33 X171 hx hby hZ hown (own_w hw 29 rfl) e171 F_c0_head d10_30 rfl ?_
  intro T172 X172 e172
  refine own_icN 36 X172 hx hby d10_33 rfl (by decide) ?_
  refine own_aload_n 37 X172 hx hby d10_36 rfl rfl rfl ?_
  refine own_getF 40 X172 hx hby hZ hown (own_w hw 16 rfl) e172 F_c0_totals d10_37 rfl ?_
  intro T173 X173 e173
  refine own_iload_n 41 X173 hx hby d10_40 rfl rfl ?_
  refine own_laload 42 (.long y3) X173 hx hby hZ e173 V_c3 d10_41 rfl (by decide) rfl ?_
  refine own_aload_n 43 X173 hx hby d10_42 rfl rfl rfl ?_
  refine own_iload 45 X173 hx hby d10_43 rfl rfl ?_
  refine own_priv (W := 2) 48 (rm7_19 l Z a0 hw [] w_NONE k_NONE W c0 c1 k_c1 c2 k_c2 c3 k_c3 y0 y1 y2 y3 h0 n0 O0 E_c0 F_c0_droppedTotal F_c0_end F_c0_firsts F_c0_head F_c0_lasts F_c0_totals n_c0 V_c1 n_c1 V_c2 n_c2 V_c3 n_c3 ne_c0_c1 ne_c0_c2 ne_c0_c3 ne_c1_c2 ne_c1_c3 ne_c2_c3) X173 hx hby hZ hown (own_w hw 44 rfl) (own_w hw 45 rfl) (own_w hw 46 rfl) (own_w hw 21 rfl) (own_w hw 3 rfl) (own_w hw 47 rfl) rfl (by decide) (by rw [hml]; rfl) c0 [(.int (0 : Int32))] [(.long y3)] pd_5 rfl d10_45 rfl e173 E_c0 rfl rfl rfl (by decide) (by decide) (by decide) (by decide) ?_
  rintro _ T176 L176 X176 ⟨rfl, N176, e176⟩
  have N176 := Fr.app N0 N176
  show Go p e below _ (T176.setTop (mkF m 48 _ [(.long (0 : Int64)), (.long y3)]))
  refine own_lsub 49 (y3 - (0 : Int64)) X176 hx hby d10_48 rfl rfl ?_
  refine own_lstore 51 #[oA c0, oJ y3, oS, oI (1 : Int32), oI (0 : Int32), oJ (y3 - (0 : Int64)), oS, oU, oU] X176 hx hby d10_49 rfl rfl ?_
  refine own_lload_n 52 X176 hx hby d10_51 rfl rfl ?_
  refine own_aload_n 53 X176 hx hby d10_52 rfl rfl rfl ?_
  refine own_getF 56 X176 hx hby hZ hown (own_w hw 16 rfl) e176 F_c0_totals d10_53 rfl ?_
  intro T177 X177 e177
  refine own_iload_n 57 X177 hx hby d10_56 rfl rfl ?_
  refine own_laload 58 (.long y3) X177 hx hby hZ e177 V_c3 d10_57 rfl (by decide) rfl ?_
  refine own_lsub 59 (y3 - y3) X177 hx hby d10_58 rfl rfl ?_
  refine own_lstore 61 #[oA c0, oJ y3, oS, oI (1 : Int32), oI (0 : Int32), oJ (y3 - (0 : Int64)), oS, oJ (y3 - y3), oS] X177 hx hby d10_59 rfl rfl ?_
  refine own_lload 63 X177 hx hby d10_61 rfl rfl ?_
  refine own_lload 65 X177 hx hby d10_63 rfl rfl ?_
  refine own_callS (W := 2) 68 (rm11_20 l Z a0 hw [] w_NONE k_NONE W (y3 - y3) h0 n0 O0) X177 hx hby hZ hown (own_w hw 67 rfl) (own_w hw 68 rfl) (own_w hw 3 rfl) (own_w hw 69 rfl) (by decide) (by rw [hml]; rfl) [(.long (y3 - y3))] [(.long (y3 - (0 : Int64)))] pd_7 rfl d10_65 rfl e177 rfl rfl rfl (by decide) (by decide) (by decide) (by decide) ?_
  rintro _ T178 L178 X178 ⟨rfl, N178, e178⟩
  have N178 := Fr.app N176 N178
  show Go p e below _ (T178.setTop (mkF m 68 _ [(.long (((2 : Int64) * ((y3 - y3) / (100 : Int64))) + (2 : Int64))), (.long (y3 - (0 : Int64)))]))
  refine own_lcmp 69 (XT.cmpL (y3 - (0 : Int64)) (((2 : Int64) * ((y3 - y3) / (100 : Int64))) + (2 : Int64))) X178 hx hby d10_68 rfl rfl ?_
  refine own_ifN 72 X178 hx hby d10_69 rfl (own_fltL hc179).2.2.1 ?_
  refine own_aload_n 73 X178 hx hby d10_72 rfl rfl rfl ?_
  refine own_getF 76 X178 hx hby hZ hown (own_w hw 12 rfl) e178 F_c0_firsts d10_73 rfl ?_
  intro T191 X191 e191
  refine own_iload_n 77 X191 hx hby d10_76 rfl rfl ?_
  refine own_aload_n 78 X191 hx hby d10_77 rfl rfl rfl ?_
  refine own_getF 81 X191 hx hby hZ hown (own_w hw 12 rfl) e191 F_c0_firsts d10_78 rfl ?_
  intro T192 X192 e192
  refine own_iload 83 X192 hx hby d10_81 rfl rfl ?_
  refine own_laload 84 (.long y0) X192 hx hby hZ e192 V_c1 d10_83 rfl (by decide) rfl ?_
  refine own_stJ 85 1 X192 hx hby hZ e192 V_c1 d10_84 rfl (by decide) (by decide) (Nat.le_of_ble_eq_true rfl) ?_
  intro T193 h193 X193 e193 W193 V193
  have V193 : Arv Z h193 c1 k_c1 .long (16 : Int32) [(.long y0), (.long y0), (.long (0 : Int64)), (.long (0 : Int64))] (.long (0 : Int64)) := V193
  have E_c0_193 := E_c0.wr W193
  have F_c0_droppedTotal_193 := F_c0_droppedTotal.other W193 (Or.inl ne_c0_c1)
  have F_c0_end_193 := F_c0_end.other W193 (Or.inl ne_c0_c1)
  have F_c0_firsts_193 := F_c0_firsts.other W193 (Or.inl ne_c0_c1)
  have F_c0_head_193 := F_c0_head.other W193 (Or.inl ne_c0_c1)
  have F_c0_lasts_193 := F_c0_lasts.other W193 (Or.inl ne_c0_c1)
  have F_c0_totals_193 := F_c0_totals.other W193 (Or.inl ne_c0_c1)
  have V_c2_193 := V_c2.other W193 (Ne.symm ne_c1_c2)
  have V_c3_193 := V_c3.other W193 (Ne.symm ne_c1_c3)
  have K193 : Keep h0 h193 [c1, c0] := (Keep.refl h0 [c1, c0]).wr W193 (Or.inl (List.mem_of_getElem? (i := 0) rfl))
  have O193 := O0.wr W193 n_c1
  have N193 := Fr.snoc X193 N178 n_c1
  refine own_goto 130 X193 hx hby d10_85 (by decide) (by decide) ?_
  refine own_iinc 133 #[oA c0, oJ y3, oS, oI (1 : Int32), oI (-1 : Int32), oJ (y3 - (0 : Int64)), oS, oJ (y3 - y3), oS] X193 hx hby d10_130 rfl rfl rfl ?_
  refine own_goto 27 X193 hx hby d10_133 (by decide) (by decide) ?_
  refine own_iload 29 X193 hx hby d10_27 rfl rfl ?_
  refine own_aload_n 30 X193 hx hby d10_29 rfl rfl rfl ?_
  refine own_getF 33 X193 hx hby hZ hown (own_w hw 29 rfl) e193 F_c0_head_193 d10_30 rfl ?_
  intro T194 X194 e194
  refine own_icY 136 X194 hx hby d10_33 (by decide) (by decide) (by decide) ?_
  refine own_aload_n 137 X194 hx hby d10_136 rfl rfl rfl ?_
  refine own_iload_n 138 X194 hx hby d10_137 rfl rfl ?_
  refine own_putF 141 X194 hx hby hZ .int hown (own_w hw 29 rfl) e194 F_c0_head_193 E_c0_193 (Or.inl (own_w hw 30 rfl)) (own_w hw 2 rfl) (by decide) rfl rfl d10_138 rfl ?_
  intro T195 h195 X195 e195 W195
  have E_c0_195 := E_c0_193.wr W195
  have F_c0_droppedTotal_195 := F_c0_droppedTotal_193.other W195 (Or.inr (slot_ne (Or.inl (own_w hw 49 rfl)) (Or.inl (own_w hw 30 rfl)) (by decide) (t := .long) (t' := .int) (by decide) (by decide)))
  have F_c0_end_195 := F_c0_end_193.other W195 (Or.inr (slot_ne (Or.inl (own_w hw 24 rfl)) (Or.inl (own_w hw 30 rfl)) (by decide) (t := .int) (t' := .int) (by decide) (by decide)))
  have F_c0_firsts_195 := F_c0_firsts_193.other W195 (Or.inr (slot_ne (Or.inl (own_w hw 13 rfl)) (Or.inl (own_w hw 30 rfl)) (by decide) (t := (.array .long)) (t' := .int) (by decide) (by decide)))
  have F_c0_head_195 := F_c0_head_193.same W195
  have F_c0_lasts_195 := F_c0_lasts_193.other W195 (Or.inr (slot_ne (Or.inl (own_w hw 15 rfl)) (Or.inl (own_w hw 30 rfl)) (by decide) (t := (.array .long)) (t' := .int) (by decide) (by decide)))
  have F_c0_totals_195 := F_c0_totals_193.other W195 (Or.inr (slot_ne (Or.inl (own_w hw 17 rfl)) (Or.inl (own_w hw 30 rfl)) (by decide) (t := (.array .long)) (t' := .int) (by decide) (by decide)))
  have V_c1_195 := V193.other W195 (Ne.symm ne_c0_c1)
  have V_c2_195 := V_c2_193.other W195 (Ne.symm ne_c0_c2)
  have V_c3_195 := V_c3_193.other W195 (Ne.symm ne_c0_c3)
  have K195 : Keep h0 h195 [c1, c0] := K193.wr W195 (Or.inl (List.mem_of_getElem? (i := 1) rfl))
  have O195 := O193.wr W195 n_c0
  have N195 := Fr.snoc X195 N193 n_c0
  exact own_ret0 (Q := Q_rm10_22 Z w_NONE k_NONE c0 c1 k_c1 c2 k_c2 c3 k_c3 y0 y1 y2 y3 h0 n0) X195 hx hby hret hlk d10_141 (by decide) (by decide) (by rw [e195]; exact ⟨rfl, N195, K195, E_c0_195, F_c0_droppedTotal_195, F_c0_end_195, F_c0_firsts_195, F_c0_head_195, F_c0_lasts_195, F_c0_totals_195, V_c1_195, V_c2_195, V_c3_195⟩)
set_option maxRecDepth 65536 in
set_option maxHeartbeats 40000000 in
theorem rm8_23 (l : Launch) (Z : State) (a0 : Array Value) (hw : ∀ d ∈ tables_1, d.before a0 Z = true) (ws : List Jvm.Cond) (w_NONE k_NONE : Addr) (W : own_W Z w_NONE k_NONE) (c0 : Addr) (c1 : Addr) (k_c1 : ClassId) (c2 : Addr) (k_c2 : ClassId) (c3 : Addr) (k_c3 : ClassId) (y0 : Int64) (y1 : Int64) (y2 : Int64) (y3 : Int64) (h0 : Heap) (n0 : Nat) (O0 : Old Z n0 h0) (E_c0 : Exa Z h0 c0 "com/example/meter/meter/store/Spans") (F_c0_droppedTotal : Fld Z h0 c0 "com/example/meter/meter/store/Spans" "droppedTotal" "J" (.long (0 : Int64))) (F_c0_end : Fld Z h0 c0 "com/example/meter/meter/store/Spans" "end" "I" (.int (2 : Int32))) (F_c0_firsts : Fld Z h0 c0 "com/example/meter/meter/store/Spans" "firsts" "[J" (.ref c1)) (F_c0_head : Fld Z h0 c0 "com/example/meter/meter/store/Spans" "head" "I" (.int (1 : Int32))) (F_c0_lasts : Fld Z h0 c0 "com/example/meter/meter/store/Spans" "lasts" "[J" (.ref c2)) (F_c0_totals : Fld Z h0 c0 "com/example/meter/meter/store/Spans" "totals" "[J" (.ref c3)) (n_c0 : n0 ≤ c0) (V_c1 : Arv Z h0 c1 k_c1 .long (16 : Int32) [(.long y0), (.long y0), (.long (0 : Int64)), (.long (0 : Int64))] (.long (0 : Int64))) (n_c1 : n0 ≤ c1) (V_c2 : Arv Z h0 c2 k_c2 .long (16 : Int32) [(.long y0), (.long y1), (.long (0 : Int64)), (.long (0 : Int64))] (.long (0 : Int64))) (n_c2 : n0 ≤ c2) (V_c3 : Arv Z h0 c3 k_c3 .long (16 : Int32) [(.long y2), (.long y3), (.long (0 : Int64)), (.long (0 : Int64))] (.long (0 : Int64))) (n_c3 : n0 ≤ c3) (ne_c0_c1 : c0 ≠ c1) (ne_c0_c2 : c0 ≠ c2) (ne_c0_c3 : c0 ≠ c3) (ne_c1_c2 : c1 ≠ c2) (ne_c1_c3 : c1 ≠ c3) (ne_c2_c3 : c2 ≠ c3) :
    MetFree l (⟨"com/example/meter/meter/store/Spans", "newestSecond", "()J"⟩ : MethodName) (head1 (Jvm.Cond.code (⟨"com/example/meter/meter/store/Spans", "newestSecond", "()J"⟩ : MethodName) prog_11_method_7_code 1 (some .long) :: ws) ({ frames := 0, cells := 0, slots := 0, locals := 0 } : Room)) (fun a U => a = #[(.ref c0)] ∧ Z.Warmed39 U.vm ∧ U.heap = h0) (fun _ _ _ _ _ => True) (fun _ U o U' => ∃ v L, o = .returned v ∧ own_Q (some (.long y1)) n0 h0 v U'.heap L ∧ FrameEnd U o U' L ({ frames := 0, cells := 0, slots := 0, locals := 0 } : Room).cells ({ frames := 0, cells := 0, slots := 0, locals := 0 } : Room).slots) := by
  refine MetFree.of_bodySF (plainFor_of_name pn_0) hisR ?_
  intro p e s m args below meth c s₁ Bd hml0 hP hK
  obtain ⟨rfl, hZ, hh⟩ := hP
  have hx := Bd.exec
  have hby := Bd.bytes
  have hml : c.maxLocals = 1 := hml0
  have hlk := BodyLoose.notSynchronized Bd
  have hret := Bd.returns
  have hown : s.vm.findClass "com/example/meter/meter/store/Spans" = some m.cls := findClass_of_methodNamed Bd.named
  have hnm := (name_of_methodNamed Bd.named Bd.method).1
  have X0 : Stand p l e ({ frames := 0, cells := 0, slots := 0, locals := 0 } : Room) s m #[(.ref c0)] below meth c s₁ [] 0 0 := Stand.of_body Bd
  have e0 : s₁.heap = h0 := by rw [← hh, Bd.state]; rfl
  have N0 := Fr.nil n0
  rw [ef_8 m c0]
  show Go p e below _ (s₁.setTop (mkF m 0 #[oA c0] []))
  refine own_aload_n 1 X0 hx hby d8_0 rfl rfl rfl ?_
  refine own_getF 4 X0 hx hby hZ hown (own_w hw 29 rfl) e0 F_c0_head d8_1 rfl ?_
  intro T200 X200 e200
  refine own_aload_n 5 X200 hx hby d8_4 rfl rfl rfl ?_
  refine own_getF 8 X200 hx hby hZ hown (own_w hw 23 rfl) e200 F_c0_end d8_5 rfl ?_
  intro T201 X201 e201
  refine own_icY 17 X201 hx hby d8_8 (by decide) (by decide) (by decide) ?_
  refine own_aload_n 18 X201 hx hby d8_17 rfl rfl rfl ?_
  refine own_getF 21 X201 hx hby hZ hown (own_w hw 14 rfl) e201 F_c0_lasts d8_18 rfl ?_
  intro T202 X202 e202
  refine own_aload_n 22 X202 hx hby d8_21 rfl rfl rfl ?_
  refine own_getF 25 X202 hx hby hZ hown (own_w hw 23 rfl) e202 F_c0_end d8_22 rfl ?_
  intro T203 X203 e203
  refine own_iconst 26 (1 : Int32) X203 hx hby d8_25 rfl (by decide) ?_
  refine own_isub 27 (1 : Int32) X203 hx hby d8_26 rfl (by decide) ?_
  refine own_laload 28 (.long y1) X203 hx hby hZ e203 V_c2 d8_27 rfl (by decide) rfl ?_
  exact own_ret (Q := own_Q (some (.long y1)) n0 h0) X203 hx hby hret hlk d8_28 rfl (Or.inr (Or.inl ⟨rfl, rfl, _, rfl⟩)) (by decide) (by decide) ⟨rfl, N0, e203⟩
set_option maxRecDepth 65536 in
set_option maxHeartbeats 40000000 in
theorem rm9_24 (l : Launch) (Z : State) (a0 : Array Value) (hw : ∀ d ∈ tables_1, d.before a0 Z = true) (ws : List Jvm.Cond) (w_NONE k_NONE : Addr) (W : own_W Z w_NONE k_NONE) (c0 : Addr) (c1 : Addr) (k_c1 : ClassId) (c2 : Addr) (k_c2 : ClassId) (c3 : Addr) (k_c3 : ClassId) (y0 : Int64) (y1 : Int64) (y2 : Int64) (y3 : Int64) (y4 : Int64) (h0 : Heap) (n0 : Nat) (O0 : Old Z n0 h0) (E_c0 : Exa Z h0 c0 "com/example/meter/meter/store/Spans") (F_c0_droppedTotal : Fld Z h0 c0 "com/example/meter/meter/store/Spans" "droppedTotal" "J" (.long (0 : Int64))) (F_c0_end : Fld Z h0 c0 "com/example/meter/meter/store/Spans" "end" "I" (.int (2 : Int32))) (F_c0_firsts : Fld Z h0 c0 "com/example/meter/meter/store/Spans" "firsts" "[J" (.ref c1)) (F_c0_head : Fld Z h0 c0 "com/example/meter/meter/store/Spans" "head" "I" (.int (0 : Int32))) (F_c0_lasts : Fld Z h0 c0 "com/example/meter/meter/store/Spans" "lasts" "[J" (.ref c2)) (F_c0_totals : Fld Z h0 c0 "com/example/meter/meter/store/Spans" "totals" "[J" (.ref c3)) (n_c0 : n0 ≤ c0) (V_c1 : Arv Z h0 c1 k_c1 .long (16 : Int32) [(.long y1), (.long y2), (.long (0 : Int64)), (.long (0 : Int64))] (.long (0 : Int64))) (n_c1 : n0 ≤ c1) (V_c2 : Arv Z h0 c2 k_c2 .long (16 : Int32) [(.long y1), (.long y2), (.long (0 : Int64)), (.long (0 : Int64))] (.long (0 : Int64))) (n_c2 : n0 ≤ c2) (V_c3 : Arv Z h0 c3 k_c3 .long (16 : Int32) [(.long y3), (.long y4), (.long (0 : Int64)), (.long (0 : Int64))] (.long (0 : Int64))) (n_c3 : n0 ≤ c3) (ne_c0_c1 : c0 ≠ c1) (ne_c0_c2 : c0 ≠ c2) (ne_c0_c3 : c0 ≠ c3) (ne_c1_c2 : c1 ≠ c2) (ne_c1_c3 : c1 ≠ c3) (ne_c2_c3 : c2 ≠ c3) (hc209 : y0 < y1) :
    MetFree l (⟨"com/example/meter/meter/store/Spans", "dropThrough", "(J)V"⟩ : MethodName) (head1 (Jvm.Cond.code (⟨"com/example/meter/meter/store/Spans", "dropThrough", "(J)V"⟩ : MethodName) prog_11_method_10_code 3 none :: ws) ({ frames := 0, cells := 0, slots := 0, locals := 0 } : Room)) (fun a U => a = #[(.ref c0), (.long y0)] ∧ Z.Warmed39 U.vm ∧ U.heap = h0) (fun _ _ _ _ _ => True) (fun _ U o U' => ∃ v L, o = .returned v ∧ own_Q none n0 h0 v U'.heap L ∧ FrameEnd U o U' L ({ frames := 0, cells := 0, slots := 0, locals := 0 } : Room).cells ({ frames := 0, cells := 0, slots := 0, locals := 0 } : Room).slots) := by
  refine MetFree.of_bodySF (plainFor_of_name pn_0) hisR ?_
  intro p e s m args below meth c s₁ Bd hml0 hP hK
  obtain ⟨rfl, hZ, hh⟩ := hP
  have hx := Bd.exec
  have hby := Bd.bytes
  have hml : c.maxLocals = 3 := hml0
  have hlk := BodyLoose.notSynchronized Bd
  have hret := Bd.returns
  have hown : s.vm.findClass "com/example/meter/meter/store/Spans" = some m.cls := findClass_of_methodNamed Bd.named
  have hnm := (name_of_methodNamed Bd.named Bd.method).1
  have X0 : Stand p l e ({ frames := 0, cells := 0, slots := 0, locals := 0 } : Room) s m #[(.ref c0), (.long y0)] below meth c s₁ [] 0 0 := Stand.of_body Bd
  have e0 : s₁.heap = h0 := by rw [← hh, Bd.state]; rfl
  have N0 := Fr.nil n0
  rw [ef_9 m c0 y0]
  show Go p e below _ (s₁.setTop (mkF m 0 #[oA c0, oJ y0, oS] []))
  refine own_aload_n 1 X0 hx hby d9_0 rfl rfl rfl ?_
  refine own_getF 4 X0 hx hby hZ hown (own_w hw 29 rfl) e0 F_c0_head d9_1 rfl ?_
  intro T205 X205 e205
  refine own_aload_n 5 X205 hx hby d9_4 rfl rfl rfl ?_
  refine own_getF 8 X205 hx hby hZ hown (own_w hw 23 rfl) e205 F_c0_end d9_5 rfl ?_
  intro T206 X206 e206
  refine own_icN 11 X206 hx hby d9_8 rfl (by decide) ?_
  refine own_aload_n 12 X206 hx hby d9_11 rfl rfl rfl ?_
  refine own_getF 15 X206 hx hby hZ hown (own_w hw 14 rfl) e206 F_c0_lasts d9_12 rfl ?_
  intro T207 X207 e207
  refine own_aload_n 16 X207 hx hby d9_15 rfl rfl rfl ?_
  refine own_getF 19 X207 hx hby hZ hown (own_w hw 29 rfl) e207 F_c0_head d9_16 rfl ?_
  intro T208 X208 e208
  refine own_laload 20 (.long y1) X208 hx hby hZ e208 V_c2 d9_19 rfl (by decide) rfl ?_
  refine own_lload_n 21 X208 hx hby d9_20 rfl rfl ?_
  refine own_lcmp 22 (XT.cmpL y1 y0) X208 hx hby d9_21 rfl rfl ?_
  refine own_ifY 51 X208 hx hby d9_22 (by decide) (by decide) (own_tltL hc209).2.2.1 ?_
  exact own_ret0 (Q := own_Q none n0 h0) X208 hx hby hret hlk d9_51 (by decide) (by decide) ⟨rfl, N0, e208⟩
def Q_rm9_25 (Z : State) (w_NONE k_NONE : Addr) (c0 : Addr) (c1 : Addr) (k_c1 : ClassId) (c2 : Addr) (k_c2 : ClassId) (c3 : Addr) (k_c3 : ClassId) (y0 : Int64) (y1 : Int64) (y2 : Int64) (y3 : Int64) (y4 : Int64) (h0 : Heap) (n0 : Nat) (v : Option Value) (h : Heap) (L : List Loc) : Prop := v = none ∧ Fr n0 L ∧ Keep h0 h [c0] ∧ Exa Z h c0 "com/example/meter/meter/store/Spans" ∧ Fld Z h c0 "com/example/meter/meter/store/Spans" "droppedTotal" "J" (.long y3) ∧ Fld Z h c0 "com/example/meter/meter/store/Spans" "end" "I" (.int (2 : Int32)) ∧ Fld Z h c0 "com/example/meter/meter/store/Spans" "firsts" "[J" (.ref c1) ∧ Fld Z h c0 "com/example/meter/meter/store/Spans" "head" "I" (.int (1 : Int32)) ∧ Fld Z h c0 "com/example/meter/meter/store/Spans" "lasts" "[J" (.ref c2) ∧ Fld Z h c0 "com/example/meter/meter/store/Spans" "totals" "[J" (.ref c3) ∧ Arv Z h c1 k_c1 .long (16 : Int32) [(.long y1), (.long y2), (.long (0 : Int64)), (.long (0 : Int64))] (.long (0 : Int64)) ∧ Arv Z h c2 k_c2 .long (16 : Int32) [(.long y1), (.long y2), (.long (0 : Int64)), (.long (0 : Int64))] (.long (0 : Int64)) ∧ Arv Z h c3 k_c3 .long (16 : Int32) [(.long y3), (.long y4), (.long (0 : Int64)), (.long (0 : Int64))] (.long (0 : Int64))
set_option maxRecDepth 65536 in
set_option maxHeartbeats 40000000 in
theorem rm9_25 (l : Launch) (Z : State) (a0 : Array Value) (hw : ∀ d ∈ tables_1, d.before a0 Z = true) (ws : List Jvm.Cond) (w_NONE k_NONE : Addr) (W : own_W Z w_NONE k_NONE) (c0 : Addr) (c1 : Addr) (k_c1 : ClassId) (c2 : Addr) (k_c2 : ClassId) (c3 : Addr) (k_c3 : ClassId) (y0 : Int64) (y1 : Int64) (y2 : Int64) (y3 : Int64) (y4 : Int64) (h0 : Heap) (n0 : Nat) (O0 : Old Z n0 h0) (E_c0 : Exa Z h0 c0 "com/example/meter/meter/store/Spans") (F_c0_droppedTotal : Fld Z h0 c0 "com/example/meter/meter/store/Spans" "droppedTotal" "J" (.long (0 : Int64))) (F_c0_end : Fld Z h0 c0 "com/example/meter/meter/store/Spans" "end" "I" (.int (2 : Int32))) (F_c0_firsts : Fld Z h0 c0 "com/example/meter/meter/store/Spans" "firsts" "[J" (.ref c1)) (F_c0_head : Fld Z h0 c0 "com/example/meter/meter/store/Spans" "head" "I" (.int (0 : Int32))) (F_c0_lasts : Fld Z h0 c0 "com/example/meter/meter/store/Spans" "lasts" "[J" (.ref c2)) (F_c0_totals : Fld Z h0 c0 "com/example/meter/meter/store/Spans" "totals" "[J" (.ref c3)) (n_c0 : n0 ≤ c0) (V_c1 : Arv Z h0 c1 k_c1 .long (16 : Int32) [(.long y1), (.long y2), (.long (0 : Int64)), (.long (0 : Int64))] (.long (0 : Int64))) (n_c1 : n0 ≤ c1) (V_c2 : Arv Z h0 c2 k_c2 .long (16 : Int32) [(.long y1), (.long y2), (.long (0 : Int64)), (.long (0 : Int64))] (.long (0 : Int64))) (n_c2 : n0 ≤ c2) (V_c3 : Arv Z h0 c3 k_c3 .long (16 : Int32) [(.long y3), (.long y4), (.long (0 : Int64)), (.long (0 : Int64))] (.long (0 : Int64))) (n_c3 : n0 ≤ c3) (ne_c0_c1 : c0 ≠ c1) (ne_c0_c2 : c0 ≠ c2) (ne_c0_c3 : c0 ≠ c3) (ne_c1_c2 : c1 ≠ c2) (ne_c1_c3 : c1 ≠ c3) (ne_c2_c3 : c2 ≠ c3) (hc209 : ¬ (y0 < y1)) (hc219 : y0 < y2) :
    MetFree l (⟨"com/example/meter/meter/store/Spans", "dropThrough", "(J)V"⟩ : MethodName) (head1 (Jvm.Cond.code (⟨"com/example/meter/meter/store/Spans", "dropThrough", "(J)V"⟩ : MethodName) prog_11_method_10_code 3 none :: ws) ({ frames := 0, cells := 0, slots := 0, locals := 0 } : Room)) (fun a U => a = #[(.ref c0), (.long y0)] ∧ Z.Warmed39 U.vm ∧ U.heap = h0) (fun _ _ _ _ _ => True) (fun _ U o U' => ∃ v L, o = .returned v ∧ Q_rm9_25 Z w_NONE k_NONE c0 c1 k_c1 c2 k_c2 c3 k_c3 y0 y1 y2 y3 y4 h0 n0 v U'.heap L ∧ FrameEnd U o U' L ({ frames := 0, cells := 0, slots := 0, locals := 0 } : Room).cells ({ frames := 0, cells := 0, slots := 0, locals := 0 } : Room).slots) := by
  refine MetFree.of_bodySF (plainFor_of_name pn_0) hisR ?_
  intro p e s m args below meth c s₁ Bd hml0 hP hK
  obtain ⟨rfl, hZ, hh⟩ := hP
  have hx := Bd.exec
  have hby := Bd.bytes
  have hml : c.maxLocals = 3 := hml0
  have hlk := BodyLoose.notSynchronized Bd
  have hret := Bd.returns
  have hown : s.vm.findClass "com/example/meter/meter/store/Spans" = some m.cls := findClass_of_methodNamed Bd.named
  have hnm := (name_of_methodNamed Bd.named Bd.method).1
  have X0 : Stand p l e ({ frames := 0, cells := 0, slots := 0, locals := 0 } : Room) s m #[(.ref c0), (.long y0)] below meth c s₁ [] 0 0 := Stand.of_body Bd
  have e0 : s₁.heap = h0 := by rw [← hh, Bd.state]; rfl
  have N0 := Fr.nil n0
  rw [ef_9 m c0 y0]
  show Go p e below _ (s₁.setTop (mkF m 0 #[oA c0, oJ y0, oS] []))
  refine own_aload_n 1 X0 hx hby d9_0 rfl rfl rfl ?_
  refine own_getF 4 X0 hx hby hZ hown (own_w hw 29 rfl) e0 F_c0_head d9_1 rfl ?_
  intro T205 X205 e205
  refine own_aload_n 5 X205 hx hby d9_4 rfl rfl rfl ?_
  refine own_getF 8 X205 hx hby hZ hown (own_w hw 23 rfl) e205 F_c0_end d9_5 rfl ?_
  intro T206 X206 e206
  refine own_icN 11 X206 hx hby d9_8 rfl (by decide) ?_
  refine own_aload_n 12 X206 hx hby d9_11 rfl rfl rfl ?_
  refine own_getF 15 X206 hx hby hZ hown (own_w hw 14 rfl) e206 F_c0_lasts d9_12 rfl ?_
  intro T207 X207 e207
  refine own_aload_n 16 X207 hx hby d9_15 rfl rfl rfl ?_
  refine own_getF 19 X207 hx hby hZ hown (own_w hw 29 rfl) e207 F_c0_head d9_16 rfl ?_
  intro T208 X208 e208
  refine own_laload 20 (.long y1) X208 hx hby hZ e208 V_c2 d9_19 rfl (by decide) rfl ?_
  refine own_lload_n 21 X208 hx hby d9_20 rfl rfl ?_
  refine own_lcmp 22 (XT.cmpL y1 y0) X208 hx hby d9_21 rfl rfl ?_
  refine own_ifN 25 X208 hx hby d9_22 rfl (own_fltL hc209).2.2.1 ?_
  refine own_aload_n 26 X208 hx hby d9_25 rfl rfl rfl ?_
  refine own_aload_n 27 X208 hx hby d9_26 rfl rfl rfl ?_
  refine own_getF 30 X208 hx hby hZ hown (own_w hw 16 rfl) e208 F_c0_totals d9_27 rfl ?_
  intro T210 X210 e210
  refine own_aload_n 31 X210 hx hby d9_30 rfl rfl rfl ?_
  refine own_getF 34 X210 hx hby hZ hown (own_w hw 29 rfl) e210 F_c0_head d9_31 rfl ?_
  intro T211 X211 e211
  refine own_laload 35 (.long y3) X211 hx hby hZ e211 V_c3 d9_34 rfl (by decide) rfl ?_
  refine own_putF 38 X211 hx hby hZ .long hown (own_w hw 48 rfl) e211 F_c0_droppedTotal E_c0 (Or.inl (own_w hw 49 rfl)) (own_w hw 2 rfl) (by decide) rfl rfl d9_35 rfl ?_
  intro T212 h212 X212 e212 W212
  have E_c0_212 := E_c0.wr W212
  have F_c0_droppedTotal_212 := F_c0_droppedTotal.same W212
  have F_c0_end_212 := F_c0_end.other W212 (Or.inr (slot_ne (Or.inl (own_w hw 24 rfl)) (Or.inl (own_w hw 49 rfl)) (by decide) (t := .int) (t' := .long) (by decide) (by decide)))
  have F_c0_firsts_212 := F_c0_firsts.other W212 (Or.inr (slot_ne (Or.inl (own_w hw 13 rfl)) (Or.inl (own_w hw 49 rfl)) (by decide) (t := (.array .long)) (t' := .long) (by decide) (by decide)))
  have F_c0_head_212 := F_c0_head.other W212 (Or.inr (slot_ne (Or.inl (own_w hw 30 rfl)) (Or.inl (own_w hw 49 rfl)) (by decide) (t := .int) (t' := .long) (by decide) (by decide)))
  have F_c0_lasts_212 := F_c0_lasts.other W212 (Or.inr (slot_ne (Or.inl (own_w hw 15 rfl)) (Or.inl (own_w hw 49 rfl)) (by decide) (t := (.array .long)) (t' := .long) (by decide) (by decide)))
  have F_c0_totals_212 := F_c0_totals.other W212 (Or.inr (slot_ne (Or.inl (own_w hw 17 rfl)) (Or.inl (own_w hw 49 rfl)) (by decide) (t := (.array .long)) (t' := .long) (by decide) (by decide)))
  have V_c1_212 := V_c1.other W212 (Ne.symm ne_c0_c1)
  have V_c2_212 := V_c2.other W212 (Ne.symm ne_c0_c2)
  have V_c3_212 := V_c3.other W212 (Ne.symm ne_c0_c3)
  have K212 : Keep h0 h212 [c0] := (Keep.refl h0 [c0]).wr W212 (Or.inl (List.mem_of_getElem? (i := 0) rfl))
  have O212 := O0.wr W212 n_c0
  have N212 := Fr.snoc X212 N0 n_c0
  refine own_aload_n 39 X212 hx hby d9_38 rfl rfl rfl ?_
  refine own_dup 40 X212 hx hby d9_39 rfl rfl ?_
  refine own_getF 43 X212 hx hby hZ hown (own_w hw 29 rfl) e212 F_c0_head_212 d9_40 rfl ?_
  intro T213 X213 e213
  refine own_iconst 44 (1 : Int32) X213 hx hby d9_43 rfl (by decide) ?_
  refine own_iadd 45 (1 : Int32) X213 hx hby d9_44 rfl (by decide) ?_
  refine own_putF 48 X213 hx hby hZ .int hown (own_w hw 29 rfl) e213 F_c0_head_212 E_c0_212 (Or.inl (own_w hw 30 rfl)) (own_w hw 2 rfl) (by decide) rfl rfl d9_45 rfl ?_
  intro T214 h214 X214 e214 W214
  have E_c0_214 := E_c0_212.wr W214
  have F_c0_droppedTotal_214 := F_c0_droppedTotal_212.other W214 (Or.inr (slot_ne (Or.inl (own_w hw 49 rfl)) (Or.inl (own_w hw 30 rfl)) (by decide) (t := .long) (t' := .int) (by decide) (by decide)))
  have F_c0_end_214 := F_c0_end_212.other W214 (Or.inr (slot_ne (Or.inl (own_w hw 24 rfl)) (Or.inl (own_w hw 30 rfl)) (by decide) (t := .int) (t' := .int) (by decide) (by decide)))
  have F_c0_firsts_214 := F_c0_firsts_212.other W214 (Or.inr (slot_ne (Or.inl (own_w hw 13 rfl)) (Or.inl (own_w hw 30 rfl)) (by decide) (t := (.array .long)) (t' := .int) (by decide) (by decide)))
  have F_c0_head_214 := F_c0_head_212.same W214
  have F_c0_lasts_214 := F_c0_lasts_212.other W214 (Or.inr (slot_ne (Or.inl (own_w hw 15 rfl)) (Or.inl (own_w hw 30 rfl)) (by decide) (t := (.array .long)) (t' := .int) (by decide) (by decide)))
  have F_c0_totals_214 := F_c0_totals_212.other W214 (Or.inr (slot_ne (Or.inl (own_w hw 17 rfl)) (Or.inl (own_w hw 30 rfl)) (by decide) (t := (.array .long)) (t' := .int) (by decide) (by decide)))
  have V_c1_214 := V_c1_212.other W214 (Ne.symm ne_c0_c1)
  have V_c2_214 := V_c2_212.other W214 (Ne.symm ne_c0_c2)
  have V_c3_214 := V_c3_212.other W214 (Ne.symm ne_c0_c3)
  have K214 : Keep h0 h214 [c0] := K212.wr W214 (Or.inl (List.mem_of_getElem? (i := 0) rfl))
  have O214 := O212.wr W214 n_c0
  have N214 := Fr.snoc X214 N212 n_c0
  refine own_goto 0 X214 hx hby d9_48 (by decide) (by decide) ?_
  refine own_aload_n 1 X214 hx hby d9_0 rfl rfl rfl ?_
  refine own_getF 4 X214 hx hby hZ hown (own_w hw 29 rfl) e214 F_c0_head_214 d9_1 rfl ?_
  intro T215 X215 e215
  refine own_aload_n 5 X215 hx hby d9_4 rfl rfl rfl ?_
  refine own_getF 8 X215 hx hby hZ hown (own_w hw 23 rfl) e215 F_c0_end_214 d9_5 rfl ?_
  intro T216 X216 e216
  refine own_icN 11 X216 hx hby d9_8 rfl (by decide) ?_
  refine own_aload_n 12 X216 hx hby d9_11 rfl rfl rfl ?_
  refine own_getF 15 X216 hx hby hZ hown (own_w hw 14 rfl) e216 F_c0_lasts_214 d9_12 rfl ?_
  intro T217 X217 e217
  refine own_aload_n 16 X217 hx hby d9_15 rfl rfl rfl ?_
  refine own_getF 19 X217 hx hby hZ hown (own_w hw 29 rfl) e217 F_c0_head_214 d9_16 rfl ?_
  intro T218 X218 e218
  refine own_laload 20 (.long y2) X218 hx hby hZ e218 V_c2_214 d9_19 rfl (by decide) rfl ?_
  refine own_lload_n 21 X218 hx hby d9_20 rfl rfl ?_
  refine own_lcmp 22 (XT.cmpL y2 y0) X218 hx hby d9_21 rfl rfl ?_
  refine own_ifY 51 X218 hx hby d9_22 (by decide) (by decide) (own_tltL hc219).2.2.1 ?_
  exact own_ret0 (Q := Q_rm9_25 Z w_NONE k_NONE c0 c1 k_c1 c2 k_c2 c3 k_c3 y0 y1 y2 y3 y4 h0 n0) X218 hx hby hret hlk d9_51 (by decide) (by decide) (by rw [e218]; exact ⟨rfl, N214, K214, E_c0_214, F_c0_droppedTotal_214, F_c0_end_214, F_c0_firsts_214, F_c0_head_214, F_c0_lasts_214, F_c0_totals_214, V_c1_214, V_c2_214, V_c3_214⟩)
def Q_rm9_26 (Z : State) (w_NONE k_NONE : Addr) (c0 : Addr) (c1 : Addr) (k_c1 : ClassId) (c2 : Addr) (k_c2 : ClassId) (c3 : Addr) (k_c3 : ClassId) (y0 : Int64) (y1 : Int64) (y2 : Int64) (y3 : Int64) (y4 : Int64) (h0 : Heap) (n0 : Nat) (v : Option Value) (h : Heap) (L : List Loc) : Prop := v = none ∧ Fr n0 L ∧ Keep h0 h [c0] ∧ Exa Z h c0 "com/example/meter/meter/store/Spans" ∧ Fld Z h c0 "com/example/meter/meter/store/Spans" "droppedTotal" "J" (.long y4) ∧ Fld Z h c0 "com/example/meter/meter/store/Spans" "end" "I" (.int (2 : Int32)) ∧ Fld Z h c0 "com/example/meter/meter/store/Spans" "firsts" "[J" (.ref c1) ∧ Fld Z h c0 "com/example/meter/meter/store/Spans" "head" "I" (.int (2 : Int32)) ∧ Fld Z h c0 "com/example/meter/meter/store/Spans" "lasts" "[J" (.ref c2) ∧ Fld Z h c0 "com/example/meter/meter/store/Spans" "totals" "[J" (.ref c3) ∧ Arv Z h c1 k_c1 .long (16 : Int32) [(.long y1), (.long y2), (.long (0 : Int64)), (.long (0 : Int64))] (.long (0 : Int64)) ∧ Arv Z h c2 k_c2 .long (16 : Int32) [(.long y1), (.long y2), (.long (0 : Int64)), (.long (0 : Int64))] (.long (0 : Int64)) ∧ Arv Z h c3 k_c3 .long (16 : Int32) [(.long y3), (.long y4), (.long (0 : Int64)), (.long (0 : Int64))] (.long (0 : Int64))
set_option maxRecDepth 65536 in
set_option maxHeartbeats 40000000 in
theorem rm9_26 (l : Launch) (Z : State) (a0 : Array Value) (hw : ∀ d ∈ tables_1, d.before a0 Z = true) (ws : List Jvm.Cond) (w_NONE k_NONE : Addr) (W : own_W Z w_NONE k_NONE) (c0 : Addr) (c1 : Addr) (k_c1 : ClassId) (c2 : Addr) (k_c2 : ClassId) (c3 : Addr) (k_c3 : ClassId) (y0 : Int64) (y1 : Int64) (y2 : Int64) (y3 : Int64) (y4 : Int64) (h0 : Heap) (n0 : Nat) (O0 : Old Z n0 h0) (E_c0 : Exa Z h0 c0 "com/example/meter/meter/store/Spans") (F_c0_droppedTotal : Fld Z h0 c0 "com/example/meter/meter/store/Spans" "droppedTotal" "J" (.long (0 : Int64))) (F_c0_end : Fld Z h0 c0 "com/example/meter/meter/store/Spans" "end" "I" (.int (2 : Int32))) (F_c0_firsts : Fld Z h0 c0 "com/example/meter/meter/store/Spans" "firsts" "[J" (.ref c1)) (F_c0_head : Fld Z h0 c0 "com/example/meter/meter/store/Spans" "head" "I" (.int (0 : Int32))) (F_c0_lasts : Fld Z h0 c0 "com/example/meter/meter/store/Spans" "lasts" "[J" (.ref c2)) (F_c0_totals : Fld Z h0 c0 "com/example/meter/meter/store/Spans" "totals" "[J" (.ref c3)) (n_c0 : n0 ≤ c0) (V_c1 : Arv Z h0 c1 k_c1 .long (16 : Int32) [(.long y1), (.long y2), (.long (0 : Int64)), (.long (0 : Int64))] (.long (0 : Int64))) (n_c1 : n0 ≤ c1) (V_c2 : Arv Z h0 c2 k_c2 .long (16 : Int32) [(.long y1), (.long y2), (.long (0 : Int64)), (.long (0 : Int64))] (.long (0 : Int64))) (n_c2 : n0 ≤ c2) (V_c3 : Arv Z h0 c3 k_c3 .long (16 : Int32) [(.long y3), (.long y4), (.long (0 : Int64)), (.long (0 : Int64))] (.long (0 : Int64))) (n_c3 : n0 ≤ c3) (ne_c0_c1 : c0 ≠ c1) (ne_c0_c2 : c0 ≠ c2) (ne_c0_c3 : c0 ≠ c3) (ne_c1_c2 : c1 ≠ c2) (ne_c1_c3 : c1 ≠ c3) (ne_c2_c3 : c2 ≠ c3) (hc209 : ¬ (y0 < y1)) (hc219 : ¬ (y0 < y2)) :
    MetFree l (⟨"com/example/meter/meter/store/Spans", "dropThrough", "(J)V"⟩ : MethodName) (head1 (Jvm.Cond.code (⟨"com/example/meter/meter/store/Spans", "dropThrough", "(J)V"⟩ : MethodName) prog_11_method_10_code 3 none :: ws) ({ frames := 0, cells := 0, slots := 0, locals := 0 } : Room)) (fun a U => a = #[(.ref c0), (.long y0)] ∧ Z.Warmed39 U.vm ∧ U.heap = h0) (fun _ _ _ _ _ => True) (fun _ U o U' => ∃ v L, o = .returned v ∧ Q_rm9_26 Z w_NONE k_NONE c0 c1 k_c1 c2 k_c2 c3 k_c3 y0 y1 y2 y3 y4 h0 n0 v U'.heap L ∧ FrameEnd U o U' L ({ frames := 0, cells := 0, slots := 0, locals := 0 } : Room).cells ({ frames := 0, cells := 0, slots := 0, locals := 0 } : Room).slots) := by
  refine MetFree.of_bodySF (plainFor_of_name pn_0) hisR ?_
  intro p e s m args below meth c s₁ Bd hml0 hP hK
  obtain ⟨rfl, hZ, hh⟩ := hP
  have hx := Bd.exec
  have hby := Bd.bytes
  have hml : c.maxLocals = 3 := hml0
  have hlk := BodyLoose.notSynchronized Bd
  have hret := Bd.returns
  have hown : s.vm.findClass "com/example/meter/meter/store/Spans" = some m.cls := findClass_of_methodNamed Bd.named
  have hnm := (name_of_methodNamed Bd.named Bd.method).1
  have X0 : Stand p l e ({ frames := 0, cells := 0, slots := 0, locals := 0 } : Room) s m #[(.ref c0), (.long y0)] below meth c s₁ [] 0 0 := Stand.of_body Bd
  have e0 : s₁.heap = h0 := by rw [← hh, Bd.state]; rfl
  have N0 := Fr.nil n0
  rw [ef_9 m c0 y0]
  show Go p e below _ (s₁.setTop (mkF m 0 #[oA c0, oJ y0, oS] []))
  refine own_aload_n 1 X0 hx hby d9_0 rfl rfl rfl ?_
  refine own_getF 4 X0 hx hby hZ hown (own_w hw 29 rfl) e0 F_c0_head d9_1 rfl ?_
  intro T205 X205 e205
  refine own_aload_n 5 X205 hx hby d9_4 rfl rfl rfl ?_
  refine own_getF 8 X205 hx hby hZ hown (own_w hw 23 rfl) e205 F_c0_end d9_5 rfl ?_
  intro T206 X206 e206
  refine own_icN 11 X206 hx hby d9_8 rfl (by decide) ?_
  refine own_aload_n 12 X206 hx hby d9_11 rfl rfl rfl ?_
  refine own_getF 15 X206 hx hby hZ hown (own_w hw 14 rfl) e206 F_c0_lasts d9_12 rfl ?_
  intro T207 X207 e207
  refine own_aload_n 16 X207 hx hby d9_15 rfl rfl rfl ?_
  refine own_getF 19 X207 hx hby hZ hown (own_w hw 29 rfl) e207 F_c0_head d9_16 rfl ?_
  intro T208 X208 e208
  refine own_laload 20 (.long y1) X208 hx hby hZ e208 V_c2 d9_19 rfl (by decide) rfl ?_
  refine own_lload_n 21 X208 hx hby d9_20 rfl rfl ?_
  refine own_lcmp 22 (XT.cmpL y1 y0) X208 hx hby d9_21 rfl rfl ?_
  refine own_ifN 25 X208 hx hby d9_22 rfl (own_fltL hc209).2.2.1 ?_
  refine own_aload_n 26 X208 hx hby d9_25 rfl rfl rfl ?_
  refine own_aload_n 27 X208 hx hby d9_26 rfl rfl rfl ?_
  refine own_getF 30 X208 hx hby hZ hown (own_w hw 16 rfl) e208 F_c0_totals d9_27 rfl ?_
  intro T210 X210 e210
  refine own_aload_n 31 X210 hx hby d9_30 rfl rfl rfl ?_
  refine own_getF 34 X210 hx hby hZ hown (own_w hw 29 rfl) e210 F_c0_head d9_31 rfl ?_
  intro T211 X211 e211
  refine own_laload 35 (.long y3) X211 hx hby hZ e211 V_c3 d9_34 rfl (by decide) rfl ?_
  refine own_putF 38 X211 hx hby hZ .long hown (own_w hw 48 rfl) e211 F_c0_droppedTotal E_c0 (Or.inl (own_w hw 49 rfl)) (own_w hw 2 rfl) (by decide) rfl rfl d9_35 rfl ?_
  intro T212 h212 X212 e212 W212
  have E_c0_212 := E_c0.wr W212
  have F_c0_droppedTotal_212 := F_c0_droppedTotal.same W212
  have F_c0_end_212 := F_c0_end.other W212 (Or.inr (slot_ne (Or.inl (own_w hw 24 rfl)) (Or.inl (own_w hw 49 rfl)) (by decide) (t := .int) (t' := .long) (by decide) (by decide)))
  have F_c0_firsts_212 := F_c0_firsts.other W212 (Or.inr (slot_ne (Or.inl (own_w hw 13 rfl)) (Or.inl (own_w hw 49 rfl)) (by decide) (t := (.array .long)) (t' := .long) (by decide) (by decide)))
  have F_c0_head_212 := F_c0_head.other W212 (Or.inr (slot_ne (Or.inl (own_w hw 30 rfl)) (Or.inl (own_w hw 49 rfl)) (by decide) (t := .int) (t' := .long) (by decide) (by decide)))
  have F_c0_lasts_212 := F_c0_lasts.other W212 (Or.inr (slot_ne (Or.inl (own_w hw 15 rfl)) (Or.inl (own_w hw 49 rfl)) (by decide) (t := (.array .long)) (t' := .long) (by decide) (by decide)))
  have F_c0_totals_212 := F_c0_totals.other W212 (Or.inr (slot_ne (Or.inl (own_w hw 17 rfl)) (Or.inl (own_w hw 49 rfl)) (by decide) (t := (.array .long)) (t' := .long) (by decide) (by decide)))
  have V_c1_212 := V_c1.other W212 (Ne.symm ne_c0_c1)
  have V_c2_212 := V_c2.other W212 (Ne.symm ne_c0_c2)
  have V_c3_212 := V_c3.other W212 (Ne.symm ne_c0_c3)
  have K212 : Keep h0 h212 [c0] := (Keep.refl h0 [c0]).wr W212 (Or.inl (List.mem_of_getElem? (i := 0) rfl))
  have O212 := O0.wr W212 n_c0
  have N212 := Fr.snoc X212 N0 n_c0
  refine own_aload_n 39 X212 hx hby d9_38 rfl rfl rfl ?_
  refine own_dup 40 X212 hx hby d9_39 rfl rfl ?_
  refine own_getF 43 X212 hx hby hZ hown (own_w hw 29 rfl) e212 F_c0_head_212 d9_40 rfl ?_
  intro T213 X213 e213
  refine own_iconst 44 (1 : Int32) X213 hx hby d9_43 rfl (by decide) ?_
  refine own_iadd 45 (1 : Int32) X213 hx hby d9_44 rfl (by decide) ?_
  refine own_putF 48 X213 hx hby hZ .int hown (own_w hw 29 rfl) e213 F_c0_head_212 E_c0_212 (Or.inl (own_w hw 30 rfl)) (own_w hw 2 rfl) (by decide) rfl rfl d9_45 rfl ?_
  intro T214 h214 X214 e214 W214
  have E_c0_214 := E_c0_212.wr W214
  have F_c0_droppedTotal_214 := F_c0_droppedTotal_212.other W214 (Or.inr (slot_ne (Or.inl (own_w hw 49 rfl)) (Or.inl (own_w hw 30 rfl)) (by decide) (t := .long) (t' := .int) (by decide) (by decide)))
  have F_c0_end_214 := F_c0_end_212.other W214 (Or.inr (slot_ne (Or.inl (own_w hw 24 rfl)) (Or.inl (own_w hw 30 rfl)) (by decide) (t := .int) (t' := .int) (by decide) (by decide)))
  have F_c0_firsts_214 := F_c0_firsts_212.other W214 (Or.inr (slot_ne (Or.inl (own_w hw 13 rfl)) (Or.inl (own_w hw 30 rfl)) (by decide) (t := (.array .long)) (t' := .int) (by decide) (by decide)))
  have F_c0_head_214 := F_c0_head_212.same W214
  have F_c0_lasts_214 := F_c0_lasts_212.other W214 (Or.inr (slot_ne (Or.inl (own_w hw 15 rfl)) (Or.inl (own_w hw 30 rfl)) (by decide) (t := (.array .long)) (t' := .int) (by decide) (by decide)))
  have F_c0_totals_214 := F_c0_totals_212.other W214 (Or.inr (slot_ne (Or.inl (own_w hw 17 rfl)) (Or.inl (own_w hw 30 rfl)) (by decide) (t := (.array .long)) (t' := .int) (by decide) (by decide)))
  have V_c1_214 := V_c1_212.other W214 (Ne.symm ne_c0_c1)
  have V_c2_214 := V_c2_212.other W214 (Ne.symm ne_c0_c2)
  have V_c3_214 := V_c3_212.other W214 (Ne.symm ne_c0_c3)
  have K214 : Keep h0 h214 [c0] := K212.wr W214 (Or.inl (List.mem_of_getElem? (i := 0) rfl))
  have O214 := O212.wr W214 n_c0
  have N214 := Fr.snoc X214 N212 n_c0
  refine own_goto 0 X214 hx hby d9_48 (by decide) (by decide) ?_
  refine own_aload_n 1 X214 hx hby d9_0 rfl rfl rfl ?_
  refine own_getF 4 X214 hx hby hZ hown (own_w hw 29 rfl) e214 F_c0_head_214 d9_1 rfl ?_
  intro T215 X215 e215
  refine own_aload_n 5 X215 hx hby d9_4 rfl rfl rfl ?_
  refine own_getF 8 X215 hx hby hZ hown (own_w hw 23 rfl) e215 F_c0_end_214 d9_5 rfl ?_
  intro T216 X216 e216
  refine own_icN 11 X216 hx hby d9_8 rfl (by decide) ?_
  refine own_aload_n 12 X216 hx hby d9_11 rfl rfl rfl ?_
  refine own_getF 15 X216 hx hby hZ hown (own_w hw 14 rfl) e216 F_c0_lasts_214 d9_12 rfl ?_
  intro T217 X217 e217
  refine own_aload_n 16 X217 hx hby d9_15 rfl rfl rfl ?_
  refine own_getF 19 X217 hx hby hZ hown (own_w hw 29 rfl) e217 F_c0_head_214 d9_16 rfl ?_
  intro T218 X218 e218
  refine own_laload 20 (.long y2) X218 hx hby hZ e218 V_c2_214 d9_19 rfl (by decide) rfl ?_
  refine own_lload_n 21 X218 hx hby d9_20 rfl rfl ?_
  refine own_lcmp 22 (XT.cmpL y2 y0) X218 hx hby d9_21 rfl rfl ?_
  refine own_ifN 25 X218 hx hby d9_22 rfl (own_fltL hc219).2.2.1 ?_
  refine own_aload_n 26 X218 hx hby d9_25 rfl rfl rfl ?_
  refine own_aload_n 27 X218 hx hby d9_26 rfl rfl rfl ?_
  refine own_getF 30 X218 hx hby hZ hown (own_w hw 16 rfl) e218 F_c0_totals_214 d9_27 rfl ?_
  intro T220 X220 e220
  refine own_aload_n 31 X220 hx hby d9_30 rfl rfl rfl ?_
  refine own_getF 34 X220 hx hby hZ hown (own_w hw 29 rfl) e220 F_c0_head_214 d9_31 rfl ?_
  intro T221 X221 e221
  refine own_laload 35 (.long y4) X221 hx hby hZ e221 V_c3_214 d9_34 rfl (by decide) rfl ?_
  refine own_putF 38 X221 hx hby hZ .long hown (own_w hw 48 rfl) e221 F_c0_droppedTotal_214 E_c0_214 (Or.inl (own_w hw 49 rfl)) (own_w hw 2 rfl) (by decide) rfl rfl d9_35 rfl ?_
  intro T222 h222 X222 e222 W222
  have E_c0_222 := E_c0_214.wr W222
  have F_c0_droppedTotal_222 := F_c0_droppedTotal_214.same W222
  have F_c0_end_222 := F_c0_end_214.other W222 (Or.inr (slot_ne (Or.inl (own_w hw 24 rfl)) (Or.inl (own_w hw 49 rfl)) (by decide) (t := .int) (t' := .long) (by decide) (by decide)))
  have F_c0_firsts_222 := F_c0_firsts_214.other W222 (Or.inr (slot_ne (Or.inl (own_w hw 13 rfl)) (Or.inl (own_w hw 49 rfl)) (by decide) (t := (.array .long)) (t' := .long) (by decide) (by decide)))
  have F_c0_head_222 := F_c0_head_214.other W222 (Or.inr (slot_ne (Or.inl (own_w hw 30 rfl)) (Or.inl (own_w hw 49 rfl)) (by decide) (t := .int) (t' := .long) (by decide) (by decide)))
  have F_c0_lasts_222 := F_c0_lasts_214.other W222 (Or.inr (slot_ne (Or.inl (own_w hw 15 rfl)) (Or.inl (own_w hw 49 rfl)) (by decide) (t := (.array .long)) (t' := .long) (by decide) (by decide)))
  have F_c0_totals_222 := F_c0_totals_214.other W222 (Or.inr (slot_ne (Or.inl (own_w hw 17 rfl)) (Or.inl (own_w hw 49 rfl)) (by decide) (t := (.array .long)) (t' := .long) (by decide) (by decide)))
  have V_c1_222 := V_c1_214.other W222 (Ne.symm ne_c0_c1)
  have V_c2_222 := V_c2_214.other W222 (Ne.symm ne_c0_c2)
  have V_c3_222 := V_c3_214.other W222 (Ne.symm ne_c0_c3)
  have K222 : Keep h0 h222 [c0] := K214.wr W222 (Or.inl (List.mem_of_getElem? (i := 0) rfl))
  have O222 := O214.wr W222 n_c0
  have N222 := Fr.snoc X222 N214 n_c0
  refine own_aload_n 39 X222 hx hby d9_38 rfl rfl rfl ?_
  refine own_dup 40 X222 hx hby d9_39 rfl rfl ?_
  refine own_getF 43 X222 hx hby hZ hown (own_w hw 29 rfl) e222 F_c0_head_222 d9_40 rfl ?_
  intro T223 X223 e223
  refine own_iconst 44 (1 : Int32) X223 hx hby d9_43 rfl (by decide) ?_
  refine own_iadd 45 (2 : Int32) X223 hx hby d9_44 rfl (by decide) ?_
  refine own_putF 48 X223 hx hby hZ .int hown (own_w hw 29 rfl) e223 F_c0_head_222 E_c0_222 (Or.inl (own_w hw 30 rfl)) (own_w hw 2 rfl) (by decide) rfl rfl d9_45 rfl ?_
  intro T224 h224 X224 e224 W224
  have E_c0_224 := E_c0_222.wr W224
  have F_c0_droppedTotal_224 := F_c0_droppedTotal_222.other W224 (Or.inr (slot_ne (Or.inl (own_w hw 49 rfl)) (Or.inl (own_w hw 30 rfl)) (by decide) (t := .long) (t' := .int) (by decide) (by decide)))
  have F_c0_end_224 := F_c0_end_222.other W224 (Or.inr (slot_ne (Or.inl (own_w hw 24 rfl)) (Or.inl (own_w hw 30 rfl)) (by decide) (t := .int) (t' := .int) (by decide) (by decide)))
  have F_c0_firsts_224 := F_c0_firsts_222.other W224 (Or.inr (slot_ne (Or.inl (own_w hw 13 rfl)) (Or.inl (own_w hw 30 rfl)) (by decide) (t := (.array .long)) (t' := .int) (by decide) (by decide)))
  have F_c0_head_224 := F_c0_head_222.same W224
  have F_c0_lasts_224 := F_c0_lasts_222.other W224 (Or.inr (slot_ne (Or.inl (own_w hw 15 rfl)) (Or.inl (own_w hw 30 rfl)) (by decide) (t := (.array .long)) (t' := .int) (by decide) (by decide)))
  have F_c0_totals_224 := F_c0_totals_222.other W224 (Or.inr (slot_ne (Or.inl (own_w hw 17 rfl)) (Or.inl (own_w hw 30 rfl)) (by decide) (t := (.array .long)) (t' := .int) (by decide) (by decide)))
  have V_c1_224 := V_c1_222.other W224 (Ne.symm ne_c0_c1)
  have V_c2_224 := V_c2_222.other W224 (Ne.symm ne_c0_c2)
  have V_c3_224 := V_c3_222.other W224 (Ne.symm ne_c0_c3)
  have K224 : Keep h0 h224 [c0] := K222.wr W224 (Or.inl (List.mem_of_getElem? (i := 0) rfl))
  have O224 := O222.wr W224 n_c0
  have N224 := Fr.snoc X224 N222 n_c0
  refine own_goto 0 X224 hx hby d9_48 (by decide) (by decide) ?_
  refine own_aload_n 1 X224 hx hby d9_0 rfl rfl rfl ?_
  refine own_getF 4 X224 hx hby hZ hown (own_w hw 29 rfl) e224 F_c0_head_224 d9_1 rfl ?_
  intro T225 X225 e225
  refine own_aload_n 5 X225 hx hby d9_4 rfl rfl rfl ?_
  refine own_getF 8 X225 hx hby hZ hown (own_w hw 23 rfl) e225 F_c0_end_224 d9_5 rfl ?_
  intro T226 X226 e226
  refine own_icY 51 X226 hx hby d9_8 (by decide) (by decide) (by decide) ?_
  exact own_ret0 (Q := Q_rm9_26 Z w_NONE k_NONE c0 c1 k_c1 c2 k_c2 c3 k_c3 y0 y1 y2 y3 y4 h0 n0) X226 hx hby hret hlk d9_51 (by decide) (by decide) (by rw [e226]; exact ⟨rfl, N224, K224, E_c0_224, F_c0_droppedTotal_224, F_c0_end_224, F_c0_firsts_224, F_c0_head_224, F_c0_lasts_224, F_c0_totals_224, V_c1_224, V_c2_224, V_c3_224⟩)
set_option maxRecDepth 65536 in
set_option maxHeartbeats 40000000 in
theorem rm8_27 (l : Launch) (Z : State) (a0 : Array Value) (hw : ∀ d ∈ tables_1, d.before a0 Z = true) (ws : List Jvm.Cond) (w_NONE k_NONE : Addr) (W : own_W Z w_NONE k_NONE) (c0 : Addr) (c1 : Addr) (k_c1 : ClassId) (c2 : Addr) (k_c2 : ClassId) (c3 : Addr) (k_c3 : ClassId) (y0 : Int64) (y1 : Int64) (y2 : Int64) (y3 : Int64) (h0 : Heap) (n0 : Nat) (O0 : Old Z n0 h0) (E_c0 : Exa Z h0 c0 "com/example/meter/meter/store/Spans") (F_c0_droppedTotal : Fld Z h0 c0 "com/example/meter/meter/store/Spans" "droppedTotal" "J" (.long y0)) (F_c0_end : Fld Z h0 c0 "com/example/meter/meter/store/Spans" "end" "I" (.int (2 : Int32))) (F_c0_firsts : Fld Z h0 c0 "com/example/meter/meter/store/Spans" "firsts" "[J" (.ref c1)) (F_c0_head : Fld Z h0 c0 "com/example/meter/meter/store/Spans" "head" "I" (.int (1 : Int32))) (F_c0_lasts : Fld Z h0 c0 "com/example/meter/meter/store/Spans" "lasts" "[J" (.ref c2)) (F_c0_totals : Fld Z h0 c0 "com/example/meter/meter/store/Spans" "totals" "[J" (.ref c3)) (n_c0 : n0 ≤ c0) (V_c1 : Arv Z h0 c1 k_c1 .long (16 : Int32) [(.long y1), (.long y2), (.long (0 : Int64)), (.long (0 : Int64))] (.long (0 : Int64))) (n_c1 : n0 ≤ c1) (V_c2 : Arv Z h0 c2 k_c2 .long (16 : Int32) [(.long y1), (.long y2), (.long (0 : Int64)), (.long (0 : Int64))] (.long (0 : Int64))) (n_c2 : n0 ≤ c2) (V_c3 : Arv Z h0 c3 k_c3 .long (16 : Int32) [(.long y0), (.long y3), (.long (0 : Int64)), (.long (0 : Int64))] (.long (0 : Int64))) (n_c3 : n0 ≤ c3) (ne_c0_c1 : c0 ≠ c1) (ne_c0_c2 : c0 ≠ c2) (ne_c0_c3 : c0 ≠ c3) (ne_c1_c2 : c1 ≠ c2) (ne_c1_c3 : c1 ≠ c3) (ne_c2_c3 : c2 ≠ c3) :
    MetFree l (⟨"com/example/meter/meter/store/Spans", "newestSecond", "()J"⟩ : MethodName) (head1 (Jvm.Cond.code (⟨"com/example/meter/meter/store/Spans", "newestSecond", "()J"⟩ : MethodName) prog_11_method_7_code 1 (some .long) :: ws) ({ frames := 0, cells := 0, slots := 0, locals := 0 } : Room)) (fun a U => a = #[(.ref c0)] ∧ Z.Warmed39 U.vm ∧ U.heap = h0) (fun _ _ _ _ _ => True) (fun _ U o U' => ∃ v L, o = .returned v ∧ own_Q (some (.long y2)) n0 h0 v U'.heap L ∧ FrameEnd U o U' L ({ frames := 0, cells := 0, slots := 0, locals := 0 } : Room).cells ({ frames := 0, cells := 0, slots := 0, locals := 0 } : Room).slots) := by
  refine MetFree.of_bodySF (plainFor_of_name pn_0) hisR ?_
  intro p e s m args below meth c s₁ Bd hml0 hP hK
  obtain ⟨rfl, hZ, hh⟩ := hP
  have hx := Bd.exec
  have hby := Bd.bytes
  have hml : c.maxLocals = 1 := hml0
  have hlk := BodyLoose.notSynchronized Bd
  have hret := Bd.returns
  have hown : s.vm.findClass "com/example/meter/meter/store/Spans" = some m.cls := findClass_of_methodNamed Bd.named
  have hnm := (name_of_methodNamed Bd.named Bd.method).1
  have X0 : Stand p l e ({ frames := 0, cells := 0, slots := 0, locals := 0 } : Room) s m #[(.ref c0)] below meth c s₁ [] 0 0 := Stand.of_body Bd
  have e0 : s₁.heap = h0 := by rw [← hh, Bd.state]; rfl
  have N0 := Fr.nil n0
  rw [ef_8 m c0]
  show Go p e below _ (s₁.setTop (mkF m 0 #[oA c0] []))
  refine own_aload_n 1 X0 hx hby d8_0 rfl rfl rfl ?_
  refine own_getF 4 X0 hx hby hZ hown (own_w hw 29 rfl) e0 F_c0_head d8_1 rfl ?_
  intro T239 X239 e239
  refine own_aload_n 5 X239 hx hby d8_4 rfl rfl rfl ?_
  refine own_getF 8 X239 hx hby hZ hown (own_w hw 23 rfl) e239 F_c0_end d8_5 rfl ?_
  intro T240 X240 e240
  refine own_icY 17 X240 hx hby d8_8 (by decide) (by decide) (by decide) ?_
  refine own_aload_n 18 X240 hx hby d8_17 rfl rfl rfl ?_
  refine own_getF 21 X240 hx hby hZ hown (own_w hw 14 rfl) e240 F_c0_lasts d8_18 rfl ?_
  intro T241 X241 e241
  refine own_aload_n 22 X241 hx hby d8_21 rfl rfl rfl ?_
  refine own_getF 25 X241 hx hby hZ hown (own_w hw 23 rfl) e241 F_c0_end d8_22 rfl ?_
  intro T242 X242 e242
  refine own_iconst 26 (1 : Int32) X242 hx hby d8_25 rfl (by decide) ?_
  refine own_isub 27 (1 : Int32) X242 hx hby d8_26 rfl (by decide) ?_
  refine own_laload 28 (.long y2) X242 hx hby hZ e242 V_c2 d8_27 rfl (by decide) rfl ?_
  exact own_ret (Q := own_Q (some (.long y2)) n0 h0) X242 hx hby hret hlk d8_28 rfl (Or.inr (Or.inl ⟨rfl, rfl, _, rfl⟩)) (by decide) (by decide) ⟨rfl, N0, e242⟩
def Q_rm10_28 (Z : State) (w_NONE k_NONE : Addr) (c0 : Addr) (c1 : Addr) (k_c1 : ClassId) (c2 : Addr) (k_c2 : ClassId) (c3 : Addr) (k_c3 : ClassId) (y0 : Int64) (y1 : Int64) (y2 : Int64) (y3 : Int64) (h0 : Heap) (n0 : Nat) (v : Option Value) (h : Heap) (L : List Loc) : Prop := v = none ∧ Fr n0 L ∧ Keep h0 h [c0] ∧ Exa Z h c0 "com/example/meter/meter/store/Spans" ∧ Fld Z h c0 "com/example/meter/meter/store/Spans" "droppedTotal" "J" (.long y0) ∧ Fld Z h c0 "com/example/meter/meter/store/Spans" "end" "I" (.int (2 : Int32)) ∧ Fld Z h c0 "com/example/meter/meter/store/Spans" "firsts" "[J" (.ref c1) ∧ Fld Z h c0 "com/example/meter/meter/store/Spans" "head" "I" (.int (1 : Int32)) ∧ Fld Z h c0 "com/example/meter/meter/store/Spans" "lasts" "[J" (.ref c2) ∧ Fld Z h c0 "com/example/meter/meter/store/Spans" "totals" "[J" (.ref c3) ∧ Arv Z h c1 k_c1 .long (16 : Int32) [(.long y1), (.long y2), (.long (0 : Int64)), (.long (0 : Int64))] (.long (0 : Int64)) ∧ Arv Z h c2 k_c2 .long (16 : Int32) [(.long y1), (.long y2), (.long (0 : Int64)), (.long (0 : Int64))] (.long (0 : Int64)) ∧ Arv Z h c3 k_c3 .long (16 : Int32) [(.long y0), (.long y3), (.long (0 : Int64)), (.long (0 : Int64))] (.long (0 : Int64))
set_option maxRecDepth 65536 in
set_option maxHeartbeats 40000000 in
theorem rm10_28 (l : Launch) (Z : State) (a0 : Array Value) (hw : ∀ d ∈ tables_1, d.before a0 Z = true) (ws : List Jvm.Cond) (w_NONE k_NONE : Addr) (W : own_W Z w_NONE k_NONE) (c0 : Addr) (c1 : Addr) (k_c1 : ClassId) (c2 : Addr) (k_c2 : ClassId) (c3 : Addr) (k_c3 : ClassId) (y0 : Int64) (y1 : Int64) (y2 : Int64) (y3 : Int64) (h0 : Heap) (n0 : Nat) (O0 : Old Z n0 h0) (E_c0 : Exa Z h0 c0 "com/example/meter/meter/store/Spans") (F_c0_droppedTotal : Fld Z h0 c0 "com/example/meter/meter/store/Spans" "droppedTotal" "J" (.long y0)) (F_c0_end : Fld Z h0 c0 "com/example/meter/meter/store/Spans" "end" "I" (.int (2 : Int32))) (F_c0_firsts : Fld Z h0 c0 "com/example/meter/meter/store/Spans" "firsts" "[J" (.ref c1)) (F_c0_head : Fld Z h0 c0 "com/example/meter/meter/store/Spans" "head" "I" (.int (1 : Int32))) (F_c0_lasts : Fld Z h0 c0 "com/example/meter/meter/store/Spans" "lasts" "[J" (.ref c2)) (F_c0_totals : Fld Z h0 c0 "com/example/meter/meter/store/Spans" "totals" "[J" (.ref c3)) (n_c0 : n0 ≤ c0) (V_c1 : Arv Z h0 c1 k_c1 .long (16 : Int32) [(.long y1), (.long y2), (.long (0 : Int64)), (.long (0 : Int64))] (.long (0 : Int64))) (n_c1 : n0 ≤ c1) (V_c2 : Arv Z h0 c2 k_c2 .long (16 : Int32) [(.long y1), (.long y2), (.long (0 : Int64)), (.long (0 : Int64))] (.long (0 : Int64))) (n_c2 : n0 ≤ c2) (V_c3 : Arv Z h0 c3 k_c3 .long (16 : Int32) [(.long y0), (.long y3), (.long (0 : Int64)), (.long (0 : Int64))] (.long (0 : Int64))) (n_c3 : n0 ≤ c3) (ne_c0_c1 : c0 ≠ c1) (ne_c0_c2 : c0 ≠ c2) (ne_c0_c3 : c0 ≠ c3) (ne_c1_c2 : c1 ≠ c2) (ne_c1_c3 : c1 ≠ c3) (ne_c2_c3 : c2 ≠ c3) :
    MetFree l (⟨"com/example/meter/meter/store/Spans", "join", "()V"⟩ : MethodName) (head1 (Jvm.Cond.code (⟨"com/example/meter/meter/store/Spans", "join", "()V"⟩ : MethodName) prog_11_method_12_code 9 none :: ws) ({ frames := 0, cells := 0, slots := 0, locals := 0 } : Room)) (fun a U => a = #[(.ref c0)] ∧ Z.Warmed39 U.vm ∧ U.heap = h0) (fun _ _ _ _ _ => True) (fun _ U o U' => ∃ v L, o = .returned v ∧ Q_rm10_28 Z w_NONE k_NONE c0 c1 k_c1 c2 k_c2 c3 k_c3 y0 y1 y2 y3 h0 n0 v U'.heap L ∧ FrameEnd U o U' L ({ frames := 0, cells := 0, slots := 0, locals := 0 } : Room).cells ({ frames := 0, cells := 0, slots := 0, locals := 0 } : Room).slots) := by
  refine MetFree.of_bodySF (plainFor_of_name pn_0) hisR ?_
  intro p e s m args below meth c s₁ Bd hml0 hP hK
  obtain ⟨rfl, hZ, hh⟩ := hP
  have hx := Bd.exec
  have hby := Bd.bytes
  have hml : c.maxLocals = 9 := hml0
  have hlk := BodyLoose.notSynchronized Bd
  have hret := Bd.returns
  have hown : s.vm.findClass "com/example/meter/meter/store/Spans" = some m.cls := findClass_of_methodNamed Bd.named
  have hnm := (name_of_methodNamed Bd.named Bd.method).1
  have X0 : Stand p l e ({ frames := 0, cells := 0, slots := 0, locals := 0 } : Room) s m #[(.ref c0)] below meth c s₁ [] 0 0 := Stand.of_body Bd
  have e0 : s₁.heap = h0 := by rw [← hh, Bd.state]; rfl
  have N0 := Fr.nil n0
  rw [ef_10 m c0]
  show Go p e below _ (s₁.setTop (mkF m 0 #[oA c0, oU, oU, oU, oU, oU, oU, oU, oU] []))
  refine own_aload_n 1 X0 hx hby d10_0 rfl rfl rfl ?_
  refine own_getF 4 X0 hx hby hZ hown (own_w hw 16 rfl) e0 F_c0_totals d10_1 rfl ?_
  intro T244 X244 e244
  refine own_aload_n 5 X244 hx hby d10_4 rfl rfl rfl ?_
  refine own_getF 8 X244 hx hby hZ hown (own_w hw 23 rfl) e244 F_c0_end d10_5 rfl ?_
  intro T245 X245 e245
  refine own_iconst 9 (1 : Int32) X245 hx hby d10_8 rfl (by decide) ?_
  refine own_isub 10 (1 : Int32) X245 hx hby d10_9 rfl (by decide) ?_
  refine own_laload 11 (.long y3) X245 hx hby hZ e245 V_c3 d10_10 rfl (by decide) rfl ?_
  refine own_lstore_n 12 #[oA c0, oJ y3, oS, oU, oU, oU, oU, oU, oU] X245 hx hby d10_11 rfl rfl ?_
  refine own_aload_n 13 X245 hx hby d10_12 rfl rfl rfl ?_
  refine own_getF 16 X245 hx hby hZ hown (own_w hw 23 rfl) e245 F_c0_end d10_13 rfl ?_
  intro T246 X246 e246
  refine own_iconst 17 (1 : Int32) X246 hx hby d10_16 rfl (by decide) ?_
  refine own_isub 18 (1 : Int32) X246 hx hby d10_17 rfl (by decide) ?_
  refine own_istore_n 19 #[oA c0, oJ y3, oS, oI (1 : Int32), oU, oU, oU, oU, oU] X246 hx hby d10_18 rfl rfl ?_
  refine own_aload_n 20 X246 hx hby d10_19 rfl rfl rfl ?_
  refine own_getF 23 X246 hx hby hZ hown (own_w hw 23 rfl) e246 F_c0_end d10_20 rfl ?_
  intro T247 X247 e247
  refine own_iconst 24 (2 : Int32) X247 hx hby d10_23 rfl (by decide) ?_
  refine own_isub 25 (0 : Int32) X247 hx hby d10_24 rfl (by decide) ?_
  refine own_istore 27 #[oA c0, oJ y3, oS, oI (1 : Int32), oI (0 : Int32), oU, oU, oU, oU] X247 hx hby d10_25 rfl rfl ?_
  refine own_iload 29 X247 hx hby d10_27 rfl rfl ?_
  refine own_aload_n 30 X247 hx hby d10_29 rfl rfl rfl ?_
  refine own_getF 33 X247 hx hby hZ hown (own_w hw 29 rfl) e247 F_c0_head d10_30 rfl ?_
  intro T248 X248 e248
  refine own_icY 136 X248 hx hby d10_33 (by decide) (by decide) (by decide) ?_
  refine own_aload_n 137 X248 hx hby d10_136 rfl rfl rfl ?_
  refine own_iload_n 138 X248 hx hby d10_137 rfl rfl ?_
  refine own_putF 141 X248 hx hby hZ .int hown (own_w hw 29 rfl) e248 F_c0_head E_c0 (Or.inl (own_w hw 30 rfl)) (own_w hw 2 rfl) (by decide) rfl rfl d10_138 rfl ?_
  intro T249 h249 X249 e249 W249
  have E_c0_249 := E_c0.wr W249
  have F_c0_droppedTotal_249 := F_c0_droppedTotal.other W249 (Or.inr (slot_ne (Or.inl (own_w hw 49 rfl)) (Or.inl (own_w hw 30 rfl)) (by decide) (t := .long) (t' := .int) (by decide) (by decide)))
  have F_c0_end_249 := F_c0_end.other W249 (Or.inr (slot_ne (Or.inl (own_w hw 24 rfl)) (Or.inl (own_w hw 30 rfl)) (by decide) (t := .int) (t' := .int) (by decide) (by decide)))
  have F_c0_firsts_249 := F_c0_firsts.other W249 (Or.inr (slot_ne (Or.inl (own_w hw 13 rfl)) (Or.inl (own_w hw 30 rfl)) (by decide) (t := (.array .long)) (t' := .int) (by decide) (by decide)))
  have F_c0_head_249 := F_c0_head.same W249
  have F_c0_lasts_249 := F_c0_lasts.other W249 (Or.inr (slot_ne (Or.inl (own_w hw 15 rfl)) (Or.inl (own_w hw 30 rfl)) (by decide) (t := (.array .long)) (t' := .int) (by decide) (by decide)))
  have F_c0_totals_249 := F_c0_totals.other W249 (Or.inr (slot_ne (Or.inl (own_w hw 17 rfl)) (Or.inl (own_w hw 30 rfl)) (by decide) (t := (.array .long)) (t' := .int) (by decide) (by decide)))
  have V_c1_249 := V_c1.other W249 (Ne.symm ne_c0_c1)
  have V_c2_249 := V_c2.other W249 (Ne.symm ne_c0_c2)
  have V_c3_249 := V_c3.other W249 (Ne.symm ne_c0_c3)
  have K249 : Keep h0 h249 [c0] := (Keep.refl h0 [c0]).wr W249 (Or.inl (List.mem_of_getElem? (i := 0) rfl))
  have O249 := O0.wr W249 n_c0
  have N249 := Fr.snoc X249 N0 n_c0
  exact own_ret0 (Q := Q_rm10_28 Z w_NONE k_NONE c0 c1 k_c1 c2 k_c2 c3 k_c3 y0 y1 y2 y3 h0 n0) X249 hx hby hret hlk d10_141 (by decide) (by decide) (by rw [e249]; exact ⟨rfl, N249, K249, E_c0_249, F_c0_droppedTotal_249, F_c0_end_249, F_c0_firsts_249, F_c0_head_249, F_c0_lasts_249, F_c0_totals_249, V_c1_249, V_c2_249, V_c3_249⟩)
set_option maxRecDepth 65536 in
set_option maxHeartbeats 40000000 in
theorem rm8_29 (l : Launch) (Z : State) (a0 : Array Value) (hw : ∀ d ∈ tables_1, d.before a0 Z = true) (ws : List Jvm.Cond) (w_NONE k_NONE : Addr) (W : own_W Z w_NONE k_NONE) (c0 : Addr) (c1 : Addr) (k_c1 : ClassId) (c2 : Addr) (k_c2 : ClassId) (c3 : Addr) (k_c3 : ClassId) (y0 : Int64) (y1 : Int64) (y2 : Int64) (y3 : Int64) (h0 : Heap) (n0 : Nat) (O0 : Old Z n0 h0) (E_c0 : Exa Z h0 c0 "com/example/meter/meter/store/Spans") (F_c0_droppedTotal : Fld Z h0 c0 "com/example/meter/meter/store/Spans" "droppedTotal" "J" (.long y0)) (F_c0_end : Fld Z h0 c0 "com/example/meter/meter/store/Spans" "end" "I" (.int (2 : Int32))) (F_c0_firsts : Fld Z h0 c0 "com/example/meter/meter/store/Spans" "firsts" "[J" (.ref c1)) (F_c0_head : Fld Z h0 c0 "com/example/meter/meter/store/Spans" "head" "I" (.int (2 : Int32))) (F_c0_lasts : Fld Z h0 c0 "com/example/meter/meter/store/Spans" "lasts" "[J" (.ref c2)) (F_c0_totals : Fld Z h0 c0 "com/example/meter/meter/store/Spans" "totals" "[J" (.ref c3)) (n_c0 : n0 ≤ c0) (V_c1 : Arv Z h0 c1 k_c1 .long (16 : Int32) [(.long y1), (.long y2), (.long (0 : Int64)), (.long (0 : Int64))] (.long (0 : Int64))) (n_c1 : n0 ≤ c1) (V_c2 : Arv Z h0 c2 k_c2 .long (16 : Int32) [(.long y1), (.long y2), (.long (0 : Int64)), (.long (0 : Int64))] (.long (0 : Int64))) (n_c2 : n0 ≤ c2) (V_c3 : Arv Z h0 c3 k_c3 .long (16 : Int32) [(.long y3), (.long y0), (.long (0 : Int64)), (.long (0 : Int64))] (.long (0 : Int64))) (n_c3 : n0 ≤ c3) (ne_c0_c1 : c0 ≠ c1) (ne_c0_c2 : c0 ≠ c2) (ne_c0_c3 : c0 ≠ c3) (ne_c1_c2 : c1 ≠ c2) (ne_c1_c3 : c1 ≠ c3) (ne_c2_c3 : c2 ≠ c3) :
    MetFree l (⟨"com/example/meter/meter/store/Spans", "newestSecond", "()J"⟩ : MethodName) (head1 (Jvm.Cond.code (⟨"com/example/meter/meter/store/Spans", "newestSecond", "()J"⟩ : MethodName) prog_11_method_7_code 1 (some .long) :: ws) ({ frames := 0, cells := 0, slots := 0, locals := 0 } : Room)) (fun a U => a = #[(.ref c0)] ∧ Z.Warmed39 U.vm ∧ U.heap = h0) (fun _ _ _ _ _ => True) (fun _ U o U' => ∃ v L, o = .returned v ∧ own_Q (some (.long (-1 : Int64))) n0 h0 v U'.heap L ∧ FrameEnd U o U' L ({ frames := 0, cells := 0, slots := 0, locals := 0 } : Room).cells ({ frames := 0, cells := 0, slots := 0, locals := 0 } : Room).slots) := by
  refine MetFree.of_bodySF (plainFor_of_name pn_0) hisR ?_
  intro p e s m args below meth c s₁ Bd hml0 hP hK
  obtain ⟨rfl, hZ, hh⟩ := hP
  have hx := Bd.exec
  have hby := Bd.bytes
  have hml : c.maxLocals = 1 := hml0
  have hlk := BodyLoose.notSynchronized Bd
  have hret := Bd.returns
  have hown : s.vm.findClass "com/example/meter/meter/store/Spans" = some m.cls := findClass_of_methodNamed Bd.named
  have hnm := (name_of_methodNamed Bd.named Bd.method).1
  have X0 : Stand p l e ({ frames := 0, cells := 0, slots := 0, locals := 0 } : Room) s m #[(.ref c0)] below meth c s₁ [] 0 0 := Stand.of_body Bd
  have e0 : s₁.heap = h0 := by rw [← hh, Bd.state]; rfl
  have N0 := Fr.nil n0
  rw [ef_8 m c0]
  show Go p e below _ (s₁.setTop (mkF m 0 #[oA c0] []))
  refine own_aload_n 1 X0 hx hby d8_0 rfl rfl rfl ?_
  refine own_getF 4 X0 hx hby hZ hown (own_w hw 29 rfl) e0 F_c0_head d8_1 rfl ?_
  intro T254 X254 e254
  refine own_aload_n 5 X254 hx hby d8_4 rfl rfl rfl ?_
  refine own_getF 8 X254 hx hby hZ hown (own_w hw 23 rfl) e254 F_c0_end d8_5 rfl ?_
  intro T255 X255 e255
  refine own_icN 11 X255 hx hby d8_8 rfl (by decide) ?_
  refine own_ldc2 14 X255 hx hby hZ hown (own_w hw 66 rfl) d8_11 rfl ?_
  refine own_goto 28 X255 hx hby d8_14 (by decide) (by decide) ?_
  exact own_ret (Q := own_Q (some (.long (-1 : Int64))) n0 h0) X255 hx hby hret hlk d8_28 rfl (Or.inr (Or.inl ⟨rfl, rfl, _, rfl⟩)) (by decide) (by decide) ⟨rfl, N0, e255⟩
set_option maxRecDepth 65536 in
set_option maxHeartbeats 40000000 in
theorem rm7_30 (l : Launch) (Z : State) (a0 : Array Value) (hw : ∀ d ∈ tables_1, d.before a0 Z = true) (ws : List Jvm.Cond) (w_NONE k_NONE : Addr) (W : own_W Z w_NONE k_NONE) (c0 : Addr) (c1 : Addr) (k_c1 : ClassId) (c2 : Addr) (k_c2 : ClassId) (c3 : Addr) (k_c3 : ClassId) (y0 : Int64) (y1 : Int64) (y2 : Int64) (y3 : Int64) (y4 : Int64) (h0 : Heap) (n0 : Nat) (O0 : Old Z n0 h0) (E_c0 : Exa Z h0 c0 "com/example/meter/meter/store/Spans") (F_c0_droppedTotal : Fld Z h0 c0 "com/example/meter/meter/store/Spans" "droppedTotal" "J" (.long (0 : Int64))) (F_c0_end : Fld Z h0 c0 "com/example/meter/meter/store/Spans" "end" "I" (.int (2 : Int32))) (F_c0_firsts : Fld Z h0 c0 "com/example/meter/meter/store/Spans" "firsts" "[J" (.ref c1)) (F_c0_head : Fld Z h0 c0 "com/example/meter/meter/store/Spans" "head" "I" (.int (0 : Int32))) (F_c0_lasts : Fld Z h0 c0 "com/example/meter/meter/store/Spans" "lasts" "[J" (.ref c2)) (F_c0_totals : Fld Z h0 c0 "com/example/meter/meter/store/Spans" "totals" "[J" (.ref c3)) (n_c0 : n0 ≤ c0) (V_c1 : Arv Z h0 c1 k_c1 .long (16 : Int32) [(.long y0), (.long y1), (.long y2), (.long (0 : Int64))] (.long (0 : Int64))) (n_c1 : n0 ≤ c1) (V_c2 : Arv Z h0 c2 k_c2 .long (16 : Int32) [(.long y0), (.long y1), (.long y2), (.long (0 : Int64))] (.long (0 : Int64))) (n_c2 : n0 ≤ c2) (V_c3 : Arv Z h0 c3 k_c3 .long (16 : Int32) [(.long y3), (.long y4), (.long (0 : Int64)), (.long (0 : Int64))] (.long (0 : Int64))) (n_c3 : n0 ≤ c3) (ne_c0_c1 : c0 ≠ c1) (ne_c0_c2 : c0 ≠ c2) (ne_c0_c3 : c0 ≠ c3) (ne_c1_c2 : c1 ≠ c2) (ne_c1_c3 : c1 ≠ c3) (ne_c2_c3 : c2 ≠ c3) :
    MetFree l (⟨"com/example/meter/meter/store/Spans", "totalBefore", "(I)J"⟩ : MethodName) (head1 (Jvm.Cond.code (⟨"com/example/meter/meter/store/Spans", "totalBefore", "(I)J"⟩ : MethodName) prog_11_method_14_code 2 (some .long) :: ws) ({ frames := 0, cells := 0, slots := 0, locals := 0 } : Room)) (fun a U => a = #[(.ref c0), (.int (2 : Int32))] ∧ Z.Warmed39 U.vm ∧ U.heap = h0) (fun _ _ _ _ _ => True) (fun _ U o U' => ∃ v L, o = .returned v ∧ own_Q (some (.long y4)) n0 h0 v U'.heap L ∧ FrameEnd U o U' L ({ frames := 0, cells := 0, slots := 0, locals := 0 } : Room).cells ({ frames := 0, cells := 0, slots := 0, locals := 0 } : Room).slots) := by
  refine MetFree.of_bodySF (plainFor_of_name pn_0) hisR ?_
  intro p e s m args below meth c s₁ Bd hml0 hP hK
  obtain ⟨rfl, hZ, hh⟩ := hP
  have hx := Bd.exec
  have hby := Bd.bytes
  have hml : c.maxLocals = 2 := hml0
  have hlk := BodyLoose.notSynchronized Bd
  have hret := Bd.returns
  have hown : s.vm.findClass "com/example/meter/meter/store/Spans" = some m.cls := findClass_of_methodNamed Bd.named
  have hnm := (name_of_methodNamed Bd.named Bd.method).1
  have X0 : Stand p l e ({ frames := 0, cells := 0, slots := 0, locals := 0 } : Room) s m #[(.ref c0), (.int (2 : Int32))] below meth c s₁ [] 0 0 := Stand.of_body Bd
  have e0 : s₁.heap = h0 := by rw [← hh, Bd.state]; rfl
  have N0 := Fr.nil n0
  rw [ef_7 m c0 (2 : Int32)]
  show Go p e below _ (s₁.setTop (mkF m 0 #[oA c0, oI (2 : Int32)] []))
  refine own_iload_n 1 X0 hx hby d7_0 rfl rfl ?_
  refine own_aload_n 2 X0 hx hby d7_1 rfl rfl rfl ?_
  refine own_getF 5 X0 hx hby hZ hown (own_w hw 29 rfl) e0 F_c0_head d7_2 rfl ?_
  intro T269 X269 e269
  refine own_icY 15 X269 hx hby d7_5 (by decide) (by decide) (by decide) ?_
  refine own_aload_n 16 X269 hx hby d7_15 rfl rfl rfl ?_
  refine own_getF 19 X269 hx hby hZ hown (own_w hw 16 rfl) e269 F_c0_totals d7_16 rfl ?_
  intro T270 X270 e270
  refine own_iload_n 20 X270 hx hby d7_19 rfl rfl ?_
  refine own_iconst 21 (1 : Int32) X270 hx hby d7_20 rfl (by decide) ?_
  refine own_isub 22 (1 : Int32) X270 hx hby d7_21 rfl (by decide) ?_
  refine own_laload 23 (.long y4) X270 hx hby hZ e270 V_c3 d7_22 rfl (by decide) rfl ?_
  exact own_ret (Q := own_Q (some (.long y4)) n0 h0) X270 hx hby hret hlk d7_23 rfl (Or.inr (Or.inl ⟨rfl, rfl, _, rfl⟩)) (by decide) (by decide) ⟨rfl, N0, e270⟩
def Q_rm3_31 (Z : State) (w_NONE k_NONE : Addr) (c0 : Addr) (c1 : Addr) (k_c1 : ClassId) (c2 : Addr) (k_c2 : ClassId) (c3 : Addr) (k_c3 : ClassId) (y0 : Int64) (y1 : Int64) (y2 : Int64) (y3 : Int64) (y4 : Int64) (y5 : Int64) (h0 : Heap) (n0 : Nat) (v : Option Value) (h : Heap) (L : List Loc) : Prop := v = none ∧ Fr n0 L ∧ Keep h0 h [c1, c2, c3, c0] ∧ Exa Z h c0 "com/example/meter/meter/store/Spans" ∧ Fld Z h c0 "com/example/meter/meter/store/Spans" "droppedTotal" "J" (.long (0 : Int64)) ∧ Fld Z h c0 "com/example/meter/meter/store/Spans" "end" "I" (.int (3 : Int32)) ∧ Fld Z h c0 "com/example/meter/meter/store/Spans" "firsts" "[J" (.ref c1) ∧ Fld Z h c0 "com/example/meter/meter/store/Spans" "head" "I" (.int (0 : Int32)) ∧ Fld Z h c0 "com/example/meter/meter/store/Spans" "lasts" "[J" (.ref c2) ∧ Fld Z h c0 "com/example/meter/meter/store/Spans" "totals" "[J" (.ref c3) ∧ Arv Z h c1 k_c1 .long (16 : Int32) [(.long y2), (.long y3), (.long y0), (.long (0 : Int64))] (.long (0 : Int64)) ∧ Arv Z h c2 k_c2 .long (16 : Int32) [(.long y2), (.long y3), (.long y0), (.long (0 : Int64))] (.long (0 : Int64)) ∧ Arv Z h c3 k_c3 .long (16 : Int32) [(.long y4), (.long y5), (.long (y5 + y1)), (.long (0 : Int64))] (.long (0 : Int64))
set_option maxRecDepth 65536 in
set_option maxHeartbeats 40000000 in
theorem rm3_31 (l : Launch) (Z : State) (a0 : Array Value) (hw : ∀ d ∈ tables_1, d.before a0 Z = true) (ws : List Jvm.Cond) (w_NONE k_NONE : Addr) (W : own_W Z w_NONE k_NONE) (c0 : Addr) (c1 : Addr) (k_c1 : ClassId) (c2 : Addr) (k_c2 : ClassId) (c3 : Addr) (k_c3 : ClassId) (y0 : Int64) (y1 : Int64) (y2 : Int64) (y3 : Int64) (y4 : Int64) (y5 : Int64) (h0 : Heap) (n0 : Nat) (O0 : Old Z n0 h0) (E_c0 : Exa Z h0 c0 "com/example/meter/meter/store/Spans") (F_c0_droppedTotal : Fld Z h0 c0 "com/example/meter/meter/store/Spans" "droppedTotal" "J" (.long (0 : Int64))) (F_c0_end : Fld Z h0 c0 "com/example/meter/meter/store/Spans" "end" "I" (.int (2 : Int32))) (F_c0_firsts : Fld Z h0 c0 "com/example/meter/meter/store/Spans" "firsts" "[J" (.ref c1)) (F_c0_head : Fld Z h0 c0 "com/example/meter/meter/store/Spans" "head" "I" (.int (0 : Int32))) (F_c0_lasts : Fld Z h0 c0 "com/example/meter/meter/store/Spans" "lasts" "[J" (.ref c2)) (F_c0_totals : Fld Z h0 c0 "com/example/meter/meter/store/Spans" "totals" "[J" (.ref c3)) (n_c0 : n0 ≤ c0) (V_c1 : Arv Z h0 c1 k_c1 .long (16 : Int32) [(.long y2), (.long y3), (.long (0 : Int64)), (.long (0 : Int64))] (.long (0 : Int64))) (n_c1 : n0 ≤ c1) (V_c2 : Arv Z h0 c2 k_c2 .long (16 : Int32) [(.long y2), (.long y3), (.long (0 : Int64)), (.long (0 : Int64))] (.long (0 : Int64))) (n_c2 : n0 ≤ c2) (V_c3 : Arv Z h0 c3 k_c3 .long (16 : Int32) [(.long y4), (.long y5), (.long (0 : Int64)), (.long (0 : Int64))] (.long (0 : Int64))) (n_c3 : n0 ≤ c3) (ne_c0_c1 : c0 ≠ c1) (ne_c0_c2 : c0 ≠ c2) (ne_c0_c3 : c0 ≠ c3) (ne_c1_c2 : c1 ≠ c2) (ne_c1_c3 : c1 ≠ c3) (ne_c2_c3 : c2 ≠ c3) :
    MetFree l (⟨"com/example/meter/meter/store/Spans", "append", "(JJ)V"⟩ : MethodName) (head1 (Jvm.Cond.code (⟨"com/example/meter/meter/store/Spans", "append", "(JJ)V"⟩ : MethodName) prog_11_method_9_code 5 none :: ws) ({ frames := 1, cells := 0, slots := 0, locals := 15 } : Room)) (fun a U => a = #[(.ref c0), (.long y0), (.long y1)] ∧ Z.Warmed39 U.vm ∧ U.heap = h0) (fun _ _ _ _ _ => True) (fun _ U o U' => ∃ v L, o = .returned v ∧ Q_rm3_31 Z w_NONE k_NONE c0 c1 k_c1 c2 k_c2 c3 k_c3 y0 y1 y2 y3 y4 y5 h0 n0 v U'.heap L ∧ FrameEnd U o U' L ({ frames := 1, cells := 0, slots := 0, locals := 15 } : Room).cells ({ frames := 1, cells := 0, slots := 0, locals := 15 } : Room).slots) := by
  refine MetFree.of_bodySF (plainFor_of_name pn_0) hisR ?_
  intro p e s m args below meth c s₁ Bd hml0 hP hK
  obtain ⟨rfl, hZ, hh⟩ := hP
  have hx := Bd.exec
  have hby := Bd.bytes
  have hml : c.maxLocals = 5 := hml0
  have hlk := BodyLoose.notSynchronized Bd
  have hret := Bd.returns
  have hown : s.vm.findClass "com/example/meter/meter/store/Spans" = some m.cls := findClass_of_methodNamed Bd.named
  have hnm := (name_of_methodNamed Bd.named Bd.method).1
  have X0 : Stand p l e ({ frames := 1, cells := 0, slots := 0, locals := 15 } : Room) s m #[(.ref c0), (.long y0), (.long y1)] below meth c s₁ [] 0 0 := Stand.of_body Bd
  have e0 : s₁.heap = h0 := by rw [← hh, Bd.state]; rfl
  have N0 := Fr.nil n0
  rw [ef_3 m c0 y0 y1]
  show Go p e below _ (s₁.setTop (mkF m 0 #[oA c0, oJ y0, oS, oJ y1, oS] []))
  refine own_aload_n 1 X0 hx hby d3_0 rfl rfl rfl ?_
  refine own_getF 4 X0 hx hby hZ hown (own_w hw 23 rfl) e0 F_c0_end d3_1 rfl ?_
  intro T258 X258 e258
  refine own_aload_n 5 X258 hx hby d3_4 rfl rfl rfl ?_
  refine own_getF 8 X258 hx hby hZ hown (own_w hw 14 rfl) e258 F_c0_lasts d3_5 rfl ?_
  intro T259 X259 e259
  refine own_len 9 X259 hx hby hZ e259 V_c2 d3_8 rfl ?_
  refine own_icY 16 X259 hx hby d3_9 (by decide) (by decide) (by decide) ?_
  refine own_aload_n 17 X259 hx hby d3_16 rfl rfl rfl ?_
  refine own_getF 20 X259 hx hby hZ hown (own_w hw 12 rfl) e259 F_c0_firsts d3_17 rfl ?_
  intro T260 X260 e260
  refine own_aload_n 21 X260 hx hby d3_20 rfl rfl rfl ?_
  refine own_getF 24 X260 hx hby hZ hown (own_w hw 23 rfl) e260 F_c0_end d3_21 rfl ?_
  intro T261 X261 e261
  refine own_lload_n 25 X261 hx hby d3_24 rfl rfl ?_
  refine own_stJ 26 2 X261 hx hby hZ e261 V_c1 d3_25 rfl (by decide) (by decide) (Nat.le_of_ble_eq_true rfl) ?_
  intro T262 h262 X262 e262 W262 V262
  have V262 : Arv Z h262 c1 k_c1 .long (16 : Int32) [(.long y2), (.long y3), (.long y0), (.long (0 : Int64))] (.long (0 : Int64)) := V262
  have E_c0_262 := E_c0.wr W262
  have F_c0_droppedTotal_262 := F_c0_droppedTotal.other W262 (Or.inl ne_c0_c1)
  have F_c0_end_262 := F_c0_end.other W262 (Or.inl ne_c0_c1)
  have F_c0_firsts_262 := F_c0_firsts.other W262 (Or.inl ne_c0_c1)
  have F_c0_head_262 := F_c0_head.other W262 (Or.inl ne_c0_c1)
  have F_c0_lasts_262 := F_c0_lasts.other W262 (Or.inl ne_c0_c1)
  have F_c0_totals_262 := F_c0_totals.other W262 (Or.inl ne_c0_c1)
  have V_c2_262 := V_c2.other W262 (Ne.symm ne_c1_c2)
  have V_c3_262 := V_c3.other W262 (Ne.symm ne_c1_c3)
  have K262 : Keep h0 h262 [c1, c2, c3, c0] := (Keep.refl h0 [c1, c2, c3, c0]).wr W262 (Or.inl (List.mem_of_getElem? (i := 0) rfl))
  have O262 := O0.wr W262 n_c1
  have N262 := Fr.snoc X262 N0 n_c1
  refine own_aload_n 27 X262 hx hby d3_26 rfl rfl rfl ?_
  refine own_getF 30 X262 hx hby hZ hown (own_w hw 14 rfl) e262 F_c0_lasts_262 d3_27 rfl ?_
  intro T263 X263 e263
  refine own_aload_n 31 X263 hx hby d3_30 rfl rfl rfl ?_
  refine own_getF 34 X263 hx hby hZ hown (own_w hw 23 rfl) e263 F_c0_end_262 d3_31 rfl ?_
  intro T264 X264 e264
  refine own_lload_n 35 X264 hx hby d3_34 rfl rfl ?_
  refine own_stJ 36 2 X264 hx hby hZ e264 V_c2_262 d3_35 rfl (by decide) (by decide) (Nat.le_of_ble_eq_true rfl) ?_
  intro T265 h265 X265 e265 W265 V265
  have V265 : Arv Z h265 c2 k_c2 .long (16 : Int32) [(.long y2), (.long y3), (.long y0), (.long (0 : Int64))] (.long (0 : Int64)) := V265
  have E_c0_265 := E_c0_262.wr W265
  have F_c0_droppedTotal_265 := F_c0_droppedTotal_262.other W265 (Or.inl ne_c0_c2)
  have F_c0_end_265 := F_c0_end_262.other W265 (Or.inl ne_c0_c2)
  have F_c0_firsts_265 := F_c0_firsts_262.other W265 (Or.inl ne_c0_c2)
  have F_c0_head_265 := F_c0_head_262.other W265 (Or.inl ne_c0_c2)
  have F_c0_lasts_265 := F_c0_lasts_262.other W265 (Or.inl ne_c0_c2)
  have F_c0_totals_265 := F_c0_totals_262.other W265 (Or.inl ne_c0_c2)
  have V_c1_265 := V262.other W265 ne_c1_c2
  have V_c3_265 := V_c3_262.other W265 (Ne.symm ne_c2_c3)
  have K265 : Keep h0 h265 [c1, c2, c3, c0] := K262.wr W265 (Or.inl (List.mem_of_getElem? (i := 1) rfl))
  have O265 := O262.wr W265 n_c2
  have N265 := Fr.snoc X265 N262 n_c2
  refine own_aload_n 37 X265 hx hby d3_36 rfl rfl rfl ?_
  refine own_getF 40 X265 hx hby hZ hown (own_w hw 16 rfl) e265 F_c0_totals_265 d3_37 rfl ?_
  intro T266 X266 e266
  refine own_aload_n 41 X266 hx hby d3_40 rfl rfl rfl ?_
  refine own_getF 44 X266 hx hby hZ hown (own_w hw 23 rfl) e266 F_c0_end_265 d3_41 rfl ?_
  intro T267 X267 e267
  refine own_aload_n 45 X267 hx hby d3_44 rfl rfl rfl ?_
  refine own_aload_n 46 X267 hx hby d3_45 rfl rfl rfl ?_
  refine own_getF 49 X267 hx hby hZ hown (own_w hw 23 rfl) e267 F_c0_end_265 d3_46 rfl ?_
  intro T268 X268 e268
  refine own_priv (W := 2) 52 (rm7_30 l Z a0 hw [] w_NONE k_NONE W c0 c1 k_c1 c2 k_c2 c3 k_c3 y2 y3 y0 y4 y5 h265 n0 O265 E_c0_265 F_c0_droppedTotal_265 F_c0_end_265 F_c0_firsts_265 F_c0_head_265 F_c0_lasts_265 F_c0_totals_265 n_c0 V_c1_265 n_c1 V265 n_c2 V_c3_265 n_c3 ne_c0_c1 ne_c0_c2 ne_c0_c3 ne_c1_c2 ne_c1_c3 ne_c2_c3) X268 hx hby hZ hown (own_w hw 44 rfl) (own_w hw 45 rfl) (own_w hw 46 rfl) (own_w hw 21 rfl) (own_w hw 3 rfl) (own_w hw 47 rfl) rfl (by decide) (by rw [hml]; rfl) c0 [(.int (2 : Int32))] [(.int (2 : Int32)), (.ref c3)] pd_5 rfl d3_49 rfl e268 E_c0_265 rfl rfl rfl (by decide) (by decide) (by decide) (by decide) ?_
  rintro _ T271 L271 X271 ⟨rfl, N271, e271⟩
  have N271 := Fr.app N265 N271
  show Go p e below _ (T271.setTop (mkF m 52 _ [(.long y5), (.int (2 : Int32)), (.ref c3)]))
  refine own_lload_n 53 X271 hx hby d3_52 rfl rfl ?_
  refine own_ladd 54 (y5 + y1) X271 hx hby d3_53 rfl rfl ?_
  refine own_stJ 55 2 X271 hx hby hZ e271 V_c3_265 d3_54 rfl (by decide) (by decide) (Nat.le_of_ble_eq_true rfl) ?_
  intro T272 h272 X272 e272 W272 V272
  have V272 : Arv Z h272 c3 k_c3 .long (16 : Int32) [(.long y4), (.long y5), (.long (y5 + y1)), (.long (0 : Int64))] (.long (0 : Int64)) := V272
  have E_c0_272 := E_c0_265.wr W272
  have F_c0_droppedTotal_272 := F_c0_droppedTotal_265.other W272 (Or.inl ne_c0_c3)
  have F_c0_end_272 := F_c0_end_265.other W272 (Or.inl ne_c0_c3)
  have F_c0_firsts_272 := F_c0_firsts_265.other W272 (Or.inl ne_c0_c3)
  have F_c0_head_272 := F_c0_head_265.other W272 (Or.inl ne_c0_c3)
  have F_c0_lasts_272 := F_c0_lasts_265.other W272 (Or.inl ne_c0_c3)
  have F_c0_totals_272 := F_c0_totals_265.other W272 (Or.inl ne_c0_c3)
  have V_c1_272 := V_c1_265.other W272 ne_c1_c3
  have V_c2_272 := V265.other W272 ne_c2_c3
  have K272 : Keep h0 h272 [c1, c2, c3, c0] := K265.wr W272 (Or.inl (List.mem_of_getElem? (i := 2) rfl))
  have O272 := O265.wr W272 n_c3
  have N272 := Fr.snoc X272 N271 n_c3
  refine own_aload_n 56 X272 hx hby d3_55 rfl rfl rfl ?_
  refine own_dup 57 X272 hx hby d3_56 rfl rfl ?_
  refine own_getF 60 X272 hx hby hZ hown (own_w hw 23 rfl) e272 F_c0_end_272 d3_57 rfl ?_
  intro T273 X273 e273
  refine own_iconst 61 (1 : Int32) X273 hx hby d3_60 rfl (by decide) ?_
  refine own_iadd 62 (3 : Int32) X273 hx hby d3_61 rfl (by decide) ?_
  refine own_putF 65 X273 hx hby hZ .int hown (own_w hw 23 rfl) e273 F_c0_end_272 E_c0_272 (Or.inl (own_w hw 24 rfl)) (own_w hw 2 rfl) (by decide) rfl rfl d3_62 rfl ?_
  intro T274 h274 X274 e274 W274
  have E_c0_274 := E_c0_272.wr W274
  have F_c0_droppedTotal_274 := F_c0_droppedTotal_272.other W274 (Or.inr (slot_ne (Or.inl (own_w hw 49 rfl)) (Or.inl (own_w hw 24 rfl)) (by decide) (t := .long) (t' := .int) (by decide) (by decide)))
  have F_c0_end_274 := F_c0_end_272.same W274
  have F_c0_firsts_274 := F_c0_firsts_272.other W274 (Or.inr (slot_ne (Or.inl (own_w hw 13 rfl)) (Or.inl (own_w hw 24 rfl)) (by decide) (t := (.array .long)) (t' := .int) (by decide) (by decide)))
  have F_c0_head_274 := F_c0_head_272.other W274 (Or.inr (slot_ne (Or.inl (own_w hw 30 rfl)) (Or.inl (own_w hw 24 rfl)) (by decide) (t := .int) (t' := .int) (by decide) (by decide)))
  have F_c0_lasts_274 := F_c0_lasts_272.other W274 (Or.inr (slot_ne (Or.inl (own_w hw 15 rfl)) (Or.inl (own_w hw 24 rfl)) (by decide) (t := (.array .long)) (t' := .int) (by decide) (by decide)))
  have F_c0_totals_274 := F_c0_totals_272.other W274 (Or.inr (slot_ne (Or.inl (own_w hw 17 rfl)) (Or.inl (own_w hw 24 rfl)) (by decide) (t := (.array .long)) (t' := .int) (by decide) (by decide)))
  have V_c1_274 := V_c1_272.other W274 (Ne.symm ne_c0_c1)
  have V_c2_274 := V_c2_272.other W274 (Ne.symm ne_c0_c2)
  have V_c3_274 := V272.other W274 (Ne.symm ne_c0_c3)
  have K274 : Keep h0 h274 [c1, c2, c3, c0] := K272.wr W274 (Or.inl (List.mem_of_getElem? (i := 3) rfl))
  have O274 := O272.wr W274 n_c0
  have N274 := Fr.snoc X274 N272 n_c0
  exact own_ret0 (Q := Q_rm3_31 Z w_NONE k_NONE c0 c1 k_c1 c2 k_c2 c3 k_c3 y0 y1 y2 y3 y4 y5 h0 n0) X274 hx hby hret hlk d3_65 (by decide) (by decide) (by rw [e274]; exact ⟨rfl, N274, K274, E_c0_274, F_c0_droppedTotal_274, F_c0_end_274, F_c0_firsts_274, F_c0_head_274, F_c0_lasts_274, F_c0_totals_274, V_c1_274, V_c2_274, V_c3_274⟩)
set_option maxRecDepth 65536 in
set_option maxHeartbeats 40000000 in
theorem rm8_32 (l : Launch) (Z : State) (a0 : Array Value) (hw : ∀ d ∈ tables_1, d.before a0 Z = true) (ws : List Jvm.Cond) (w_NONE k_NONE : Addr) (W : own_W Z w_NONE k_NONE) (c0 : Addr) (c1 : Addr) (k_c1 : ClassId) (c2 : Addr) (k_c2 : ClassId) (c3 : Addr) (k_c3 : ClassId) (y0 : Int64) (y1 : Int64) (y2 : Int64) (y3 : Int64) (y4 : Int64) (y5 : Int64) (h0 : Heap) (n0 : Nat) (O0 : Old Z n0 h0) (E_c0 : Exa Z h0 c0 "com/example/meter/meter/store/Spans") (F_c0_droppedTotal : Fld Z h0 c0 "com/example/meter/meter/store/Spans" "droppedTotal" "J" (.long (0 : Int64))) (F_c0_end : Fld Z h0 c0 "com/example/meter/meter/store/Spans" "end" "I" (.int (3 : Int32))) (F_c0_firsts : Fld Z h0 c0 "com/example/meter/meter/store/Spans" "firsts" "[J" (.ref c1)) (F_c0_head : Fld Z h0 c0 "com/example/meter/meter/store/Spans" "head" "I" (.int (0 : Int32))) (F_c0_lasts : Fld Z h0 c0 "com/example/meter/meter/store/Spans" "lasts" "[J" (.ref c2)) (F_c0_totals : Fld Z h0 c0 "com/example/meter/meter/store/Spans" "totals" "[J" (.ref c3)) (n_c0 : n0 ≤ c0) (V_c1 : Arv Z h0 c1 k_c1 .long (16 : Int32) [(.long y0), (.long y1), (.long y2), (.long (0 : Int64))] (.long (0 : Int64))) (n_c1 : n0 ≤ c1) (V_c2 : Arv Z h0 c2 k_c2 .long (16 : Int32) [(.long y0), (.long y1), (.long y2), (.long (0 : Int64))] (.long (0 : Int64))) (n_c2 : n0 ≤ c2) (V_c3 : Arv Z h0 c3 k_c3 .long (16 : Int32) [(.long y3), (.long y4), (.long y5), (.long (0 : Int64))] (.long (0 : Int64))) (n_c3 : n0 ≤ c3) (ne_c0_c1 : c0 ≠ c1) (ne_c0_c2 : c0 ≠ c2) (ne_c0_c3 : c0 ≠ c3) (ne_c1_c2 : c1 ≠ c2) (ne_c1_c3 : c1 ≠ c3) (ne_c2_c3 : c2 ≠ c3) :
    MetFree l (⟨"com/example/meter/meter/store/Spans", "newestSecond", "()J"⟩ : MethodName) (head1 (Jvm.Cond.code (⟨"com/example/meter/meter/store/Spans", "newestSecond", "()J"⟩ : MethodName) prog_11_method_7_code 1 (some .long) :: ws) ({ frames := 0, cells := 0, slots := 0, locals := 0 } : Room)) (fun a U => a = #[(.ref c0)] ∧ Z.Warmed39 U.vm ∧ U.heap = h0) (fun _ _ _ _ _ => True) (fun _ U o U' => ∃ v L, o = .returned v ∧ own_Q (some (.long y2)) n0 h0 v U'.heap L ∧ FrameEnd U o U' L ({ frames := 0, cells := 0, slots := 0, locals := 0 } : Room).cells ({ frames := 0, cells := 0, slots := 0, locals := 0 } : Room).slots) := by
  refine MetFree.of_bodySF (plainFor_of_name pn_0) hisR ?_
  intro p e s m args below meth c s₁ Bd hml0 hP hK
  obtain ⟨rfl, hZ, hh⟩ := hP
  have hx := Bd.exec
  have hby := Bd.bytes
  have hml : c.maxLocals = 1 := hml0
  have hlk := BodyLoose.notSynchronized Bd
  have hret := Bd.returns
  have hown : s.vm.findClass "com/example/meter/meter/store/Spans" = some m.cls := findClass_of_methodNamed Bd.named
  have hnm := (name_of_methodNamed Bd.named Bd.method).1
  have X0 : Stand p l e ({ frames := 0, cells := 0, slots := 0, locals := 0 } : Room) s m #[(.ref c0)] below meth c s₁ [] 0 0 := Stand.of_body Bd
  have e0 : s₁.heap = h0 := by rw [← hh, Bd.state]; rfl
  have N0 := Fr.nil n0
  rw [ef_8 m c0]
  show Go p e below _ (s₁.setTop (mkF m 0 #[oA c0] []))
  refine own_aload_n 1 X0 hx hby d8_0 rfl rfl rfl ?_
  refine own_getF 4 X0 hx hby hZ hown (own_w hw 29 rfl) e0 F_c0_head d8_1 rfl ?_
  intro T276 X276 e276
  refine own_aload_n 5 X276 hx hby d8_4 rfl rfl rfl ?_
  refine own_getF 8 X276 hx hby hZ hown (own_w hw 23 rfl) e276 F_c0_end d8_5 rfl ?_
  intro T277 X277 e277
  refine own_icY 17 X277 hx hby d8_8 (by decide) (by decide) (by decide) ?_
  refine own_aload_n 18 X277 hx hby d8_17 rfl rfl rfl ?_
  refine own_getF 21 X277 hx hby hZ hown (own_w hw 14 rfl) e277 F_c0_lasts d8_18 rfl ?_
  intro T278 X278 e278
  refine own_aload_n 22 X278 hx hby d8_21 rfl rfl rfl ?_
  refine own_getF 25 X278 hx hby hZ hown (own_w hw 23 rfl) e278 F_c0_end d8_22 rfl ?_
  intro T279 X279 e279
  refine own_iconst 26 (1 : Int32) X279 hx hby d8_25 rfl (by decide) ?_
  refine own_isub 27 (2 : Int32) X279 hx hby d8_26 rfl (by decide) ?_
  refine own_laload 28 (.long y2) X279 hx hby hZ e279 V_c2 d8_27 rfl (by decide) rfl ?_
  exact own_ret (Q := own_Q (some (.long y2)) n0 h0) X279 hx hby hret hlk d8_28 rfl (Or.inr (Or.inl ⟨rfl, rfl, _, rfl⟩)) (by decide) (by decide) ⟨rfl, N0, e279⟩
set_option maxRecDepth 65536 in
set_option maxHeartbeats 40000000 in
theorem rm7_33 (l : Launch) (Z : State) (a0 : Array Value) (hw : ∀ d ∈ tables_1, d.before a0 Z = true) (ws : List Jvm.Cond) (w_NONE k_NONE : Addr) (W : own_W Z w_NONE k_NONE) (c0 : Addr) (c1 : Addr) (k_c1 : ClassId) (c2 : Addr) (k_c2 : ClassId) (c3 : Addr) (k_c3 : ClassId) (y0 : Int64) (y1 : Int64) (y2 : Int64) (y3 : Int64) (y4 : Int64) (y5 : Int64) (h0 : Heap) (n0 : Nat) (O0 : Old Z n0 h0) (E_c0 : Exa Z h0 c0 "com/example/meter/meter/store/Spans") (F_c0_droppedTotal : Fld Z h0 c0 "com/example/meter/meter/store/Spans" "droppedTotal" "J" (.long (0 : Int64))) (F_c0_end : Fld Z h0 c0 "com/example/meter/meter/store/Spans" "end" "I" (.int (3 : Int32))) (F_c0_firsts : Fld Z h0 c0 "com/example/meter/meter/store/Spans" "firsts" "[J" (.ref c1)) (F_c0_head : Fld Z h0 c0 "com/example/meter/meter/store/Spans" "head" "I" (.int (0 : Int32))) (F_c0_lasts : Fld Z h0 c0 "com/example/meter/meter/store/Spans" "lasts" "[J" (.ref c2)) (F_c0_totals : Fld Z h0 c0 "com/example/meter/meter/store/Spans" "totals" "[J" (.ref c3)) (n_c0 : n0 ≤ c0) (V_c1 : Arv Z h0 c1 k_c1 .long (16 : Int32) [(.long y0), (.long y1), (.long y2), (.long (0 : Int64))] (.long (0 : Int64))) (n_c1 : n0 ≤ c1) (V_c2 : Arv Z h0 c2 k_c2 .long (16 : Int32) [(.long y0), (.long y1), (.long y2), (.long (0 : Int64))] (.long (0 : Int64))) (n_c2 : n0 ≤ c2) (V_c3 : Arv Z h0 c3 k_c3 .long (16 : Int32) [(.long y3), (.long y4), (.long y5), (.long (0 : Int64))] (.long (0 : Int64))) (n_c3 : n0 ≤ c3) (ne_c0_c1 : c0 ≠ c1) (ne_c0_c2 : c0 ≠ c2) (ne_c0_c3 : c0 ≠ c3) (ne_c1_c2 : c1 ≠ c2) (ne_c1_c3 : c1 ≠ c3) (ne_c2_c3 : c2 ≠ c3) :
    MetFree l (⟨"com/example/meter/meter/store/Spans", "totalBefore", "(I)J"⟩ : MethodName) (head1 (Jvm.Cond.code (⟨"com/example/meter/meter/store/Spans", "totalBefore", "(I)J"⟩ : MethodName) prog_11_method_14_code 2 (some .long) :: ws) ({ frames := 0, cells := 0, slots := 0, locals := 0 } : Room)) (fun a U => a = #[(.ref c0), (.int (1 : Int32))] ∧ Z.Warmed39 U.vm ∧ U.heap = h0) (fun _ _ _ _ _ => True) (fun _ U o U' => ∃ v L, o = .returned v ∧ own_Q (some (.long y3)) n0 h0 v U'.heap L ∧ FrameEnd U o U' L ({ frames := 0, cells := 0, slots := 0, locals := 0 } : Room).cells ({ frames := 0, cells := 0, slots := 0, locals := 0 } : Room).slots) := by
  refine MetFree.of_bodySF (plainFor_of_name pn_0) hisR ?_
  intro p e s m args below meth c s₁ Bd hml0 hP hK
  obtain ⟨rfl, hZ, hh⟩ := hP
  have hx := Bd.exec
  have hby := Bd.bytes
  have hml : c.maxLocals = 2 := hml0
  have hlk := BodyLoose.notSynchronized Bd
  have hret := Bd.returns
  have hown : s.vm.findClass "com/example/meter/meter/store/Spans" = some m.cls := findClass_of_methodNamed Bd.named
  have hnm := (name_of_methodNamed Bd.named Bd.method).1
  have X0 : Stand p l e ({ frames := 0, cells := 0, slots := 0, locals := 0 } : Room) s m #[(.ref c0), (.int (1 : Int32))] below meth c s₁ [] 0 0 := Stand.of_body Bd
  have e0 : s₁.heap = h0 := by rw [← hh, Bd.state]; rfl
  have N0 := Fr.nil n0
  rw [ef_7 m c0 (1 : Int32)]
  show Go p e below _ (s₁.setTop (mkF m 0 #[oA c0, oI (1 : Int32)] []))
  refine own_iload_n 1 X0 hx hby d7_0 rfl rfl ?_
  refine own_aload_n 2 X0 hx hby d7_1 rfl rfl rfl ?_
  refine own_getF 5 X0 hx hby hZ hown (own_w hw 29 rfl) e0 F_c0_head d7_2 rfl ?_
  intro T290 X290 e290
  refine own_icY 15 X290 hx hby d7_5 (by decide) (by decide) (by decide) ?_
  refine own_aload_n 16 X290 hx hby d7_15 rfl rfl rfl ?_
  refine own_getF 19 X290 hx hby hZ hown (own_w hw 16 rfl) e290 F_c0_totals d7_16 rfl ?_
  intro T291 X291 e291
  refine own_iload_n 20 X291 hx hby d7_19 rfl rfl ?_
  refine own_iconst 21 (1 : Int32) X291 hx hby d7_20 rfl (by decide) ?_
  refine own_isub 22 (0 : Int32) X291 hx hby d7_21 rfl (by decide) ?_
  refine own_laload 23 (.long y3) X291 hx hby hZ e291 V_c3 d7_22 rfl (by decide) rfl ?_
  exact own_ret (Q := own_Q (some (.long y3)) n0 h0) X291 hx hby hret hlk d7_23 rfl (Or.inr (Or.inl ⟨rfl, rfl, _, rfl⟩)) (by decide) (by decide) ⟨rfl, N0, e291⟩
set_option maxRecDepth 65536 in
set_option maxHeartbeats 40000000 in
theorem rm7_34 (l : Launch) (Z : State) (a0 : Array Value) (hw : ∀ d ∈ tables_1, d.before a0 Z = true) (ws : List Jvm.Cond) (w_NONE k_NONE : Addr) (W : own_W Z w_NONE k_NONE) (c0 : Addr) (c1 : Addr) (k_c1 : ClassId) (c2 : Addr) (k_c2 : ClassId) (c3 : Addr) (k_c3 : ClassId) (y0 : Int64) (y1 : Int64) (y2 : Int64) (y3 : Int64) (y4 : Int64) (y5 : Int64) (h0 : Heap) (n0 : Nat) (O0 : Old Z n0 h0) (E_c0 : Exa Z h0 c0 "com/example/meter/meter/store/Spans") (F_c0_droppedTotal : Fld Z h0 c0 "com/example/meter/meter/store/Spans" "droppedTotal" "J" (.long (0 : Int64))) (F_c0_end : Fld Z h0 c0 "com/example/meter/meter/store/Spans" "end" "I" (.int (3 : Int32))) (F_c0_firsts : Fld Z h0 c0 "com/example/meter/meter/store/Spans" "firsts" "[J" (.ref c1)) (F_c0_head : Fld Z h0 c0 "com/example/meter/meter/store/Spans" "head" "I" (.int (0 : Int32))) (F_c0_lasts : Fld Z h0 c0 "com/example/meter/meter/store/Spans" "lasts" "[J" (.ref c2)) (F_c0_totals : Fld Z h0 c0 "com/example/meter/meter/store/Spans" "totals" "[J" (.ref c3)) (n_c0 : n0 ≤ c0) (V_c1 : Arv Z h0 c1 k_c1 .long (16 : Int32) [(.long y0), (.long y1), (.long y2), (.long (0 : Int64))] (.long (0 : Int64))) (n_c1 : n0 ≤ c1) (V_c2 : Arv Z h0 c2 k_c2 .long (16 : Int32) [(.long y0), (.long y1), (.long y2), (.long (0 : Int64))] (.long (0 : Int64))) (n_c2 : n0 ≤ c2) (V_c3 : Arv Z h0 c3 k_c3 .long (16 : Int32) [(.long y3), (.long y4), (.long y5), (.long (0 : Int64))] (.long (0 : Int64))) (n_c3 : n0 ≤ c3) (ne_c0_c1 : c0 ≠ c1) (ne_c0_c2 : c0 ≠ c2) (ne_c0_c3 : c0 ≠ c3) (ne_c1_c2 : c1 ≠ c2) (ne_c1_c3 : c1 ≠ c3) (ne_c2_c3 : c2 ≠ c3) :
    MetFree l (⟨"com/example/meter/meter/store/Spans", "totalBefore", "(I)J"⟩ : MethodName) (head1 (Jvm.Cond.code (⟨"com/example/meter/meter/store/Spans", "totalBefore", "(I)J"⟩ : MethodName) prog_11_method_14_code 2 (some .long) :: ws) ({ frames := 0, cells := 0, slots := 0, locals := 0 } : Room)) (fun a U => a = #[(.ref c0), (.int (0 : Int32))] ∧ Z.Warmed39 U.vm ∧ U.heap = h0) (fun _ _ _ _ _ => True) (fun _ U o U' => ∃ v L, o = .returned v ∧ own_Q (some (.long (0 : Int64))) n0 h0 v U'.heap L ∧ FrameEnd U o U' L ({ frames := 0, cells := 0, slots := 0, locals := 0 } : Room).cells ({ frames := 0, cells := 0, slots := 0, locals := 0 } : Room).slots) := by
  refine MetFree.of_bodySF (plainFor_of_name pn_0) hisR ?_
  intro p e s m args below meth c s₁ Bd hml0 hP hK
  obtain ⟨rfl, hZ, hh⟩ := hP
  have hx := Bd.exec
  have hby := Bd.bytes
  have hml : c.maxLocals = 2 := hml0
  have hlk := BodyLoose.notSynchronized Bd
  have hret := Bd.returns
  have hown : s.vm.findClass "com/example/meter/meter/store/Spans" = some m.cls := findClass_of_methodNamed Bd.named
  have hnm := (name_of_methodNamed Bd.named Bd.method).1
  have X0 : Stand p l e ({ frames := 0, cells := 0, slots := 0, locals := 0 } : Room) s m #[(.ref c0), (.int (0 : Int32))] below meth c s₁ [] 0 0 := Stand.of_body Bd
  have e0 : s₁.heap = h0 := by rw [← hh, Bd.state]; rfl
  have N0 := Fr.nil n0
  rw [ef_7 m c0 (0 : Int32)]
  show Go p e below _ (s₁.setTop (mkF m 0 #[oA c0, oI (0 : Int32)] []))
  refine own_iload_n 1 X0 hx hby d7_0 rfl rfl ?_
  refine own_aload_n 2 X0 hx hby d7_1 rfl rfl rfl ?_
  refine own_getF 5 X0 hx hby hZ hown (own_w hw 29 rfl) e0 F_c0_head d7_2 rfl ?_
  intro T307 X307 e307
  refine own_icN 8 X307 hx hby d7_5 rfl (by decide) ?_
  refine own_aload_n 9 X307 hx hby d7_8 rfl rfl rfl ?_
  refine own_getF 12 X307 hx hby hZ hown (own_w hw 48 rfl) e307 F_c0_droppedTotal d7_9 rfl ?_
  intro T308 X308 e308
  refine own_goto 23 X308 hx hby d7_12 (by decide) (by decide) ?_
  exact own_ret (Q := own_Q (some (.long (0 : Int64))) n0 h0) X308 hx hby hret hlk d7_23 rfl (Or.inr (Or.inl ⟨rfl, rfl, _, rfl⟩)) (by decide) (by decide) ⟨rfl, N0, e308⟩
def Q_rm10_35 (Z : State) (w_NONE k_NONE : Addr) (c0 : Addr) (c1 : Addr) (k_c1 : ClassId) (c2 : Addr) (k_c2 : ClassId) (c3 : Addr) (k_c3 : ClassId) (y0 : Int64) (y1 : Int64) (y2 : Int64) (y3 : Int64) (y4 : Int64) (y5 : Int64) (h0 : Heap) (n0 : Nat) (v : Option Value) (h : Heap) (L : List Loc) : Prop := v = none ∧ Fr n0 L ∧ Keep h0 h [c1, c2, c3, c0] ∧ Exa Z h c0 "com/example/meter/meter/store/Spans" ∧ Fld Z h c0 "com/example/meter/meter/store/Spans" "droppedTotal" "J" (.long (0 : Int64)) ∧ Fld Z h c0 "com/example/meter/meter/store/Spans" "end" "I" (.int (3 : Int32)) ∧ Fld Z h c0 "com/example/meter/meter/store/Spans" "firsts" "[J" (.ref c1) ∧ Fld Z h c0 "com/example/meter/meter/store/Spans" "head" "I" (.int (0 : Int32)) ∧ Fld Z h c0 "com/example/meter/meter/store/Spans" "lasts" "[J" (.ref c2) ∧ Fld Z h c0 "com/example/meter/meter/store/Spans" "totals" "[J" (.ref c3) ∧ Arv Z h c1 k_c1 .long (16 : Int32) [(.long y0), (.long y1), (.long y2), (.long (0 : Int64))] (.long (0 : Int64)) ∧ Arv Z h c2 k_c2 .long (16 : Int32) [(.long y0), (.long y1), (.long y2), (.long (0 : Int64))] (.long (0 : Int64)) ∧ Arv Z h c3 k_c3 .long (16 : Int32) [(.long y3), (.long y4), (.long y5), (.long (0 : Int64))] (.long (0 : Int64))
set_option maxRecDepth 65536 in
set_option maxHeartbeats 40000000 in
theorem rm10_35 (l : Launch) (Z : State) (a0 : Array Value) (hw : ∀ d ∈ tables_1, d.before a0 Z = true) (ws : List Jvm.Cond) (w_NONE k_NONE : Addr) (W : own_W Z w_NONE k_NONE) (c0 : Addr) (c1 : Addr) (k_c1 : ClassId) (c2 : Addr) (k_c2 : ClassId) (c3 : Addr) (k_c3 : ClassId) (y0 : Int64) (y1 : Int64) (y2 : Int64) (y3 : Int64) (y4 : Int64) (y5 : Int64) (h0 : Heap) (n0 : Nat) (O0 : Old Z n0 h0) (E_c0 : Exa Z h0 c0 "com/example/meter/meter/store/Spans") (F_c0_droppedTotal : Fld Z h0 c0 "com/example/meter/meter/store/Spans" "droppedTotal" "J" (.long (0 : Int64))) (F_c0_end : Fld Z h0 c0 "com/example/meter/meter/store/Spans" "end" "I" (.int (3 : Int32))) (F_c0_firsts : Fld Z h0 c0 "com/example/meter/meter/store/Spans" "firsts" "[J" (.ref c1)) (F_c0_head : Fld Z h0 c0 "com/example/meter/meter/store/Spans" "head" "I" (.int (0 : Int32))) (F_c0_lasts : Fld Z h0 c0 "com/example/meter/meter/store/Spans" "lasts" "[J" (.ref c2)) (F_c0_totals : Fld Z h0 c0 "com/example/meter/meter/store/Spans" "totals" "[J" (.ref c3)) (n_c0 : n0 ≤ c0) (V_c1 : Arv Z h0 c1 k_c1 .long (16 : Int32) [(.long y0), (.long y1), (.long y2), (.long (0 : Int64))] (.long (0 : Int64))) (n_c1 : n0 ≤ c1) (V_c2 : Arv Z h0 c2 k_c2 .long (16 : Int32) [(.long y0), (.long y1), (.long y2), (.long (0 : Int64))] (.long (0 : Int64))) (n_c2 : n0 ≤ c2) (V_c3 : Arv Z h0 c3 k_c3 .long (16 : Int32) [(.long y3), (.long y4), (.long y5), (.long (0 : Int64))] (.long (0 : Int64))) (n_c3 : n0 ≤ c3) (ne_c0_c1 : c0 ≠ c1) (ne_c0_c2 : c0 ≠ c2) (ne_c0_c3 : c0 ≠ c3) (ne_c1_c2 : c1 ≠ c2) (ne_c1_c3 : c1 ≠ c3) (ne_c2_c3 : c2 ≠ c3) (hc295 : (((2 : Int64) * ((y5 - y5) / (100 : Int64))) + (2 : Int64)) < (y5 - y3)) (hc312 : (((2 : Int64) * ((y5 - y4) / (100 : Int64))) + (2 : Int64)) < (y4 - (0 : Int64))) :
    MetFree l (⟨"com/example/meter/meter/store/Spans", "join", "()V"⟩ : MethodName) (head1 (Jvm.Cond.code (⟨"com/example/meter/meter/store/Spans", "join", "()V"⟩ : MethodName) prog_11_method_12_code 9 none :: ws) ({ frames := 1, cells := 0, slots := 0, locals := 15 } : Room)) (fun a U => a = #[(.ref c0)] ∧ Z.Warmed39 U.vm ∧ U.heap = h0) (fun _ _ _ _ _ => True) (fun _ U o U' => ∃ v L, o = .returned v ∧ Q_rm10_35 Z w_NONE k_NONE c0 c1 k_c1 c2 k_c2 c3 k_c3 y0 y1 y2 y3 y4 y5 h0 n0 v U'.heap L ∧ FrameEnd U o U' L ({ frames := 1, cells := 0, slots := 0, locals := 15 } : Room).cells ({ frames := 1, cells := 0, slots := 0, locals := 15 } : Room).slots) := by
  refine MetFree.of_bodySF (plainFor_of_name pn_0) hisR ?_
  intro p e s m args below meth c s₁ Bd hml0 hP hK
  obtain ⟨rfl, hZ, hh⟩ := hP
  have hx := Bd.exec
  have hby := Bd.bytes
  have hml : c.maxLocals = 9 := hml0
  have hlk := BodyLoose.notSynchronized Bd
  have hret := Bd.returns
  have hown : s.vm.findClass "com/example/meter/meter/store/Spans" = some m.cls := findClass_of_methodNamed Bd.named
  have hnm := (name_of_methodNamed Bd.named Bd.method).1
  have X0 : Stand p l e ({ frames := 1, cells := 0, slots := 0, locals := 15 } : Room) s m #[(.ref c0)] below meth c s₁ [] 0 0 := Stand.of_body Bd
  have e0 : s₁.heap = h0 := by rw [← hh, Bd.state]; rfl
  have N0 := Fr.nil n0
  rw [ef_10 m c0]
  show Go p e below _ (s₁.setTop (mkF m 0 #[oA c0, oU, oU, oU, oU, oU, oU, oU, oU] []))
  refine own_aload_n 1 X0 hx hby d10_0 rfl rfl rfl ?_
  refine own_getF 4 X0 hx hby hZ hown (own_w hw 16 rfl) e0 F_c0_totals d10_1 rfl ?_
  intro T284 X284 e284
  refine own_aload_n 5 X284 hx hby d10_4 rfl rfl rfl ?_
  refine own_getF 8 X284 hx hby hZ hown (own_w hw 23 rfl) e284 F_c0_end d10_5 rfl ?_
  intro T285 X285 e285
  refine own_iconst 9 (1 : Int32) X285 hx hby d10_8 rfl (by decide) ?_
  refine own_isub 10 (2 : Int32) X285 hx hby d10_9 rfl (by decide) ?_
  refine own_laload 11 (.long y5) X285 hx hby hZ e285 V_c3 d10_10 rfl (by decide) rfl ?_
  refine own_lstore_n 12 #[oA c0, oJ y5, oS, oU, oU, oU, oU, oU, oU] X285 hx hby d10_11 rfl rfl ?_
  refine own_aload_n 13 X285 hx hby d10_12 rfl rfl rfl ?_
  refine own_getF 16 X285 hx hby hZ hown (own_w hw 23 rfl) e285 F_c0_end d10_13 rfl ?_
  intro T286 X286 e286
  refine own_iconst 17 (1 : Int32) X286 hx hby d10_16 rfl (by decide) ?_
  refine own_isub 18 (2 : Int32) X286 hx hby d10_17 rfl (by decide) ?_
  refine own_istore_n 19 #[oA c0, oJ y5, oS, oI (2 : Int32), oU, oU, oU, oU, oU] X286 hx hby d10_18 rfl rfl ?_
  refine own_aload_n 20 X286 hx hby d10_19 rfl rfl rfl ?_
  refine own_getF 23 X286 hx hby hZ hown (own_w hw 23 rfl) e286 F_c0_end d10_20 rfl ?_
  intro T287 X287 e287
  refine own_iconst 24 (2 : Int32) X287 hx hby d10_23 rfl (by decide) ?_
  refine own_isub 25 (1 : Int32) X287 hx hby d10_24 rfl (by decide) ?_
  refine own_istore 27 #[oA c0, oJ y5, oS, oI (2 : Int32), oI (1 : Int32), oU, oU, oU, oU] X287 hx hby d10_25 rfl rfl ?_
  refine own_iload 29 X287 hx hby d10_27 rfl rfl ?_
  refine own_aload_n 30 X287 hx hby d10_29 rfl rfl rfl ?_
  refine own_getF 33 X287 hx hby hZ hown (own_w hw 29 rfl) e287 F_c0_head d10_30 rfl ?_
  intro T288 X288 e288
  refine own_icN 36 X288 hx hby d10_33 rfl (by decide) ?_
  refine own_aload_n 37 X288 hx hby d10_36 rfl rfl rfl ?_
  refine own_getF 40 X288 hx hby hZ hown (own_w hw 16 rfl) e288 F_c0_totals d10_37 rfl ?_
  intro T289 X289 e289
  refine own_iload_n 41 X289 hx hby d10_40 rfl rfl ?_
  refine own_laload 42 (.long y5) X289 hx hby hZ e289 V_c3 d10_41 rfl (by decide) rfl ?_
  refine own_aload_n 43 X289 hx hby d10_42 rfl rfl rfl ?_
  refine own_iload 45 X289 hx hby d10_43 rfl rfl ?_
  refine own_priv (W := 2) 48 (rm7_33 l Z a0 hw [] w_NONE k_NONE W c0 c1 k_c1 c2 k_c2 c3 k_c3 y0 y1 y2 y3 y4 y5 h0 n0 O0 E_c0 F_c0_droppedTotal F_c0_end F_c0_firsts F_c0_head F_c0_lasts F_c0_totals n_c0 V_c1 n_c1 V_c2 n_c2 V_c3 n_c3 ne_c0_c1 ne_c0_c2 ne_c0_c3 ne_c1_c2 ne_c1_c3 ne_c2_c3) X289 hx hby hZ hown (own_w hw 44 rfl) (own_w hw 45 rfl) (own_w hw 46 rfl) (own_w hw 21 rfl) (own_w hw 3 rfl) (own_w hw 47 rfl) rfl (by decide) (by rw [hml]; rfl) c0 [(.int (1 : Int32))] [(.long y5)] pd_5 rfl d10_45 rfl e289 E_c0 rfl rfl rfl (by decide) (by decide) (by decide) (by decide) ?_
  rintro _ T292 L292 X292 ⟨rfl, N292, e292⟩
  have N292 := Fr.app N0 N292
  show Go p e below _ (T292.setTop (mkF m 48 _ [(.long y3), (.long y5)]))
  refine own_lsub 49 (y5 - y3) X292 hx hby d10_48 rfl rfl ?_
  refine own_lstore 51 #[oA c0, oJ y5, oS, oI (2 : Int32), oI (1 : Int32), oJ (y5 - y3), oS, oU, oU] X292 hx hby d10_49 rfl rfl ?_
  refine own_lload_n 52 X292 hx hby d10_51 rfl rfl ?_
  refine own_aload_n 53 X292 hx hby d10_52 rfl rfl rfl ?_
  refine own_getF 56 X292 hx hby hZ hown (own_w hw 16 rfl) e292 F_c0_totals d10_53 rfl ?_
  intro T293 X293 e293
  refine own_iload_n 57 X293 hx hby d10_56 rfl rfl ?_
  refine own_laload 58 (.long y5) X293 hx hby hZ e293 V_c3 d10_57 rfl (by decide) rfl ?_
  refine own_lsub 59 (y5 - y5) X293 hx hby d10_58 rfl rfl ?_
  refine own_lstore 61 #[oA c0, oJ y5, oS, oI (2 : Int32), oI (1 : Int32), oJ (y5 - y3), oS, oJ (y5 - y5), oS] X293 hx hby d10_59 rfl rfl ?_
  refine own_lload 63 X293 hx hby d10_61 rfl rfl ?_
  refine own_lload 65 X293 hx hby d10_63 rfl rfl ?_
  refine own_callS (W := 2) 68 (rm11_20 l Z a0 hw [] w_NONE k_NONE W (y5 - y5) h0 n0 O0) X293 hx hby hZ hown (own_w hw 67 rfl) (own_w hw 68 rfl) (own_w hw 3 rfl) (own_w hw 69 rfl) (by decide) (by rw [hml]; rfl) [(.long (y5 - y5))] [(.long (y5 - y3))] pd_7 rfl d10_65 rfl e293 rfl rfl rfl (by decide) (by decide) (by decide) (by decide) ?_
  rintro _ T294 L294 X294 ⟨rfl, N294, e294⟩
  have N294 := Fr.app N292 N294
  show Go p e below _ (T294.setTop (mkF m 68 _ [(.long (((2 : Int64) * ((y5 - y5) / (100 : Int64))) + (2 : Int64))), (.long (y5 - y3))]))
  refine own_lcmp 69 (XT.cmpL (y5 - y3) (((2 : Int64) * ((y5 - y5) / (100 : Int64))) + (2 : Int64))) X294 hx hby d10_68 rfl rfl ?_
  refine own_ifY 88 X294 hx hby d10_69 (by decide) (by decide) (own_tltL hc295).2.2.1 ?_
  refine own_iinc 91 #[oA c0, oJ y5, oS, oI (1 : Int32), oI (1 : Int32), oJ (y5 - y3), oS, oJ (y5 - y5), oS] X294 hx hby d10_88 rfl rfl rfl ?_
  refine own_aload_n 92 X294 hx hby d10_91 rfl rfl rfl ?_
  refine own_getF 95 X294 hx hby hZ hown (own_w hw 12 rfl) e294 F_c0_firsts d10_92 rfl ?_
  intro T296 X296 e296
  refine own_iload_n 96 X296 hx hby d10_95 rfl rfl ?_
  refine own_aload_n 97 X296 hx hby d10_96 rfl rfl rfl ?_
  refine own_getF 100 X296 hx hby hZ hown (own_w hw 12 rfl) e296 F_c0_firsts d10_97 rfl ?_
  intro T297 X297 e297
  refine own_iload 102 X297 hx hby d10_100 rfl rfl ?_
  refine own_laload 103 (.long y1) X297 hx hby hZ e297 V_c1 d10_102 rfl (by decide) rfl ?_
  refine own_stJ 104 1 X297 hx hby hZ e297 V_c1 d10_103 rfl (by decide) (by decide) (Nat.le_of_ble_eq_true rfl) ?_
  intro T298 h298 X298 e298 W298 V298
  have V298 : Arv Z h298 c1 k_c1 .long (16 : Int32) [(.long y0), (.long y1), (.long y2), (.long (0 : Int64))] (.long (0 : Int64)) := V298
  have E_c0_298 := E_c0.wr W298
  have F_c0_droppedTotal_298 := F_c0_droppedTotal.other W298 (Or.inl ne_c0_c1)
  have F_c0_end_298 := F_c0_end.other W298 (Or.inl ne_c0_c1)
  have F_c0_firsts_298 := F_c0_firsts.other W298 (Or.inl ne_c0_c1)
  have F_c0_head_298 := F_c0_head.other W298 (Or.inl ne_c0_c1)
  have F_c0_lasts_298 := F_c0_lasts.other W298 (Or.inl ne_c0_c1)
  have F_c0_totals_298 := F_c0_totals.other W298 (Or.inl ne_c0_c1)
  have V_c2_298 := V_c2.other W298 (Ne.symm ne_c1_c2)
  have V_c3_298 := V_c3.other W298 (Ne.symm ne_c1_c3)
  have K298 : Keep h0 h298 [c1, c2, c3, c0] := (Keep.refl h0 [c1, c2, c3, c0]).wr W298 (Or.inl (List.mem_of_getElem? (i := 0) rfl))
  have O298 := O0.wr W298 n_c1
  have N298 := Fr.snoc X298 N294 n_c1
  refine own_aload_n 105 X298 hx hby d10_104 rfl rfl rfl ?_
  refine own_getF 108 X298 hx hby hZ hown (own_w hw 14 rfl) e298 F_c0_lasts_298 d10_105 rfl ?_
  intro T299 X299 e299
  refine own_iload_n 109 X299 hx hby d10_108 rfl rfl ?_
  refine own_aload_n 110 X299 hx hby d10_109 rfl rfl rfl ?_
  refine own_getF 113 X299 hx hby hZ hown (own_w hw 14 rfl) e299 F_c0_lasts_298 d10_110 rfl ?_
  intro T300 X300 e300
  refine own_iload 115 X300 hx hby d10_113 rfl rfl ?_
  refine own_laload 116 (.long y1) X300 hx hby hZ e300 V_c2_298 d10_115 rfl (by decide) rfl ?_
  refine own_stJ 117 1 X300 hx hby hZ e300 V_c2_298 d10_116 rfl (by decide) (by decide) (Nat.le_of_ble_eq_true rfl) ?_
  intro T301 h301 X301 e301 W301 V301
  have V301 : Arv Z h301 c2 k_c2 .long (16 : Int32) [(.long y0), (.long y1), (.long y2), (.long (0 : Int64))] (.long (0 : Int64)) := V301
  have E_c0_301 := E_c0_298.wr W301
  have F_c0_droppedTotal_301 := F_c0_droppedTotal_298.other W301 (Or.inl ne_c0_c2)
  have F_c0_end_301 := F_c0_end_298.other W301 (Or.inl ne_c0_c2)
  have F_c0_firsts_301 := F_c0_firsts_298.other W301 (Or.inl ne_c0_c2)
  have F_c0_head_301 := F_c0_head_298.other W301 (Or.inl ne_c0_c2)
  have F_c0_lasts_301 := F_c0_lasts_298.other W301 (Or.inl ne_c0_c2)
  have F_c0_totals_301 := F_c0_totals_298.other W301 (Or.inl ne_c0_c2)
  have V_c1_301 := V298.other W301 ne_c1_c2
  have V_c3_301 := V_c3_298.other W301 (Ne.symm ne_c2_c3)
  have K301 : Keep h0 h301 [c1, c2, c3, c0] := K298.wr W301 (Or.inl (List.mem_of_getElem? (i := 1) rfl))
  have O301 := O298.wr W301 n_c2
  have N301 := Fr.snoc X301 N298 n_c2
  refine own_aload_n 118 X301 hx hby d10_117 rfl rfl rfl ?_
  refine own_getF 121 X301 hx hby hZ hown (own_w hw 16 rfl) e301 F_c0_totals_301 d10_118 rfl ?_
  intro T302 X302 e302
  refine own_iload_n 122 X302 hx hby d10_121 rfl rfl ?_
  refine own_aload_n 123 X302 hx hby d10_122 rfl rfl rfl ?_
  refine own_getF 126 X302 hx hby hZ hown (own_w hw 16 rfl) e302 F_c0_totals_301 d10_123 rfl ?_
  intro T303 X303 e303
  refine own_iload 128 X303 hx hby d10_126 rfl rfl ?_
  refine own_laload 129 (.long y4) X303 hx hby hZ e303 V_c3_301 d10_128 rfl (by decide) rfl ?_
  refine own_stJ 130 1 X303 hx hby hZ e303 V_c3_301 d10_129 rfl (by decide) (by decide) (Nat.le_of_ble_eq_true rfl) ?_
  intro T304 h304 X304 e304 W304 V304
  have V304 : Arv Z h304 c3 k_c3 .long (16 : Int32) [(.long y3), (.long y4), (.long y5), (.long (0 : Int64))] (.long (0 : Int64)) := V304
  have E_c0_304 := E_c0_301.wr W304
  have F_c0_droppedTotal_304 := F_c0_droppedTotal_301.other W304 (Or.inl ne_c0_c3)
  have F_c0_end_304 := F_c0_end_301.other W304 (Or.inl ne_c0_c3)
  have F_c0_firsts_304 := F_c0_firsts_301.other W304 (Or.inl ne_c0_c3)
  have F_c0_head_304 := F_c0_head_301.other W304 (Or.inl ne_c0_c3)
  have F_c0_lasts_304 := F_c0_lasts_301.other W304 (Or.inl ne_c0_c3)
  have F_c0_totals_304 := F_c0_totals_301.other W304 (Or.inl ne_c0_c3)
  have V_c1_304 := V_c1_301.other W304 ne_c1_c3
  have V_c2_304 := V301.other W304 ne_c2_c3
  have K304 : Keep h0 h304 [c1, c2, c3, c0] := K301.wr W304 (Or.inl (List.mem_of_getElem? (i := 2) rfl))
  have O304 := O301.wr W304 n_c3
  have N304 := Fr.snoc X304 N301 n_c3
  refine own_iinc 133 #[oA c0, oJ y5, oS, oI (1 : Int32), oI (0 : Int32), oJ (y5 - y3), oS, oJ (y5 - y5), oS] X304 hx hby d10_130 rfl rfl rfl ?_
  refine own_goto 27 X304 hx hby d10_133 (by decide) (by decide) ?_
  refine own_iload 29 X304 hx hby d10_27 rfl rfl ?_
  refine own_aload_n 30 X304 hx hby d10_29 rfl rfl rfl ?_
  refine own_getF 33 X304 hx hby hZ hown (own_w hw 29 rfl) e304 F_c0_head_304 d10_30 rfl ?_
  intro T305 X305 e305
  refine own_icN 36 X305 hx hby d10_33 rfl (by decide) ?_
  refine own_aload_n 37 X305 hx hby d10_36 rfl rfl rfl ?_
  refine own_getF 40 X305 hx hby hZ hown (own_w hw 16 rfl) e305 F_c0_totals_304 d10_37 rfl ?_
  intro T306 X306 e306
  refine own_iload_n 41 X306 hx hby d10_40 rfl rfl ?_
  refine own_laload 42 (.long y4) X306 hx hby hZ e306 V304 d10_41 rfl (by decide) rfl ?_
  refine own_aload_n 43 X306 hx hby d10_42 rfl rfl rfl ?_
  refine own_iload 45 X306 hx hby d10_43 rfl rfl ?_
  refine own_priv (W := 2) 48 (rm7_34 l Z a0 hw [] w_NONE k_NONE W c0 c1 k_c1 c2 k_c2 c3 k_c3 y0 y1 y2 y3 y4 y5 h304 n0 O304 E_c0_304 F_c0_droppedTotal_304 F_c0_end_304 F_c0_firsts_304 F_c0_head_304 F_c0_lasts_304 F_c0_totals_304 n_c0 V_c1_304 n_c1 V_c2_304 n_c2 V304 n_c3 ne_c0_c1 ne_c0_c2 ne_c0_c3 ne_c1_c2 ne_c1_c3 ne_c2_c3) X306 hx hby hZ hown (own_w hw 44 rfl) (own_w hw 45 rfl) (own_w hw 46 rfl) (own_w hw 21 rfl) (own_w hw 3 rfl) (own_w hw 47 rfl) rfl (by decide) (by rw [hml]; rfl) c0 [(.int (0 : Int32))] [(.long y4)] pd_5 rfl d10_45 rfl e306 E_c0_304 rfl rfl rfl (by decide) (by decide) (by decide) (by decide) ?_
  rintro _ T309 L309 X309 ⟨rfl, N309, e309⟩
  have N309 := Fr.app N304 N309
  show Go p e below _ (T309.setTop (mkF m 48 _ [(.long (0 : Int64)), (.long y4)]))
  refine own_lsub 49 (y4 - (0 : Int64)) X309 hx hby d10_48 rfl rfl ?_
  refine own_lstore 51 #[oA c0, oJ y5, oS, oI (1 : Int32), oI (0 : Int32), oJ (y4 - (0 : Int64)), oS, oJ (y5 - y5), oS] X309 hx hby d10_49 rfl rfl ?_
  refine own_lload_n 52 X309 hx hby d10_51 rfl rfl ?_
  refine own_aload_n 53 X309 hx hby d10_52 rfl rfl rfl ?_
  refine own_getF 56 X309 hx hby hZ hown (own_w hw 16 rfl) e309 F_c0_totals_304 d10_53 rfl ?_
  intro T310 X310 e310
  refine own_iload_n 57 X310 hx hby d10_56 rfl rfl ?_
  refine own_laload 58 (.long y4) X310 hx hby hZ e310 V304 d10_57 rfl (by decide) rfl ?_
  refine own_lsub 59 (y5 - y4) X310 hx hby d10_58 rfl rfl ?_
  refine own_lstore 61 #[oA c0, oJ y5, oS, oI (1 : Int32), oI (0 : Int32), oJ (y4 - (0 : Int64)), oS, oJ (y5 - y4), oS] X310 hx hby d10_59 rfl rfl ?_
  refine own_lload 63 X310 hx hby d10_61 rfl rfl ?_
  refine own_lload 65 X310 hx hby d10_63 rfl rfl ?_
  refine own_callS (W := 2) 68 (rm11_20 l Z a0 hw [] w_NONE k_NONE W (y5 - y4) h304 n0 O304) X310 hx hby hZ hown (own_w hw 67 rfl) (own_w hw 68 rfl) (own_w hw 3 rfl) (own_w hw 69 rfl) (by decide) (by rw [hml]; rfl) [(.long (y5 - y4))] [(.long (y4 - (0 : Int64)))] pd_7 rfl d10_65 rfl e310 rfl rfl rfl (by decide) (by decide) (by decide) (by decide) ?_
  rintro _ T311 L311 X311 ⟨rfl, N311, e311⟩
  have N311 := Fr.app N309 N311
  show Go p e below _ (T311.setTop (mkF m 68 _ [(.long (((2 : Int64) * ((y5 - y4) / (100 : Int64))) + (2 : Int64))), (.long (y4 - (0 : Int64)))]))
  refine own_lcmp 69 (XT.cmpL (y4 - (0 : Int64)) (((2 : Int64) * ((y5 - y4) / (100 : Int64))) + (2 : Int64))) X311 hx hby d10_68 rfl rfl ?_
  refine own_ifY 88 X311 hx hby d10_69 (by decide) (by decide) (own_tltL hc312).2.2.1 ?_
  refine own_iinc 91 #[oA c0, oJ y5, oS, oI (0 : Int32), oI (0 : Int32), oJ (y4 - (0 : Int64)), oS, oJ (y5 - y4), oS] X311 hx hby d10_88 rfl rfl rfl ?_
  refine own_aload_n 92 X311 hx hby d10_91 rfl rfl rfl ?_
  refine own_getF 95 X311 hx hby hZ hown (own_w hw 12 rfl) e311 F_c0_firsts_304 d10_92 rfl ?_
  intro T313 X313 e313
  refine own_iload_n 96 X313 hx hby d10_95 rfl rfl ?_
  refine own_aload_n 97 X313 hx hby d10_96 rfl rfl rfl ?_
  refine own_getF 100 X313 hx hby hZ hown (own_w hw 12 rfl) e313 F_c0_firsts_304 d10_97 rfl ?_
  intro T314 X314 e314
  refine own_iload 102 X314 hx hby d10_100 rfl rfl ?_
  refine own_laload 103 (.long y0) X314 hx hby hZ e314 V_c1_304 d10_102 rfl (by decide) rfl ?_
  refine own_stJ 104 0 X314 hx hby hZ e314 V_c1_304 d10_103 rfl (by decide) (by decide) (Nat.le_of_ble_eq_true rfl) ?_
  intro T315 h315 X315 e315 W315 V315
  have V315 : Arv Z h315 c1 k_c1 .long (16 : Int32) [(.long y0), (.long y1), (.long y2), (.long (0 : Int64))] (.long (0 : Int64)) := V315
  have E_c0_315 := E_c0_304.wr W315
  have F_c0_droppedTotal_315 := F_c0_droppedTotal_304.other W315 (Or.inl ne_c0_c1)
  have F_c0_end_315 := F_c0_end_304.other W315 (Or.inl ne_c0_c1)
  have F_c0_firsts_315 := F_c0_firsts_304.other W315 (Or.inl ne_c0_c1)
  have F_c0_head_315 := F_c0_head_304.other W315 (Or.inl ne_c0_c1)
  have F_c0_lasts_315 := F_c0_lasts_304.other W315 (Or.inl ne_c0_c1)
  have F_c0_totals_315 := F_c0_totals_304.other W315 (Or.inl ne_c0_c1)
  have V_c2_315 := V_c2_304.other W315 (Ne.symm ne_c1_c2)
  have V_c3_315 := V304.other W315 (Ne.symm ne_c1_c3)
  have K315 : Keep h0 h315 [c1, c2, c3, c0] := K304.wr W315 (Or.inl (List.mem_of_getElem? (i := 0) rfl))
  have O315 := O304.wr W315 n_c1
  have N315 := Fr.snoc X315 N311 n_c1
  refine own_aload_n 105 X315 hx hby d10_104 rfl rfl rfl ?_
  refine own_getF 108 X315 hx hby hZ hown (own_w hw 14 rfl) e315 F_c0_lasts_315 d10_105 rfl ?_
  intro T316 X316 e316
  refine own_iload_n 109 X316 hx hby d10_108 rfl rfl ?_
  refine own_aload_n 110 X316 hx hby d10_109 rfl rfl rfl ?_
  refine own_getF 113 X316 hx hby hZ hown (own_w hw 14 rfl) e316 F_c0_lasts_315 d10_110 rfl ?_
  intro T317 X317 e317
  refine own_iload 115 X317 hx hby d10_113 rfl rfl ?_
  refine own_laload 116 (.long y0) X317 hx hby hZ e317 V_c2_315 d10_115 rfl (by decide) rfl ?_
  refine own_stJ 117 0 X317 hx hby hZ e317 V_c2_315 d10_116 rfl (by decide) (by decide) (Nat.le_of_ble_eq_true rfl) ?_
  intro T318 h318 X318 e318 W318 V318
  have V318 : Arv Z h318 c2 k_c2 .long (16 : Int32) [(.long y0), (.long y1), (.long y2), (.long (0 : Int64))] (.long (0 : Int64)) := V318
  have E_c0_318 := E_c0_315.wr W318
  have F_c0_droppedTotal_318 := F_c0_droppedTotal_315.other W318 (Or.inl ne_c0_c2)
  have F_c0_end_318 := F_c0_end_315.other W318 (Or.inl ne_c0_c2)
  have F_c0_firsts_318 := F_c0_firsts_315.other W318 (Or.inl ne_c0_c2)
  have F_c0_head_318 := F_c0_head_315.other W318 (Or.inl ne_c0_c2)
  have F_c0_lasts_318 := F_c0_lasts_315.other W318 (Or.inl ne_c0_c2)
  have F_c0_totals_318 := F_c0_totals_315.other W318 (Or.inl ne_c0_c2)
  have V_c1_318 := V315.other W318 ne_c1_c2
  have V_c3_318 := V_c3_315.other W318 (Ne.symm ne_c2_c3)
  have K318 : Keep h0 h318 [c1, c2, c3, c0] := K315.wr W318 (Or.inl (List.mem_of_getElem? (i := 1) rfl))
  have O318 := O315.wr W318 n_c2
  have N318 := Fr.snoc X318 N315 n_c2
  refine own_aload_n 118 X318 hx hby d10_117 rfl rfl rfl ?_
  refine own_getF 121 X318 hx hby hZ hown (own_w hw 16 rfl) e318 F_c0_totals_318 d10_118 rfl ?_
  intro T319 X319 e319
  refine own_iload_n 122 X319 hx hby d10_121 rfl rfl ?_
  refine own_aload_n 123 X319 hx hby d10_122 rfl rfl rfl ?_
  refine own_getF 126 X319 hx hby hZ hown (own_w hw 16 rfl) e319 F_c0_totals_318 d10_123 rfl ?_
  intro T320 X320 e320
  refine own_iload 128 X320 hx hby d10_126 rfl rfl ?_
  refine own_laload 129 (.long y3) X320 hx hby hZ e320 V_c3_318 d10_128 rfl (by decide) rfl ?_
  refine own_stJ 130 0 X320 hx hby hZ e320 V_c3_318 d10_129 rfl (by decide) (by decide) (Nat.le_of_ble_eq_true rfl) ?_
  intro T321 h321 X321 e321 W321 V321
  have V321 : Arv Z h321 c3 k_c3 .long (16 : Int32) [(.long y3), (.long y4), (.long y5), (.long (0 : Int64))] (.long (0 : Int64)) := V321
  have E_c0_321 := E_c0_318.wr W321
  have F_c0_droppedTotal_321 := F_c0_droppedTotal_318.other W321 (Or.inl ne_c0_c3)
  have F_c0_end_321 := F_c0_end_318.other W321 (Or.inl ne_c0_c3)
  have F_c0_firsts_321 := F_c0_firsts_318.other W321 (Or.inl ne_c0_c3)
  have F_c0_head_321 := F_c0_head_318.other W321 (Or.inl ne_c0_c3)
  have F_c0_lasts_321 := F_c0_lasts_318.other W321 (Or.inl ne_c0_c3)
  have F_c0_totals_321 := F_c0_totals_318.other W321 (Or.inl ne_c0_c3)
  have V_c1_321 := V_c1_318.other W321 ne_c1_c3
  have V_c2_321 := V318.other W321 ne_c2_c3
  have K321 : Keep h0 h321 [c1, c2, c3, c0] := K318.wr W321 (Or.inl (List.mem_of_getElem? (i := 2) rfl))
  have O321 := O318.wr W321 n_c3
  have N321 := Fr.snoc X321 N318 n_c3
  refine own_iinc 133 #[oA c0, oJ y5, oS, oI (0 : Int32), oI (-1 : Int32), oJ (y4 - (0 : Int64)), oS, oJ (y5 - y4), oS] X321 hx hby d10_130 rfl rfl rfl ?_
  refine own_goto 27 X321 hx hby d10_133 (by decide) (by decide) ?_
  refine own_iload 29 X321 hx hby d10_27 rfl rfl ?_
  refine own_aload_n 30 X321 hx hby d10_29 rfl rfl rfl ?_
  refine own_getF 33 X321 hx hby hZ hown (own_w hw 29 rfl) e321 F_c0_head_321 d10_30 rfl ?_
  intro T322 X322 e322
  refine own_icY 136 X322 hx hby d10_33 (by decide) (by decide) (by decide) ?_
  refine own_aload_n 137 X322 hx hby d10_136 rfl rfl rfl ?_
  refine own_iload_n 138 X322 hx hby d10_137 rfl rfl ?_
  refine own_putF 141 X322 hx hby hZ .int hown (own_w hw 29 rfl) e322 F_c0_head_321 E_c0_321 (Or.inl (own_w hw 30 rfl)) (own_w hw 2 rfl) (by decide) rfl rfl d10_138 rfl ?_
  intro T323 h323 X323 e323 W323
  have E_c0_323 := E_c0_321.wr W323
  have F_c0_droppedTotal_323 := F_c0_droppedTotal_321.other W323 (Or.inr (slot_ne (Or.inl (own_w hw 49 rfl)) (Or.inl (own_w hw 30 rfl)) (by decide) (t := .long) (t' := .int) (by decide) (by decide)))
  have F_c0_end_323 := F_c0_end_321.other W323 (Or.inr (slot_ne (Or.inl (own_w hw 24 rfl)) (Or.inl (own_w hw 30 rfl)) (by decide) (t := .int) (t' := .int) (by decide) (by decide)))
  have F_c0_firsts_323 := F_c0_firsts_321.other W323 (Or.inr (slot_ne (Or.inl (own_w hw 13 rfl)) (Or.inl (own_w hw 30 rfl)) (by decide) (t := (.array .long)) (t' := .int) (by decide) (by decide)))
  have F_c0_head_323 := F_c0_head_321.same W323
  have F_c0_lasts_323 := F_c0_lasts_321.other W323 (Or.inr (slot_ne (Or.inl (own_w hw 15 rfl)) (Or.inl (own_w hw 30 rfl)) (by decide) (t := (.array .long)) (t' := .int) (by decide) (by decide)))
  have F_c0_totals_323 := F_c0_totals_321.other W323 (Or.inr (slot_ne (Or.inl (own_w hw 17 rfl)) (Or.inl (own_w hw 30 rfl)) (by decide) (t := (.array .long)) (t' := .int) (by decide) (by decide)))
  have V_c1_323 := V_c1_321.other W323 (Ne.symm ne_c0_c1)
  have V_c2_323 := V_c2_321.other W323 (Ne.symm ne_c0_c2)
  have V_c3_323 := V321.other W323 (Ne.symm ne_c0_c3)
  have K323 : Keep h0 h323 [c1, c2, c3, c0] := K321.wr W323 (Or.inl (List.mem_of_getElem? (i := 3) rfl))
  have O323 := O321.wr W323 n_c0
  have N323 := Fr.snoc X323 N321 n_c0
  exact own_ret0 (Q := Q_rm10_35 Z w_NONE k_NONE c0 c1 k_c1 c2 k_c2 c3 k_c3 y0 y1 y2 y3 y4 y5 h0 n0) X323 hx hby hret hlk d10_141 (by decide) (by decide) (by rw [e323]; exact ⟨rfl, N323, K323, E_c0_323, F_c0_droppedTotal_323, F_c0_end_323, F_c0_firsts_323, F_c0_head_323, F_c0_lasts_323, F_c0_totals_323, V_c1_323, V_c2_323, V_c3_323⟩)
def Q_rm10_36 (Z : State) (w_NONE k_NONE : Addr) (c0 : Addr) (c1 : Addr) (k_c1 : ClassId) (c2 : Addr) (k_c2 : ClassId) (c3 : Addr) (k_c3 : ClassId) (y0 : Int64) (y1 : Int64) (y2 : Int64) (y3 : Int64) (y4 : Int64) (y5 : Int64) (h0 : Heap) (n0 : Nat) (v : Option Value) (h : Heap) (L : List Loc) : Prop := v = none ∧ Fr n0 L ∧ Keep h0 h [c1, c2, c3, c0] ∧ Exa Z h c0 "com/example/meter/meter/store/Spans" ∧ Fld Z h c0 "com/example/meter/meter/store/Spans" "droppedTotal" "J" (.long (0 : Int64)) ∧ Fld Z h c0 "com/example/meter/meter/store/Spans" "end" "I" (.int (3 : Int32)) ∧ Fld Z h c0 "com/example/meter/meter/store/Spans" "firsts" "[J" (.ref c1) ∧ Fld Z h c0 "com/example/meter/meter/store/Spans" "head" "I" (.int (1 : Int32)) ∧ Fld Z h c0 "com/example/meter/meter/store/Spans" "lasts" "[J" (.ref c2) ∧ Fld Z h c0 "com/example/meter/meter/store/Spans" "totals" "[J" (.ref c3) ∧ Arv Z h c1 k_c1 .long (16 : Int32) [(.long y0), (.long y0), (.long y2), (.long (0 : Int64))] (.long (0 : Int64)) ∧ Arv Z h c2 k_c2 .long (16 : Int32) [(.long y0), (.long y1), (.long y2), (.long (0 : Int64))] (.long (0 : Int64)) ∧ Arv Z h c3 k_c3 .long (16 : Int32) [(.long y3), (.long y4), (.long y5), (.long (0 : Int64))] (.long (0 : Int64))
set_option maxRecDepth 65536 in
set_option maxHeartbeats 40000000 in
theorem rm10_36 (l : Launch) (Z : State) (a0 : Array Value) (hw : ∀ d ∈ tables_1, d.before a0 Z = true) (ws : List Jvm.Cond) (w_NONE k_NONE : Addr) (W : own_W Z w_NONE k_NONE) (c0 : Addr) (c1 : Addr) (k_c1 : ClassId) (c2 : Addr) (k_c2 : ClassId) (c3 : Addr) (k_c3 : ClassId) (y0 : Int64) (y1 : Int64) (y2 : Int64) (y3 : Int64) (y4 : Int64) (y5 : Int64) (h0 : Heap) (n0 : Nat) (O0 : Old Z n0 h0) (E_c0 : Exa Z h0 c0 "com/example/meter/meter/store/Spans") (F_c0_droppedTotal : Fld Z h0 c0 "com/example/meter/meter/store/Spans" "droppedTotal" "J" (.long (0 : Int64))) (F_c0_end : Fld Z h0 c0 "com/example/meter/meter/store/Spans" "end" "I" (.int (3 : Int32))) (F_c0_firsts : Fld Z h0 c0 "com/example/meter/meter/store/Spans" "firsts" "[J" (.ref c1)) (F_c0_head : Fld Z h0 c0 "com/example/meter/meter/store/Spans" "head" "I" (.int (0 : Int32))) (F_c0_lasts : Fld Z h0 c0 "com/example/meter/meter/store/Spans" "lasts" "[J" (.ref c2)) (F_c0_totals : Fld Z h0 c0 "com/example/meter/meter/store/Spans" "totals" "[J" (.ref c3)) (n_c0 : n0 ≤ c0) (V_c1 : Arv Z h0 c1 k_c1 .long (16 : Int32) [(.long y0), (.long y1), (.long y2), (.long (0 : Int64))] (.long (0 : Int64))) (n_c1 : n0 ≤ c1) (V_c2 : Arv Z h0 c2 k_c2 .long (16 : Int32) [(.long y0), (.long y1), (.long y2), (.long (0 : Int64))] (.long (0 : Int64))) (n_c2 : n0 ≤ c2) (V_c3 : Arv Z h0 c3 k_c3 .long (16 : Int32) [(.long y3), (.long y4), (.long y5), (.long (0 : Int64))] (.long (0 : Int64))) (n_c3 : n0 ≤ c3) (ne_c0_c1 : c0 ≠ c1) (ne_c0_c2 : c0 ≠ c2) (ne_c0_c3 : c0 ≠ c3) (ne_c1_c2 : c1 ≠ c2) (ne_c1_c3 : c1 ≠ c3) (ne_c2_c3 : c2 ≠ c3) (hc295 : (((2 : Int64) * ((y5 - y5) / (100 : Int64))) + (2 : Int64)) < (y5 - y3)) (hc312 : ¬ ((((2 : Int64) * ((y5 - y4) / (100 : Int64))) + (2 : Int64)) < (y4 - (0 : Int64)))) :
    MetFree l (⟨"com/example/meter/meter/store/Spans", "join", "()V"⟩ : MethodName) (head1 (Jvm.Cond.code (⟨"com/example/meter/meter/store/Spans", "join", "()V"⟩ : MethodName) prog_11_method_12_code 9 none :: ws) ({ frames := 1, cells := 0, slots := 0, locals := 15 } : Room)) (fun a U => a = #[(.ref c0)] ∧ Z.Warmed39 U.vm ∧ U.heap = h0) (fun _ _ _ _ _ => True) (fun _ U o U' => ∃ v L, o = .returned v ∧ Q_rm10_36 Z w_NONE k_NONE c0 c1 k_c1 c2 k_c2 c3 k_c3 y0 y1 y2 y3 y4 y5 h0 n0 v U'.heap L ∧ FrameEnd U o U' L ({ frames := 1, cells := 0, slots := 0, locals := 15 } : Room).cells ({ frames := 1, cells := 0, slots := 0, locals := 15 } : Room).slots) := by
  refine MetFree.of_bodySF (plainFor_of_name pn_0) hisR ?_
  intro p e s m args below meth c s₁ Bd hml0 hP hK
  obtain ⟨rfl, hZ, hh⟩ := hP
  have hx := Bd.exec
  have hby := Bd.bytes
  have hml : c.maxLocals = 9 := hml0
  have hlk := BodyLoose.notSynchronized Bd
  have hret := Bd.returns
  have hown : s.vm.findClass "com/example/meter/meter/store/Spans" = some m.cls := findClass_of_methodNamed Bd.named
  have hnm := (name_of_methodNamed Bd.named Bd.method).1
  have X0 : Stand p l e ({ frames := 1, cells := 0, slots := 0, locals := 15 } : Room) s m #[(.ref c0)] below meth c s₁ [] 0 0 := Stand.of_body Bd
  have e0 : s₁.heap = h0 := by rw [← hh, Bd.state]; rfl
  have N0 := Fr.nil n0
  rw [ef_10 m c0]
  show Go p e below _ (s₁.setTop (mkF m 0 #[oA c0, oU, oU, oU, oU, oU, oU, oU, oU] []))
  refine own_aload_n 1 X0 hx hby d10_0 rfl rfl rfl ?_
  refine own_getF 4 X0 hx hby hZ hown (own_w hw 16 rfl) e0 F_c0_totals d10_1 rfl ?_
  intro T284 X284 e284
  refine own_aload_n 5 X284 hx hby d10_4 rfl rfl rfl ?_
  refine own_getF 8 X284 hx hby hZ hown (own_w hw 23 rfl) e284 F_c0_end d10_5 rfl ?_
  intro T285 X285 e285
  refine own_iconst 9 (1 : Int32) X285 hx hby d10_8 rfl (by decide) ?_
  refine own_isub 10 (2 : Int32) X285 hx hby d10_9 rfl (by decide) ?_
  refine own_laload 11 (.long y5) X285 hx hby hZ e285 V_c3 d10_10 rfl (by decide) rfl ?_
  refine own_lstore_n 12 #[oA c0, oJ y5, oS, oU, oU, oU, oU, oU, oU] X285 hx hby d10_11 rfl rfl ?_
  refine own_aload_n 13 X285 hx hby d10_12 rfl rfl rfl ?_
  refine own_getF 16 X285 hx hby hZ hown (own_w hw 23 rfl) e285 F_c0_end d10_13 rfl ?_
  intro T286 X286 e286
  refine own_iconst 17 (1 : Int32) X286 hx hby d10_16 rfl (by decide) ?_
  refine own_isub 18 (2 : Int32) X286 hx hby d10_17 rfl (by decide) ?_
  refine own_istore_n 19 #[oA c0, oJ y5, oS, oI (2 : Int32), oU, oU, oU, oU, oU] X286 hx hby d10_18 rfl rfl ?_
  refine own_aload_n 20 X286 hx hby d10_19 rfl rfl rfl ?_
  refine own_getF 23 X286 hx hby hZ hown (own_w hw 23 rfl) e286 F_c0_end d10_20 rfl ?_
  intro T287 X287 e287
  refine own_iconst 24 (2 : Int32) X287 hx hby d10_23 rfl (by decide) ?_
  refine own_isub 25 (1 : Int32) X287 hx hby d10_24 rfl (by decide) ?_
  refine own_istore 27 #[oA c0, oJ y5, oS, oI (2 : Int32), oI (1 : Int32), oU, oU, oU, oU] X287 hx hby d10_25 rfl rfl ?_
  refine own_iload 29 X287 hx hby d10_27 rfl rfl ?_
  refine own_aload_n 30 X287 hx hby d10_29 rfl rfl rfl ?_
  refine own_getF 33 X287 hx hby hZ hown (own_w hw 29 rfl) e287 F_c0_head d10_30 rfl ?_
  intro T288 X288 e288
  refine own_icN 36 X288 hx hby d10_33 rfl (by decide) ?_
  refine own_aload_n 37 X288 hx hby d10_36 rfl rfl rfl ?_
  refine own_getF 40 X288 hx hby hZ hown (own_w hw 16 rfl) e288 F_c0_totals d10_37 rfl ?_
  intro T289 X289 e289
  refine own_iload_n 41 X289 hx hby d10_40 rfl rfl ?_
  refine own_laload 42 (.long y5) X289 hx hby hZ e289 V_c3 d10_41 rfl (by decide) rfl ?_
  refine own_aload_n 43 X289 hx hby d10_42 rfl rfl rfl ?_
  refine own_iload 45 X289 hx hby d10_43 rfl rfl ?_
  refine own_priv (W := 2) 48 (rm7_33 l Z a0 hw [] w_NONE k_NONE W c0 c1 k_c1 c2 k_c2 c3 k_c3 y0 y1 y2 y3 y4 y5 h0 n0 O0 E_c0 F_c0_droppedTotal F_c0_end F_c0_firsts F_c0_head F_c0_lasts F_c0_totals n_c0 V_c1 n_c1 V_c2 n_c2 V_c3 n_c3 ne_c0_c1 ne_c0_c2 ne_c0_c3 ne_c1_c2 ne_c1_c3 ne_c2_c3) X289 hx hby hZ hown (own_w hw 44 rfl) (own_w hw 45 rfl) (own_w hw 46 rfl) (own_w hw 21 rfl) (own_w hw 3 rfl) (own_w hw 47 rfl) rfl (by decide) (by rw [hml]; rfl) c0 [(.int (1 : Int32))] [(.long y5)] pd_5 rfl d10_45 rfl e289 E_c0 rfl rfl rfl (by decide) (by decide) (by decide) (by decide) ?_
  rintro _ T292 L292 X292 ⟨rfl, N292, e292⟩
  have N292 := Fr.app N0 N292
  show Go p e below _ (T292.setTop (mkF m 48 _ [(.long y3), (.long y5)]))
  refine own_lsub 49 (y5 - y3) X292 hx hby d10_48 rfl rfl ?_
  refine own_lstore 51 #[oA c0, oJ y5, oS, oI (2 : Int32), oI (1 : Int32), oJ (y5 - y3), oS, oU, oU] X292 hx hby d10_49 rfl rfl ?_
  refine own_lload_n 52 X292 hx hby d10_51 rfl rfl ?_
  refine own_aload_n 53 X292 hx hby d10_52 rfl rfl rfl ?_
  refine own_getF 56 X292 hx hby hZ hown (own_w hw 16 rfl) e292 F_c0_totals d10_53 rfl ?_
  intro T293 X293 e293
  refine own_iload_n 57 X293 hx hby d10_56 rfl rfl ?_
  refine own_laload 58 (.long y5) X293 hx hby hZ e293 V_c3 d10_57 rfl (by decide) rfl ?_
  refine own_lsub 59 (y5 - y5) X293 hx hby d10_58 rfl rfl ?_
  refine own_lstore 61 #[oA c0, oJ y5, oS, oI (2 : Int32), oI (1 : Int32), oJ (y5 - y3), oS, oJ (y5 - y5), oS] X293 hx hby d10_59 rfl rfl ?_
  refine own_lload 63 X293 hx hby d10_61 rfl rfl ?_
  refine own_lload 65 X293 hx hby d10_63 rfl rfl ?_
  refine own_callS (W := 2) 68 (rm11_20 l Z a0 hw [] w_NONE k_NONE W (y5 - y5) h0 n0 O0) X293 hx hby hZ hown (own_w hw 67 rfl) (own_w hw 68 rfl) (own_w hw 3 rfl) (own_w hw 69 rfl) (by decide) (by rw [hml]; rfl) [(.long (y5 - y5))] [(.long (y5 - y3))] pd_7 rfl d10_65 rfl e293 rfl rfl rfl (by decide) (by decide) (by decide) (by decide) ?_
  rintro _ T294 L294 X294 ⟨rfl, N294, e294⟩
  have N294 := Fr.app N292 N294
  show Go p e below _ (T294.setTop (mkF m 68 _ [(.long (((2 : Int64) * ((y5 - y5) / (100 : Int64))) + (2 : Int64))), (.long (y5 - y3))]))
  refine own_lcmp 69 (XT.cmpL (y5 - y3) (((2 : Int64) * ((y5 - y5) / (100 : Int64))) + (2 : Int64))) X294 hx hby d10_68 rfl rfl ?_
  refine own_ifY 88 X294 hx hby d10_69 (by decide) (by decide) (own_tltL hc295).2.2.1 ?_
  refine own_iinc 91 #[oA c0, oJ y5, oS, oI (1 : Int32), oI (1 : Int32), oJ (y5 - y3), oS, oJ (y5 - y5), oS] X294 hx hby d10_88 rfl rfl rfl ?_
  refine own_aload_n 92 X294 hx hby d10_91 rfl rfl rfl ?_
  refine own_getF 95 X294 hx hby hZ hown (own_w hw 12 rfl) e294 F_c0_firsts d10_92 rfl ?_
  intro T296 X296 e296
  refine own_iload_n 96 X296 hx hby d10_95 rfl rfl ?_
  refine own_aload_n 97 X296 hx hby d10_96 rfl rfl rfl ?_
  refine own_getF 100 X296 hx hby hZ hown (own_w hw 12 rfl) e296 F_c0_firsts d10_97 rfl ?_
  intro T297 X297 e297
  refine own_iload 102 X297 hx hby d10_100 rfl rfl ?_
  refine own_laload 103 (.long y1) X297 hx hby hZ e297 V_c1 d10_102 rfl (by decide) rfl ?_
  refine own_stJ 104 1 X297 hx hby hZ e297 V_c1 d10_103 rfl (by decide) (by decide) (Nat.le_of_ble_eq_true rfl) ?_
  intro T298 h298 X298 e298 W298 V298
  have V298 : Arv Z h298 c1 k_c1 .long (16 : Int32) [(.long y0), (.long y1), (.long y2), (.long (0 : Int64))] (.long (0 : Int64)) := V298
  have E_c0_298 := E_c0.wr W298
  have F_c0_droppedTotal_298 := F_c0_droppedTotal.other W298 (Or.inl ne_c0_c1)
  have F_c0_end_298 := F_c0_end.other W298 (Or.inl ne_c0_c1)
  have F_c0_firsts_298 := F_c0_firsts.other W298 (Or.inl ne_c0_c1)
  have F_c0_head_298 := F_c0_head.other W298 (Or.inl ne_c0_c1)
  have F_c0_lasts_298 := F_c0_lasts.other W298 (Or.inl ne_c0_c1)
  have F_c0_totals_298 := F_c0_totals.other W298 (Or.inl ne_c0_c1)
  have V_c2_298 := V_c2.other W298 (Ne.symm ne_c1_c2)
  have V_c3_298 := V_c3.other W298 (Ne.symm ne_c1_c3)
  have K298 : Keep h0 h298 [c1, c2, c3, c0] := (Keep.refl h0 [c1, c2, c3, c0]).wr W298 (Or.inl (List.mem_of_getElem? (i := 0) rfl))
  have O298 := O0.wr W298 n_c1
  have N298 := Fr.snoc X298 N294 n_c1
  refine own_aload_n 105 X298 hx hby d10_104 rfl rfl rfl ?_
  refine own_getF 108 X298 hx hby hZ hown (own_w hw 14 rfl) e298 F_c0_lasts_298 d10_105 rfl ?_
  intro T299 X299 e299
  refine own_iload_n 109 X299 hx hby d10_108 rfl rfl ?_
  refine own_aload_n 110 X299 hx hby d10_109 rfl rfl rfl ?_
  refine own_getF 113 X299 hx hby hZ hown (own_w hw 14 rfl) e299 F_c0_lasts_298 d10_110 rfl ?_
  intro T300 X300 e300
  refine own_iload 115 X300 hx hby d10_113 rfl rfl ?_
  refine own_laload 116 (.long y1) X300 hx hby hZ e300 V_c2_298 d10_115 rfl (by decide) rfl ?_
  refine own_stJ 117 1 X300 hx hby hZ e300 V_c2_298 d10_116 rfl (by decide) (by decide) (Nat.le_of_ble_eq_true rfl) ?_
  intro T301 h301 X301 e301 W301 V301
  have V301 : Arv Z h301 c2 k_c2 .long (16 : Int32) [(.long y0), (.long y1), (.long y2), (.long (0 : Int64))] (.long (0 : Int64)) := V301
  have E_c0_301 := E_c0_298.wr W301
  have F_c0_droppedTotal_301 := F_c0_droppedTotal_298.other W301 (Or.inl ne_c0_c2)
  have F_c0_end_301 := F_c0_end_298.other W301 (Or.inl ne_c0_c2)
  have F_c0_firsts_301 := F_c0_firsts_298.other W301 (Or.inl ne_c0_c2)
  have F_c0_head_301 := F_c0_head_298.other W301 (Or.inl ne_c0_c2)
  have F_c0_lasts_301 := F_c0_lasts_298.other W301 (Or.inl ne_c0_c2)
  have F_c0_totals_301 := F_c0_totals_298.other W301 (Or.inl ne_c0_c2)
  have V_c1_301 := V298.other W301 ne_c1_c2
  have V_c3_301 := V_c3_298.other W301 (Ne.symm ne_c2_c3)
  have K301 : Keep h0 h301 [c1, c2, c3, c0] := K298.wr W301 (Or.inl (List.mem_of_getElem? (i := 1) rfl))
  have O301 := O298.wr W301 n_c2
  have N301 := Fr.snoc X301 N298 n_c2
  refine own_aload_n 118 X301 hx hby d10_117 rfl rfl rfl ?_
  refine own_getF 121 X301 hx hby hZ hown (own_w hw 16 rfl) e301 F_c0_totals_301 d10_118 rfl ?_
  intro T302 X302 e302
  refine own_iload_n 122 X302 hx hby d10_121 rfl rfl ?_
  refine own_aload_n 123 X302 hx hby d10_122 rfl rfl rfl ?_
  refine own_getF 126 X302 hx hby hZ hown (own_w hw 16 rfl) e302 F_c0_totals_301 d10_123 rfl ?_
  intro T303 X303 e303
  refine own_iload 128 X303 hx hby d10_126 rfl rfl ?_
  refine own_laload 129 (.long y4) X303 hx hby hZ e303 V_c3_301 d10_128 rfl (by decide) rfl ?_
  refine own_stJ 130 1 X303 hx hby hZ e303 V_c3_301 d10_129 rfl (by decide) (by decide) (Nat.le_of_ble_eq_true rfl) ?_
  intro T304 h304 X304 e304 W304 V304
  have V304 : Arv Z h304 c3 k_c3 .long (16 : Int32) [(.long y3), (.long y4), (.long y5), (.long (0 : Int64))] (.long (0 : Int64)) := V304
  have E_c0_304 := E_c0_301.wr W304
  have F_c0_droppedTotal_304 := F_c0_droppedTotal_301.other W304 (Or.inl ne_c0_c3)
  have F_c0_end_304 := F_c0_end_301.other W304 (Or.inl ne_c0_c3)
  have F_c0_firsts_304 := F_c0_firsts_301.other W304 (Or.inl ne_c0_c3)
  have F_c0_head_304 := F_c0_head_301.other W304 (Or.inl ne_c0_c3)
  have F_c0_lasts_304 := F_c0_lasts_301.other W304 (Or.inl ne_c0_c3)
  have F_c0_totals_304 := F_c0_totals_301.other W304 (Or.inl ne_c0_c3)
  have V_c1_304 := V_c1_301.other W304 ne_c1_c3
  have V_c2_304 := V301.other W304 ne_c2_c3
  have K304 : Keep h0 h304 [c1, c2, c3, c0] := K301.wr W304 (Or.inl (List.mem_of_getElem? (i := 2) rfl))
  have O304 := O301.wr W304 n_c3
  have N304 := Fr.snoc X304 N301 n_c3
  refine own_iinc 133 #[oA c0, oJ y5, oS, oI (1 : Int32), oI (0 : Int32), oJ (y5 - y3), oS, oJ (y5 - y5), oS] X304 hx hby d10_130 rfl rfl rfl ?_
  refine own_goto 27 X304 hx hby d10_133 (by decide) (by decide) ?_
  refine own_iload 29 X304 hx hby d10_27 rfl rfl ?_
  refine own_aload_n 30 X304 hx hby d10_29 rfl rfl rfl ?_
  refine own_getF 33 X304 hx hby hZ hown (own_w hw 29 rfl) e304 F_c0_head_304 d10_30 rfl ?_
  intro T305 X305 e305
  refine own_icN 36 X305 hx hby d10_33 rfl (by decide) ?_
  refine own_aload_n 37 X305 hx hby d10_36 rfl rfl rfl ?_
  refine own_getF 40 X305 hx hby hZ hown (own_w hw 16 rfl) e305 F_c0_totals_304 d10_37 rfl ?_
  intro T306 X306 e306
  refine own_iload_n 41 X306 hx hby d10_40 rfl rfl ?_
  refine own_laload 42 (.long y4) X306 hx hby hZ e306 V304 d10_41 rfl (by decide) rfl ?_
  refine own_aload_n 43 X306 hx hby d10_42 rfl rfl rfl ?_
  refine own_iload 45 X306 hx hby d10_43 rfl rfl ?_
  refine own_priv (W := 2) 48 (rm7_34 l Z a0 hw [] w_NONE k_NONE W c0 c1 k_c1 c2 k_c2 c3 k_c3 y0 y1 y2 y3 y4 y5 h304 n0 O304 E_c0_304 F_c0_droppedTotal_304 F_c0_end_304 F_c0_firsts_304 F_c0_head_304 F_c0_lasts_304 F_c0_totals_304 n_c0 V_c1_304 n_c1 V_c2_304 n_c2 V304 n_c3 ne_c0_c1 ne_c0_c2 ne_c0_c3 ne_c1_c2 ne_c1_c3 ne_c2_c3) X306 hx hby hZ hown (own_w hw 44 rfl) (own_w hw 45 rfl) (own_w hw 46 rfl) (own_w hw 21 rfl) (own_w hw 3 rfl) (own_w hw 47 rfl) rfl (by decide) (by rw [hml]; rfl) c0 [(.int (0 : Int32))] [(.long y4)] pd_5 rfl d10_45 rfl e306 E_c0_304 rfl rfl rfl (by decide) (by decide) (by decide) (by decide) ?_
  rintro _ T309 L309 X309 ⟨rfl, N309, e309⟩
  have N309 := Fr.app N304 N309
  show Go p e below _ (T309.setTop (mkF m 48 _ [(.long (0 : Int64)), (.long y4)]))
  refine own_lsub 49 (y4 - (0 : Int64)) X309 hx hby d10_48 rfl rfl ?_
  refine own_lstore 51 #[oA c0, oJ y5, oS, oI (1 : Int32), oI (0 : Int32), oJ (y4 - (0 : Int64)), oS, oJ (y5 - y5), oS] X309 hx hby d10_49 rfl rfl ?_
  refine own_lload_n 52 X309 hx hby d10_51 rfl rfl ?_
  refine own_aload_n 53 X309 hx hby d10_52 rfl rfl rfl ?_
  refine own_getF 56 X309 hx hby hZ hown (own_w hw 16 rfl) e309 F_c0_totals_304 d10_53 rfl ?_
  intro T310 X310 e310
  refine own_iload_n 57 X310 hx hby d10_56 rfl rfl ?_
  refine own_laload 58 (.long y4) X310 hx hby hZ e310 V304 d10_57 rfl (by decide) rfl ?_
  refine own_lsub 59 (y5 - y4) X310 hx hby d10_58 rfl rfl ?_
  refine own_lstore 61 #[oA c0, oJ y5, oS, oI (1 : Int32), oI (0 : Int32), oJ (y4 - (0 : Int64)), oS, oJ (y5 - y4), oS] X310 hx hby d10_59 rfl rfl ?_
  refine own_lload 63 X310 hx hby d10_61 rfl rfl ?_
  refine own_lload 65 X310 hx hby d10_63 rfl rfl ?_
  refine own_callS (W := 2) 68 (rm11_20 l Z a0 hw [] w_NONE k_NONE W (y5 - y4) h304 n0 O304) X310 hx hby hZ hown (own_w hw 67 rfl) (own_w hw 68 rfl) (own_w hw 3 rfl) (own_w hw 69 rfl) (by decide) (by rw [hml]; rfl) [(.long (y5 - y4))] [(.long (y4 - (0 : Int64)))] pd_7 rfl d10_65 rfl e310 rfl rfl rfl (by decide) (by decide) (by decide) (by decide) ?_
  rintro _ T311 L311 X311 ⟨rfl, N311, e311⟩
  have N311 := Fr.app N309 N311
  show Go p e below _ (T311.setTop (mkF m 68 _ [(.long (((2 : Int64) * ((y5 - y4) / (100 : Int64))) + (2 : Int64))), (.long (y4 - (0 : Int64)))]))
  refine own_lcmp 69 (XT.cmpL (y4 - (0 : Int64)) (((2 : Int64) * ((y5 - y4) / (100 : Int64))) + (2 : Int64))) X311 hx hby d10_68 rfl rfl ?_
  refine own_ifN 72 X311 hx hby d10_69 rfl (own_fltL hc312).2.2.1 ?_
  refine own_aload_n 73 X311 hx hby d10_72 rfl rfl rfl ?_
  refine own_getF 76 X311 hx hby hZ hown (own_w hw 12 rfl) e311 F_c0_firsts_304 d10_73 rfl ?_
  intro T324 X324 e324
  refine own_iload_n 77 X324 hx hby d10_76 rfl rfl ?_
  refine own_aload_n 78 X324 hx hby d10_77 rfl rfl rfl ?_
  refine own_getF 81 X324 hx hby hZ hown (own_w hw 12 rfl) e324 F_c0_firsts_304 d10_78 rfl ?_
  intro T325 X325 e325
  refine own_iload 83 X325 hx hby d10_81 rfl rfl ?_
  refine own_laload 84 (.long y0) X325 hx hby hZ e325 V_c1_304 d10_83 rfl (by decide) rfl ?_
  refine own_stJ 85 1 X325 hx hby hZ e325 V_c1_304 d10_84 rfl (by decide) (by decide) (Nat.le_of_ble_eq_true rfl) ?_
  intro T326 h326 X326 e326 W326 V326
  have V326 : Arv Z h326 c1 k_c1 .long (16 : Int32) [(.long y0), (.long y0), (.long y2), (.long (0 : Int64))] (.long (0 : Int64)) := V326
  have E_c0_326 := E_c0_304.wr W326
  have F_c0_droppedTotal_326 := F_c0_droppedTotal_304.other W326 (Or.inl ne_c0_c1)
  have F_c0_end_326 := F_c0_end_304.other W326 (Or.inl ne_c0_c1)
  have F_c0_firsts_326 := F_c0_firsts_304.other W326 (Or.inl ne_c0_c1)
  have F_c0_head_326 := F_c0_head_304.other W326 (Or.inl ne_c0_c1)
  have F_c0_lasts_326 := F_c0_lasts_304.other W326 (Or.inl ne_c0_c1)
  have F_c0_totals_326 := F_c0_totals_304.other W326 (Or.inl ne_c0_c1)
  have V_c2_326 := V_c2_304.other W326 (Ne.symm ne_c1_c2)
  have V_c3_326 := V304.other W326 (Ne.symm ne_c1_c3)
  have K326 : Keep h0 h326 [c1, c2, c3, c0] := K304.wr W326 (Or.inl (List.mem_of_getElem? (i := 0) rfl))
  have O326 := O304.wr W326 n_c1
  have N326 := Fr.snoc X326 N311 n_c1
  refine own_goto 130 X326 hx hby d10_85 (by decide) (by decide) ?_
  refine own_iinc 133 #[oA c0, oJ y5, oS, oI (1 : Int32), oI (-1 : Int32), oJ (y4 - (0 : Int64)), oS, oJ (y5 - y4), oS] X326 hx hby d10_130 rfl rfl rfl ?_
  refine own_goto 27 X326 hx hby d10_133 (by decide) (by decide) ?_
  refine own_iload 29 X326 hx hby d10_27 rfl rfl ?_
  refine own_aload_n 30 X326 hx hby d10_29 rfl rfl rfl ?_
  refine own_getF 33 X326 hx hby hZ hown (own_w hw 29 rfl) e326 F_c0_head_326 d10_30 rfl ?_
  intro T327 X327 e327
  refine own_icY 136 X327 hx hby d10_33 (by decide) (by decide) (by decide) ?_
  refine own_aload_n 137 X327 hx hby d10_136 rfl rfl rfl ?_
  refine own_iload_n 138 X327 hx hby d10_137 rfl rfl ?_
  refine own_putF 141 X327 hx hby hZ .int hown (own_w hw 29 rfl) e327 F_c0_head_326 E_c0_326 (Or.inl (own_w hw 30 rfl)) (own_w hw 2 rfl) (by decide) rfl rfl d10_138 rfl ?_
  intro T328 h328 X328 e328 W328
  have E_c0_328 := E_c0_326.wr W328
  have F_c0_droppedTotal_328 := F_c0_droppedTotal_326.other W328 (Or.inr (slot_ne (Or.inl (own_w hw 49 rfl)) (Or.inl (own_w hw 30 rfl)) (by decide) (t := .long) (t' := .int) (by decide) (by decide)))
  have F_c0_end_328 := F_c0_end_326.other W328 (Or.inr (slot_ne (Or.inl (own_w hw 24 rfl)) (Or.inl (own_w hw 30 rfl)) (by decide) (t := .int) (t' := .int) (by decide) (by decide)))
  have F_c0_firsts_328 := F_c0_firsts_326.other W328 (Or.inr (slot_ne (Or.inl (own_w hw 13 rfl)) (Or.inl (own_w hw 30 rfl)) (by decide) (t := (.array .long)) (t' := .int) (by decide) (by decide)))
  have F_c0_head_328 := F_c0_head_326.same W328
  have F_c0_lasts_328 := F_c0_lasts_326.other W328 (Or.inr (slot_ne (Or.inl (own_w hw 15 rfl)) (Or.inl (own_w hw 30 rfl)) (by decide) (t := (.array .long)) (t' := .int) (by decide) (by decide)))
  have F_c0_totals_328 := F_c0_totals_326.other W328 (Or.inr (slot_ne (Or.inl (own_w hw 17 rfl)) (Or.inl (own_w hw 30 rfl)) (by decide) (t := (.array .long)) (t' := .int) (by decide) (by decide)))
  have V_c1_328 := V326.other W328 (Ne.symm ne_c0_c1)
  have V_c2_328 := V_c2_326.other W328 (Ne.symm ne_c0_c2)
  have V_c3_328 := V_c3_326.other W328 (Ne.symm ne_c0_c3)
  have K328 : Keep h0 h328 [c1, c2, c3, c0] := K326.wr W328 (Or.inl (List.mem_of_getElem? (i := 3) rfl))
  have O328 := O326.wr W328 n_c0
  have N328 := Fr.snoc X328 N326 n_c0
  exact own_ret0 (Q := Q_rm10_36 Z w_NONE k_NONE c0 c1 k_c1 c2 k_c2 c3 k_c3 y0 y1 y2 y3 y4 y5 h0 n0) X328 hx hby hret hlk d10_141 (by decide) (by decide) (by rw [e328]; exact ⟨rfl, N328, K328, E_c0_328, F_c0_droppedTotal_328, F_c0_end_328, F_c0_firsts_328, F_c0_head_328, F_c0_lasts_328, F_c0_totals_328, V_c1_328, V_c2_328, V_c3_328⟩)
set_option maxRecDepth 65536 in
set_option maxHeartbeats 40000000 in
theorem rm7_37 (l : Launch) (Z : State) (a0 : Array Value) (hw : ∀ d ∈ tables_1, d.before a0 Z = true) (ws : List Jvm.Cond) (w_NONE k_NONE : Addr) (W : own_W Z w_NONE k_NONE) (c0 : Addr) (c1 : Addr) (k_c1 : ClassId) (c2 : Addr) (k_c2 : ClassId) (c3 : Addr) (k_c3 : ClassId) (y0 : Int64) (y1 : Int64) (y2 : Int64) (y3 : Int64) (y4 : Int64) (y5 : Int64) (h0 : Heap) (n0 : Nat) (O0 : Old Z n0 h0) (E_c0 : Exa Z h0 c0 "com/example/meter/meter/store/Spans") (F_c0_droppedTotal : Fld Z h0 c0 "com/example/meter/meter/store/Spans" "droppedTotal" "J" (.long (0 : Int64))) (F_c0_end : Fld Z h0 c0 "com/example/meter/meter/store/Spans" "end" "I" (.int (3 : Int32))) (F_c0_firsts : Fld Z h0 c0 "com/example/meter/meter/store/Spans" "firsts" "[J" (.ref c1)) (F_c0_head : Fld Z h0 c0 "com/example/meter/meter/store/Spans" "head" "I" (.int (0 : Int32))) (F_c0_lasts : Fld Z h0 c0 "com/example/meter/meter/store/Spans" "lasts" "[J" (.ref c2)) (F_c0_totals : Fld Z h0 c0 "com/example/meter/meter/store/Spans" "totals" "[J" (.ref c3)) (n_c0 : n0 ≤ c0) (V_c1 : Arv Z h0 c1 k_c1 .long (16 : Int32) [(.long y0), (.long y1), (.long y1), (.long (0 : Int64))] (.long (0 : Int64))) (n_c1 : n0 ≤ c1) (V_c2 : Arv Z h0 c2 k_c2 .long (16 : Int32) [(.long y0), (.long y1), (.long y2), (.long (0 : Int64))] (.long (0 : Int64))) (n_c2 : n0 ≤ c2) (V_c3 : Arv Z h0 c3 k_c3 .long (16 : Int32) [(.long y3), (.long y4), (.long y5), (.long (0 : Int64))] (.long (0 : Int64))) (n_c3 : n0 ≤ c3) (ne_c0_c1 : c0 ≠ c1) (ne_c0_c2 : c0 ≠ c2) (ne_c0_c3 : c0 ≠ c3) (ne_c1_c2 : c1 ≠ c2) (ne_c1_c3 : c1 ≠ c3) (ne_c2_c3 : c2 ≠ c3) :
    MetFree l (⟨"com/example/meter/meter/store/Spans", "totalBefore", "(I)J"⟩ : MethodName) (head1 (Jvm.Cond.code (⟨"com/example/meter/meter/store/Spans", "totalBefore", "(I)J"⟩ : MethodName) prog_11_method_14_code 2 (some .long) :: ws) ({ frames := 0, cells := 0, slots := 0, locals := 0 } : Room)) (fun a U => a = #[(.ref c0), (.int (0 : Int32))] ∧ Z.Warmed39 U.vm ∧ U.heap = h0) (fun _ _ _ _ _ => True) (fun _ U o U' => ∃ v L, o = .returned v ∧ own_Q (some (.long (0 : Int64))) n0 h0 v U'.heap L ∧ FrameEnd U o U' L ({ frames := 0, cells := 0, slots := 0, locals := 0 } : Room).cells ({ frames := 0, cells := 0, slots := 0, locals := 0 } : Room).slots) := by
  refine MetFree.of_bodySF (plainFor_of_name pn_0) hisR ?_
  intro p e s m args below meth c s₁ Bd hml0 hP hK
  obtain ⟨rfl, hZ, hh⟩ := hP
  have hx := Bd.exec
  have hby := Bd.bytes
  have hml : c.maxLocals = 2 := hml0
  have hlk := BodyLoose.notSynchronized Bd
  have hret := Bd.returns
  have hown : s.vm.findClass "com/example/meter/meter/store/Spans" = some m.cls := findClass_of_methodNamed Bd.named
  have hnm := (name_of_methodNamed Bd.named Bd.method).1
  have X0 : Stand p l e ({ frames := 0, cells := 0, slots := 0, locals := 0 } : Room) s m #[(.ref c0), (.int (0 : Int32))] below meth c s₁ [] 0 0 := Stand.of_body Bd
  have e0 : s₁.heap = h0 := by rw [← hh, Bd.state]; rfl
  have N0 := Fr.nil n0
  rw [ef_7 m c0 (0 : Int32)]
  show Go p e below _ (s₁.setTop (mkF m 0 #[oA c0, oI (0 : Int32)] []))
  refine own_iload_n 1 X0 hx hby d7_0 rfl rfl ?_
  refine own_aload_n 2 X0 hx hby d7_1 rfl rfl rfl ?_
  refine own_getF 5 X0 hx hby hZ hown (own_w hw 29 rfl) e0 F_c0_head d7_2 rfl ?_
  intro T334 X334 e334
  refine own_icN 8 X334 hx hby d7_5 rfl (by decide) ?_
  refine own_aload_n 9 X334 hx hby d7_8 rfl rfl rfl ?_
  refine own_getF 12 X334 hx hby hZ hown (own_w hw 48 rfl) e334 F_c0_droppedTotal d7_9 rfl ?_
  intro T335 X335 e335
  refine own_goto 23 X335 hx hby d7_12 (by decide) (by decide) ?_
  exact own_ret (Q := own_Q (some (.long (0 : Int64))) n0 h0) X335 hx hby hret hlk d7_23 rfl (Or.inr (Or.inl ⟨rfl, rfl, _, rfl⟩)) (by decide) (by decide) ⟨rfl, N0, e335⟩
def Q_rm10_38 (Z : State) (w_NONE k_NONE : Addr) (c0 : Addr) (c1 : Addr) (k_c1 : ClassId) (c2 : Addr) (k_c2 : ClassId) (c3 : Addr) (k_c3 : ClassId) (y0 : Int64) (y1 : Int64) (y2 : Int64) (y3 : Int64) (y4 : Int64) (y5 : Int64) (h0 : Heap) (n0 : Nat) (v : Option Value) (h : Heap) (L : List Loc) : Prop := v = none ∧ Fr n0 L ∧ Keep h0 h [c1, c2, c3, c0] ∧ Exa Z h c0 "com/example/meter/meter/store/Spans" ∧ Fld Z h c0 "com/example/meter/meter/store/Spans" "droppedTotal" "J" (.long (0 : Int64)) ∧ Fld Z h c0 "com/example/meter/meter/store/Spans" "end" "I" (.int (3 : Int32)) ∧ Fld Z h c0 "com/example/meter/meter/store/Spans" "firsts" "[J" (.ref c1) ∧ Fld Z h c0 "com/example/meter/meter/store/Spans" "head" "I" (.int (1 : Int32)) ∧ Fld Z h c0 "com/example/meter/meter/store/Spans" "lasts" "[J" (.ref c2) ∧ Fld Z h c0 "com/example/meter/meter/store/Spans" "totals" "[J" (.ref c3) ∧ Arv Z h c1 k_c1 .long (16 : Int32) [(.long y0), (.long y0), (.long y1), (.long (0 : Int64))] (.long (0 : Int64)) ∧ Arv Z h c2 k_c2 .long (16 : Int32) [(.long y0), (.long y0), (.long y2), (.long (0 : Int64))] (.long (0 : Int64)) ∧ Arv Z h c3 k_c3 .long (16 : Int32) [(.long y3), (.long y3), (.long y5), (.long (0 : Int64))] (.long (0 : Int64))
set_option maxRecDepth 65536 in
set_option maxHeartbeats 40000000 in
theorem rm10_38 (l : Launch) (Z : State) (a0 : Array Value) (hw : ∀ d ∈ tables_1, d.before a0 Z = true) (ws : List Jvm.Cond) (w_NONE k_NONE : Addr) (W : own_W Z w_NONE k_NONE) (c0 : Addr) (c1 : Addr) (k_c1 : ClassId) (c2 : Addr) (k_c2 : ClassId) (c3 : Addr) (k_c3 : ClassId) (y0 : Int64) (y1 : Int64) (y2 : Int64) (y3 : Int64) (y4 : Int64) (y5 : Int64) (h0 : Heap) (n0 : Nat) (O0 : Old Z n0 h0) (E_c0 : Exa Z h0 c0 "com/example/meter/meter/store/Spans") (F_c0_droppedTotal : Fld Z h0 c0 "com/example/meter/meter/store/Spans" "droppedTotal" "J" (.long (0 : Int64))) (F_c0_end : Fld Z h0 c0 "com/example/meter/meter/store/Spans" "end" "I" (.int (3 : Int32))) (F_c0_firsts : Fld Z h0 c0 "com/example/meter/meter/store/Spans" "firsts" "[J" (.ref c1)) (F_c0_head : Fld Z h0 c0 "com/example/meter/meter/store/Spans" "head" "I" (.int (0 : Int32))) (F_c0_lasts : Fld Z h0 c0 "com/example/meter/meter/store/Spans" "lasts" "[J" (.ref c2)) (F_c0_totals : Fld Z h0 c0 "com/example/meter/meter/store/Spans" "totals" "[J" (.ref c3)) (n_c0 : n0 ≤ c0) (V_c1 : Arv Z h0 c1 k_c1 .long (16 : Int32) [(.long y0), (.long y1), (.long y2), (.long (0 : Int64))] (.long (0 : Int64))) (n_c1 : n0 ≤ c1) (V_c2 : Arv Z h0 c2 k_c2 .long (16 : Int32) [(.long y0), (.long y1), (.long y2), (.long (0 : Int64))] (.long (0 : Int64))) (n_c2 : n0 ≤ c2) (V_c3 : Arv Z h0 c3 k_c3 .long (16 : Int32) [(.long y3), (.long y4), (.long y5), (.long (0 : Int64))] (.long (0 : Int64))) (n_c3 : n0 ≤ c3) (ne_c0_c1 : c0 ≠ c1) (ne_c0_c2 : c0 ≠ c2) (ne_c0_c3 : c0 ≠ c3) (ne_c1_c2 : c1 ≠ c2) (ne_c1_c3 : c1 ≠ c3) (ne_c2_c3 : c2 ≠ c3) (hc295 : ¬ ((((2 : Int64) * ((y5 - y5) / (100 : Int64))) + (2 : Int64)) < (y5 - y3))) (hc339 : (((2 : Int64) * ((y5 - y5) / (100 : Int64))) + (2 : Int64)) < (y5 - (0 : Int64))) :
    MetFree l (⟨"com/example/meter/meter/store/Spans", "join", "()V"⟩ : MethodName) (head1 (Jvm.Cond.code (⟨"com/example/meter/meter/store/Spans", "join", "()V"⟩ : MethodName) prog_11_method_12_code 9 none :: ws) ({ frames := 1, cells := 0, slots := 0, locals := 15 } : Room)) (fun a U => a = #[(.ref c0)] ∧ Z.Warmed39 U.vm ∧ U.heap = h0) (fun _ _ _ _ _ => True) (fun _ U o U' => ∃ v L, o = .returned v ∧ Q_rm10_38 Z w_NONE k_NONE c0 c1 k_c1 c2 k_c2 c3 k_c3 y0 y1 y2 y3 y4 y5 h0 n0 v U'.heap L ∧ FrameEnd U o U' L ({ frames := 1, cells := 0, slots := 0, locals := 15 } : Room).cells ({ frames := 1, cells := 0, slots := 0, locals := 15 } : Room).slots) := by
  refine MetFree.of_bodySF (plainFor_of_name pn_0) hisR ?_
  intro p e s m args below meth c s₁ Bd hml0 hP hK
  obtain ⟨rfl, hZ, hh⟩ := hP
  have hx := Bd.exec
  have hby := Bd.bytes
  have hml : c.maxLocals = 9 := hml0
  have hlk := BodyLoose.notSynchronized Bd
  have hret := Bd.returns
  have hown : s.vm.findClass "com/example/meter/meter/store/Spans" = some m.cls := findClass_of_methodNamed Bd.named
  have hnm := (name_of_methodNamed Bd.named Bd.method).1
  have X0 : Stand p l e ({ frames := 1, cells := 0, slots := 0, locals := 15 } : Room) s m #[(.ref c0)] below meth c s₁ [] 0 0 := Stand.of_body Bd
  have e0 : s₁.heap = h0 := by rw [← hh, Bd.state]; rfl
  have N0 := Fr.nil n0
  rw [ef_10 m c0]
  show Go p e below _ (s₁.setTop (mkF m 0 #[oA c0, oU, oU, oU, oU, oU, oU, oU, oU] []))
  refine own_aload_n 1 X0 hx hby d10_0 rfl rfl rfl ?_
  refine own_getF 4 X0 hx hby hZ hown (own_w hw 16 rfl) e0 F_c0_totals d10_1 rfl ?_
  intro T284 X284 e284
  refine own_aload_n 5 X284 hx hby d10_4 rfl rfl rfl ?_
  refine own_getF 8 X284 hx hby hZ hown (own_w hw 23 rfl) e284 F_c0_end d10_5 rfl ?_
  intro T285 X285 e285
  refine own_iconst 9 (1 : Int32) X285 hx hby d10_8 rfl (by decide) ?_
  refine own_isub 10 (2 : Int32) X285 hx hby d10_9 rfl (by decide) ?_
  refine own_laload 11 (.long y5) X285 hx hby hZ e285 V_c3 d10_10 rfl (by decide) rfl ?_
  refine own_lstore_n 12 #[oA c0, oJ y5, oS, oU, oU, oU, oU, oU, oU] X285 hx hby d10_11 rfl rfl ?_
  refine own_aload_n 13 X285 hx hby d10_12 rfl rfl rfl ?_
  refine own_getF 16 X285 hx hby hZ hown (own_w hw 23 rfl) e285 F_c0_end d10_13 rfl ?_
  intro T286 X286 e286
  refine own_iconst 17 (1 : Int32) X286 hx hby d10_16 rfl (by decide) ?_
  refine own_isub 18 (2 : Int32) X286 hx hby d10_17 rfl (by decide) ?_
  refine own_istore_n 19 #[oA c0, oJ y5, oS, oI (2 : Int32), oU, oU, oU, oU, oU] X286 hx hby d10_18 rfl rfl ?_
  refine own_aload_n 20 X286 hx hby d10_19 rfl rfl rfl ?_
  refine own_getF 23 X286 hx hby hZ hown (own_w hw 23 rfl) e286 F_c0_end d10_20 rfl ?_
  intro T287 X287 e287
  refine own_iconst 24 (2 : Int32) X287 hx hby d10_23 rfl (by decide) ?_
  refine own_isub 25 (1 : Int32) X287 hx hby d10_24 rfl (by decide) ?_
  refine own_istore 27 #[oA c0, oJ y5, oS, oI (2 : Int32), oI (1 : Int32), oU, oU, oU, oU] X287 hx hby d10_25 rfl rfl ?_
  refine own_iload 29 X287 hx hby d10_27 rfl rfl ?_
  refine own_aload_n 30 X287 hx hby d10_29 rfl rfl rfl ?_
  refine own_getF 33 X287 hx hby hZ hown (own_w hw 29 rfl) e287 F_c0_head d10_30 rfl ?_
  intro T288 X288 e288
  refine own_icN 36 X288 hx hby d10_33 rfl (by decide) ?_
  refine own_aload_n 37 X288 hx hby d10_36 rfl rfl rfl ?_
  refine own_getF 40 X288 hx hby hZ hown (own_w hw 16 rfl) e288 F_c0_totals d10_37 rfl ?_
  intro T289 X289 e289
  refine own_iload_n 41 X289 hx hby d10_40 rfl rfl ?_
  refine own_laload 42 (.long y5) X289 hx hby hZ e289 V_c3 d10_41 rfl (by decide) rfl ?_
  refine own_aload_n 43 X289 hx hby d10_42 rfl rfl rfl ?_
  refine own_iload 45 X289 hx hby d10_43 rfl rfl ?_
  refine own_priv (W := 2) 48 (rm7_33 l Z a0 hw [] w_NONE k_NONE W c0 c1 k_c1 c2 k_c2 c3 k_c3 y0 y1 y2 y3 y4 y5 h0 n0 O0 E_c0 F_c0_droppedTotal F_c0_end F_c0_firsts F_c0_head F_c0_lasts F_c0_totals n_c0 V_c1 n_c1 V_c2 n_c2 V_c3 n_c3 ne_c0_c1 ne_c0_c2 ne_c0_c3 ne_c1_c2 ne_c1_c3 ne_c2_c3) X289 hx hby hZ hown (own_w hw 44 rfl) (own_w hw 45 rfl) (own_w hw 46 rfl) (own_w hw 21 rfl) (own_w hw 3 rfl) (own_w hw 47 rfl) rfl (by decide) (by rw [hml]; rfl) c0 [(.int (1 : Int32))] [(.long y5)] pd_5 rfl d10_45 rfl e289 E_c0 rfl rfl rfl (by decide) (by decide) (by decide) (by decide) ?_
  rintro _ T292 L292 X292 ⟨rfl, N292, e292⟩
  have N292 := Fr.app N0 N292
  show Go p e below _ (T292.setTop (mkF m 48 _ [(.long y3), (.long y5)]))
  refine own_lsub 49 (y5 - y3) X292 hx hby d10_48 rfl rfl ?_
  refine own_lstore 51 #[oA c0, oJ y5, oS, oI (2 : Int32), oI (1 : Int32), oJ (y5 - y3), oS, oU, oU] X292 hx hby d10_49 rfl rfl ?_
  refine own_lload_n 52 X292 hx hby d10_51 rfl rfl ?_
  refine own_aload_n 53 X292 hx hby d10_52 rfl rfl rfl ?_
  refine own_getF 56 X292 hx hby hZ hown (own_w hw 16 rfl) e292 F_c0_totals d10_53 rfl ?_
  intro T293 X293 e293
  refine own_iload_n 57 X293 hx hby d10_56 rfl rfl ?_
  refine own_laload 58 (.long y5) X293 hx hby hZ e293 V_c3 d10_57 rfl (by decide) rfl ?_
  refine own_lsub 59 (y5 - y5) X293 hx hby d10_58 rfl rfl ?_
  refine own_lstore 61 #[oA c0, oJ y5, oS, oI (2 : Int32), oI (1 : Int32), oJ (y5 - y3), oS, oJ (y5 - y5), oS] X293 hx hby d10_59 rfl rfl ?_
  refine own_lload 63 X293 hx hby d10_61 rfl rfl ?_
  refine own_lload 65 X293 hx hby d10_63 rfl rfl ?_
  refine own_callS (W := 2) 68 (rm11_20 l Z a0 hw [] w_NONE k_NONE W (y5 - y5) h0 n0 O0) X293 hx hby hZ hown (own_w hw 67 rfl) (own_w hw 68 rfl) (own_w hw 3 rfl) (own_w hw 69 rfl) (by decide) (by rw [hml]; rfl) [(.long (y5 - y5))] [(.long (y5 - y3))] pd_7 rfl d10_65 rfl e293 rfl rfl rfl (by decide) (by decide) (by decide) (by decide) ?_
  rintro _ T294 L294 X294 ⟨rfl, N294, e294⟩
  have N294 := Fr.app N292 N294
  show Go p e below _ (T294.setTop (mkF m 68 _ [(.long (((2 : Int64) * ((y5 - y5) / (100 : Int64))) + (2 : Int64))), (.long (y5 - y3))]))
  refine own_lcmp 69 (XT.cmpL (y5 - y3) (((2 : Int64) * ((y5 - y5) / (100 : Int64))) + (2 : Int64))) X294 hx hby d10_68 rfl rfl ?_
  refine own_ifN 72 X294 hx hby d10_69 rfl (own_fltL hc295).2.2.1 ?_
  refine own_aload_n 73 X294 hx hby d10_72 rfl rfl rfl ?_
  refine own_getF 76 X294 hx hby hZ hown (own_w hw 12 rfl) e294 F_c0_firsts d10_73 rfl ?_
  intro T329 X329 e329
  refine own_iload_n 77 X329 hx hby d10_76 rfl rfl ?_
  refine own_aload_n 78 X329 hx hby d10_77 rfl rfl rfl ?_
  refine own_getF 81 X329 hx hby hZ hown (own_w hw 12 rfl) e329 F_c0_firsts d10_78 rfl ?_
  intro T330 X330 e330
  refine own_iload 83 X330 hx hby d10_81 rfl rfl ?_
  refine own_laload 84 (.long y1) X330 hx hby hZ e330 V_c1 d10_83 rfl (by decide) rfl ?_
  refine own_stJ 85 2 X330 hx hby hZ e330 V_c1 d10_84 rfl (by decide) (by decide) (Nat.le_of_ble_eq_true rfl) ?_
  intro T331 h331 X331 e331 W331 V331
  have V331 : Arv Z h331 c1 k_c1 .long (16 : Int32) [(.long y0), (.long y1), (.long y1), (.long (0 : Int64))] (.long (0 : Int64)) := V331
  have E_c0_331 := E_c0.wr W331
  have F_c0_droppedTotal_331 := F_c0_droppedTotal.other W331 (Or.inl ne_c0_c1)
  have F_c0_end_331 := F_c0_end.other W331 (Or.inl ne_c0_c1)
  have F_c0_firsts_331 := F_c0_firsts.other W331 (Or.inl ne_c0_c1)
  have F_c0_head_331 := F_c0_head.other W331 (Or.inl ne_c0_c1)
  have F_c0_lasts_331 := F_c0_lasts.other W331 (Or.inl ne_c0_c1)
  have F_c0_totals_331 := F_c0_totals.other W331 (Or.inl ne_c0_c1)
  have V_c2_331 := V_c2.other W331 (Ne.symm ne_c1_c2)
  have V_c3_331 := V_c3.other W331 (Ne.symm ne_c1_c3)
  have K331 : Keep h0 h331 [c1, c2, c3, c0] := (Keep.refl h0 [c1, c2, c3, c0]).wr W331 (Or.inl (List.mem_of_getElem? (i := 0) rfl))
  have O331 := O0.wr W331 n_c1
  have N331 := Fr.snoc X331 N294 n_c1
  refine own_goto 130 X331 hx hby d10_85 (by decide) (by decide) ?_
  refine own_iinc 133 #[oA c0, oJ y5, oS, oI (2 : Int32), oI (0 : Int32), oJ (y5 - y3), oS, oJ (y5 - y5), oS] X331 hx hby d10_130 rfl rfl rfl ?_
  refine own_goto 27 X331 hx hby d10_133 (by decide) (by decide) ?_
  refine own_iload 29 X331 hx hby d10_27 rfl rfl ?_
  refine own_aload_n 30 X331 hx hby d10_29 rfl rfl rfl ?_
  refine own_getF 33 X331 hx hby hZ hown (own_w hw 29 rfl) e331 F_c0_head_331 d10_30 rfl ?_
  intro T332 X332 e332
  refine own_icN 36 X332 hx hby d10_33 rfl (by decide) ?_
  refine own_aload_n 37 X332 hx hby d10_36 rfl rfl rfl ?_
  refine own_getF 40 X332 hx hby hZ hown (own_w hw 16 rfl) e332 F_c0_totals_331 d10_37 rfl ?_
  intro T333 X333 e333
  refine own_iload_n 41 X333 hx hby d10_40 rfl rfl ?_
  refine own_laload 42 (.long y5) X333 hx hby hZ e333 V_c3_331 d10_41 rfl (by decide) rfl ?_
  refine own_aload_n 43 X333 hx hby d10_42 rfl rfl rfl ?_
  refine own_iload 45 X333 hx hby d10_43 rfl rfl ?_
  refine own_priv (W := 2) 48 (rm7_37 l Z a0 hw [] w_NONE k_NONE W c0 c1 k_c1 c2 k_c2 c3 k_c3 y0 y1 y2 y3 y4 y5 h331 n0 O331 E_c0_331 F_c0_droppedTotal_331 F_c0_end_331 F_c0_firsts_331 F_c0_head_331 F_c0_lasts_331 F_c0_totals_331 n_c0 V331 n_c1 V_c2_331 n_c2 V_c3_331 n_c3 ne_c0_c1 ne_c0_c2 ne_c0_c3 ne_c1_c2 ne_c1_c3 ne_c2_c3) X333 hx hby hZ hown (own_w hw 44 rfl) (own_w hw 45 rfl) (own_w hw 46 rfl) (own_w hw 21 rfl) (own_w hw 3 rfl) (own_w hw 47 rfl) rfl (by decide) (by rw [hml]; rfl) c0 [(.int (0 : Int32))] [(.long y5)] pd_5 rfl d10_45 rfl e333 E_c0_331 rfl rfl rfl (by decide) (by decide) (by decide) (by decide) ?_
  rintro _ T336 L336 X336 ⟨rfl, N336, e336⟩
  have N336 := Fr.app N331 N336
  show Go p e below _ (T336.setTop (mkF m 48 _ [(.long (0 : Int64)), (.long y5)]))
  refine own_lsub 49 (y5 - (0 : Int64)) X336 hx hby d10_48 rfl rfl ?_
  refine own_lstore 51 #[oA c0, oJ y5, oS, oI (2 : Int32), oI (0 : Int32), oJ (y5 - (0 : Int64)), oS, oJ (y5 - y5), oS] X336 hx hby d10_49 rfl rfl ?_
  refine own_lload_n 52 X336 hx hby d10_51 rfl rfl ?_
  refine own_aload_n 53 X336 hx hby d10_52 rfl rfl rfl ?_
  refine own_getF 56 X336 hx hby hZ hown (own_w hw 16 rfl) e336 F_c0_totals_331 d10_53 rfl ?_
  intro T337 X337 e337
  refine own_iload_n 57 X337 hx hby d10_56 rfl rfl ?_
  refine own_laload 58 (.long y5) X337 hx hby hZ e337 V_c3_331 d10_57 rfl (by decide) rfl ?_
  refine own_lsub 59 (y5 - y5) X337 hx hby d10_58 rfl rfl ?_
  refine own_lstore 61 #[oA c0, oJ y5, oS, oI (2 : Int32), oI (0 : Int32), oJ (y5 - (0 : Int64)), oS, oJ (y5 - y5), oS] X337 hx hby d10_59 rfl rfl ?_
  refine own_lload 63 X337 hx hby d10_61 rfl rfl ?_
  refine own_lload 65 X337 hx hby d10_63 rfl rfl ?_
  refine own_callS (W := 2) 68 (rm11_20 l Z a0 hw [] w_NONE k_NONE W (y5 - y5) h331 n0 O331) X337 hx hby hZ hown (own_w hw 67 rfl) (own_w hw 68 rfl) (own_w hw 3 rfl) (own_w hw 69 rfl) (by decide) (by rw [hml]; rfl) [(.long (y5 - y5))] [(.long (y5 - (0 : Int64)))] pd_7 rfl d10_65 rfl e337 rfl rfl rfl (by decide) (by decide) (by decide) (by decide) ?_
  rintro _ T338 L338 X338 ⟨rfl, N338, e338⟩
  have N338 := Fr.app N336 N338
  show Go p e below _ (T338.setTop (mkF m 68 _ [(.long (((2 : Int64) * ((y5 - y5) / (100 : Int64))) + (2 : Int64))), (.long (y5 - (0 : Int64)))]))
  refine own_lcmp 69 (XT.cmpL (y5 - (0 : Int64)) (((2 : Int64) * ((y5 - y5) / (100 : Int64))) + (2 : Int64))) X338 hx hby d10_68 rfl rfl ?_
  refine own_ifY 88 X338 hx hby d10_69 (by decide) (by decide) (own_tltL hc339).2.2.1 ?_
  refine own_iinc 91 #[oA c0, oJ y5, oS, oI (1 : Int32), oI (0 : Int32), oJ (y5 - (0 : Int64)), oS, oJ (y5 - y5), oS] X338 hx hby d10_88 rfl rfl rfl ?_
  refine own_aload_n 92 X338 hx hby d10_91 rfl rfl rfl ?_
  refine own_getF 95 X338 hx hby hZ hown (own_w hw 12 rfl) e338 F_c0_firsts_331 d10_92 rfl ?_
  intro T340 X340 e340
  refine own_iload_n 96 X340 hx hby d10_95 rfl rfl ?_
  refine own_aload_n 97 X340 hx hby d10_96 rfl rfl rfl ?_
  refine own_getF 100 X340 hx hby hZ hown (own_w hw 12 rfl) e340 F_c0_firsts_331 d10_97 rfl ?_
  intro T341 X341 e341
  refine own_iload 102 X341 hx hby d10_100 rfl rfl ?_
  refine own_laload 103 (.long y0) X341 hx hby hZ e341 V331 d10_102 rfl (by decide) rfl ?_
  refine own_stJ 104 1 X341 hx hby hZ e341 V331 d10_103 rfl (by decide) (by decide) (Nat.le_of_ble_eq_true rfl) ?_
  intro T342 h342 X342 e342 W342 V342
  have V342 : Arv Z h342 c1 k_c1 .long (16 : Int32) [(.long y0), (.long y0), (.long y1), (.long (0 : Int64))] (.long (0 : Int64)) := V342
  have E_c0_342 := E_c0_331.wr W342
  have F_c0_droppedTotal_342 := F_c0_droppedTotal_331.other W342 (Or.inl ne_c0_c1)
  have F_c0_end_342 := F_c0_end_331.other W342 (Or.inl ne_c0_c1)
  have F_c0_firsts_342 := F_c0_firsts_331.other W342 (Or.inl ne_c0_c1)
  have F_c0_head_342 := F_c0_head_331.other W342 (Or.inl ne_c0_c1)
  have F_c0_lasts_342 := F_c0_lasts_331.other W342 (Or.inl ne_c0_c1)
  have F_c0_totals_342 := F_c0_totals_331.other W342 (Or.inl ne_c0_c1)
  have V_c2_342 := V_c2_331.other W342 (Ne.symm ne_c1_c2)
  have V_c3_342 := V_c3_331.other W342 (Ne.symm ne_c1_c3)
  have K342 : Keep h0 h342 [c1, c2, c3, c0] := K331.wr W342 (Or.inl (List.mem_of_getElem? (i := 0) rfl))
  have O342 := O331.wr W342 n_c1
  have N342 := Fr.snoc X342 N338 n_c1
  refine own_aload_n 105 X342 hx hby d10_104 rfl rfl rfl ?_
  refine own_getF 108 X342 hx hby hZ hown (own_w hw 14 rfl) e342 F_c0_lasts_342 d10_105 rfl ?_
  intro T343 X343 e343
  refine own_iload_n 109 X343 hx hby d10_108 rfl rfl ?_
  refine own_aload_n 110 X343 hx hby d10_109 rfl rfl rfl ?_
  refine own_getF 113 X343 hx hby hZ hown (own_w hw 14 rfl) e343 F_c0_lasts_342 d10_110 rfl ?_
  intro T344 X344 e344
  refine own_iload 115 X344 hx hby d10_113 rfl rfl ?_
  refine own_laload 116 (.long y0) X344 hx hby hZ e344 V_c2_342 d10_115 rfl (by decide) rfl ?_
  refine own_stJ 117 1 X344 hx hby hZ e344 V_c2_342 d10_116 rfl (by decide) (by decide) (Nat.le_of_ble_eq_true rfl) ?_
  intro T345 h345 X345 e345 W345 V345
  have V345 : Arv Z h345 c2 k_c2 .long (16 : Int32) [(.long y0), (.long y0), (.long y2), (.long (0 : Int64))] (.long (0 : Int64)) := V345
  have E_c0_345 := E_c0_342.wr W345
  have F_c0_droppedTotal_345 := F_c0_droppedTotal_342.other W345 (Or.inl ne_c0_c2)
  have F_c0_end_345 := F_c0_end_342.other W345 (Or.inl ne_c0_c2)
  have F_c0_firsts_345 := F_c0_firsts_342.other W345 (Or.inl ne_c0_c2)
  have F_c0_head_345 := F_c0_head_342.other W345 (Or.inl ne_c0_c2)
  have F_c0_lasts_345 := F_c0_lasts_342.other W345 (Or.inl ne_c0_c2)
  have F_c0_totals_345 := F_c0_totals_342.other W345 (Or.inl ne_c0_c2)
  have V_c1_345 := V342.other W345 ne_c1_c2
  have V_c3_345 := V_c3_342.other W345 (Ne.symm ne_c2_c3)
  have K345 : Keep h0 h345 [c1, c2, c3, c0] := K342.wr W345 (Or.inl (List.mem_of_getElem? (i := 1) rfl))
  have O345 := O342.wr W345 n_c2
  have N345 := Fr.snoc X345 N342 n_c2
  refine own_aload_n 118 X345 hx hby d10_117 rfl rfl rfl ?_
  refine own_getF 121 X345 hx hby hZ hown (own_w hw 16 rfl) e345 F_c0_totals_345 d10_118 rfl ?_
  intro T346 X346 e346
  refine own_iload_n 122 X346 hx hby d10_121 rfl rfl ?_
  refine own_aload_n 123 X346 hx hby d10_122 rfl rfl rfl ?_
  refine own_getF 126 X346 hx hby hZ hown (own_w hw 16 rfl) e346 F_c0_totals_345 d10_123 rfl ?_
  intro T347 X347 e347
  refine own_iload 128 X347 hx hby d10_126 rfl rfl ?_
  refine own_laload 129 (.long y3) X347 hx hby hZ e347 V_c3_345 d10_128 rfl (by decide) rfl ?_
  refine own_stJ 130 1 X347 hx hby hZ e347 V_c3_345 d10_129 rfl (by decide) (by decide) (Nat.le_of_ble_eq_true rfl) ?_
  intro T348 h348 X348 e348 W348 V348
  have V348 : Arv Z h348 c3 k_c3 .long (16 : Int32) [(.long y3), (.long y3), (.long y5), (.long (0 : Int64))] (.long (0 : Int64)) := V348
  have E_c0_348 := E_c0_345.wr W348
  have F_c0_droppedTotal_348 := F_c0_droppedTotal_345.other W348 (Or.inl ne_c0_c3)
  have F_c0_end_348 := F_c0_end_345.other W348 (Or.inl ne_c0_c3)
  have F_c0_firsts_348 := F_c0_firsts_345.other W348 (Or.inl ne_c0_c3)
  have F_c0_head_348 := F_c0_head_345.other W348 (Or.inl ne_c0_c3)
  have F_c0_lasts_348 := F_c0_lasts_345.other W348 (Or.inl ne_c0_c3)
  have F_c0_totals_348 := F_c0_totals_345.other W348 (Or.inl ne_c0_c3)
  have V_c1_348 := V_c1_345.other W348 ne_c1_c3
  have V_c2_348 := V345.other W348 ne_c2_c3
  have K348 : Keep h0 h348 [c1, c2, c3, c0] := K345.wr W348 (Or.inl (List.mem_of_getElem? (i := 2) rfl))
  have O348 := O345.wr W348 n_c3
  have N348 := Fr.snoc X348 N345 n_c3
  refine own_iinc 133 #[oA c0, oJ y5, oS, oI (1 : Int32), oI (-1 : Int32), oJ (y5 - (0 : Int64)), oS, oJ (y5 - y5), oS] X348 hx hby d10_130 rfl rfl rfl ?_
  refine own_goto 27 X348 hx hby d10_133 (by decide) (by decide) ?_
  refine own_iload 29 X348 hx hby d10_27 rfl rfl ?_
  refine own_aload_n 30 X348 hx hby d10_29 rfl rfl rfl ?_
  refine own_getF 33 X348 hx hby hZ hown (own_w hw 29 rfl) e348 F_c0_head_348 d10_30 rfl ?_
  intro T349 X349 e349
  refine own_icY 136 X349 hx hby d10_33 (by decide) (by decide) (by decide) ?_
  refine own_aload_n 137 X349 hx hby d10_136 rfl rfl rfl ?_
  refine own_iload_n 138 X349 hx hby d10_137 rfl rfl ?_
  refine own_putF 141 X349 hx hby hZ .int hown (own_w hw 29 rfl) e349 F_c0_head_348 E_c0_348 (Or.inl (own_w hw 30 rfl)) (own_w hw 2 rfl) (by decide) rfl rfl d10_138 rfl ?_
  intro T350 h350 X350 e350 W350
  have E_c0_350 := E_c0_348.wr W350
  have F_c0_droppedTotal_350 := F_c0_droppedTotal_348.other W350 (Or.inr (slot_ne (Or.inl (own_w hw 49 rfl)) (Or.inl (own_w hw 30 rfl)) (by decide) (t := .long) (t' := .int) (by decide) (by decide)))
  have F_c0_end_350 := F_c0_end_348.other W350 (Or.inr (slot_ne (Or.inl (own_w hw 24 rfl)) (Or.inl (own_w hw 30 rfl)) (by decide) (t := .int) (t' := .int) (by decide) (by decide)))
  have F_c0_firsts_350 := F_c0_firsts_348.other W350 (Or.inr (slot_ne (Or.inl (own_w hw 13 rfl)) (Or.inl (own_w hw 30 rfl)) (by decide) (t := (.array .long)) (t' := .int) (by decide) (by decide)))
  have F_c0_head_350 := F_c0_head_348.same W350
  have F_c0_lasts_350 := F_c0_lasts_348.other W350 (Or.inr (slot_ne (Or.inl (own_w hw 15 rfl)) (Or.inl (own_w hw 30 rfl)) (by decide) (t := (.array .long)) (t' := .int) (by decide) (by decide)))
  have F_c0_totals_350 := F_c0_totals_348.other W350 (Or.inr (slot_ne (Or.inl (own_w hw 17 rfl)) (Or.inl (own_w hw 30 rfl)) (by decide) (t := (.array .long)) (t' := .int) (by decide) (by decide)))
  have V_c1_350 := V_c1_348.other W350 (Ne.symm ne_c0_c1)
  have V_c2_350 := V_c2_348.other W350 (Ne.symm ne_c0_c2)
  have V_c3_350 := V348.other W350 (Ne.symm ne_c0_c3)
  have K350 : Keep h0 h350 [c1, c2, c3, c0] := K348.wr W350 (Or.inl (List.mem_of_getElem? (i := 3) rfl))
  have O350 := O348.wr W350 n_c0
  have N350 := Fr.snoc X350 N348 n_c0
  exact own_ret0 (Q := Q_rm10_38 Z w_NONE k_NONE c0 c1 k_c1 c2 k_c2 c3 k_c3 y0 y1 y2 y3 y4 y5 h0 n0) X350 hx hby hret hlk d10_141 (by decide) (by decide) (by rw [e350]; exact ⟨rfl, N350, K350, E_c0_350, F_c0_droppedTotal_350, F_c0_end_350, F_c0_firsts_350, F_c0_head_350, F_c0_lasts_350, F_c0_totals_350, V_c1_350, V_c2_350, V_c3_350⟩)
def Q_rm10_39 (Z : State) (w_NONE k_NONE : Addr) (c0 : Addr) (c1 : Addr) (k_c1 : ClassId) (c2 : Addr) (k_c2 : ClassId) (c3 : Addr) (k_c3 : ClassId) (y0 : Int64) (y1 : Int64) (y2 : Int64) (y3 : Int64) (y4 : Int64) (y5 : Int64) (h0 : Heap) (n0 : Nat) (v : Option Value) (h : Heap) (L : List Loc) : Prop := v = none ∧ Fr n0 L ∧ Keep h0 h [c1, c0] ∧ Exa Z h c0 "com/example/meter/meter/store/Spans" ∧ Fld Z h c0 "com/example/meter/meter/store/Spans" "droppedTotal" "J" (.long (0 : Int64)) ∧ Fld Z h c0 "com/example/meter/meter/store/Spans" "end" "I" (.int (3 : Int32)) ∧ Fld Z h c0 "com/example/meter/meter/store/Spans" "firsts" "[J" (.ref c1) ∧ Fld Z h c0 "com/example/meter/meter/store/Spans" "head" "I" (.int (2 : Int32)) ∧ Fld Z h c0 "com/example/meter/meter/store/Spans" "lasts" "[J" (.ref c2) ∧ Fld Z h c0 "com/example/meter/meter/store/Spans" "totals" "[J" (.ref c3) ∧ Arv Z h c1 k_c1 .long (16 : Int32) [(.long y0), (.long y1), (.long y0), (.long (0 : Int64))] (.long (0 : Int64)) ∧ Arv Z h c2 k_c2 .long (16 : Int32) [(.long y0), (.long y1), (.long y2), (.long (0 : Int64))] (.long (0 : Int64)) ∧ Arv Z h c3 k_c3 .long (16 : Int32) [(.long y3), (.long y4), (.long y5), (.long (0 : Int64))] (.long (0 : Int64))
set_option maxRecDepth 65536 in
set_option maxHeartbeats 40000000 in
theorem rm10_39 (l : Launch) (Z : State) (a0 : Array Value) (hw : ∀ d ∈ tables_1, d.before a0 Z = true) (ws : List Jvm.Cond) (w_NONE k_NONE : Addr) (W : own_W Z w_NONE k_NONE) (c0 : Addr) (c1 : Addr) (k_c1 : ClassId) (c2 : Addr) (k_c2 : ClassId) (c3 : Addr) (k_c3 : ClassId) (y0 : Int64) (y1 : Int64) (y2 : Int64) (y3 : Int64) (y4 : Int64) (y5 : Int64) (h0 : Heap) (n0 : Nat) (O0 : Old Z n0 h0) (E_c0 : Exa Z h0 c0 "com/example/meter/meter/store/Spans") (F_c0_droppedTotal : Fld Z h0 c0 "com/example/meter/meter/store/Spans" "droppedTotal" "J" (.long (0 : Int64))) (F_c0_end : Fld Z h0 c0 "com/example/meter/meter/store/Spans" "end" "I" (.int (3 : Int32))) (F_c0_firsts : Fld Z h0 c0 "com/example/meter/meter/store/Spans" "firsts" "[J" (.ref c1)) (F_c0_head : Fld Z h0 c0 "com/example/meter/meter/store/Spans" "head" "I" (.int (0 : Int32))) (F_c0_lasts : Fld Z h0 c0 "com/example/meter/meter/store/Spans" "lasts" "[J" (.ref c2)) (F_c0_totals : Fld Z h0 c0 "com/example/meter/meter/store/Spans" "totals" "[J" (.ref c3)) (n_c0 : n0 ≤ c0) (V_c1 : Arv Z h0 c1 k_c1 .long (16 : Int32) [(.long y0), (.long y1), (.long y2), (.long (0 : Int64))] (.long (0 : Int64))) (n_c1 : n0 ≤ c1) (V_c2 : Arv Z h0 c2 k_c2 .long (16 : Int32) [(.long y0), (.long y1), (.long y2), (.long (0 : Int64))] (.long (0 : Int64))) (n_c2 : n0 ≤ c2) (V_c3 : Arv Z h0 c3 k_c3 .long (16 : Int32) [(.long y3), (.long y4), (.long y5), (.long (0 : Int64))] (.long (0 : Int64))) (n_c3 : n0 ≤ c3) (ne_c0_c1 : c0 ≠ c1) (ne_c0_c2 : c0 ≠ c2) (ne_c0_c3 : c0 ≠ c3) (ne_c1_c2 : c1 ≠ c2) (ne_c1_c3 : c1 ≠ c3) (ne_c2_c3 : c2 ≠ c3) (hc295 : ¬ ((((2 : Int64) * ((y5 - y5) / (100 : Int64))) + (2 : Int64)) < (y5 - y3))) (hc339 : ¬ ((((2 : Int64) * ((y5 - y5) / (100 : Int64))) + (2 : Int64)) < (y5 - (0 : Int64)))) :
    MetFree l (⟨"com/example/meter/meter/store/Spans", "join", "()V"⟩ : MethodName) (head1 (Jvm.Cond.code (⟨"com/example/meter/meter/store/Spans", "join", "()V"⟩ : MethodName) prog_11_method_12_code 9 none :: ws) ({ frames := 1, cells := 0, slots := 0, locals := 15 } : Room)) (fun a U => a = #[(.ref c0)] ∧ Z.Warmed39 U.vm ∧ U.heap = h0) (fun _ _ _ _ _ => True) (fun _ U o U' => ∃ v L, o = .returned v ∧ Q_rm10_39 Z w_NONE k_NONE c0 c1 k_c1 c2 k_c2 c3 k_c3 y0 y1 y2 y3 y4 y5 h0 n0 v U'.heap L ∧ FrameEnd U o U' L ({ frames := 1, cells := 0, slots := 0, locals := 15 } : Room).cells ({ frames := 1, cells := 0, slots := 0, locals := 15 } : Room).slots) := by
  refine MetFree.of_bodySF (plainFor_of_name pn_0) hisR ?_
  intro p e s m args below meth c s₁ Bd hml0 hP hK
  obtain ⟨rfl, hZ, hh⟩ := hP
  have hx := Bd.exec
  have hby := Bd.bytes
  have hml : c.maxLocals = 9 := hml0
  have hlk := BodyLoose.notSynchronized Bd
  have hret := Bd.returns
  have hown : s.vm.findClass "com/example/meter/meter/store/Spans" = some m.cls := findClass_of_methodNamed Bd.named
  have hnm := (name_of_methodNamed Bd.named Bd.method).1
  have X0 : Stand p l e ({ frames := 1, cells := 0, slots := 0, locals := 15 } : Room) s m #[(.ref c0)] below meth c s₁ [] 0 0 := Stand.of_body Bd
  have e0 : s₁.heap = h0 := by rw [← hh, Bd.state]; rfl
  have N0 := Fr.nil n0
  rw [ef_10 m c0]
  show Go p e below _ (s₁.setTop (mkF m 0 #[oA c0, oU, oU, oU, oU, oU, oU, oU, oU] []))
  refine own_aload_n 1 X0 hx hby d10_0 rfl rfl rfl ?_
  refine own_getF 4 X0 hx hby hZ hown (own_w hw 16 rfl) e0 F_c0_totals d10_1 rfl ?_
  intro T284 X284 e284
  refine own_aload_n 5 X284 hx hby d10_4 rfl rfl rfl ?_
  refine own_getF 8 X284 hx hby hZ hown (own_w hw 23 rfl) e284 F_c0_end d10_5 rfl ?_
  intro T285 X285 e285
  refine own_iconst 9 (1 : Int32) X285 hx hby d10_8 rfl (by decide) ?_
  refine own_isub 10 (2 : Int32) X285 hx hby d10_9 rfl (by decide) ?_
  refine own_laload 11 (.long y5) X285 hx hby hZ e285 V_c3 d10_10 rfl (by decide) rfl ?_
  refine own_lstore_n 12 #[oA c0, oJ y5, oS, oU, oU, oU, oU, oU, oU] X285 hx hby d10_11 rfl rfl ?_
  refine own_aload_n 13 X285 hx hby d10_12 rfl rfl rfl ?_
  refine own_getF 16 X285 hx hby hZ hown (own_w hw 23 rfl) e285 F_c0_end d10_13 rfl ?_
  intro T286 X286 e286
  refine own_iconst 17 (1 : Int32) X286 hx hby d10_16 rfl (by decide) ?_
  refine own_isub 18 (2 : Int32) X286 hx hby d10_17 rfl (by decide) ?_
  refine own_istore_n 19 #[oA c0, oJ y5, oS, oI (2 : Int32), oU, oU, oU, oU, oU] X286 hx hby d10_18 rfl rfl ?_
  refine own_aload_n 20 X286 hx hby d10_19 rfl rfl rfl ?_
  refine own_getF 23 X286 hx hby hZ hown (own_w hw 23 rfl) e286 F_c0_end d10_20 rfl ?_
  intro T287 X287 e287
  refine own_iconst 24 (2 : Int32) X287 hx hby d10_23 rfl (by decide) ?_
  refine own_isub 25 (1 : Int32) X287 hx hby d10_24 rfl (by decide) ?_
  refine own_istore 27 #[oA c0, oJ y5, oS, oI (2 : Int32), oI (1 : Int32), oU, oU, oU, oU] X287 hx hby d10_25 rfl rfl ?_
  refine own_iload 29 X287 hx hby d10_27 rfl rfl ?_
  refine own_aload_n 30 X287 hx hby d10_29 rfl rfl rfl ?_
  refine own_getF 33 X287 hx hby hZ hown (own_w hw 29 rfl) e287 F_c0_head d10_30 rfl ?_
  intro T288 X288 e288
  refine own_icN 36 X288 hx hby d10_33 rfl (by decide) ?_
  refine own_aload_n 37 X288 hx hby d10_36 rfl rfl rfl ?_
  refine own_getF 40 X288 hx hby hZ hown (own_w hw 16 rfl) e288 F_c0_totals d10_37 rfl ?_
  intro T289 X289 e289
  refine own_iload_n 41 X289 hx hby d10_40 rfl rfl ?_
  refine own_laload 42 (.long y5) X289 hx hby hZ e289 V_c3 d10_41 rfl (by decide) rfl ?_
  refine own_aload_n 43 X289 hx hby d10_42 rfl rfl rfl ?_
  refine own_iload 45 X289 hx hby d10_43 rfl rfl ?_
  refine own_priv (W := 2) 48 (rm7_33 l Z a0 hw [] w_NONE k_NONE W c0 c1 k_c1 c2 k_c2 c3 k_c3 y0 y1 y2 y3 y4 y5 h0 n0 O0 E_c0 F_c0_droppedTotal F_c0_end F_c0_firsts F_c0_head F_c0_lasts F_c0_totals n_c0 V_c1 n_c1 V_c2 n_c2 V_c3 n_c3 ne_c0_c1 ne_c0_c2 ne_c0_c3 ne_c1_c2 ne_c1_c3 ne_c2_c3) X289 hx hby hZ hown (own_w hw 44 rfl) (own_w hw 45 rfl) (own_w hw 46 rfl) (own_w hw 21 rfl) (own_w hw 3 rfl) (own_w hw 47 rfl) rfl (by decide) (by rw [hml]; rfl) c0 [(.int (1 : Int32))] [(.long y5)] pd_5 rfl d10_45 rfl e289 E_c0 rfl rfl rfl (by decide) (by decide) (by decide) (by decide) ?_
  rintro _ T292 L292 X292 ⟨rfl, N292, e292⟩
  have N292 := Fr.app N0 N292
  show Go p e below _ (T292.setTop (mkF m 48 _ [(.long y3), (.long y5)]))
  refine own_lsub 49 (y5 - y3) X292 hx hby d10_48 rfl rfl ?_
  refine own_lstore 51 #[oA c0, oJ y5, oS, oI (2 : Int32), oI (1 : Int32), oJ (y5 - y3), oS, oU, oU] X292 hx hby d10_49 rfl rfl ?_
  refine own_lload_n 52 X292 hx hby d10_51 rfl rfl ?_
  refine own_aload_n 53 X292 hx hby d10_52 rfl rfl rfl ?_
  refine own_getF 56 X292 hx hby hZ hown (own_w hw 16 rfl) e292 F_c0_totals d10_53 rfl ?_
  intro T293 X293 e293
  refine own_iload_n 57 X293 hx hby d10_56 rfl rfl ?_
  refine own_laload 58 (.long y5) X293 hx hby hZ e293 V_c3 d10_57 rfl (by decide) rfl ?_
  refine own_lsub 59 (y5 - y5) X293 hx hby d10_58 rfl rfl ?_
  refine own_lstore 61 #[oA c0, oJ y5, oS, oI (2 : Int32), oI (1 : Int32), oJ (y5 - y3), oS, oJ (y5 - y5), oS] X293 hx hby d10_59 rfl rfl ?_
  refine own_lload 63 X293 hx hby d10_61 rfl rfl ?_
  refine own_lload 65 X293 hx hby d10_63 rfl rfl ?_
  refine own_callS (W := 2) 68 (rm11_20 l Z a0 hw [] w_NONE k_NONE W (y5 - y5) h0 n0 O0) X293 hx hby hZ hown (own_w hw 67 rfl) (own_w hw 68 rfl) (own_w hw 3 rfl) (own_w hw 69 rfl) (by decide) (by rw [hml]; rfl) [(.long (y5 - y5))] [(.long (y5 - y3))] pd_7 rfl d10_65 rfl e293 rfl rfl rfl (by decide) (by decide) (by decide) (by decide) ?_
  rintro _ T294 L294 X294 ⟨rfl, N294, e294⟩
  have N294 := Fr.app N292 N294
  show Go p e below _ (T294.setTop (mkF m 68 _ [(.long (((2 : Int64) * ((y5 - y5) / (100 : Int64))) + (2 : Int64))), (.long (y5 - y3))]))
  refine own_lcmp 69 (XT.cmpL (y5 - y3) (((2 : Int64) * ((y5 - y5) / (100 : Int64))) + (2 : Int64))) X294 hx hby d10_68 rfl rfl ?_
  refine own_ifN 72 X294 hx hby d10_69 rfl (own_fltL hc295).2.2.1 ?_
  refine own_aload_n 73 X294 hx hby d10_72 rfl rfl rfl ?_
  refine own_getF 76 X294 hx hby hZ hown (own_w hw 12 rfl) e294 F_c0_firsts d10_73 rfl ?_
  intro T329 X329 e329
  refine own_iload_n 77 X329 hx hby d10_76 rfl rfl ?_
  refine own_aload_n 78 X329 hx hby d10_77 rfl rfl rfl ?_
  refine own_getF 81 X329 hx hby hZ hown (own_w hw 12 rfl) e329 F_c0_firsts d10_78 rfl ?_
  intro T330 X330 e330
  refine own_iload 83 X330 hx hby d10_81 rfl rfl ?_
  refine own_laload 84 (.long y1) X330 hx hby hZ e330 V_c1 d10_83 rfl (by decide) rfl ?_
  refine own_stJ 85 2 X330 hx hby hZ e330 V_c1 d10_84 rfl (by decide) (by decide) (Nat.le_of_ble_eq_true rfl) ?_
  intro T331 h331 X331 e331 W331 V331
  have V331 : Arv Z h331 c1 k_c1 .long (16 : Int32) [(.long y0), (.long y1), (.long y1), (.long (0 : Int64))] (.long (0 : Int64)) := V331
  have E_c0_331 := E_c0.wr W331
  have F_c0_droppedTotal_331 := F_c0_droppedTotal.other W331 (Or.inl ne_c0_c1)
  have F_c0_end_331 := F_c0_end.other W331 (Or.inl ne_c0_c1)
  have F_c0_firsts_331 := F_c0_firsts.other W331 (Or.inl ne_c0_c1)
  have F_c0_head_331 := F_c0_head.other W331 (Or.inl ne_c0_c1)
  have F_c0_lasts_331 := F_c0_lasts.other W331 (Or.inl ne_c0_c1)
  have F_c0_totals_331 := F_c0_totals.other W331 (Or.inl ne_c0_c1)
  have V_c2_331 := V_c2.other W331 (Ne.symm ne_c1_c2)
  have V_c3_331 := V_c3.other W331 (Ne.symm ne_c1_c3)
  have K331 : Keep h0 h331 [c1, c0] := (Keep.refl h0 [c1, c0]).wr W331 (Or.inl (List.mem_of_getElem? (i := 0) rfl))
  have O331 := O0.wr W331 n_c1
  have N331 := Fr.snoc X331 N294 n_c1
  refine own_goto 130 X331 hx hby d10_85 (by decide) (by decide) ?_
  refine own_iinc 133 #[oA c0, oJ y5, oS, oI (2 : Int32), oI (0 : Int32), oJ (y5 - y3), oS, oJ (y5 - y5), oS] X331 hx hby d10_130 rfl rfl rfl ?_
  refine own_goto 27 X331 hx hby d10_133 (by decide) (by decide) ?_
  refine own_iload 29 X331 hx hby d10_27 rfl rfl ?_
  refine own_aload_n 30 X331 hx hby d10_29 rfl rfl rfl ?_
  refine own_getF 33 X331 hx hby hZ hown (own_w hw 29 rfl) e331 F_c0_head_331 d10_30 rfl ?_
  intro T332 X332 e332
  refine own_icN 36 X332 hx hby d10_33 rfl (by decide) ?_
  refine own_aload_n 37 X332 hx hby d10_36 rfl rfl rfl ?_
  refine own_getF 40 X332 hx hby hZ hown (own_w hw 16 rfl) e332 F_c0_totals_331 d10_37 rfl ?_
  intro T333 X333 e333
  refine own_iload_n 41 X333 hx hby d10_40 rfl rfl ?_
  refine own_laload 42 (.long y5) X333 hx hby hZ e333 V_c3_331 d10_41 rfl (by decide) rfl ?_
  refine own_aload_n 43 X333 hx hby d10_42 rfl rfl rfl ?_
  refine own_iload 45 X333 hx hby d10_43 rfl rfl ?_
  refine own_priv (W := 2) 48 (rm7_37 l Z a0 hw [] w_NONE k_NONE W c0 c1 k_c1 c2 k_c2 c3 k_c3 y0 y1 y2 y3 y4 y5 h331 n0 O331 E_c0_331 F_c0_droppedTotal_331 F_c0_end_331 F_c0_firsts_331 F_c0_head_331 F_c0_lasts_331 F_c0_totals_331 n_c0 V331 n_c1 V_c2_331 n_c2 V_c3_331 n_c3 ne_c0_c1 ne_c0_c2 ne_c0_c3 ne_c1_c2 ne_c1_c3 ne_c2_c3) X333 hx hby hZ hown (own_w hw 44 rfl) (own_w hw 45 rfl) (own_w hw 46 rfl) (own_w hw 21 rfl) (own_w hw 3 rfl) (own_w hw 47 rfl) rfl (by decide) (by rw [hml]; rfl) c0 [(.int (0 : Int32))] [(.long y5)] pd_5 rfl d10_45 rfl e333 E_c0_331 rfl rfl rfl (by decide) (by decide) (by decide) (by decide) ?_
  rintro _ T336 L336 X336 ⟨rfl, N336, e336⟩
  have N336 := Fr.app N331 N336
  show Go p e below _ (T336.setTop (mkF m 48 _ [(.long (0 : Int64)), (.long y5)]))
  refine own_lsub 49 (y5 - (0 : Int64)) X336 hx hby d10_48 rfl rfl ?_
  refine own_lstore 51 #[oA c0, oJ y5, oS, oI (2 : Int32), oI (0 : Int32), oJ (y5 - (0 : Int64)), oS, oJ (y5 - y5), oS] X336 hx hby d10_49 rfl rfl ?_
  refine own_lload_n 52 X336 hx hby d10_51 rfl rfl ?_
  refine own_aload_n 53 X336 hx hby d10_52 rfl rfl rfl ?_
  refine own_getF 56 X336 hx hby hZ hown (own_w hw 16 rfl) e336 F_c0_totals_331 d10_53 rfl ?_
  intro T337 X337 e337
  refine own_iload_n 57 X337 hx hby d10_56 rfl rfl ?_
  refine own_laload 58 (.long y5) X337 hx hby hZ e337 V_c3_331 d10_57 rfl (by decide) rfl ?_
  refine own_lsub 59 (y5 - y5) X337 hx hby d10_58 rfl rfl ?_
  refine own_lstore 61 #[oA c0, oJ y5, oS, oI (2 : Int32), oI (0 : Int32), oJ (y5 - (0 : Int64)), oS, oJ (y5 - y5), oS] X337 hx hby d10_59 rfl rfl ?_
  refine own_lload 63 X337 hx hby d10_61 rfl rfl ?_
  refine own_lload 65 X337 hx hby d10_63 rfl rfl ?_
  refine own_callS (W := 2) 68 (rm11_20 l Z a0 hw [] w_NONE k_NONE W (y5 - y5) h331 n0 O331) X337 hx hby hZ hown (own_w hw 67 rfl) (own_w hw 68 rfl) (own_w hw 3 rfl) (own_w hw 69 rfl) (by decide) (by rw [hml]; rfl) [(.long (y5 - y5))] [(.long (y5 - (0 : Int64)))] pd_7 rfl d10_65 rfl e337 rfl rfl rfl (by decide) (by decide) (by decide) (by decide) ?_
  rintro _ T338 L338 X338 ⟨rfl, N338, e338⟩
  have N338 := Fr.app N336 N338
  show Go p e below _ (T338.setTop (mkF m 68 _ [(.long (((2 : Int64) * ((y5 - y5) / (100 : Int64))) + (2 : Int64))), (.long (y5 - (0 : Int64)))]))
  refine own_lcmp 69 (XT.cmpL (y5 - (0 : Int64)) (((2 : Int64) * ((y5 - y5) / (100 : Int64))) + (2 : Int64))) X338 hx hby d10_68 rfl rfl ?_
  refine own_ifN 72 X338 hx hby d10_69 rfl (own_fltL hc339).2.2.1 ?_
  refine own_aload_n 73 X338 hx hby d10_72 rfl rfl rfl ?_
  refine own_getF 76 X338 hx hby hZ hown (own_w hw 12 rfl) e338 F_c0_firsts_331 d10_73 rfl ?_
  intro T351 X351 e351
  refine own_iload_n 77 X351 hx hby d10_76 rfl rfl ?_
  refine own_aload_n 78 X351 hx hby d10_77 rfl rfl rfl ?_
  refine own_getF 81 X351 hx hby hZ hown (own_w hw 12 rfl) e351 F_c0_firsts_331 d10_78 rfl ?_
  intro T352 X352 e352
  refine own_iload 83 X352 hx hby d10_81 rfl rfl ?_
  refine own_laload 84 (.long y0) X352 hx hby hZ e352 V331 d10_83 rfl (by decide) rfl ?_
  refine own_stJ 85 2 X352 hx hby hZ e352 V331 d10_84 rfl (by decide) (by decide) (Nat.le_of_ble_eq_true rfl) ?_
  intro T353 h353 X353 e353 W353 V353
  have V353 : Arv Z h353 c1 k_c1 .long (16 : Int32) [(.long y0), (.long y1), (.long y0), (.long (0 : Int64))] (.long (0 : Int64)) := V353
  have E_c0_353 := E_c0_331.wr W353
  have F_c0_droppedTotal_353 := F_c0_droppedTotal_331.other W353 (Or.inl ne_c0_c1)
  have F_c0_end_353 := F_c0_end_331.other W353 (Or.inl ne_c0_c1)
  have F_c0_firsts_353 := F_c0_firsts_331.other W353 (Or.inl ne_c0_c1)
  have F_c0_head_353 := F_c0_head_331.other W353 (Or.inl ne_c0_c1)
  have F_c0_lasts_353 := F_c0_lasts_331.other W353 (Or.inl ne_c0_c1)
  have F_c0_totals_353 := F_c0_totals_331.other W353 (Or.inl ne_c0_c1)
  have V_c2_353 := V_c2_331.other W353 (Ne.symm ne_c1_c2)
  have V_c3_353 := V_c3_331.other W353 (Ne.symm ne_c1_c3)
  have K353 : Keep h0 h353 [c1, c0] := K331.wr W353 (Or.inl (List.mem_of_getElem? (i := 0) rfl))
  have O353 := O331.wr W353 n_c1
  have N353 := Fr.snoc X353 N338 n_c1
  refine own_goto 130 X353 hx hby d10_85 (by decide) (by decide) ?_
  refine own_iinc 133 #[oA c0, oJ y5, oS, oI (2 : Int32), oI (-1 : Int32), oJ (y5 - (0 : Int64)), oS, oJ (y5 - y5), oS] X353 hx hby d10_130 rfl rfl rfl ?_
  refine own_goto 27 X353 hx hby d10_133 (by decide) (by decide) ?_
  refine own_iload 29 X353 hx hby d10_27 rfl rfl ?_
  refine own_aload_n 30 X353 hx hby d10_29 rfl rfl rfl ?_
  refine own_getF 33 X353 hx hby hZ hown (own_w hw 29 rfl) e353 F_c0_head_353 d10_30 rfl ?_
  intro T354 X354 e354
  refine own_icY 136 X354 hx hby d10_33 (by decide) (by decide) (by decide) ?_
  refine own_aload_n 137 X354 hx hby d10_136 rfl rfl rfl ?_
  refine own_iload_n 138 X354 hx hby d10_137 rfl rfl ?_
  refine own_putF 141 X354 hx hby hZ .int hown (own_w hw 29 rfl) e354 F_c0_head_353 E_c0_353 (Or.inl (own_w hw 30 rfl)) (own_w hw 2 rfl) (by decide) rfl rfl d10_138 rfl ?_
  intro T355 h355 X355 e355 W355
  have E_c0_355 := E_c0_353.wr W355
  have F_c0_droppedTotal_355 := F_c0_droppedTotal_353.other W355 (Or.inr (slot_ne (Or.inl (own_w hw 49 rfl)) (Or.inl (own_w hw 30 rfl)) (by decide) (t := .long) (t' := .int) (by decide) (by decide)))
  have F_c0_end_355 := F_c0_end_353.other W355 (Or.inr (slot_ne (Or.inl (own_w hw 24 rfl)) (Or.inl (own_w hw 30 rfl)) (by decide) (t := .int) (t' := .int) (by decide) (by decide)))
  have F_c0_firsts_355 := F_c0_firsts_353.other W355 (Or.inr (slot_ne (Or.inl (own_w hw 13 rfl)) (Or.inl (own_w hw 30 rfl)) (by decide) (t := (.array .long)) (t' := .int) (by decide) (by decide)))
  have F_c0_head_355 := F_c0_head_353.same W355
  have F_c0_lasts_355 := F_c0_lasts_353.other W355 (Or.inr (slot_ne (Or.inl (own_w hw 15 rfl)) (Or.inl (own_w hw 30 rfl)) (by decide) (t := (.array .long)) (t' := .int) (by decide) (by decide)))
  have F_c0_totals_355 := F_c0_totals_353.other W355 (Or.inr (slot_ne (Or.inl (own_w hw 17 rfl)) (Or.inl (own_w hw 30 rfl)) (by decide) (t := (.array .long)) (t' := .int) (by decide) (by decide)))
  have V_c1_355 := V353.other W355 (Ne.symm ne_c0_c1)
  have V_c2_355 := V_c2_353.other W355 (Ne.symm ne_c0_c2)
  have V_c3_355 := V_c3_353.other W355 (Ne.symm ne_c0_c3)
  have K355 : Keep h0 h355 [c1, c0] := K353.wr W355 (Or.inl (List.mem_of_getElem? (i := 1) rfl))
  have O355 := O353.wr W355 n_c0
  have N355 := Fr.snoc X355 N353 n_c0
  exact own_ret0 (Q := Q_rm10_39 Z w_NONE k_NONE c0 c1 k_c1 c2 k_c2 c3 k_c3 y0 y1 y2 y3 y4 y5 h0 n0) X355 hx hby hret hlk d10_141 (by decide) (by decide) (by rw [e355]; exact ⟨rfl, N355, K355, E_c0_355, F_c0_droppedTotal_355, F_c0_end_355, F_c0_firsts_355, F_c0_head_355, F_c0_lasts_355, F_c0_totals_355, V_c1_355, V_c2_355, V_c3_355⟩)
set_option maxRecDepth 65536 in
set_option maxHeartbeats 40000000 in
theorem rm8_40 (l : Launch) (Z : State) (a0 : Array Value) (hw : ∀ d ∈ tables_1, d.before a0 Z = true) (ws : List Jvm.Cond) (w_NONE k_NONE : Addr) (W : own_W Z w_NONE k_NONE) (c0 : Addr) (c1 : Addr) (k_c1 : ClassId) (c2 : Addr) (k_c2 : ClassId) (c3 : Addr) (k_c3 : ClassId) (y0 : Int64) (y1 : Int64) (y2 : Int64) (y3 : Int64) (y4 : Int64) (y5 : Int64) (h0 : Heap) (n0 : Nat) (O0 : Old Z n0 h0) (E_c0 : Exa Z h0 c0 "com/example/meter/meter/store/Spans") (F_c0_droppedTotal : Fld Z h0 c0 "com/example/meter/meter/store/Spans" "droppedTotal" "J" (.long (0 : Int64))) (F_c0_end : Fld Z h0 c0 "com/example/meter/meter/store/Spans" "end" "I" (.int (3 : Int32))) (F_c0_firsts : Fld Z h0 c0 "com/example/meter/meter/store/Spans" "firsts" "[J" (.ref c1)) (F_c0_head : Fld Z h0 c0 "com/example/meter/meter/store/Spans" "head" "I" (.int (1 : Int32))) (F_c0_lasts : Fld Z h0 c0 "com/example/meter/meter/store/Spans" "lasts" "[J" (.ref c2)) (F_c0_totals : Fld Z h0 c0 "com/example/meter/meter/store/Spans" "totals" "[J" (.ref c3)) (n_c0 : n0 ≤ c0) (V_c1 : Arv Z h0 c1 k_c1 .long (16 : Int32) [(.long y0), (.long y0), (.long y1), (.long (0 : Int64))] (.long (0 : Int64))) (n_c1 : n0 ≤ c1) (V_c2 : Arv Z h0 c2 k_c2 .long (16 : Int32) [(.long y0), (.long y2), (.long y1), (.long (0 : Int64))] (.long (0 : Int64))) (n_c2 : n0 ≤ c2) (V_c3 : Arv Z h0 c3 k_c3 .long (16 : Int32) [(.long y3), (.long y4), (.long y5), (.long (0 : Int64))] (.long (0 : Int64))) (n_c3 : n0 ≤ c3) (ne_c0_c1 : c0 ≠ c1) (ne_c0_c2 : c0 ≠ c2) (ne_c0_c3 : c0 ≠ c3) (ne_c1_c2 : c1 ≠ c2) (ne_c1_c3 : c1 ≠ c3) (ne_c2_c3 : c2 ≠ c3) :
    MetFree l (⟨"com/example/meter/meter/store/Spans", "newestSecond", "()J"⟩ : MethodName) (head1 (Jvm.Cond.code (⟨"com/example/meter/meter/store/Spans", "newestSecond", "()J"⟩ : MethodName) prog_11_method_7_code 1 (some .long) :: ws) ({ frames := 0, cells := 0, slots := 0, locals := 0 } : Room)) (fun a U => a = #[(.ref c0)] ∧ Z.Warmed39 U.vm ∧ U.heap = h0) (fun _ _ _ _ _ => True) (fun _ U o U' => ∃ v L, o = .returned v ∧ own_Q (some (.long y1)) n0 h0 v U'.heap L ∧ FrameEnd U o U' L ({ frames := 0, cells := 0, slots := 0, locals := 0 } : Room).cells ({ frames := 0, cells := 0, slots := 0, locals := 0 } : Room).slots) := by
  refine MetFree.of_bodySF (plainFor_of_name pn_0) hisR ?_
  intro p e s m args below meth c s₁ Bd hml0 hP hK
  obtain ⟨rfl, hZ, hh⟩ := hP
  have hx := Bd.exec
  have hby := Bd.bytes
  have hml : c.maxLocals = 1 := hml0
  have hlk := BodyLoose.notSynchronized Bd
  have hret := Bd.returns
  have hown : s.vm.findClass "com/example/meter/meter/store/Spans" = some m.cls := findClass_of_methodNamed Bd.named
  have hnm := (name_of_methodNamed Bd.named Bd.method).1
  have X0 : Stand p l e ({ frames := 0, cells := 0, slots := 0, locals := 0 } : Room) s m #[(.ref c0)] below meth c s₁ [] 0 0 := Stand.of_body Bd
  have e0 : s₁.heap = h0 := by rw [← hh, Bd.state]; rfl
  have N0 := Fr.nil n0
  rw [ef_8 m c0]
  show Go p e below _ (s₁.setTop (mkF m 0 #[oA c0] []))
  refine own_aload_n 1 X0 hx hby d8_0 rfl rfl rfl ?_
  refine own_getF 4 X0 hx hby hZ hown (own_w hw 29 rfl) e0 F_c0_head d8_1 rfl ?_
  intro T361 X361 e361
  refine own_aload_n 5 X361 hx hby d8_4 rfl rfl rfl ?_
  refine own_getF 8 X361 hx hby hZ hown (own_w hw 23 rfl) e361 F_c0_end d8_5 rfl ?_
  intro T362 X362 e362
  refine own_icY 17 X362 hx hby d8_8 (by decide) (by decide) (by decide) ?_
  refine own_aload_n 18 X362 hx hby d8_17 rfl rfl rfl ?_
  refine own_getF 21 X362 hx hby hZ hown (own_w hw 14 rfl) e362 F_c0_lasts d8_18 rfl ?_
  intro T363 X363 e363
  refine own_aload_n 22 X363 hx hby d8_21 rfl rfl rfl ?_
  refine own_getF 25 X363 hx hby hZ hown (own_w hw 23 rfl) e363 F_c0_end d8_22 rfl ?_
  intro T364 X364 e364
  refine own_iconst 26 (1 : Int32) X364 hx hby d8_25 rfl (by decide) ?_
  refine own_isub 27 (2 : Int32) X364 hx hby d8_26 rfl (by decide) ?_
  refine own_laload 28 (.long y1) X364 hx hby hZ e364 V_c2 d8_27 rfl (by decide) rfl ?_
  exact own_ret (Q := own_Q (some (.long y1)) n0 h0) X364 hx hby hret hlk d8_28 rfl (Or.inr (Or.inl ⟨rfl, rfl, _, rfl⟩)) (by decide) (by decide) ⟨rfl, N0, e364⟩
set_option maxRecDepth 65536 in
set_option maxHeartbeats 40000000 in
theorem rm8_41 (l : Launch) (Z : State) (a0 : Array Value) (hw : ∀ d ∈ tables_1, d.before a0 Z = true) (ws : List Jvm.Cond) (w_NONE k_NONE : Addr) (W : own_W Z w_NONE k_NONE) (c0 : Addr) (c1 : Addr) (k_c1 : ClassId) (c2 : Addr) (k_c2 : ClassId) (c3 : Addr) (k_c3 : ClassId) (y0 : Int64) (y1 : Int64) (y2 : Int64) (y3 : Int64) (y4 : Int64) (h0 : Heap) (n0 : Nat) (O0 : Old Z n0 h0) (E_c0 : Exa Z h0 c0 "com/example/meter/meter/store/Spans") (F_c0_droppedTotal : Fld Z h0 c0 "com/example/meter/meter/store/Spans" "droppedTotal" "J" (.long (0 : Int64))) (F_c0_end : Fld Z h0 c0 "com/example/meter/meter/store/Spans" "end" "I" (.int (3 : Int32))) (F_c0_firsts : Fld Z h0 c0 "com/example/meter/meter/store/Spans" "firsts" "[J" (.ref c1)) (F_c0_head : Fld Z h0 c0 "com/example/meter/meter/store/Spans" "head" "I" (.int (1 : Int32))) (F_c0_lasts : Fld Z h0 c0 "com/example/meter/meter/store/Spans" "lasts" "[J" (.ref c2)) (F_c0_totals : Fld Z h0 c0 "com/example/meter/meter/store/Spans" "totals" "[J" (.ref c3)) (n_c0 : n0 ≤ c0) (V_c1 : Arv Z h0 c1 k_c1 .long (16 : Int32) [(.long y0), (.long y0), (.long y1), (.long (0 : Int64))] (.long (0 : Int64))) (n_c1 : n0 ≤ c1) (V_c2 : Arv Z h0 c2 k_c2 .long (16 : Int32) [(.long y0), (.long y0), (.long y2), (.long (0 : Int64))] (.long (0 : Int64))) (n_c2 : n0 ≤ c2) (V_c3 : Arv Z h0 c3 k_c3 .long (16 : Int32) [(.long y3), (.long y3), (.long y4), (.long (0 : Int64))] (.long (0 : Int64))) (n_c3 : n0 ≤ c3) (ne_c0_c1 : c0 ≠ c1) (ne_c0_c2 : c0 ≠ c2) (ne_c0_c3 : c0 ≠ c3) (ne_c1_c2 : c1 ≠ c2) (ne_c1_c3 : c1 ≠ c3) (ne_c2_c3 : c2 ≠ c3) :
    MetFree l (⟨"com/example/meter/meter/store/Spans", "newestSecond", "()J"⟩ : MethodName) (head1 (Jvm.Cond.code (⟨"com/example/meter/meter/store/Spans", "newestSecond", "()J"⟩ : MethodName) prog_11_method_7_code 1 (some .long) :: ws) ({ frames := 0, cells := 0, slots := 0, locals := 0 } : Room)) (fun a U => a = #[(.ref c0)] ∧ Z.Warmed39 U.vm ∧ U.heap = h0) (fun _ _ _ _ _ => True) (fun _ U o U' => ∃ v L, o = .returned v ∧ own_Q (some (.long y2)) n0 h0 v U'.heap L ∧ FrameEnd U o U' L ({ frames := 0, cells := 0, slots := 0, locals := 0 } : Room).cells ({ frames := 0, cells := 0, slots := 0, locals := 0 } : Room).slots) := by
  refine MetFree.of_bodySF (plainFor_of_name pn_0) hisR ?_
  intro p e s m args below meth c s₁ Bd hml0 hP hK
  obtain ⟨rfl, hZ, hh⟩ := hP
  have hx := Bd.exec
  have hby := Bd.bytes
  have hml : c.maxLocals = 1 := hml0
  have hlk := BodyLoose.notSynchronized Bd
  have hret := Bd.returns
  have hown : s.vm.findClass "com/example/meter/meter/store/Spans" = some m.cls := findClass_of_methodNamed Bd.named
  have hnm := (name_of_methodNamed Bd.named Bd.method).1
  have X0 : Stand p l e ({ frames := 0, cells := 0, slots := 0, locals := 0 } : Room) s m #[(.ref c0)] below meth c s₁ [] 0 0 := Stand.of_body Bd
  have e0 : s₁.heap = h0 := by rw [← hh, Bd.state]; rfl
  have N0 := Fr.nil n0
  rw [ef_8 m c0]
  show Go p e below _ (s₁.setTop (mkF m 0 #[oA c0] []))
  refine own_aload_n 1 X0 hx hby d8_0 rfl rfl rfl ?_
  refine own_getF 4 X0 hx hby hZ hown (own_w hw 29 rfl) e0 F_c0_head d8_1 rfl ?_
  intro T368 X368 e368
  refine own_aload_n 5 X368 hx hby d8_4 rfl rfl rfl ?_
  refine own_getF 8 X368 hx hby hZ hown (own_w hw 23 rfl) e368 F_c0_end d8_5 rfl ?_
  intro T369 X369 e369
  refine own_icY 17 X369 hx hby d8_8 (by decide) (by decide) (by decide) ?_
  refine own_aload_n 18 X369 hx hby d8_17 rfl rfl rfl ?_
  refine own_getF 21 X369 hx hby hZ hown (own_w hw 14 rfl) e369 F_c0_lasts d8_18 rfl ?_
  intro T370 X370 e370
  refine own_aload_n 22 X370 hx hby d8_21 rfl rfl rfl ?_
  refine own_getF 25 X370 hx hby hZ hown (own_w hw 23 rfl) e370 F_c0_end d8_22 rfl ?_
  intro T371 X371 e371
  refine own_iconst 26 (1 : Int32) X371 hx hby d8_25 rfl (by decide) ?_
  refine own_isub 27 (2 : Int32) X371 hx hby d8_26 rfl (by decide) ?_
  refine own_laload 28 (.long y2) X371 hx hby hZ e371 V_c2 d8_27 rfl (by decide) rfl ?_
  exact own_ret (Q := own_Q (some (.long y2)) n0 h0) X371 hx hby hret hlk d8_28 rfl (Or.inr (Or.inl ⟨rfl, rfl, _, rfl⟩)) (by decide) (by decide) ⟨rfl, N0, e371⟩
set_option maxRecDepth 65536 in
set_option maxHeartbeats 40000000 in
theorem rm8_42 (l : Launch) (Z : State) (a0 : Array Value) (hw : ∀ d ∈ tables_1, d.before a0 Z = true) (ws : List Jvm.Cond) (w_NONE k_NONE : Addr) (W : own_W Z w_NONE k_NONE) (c0 : Addr) (c1 : Addr) (k_c1 : ClassId) (c2 : Addr) (k_c2 : ClassId) (c3 : Addr) (k_c3 : ClassId) (y0 : Int64) (y1 : Int64) (y2 : Int64) (y3 : Int64) (y4 : Int64) (y5 : Int64) (h0 : Heap) (n0 : Nat) (O0 : Old Z n0 h0) (E_c0 : Exa Z h0 c0 "com/example/meter/meter/store/Spans") (F_c0_droppedTotal : Fld Z h0 c0 "com/example/meter/meter/store/Spans" "droppedTotal" "J" (.long (0 : Int64))) (F_c0_end : Fld Z h0 c0 "com/example/meter/meter/store/Spans" "end" "I" (.int (3 : Int32))) (F_c0_firsts : Fld Z h0 c0 "com/example/meter/meter/store/Spans" "firsts" "[J" (.ref c1)) (F_c0_head : Fld Z h0 c0 "com/example/meter/meter/store/Spans" "head" "I" (.int (2 : Int32))) (F_c0_lasts : Fld Z h0 c0 "com/example/meter/meter/store/Spans" "lasts" "[J" (.ref c2)) (F_c0_totals : Fld Z h0 c0 "com/example/meter/meter/store/Spans" "totals" "[J" (.ref c3)) (n_c0 : n0 ≤ c0) (V_c1 : Arv Z h0 c1 k_c1 .long (16 : Int32) [(.long y0), (.long y1), (.long y0), (.long (0 : Int64))] (.long (0 : Int64))) (n_c1 : n0 ≤ c1) (V_c2 : Arv Z h0 c2 k_c2 .long (16 : Int32) [(.long y0), (.long y1), (.long y2), (.long (0 : Int64))] (.long (0 : Int64))) (n_c2 : n0 ≤ c2) (V_c3 : Arv Z h0 c3 k_c3 .long (16 : Int32) [(.long y3), (.long y4), (.long y5), (.long (0 : Int64))] (.long (0 : Int64))) (n_c3 : n0 ≤ c3) (ne_c0_c1 : c0 ≠ c1) (ne_c0_c2 : c0 ≠ c2) (ne_c0_c3 : c0 ≠ c3) (ne_c1_c2 : c1 ≠ c2) (ne_c1_c3 : c1 ≠ c3) (ne_c2_c3 : c2 ≠ c3) :
    MetFree l (⟨"com/example/meter/meter/store/Spans", "newestSecond", "()J"⟩ : MethodName) (head1 (Jvm.Cond.code (⟨"com/example/meter/meter/store/Spans", "newestSecond", "()J"⟩ : MethodName) prog_11_method_7_code 1 (some .long) :: ws) ({ frames := 0, cells := 0, slots := 0, locals := 0 } : Room)) (fun a U => a = #[(.ref c0)] ∧ Z.Warmed39 U.vm ∧ U.heap = h0) (fun _ _ _ _ _ => True) (fun _ U o U' => ∃ v L, o = .returned v ∧ own_Q (some (.long y2)) n0 h0 v U'.heap L ∧ FrameEnd U o U' L ({ frames := 0, cells := 0, slots := 0, locals := 0 } : Room).cells ({ frames := 0, cells := 0, slots := 0, locals := 0 } : Room).slots) := by
  refine MetFree.of_bodySF (plainFor_of_name pn_0) hisR ?_
  intro p e s m args below meth c s₁ Bd hml0 hP hK
  obtain ⟨rfl, hZ, hh⟩ := hP
  have hx := Bd.exec
  have hby := Bd.bytes
  have hml : c.maxLocals = 1 := hml0
  have hlk := BodyLoose.notSynchronized Bd
  have hret := Bd.returns
  have hown : s.vm.findClass "com/example/meter/meter/store/Spans" = some m.cls := findClass_of_methodNamed Bd.named
  have hnm := (name_of_methodNamed Bd.named Bd.method).1
  have X0 : Stand p l e ({ frames := 0, cells := 0, slots := 0, locals := 0 } : Room) s m #[(.ref c0)] below meth c s₁ [] 0 0 := Stand.of_body Bd
  have e0 : s₁.heap = h0 := by rw [← hh, Bd.state]; rfl
  have N0 := Fr.nil n0
  rw [ef_8 m c0]
  show Go p e below _ (s₁.setTop (mkF m 0 #[oA c0] []))
  refine own_aload_n 1 X0 hx hby d8_0 rfl rfl rfl ?_
  refine own_getF 4 X0 hx hby hZ hown (own_w hw 29 rfl) e0 F_c0_head d8_1 rfl ?_
  intro T374 X374 e374
  refine own_aload_n 5 X374 hx hby d8_4 rfl rfl rfl ?_
  refine own_getF 8 X374 hx hby hZ hown (own_w hw 23 rfl) e374 F_c0_end d8_5 rfl ?_
  intro T375 X375 e375
  refine own_icY 17 X375 hx hby d8_8 (by decide) (by decide) (by decide) ?_
  refine own_aload_n 18 X375 hx hby d8_17 rfl rfl rfl ?_
  refine own_getF 21 X375 hx hby hZ hown (own_w hw 14 rfl) e375 F_c0_lasts d8_18 rfl ?_
  intro T376 X376 e376
  refine own_aload_n 22 X376 hx hby d8_21 rfl rfl rfl ?_
  refine own_getF 25 X376 hx hby hZ hown (own_w hw 23 rfl) e376 F_c0_end d8_22 rfl ?_
  intro T377 X377 e377
  refine own_iconst 26 (1 : Int32) X377 hx hby d8_25 rfl (by decide) ?_
  refine own_isub 27 (2 : Int32) X377 hx hby d8_26 rfl (by decide) ?_
  refine own_laload 28 (.long y2) X377 hx hby hZ e377 V_c2 d8_27 rfl (by decide) rfl ?_
  exact own_ret (Q := own_Q (some (.long y2)) n0 h0) X377 hx hby hret hlk d8_28 rfl (Or.inr (Or.inl ⟨rfl, rfl, _, rfl⟩)) (by decide) (by decide) ⟨rfl, N0, e377⟩
set_option maxRecDepth 65536 in
set_option maxHeartbeats 40000000 in
theorem rm9_43 (l : Launch) (Z : State) (a0 : Array Value) (hw : ∀ d ∈ tables_1, d.before a0 Z = true) (ws : List Jvm.Cond) (w_NONE k_NONE : Addr) (W : own_W Z w_NONE k_NONE) (c0 : Addr) (c1 : Addr) (k_c1 : ClassId) (c2 : Addr) (k_c2 : ClassId) (c3 : Addr) (k_c3 : ClassId) (y0 : Int64) (y1 : Int64) (y2 : Int64) (y3 : Int64) (y4 : Int64) (y5 : Int64) (y6 : Int64) (h0 : Heap) (n0 : Nat) (O0 : Old Z n0 h0) (E_c0 : Exa Z h0 c0 "com/example/meter/meter/store/Spans") (F_c0_droppedTotal : Fld Z h0 c0 "com/example/meter/meter/store/Spans" "droppedTotal" "J" (.long (0 : Int64))) (F_c0_end : Fld Z h0 c0 "com/example/meter/meter/store/Spans" "end" "I" (.int (3 : Int32))) (F_c0_firsts : Fld Z h0 c0 "com/example/meter/meter/store/Spans" "firsts" "[J" (.ref c1)) (F_c0_head : Fld Z h0 c0 "com/example/meter/meter/store/Spans" "head" "I" (.int (0 : Int32))) (F_c0_lasts : Fld Z h0 c0 "com/example/meter/meter/store/Spans" "lasts" "[J" (.ref c2)) (F_c0_totals : Fld Z h0 c0 "com/example/meter/meter/store/Spans" "totals" "[J" (.ref c3)) (n_c0 : n0 ≤ c0) (V_c1 : Arv Z h0 c1 k_c1 .long (16 : Int32) [(.long y1), (.long y2), (.long y3), (.long (0 : Int64))] (.long (0 : Int64))) (n_c1 : n0 ≤ c1) (V_c2 : Arv Z h0 c2 k_c2 .long (16 : Int32) [(.long y1), (.long y2), (.long y3), (.long (0 : Int64))] (.long (0 : Int64))) (n_c2 : n0 ≤ c2) (V_c3 : Arv Z h0 c3 k_c3 .long (16 : Int32) [(.long y4), (.long y5), (.long y6), (.long (0 : Int64))] (.long (0 : Int64))) (n_c3 : n0 ≤ c3) (ne_c0_c1 : c0 ≠ c1) (ne_c0_c2 : c0 ≠ c2) (ne_c0_c3 : c0 ≠ c3) (ne_c1_c2 : c1 ≠ c2) (ne_c1_c3 : c1 ≠ c3) (ne_c2_c3 : c2 ≠ c3) (hc383 : y0 < y1) :
    MetFree l (⟨"com/example/meter/meter/store/Spans", "dropThrough", "(J)V"⟩ : MethodName) (head1 (Jvm.Cond.code (⟨"com/example/meter/meter/store/Spans", "dropThrough", "(J)V"⟩ : MethodName) prog_11_method_10_code 3 none :: ws) ({ frames := 0, cells := 0, slots := 0, locals := 0 } : Room)) (fun a U => a = #[(.ref c0), (.long y0)] ∧ Z.Warmed39 U.vm ∧ U.heap = h0) (fun _ _ _ _ _ => True) (fun _ U o U' => ∃ v L, o = .returned v ∧ own_Q none n0 h0 v U'.heap L ∧ FrameEnd U o U' L ({ frames := 0, cells := 0, slots := 0, locals := 0 } : Room).cells ({ frames := 0, cells := 0, slots := 0, locals := 0 } : Room).slots) := by
  refine MetFree.of_bodySF (plainFor_of_name pn_0) hisR ?_
  intro p e s m args below meth c s₁ Bd hml0 hP hK
  obtain ⟨rfl, hZ, hh⟩ := hP
  have hx := Bd.exec
  have hby := Bd.bytes
  have hml : c.maxLocals = 3 := hml0
  have hlk := BodyLoose.notSynchronized Bd
  have hret := Bd.returns
  have hown : s.vm.findClass "com/example/meter/meter/store/Spans" = some m.cls := findClass_of_methodNamed Bd.named
  have hnm := (name_of_methodNamed Bd.named Bd.method).1
  have X0 : Stand p l e ({ frames := 0, cells := 0, slots := 0, locals := 0 } : Room) s m #[(.ref c0), (.long y0)] below meth c s₁ [] 0 0 := Stand.of_body Bd
  have e0 : s₁.heap = h0 := by rw [← hh, Bd.state]; rfl
  have N0 := Fr.nil n0
  rw [ef_9 m c0 y0]
  show Go p e below _ (s₁.setTop (mkF m 0 #[oA c0, oJ y0, oS] []))
  refine own_aload_n 1 X0 hx hby d9_0 rfl rfl rfl ?_
  refine own_getF 4 X0 hx hby hZ hown (own_w hw 29 rfl) e0 F_c0_head d9_1 rfl ?_
  intro T379 X379 e379
  refine own_aload_n 5 X379 hx hby d9_4 rfl rfl rfl ?_
  refine own_getF 8 X379 hx hby hZ hown (own_w hw 23 rfl) e379 F_c0_end d9_5 rfl ?_
  intro T380 X380 e380
  refine own_icN 11 X380 hx hby d9_8 rfl (by decide) ?_
  refine own_aload_n 12 X380 hx hby d9_11 rfl rfl rfl ?_
  refine own_getF 15 X380 hx hby hZ hown (own_w hw 14 rfl) e380 F_c0_lasts d9_12 rfl ?_
  intro T381 X381 e381
  refine own_aload_n 16 X381 hx hby d9_15 rfl rfl rfl ?_
  refine own_getF 19 X381 hx hby hZ hown (own_w hw 29 rfl) e381 F_c0_head d9_16 rfl ?_
  intro T382 X382 e382
  refine own_laload 20 (.long y1) X382 hx hby hZ e382 V_c2 d9_19 rfl (by decide) rfl ?_
  refine own_lload_n 21 X382 hx hby d9_20 rfl rfl ?_
  refine own_lcmp 22 (XT.cmpL y1 y0) X382 hx hby d9_21 rfl rfl ?_
  refine own_ifY 51 X382 hx hby d9_22 (by decide) (by decide) (own_tltL hc383).2.2.1 ?_
  exact own_ret0 (Q := own_Q none n0 h0) X382 hx hby hret hlk d9_51 (by decide) (by decide) ⟨rfl, N0, e382⟩
def Q_rm9_44 (Z : State) (w_NONE k_NONE : Addr) (c0 : Addr) (c1 : Addr) (k_c1 : ClassId) (c2 : Addr) (k_c2 : ClassId) (c3 : Addr) (k_c3 : ClassId) (y0 : Int64) (y1 : Int64) (y2 : Int64) (y3 : Int64) (y4 : Int64) (y5 : Int64) (y6 : Int64) (h0 : Heap) (n0 : Nat) (v : Option Value) (h : Heap) (L : List Loc) : Prop := v = none ∧ Fr n0 L ∧ Keep h0 h [c0] ∧ Exa Z h c0 "com/example/meter/meter/store/Spans" ∧ Fld Z h c0 "com/example/meter/meter/store/Spans" "droppedTotal" "J" (.long y4) ∧ Fld Z h c0 "com/example/meter/meter/store/Spans" "end" "I" (.int (3 : Int32)) ∧ Fld Z h c0 "com/example/meter/meter/store/Spans" "firsts" "[J" (.ref c1) ∧ Fld Z h c0 "com/example/meter/meter/store/Spans" "head" "I" (.int (1 : Int32)) ∧ Fld Z h c0 "com/example/meter/meter/store/Spans" "lasts" "[J" (.ref c2) ∧ Fld Z h c0 "com/example/meter/meter/store/Spans" "totals" "[J" (.ref c3) ∧ Arv Z h c1 k_c1 .long (16 : Int32) [(.long y1), (.long y2), (.long y3), (.long (0 : Int64))] (.long (0 : Int64)) ∧ Arv Z h c2 k_c2 .long (16 : Int32) [(.long y1), (.long y2), (.long y3), (.long (0 : Int64))] (.long (0 : Int64)) ∧ Arv Z h c3 k_c3 .long (16 : Int32) [(.long y4), (.long y5), (.long y6), (.long (0 : Int64))] (.long (0 : Int64))
set_option maxRecDepth 65536 in
set_option maxHeartbeats 40000000 in
theorem rm9_44 (l : Launch) (Z : State) (a0 : Array Value) (hw : ∀ d ∈ tables_1, d.before a0 Z = true) (ws : List Jvm.Cond) (w_NONE k_NONE : Addr) (W : own_W Z w_NONE k_NONE) (c0 : Addr) (c1 : Addr) (k_c1 : ClassId) (c2 : Addr) (k_c2 : ClassId) (c3 : Addr) (k_c3 : ClassId) (y0 : Int64) (y1 : Int64) (y2 : Int64) (y3 : Int64) (y4 : Int64) (y5 : Int64) (y6 : Int64) (h0 : Heap) (n0 : Nat) (O0 : Old Z n0 h0) (E_c0 : Exa Z h0 c0 "com/example/meter/meter/store/Spans") (F_c0_droppedTotal : Fld Z h0 c0 "com/example/meter/meter/store/Spans" "droppedTotal" "J" (.long (0 : Int64))) (F_c0_end : Fld Z h0 c0 "com/example/meter/meter/store/Spans" "end" "I" (.int (3 : Int32))) (F_c0_firsts : Fld Z h0 c0 "com/example/meter/meter/store/Spans" "firsts" "[J" (.ref c1)) (F_c0_head : Fld Z h0 c0 "com/example/meter/meter/store/Spans" "head" "I" (.int (0 : Int32))) (F_c0_lasts : Fld Z h0 c0 "com/example/meter/meter/store/Spans" "lasts" "[J" (.ref c2)) (F_c0_totals : Fld Z h0 c0 "com/example/meter/meter/store/Spans" "totals" "[J" (.ref c3)) (n_c0 : n0 ≤ c0) (V_c1 : Arv Z h0 c1 k_c1 .long (16 : Int32) [(.long y1), (.long y2), (.long y3), (.long (0 : Int64))] (.long (0 : Int64))) (n_c1 : n0 ≤ c1) (V_c2 : Arv Z h0 c2 k_c2 .long (16 : Int32) [(.long y1), (.long y2), (.long y3), (.long (0 : Int64))] (.long (0 : Int64))) (n_c2 : n0 ≤ c2) (V_c3 : Arv Z h0 c3 k_c3 .long (16 : Int32) [(.long y4), (.long y5), (.long y6), (.long (0 : Int64))] (.long (0 : Int64))) (n_c3 : n0 ≤ c3) (ne_c0_c1 : c0 ≠ c1) (ne_c0_c2 : c0 ≠ c2) (ne_c0_c3 : c0 ≠ c3) (ne_c1_c2 : c1 ≠ c2) (ne_c1_c3 : c1 ≠ c3) (ne_c2_c3 : c2 ≠ c3) (hc383 : ¬ (y0 < y1)) (hc393 : y0 < y2) :
    MetFree l (⟨"com/example/meter/meter/store/Spans", "dropThrough", "(J)V"⟩ : MethodName) (head1 (Jvm.Cond.code (⟨"com/example/meter/meter/store/Spans", "dropThrough", "(J)V"⟩ : MethodName) prog_11_method_10_code 3 none :: ws) ({ frames := 0, cells := 0, slots := 0, locals := 0 } : Room)) (fun a U => a = #[(.ref c0), (.long y0)] ∧ Z.Warmed39 U.vm ∧ U.heap = h0) (fun _ _ _ _ _ => True) (fun _ U o U' => ∃ v L, o = .returned v ∧ Q_rm9_44 Z w_NONE k_NONE c0 c1 k_c1 c2 k_c2 c3 k_c3 y0 y1 y2 y3 y4 y5 y6 h0 n0 v U'.heap L ∧ FrameEnd U o U' L ({ frames := 0, cells := 0, slots := 0, locals := 0 } : Room).cells ({ frames := 0, cells := 0, slots := 0, locals := 0 } : Room).slots) := by
  refine MetFree.of_bodySF (plainFor_of_name pn_0) hisR ?_
  intro p e s m args below meth c s₁ Bd hml0 hP hK
  obtain ⟨rfl, hZ, hh⟩ := hP
  have hx := Bd.exec
  have hby := Bd.bytes
  have hml : c.maxLocals = 3 := hml0
  have hlk := BodyLoose.notSynchronized Bd
  have hret := Bd.returns
  have hown : s.vm.findClass "com/example/meter/meter/store/Spans" = some m.cls := findClass_of_methodNamed Bd.named
  have hnm := (name_of_methodNamed Bd.named Bd.method).1
  have X0 : Stand p l e ({ frames := 0, cells := 0, slots := 0, locals := 0 } : Room) s m #[(.ref c0), (.long y0)] below meth c s₁ [] 0 0 := Stand.of_body Bd
  have e0 : s₁.heap = h0 := by rw [← hh, Bd.state]; rfl
  have N0 := Fr.nil n0
  rw [ef_9 m c0 y0]
  show Go p e below _ (s₁.setTop (mkF m 0 #[oA c0, oJ y0, oS] []))
  refine own_aload_n 1 X0 hx hby d9_0 rfl rfl rfl ?_
  refine own_getF 4 X0 hx hby hZ hown (own_w hw 29 rfl) e0 F_c0_head d9_1 rfl ?_
  intro T379 X379 e379
  refine own_aload_n 5 X379 hx hby d9_4 rfl rfl rfl ?_
  refine own_getF 8 X379 hx hby hZ hown (own_w hw 23 rfl) e379 F_c0_end d9_5 rfl ?_
  intro T380 X380 e380
  refine own_icN 11 X380 hx hby d9_8 rfl (by decide) ?_
  refine own_aload_n 12 X380 hx hby d9_11 rfl rfl rfl ?_
  refine own_getF 15 X380 hx hby hZ hown (own_w hw 14 rfl) e380 F_c0_lasts d9_12 rfl ?_
  intro T381 X381 e381
  refine own_aload_n 16 X381 hx hby d9_15 rfl rfl rfl ?_
  refine own_getF 19 X381 hx hby hZ hown (own_w hw 29 rfl) e381 F_c0_head d9_16 rfl ?_
  intro T382 X382 e382
  refine own_laload 20 (.long y1) X382 hx hby hZ e382 V_c2 d9_19 rfl (by decide) rfl ?_
  refine own_lload_n 21 X382 hx hby d9_20 rfl rfl ?_
  refine own_lcmp 22 (XT.cmpL y1 y0) X382 hx hby d9_21 rfl rfl ?_
  refine own_ifN 25 X382 hx hby d9_22 rfl (own_fltL hc383).2.2.1 ?_
  refine own_aload_n 26 X382 hx hby d9_25 rfl rfl rfl ?_
  refine own_aload_n 27 X382 hx hby d9_26 rfl rfl rfl ?_
  refine own_getF 30 X382 hx hby hZ hown (own_w hw 16 rfl) e382 F_c0_totals d9_27 rfl ?_
  intro T384 X384 e384
  refine own_aload_n 31 X384 hx hby d9_30 rfl rfl rfl ?_
  refine own_getF 34 X384 hx hby hZ hown (own_w hw 29 rfl) e384 F_c0_head d9_31 rfl ?_
  intro T385 X385 e385
  refine own_laload 35 (.long y4) X385 hx hby hZ e385 V_c3 d9_34 rfl (by decide) rfl ?_
  refine own_putF 38 X385 hx hby hZ .long hown (own_w hw 48 rfl) e385 F_c0_droppedTotal E_c0 (Or.inl (own_w hw 49 rfl)) (own_w hw 2 rfl) (by decide) rfl rfl d9_35 rfl ?_
  intro T386 h386 X386 e386 W386
  have E_c0_386 := E_c0.wr W386
  have F_c0_droppedTotal_386 := F_c0_droppedTotal.same W386
  have F_c0_end_386 := F_c0_end.other W386 (Or.inr (slot_ne (Or.inl (own_w hw 24 rfl)) (Or.inl (own_w hw 49 rfl)) (by decide) (t := .int) (t' := .long) (by decide) (by decide)))
  have F_c0_firsts_386 := F_c0_firsts.other W386 (Or.inr (slot_ne (Or.inl (own_w hw 13 rfl)) (Or.inl (own_w hw 49 rfl)) (by decide) (t := (.array .long)) (t' := .long) (by decide) (by decide)))
  have F_c0_head_386 := F_c0_head.other W386 (Or.inr (slot_ne (Or.inl (own_w hw 30 rfl)) (Or.inl (own_w hw 49 rfl)) (by decide) (t := .int) (t' := .long) (by decide) (by decide)))
  have F_c0_lasts_386 := F_c0_lasts.other W386 (Or.inr (slot_ne (Or.inl (own_w hw 15 rfl)) (Or.inl (own_w hw 49 rfl)) (by decide) (t := (.array .long)) (t' := .long) (by decide) (by decide)))
  have F_c0_totals_386 := F_c0_totals.other W386 (Or.inr (slot_ne (Or.inl (own_w hw 17 rfl)) (Or.inl (own_w hw 49 rfl)) (by decide) (t := (.array .long)) (t' := .long) (by decide) (by decide)))
  have V_c1_386 := V_c1.other W386 (Ne.symm ne_c0_c1)
  have V_c2_386 := V_c2.other W386 (Ne.symm ne_c0_c2)
  have V_c3_386 := V_c3.other W386 (Ne.symm ne_c0_c3)
  have K386 : Keep h0 h386 [c0] := (Keep.refl h0 [c0]).wr W386 (Or.inl (List.mem_of_getElem? (i := 0) rfl))
  have O386 := O0.wr W386 n_c0
  have N386 := Fr.snoc X386 N0 n_c0
  refine own_aload_n 39 X386 hx hby d9_38 rfl rfl rfl ?_
  refine own_dup 40 X386 hx hby d9_39 rfl rfl ?_
  refine own_getF 43 X386 hx hby hZ hown (own_w hw 29 rfl) e386 F_c0_head_386 d9_40 rfl ?_
  intro T387 X387 e387
  refine own_iconst 44 (1 : Int32) X387 hx hby d9_43 rfl (by decide) ?_
  refine own_iadd 45 (1 : Int32) X387 hx hby d9_44 rfl (by decide) ?_
  refine own_putF 48 X387 hx hby hZ .int hown (own_w hw 29 rfl) e387 F_c0_head_386 E_c0_386 (Or.inl (own_w hw 30 rfl)) (own_w hw 2 rfl) (by decide) rfl rfl d9_45 rfl ?_
  intro T388 h388 X388 e388 W388
  have E_c0_388 := E_c0_386.wr W388
  have F_c0_droppedTotal_388 := F_c0_droppedTotal_386.other W388 (Or.inr (slot_ne (Or.inl (own_w hw 49 rfl)) (Or.inl (own_w hw 30 rfl)) (by decide) (t := .long) (t' := .int) (by decide) (by decide)))
  have F_c0_end_388 := F_c0_end_386.other W388 (Or.inr (slot_ne (Or.inl (own_w hw 24 rfl)) (Or.inl (own_w hw 30 rfl)) (by decide) (t := .int) (t' := .int) (by decide) (by decide)))
  have F_c0_firsts_388 := F_c0_firsts_386.other W388 (Or.inr (slot_ne (Or.inl (own_w hw 13 rfl)) (Or.inl (own_w hw 30 rfl)) (by decide) (t := (.array .long)) (t' := .int) (by decide) (by decide)))
  have F_c0_head_388 := F_c0_head_386.same W388
  have F_c0_lasts_388 := F_c0_lasts_386.other W388 (Or.inr (slot_ne (Or.inl (own_w hw 15 rfl)) (Or.inl (own_w hw 30 rfl)) (by decide) (t := (.array .long)) (t' := .int) (by decide) (by decide)))
  have F_c0_totals_388 := F_c0_totals_386.other W388 (Or.inr (slot_ne (Or.inl (own_w hw 17 rfl)) (Or.inl (own_w hw 30 rfl)) (by decide) (t := (.array .long)) (t' := .int) (by decide) (by decide)))
  have V_c1_388 := V_c1_386.other W388 (Ne.symm ne_c0_c1)
  have V_c2_388 := V_c2_386.other W388 (Ne.symm ne_c0_c2)
  have V_c3_388 := V_c3_386.other W388 (Ne.symm ne_c0_c3)
  have K388 : Keep h0 h388 [c0] := K386.wr W388 (Or.inl (List.mem_of_getElem? (i := 0) rfl))
  have O388 := O386.wr W388 n_c0
  have N388 := Fr.snoc X388 N386 n_c0
  refine own_goto 0 X388 hx hby d9_48 (by decide) (by decide) ?_
  refine own_aload_n 1 X388 hx hby d9_0 rfl rfl rfl ?_
  refine own_getF 4 X388 hx hby hZ hown (own_w hw 29 rfl) e388 F_c0_head_388 d9_1 rfl ?_
  intro T389 X389 e389
  refine own_aload_n 5 X389 hx hby d9_4 rfl rfl rfl ?_
  refine own_getF 8 X389 hx hby hZ hown (own_w hw 23 rfl) e389 F_c0_end_388 d9_5 rfl ?_
  intro T390 X390 e390
  refine own_icN 11 X390 hx hby d9_8 rfl (by decide) ?_
  refine own_aload_n 12 X390 hx hby d9_11 rfl rfl rfl ?_
  refine own_getF 15 X390 hx hby hZ hown (own_w hw 14 rfl) e390 F_c0_lasts_388 d9_12 rfl ?_
  intro T391 X391 e391
  refine own_aload_n 16 X391 hx hby d9_15 rfl rfl rfl ?_
  refine own_getF 19 X391 hx hby hZ hown (own_w hw 29 rfl) e391 F_c0_head_388 d9_16 rfl ?_
  intro T392 X392 e392
  refine own_laload 20 (.long y2) X392 hx hby hZ e392 V_c2_388 d9_19 rfl (by decide) rfl ?_
  refine own_lload_n 21 X392 hx hby d9_20 rfl rfl ?_
  refine own_lcmp 22 (XT.cmpL y2 y0) X392 hx hby d9_21 rfl rfl ?_
  refine own_ifY 51 X392 hx hby d9_22 (by decide) (by decide) (own_tltL hc393).2.2.1 ?_
  exact own_ret0 (Q := Q_rm9_44 Z w_NONE k_NONE c0 c1 k_c1 c2 k_c2 c3 k_c3 y0 y1 y2 y3 y4 y5 y6 h0 n0) X392 hx hby hret hlk d9_51 (by decide) (by decide) (by rw [e392]; exact ⟨rfl, N388, K388, E_c0_388, F_c0_droppedTotal_388, F_c0_end_388, F_c0_firsts_388, F_c0_head_388, F_c0_lasts_388, F_c0_totals_388, V_c1_388, V_c2_388, V_c3_388⟩)
def Q_rm9_45 (Z : State) (w_NONE k_NONE : Addr) (c0 : Addr) (c1 : Addr) (k_c1 : ClassId) (c2 : Addr) (k_c2 : ClassId) (c3 : Addr) (k_c3 : ClassId) (y0 : Int64) (y1 : Int64) (y2 : Int64) (y3 : Int64) (y4 : Int64) (y5 : Int64) (y6 : Int64) (h0 : Heap) (n0 : Nat) (v : Option Value) (h : Heap) (L : List Loc) : Prop := v = none ∧ Fr n0 L ∧ Keep h0 h [c0] ∧ Exa Z h c0 "com/example/meter/meter/store/Spans" ∧ Fld Z h c0 "com/example/meter/meter/store/Spans" "droppedTotal" "J" (.long y5) ∧ Fld Z h c0 "com/example/meter/meter/store/Spans" "end" "I" (.int (3 : Int32)) ∧ Fld Z h c0 "com/example/meter/meter/store/Spans" "firsts" "[J" (.ref c1) ∧ Fld Z h c0 "com/example/meter/meter/store/Spans" "head" "I" (.int (2 : Int32)) ∧ Fld Z h c0 "com/example/meter/meter/store/Spans" "lasts" "[J" (.ref c2) ∧ Fld Z h c0 "com/example/meter/meter/store/Spans" "totals" "[J" (.ref c3) ∧ Arv Z h c1 k_c1 .long (16 : Int32) [(.long y1), (.long y2), (.long y3), (.long (0 : Int64))] (.long (0 : Int64)) ∧ Arv Z h c2 k_c2 .long (16 : Int32) [(.long y1), (.long y2), (.long y3), (.long (0 : Int64))] (.long (0 : Int64)) ∧ Arv Z h c3 k_c3 .long (16 : Int32) [(.long y4), (.long y5), (.long y6), (.long (0 : Int64))] (.long (0 : Int64))
set_option maxRecDepth 65536 in
set_option maxHeartbeats 40000000 in
theorem rm9_45 (l : Launch) (Z : State) (a0 : Array Value) (hw : ∀ d ∈ tables_1, d.before a0 Z = true) (ws : List Jvm.Cond) (w_NONE k_NONE : Addr) (W : own_W Z w_NONE k_NONE) (c0 : Addr) (c1 : Addr) (k_c1 : ClassId) (c2 : Addr) (k_c2 : ClassId) (c3 : Addr) (k_c3 : ClassId) (y0 : Int64) (y1 : Int64) (y2 : Int64) (y3 : Int64) (y4 : Int64) (y5 : Int64) (y6 : Int64) (h0 : Heap) (n0 : Nat) (O0 : Old Z n0 h0) (E_c0 : Exa Z h0 c0 "com/example/meter/meter/store/Spans") (F_c0_droppedTotal : Fld Z h0 c0 "com/example/meter/meter/store/Spans" "droppedTotal" "J" (.long (0 : Int64))) (F_c0_end : Fld Z h0 c0 "com/example/meter/meter/store/Spans" "end" "I" (.int (3 : Int32))) (F_c0_firsts : Fld Z h0 c0 "com/example/meter/meter/store/Spans" "firsts" "[J" (.ref c1)) (F_c0_head : Fld Z h0 c0 "com/example/meter/meter/store/Spans" "head" "I" (.int (0 : Int32))) (F_c0_lasts : Fld Z h0 c0 "com/example/meter/meter/store/Spans" "lasts" "[J" (.ref c2)) (F_c0_totals : Fld Z h0 c0 "com/example/meter/meter/store/Spans" "totals" "[J" (.ref c3)) (n_c0 : n0 ≤ c0) (V_c1 : Arv Z h0 c1 k_c1 .long (16 : Int32) [(.long y1), (.long y2), (.long y3), (.long (0 : Int64))] (.long (0 : Int64))) (n_c1 : n0 ≤ c1) (V_c2 : Arv Z h0 c2 k_c2 .long (16 : Int32) [(.long y1), (.long y2), (.long y3), (.long (0 : Int64))] (.long (0 : Int64))) (n_c2 : n0 ≤ c2) (V_c3 : Arv Z h0 c3 k_c3 .long (16 : Int32) [(.long y4), (.long y5), (.long y6), (.long (0 : Int64))] (.long (0 : Int64))) (n_c3 : n0 ≤ c3) (ne_c0_c1 : c0 ≠ c1) (ne_c0_c2 : c0 ≠ c2) (ne_c0_c3 : c0 ≠ c3) (ne_c1_c2 : c1 ≠ c2) (ne_c1_c3 : c1 ≠ c3) (ne_c2_c3 : c2 ≠ c3) (hc383 : ¬ (y0 < y1)) (hc393 : ¬ (y0 < y2)) (hc403 : y0 < y3) :
    MetFree l (⟨"com/example/meter/meter/store/Spans", "dropThrough", "(J)V"⟩ : MethodName) (head1 (Jvm.Cond.code (⟨"com/example/meter/meter/store/Spans", "dropThrough", "(J)V"⟩ : MethodName) prog_11_method_10_code 3 none :: ws) ({ frames := 0, cells := 0, slots := 0, locals := 0 } : Room)) (fun a U => a = #[(.ref c0), (.long y0)] ∧ Z.Warmed39 U.vm ∧ U.heap = h0) (fun _ _ _ _ _ => True) (fun _ U o U' => ∃ v L, o = .returned v ∧ Q_rm9_45 Z w_NONE k_NONE c0 c1 k_c1 c2 k_c2 c3 k_c3 y0 y1 y2 y3 y4 y5 y6 h0 n0 v U'.heap L ∧ FrameEnd U o U' L ({ frames := 0, cells := 0, slots := 0, locals := 0 } : Room).cells ({ frames := 0, cells := 0, slots := 0, locals := 0 } : Room).slots) := by
  refine MetFree.of_bodySF (plainFor_of_name pn_0) hisR ?_
  intro p e s m args below meth c s₁ Bd hml0 hP hK
  obtain ⟨rfl, hZ, hh⟩ := hP
  have hx := Bd.exec
  have hby := Bd.bytes
  have hml : c.maxLocals = 3 := hml0
  have hlk := BodyLoose.notSynchronized Bd
  have hret := Bd.returns
  have hown : s.vm.findClass "com/example/meter/meter/store/Spans" = some m.cls := findClass_of_methodNamed Bd.named
  have hnm := (name_of_methodNamed Bd.named Bd.method).1
  have X0 : Stand p l e ({ frames := 0, cells := 0, slots := 0, locals := 0 } : Room) s m #[(.ref c0), (.long y0)] below meth c s₁ [] 0 0 := Stand.of_body Bd
  have e0 : s₁.heap = h0 := by rw [← hh, Bd.state]; rfl
  have N0 := Fr.nil n0
  rw [ef_9 m c0 y0]
  show Go p e below _ (s₁.setTop (mkF m 0 #[oA c0, oJ y0, oS] []))
  refine own_aload_n 1 X0 hx hby d9_0 rfl rfl rfl ?_
  refine own_getF 4 X0 hx hby hZ hown (own_w hw 29 rfl) e0 F_c0_head d9_1 rfl ?_
  intro T379 X379 e379
  refine own_aload_n 5 X379 hx hby d9_4 rfl rfl rfl ?_
  refine own_getF 8 X379 hx hby hZ hown (own_w hw 23 rfl) e379 F_c0_end d9_5 rfl ?_
  intro T380 X380 e380
  refine own_icN 11 X380 hx hby d9_8 rfl (by decide) ?_
  refine own_aload_n 12 X380 hx hby d9_11 rfl rfl rfl ?_
  refine own_getF 15 X380 hx hby hZ hown (own_w hw 14 rfl) e380 F_c0_lasts d9_12 rfl ?_
  intro T381 X381 e381
  refine own_aload_n 16 X381 hx hby d9_15 rfl rfl rfl ?_
  refine own_getF 19 X381 hx hby hZ hown (own_w hw 29 rfl) e381 F_c0_head d9_16 rfl ?_
  intro T382 X382 e382
  refine own_laload 20 (.long y1) X382 hx hby hZ e382 V_c2 d9_19 rfl (by decide) rfl ?_
  refine own_lload_n 21 X382 hx hby d9_20 rfl rfl ?_
  refine own_lcmp 22 (XT.cmpL y1 y0) X382 hx hby d9_21 rfl rfl ?_
  refine own_ifN 25 X382 hx hby d9_22 rfl (own_fltL hc383).2.2.1 ?_
  refine own_aload_n 26 X382 hx hby d9_25 rfl rfl rfl ?_
  refine own_aload_n 27 X382 hx hby d9_26 rfl rfl rfl ?_
  refine own_getF 30 X382 hx hby hZ hown (own_w hw 16 rfl) e382 F_c0_totals d9_27 rfl ?_
  intro T384 X384 e384
  refine own_aload_n 31 X384 hx hby d9_30 rfl rfl rfl ?_
  refine own_getF 34 X384 hx hby hZ hown (own_w hw 29 rfl) e384 F_c0_head d9_31 rfl ?_
  intro T385 X385 e385
  refine own_laload 35 (.long y4) X385 hx hby hZ e385 V_c3 d9_34 rfl (by decide) rfl ?_
  refine own_putF 38 X385 hx hby hZ .long hown (own_w hw 48 rfl) e385 F_c0_droppedTotal E_c0 (Or.inl (own_w hw 49 rfl)) (own_w hw 2 rfl) (by decide) rfl rfl d9_35 rfl ?_
  intro T386 h386 X386 e386 W386
  have E_c0_386 := E_c0.wr W386
  have F_c0_droppedTotal_386 := F_c0_droppedTotal.same W386
  have F_c0_end_386 := F_c0_end.other W386 (Or.inr (slot_ne (Or.inl (own_w hw 24 rfl)) (Or.inl (own_w hw 49 rfl)) (by decide) (t := .int) (t' := .long) (by decide) (by decide)))
  have F_c0_firsts_386 := F_c0_firsts.other W386 (Or.inr (slot_ne (Or.inl (own_w hw 13 rfl)) (Or.inl (own_w hw 49 rfl)) (by decide) (t := (.array .long)) (t' := .long) (by decide) (by decide)))
  have F_c0_head_386 := F_c0_head.other W386 (Or.inr (slot_ne (Or.inl (own_w hw 30 rfl)) (Or.inl (own_w hw 49 rfl)) (by decide) (t := .int) (t' := .long) (by decide) (by decide)))
  have F_c0_lasts_386 := F_c0_lasts.other W386 (Or.inr (slot_ne (Or.inl (own_w hw 15 rfl)) (Or.inl (own_w hw 49 rfl)) (by decide) (t := (.array .long)) (t' := .long) (by decide) (by decide)))
  have F_c0_totals_386 := F_c0_totals.other W386 (Or.inr (slot_ne (Or.inl (own_w hw 17 rfl)) (Or.inl (own_w hw 49 rfl)) (by decide) (t := (.array .long)) (t' := .long) (by decide) (by decide)))
  have V_c1_386 := V_c1.other W386 (Ne.symm ne_c0_c1)
  have V_c2_386 := V_c2.other W386 (Ne.symm ne_c0_c2)
  have V_c3_386 := V_c3.other W386 (Ne.symm ne_c0_c3)
  have K386 : Keep h0 h386 [c0] := (Keep.refl h0 [c0]).wr W386 (Or.inl (List.mem_of_getElem? (i := 0) rfl))
  have O386 := O0.wr W386 n_c0
  have N386 := Fr.snoc X386 N0 n_c0
  refine own_aload_n 39 X386 hx hby d9_38 rfl rfl rfl ?_
  refine own_dup 40 X386 hx hby d9_39 rfl rfl ?_
  refine own_getF 43 X386 hx hby hZ hown (own_w hw 29 rfl) e386 F_c0_head_386 d9_40 rfl ?_
  intro T387 X387 e387
  refine own_iconst 44 (1 : Int32) X387 hx hby d9_43 rfl (by decide) ?_
  refine own_iadd 45 (1 : Int32) X387 hx hby d9_44 rfl (by decide) ?_
  refine own_putF 48 X387 hx hby hZ .int hown (own_w hw 29 rfl) e387 F_c0_head_386 E_c0_386 (Or.inl (own_w hw 30 rfl)) (own_w hw 2 rfl) (by decide) rfl rfl d9_45 rfl ?_
  intro T388 h388 X388 e388 W388
  have E_c0_388 := E_c0_386.wr W388
  have F_c0_droppedTotal_388 := F_c0_droppedTotal_386.other W388 (Or.inr (slot_ne (Or.inl (own_w hw 49 rfl)) (Or.inl (own_w hw 30 rfl)) (by decide) (t := .long) (t' := .int) (by decide) (by decide)))
  have F_c0_end_388 := F_c0_end_386.other W388 (Or.inr (slot_ne (Or.inl (own_w hw 24 rfl)) (Or.inl (own_w hw 30 rfl)) (by decide) (t := .int) (t' := .int) (by decide) (by decide)))
  have F_c0_firsts_388 := F_c0_firsts_386.other W388 (Or.inr (slot_ne (Or.inl (own_w hw 13 rfl)) (Or.inl (own_w hw 30 rfl)) (by decide) (t := (.array .long)) (t' := .int) (by decide) (by decide)))
  have F_c0_head_388 := F_c0_head_386.same W388
  have F_c0_lasts_388 := F_c0_lasts_386.other W388 (Or.inr (slot_ne (Or.inl (own_w hw 15 rfl)) (Or.inl (own_w hw 30 rfl)) (by decide) (t := (.array .long)) (t' := .int) (by decide) (by decide)))
  have F_c0_totals_388 := F_c0_totals_386.other W388 (Or.inr (slot_ne (Or.inl (own_w hw 17 rfl)) (Or.inl (own_w hw 30 rfl)) (by decide) (t := (.array .long)) (t' := .int) (by decide) (by decide)))
  have V_c1_388 := V_c1_386.other W388 (Ne.symm ne_c0_c1)
  have V_c2_388 := V_c2_386.other W388 (Ne.symm ne_c0_c2)
  have V_c3_388 := V_c3_386.other W388 (Ne.symm ne_c0_c3)
  have K388 : Keep h0 h388 [c0] := K386.wr W388 (Or.inl (List.mem_of_getElem? (i := 0) rfl))
  have O388 := O386.wr W388 n_c0
  have N388 := Fr.snoc X388 N386 n_c0
  refine own_goto 0 X388 hx hby d9_48 (by decide) (by decide) ?_
  refine own_aload_n 1 X388 hx hby d9_0 rfl rfl rfl ?_
  refine own_getF 4 X388 hx hby hZ hown (own_w hw 29 rfl) e388 F_c0_head_388 d9_1 rfl ?_
  intro T389 X389 e389
  refine own_aload_n 5 X389 hx hby d9_4 rfl rfl rfl ?_
  refine own_getF 8 X389 hx hby hZ hown (own_w hw 23 rfl) e389 F_c0_end_388 d9_5 rfl ?_
  intro T390 X390 e390
  refine own_icN 11 X390 hx hby d9_8 rfl (by decide) ?_
  refine own_aload_n 12 X390 hx hby d9_11 rfl rfl rfl ?_
  refine own_getF 15 X390 hx hby hZ hown (own_w hw 14 rfl) e390 F_c0_lasts_388 d9_12 rfl ?_
  intro T391 X391 e391
  refine own_aload_n 16 X391 hx hby d9_15 rfl rfl rfl ?_
  refine own_getF 19 X391 hx hby hZ hown (own_w hw 29 rfl) e391 F_c0_head_388 d9_16 rfl ?_
  intro T392 X392 e392
  refine own_laload 20 (.long y2) X392 hx hby hZ e392 V_c2_388 d9_19 rfl (by decide) rfl ?_
  refine own_lload_n 21 X392 hx hby d9_20 rfl rfl ?_
  refine own_lcmp 22 (XT.cmpL y2 y0) X392 hx hby d9_21 rfl rfl ?_
  refine own_ifN 25 X392 hx hby d9_22 rfl (own_fltL hc393).2.2.1 ?_
  refine own_aload_n 26 X392 hx hby d9_25 rfl rfl rfl ?_
  refine own_aload_n 27 X392 hx hby d9_26 rfl rfl rfl ?_
  refine own_getF 30 X392 hx hby hZ hown (own_w hw 16 rfl) e392 F_c0_totals_388 d9_27 rfl ?_
  intro T394 X394 e394
  refine own_aload_n 31 X394 hx hby d9_30 rfl rfl rfl ?_
  refine own_getF 34 X394 hx hby hZ hown (own_w hw 29 rfl) e394 F_c0_head_388 d9_31 rfl ?_
  intro T395 X395 e395
  refine own_laload 35 (.long y5) X395 hx hby hZ e395 V_c3_388 d9_34 rfl (by decide) rfl ?_
  refine own_putF 38 X395 hx hby hZ .long hown (own_w hw 48 rfl) e395 F_c0_droppedTotal_388 E_c0_388 (Or.inl (own_w hw 49 rfl)) (own_w hw 2 rfl) (by decide) rfl rfl d9_35 rfl ?_
  intro T396 h396 X396 e396 W396
  have E_c0_396 := E_c0_388.wr W396
  have F_c0_droppedTotal_396 := F_c0_droppedTotal_388.same W396
  have F_c0_end_396 := F_c0_end_388.other W396 (Or.inr (slot_ne (Or.inl (own_w hw 24 rfl)) (Or.inl (own_w hw 49 rfl)) (by decide) (t := .int) (t' := .long) (by decide) (by decide)))
  have F_c0_firsts_396 := F_c0_firsts_388.other W396 (Or.inr (slot_ne (Or.inl (own_w hw 13 rfl)) (Or.inl (own_w hw 49 rfl)) (by decide) (t := (.array .long)) (t' := .long) (by decide) (by decide)))
  have F_c0_head_396 := F_c0_head_388.other W396 (Or.inr (slot_ne (Or.inl (own_w hw 30 rfl)) (Or.inl (own_w hw 49 rfl)) (by decide) (t := .int) (t' := .long) (by decide) (by decide)))
  have F_c0_lasts_396 := F_c0_lasts_388.other W396 (Or.inr (slot_ne (Or.inl (own_w hw 15 rfl)) (Or.inl (own_w hw 49 rfl)) (by decide) (t := (.array .long)) (t' := .long) (by decide) (by decide)))
  have F_c0_totals_396 := F_c0_totals_388.other W396 (Or.inr (slot_ne (Or.inl (own_w hw 17 rfl)) (Or.inl (own_w hw 49 rfl)) (by decide) (t := (.array .long)) (t' := .long) (by decide) (by decide)))
  have V_c1_396 := V_c1_388.other W396 (Ne.symm ne_c0_c1)
  have V_c2_396 := V_c2_388.other W396 (Ne.symm ne_c0_c2)
  have V_c3_396 := V_c3_388.other W396 (Ne.symm ne_c0_c3)
  have K396 : Keep h0 h396 [c0] := K388.wr W396 (Or.inl (List.mem_of_getElem? (i := 0) rfl))
  have O396 := O388.wr W396 n_c0
  have N396 := Fr.snoc X396 N388 n_c0
  refine own_aload_n 39 X396 hx hby d9_38 rfl rfl rfl ?_
  refine own_dup 40 X396 hx hby d9_39 rfl rfl ?_
  refine own_getF 43 X396 hx hby hZ hown (own_w hw 29 rfl) e396 F_c0_head_396 d9_40 rfl ?_
  intro T397 X397 e397
  refine own_iconst 44 (1 : Int32) X397 hx hby d9_43 rfl (by decide) ?_
  refine own_iadd 45 (2 : Int32) X397 hx hby d9_44 rfl (by decide) ?_
  refine own_putF 48 X397 hx hby hZ .int hown (own_w hw 29 rfl) e397 F_c0_head_396 E_c0_396 (Or.inl (own_w hw 30 rfl)) (own_w hw 2 rfl) (by decide) rfl rfl d9_45 rfl ?_
  intro T398 h398 X398 e398 W398
  have E_c0_398 := E_c0_396.wr W398
  have F_c0_droppedTotal_398 := F_c0_droppedTotal_396.other W398 (Or.inr (slot_ne (Or.inl (own_w hw 49 rfl)) (Or.inl (own_w hw 30 rfl)) (by decide) (t := .long) (t' := .int) (by decide) (by decide)))
  have F_c0_end_398 := F_c0_end_396.other W398 (Or.inr (slot_ne (Or.inl (own_w hw 24 rfl)) (Or.inl (own_w hw 30 rfl)) (by decide) (t := .int) (t' := .int) (by decide) (by decide)))
  have F_c0_firsts_398 := F_c0_firsts_396.other W398 (Or.inr (slot_ne (Or.inl (own_w hw 13 rfl)) (Or.inl (own_w hw 30 rfl)) (by decide) (t := (.array .long)) (t' := .int) (by decide) (by decide)))
  have F_c0_head_398 := F_c0_head_396.same W398
  have F_c0_lasts_398 := F_c0_lasts_396.other W398 (Or.inr (slot_ne (Or.inl (own_w hw 15 rfl)) (Or.inl (own_w hw 30 rfl)) (by decide) (t := (.array .long)) (t' := .int) (by decide) (by decide)))
  have F_c0_totals_398 := F_c0_totals_396.other W398 (Or.inr (slot_ne (Or.inl (own_w hw 17 rfl)) (Or.inl (own_w hw 30 rfl)) (by decide) (t := (.array .long)) (t' := .int) (by decide) (by decide)))
  have V_c1_398 := V_c1_396.other W398 (Ne.symm ne_c0_c1)
  have V_c2_398 := V_c2_396.other W398 (Ne.symm ne_c0_c2)
  have V_c3_398 := V_c3_396.other W398 (Ne.symm ne_c0_c3)
  have K398 : Keep h0 h398 [c0] := K396.wr W398 (Or.inl (List.mem_of_getElem? (i := 0) rfl))
  have O398 := O396.wr W398 n_c0
  have N398 := Fr.snoc X398 N396 n_c0
  refine own_goto 0 X398 hx hby d9_48 (by decide) (by decide) ?_
  refine own_aload_n 1 X398 hx hby d9_0 rfl rfl rfl ?_
  refine own_getF 4 X398 hx hby hZ hown (own_w hw 29 rfl) e398 F_c0_head_398 d9_1 rfl ?_
  intro T399 X399 e399
  refine own_aload_n 5 X399 hx hby d9_4 rfl rfl rfl ?_
  refine own_getF 8 X399 hx hby hZ hown (own_w hw 23 rfl) e399 F_c0_end_398 d9_5 rfl ?_
  intro T400 X400 e400
  refine own_icN 11 X400 hx hby d9_8 rfl (by decide) ?_
  refine own_aload_n 12 X400 hx hby d9_11 rfl rfl rfl ?_
  refine own_getF 15 X400 hx hby hZ hown (own_w hw 14 rfl) e400 F_c0_lasts_398 d9_12 rfl ?_
  intro T401 X401 e401
  refine own_aload_n 16 X401 hx hby d9_15 rfl rfl rfl ?_
  refine own_getF 19 X401 hx hby hZ hown (own_w hw 29 rfl) e401 F_c0_head_398 d9_16 rfl ?_
  intro T402 X402 e402
  refine own_laload 20 (.long y3) X402 hx hby hZ e402 V_c2_398 d9_19 rfl (by decide) rfl ?_
  refine own_lload_n 21 X402 hx hby d9_20 rfl rfl ?_
  refine own_lcmp 22 (XT.cmpL y3 y0) X402 hx hby d9_21 rfl rfl ?_
  refine own_ifY 51 X402 hx hby d9_22 (by decide) (by decide) (own_tltL hc403).2.2.1 ?_
  exact own_ret0 (Q := Q_rm9_45 Z w_NONE k_NONE c0 c1 k_c1 c2 k_c2 c3 k_c3 y0 y1 y2 y3 y4 y5 y6 h0 n0) X402 hx hby hret hlk d9_51 (by decide) (by decide) (by rw [e402]; exact ⟨rfl, N398, K398, E_c0_398, F_c0_droppedTotal_398, F_c0_end_398, F_c0_firsts_398, F_c0_head_398, F_c0_lasts_398, F_c0_totals_398, V_c1_398, V_c2_398, V_c3_398⟩)
def Q_rm9_46 (Z : State) (w_NONE k_NONE : Addr) (c0 : Addr) (c1 : Addr) (k_c1 : ClassId) (c2 : Addr) (k_c2 : ClassId) (c3 : Addr) (k_c3 : ClassId) (y0 : Int64) (y1 : Int64) (y2 : Int64) (y3 : Int64) (y4 : Int64) (y5 : Int64) (y6 : Int64) (h0 : Heap) (n0 : Nat) (v : Option Value) (h : Heap) (L : List Loc) : Prop := v = none ∧ Fr n0 L ∧ Keep h0 h [c0] ∧ Exa Z h c0 "com/example/meter/meter/store/Spans" ∧ Fld Z h c0 "com/example/meter/meter/store/Spans" "droppedTotal" "J" (.long y6) ∧ Fld Z h c0 "com/example/meter/meter/store/Spans" "end" "I" (.int (3 : Int32)) ∧ Fld Z h c0 "com/example/meter/meter/store/Spans" "firsts" "[J" (.ref c1) ∧ Fld Z h c0 "com/example/meter/meter/store/Spans" "head" "I" (.int (3 : Int32)) ∧ Fld Z h c0 "com/example/meter/meter/store/Spans" "lasts" "[J" (.ref c2) ∧ Fld Z h c0 "com/example/meter/meter/store/Spans" "totals" "[J" (.ref c3) ∧ Arv Z h c1 k_c1 .long (16 : Int32) [(.long y1), (.long y2), (.long y3), (.long (0 : Int64))] (.long (0 : Int64)) ∧ Arv Z h c2 k_c2 .long (16 : Int32) [(.long y1), (.long y2), (.long y3), (.long (0 : Int64))] (.long (0 : Int64)) ∧ Arv Z h c3 k_c3 .long (16 : Int32) [(.long y4), (.long y5), (.long y6), (.long (0 : Int64))] (.long (0 : Int64))
set_option maxRecDepth 65536 in
set_option maxHeartbeats 40000000 in
theorem rm9_46 (l : Launch) (Z : State) (a0 : Array Value) (hw : ∀ d ∈ tables_1, d.before a0 Z = true) (ws : List Jvm.Cond) (w_NONE k_NONE : Addr) (W : own_W Z w_NONE k_NONE) (c0 : Addr) (c1 : Addr) (k_c1 : ClassId) (c2 : Addr) (k_c2 : ClassId) (c3 : Addr) (k_c3 : ClassId) (y0 : Int64) (y1 : Int64) (y2 : Int64) (y3 : Int64) (y4 : Int64) (y5 : Int64) (y6 : Int64) (h0 : Heap) (n0 : Nat) (O0 : Old Z n0 h0) (E_c0 : Exa Z h0 c0 "com/example/meter/meter/store/Spans") (F_c0_droppedTotal : Fld Z h0 c0 "com/example/meter/meter/store/Spans" "droppedTotal" "J" (.long (0 : Int64))) (F_c0_end : Fld Z h0 c0 "com/example/meter/meter/store/Spans" "end" "I" (.int (3 : Int32))) (F_c0_firsts : Fld Z h0 c0 "com/example/meter/meter/store/Spans" "firsts" "[J" (.ref c1)) (F_c0_head : Fld Z h0 c0 "com/example/meter/meter/store/Spans" "head" "I" (.int (0 : Int32))) (F_c0_lasts : Fld Z h0 c0 "com/example/meter/meter/store/Spans" "lasts" "[J" (.ref c2)) (F_c0_totals : Fld Z h0 c0 "com/example/meter/meter/store/Spans" "totals" "[J" (.ref c3)) (n_c0 : n0 ≤ c0) (V_c1 : Arv Z h0 c1 k_c1 .long (16 : Int32) [(.long y1), (.long y2), (.long y3), (.long (0 : Int64))] (.long (0 : Int64))) (n_c1 : n0 ≤ c1) (V_c2 : Arv Z h0 c2 k_c2 .long (16 : Int32) [(.long y1), (.long y2), (.long y3), (.long (0 : Int64))] (.long (0 : Int64))) (n_c2 : n0 ≤ c2) (V_c3 : Arv Z h0 c3 k_c3 .long (16 : Int32) [(.long y4), (.long y5), (.long y6), (.long (0 : Int64))] (.long (0 : Int64))) (n_c3 : n0 ≤ c3) (ne_c0_c1 : c0 ≠ c1) (ne_c0_c2 : c0 ≠ c2) (ne_c0_c3 : c0 ≠ c3) (ne_c1_c2 : c1 ≠ c2) (ne_c1_c3 : c1 ≠ c3) (ne_c2_c3 : c2 ≠ c3) (hc383 : ¬ (y0 < y1)) (hc393 : ¬ (y0 < y2)) (hc403 : ¬ (y0 < y3)) :
    MetFree l (⟨"com/example/meter/meter/store/Spans", "dropThrough", "(J)V"⟩ : MethodName) (head1 (Jvm.Cond.code (⟨"com/example/meter/meter/store/Spans", "dropThrough", "(J)V"⟩ : MethodName) prog_11_method_10_code 3 none :: ws) ({ frames := 0, cells := 0, slots := 0, locals := 0 } : Room)) (fun a U => a = #[(.ref c0), (.long y0)] ∧ Z.Warmed39 U.vm ∧ U.heap = h0) (fun _ _ _ _ _ => True) (fun _ U o U' => ∃ v L, o = .returned v ∧ Q_rm9_46 Z w_NONE k_NONE c0 c1 k_c1 c2 k_c2 c3 k_c3 y0 y1 y2 y3 y4 y5 y6 h0 n0 v U'.heap L ∧ FrameEnd U o U' L ({ frames := 0, cells := 0, slots := 0, locals := 0 } : Room).cells ({ frames := 0, cells := 0, slots := 0, locals := 0 } : Room).slots) := by
  refine MetFree.of_bodySF (plainFor_of_name pn_0) hisR ?_
  intro p e s m args below meth c s₁ Bd hml0 hP hK
  obtain ⟨rfl, hZ, hh⟩ := hP
  have hx := Bd.exec
  have hby := Bd.bytes
  have hml : c.maxLocals = 3 := hml0
  have hlk := BodyLoose.notSynchronized Bd
  have hret := Bd.returns
  have hown : s.vm.findClass "com/example/meter/meter/store/Spans" = some m.cls := findClass_of_methodNamed Bd.named
  have hnm := (name_of_methodNamed Bd.named Bd.method).1
  have X0 : Stand p l e ({ frames := 0, cells := 0, slots := 0, locals := 0 } : Room) s m #[(.ref c0), (.long y0)] below meth c s₁ [] 0 0 := Stand.of_body Bd
  have e0 : s₁.heap = h0 := by rw [← hh, Bd.state]; rfl
  have N0 := Fr.nil n0
  rw [ef_9 m c0 y0]
  show Go p e below _ (s₁.setTop (mkF m 0 #[oA c0, oJ y0, oS] []))
  refine own_aload_n 1 X0 hx hby d9_0 rfl rfl rfl ?_
  refine own_getF 4 X0 hx hby hZ hown (own_w hw 29 rfl) e0 F_c0_head d9_1 rfl ?_
  intro T379 X379 e379
  refine own_aload_n 5 X379 hx hby d9_4 rfl rfl rfl ?_
  refine own_getF 8 X379 hx hby hZ hown (own_w hw 23 rfl) e379 F_c0_end d9_5 rfl ?_
  intro T380 X380 e380
  refine own_icN 11 X380 hx hby d9_8 rfl (by decide) ?_
  refine own_aload_n 12 X380 hx hby d9_11 rfl rfl rfl ?_
  refine own_getF 15 X380 hx hby hZ hown (own_w hw 14 rfl) e380 F_c0_lasts d9_12 rfl ?_
  intro T381 X381 e381
  refine own_aload_n 16 X381 hx hby d9_15 rfl rfl rfl ?_
  refine own_getF 19 X381 hx hby hZ hown (own_w hw 29 rfl) e381 F_c0_head d9_16 rfl ?_
  intro T382 X382 e382
  refine own_laload 20 (.long y1) X382 hx hby hZ e382 V_c2 d9_19 rfl (by decide) rfl ?_
  refine own_lload_n 21 X382 hx hby d9_20 rfl rfl ?_
  refine own_lcmp 22 (XT.cmpL y1 y0) X382 hx hby d9_21 rfl rfl ?_
  refine own_ifN 25 X382 hx hby d9_22 rfl (own_fltL hc383).2.2.1 ?_
  refine own_aload_n 26 X382 hx hby d9_25 rfl rfl rfl ?_
  refine own_aload_n 27 X382 hx hby d9_26 rfl rfl rfl ?_
  refine own_getF 30 X382 hx hby hZ hown (own_w hw 16 rfl) e382 F_c0_totals d9_27 rfl ?_
  intro T384 X384 e384
  refine own_aload_n 31 X384 hx hby d9_30 rfl rfl rfl ?_
  refine own_getF 34 X384 hx hby hZ hown (own_w hw 29 rfl) e384 F_c0_head d9_31 rfl ?_
  intro T385 X385 e385
  refine own_laload 35 (.long y4) X385 hx hby hZ e385 V_c3 d9_34 rfl (by decide) rfl ?_
  refine own_putF 38 X385 hx hby hZ .long hown (own_w hw 48 rfl) e385 F_c0_droppedTotal E_c0 (Or.inl (own_w hw 49 rfl)) (own_w hw 2 rfl) (by decide) rfl rfl d9_35 rfl ?_
  intro T386 h386 X386 e386 W386
  have E_c0_386 := E_c0.wr W386
  have F_c0_droppedTotal_386 := F_c0_droppedTotal.same W386
  have F_c0_end_386 := F_c0_end.other W386 (Or.inr (slot_ne (Or.inl (own_w hw 24 rfl)) (Or.inl (own_w hw 49 rfl)) (by decide) (t := .int) (t' := .long) (by decide) (by decide)))
  have F_c0_firsts_386 := F_c0_firsts.other W386 (Or.inr (slot_ne (Or.inl (own_w hw 13 rfl)) (Or.inl (own_w hw 49 rfl)) (by decide) (t := (.array .long)) (t' := .long) (by decide) (by decide)))
  have F_c0_head_386 := F_c0_head.other W386 (Or.inr (slot_ne (Or.inl (own_w hw 30 rfl)) (Or.inl (own_w hw 49 rfl)) (by decide) (t := .int) (t' := .long) (by decide) (by decide)))
  have F_c0_lasts_386 := F_c0_lasts.other W386 (Or.inr (slot_ne (Or.inl (own_w hw 15 rfl)) (Or.inl (own_w hw 49 rfl)) (by decide) (t := (.array .long)) (t' := .long) (by decide) (by decide)))
  have F_c0_totals_386 := F_c0_totals.other W386 (Or.inr (slot_ne (Or.inl (own_w hw 17 rfl)) (Or.inl (own_w hw 49 rfl)) (by decide) (t := (.array .long)) (t' := .long) (by decide) (by decide)))
  have V_c1_386 := V_c1.other W386 (Ne.symm ne_c0_c1)
  have V_c2_386 := V_c2.other W386 (Ne.symm ne_c0_c2)
  have V_c3_386 := V_c3.other W386 (Ne.symm ne_c0_c3)
  have K386 : Keep h0 h386 [c0] := (Keep.refl h0 [c0]).wr W386 (Or.inl (List.mem_of_getElem? (i := 0) rfl))
  have O386 := O0.wr W386 n_c0
  have N386 := Fr.snoc X386 N0 n_c0
  refine own_aload_n 39 X386 hx hby d9_38 rfl rfl rfl ?_
  refine own_dup 40 X386 hx hby d9_39 rfl rfl ?_
  refine own_getF 43 X386 hx hby hZ hown (own_w hw 29 rfl) e386 F_c0_head_386 d9_40 rfl ?_
  intro T387 X387 e387
  refine own_iconst 44 (1 : Int32) X387 hx hby d9_43 rfl (by decide) ?_
  refine own_iadd 45 (1 : Int32) X387 hx hby d9_44 rfl (by decide) ?_
  refine own_putF 48 X387 hx hby hZ .int hown (own_w hw 29 rfl) e387 F_c0_head_386 E_c0_386 (Or.inl (own_w hw 30 rfl)) (own_w hw 2 rfl) (by decide) rfl rfl d9_45 rfl ?_
  intro T388 h388 X388 e388 W388
  have E_c0_388 := E_c0_386.wr W388
  have F_c0_droppedTotal_388 := F_c0_droppedTotal_386.other W388 (Or.inr (slot_ne (Or.inl (own_w hw 49 rfl)) (Or.inl (own_w hw 30 rfl)) (by decide) (t := .long) (t' := .int) (by decide) (by decide)))
  have F_c0_end_388 := F_c0_end_386.other W388 (Or.inr (slot_ne (Or.inl (own_w hw 24 rfl)) (Or.inl (own_w hw 30 rfl)) (by decide) (t := .int) (t' := .int) (by decide) (by decide)))
  have F_c0_firsts_388 := F_c0_firsts_386.other W388 (Or.inr (slot_ne (Or.inl (own_w hw 13 rfl)) (Or.inl (own_w hw 30 rfl)) (by decide) (t := (.array .long)) (t' := .int) (by decide) (by decide)))
  have F_c0_head_388 := F_c0_head_386.same W388
  have F_c0_lasts_388 := F_c0_lasts_386.other W388 (Or.inr (slot_ne (Or.inl (own_w hw 15 rfl)) (Or.inl (own_w hw 30 rfl)) (by decide) (t := (.array .long)) (t' := .int) (by decide) (by decide)))
  have F_c0_totals_388 := F_c0_totals_386.other W388 (Or.inr (slot_ne (Or.inl (own_w hw 17 rfl)) (Or.inl (own_w hw 30 rfl)) (by decide) (t := (.array .long)) (t' := .int) (by decide) (by decide)))
  have V_c1_388 := V_c1_386.other W388 (Ne.symm ne_c0_c1)
  have V_c2_388 := V_c2_386.other W388 (Ne.symm ne_c0_c2)
  have V_c3_388 := V_c3_386.other W388 (Ne.symm ne_c0_c3)
  have K388 : Keep h0 h388 [c0] := K386.wr W388 (Or.inl (List.mem_of_getElem? (i := 0) rfl))
  have O388 := O386.wr W388 n_c0
  have N388 := Fr.snoc X388 N386 n_c0
  refine own_goto 0 X388 hx hby d9_48 (by decide) (by decide) ?_
  refine own_aload_n 1 X388 hx hby d9_0 rfl rfl rfl ?_
  refine own_getF 4 X388 hx hby hZ hown (own_w hw 29 rfl) e388 F_c0_head_388 d9_1 rfl ?_
  intro T389 X389 e389
  refine own_aload_n 5 X389 hx hby d9_4 rfl rfl rfl ?_
  refine own_getF 8 X389 hx hby hZ hown (own_w hw 23 rfl) e389 F_c0_end_388 d9_5 rfl ?_
  intro T390 X390 e390
  refine own_icN 11 X390 hx hby d9_8 rfl (by decide) ?_
  refine own_aload_n 12 X390 hx hby d9_11 rfl rfl rfl ?_
  refine own_getF 15 X390 hx hby hZ hown (own_w hw 14 rfl) e390 F_c0_lasts_388 d9_12 rfl ?_
  intro T391 X391 e391
  refine own_aload_n 16 X391 hx hby d9_15 rfl rfl rfl ?_
  refine own_getF 19 X391 hx hby hZ hown (own_w hw 29 rfl) e391 F_c0_head_388 d9_16 rfl ?_
  intro T392 X392 e392
  refine own_laload 20 (.long y2) X392 hx hby hZ e392 V_c2_388 d9_19 rfl (by decide) rfl ?_
  refine own_lload_n 21 X392 hx hby d9_20 rfl rfl ?_
  refine own_lcmp 22 (XT.cmpL y2 y0) X392 hx hby d9_21 rfl rfl ?_
  refine own_ifN 25 X392 hx hby d9_22 rfl (own_fltL hc393).2.2.1 ?_
  refine own_aload_n 26 X392 hx hby d9_25 rfl rfl rfl ?_
  refine own_aload_n 27 X392 hx hby d9_26 rfl rfl rfl ?_
  refine own_getF 30 X392 hx hby hZ hown (own_w hw 16 rfl) e392 F_c0_totals_388 d9_27 rfl ?_
  intro T394 X394 e394
  refine own_aload_n 31 X394 hx hby d9_30 rfl rfl rfl ?_
  refine own_getF 34 X394 hx hby hZ hown (own_w hw 29 rfl) e394 F_c0_head_388 d9_31 rfl ?_
  intro T395 X395 e395
  refine own_laload 35 (.long y5) X395 hx hby hZ e395 V_c3_388 d9_34 rfl (by decide) rfl ?_
  refine own_putF 38 X395 hx hby hZ .long hown (own_w hw 48 rfl) e395 F_c0_droppedTotal_388 E_c0_388 (Or.inl (own_w hw 49 rfl)) (own_w hw 2 rfl) (by decide) rfl rfl d9_35 rfl ?_
  intro T396 h396 X396 e396 W396
  have E_c0_396 := E_c0_388.wr W396
  have F_c0_droppedTotal_396 := F_c0_droppedTotal_388.same W396
  have F_c0_end_396 := F_c0_end_388.other W396 (Or.inr (slot_ne (Or.inl (own_w hw 24 rfl)) (Or.inl (own_w hw 49 rfl)) (by decide) (t := .int) (t' := .long) (by decide) (by decide)))
  have F_c0_firsts_396 := F_c0_firsts_388.other W396 (Or.inr (slot_ne (Or.inl (own_w hw 13 rfl)) (Or.inl (own_w hw 49 rfl)) (by decide) (t := (.array .long)) (t' := .long) (by decide) (by decide)))
  have F_c0_head_396 := F_c0_head_388.other W396 (Or.inr (slot_ne (Or.inl (own_w hw 30 rfl)) (Or.inl (own_w hw 49 rfl)) (by decide) (t := .int) (t' := .long) (by decide) (by decide)))
  have F_c0_lasts_396 := F_c0_lasts_388.other W396 (Or.inr (slot_ne (Or.inl (own_w hw 15 rfl)) (Or.inl (own_w hw 49 rfl)) (by decide) (t := (.array .long)) (t' := .long) (by decide) (by decide)))
  have F_c0_totals_396 := F_c0_totals_388.other W396 (Or.inr (slot_ne (Or.inl (own_w hw 17 rfl)) (Or.inl (own_w hw 49 rfl)) (by decide) (t := (.array .long)) (t' := .long) (by decide) (by decide)))
  have V_c1_396 := V_c1_388.other W396 (Ne.symm ne_c0_c1)
  have V_c2_396 := V_c2_388.other W396 (Ne.symm ne_c0_c2)
  have V_c3_396 := V_c3_388.other W396 (Ne.symm ne_c0_c3)
  have K396 : Keep h0 h396 [c0] := K388.wr W396 (Or.inl (List.mem_of_getElem? (i := 0) rfl))
  have O396 := O388.wr W396 n_c0
  have N396 := Fr.snoc X396 N388 n_c0
  refine own_aload_n 39 X396 hx hby d9_38 rfl rfl rfl ?_
  refine own_dup 40 X396 hx hby d9_39 rfl rfl ?_
  refine own_getF 43 X396 hx hby hZ hown (own_w hw 29 rfl) e396 F_c0_head_396 d9_40 rfl ?_
  intro T397 X397 e397
  refine own_iconst 44 (1 : Int32) X397 hx hby d9_43 rfl (by decide) ?_
  refine own_iadd 45 (2 : Int32) X397 hx hby d9_44 rfl (by decide) ?_
  refine own_putF 48 X397 hx hby hZ .int hown (own_w hw 29 rfl) e397 F_c0_head_396 E_c0_396 (Or.inl (own_w hw 30 rfl)) (own_w hw 2 rfl) (by decide) rfl rfl d9_45 rfl ?_
  intro T398 h398 X398 e398 W398
  have E_c0_398 := E_c0_396.wr W398
  have F_c0_droppedTotal_398 := F_c0_droppedTotal_396.other W398 (Or.inr (slot_ne (Or.inl (own_w hw 49 rfl)) (Or.inl (own_w hw 30 rfl)) (by decide) (t := .long) (t' := .int) (by decide) (by decide)))
  have F_c0_end_398 := F_c0_end_396.other W398 (Or.inr (slot_ne (Or.inl (own_w hw 24 rfl)) (Or.inl (own_w hw 30 rfl)) (by decide) (t := .int) (t' := .int) (by decide) (by decide)))
  have F_c0_firsts_398 := F_c0_firsts_396.other W398 (Or.inr (slot_ne (Or.inl (own_w hw 13 rfl)) (Or.inl (own_w hw 30 rfl)) (by decide) (t := (.array .long)) (t' := .int) (by decide) (by decide)))
  have F_c0_head_398 := F_c0_head_396.same W398
  have F_c0_lasts_398 := F_c0_lasts_396.other W398 (Or.inr (slot_ne (Or.inl (own_w hw 15 rfl)) (Or.inl (own_w hw 30 rfl)) (by decide) (t := (.array .long)) (t' := .int) (by decide) (by decide)))
  have F_c0_totals_398 := F_c0_totals_396.other W398 (Or.inr (slot_ne (Or.inl (own_w hw 17 rfl)) (Or.inl (own_w hw 30 rfl)) (by decide) (t := (.array .long)) (t' := .int) (by decide) (by decide)))
  have V_c1_398 := V_c1_396.other W398 (Ne.symm ne_c0_c1)
  have V_c2_398 := V_c2_396.other W398 (Ne.symm ne_c0_c2)
  have V_c3_398 := V_c3_396.other W398 (Ne.symm ne_c0_c3)
  have K398 : Keep h0 h398 [c0] := K396.wr W398 (Or.inl (List.mem_of_getElem? (i := 0) rfl))
  have O398 := O396.wr W398 n_c0
  have N398 := Fr.snoc X398 N396 n_c0
  refine own_goto 0 X398 hx hby d9_48 (by decide) (by decide) ?_
  refine own_aload_n 1 X398 hx hby d9_0 rfl rfl rfl ?_
  refine own_getF 4 X398 hx hby hZ hown (own_w hw 29 rfl) e398 F_c0_head_398 d9_1 rfl ?_
  intro T399 X399 e399
  refine own_aload_n 5 X399 hx hby d9_4 rfl rfl rfl ?_
  refine own_getF 8 X399 hx hby hZ hown (own_w hw 23 rfl) e399 F_c0_end_398 d9_5 rfl ?_
  intro T400 X400 e400
  refine own_icN 11 X400 hx hby d9_8 rfl (by decide) ?_
  refine own_aload_n 12 X400 hx hby d9_11 rfl rfl rfl ?_
  refine own_getF 15 X400 hx hby hZ hown (own_w hw 14 rfl) e400 F_c0_lasts_398 d9_12 rfl ?_
  intro T401 X401 e401
  refine own_aload_n 16 X401 hx hby d9_15 rfl rfl rfl ?_
  refine own_getF 19 X401 hx hby hZ hown (own_w hw 29 rfl) e401 F_c0_head_398 d9_16 rfl ?_
  intro T402 X402 e402
  refine own_laload 20 (.long y3) X402 hx hby hZ e402 V_c2_398 d9_19 rfl (by decide) rfl ?_
  refine own_lload_n 21 X402 hx hby d9_20 rfl rfl ?_
  refine own_lcmp 22 (XT.cmpL y3 y0) X402 hx hby d9_21 rfl rfl ?_
  refine own_ifN 25 X402 hx hby d9_22 rfl (own_fltL hc403).2.2.1 ?_
  refine own_aload_n 26 X402 hx hby d9_25 rfl rfl rfl ?_
  refine own_aload_n 27 X402 hx hby d9_26 rfl rfl rfl ?_
  refine own_getF 30 X402 hx hby hZ hown (own_w hw 16 rfl) e402 F_c0_totals_398 d9_27 rfl ?_
  intro T404 X404 e404
  refine own_aload_n 31 X404 hx hby d9_30 rfl rfl rfl ?_
  refine own_getF 34 X404 hx hby hZ hown (own_w hw 29 rfl) e404 F_c0_head_398 d9_31 rfl ?_
  intro T405 X405 e405
  refine own_laload 35 (.long y6) X405 hx hby hZ e405 V_c3_398 d9_34 rfl (by decide) rfl ?_
  refine own_putF 38 X405 hx hby hZ .long hown (own_w hw 48 rfl) e405 F_c0_droppedTotal_398 E_c0_398 (Or.inl (own_w hw 49 rfl)) (own_w hw 2 rfl) (by decide) rfl rfl d9_35 rfl ?_
  intro T406 h406 X406 e406 W406
  have E_c0_406 := E_c0_398.wr W406
  have F_c0_droppedTotal_406 := F_c0_droppedTotal_398.same W406
  have F_c0_end_406 := F_c0_end_398.other W406 (Or.inr (slot_ne (Or.inl (own_w hw 24 rfl)) (Or.inl (own_w hw 49 rfl)) (by decide) (t := .int) (t' := .long) (by decide) (by decide)))
  have F_c0_firsts_406 := F_c0_firsts_398.other W406 (Or.inr (slot_ne (Or.inl (own_w hw 13 rfl)) (Or.inl (own_w hw 49 rfl)) (by decide) (t := (.array .long)) (t' := .long) (by decide) (by decide)))
  have F_c0_head_406 := F_c0_head_398.other W406 (Or.inr (slot_ne (Or.inl (own_w hw 30 rfl)) (Or.inl (own_w hw 49 rfl)) (by decide) (t := .int) (t' := .long) (by decide) (by decide)))
  have F_c0_lasts_406 := F_c0_lasts_398.other W406 (Or.inr (slot_ne (Or.inl (own_w hw 15 rfl)) (Or.inl (own_w hw 49 rfl)) (by decide) (t := (.array .long)) (t' := .long) (by decide) (by decide)))
  have F_c0_totals_406 := F_c0_totals_398.other W406 (Or.inr (slot_ne (Or.inl (own_w hw 17 rfl)) (Or.inl (own_w hw 49 rfl)) (by decide) (t := (.array .long)) (t' := .long) (by decide) (by decide)))
  have V_c1_406 := V_c1_398.other W406 (Ne.symm ne_c0_c1)
  have V_c2_406 := V_c2_398.other W406 (Ne.symm ne_c0_c2)
  have V_c3_406 := V_c3_398.other W406 (Ne.symm ne_c0_c3)
  have K406 : Keep h0 h406 [c0] := K398.wr W406 (Or.inl (List.mem_of_getElem? (i := 0) rfl))
  have O406 := O398.wr W406 n_c0
  have N406 := Fr.snoc X406 N398 n_c0
  refine own_aload_n 39 X406 hx hby d9_38 rfl rfl rfl ?_
  refine own_dup 40 X406 hx hby d9_39 rfl rfl ?_
  refine own_getF 43 X406 hx hby hZ hown (own_w hw 29 rfl) e406 F_c0_head_406 d9_40 rfl ?_
  intro T407 X407 e407
  refine own_iconst 44 (1 : Int32) X407 hx hby d9_43 rfl (by decide) ?_
  refine own_iadd 45 (3 : Int32) X407 hx hby d9_44 rfl (by decide) ?_
  refine own_putF 48 X407 hx hby hZ .int hown (own_w hw 29 rfl) e407 F_c0_head_406 E_c0_406 (Or.inl (own_w hw 30 rfl)) (own_w hw 2 rfl) (by decide) rfl rfl d9_45 rfl ?_
  intro T408 h408 X408 e408 W408
  have E_c0_408 := E_c0_406.wr W408
  have F_c0_droppedTotal_408 := F_c0_droppedTotal_406.other W408 (Or.inr (slot_ne (Or.inl (own_w hw 49 rfl)) (Or.inl (own_w hw 30 rfl)) (by decide) (t := .long) (t' := .int) (by decide) (by decide)))
  have F_c0_end_408 := F_c0_end_406.other W408 (Or.inr (slot_ne (Or.inl (own_w hw 24 rfl)) (Or.inl (own_w hw 30 rfl)) (by decide) (t := .int) (t' := .int) (by decide) (by decide)))
  have F_c0_firsts_408 := F_c0_firsts_406.other W408 (Or.inr (slot_ne (Or.inl (own_w hw 13 rfl)) (Or.inl (own_w hw 30 rfl)) (by decide) (t := (.array .long)) (t' := .int) (by decide) (by decide)))
  have F_c0_head_408 := F_c0_head_406.same W408
  have F_c0_lasts_408 := F_c0_lasts_406.other W408 (Or.inr (slot_ne (Or.inl (own_w hw 15 rfl)) (Or.inl (own_w hw 30 rfl)) (by decide) (t := (.array .long)) (t' := .int) (by decide) (by decide)))
  have F_c0_totals_408 := F_c0_totals_406.other W408 (Or.inr (slot_ne (Or.inl (own_w hw 17 rfl)) (Or.inl (own_w hw 30 rfl)) (by decide) (t := (.array .long)) (t' := .int) (by decide) (by decide)))
  have V_c1_408 := V_c1_406.other W408 (Ne.symm ne_c0_c1)
  have V_c2_408 := V_c2_406.other W408 (Ne.symm ne_c0_c2)
  have V_c3_408 := V_c3_406.other W408 (Ne.symm ne_c0_c3)
  have K408 : Keep h0 h408 [c0] := K406.wr W408 (Or.inl (List.mem_of_getElem? (i := 0) rfl))
  have O408 := O406.wr W408 n_c0
  have N408 := Fr.snoc X408 N406 n_c0
  refine own_goto 0 X408 hx hby d9_48 (by decide) (by decide) ?_
  refine own_aload_n 1 X408 hx hby d9_0 rfl rfl rfl ?_
  refine own_getF 4 X408 hx hby hZ hown (own_w hw 29 rfl) e408 F_c0_head_408 d9_1 rfl ?_
  intro T409 X409 e409
  refine own_aload_n 5 X409 hx hby d9_4 rfl rfl rfl ?_
  refine own_getF 8 X409 hx hby hZ hown (own_w hw 23 rfl) e409 F_c0_end_408 d9_5 rfl ?_
  intro T410 X410 e410
  refine own_icY 51 X410 hx hby d9_8 (by decide) (by decide) (by decide) ?_
  exact own_ret0 (Q := Q_rm9_46 Z w_NONE k_NONE c0 c1 k_c1 c2 k_c2 c3 k_c3 y0 y1 y2 y3 y4 y5 y6 h0 n0) X410 hx hby hret hlk d9_51 (by decide) (by decide) (by rw [e410]; exact ⟨rfl, N408, K408, E_c0_408, F_c0_droppedTotal_408, F_c0_end_408, F_c0_firsts_408, F_c0_head_408, F_c0_lasts_408, F_c0_totals_408, V_c1_408, V_c2_408, V_c3_408⟩)
set_option maxRecDepth 65536 in
set_option maxHeartbeats 40000000 in
theorem rm8_47 (l : Launch) (Z : State) (a0 : Array Value) (hw : ∀ d ∈ tables_1, d.before a0 Z = true) (ws : List Jvm.Cond) (w_NONE k_NONE : Addr) (W : own_W Z w_NONE k_NONE) (c0 : Addr) (c1 : Addr) (k_c1 : ClassId) (c2 : Addr) (k_c2 : ClassId) (c3 : Addr) (k_c3 : ClassId) (y0 : Int64) (y1 : Int64) (y2 : Int64) (y3 : Int64) (y4 : Int64) (y5 : Int64) (h0 : Heap) (n0 : Nat) (O0 : Old Z n0 h0) (E_c0 : Exa Z h0 c0 "com/example/meter/meter/store/Spans") (F_c0_droppedTotal : Fld Z h0 c0 "com/example/meter/meter/store/Spans" "droppedTotal" "J" (.long y0)) (F_c0_end : Fld Z h0 c0 "com/example/meter/meter/store/Spans" "end" "I" (.int (3 : Int32))) (F_c0_firsts : Fld Z h0 c0 "com/example/meter/meter/store/Spans" "firsts" "[J" (.ref c1)) (F_c0_head : Fld Z h0 c0 "com/example/meter/meter/store/Spans" "head" "I" (.int (1 : Int32))) (F_c0_lasts : Fld Z h0 c0 "com/example/meter/meter/store/Spans" "lasts" "[J" (.ref c2)) (F_c0_totals : Fld Z h0 c0 "com/example/meter/meter/store/Spans" "totals" "[J" (.ref c3)) (n_c0 : n0 ≤ c0) (V_c1 : Arv Z h0 c1 k_c1 .long (16 : Int32) [(.long y1), (.long y2), (.long y3), (.long (0 : Int64))] (.long (0 : Int64))) (n_c1 : n0 ≤ c1) (V_c2 : Arv Z h0 c2 k_c2 .long (16 : Int32) [(.long y1), (.long y2), (.long y3), (.long (0 : Int64))] (.long (0 : Int64))) (n_c2 : n0 ≤ c2) (V_c3 : Arv Z h0 c3 k_c3 .long (16 : Int32) [(.long y0), (.long y4), (.long y5), (.long (0 : Int64))] (.long (0 : Int64))) (n_c3 : n0 ≤ c3) (ne_c0_c1 : c0 ≠ c1) (ne_c0_c2 : c0 ≠ c2) (ne_c0_c3 : c0 ≠ c3) (ne_c1_c2 : c1 ≠ c2) (ne_c1_c3 : c1 ≠ c3) (ne_c2_c3 : c2 ≠ c3) :
    MetFree l (⟨"com/example/meter/meter/store/Spans", "newestSecond", "()J"⟩ : MethodName) (head1 (Jvm.Cond.code (⟨"com/example/meter/meter/store/Spans", "newestSecond", "()J"⟩ : MethodName) prog_11_method_7_code 1 (some .long) :: ws) ({ frames := 0, cells := 0, slots := 0, locals := 0 } : Room)) (fun a U => a = #[(.ref c0)] ∧ Z.Warmed39 U.vm ∧ U.heap = h0) (fun _ _ _ _ _ => True) (fun _ U o U' => ∃ v L, o = .returned v ∧ own_Q (some (.long y3)) n0 h0 v U'.heap L ∧ FrameEnd U o U' L ({ frames := 0, cells := 0, slots := 0, locals := 0 } : Room).cells ({ frames := 0, cells := 0, slots := 0, locals := 0 } : Room).slots) := by
  refine MetFree.of_bodySF (plainFor_of_name pn_0) hisR ?_
  intro p e s m args below meth c s₁ Bd hml0 hP hK
  obtain ⟨rfl, hZ, hh⟩ := hP
  have hx := Bd.exec
  have hby := Bd.bytes
  have hml : c.maxLocals = 1 := hml0
  have hlk := BodyLoose.notSynchronized Bd
  have hret := Bd.returns
  have hown : s.vm.findClass "com/example/meter/meter/store/Spans" = some m.cls := findClass_of_methodNamed Bd.named
  have hnm := (name_of_methodNamed Bd.named Bd.method).1
  have X0 : Stand p l e ({ frames := 0, cells := 0, slots := 0, locals := 0 } : Room) s m #[(.ref c0)] below meth c s₁ [] 0 0 := Stand.of_body Bd
  have e0 : s₁.heap = h0 := by rw [← hh, Bd.state]; rfl
  have N0 := Fr.nil n0
  rw [ef_8 m c0]
  show Go p e below _ (s₁.setTop (mkF m 0 #[oA c0] []))
  refine own_aload_n 1 X0 hx hby d8_0 rfl rfl rfl ?_
  refine own_getF 4 X0 hx hby hZ hown (own_w hw 29 rfl) e0 F_c0_head d8_1 rfl ?_
  intro T429 X429 e429
  refine own_aload_n 5 X429 hx hby d8_4 rfl rfl rfl ?_
  refine own_getF 8 X429 hx hby hZ hown (own_w hw 23 rfl) e429 F_c0_end d8_5 rfl ?_
  intro T430 X430 e430
  refine own_icY 17 X430 hx hby d8_8 (by decide) (by decide) (by decide) ?_
  refine own_aload_n 18 X430 hx hby d8_17 rfl rfl rfl ?_
  refine own_getF 21 X430 hx hby hZ hown (own_w hw 14 rfl) e430 F_c0_lasts d8_18 rfl ?_
  intro T431 X431 e431
  refine own_aload_n 22 X431 hx hby d8_21 rfl rfl rfl ?_
  refine own_getF 25 X431 hx hby hZ hown (own_w hw 23 rfl) e431 F_c0_end d8_22 rfl ?_
  intro T432 X432 e432
  refine own_iconst 26 (1 : Int32) X432 hx hby d8_25 rfl (by decide) ?_
  refine own_isub 27 (2 : Int32) X432 hx hby d8_26 rfl (by decide) ?_
  refine own_laload 28 (.long y3) X432 hx hby hZ e432 V_c2 d8_27 rfl (by decide) rfl ?_
  exact own_ret (Q := own_Q (some (.long y3)) n0 h0) X432 hx hby hret hlk d8_28 rfl (Or.inr (Or.inl ⟨rfl, rfl, _, rfl⟩)) (by decide) (by decide) ⟨rfl, N0, e432⟩
set_option maxRecDepth 65536 in
set_option maxHeartbeats 40000000 in
theorem rm7_48 (l : Launch) (Z : State) (a0 : Array Value) (hw : ∀ d ∈ tables_1, d.before a0 Z = true) (ws : List Jvm.Cond) (w_NONE k_NONE : Addr) (W : own_W Z w_NONE k_NONE) (c0 : Addr) (c1 : Addr) (k_c1 : ClassId) (c2 : Addr) (k_c2 : ClassId) (c3 : Addr) (k_c3 : ClassId) (y0 : Int64) (y1 : Int64) (y2 : Int64) (y3 : Int64) (y4 : Int64) (y5 : Int64) (h0 : Heap) (n0 : Nat) (O0 : Old Z n0 h0) (E_c0 : Exa Z h0 c0 "com/example/meter/meter/store/Spans") (F_c0_droppedTotal : Fld Z h0 c0 "com/example/meter/meter/store/Spans" "droppedTotal" "J" (.long y0)) (F_c0_end : Fld Z h0 c0 "com/example/meter/meter/store/Spans" "end" "I" (.int (3 : Int32))) (F_c0_firsts : Fld Z h0 c0 "com/example/meter/meter/store/Spans" "firsts" "[J" (.ref c1)) (F_c0_head : Fld Z h0 c0 "com/example/meter/meter/store/Spans" "head" "I" (.int (1 : Int32))) (F_c0_lasts : Fld Z h0 c0 "com/example/meter/meter/store/Spans" "lasts" "[J" (.ref c2)) (F_c0_totals : Fld Z h0 c0 "com/example/meter/meter/store/Spans" "totals" "[J" (.ref c3)) (n_c0 : n0 ≤ c0) (V_c1 : Arv Z h0 c1 k_c1 .long (16 : Int32) [(.long y1), (.long y2), (.long y3), (.long (0 : Int64))] (.long (0 : Int64))) (n_c1 : n0 ≤ c1) (V_c2 : Arv Z h0 c2 k_c2 .long (16 : Int32) [(.long y1), (.long y2), (.long y3), (.long (0 : Int64))] (.long (0 : Int64))) (n_c2 : n0 ≤ c2) (V_c3 : Arv Z h0 c3 k_c3 .long (16 : Int32) [(.long y0), (.long y4), (.long y5), (.long (0 : Int64))] (.long (0 : Int64))) (n_c3 : n0 ≤ c3) (ne_c0_c1 : c0 ≠ c1) (ne_c0_c2 : c0 ≠ c2) (ne_c0_c3 : c0 ≠ c3) (ne_c1_c2 : c1 ≠ c2) (ne_c1_c3 : c1 ≠ c3) (ne_c2_c3 : c2 ≠ c3) :
    MetFree l (⟨"com/example/meter/meter/store/Spans", "totalBefore", "(I)J"⟩ : MethodName) (head1 (Jvm.Cond.code (⟨"com/example/meter/meter/store/Spans", "totalBefore", "(I)J"⟩ : MethodName) prog_11_method_14_code 2 (some .long) :: ws) ({ frames := 0, cells := 0, slots := 0, locals := 0 } : Room)) (fun a U => a = #[(.ref c0), (.int (1 : Int32))] ∧ Z.Warmed39 U.vm ∧ U.heap = h0) (fun _ _ _ _ _ => True) (fun _ U o U' => ∃ v L, o = .returned v ∧ own_Q (some (.long y0)) n0 h0 v U'.heap L ∧ FrameEnd U o U' L ({ frames := 0, cells := 0, slots := 0, locals := 0 } : Room).cells ({ frames := 0, cells := 0, slots := 0, locals := 0 } : Room).slots) := by
  refine MetFree.of_bodySF (plainFor_of_name pn_0) hisR ?_
  intro p e s m args below meth c s₁ Bd hml0 hP hK
  obtain ⟨rfl, hZ, hh⟩ := hP
  have hx := Bd.exec
  have hby := Bd.bytes
  have hml : c.maxLocals = 2 := hml0
  have hlk := BodyLoose.notSynchronized Bd
  have hret := Bd.returns
  have hown : s.vm.findClass "com/example/meter/meter/store/Spans" = some m.cls := findClass_of_methodNamed Bd.named
  have hnm := (name_of_methodNamed Bd.named Bd.method).1
  have X0 : Stand p l e ({ frames := 0, cells := 0, slots := 0, locals := 0 } : Room) s m #[(.ref c0), (.int (1 : Int32))] below meth c s₁ [] 0 0 := Stand.of_body Bd
  have e0 : s₁.heap = h0 := by rw [← hh, Bd.state]; rfl
  have N0 := Fr.nil n0
  rw [ef_7 m c0 (1 : Int32)]
  show Go p e below _ (s₁.setTop (mkF m 0 #[oA c0, oI (1 : Int32)] []))
  refine own_iload_n 1 X0 hx hby d7_0 rfl rfl ?_
  refine own_aload_n 2 X0 hx hby d7_1 rfl rfl rfl ?_
  refine own_getF 5 X0 hx hby hZ hown (own_w hw 29 rfl) e0 F_c0_head d7_2 rfl ?_
  intro T440 X440 e440
  refine own_icN 8 X440 hx hby d7_5 rfl (by decide) ?_
  refine own_aload_n 9 X440 hx hby d7_8 rfl rfl rfl ?_
  refine own_getF 12 X440 hx hby hZ hown (own_w hw 48 rfl) e440 F_c0_droppedTotal d7_9 rfl ?_
  intro T441 X441 e441
  refine own_goto 23 X441 hx hby d7_12 (by decide) (by decide) ?_
  exact own_ret (Q := own_Q (some (.long y0)) n0 h0) X441 hx hby hret hlk d7_23 rfl (Or.inr (Or.inl ⟨rfl, rfl, _, rfl⟩)) (by decide) (by decide) ⟨rfl, N0, e441⟩
def Q_rm10_49 (Z : State) (w_NONE k_NONE : Addr) (c0 : Addr) (c1 : Addr) (k_c1 : ClassId) (c2 : Addr) (k_c2 : ClassId) (c3 : Addr) (k_c3 : ClassId) (y0 : Int64) (y1 : Int64) (y2 : Int64) (y3 : Int64) (y4 : Int64) (y5 : Int64) (h0 : Heap) (n0 : Nat) (v : Option Value) (h : Heap) (L : List Loc) : Prop := v = none ∧ Fr n0 L ∧ Keep h0 h [c1, c2, c3, c0] ∧ Exa Z h c0 "com/example/meter/meter/store/Spans" ∧ Fld Z h c0 "com/example/meter/meter/store/Spans" "droppedTotal" "J" (.long y0) ∧ Fld Z h c0 "com/example/meter/meter/store/Spans" "end" "I" (.int (3 : Int32)) ∧ Fld Z h c0 "com/example/meter/meter/store/Spans" "firsts" "[J" (.ref c1) ∧ Fld Z h c0 "com/example/meter/meter/store/Spans" "head" "I" (.int (1 : Int32)) ∧ Fld Z h c0 "com/example/meter/meter/store/Spans" "lasts" "[J" (.ref c2) ∧ Fld Z h c0 "com/example/meter/meter/store/Spans" "totals" "[J" (.ref c3) ∧ Arv Z h c1 k_c1 .long (16 : Int32) [(.long y1), (.long y2), (.long y3), (.long (0 : Int64))] (.long (0 : Int64)) ∧ Arv Z h c2 k_c2 .long (16 : Int32) [(.long y1), (.long y2), (.long y3), (.long (0 : Int64))] (.long (0 : Int64)) ∧ Arv Z h c3 k_c3 .long (16 : Int32) [(.long y0), (.long y4), (.long y5), (.long (0 : Int64))] (.long (0 : Int64))
set_option maxRecDepth 65536 in
set_option maxHeartbeats 40000000 in
theorem rm10_49 (l : Launch) (Z : State) (a0 : Array Value) (hw : ∀ d ∈ tables_1, d.before a0 Z = true) (ws : List Jvm.Cond) (w_NONE k_NONE : Addr) (W : own_W Z w_NONE k_NONE) (c0 : Addr) (c1 : Addr) (k_c1 : ClassId) (c2 : Addr) (k_c2 : ClassId) (c3 : Addr) (k_c3 : ClassId) (y0 : Int64) (y1 : Int64) (y2 : Int64) (y3 : Int64) (y4 : Int64) (y5 : Int64) (h0 : Heap) (n0 : Nat) (O0 : Old Z n0 h0) (E_c0 : Exa Z h0 c0 "com/example/meter/meter/store/Spans") (F_c0_droppedTotal : Fld Z h0 c0 "com/example/meter/meter/store/Spans" "droppedTotal" "J" (.long y0)) (F_c0_end : Fld Z h0 c0 "com/example/meter/meter/store/Spans" "end" "I" (.int (3 : Int32))) (F_c0_firsts : Fld Z h0 c0 "com/example/meter/meter/store/Spans" "firsts" "[J" (.ref c1)) (F_c0_head : Fld Z h0 c0 "com/example/meter/meter/store/Spans" "head" "I" (.int (1 : Int32))) (F_c0_lasts : Fld Z h0 c0 "com/example/meter/meter/store/Spans" "lasts" "[J" (.ref c2)) (F_c0_totals : Fld Z h0 c0 "com/example/meter/meter/store/Spans" "totals" "[J" (.ref c3)) (n_c0 : n0 ≤ c0) (V_c1 : Arv Z h0 c1 k_c1 .long (16 : Int32) [(.long y1), (.long y2), (.long y3), (.long (0 : Int64))] (.long (0 : Int64))) (n_c1 : n0 ≤ c1) (V_c2 : Arv Z h0 c2 k_c2 .long (16 : Int32) [(.long y1), (.long y2), (.long y3), (.long (0 : Int64))] (.long (0 : Int64))) (n_c2 : n0 ≤ c2) (V_c3 : Arv Z h0 c3 k_c3 .long (16 : Int32) [(.long y0), (.long y4), (.long y5), (.long (0 : Int64))] (.long (0 : Int64))) (n_c3 : n0 ≤ c3) (ne_c0_c1 : c0 ≠ c1) (ne_c0_c2 : c0 ≠ c2) (ne_c0_c3 : c0 ≠ c3) (ne_c1_c2 : c1 ≠ c2) (ne_c1_c3 : c1 ≠ c3) (ne_c2_c3 : c2 ≠ c3) (hc445 : (((2 : Int64) * ((y5 - y5) / (100 : Int64))) + (2 : Int64)) < (y5 - y0)) :
    MetFree l (⟨"com/example/meter/meter/store/Spans", "join", "()V"⟩ : MethodName) (head1 (Jvm.Cond.code (⟨"com/example/meter/meter/store/Spans", "join", "()V"⟩ : MethodName) prog_11_method_12_code 9 none :: ws) ({ frames := 1, cells := 0, slots := 0, locals := 15 } : Room)) (fun a U => a = #[(.ref c0)] ∧ Z.Warmed39 U.vm ∧ U.heap = h0) (fun _ _ _ _ _ => True) (fun _ U o U' => ∃ v L, o = .returned v ∧ Q_rm10_49 Z w_NONE k_NONE c0 c1 k_c1 c2 k_c2 c3 k_c3 y0 y1 y2 y3 y4 y5 h0 n0 v U'.heap L ∧ FrameEnd U o U' L ({ frames := 1, cells := 0, slots := 0, locals := 15 } : Room).cells ({ frames := 1, cells := 0, slots := 0, locals := 15 } : Room).slots) := by
  refine MetFree.of_bodySF (plainFor_of_name pn_0) hisR ?_
  intro p e s m args below meth c s₁ Bd hml0 hP hK
  obtain ⟨rfl, hZ, hh⟩ := hP
  have hx := Bd.exec
  have hby := Bd.bytes
  have hml : c.maxLocals = 9 := hml0
  have hlk := BodyLoose.notSynchronized Bd
  have hret := Bd.returns
  have hown : s.vm.findClass "com/example/meter/meter/store/Spans" = some m.cls := findClass_of_methodNamed Bd.named
  have hnm := (name_of_methodNamed Bd.named Bd.method).1
  have X0 : Stand p l e ({ frames := 1, cells := 0, slots := 0, locals := 15 } : Room) s m #[(.ref c0)] below meth c s₁ [] 0 0 := Stand.of_body Bd
  have e0 : s₁.heap = h0 := by rw [← hh, Bd.state]; rfl
  have N0 := Fr.nil n0
  rw [ef_10 m c0]
  show Go p e below _ (s₁.setTop (mkF m 0 #[oA c0, oU, oU, oU, oU, oU, oU, oU, oU] []))
  refine own_aload_n 1 X0 hx hby d10_0 rfl rfl rfl ?_
  refine own_getF 4 X0 hx hby hZ hown (own_w hw 16 rfl) e0 F_c0_totals d10_1 rfl ?_
  intro T434 X434 e434
  refine own_aload_n 5 X434 hx hby d10_4 rfl rfl rfl ?_
  refine own_getF 8 X434 hx hby hZ hown (own_w hw 23 rfl) e434 F_c0_end d10_5 rfl ?_
  intro T435 X435 e435
  refine own_iconst 9 (1 : Int32) X435 hx hby d10_8 rfl (by decide) ?_
  refine own_isub 10 (2 : Int32) X435 hx hby d10_9 rfl (by decide) ?_
  refine own_laload 11 (.long y5) X435 hx hby hZ e435 V_c3 d10_10 rfl (by decide) rfl ?_
  refine own_lstore_n 12 #[oA c0, oJ y5, oS, oU, oU, oU, oU, oU, oU] X435 hx hby d10_11 rfl rfl ?_
  refine own_aload_n 13 X435 hx hby d10_12 rfl rfl rfl ?_
  refine own_getF 16 X435 hx hby hZ hown (own_w hw 23 rfl) e435 F_c0_end d10_13 rfl ?_
  intro T436 X436 e436
  refine own_iconst 17 (1 : Int32) X436 hx hby d10_16 rfl (by decide) ?_
  refine own_isub 18 (2 : Int32) X436 hx hby d10_17 rfl (by decide) ?_
  refine own_istore_n 19 #[oA c0, oJ y5, oS, oI (2 : Int32), oU, oU, oU, oU, oU] X436 hx hby d10_18 rfl rfl ?_
  refine own_aload_n 20 X436 hx hby d10_19 rfl rfl rfl ?_
  refine own_getF 23 X436 hx hby hZ hown (own_w hw 23 rfl) e436 F_c0_end d10_20 rfl ?_
  intro T437 X437 e437
  refine own_iconst 24 (2 : Int32) X437 hx hby d10_23 rfl (by decide) ?_
  refine own_isub 25 (1 : Int32) X437 hx hby d10_24 rfl (by decide) ?_
  refine own_istore 27 #[oA c0, oJ y5, oS, oI (2 : Int32), oI (1 : Int32), oU, oU, oU, oU] X437 hx hby d10_25 rfl rfl ?_
  refine own_iload 29 X437 hx hby d10_27 rfl rfl ?_
  refine own_aload_n 30 X437 hx hby d10_29 rfl rfl rfl ?_
  refine own_getF 33 X437 hx hby hZ hown (own_w hw 29 rfl) e437 F_c0_head d10_30 rfl ?_
  intro T438 X438 e438
  refine own_icN 36 X438 hx hby d10_33 rfl (by decide) ?_
  refine own_aload_n 37 X438 hx hby d10_36 rfl rfl rfl ?_
  refine own_getF 40 X438 hx hby hZ hown (own_w hw 16 rfl) e438 F_c0_totals d10_37 rfl ?_
  intro T439 X439 e439
  refine own_iload_n 41 X439 hx hby d10_40 rfl rfl ?_
  refine own_laload 42 (.long y5) X439 hx hby hZ e439 V_c3 d10_41 rfl (by decide) rfl ?_
  refine own_aload_n 43 X439 hx hby d10_42 rfl rfl rfl ?_
  refine own_iload 45 X439 hx hby d10_43 rfl rfl ?_
  refine own_priv (W := 2) 48 (rm7_48 l Z a0 hw [] w_NONE k_NONE W c0 c1 k_c1 c2 k_c2 c3 k_c3 y0 y1 y2 y3 y4 y5 h0 n0 O0 E_c0 F_c0_droppedTotal F_c0_end F_c0_firsts F_c0_head F_c0_lasts F_c0_totals n_c0 V_c1 n_c1 V_c2 n_c2 V_c3 n_c3 ne_c0_c1 ne_c0_c2 ne_c0_c3 ne_c1_c2 ne_c1_c3 ne_c2_c3) X439 hx hby hZ hown (own_w hw 44 rfl) (own_w hw 45 rfl) (own_w hw 46 rfl) (own_w hw 21 rfl) (own_w hw 3 rfl) (own_w hw 47 rfl) rfl (by decide) (by rw [hml]; rfl) c0 [(.int (1 : Int32))] [(.long y5)] pd_5 rfl d10_45 rfl e439 E_c0 rfl rfl rfl (by decide) (by decide) (by decide) (by decide) ?_
  rintro _ T442 L442 X442 ⟨rfl, N442, e442⟩
  have N442 := Fr.app N0 N442
  show Go p e below _ (T442.setTop (mkF m 48 _ [(.long y0), (.long y5)]))
  refine own_lsub 49 (y5 - y0) X442 hx hby d10_48 rfl rfl ?_
  refine own_lstore 51 #[oA c0, oJ y5, oS, oI (2 : Int32), oI (1 : Int32), oJ (y5 - y0), oS, oU, oU] X442 hx hby d10_49 rfl rfl ?_
  refine own_lload_n 52 X442 hx hby d10_51 rfl rfl ?_
  refine own_aload_n 53 X442 hx hby d10_52 rfl rfl rfl ?_
  refine own_getF 56 X442 hx hby hZ hown (own_w hw 16 rfl) e442 F_c0_totals d10_53 rfl ?_
  intro T443 X443 e443
  refine own_iload_n 57 X443 hx hby d10_56 rfl rfl ?_
  refine own_laload 58 (.long y5) X443 hx hby hZ e443 V_c3 d10_57 rfl (by decide) rfl ?_
  refine own_lsub 59 (y5 - y5) X443 hx hby d10_58 rfl rfl ?_
  refine own_lstore 61 #[oA c0, oJ y5, oS, oI (2 : Int32), oI (1 : Int32), oJ (y5 - y0), oS, oJ (y5 - y5), oS] X443 hx hby d10_59 rfl rfl ?_
  refine own_lload 63 X443 hx hby d10_61 rfl rfl ?_
  refine own_lload 65 X443 hx hby d10_63 rfl rfl ?_
  refine own_callS (W := 2) 68 (rm11_20 l Z a0 hw [] w_NONE k_NONE W (y5 - y5) h0 n0 O0) X443 hx hby hZ hown (own_w hw 67 rfl) (own_w hw 68 rfl) (own_w hw 3 rfl) (own_w hw 69 rfl) (by decide) (by rw [hml]; rfl) [(.long (y5 - y5))] [(.long (y5 - y0))] pd_7 rfl d10_65 rfl e443 rfl rfl rfl (by decide) (by decide) (by decide) (by decide) ?_
  rintro _ T444 L444 X444 ⟨rfl, N444, e444⟩
  have N444 := Fr.app N442 N444
  show Go p e below _ (T444.setTop (mkF m 68 _ [(.long (((2 : Int64) * ((y5 - y5) / (100 : Int64))) + (2 : Int64))), (.long (y5 - y0))]))
  refine own_lcmp 69 (XT.cmpL (y5 - y0) (((2 : Int64) * ((y5 - y5) / (100 : Int64))) + (2 : Int64))) X444 hx hby d10_68 rfl rfl ?_
  refine own_ifY 88 X444 hx hby d10_69 (by decide) (by decide) (own_tltL hc445).2.2.1 ?_
  refine own_iinc 91 #[oA c0, oJ y5, oS, oI (1 : Int32), oI (1 : Int32), oJ (y5 - y0), oS, oJ (y5 - y5), oS] X444 hx hby d10_88 rfl rfl rfl ?_
  refine own_aload_n 92 X444 hx hby d10_91 rfl rfl rfl ?_
  refine own_getF 95 X444 hx hby hZ hown (own_w hw 12 rfl) e444 F_c0_firsts d10_92 rfl ?_
  intro T446 X446 e446
  refine own_iload_n 96 X446 hx hby d10_95 rfl rfl ?_
  refine own_aload_n 97 X446 hx hby d10_96 rfl rfl rfl ?_
  refine own_getF 100 X446 hx hby hZ hown (own_w hw 12 rfl) e446 F_c0_firsts d10_97 rfl ?_
  intro T447 X447 e447
  refine own_iload 102 X447 hx hby d10_100 rfl rfl ?_
  refine own_laload 103 (.long y2) X447 hx hby hZ e447 V_c1 d10_102 rfl (by decide) rfl ?_
  refine own_stJ 104 1 X447 hx hby hZ e447 V_c1 d10_103 rfl (by decide) (by decide) (Nat.le_of_ble_eq_true rfl) ?_
  intro T448 h448 X448 e448 W448 V448
  have V448 : Arv Z h448 c1 k_c1 .long (16 : Int32) [(.long y1), (.long y2), (.long y3), (.long (0 : Int64))] (.long (0 : Int64)) := V448
  have E_c0_448 := E_c0.wr W448
  have F_c0_droppedTotal_448 := F_c0_droppedTotal.other W448 (Or.inl ne_c0_c1)
  have F_c0_end_448 := F_c0_end.other W448 (Or.inl ne_c0_c1)
  have F_c0_firsts_448 := F_c0_firsts.other W448 (Or.inl ne_c0_c1)
  have F_c0_head_448 := F_c0_head.other W448 (Or.inl ne_c0_c1)
  have F_c0_lasts_448 := F_c0_lasts.other W448 (Or.inl ne_c0_c1)
  have F_c0_totals_448 := F_c0_totals.other W448 (Or.inl ne_c0_c1)
  have V_c2_448 := V_c2.other W448 (Ne.symm ne_c1_c2)
  have V_c3_448 := V_c3.other W448 (Ne.symm ne_c1_c3)
  have K448 : Keep h0 h448 [c1, c2, c3, c0] := (Keep.refl h0 [c1, c2, c3, c0]).wr W448 (Or.inl (List.mem_of_getElem? (i := 0) rfl))
  have O448 := O0.wr W448 n_c1
  have N448 := Fr.snoc X448 N444 n_c1
  refine own_aload_n 105 X448 hx hby d10_104 rfl rfl rfl ?_
  refine own_getF 108 X448 hx hby hZ hown (own_w hw 14 rfl) e448 F_c0_lasts_448 d10_105 rfl ?_
  intro T449 X449 e449
  refine own_iload_n 109 X449 hx hby d10_108 rfl rfl ?_
  refine own_aload_n 110 X449 hx hby d10_109 rfl rfl rfl ?_
  refine own_getF 113 X449 hx hby hZ hown (own_w hw 14 rfl) e449 F_c0_lasts_448 d10_110 rfl ?_
  intro T450 X450 e450
  refine own_iload 115 X450 hx hby d10_113 rfl rfl ?_
  refine own_laload 116 (.long y2) X450 hx hby hZ e450 V_c2_448 d10_115 rfl (by decide) rfl ?_
  refine own_stJ 117 1 X450 hx hby hZ e450 V_c2_448 d10_116 rfl (by decide) (by decide) (Nat.le_of_ble_eq_true rfl) ?_
  intro T451 h451 X451 e451 W451 V451
  have V451 : Arv Z h451 c2 k_c2 .long (16 : Int32) [(.long y1), (.long y2), (.long y3), (.long (0 : Int64))] (.long (0 : Int64)) := V451
  have E_c0_451 := E_c0_448.wr W451
  have F_c0_droppedTotal_451 := F_c0_droppedTotal_448.other W451 (Or.inl ne_c0_c2)
  have F_c0_end_451 := F_c0_end_448.other W451 (Or.inl ne_c0_c2)
  have F_c0_firsts_451 := F_c0_firsts_448.other W451 (Or.inl ne_c0_c2)
  have F_c0_head_451 := F_c0_head_448.other W451 (Or.inl ne_c0_c2)
  have F_c0_lasts_451 := F_c0_lasts_448.other W451 (Or.inl ne_c0_c2)
  have F_c0_totals_451 := F_c0_totals_448.other W451 (Or.inl ne_c0_c2)
  have V_c1_451 := V448.other W451 ne_c1_c2
  have V_c3_451 := V_c3_448.other W451 (Ne.symm ne_c2_c3)
  have K451 : Keep h0 h451 [c1, c2, c3, c0] := K448.wr W451 (Or.inl (List.mem_of_getElem? (i := 1) rfl))
  have O451 := O448.wr W451 n_c2
  have N451 := Fr.snoc X451 N448 n_c2
  refine own_aload_n 118 X451 hx hby d10_117 rfl rfl rfl ?_
  refine own_getF 121 X451 hx hby hZ hown (own_w hw 16 rfl) e451 F_c0_totals_451 d10_118 rfl ?_
  intro T452 X452 e452
  refine own_iload_n 122 X452 hx hby d10_121 rfl rfl ?_
  refine own_aload_n 123 X452 hx hby d10_122 rfl rfl rfl ?_
  refine own_getF 126 X452 hx hby hZ hown (own_w hw 16 rfl) e452 F_c0_totals_451 d10_123 rfl ?_
  intro T453 X453 e453
  refine own_iload 128 X453 hx hby d10_126 rfl rfl ?_
  refine own_laload 129 (.long y4) X453 hx hby hZ e453 V_c3_451 d10_128 rfl (by decide) rfl ?_
  refine own_stJ 130 1 X453 hx hby hZ e453 V_c3_451 d10_129 rfl (by decide) (by decide) (Nat.le_of_ble_eq_true rfl) ?_
  intro T454 h454 X454 e454 W454 V454
  have V454 : Arv Z h454 c3 k_c3 .long (16 : Int32) [(.long y0), (.long y4), (.long y5), (.long (0 : Int64))] (.long (0 : Int64)) := V454
  have E_c0_454 := E_c0_451.wr W454
  have F_c0_droppedTotal_454 := F_c0_droppedTotal_451.other W454 (Or.inl ne_c0_c3)
  have F_c0_end_454 := F_c0_end_451.other W454 (Or.inl ne_c0_c3)
  have F_c0_firsts_454 := F_c0_firsts_451.other W454 (Or.inl ne_c0_c3)
  have F_c0_head_454 := F_c0_head_451.other W454 (Or.inl ne_c0_c3)
  have F_c0_lasts_454 := F_c0_lasts_451.other W454 (Or.inl ne_c0_c3)
  have F_c0_totals_454 := F_c0_totals_451.other W454 (Or.inl ne_c0_c3)
  have V_c1_454 := V_c1_451.other W454 ne_c1_c3
  have V_c2_454 := V451.other W454 ne_c2_c3
  have K454 : Keep h0 h454 [c1, c2, c3, c0] := K451.wr W454 (Or.inl (List.mem_of_getElem? (i := 2) rfl))
  have O454 := O451.wr W454 n_c3
  have N454 := Fr.snoc X454 N451 n_c3
  refine own_iinc 133 #[oA c0, oJ y5, oS, oI (1 : Int32), oI (0 : Int32), oJ (y5 - y0), oS, oJ (y5 - y5), oS] X454 hx hby d10_130 rfl rfl rfl ?_
  refine own_goto 27 X454 hx hby d10_133 (by decide) (by decide) ?_
  refine own_iload 29 X454 hx hby d10_27 rfl rfl ?_
  refine own_aload_n 30 X454 hx hby d10_29 rfl rfl rfl ?_
  refine own_getF 33 X454 hx hby hZ hown (own_w hw 29 rfl) e454 F_c0_head_454 d10_30 rfl ?_
  intro T455 X455 e455
  refine own_icY 136 X455 hx hby d10_33 (by decide) (by decide) (by decide) ?_
  refine own_aload_n 137 X455 hx hby d10_136 rfl rfl rfl ?_
  refine own_iload_n 138 X455 hx hby d10_137 rfl rfl ?_
  refine own_putF 141 X455 hx hby hZ .int hown (own_w hw 29 rfl) e455 F_c0_head_454 E_c0_454 (Or.inl (own_w hw 30 rfl)) (own_w hw 2 rfl) (by decide) rfl rfl d10_138 rfl ?_
  intro T456 h456 X456 e456 W456
  have E_c0_456 := E_c0_454.wr W456
  have F_c0_droppedTotal_456 := F_c0_droppedTotal_454.other W456 (Or.inr (slot_ne (Or.inl (own_w hw 49 rfl)) (Or.inl (own_w hw 30 rfl)) (by decide) (t := .long) (t' := .int) (by decide) (by decide)))
  have F_c0_end_456 := F_c0_end_454.other W456 (Or.inr (slot_ne (Or.inl (own_w hw 24 rfl)) (Or.inl (own_w hw 30 rfl)) (by decide) (t := .int) (t' := .int) (by decide) (by decide)))
  have F_c0_firsts_456 := F_c0_firsts_454.other W456 (Or.inr (slot_ne (Or.inl (own_w hw 13 rfl)) (Or.inl (own_w hw 30 rfl)) (by decide) (t := (.array .long)) (t' := .int) (by decide) (by decide)))
  have F_c0_head_456 := F_c0_head_454.same W456
  have F_c0_lasts_456 := F_c0_lasts_454.other W456 (Or.inr (slot_ne (Or.inl (own_w hw 15 rfl)) (Or.inl (own_w hw 30 rfl)) (by decide) (t := (.array .long)) (t' := .int) (by decide) (by decide)))
  have F_c0_totals_456 := F_c0_totals_454.other W456 (Or.inr (slot_ne (Or.inl (own_w hw 17 rfl)) (Or.inl (own_w hw 30 rfl)) (by decide) (t := (.array .long)) (t' := .int) (by decide) (by decide)))
  have V_c1_456 := V_c1_454.other W456 (Ne.symm ne_c0_c1)
  have V_c2_456 := V_c2_454.other W456 (Ne.symm ne_c0_c2)
  have V_c3_456 := V454.other W456 (Ne.symm ne_c0_c3)
  have K456 : Keep h0 h456 [c1, c2, c3, c0] := K454.wr W456 (Or.inl (List.mem_of_getElem? (i := 3) rfl))
  have O456 := O454.wr W456 n_c0
  have N456 := Fr.snoc X456 N454 n_c0
  exact own_ret0 (Q := Q_rm10_49 Z w_NONE k_NONE c0 c1 k_c1 c2 k_c2 c3 k_c3 y0 y1 y2 y3 y4 y5 h0 n0) X456 hx hby hret hlk d10_141 (by decide) (by decide) (by rw [e456]; exact ⟨rfl, N456, K456, E_c0_456, F_c0_droppedTotal_456, F_c0_end_456, F_c0_firsts_456, F_c0_head_456, F_c0_lasts_456, F_c0_totals_456, V_c1_456, V_c2_456, V_c3_456⟩)
def Q_rm10_50 (Z : State) (w_NONE k_NONE : Addr) (c0 : Addr) (c1 : Addr) (k_c1 : ClassId) (c2 : Addr) (k_c2 : ClassId) (c3 : Addr) (k_c3 : ClassId) (y0 : Int64) (y1 : Int64) (y2 : Int64) (y3 : Int64) (y4 : Int64) (y5 : Int64) (h0 : Heap) (n0 : Nat) (v : Option Value) (h : Heap) (L : List Loc) : Prop := v = none ∧ Fr n0 L ∧ Keep h0 h [c1, c0] ∧ Exa Z h c0 "com/example/meter/meter/store/Spans" ∧ Fld Z h c0 "com/example/meter/meter/store/Spans" "droppedTotal" "J" (.long y0) ∧ Fld Z h c0 "com/example/meter/meter/store/Spans" "end" "I" (.int (3 : Int32)) ∧ Fld Z h c0 "com/example/meter/meter/store/Spans" "firsts" "[J" (.ref c1) ∧ Fld Z h c0 "com/example/meter/meter/store/Spans" "head" "I" (.int (2 : Int32)) ∧ Fld Z h c0 "com/example/meter/meter/store/Spans" "lasts" "[J" (.ref c2) ∧ Fld Z h c0 "com/example/meter/meter/store/Spans" "totals" "[J" (.ref c3) ∧ Arv Z h c1 k_c1 .long (16 : Int32) [(.long y1), (.long y2), (.long y2), (.long (0 : Int64))] (.long (0 : Int64)) ∧ Arv Z h c2 k_c2 .long (16 : Int32) [(.long y1), (.long y2), (.long y3), (.long (0 : Int64))] (.long (0 : Int64)) ∧ Arv Z h c3 k_c3 .long (16 : Int32) [(.long y0), (.long y4), (.long y5), (.long (0 : Int64))] (.long (0 : Int64))
set_option maxRecDepth 65536 in
set_option maxHeartbeats 40000000 in
theorem rm10_50 (l : Launch) (Z : State) (a0 : Array Value) (hw : ∀ d ∈ tables_1, d.before a0 Z = true) (ws : List Jvm.Cond) (w_NONE k_NONE : Addr) (W : own_W Z w_NONE k_NONE) (c0 : Addr) (c1 : Addr) (k_c1 : ClassId) (c2 : Addr) (k_c2 : ClassId) (c3 : Addr) (k_c3 : ClassId) (y0 : Int64) (y1 : Int64) (y2 : Int64) (y3 : Int64) (y4 : Int64) (y5 : Int64) (h0 : Heap) (n0 : Nat) (O0 : Old Z n0 h0) (E_c0 : Exa Z h0 c0 "com/example/meter/meter/store/Spans") (F_c0_droppedTotal : Fld Z h0 c0 "com/example/meter/meter/store/Spans" "droppedTotal" "J" (.long y0)) (F_c0_end : Fld Z h0 c0 "com/example/meter/meter/store/Spans" "end" "I" (.int (3 : Int32))) (F_c0_firsts : Fld Z h0 c0 "com/example/meter/meter/store/Spans" "firsts" "[J" (.ref c1)) (F_c0_head : Fld Z h0 c0 "com/example/meter/meter/store/Spans" "head" "I" (.int (1 : Int32))) (F_c0_lasts : Fld Z h0 c0 "com/example/meter/meter/store/Spans" "lasts" "[J" (.ref c2)) (F_c0_totals : Fld Z h0 c0 "com/example/meter/meter/store/Spans" "totals" "[J" (.ref c3)) (n_c0 : n0 ≤ c0) (V_c1 : Arv Z h0 c1 k_c1 .long (16 : Int32) [(.long y1), (.long y2), (.long y3), (.long (0 : Int64))] (.long (0 : Int64))) (n_c1 : n0 ≤ c1) (V_c2 : Arv Z h0 c2 k_c2 .long (16 : Int32) [(.long y1), (.long y2), (.long y3), (.long (0 : Int64))] (.long (0 : Int64))) (n_c2 : n0 ≤ c2) (V_c3 : Arv Z h0 c3 k_c3 .long (16 : Int32) [(.long y0), (.long y4), (.long y5), (.long (0 : Int64))] (.long (0 : Int64))) (n_c3 : n0 ≤ c3) (ne_c0_c1 : c0 ≠ c1) (ne_c0_c2 : c0 ≠ c2) (ne_c0_c3 : c0 ≠ c3) (ne_c1_c2 : c1 ≠ c2) (ne_c1_c3 : c1 ≠ c3) (ne_c2_c3 : c2 ≠ c3) (hc445 : ¬ ((((2 : Int64) * ((y5 - y5) / (100 : Int64))) + (2 : Int64)) < (y5 - y0))) :
    MetFree l (⟨"com/example/meter/meter/store/Spans", "join", "()V"⟩ : MethodName) (head1 (Jvm.Cond.code (⟨"com/example/meter/meter/store/Spans", "join", "()V"⟩ : MethodName) prog_11_method_12_code 9 none :: ws) ({ frames := 1, cells := 0, slots := 0, locals := 15 } : Room)) (fun a U => a = #[(.ref c0)] ∧ Z.Warmed39 U.vm ∧ U.heap = h0) (fun _ _ _ _ _ => True) (fun _ U o U' => ∃ v L, o = .returned v ∧ Q_rm10_50 Z w_NONE k_NONE c0 c1 k_c1 c2 k_c2 c3 k_c3 y0 y1 y2 y3 y4 y5 h0 n0 v U'.heap L ∧ FrameEnd U o U' L ({ frames := 1, cells := 0, slots := 0, locals := 15 } : Room).cells ({ frames := 1, cells := 0, slots := 0, locals := 15 } : Room).slots) := by
  refine MetFree.of_bodySF (plainFor_of_name pn_0) hisR ?_
  intro p e s m args below meth c s₁ Bd hml0 hP hK
  obtain ⟨rfl, hZ, hh⟩ := hP
  have hx := Bd.exec
  have hby := Bd.bytes
  have hml : c.maxLocals = 9 := hml0
  have hlk := BodyLoose.notSynchronized Bd
  have hret := Bd.returns
  have hown : s.vm.findClass "com/example/meter/meter/store/Spans" = some m.cls := findClass_of_methodNamed Bd.named
  have hnm := (name_of_methodNamed Bd.named Bd.method).1
  have X0 : Stand p l e ({ frames := 1, cells := 0, slots := 0, locals := 15 } : Room) s m #[(.ref c0)] below meth c s₁ [] 0 0 := Stand.of_body Bd
  have e0 : s₁.heap = h0 := by rw [← hh, Bd.state]; rfl
  have N0 := Fr.nil n0
  rw [ef_10 m c0]
  show Go p e below _ (s₁.setTop (mkF m 0 #[oA c0, oU, oU, oU, oU, oU, oU, oU, oU] []))
  refine own_aload_n 1 X0 hx hby d10_0 rfl rfl rfl ?_
  refine own_getF 4 X0 hx hby hZ hown (own_w hw 16 rfl) e0 F_c0_totals d10_1 rfl ?_
  intro T434 X434 e434
  refine own_aload_n 5 X434 hx hby d10_4 rfl rfl rfl ?_
  refine own_getF 8 X434 hx hby hZ hown (own_w hw 23 rfl) e434 F_c0_end d10_5 rfl ?_
  intro T435 X435 e435
  refine own_iconst 9 (1 : Int32) X435 hx hby d10_8 rfl (by decide) ?_
  refine own_isub 10 (2 : Int32) X435 hx hby d10_9 rfl (by decide) ?_
  refine own_laload 11 (.long y5) X435 hx hby hZ e435 V_c3 d10_10 rfl (by decide) rfl ?_
  refine own_lstore_n 12 #[oA c0, oJ y5, oS, oU, oU, oU, oU, oU, oU] X435 hx hby d10_11 rfl rfl ?_
  refine own_aload_n 13 X435 hx hby d10_12 rfl rfl rfl ?_
  refine own_getF 16 X435 hx hby hZ hown (own_w hw 23 rfl) e435 F_c0_end d10_13 rfl ?_
  intro T436 X436 e436
  refine own_iconst 17 (1 : Int32) X436 hx hby d10_16 rfl (by decide) ?_
  refine own_isub 18 (2 : Int32) X436 hx hby d10_17 rfl (by decide) ?_
  refine own_istore_n 19 #[oA c0, oJ y5, oS, oI (2 : Int32), oU, oU, oU, oU, oU] X436 hx hby d10_18 rfl rfl ?_
  refine own_aload_n 20 X436 hx hby d10_19 rfl rfl rfl ?_
  refine own_getF 23 X436 hx hby hZ hown (own_w hw 23 rfl) e436 F_c0_end d10_20 rfl ?_
  intro T437 X437 e437
  refine own_iconst 24 (2 : Int32) X437 hx hby d10_23 rfl (by decide) ?_
  refine own_isub 25 (1 : Int32) X437 hx hby d10_24 rfl (by decide) ?_
  refine own_istore 27 #[oA c0, oJ y5, oS, oI (2 : Int32), oI (1 : Int32), oU, oU, oU, oU] X437 hx hby d10_25 rfl rfl ?_
  refine own_iload 29 X437 hx hby d10_27 rfl rfl ?_
  refine own_aload_n 30 X437 hx hby d10_29 rfl rfl rfl ?_
  refine own_getF 33 X437 hx hby hZ hown (own_w hw 29 rfl) e437 F_c0_head d10_30 rfl ?_
  intro T438 X438 e438
  refine own_icN 36 X438 hx hby d10_33 rfl (by decide) ?_
  refine own_aload_n 37 X438 hx hby d10_36 rfl rfl rfl ?_
  refine own_getF 40 X438 hx hby hZ hown (own_w hw 16 rfl) e438 F_c0_totals d10_37 rfl ?_
  intro T439 X439 e439
  refine own_iload_n 41 X439 hx hby d10_40 rfl rfl ?_
  refine own_laload 42 (.long y5) X439 hx hby hZ e439 V_c3 d10_41 rfl (by decide) rfl ?_
  refine own_aload_n 43 X439 hx hby d10_42 rfl rfl rfl ?_
  refine own_iload 45 X439 hx hby d10_43 rfl rfl ?_
  refine own_priv (W := 2) 48 (rm7_48 l Z a0 hw [] w_NONE k_NONE W c0 c1 k_c1 c2 k_c2 c3 k_c3 y0 y1 y2 y3 y4 y5 h0 n0 O0 E_c0 F_c0_droppedTotal F_c0_end F_c0_firsts F_c0_head F_c0_lasts F_c0_totals n_c0 V_c1 n_c1 V_c2 n_c2 V_c3 n_c3 ne_c0_c1 ne_c0_c2 ne_c0_c3 ne_c1_c2 ne_c1_c3 ne_c2_c3) X439 hx hby hZ hown (own_w hw 44 rfl) (own_w hw 45 rfl) (own_w hw 46 rfl) (own_w hw 21 rfl) (own_w hw 3 rfl) (own_w hw 47 rfl) rfl (by decide) (by rw [hml]; rfl) c0 [(.int (1 : Int32))] [(.long y5)] pd_5 rfl d10_45 rfl e439 E_c0 rfl rfl rfl (by decide) (by decide) (by decide) (by decide) ?_
  rintro _ T442 L442 X442 ⟨rfl, N442, e442⟩
  have N442 := Fr.app N0 N442
  show Go p e below _ (T442.setTop (mkF m 48 _ [(.long y0), (.long y5)]))
  refine own_lsub 49 (y5 - y0) X442 hx hby d10_48 rfl rfl ?_
  refine own_lstore 51 #[oA c0, oJ y5, oS, oI (2 : Int32), oI (1 : Int32), oJ (y5 - y0), oS, oU, oU] X442 hx hby d10_49 rfl rfl ?_
  refine own_lload_n 52 X442 hx hby d10_51 rfl rfl ?_
  refine own_aload_n 53 X442 hx hby d10_52 rfl rfl rfl ?_
  refine own_getF 56 X442 hx hby hZ hown (own_w hw 16 rfl) e442 F_c0_totals d10_53 rfl ?_
  intro T443 X443 e443
  refine own_iload_n 57 X443 hx hby d10_56 rfl rfl ?_
  refine own_laload 58 (.long y5) X443 hx hby hZ e443 V_c3 d10_57 rfl (by decide) rfl ?_
  refine own_lsub 59 (y5 - y5) X443 hx hby d10_58 rfl rfl ?_
  refine own_lstore 61 #[oA c0, oJ y5, oS, oI (2 : Int32), oI (1 : Int32), oJ (y5 - y0), oS, oJ (y5 - y5), oS] X443 hx hby d10_59 rfl rfl ?_
  refine own_lload 63 X443 hx hby d10_61 rfl rfl ?_
  refine own_lload 65 X443 hx hby d10_63 rfl rfl ?_
  refine own_callS (W := 2) 68 (rm11_20 l Z a0 hw [] w_NONE k_NONE W (y5 - y5) h0 n0 O0) X443 hx hby hZ hown (own_w hw 67 rfl) (own_w hw 68 rfl) (own_w hw 3 rfl) (own_w hw 69 rfl) (by decide) (by rw [hml]; rfl) [(.long (y5 - y5))] [(.long (y5 - y0))] pd_7 rfl d10_65 rfl e443 rfl rfl rfl (by decide) (by decide) (by decide) (by decide) ?_
  rintro _ T444 L444 X444 ⟨rfl, N444, e444⟩
  have N444 := Fr.app N442 N444
  show Go p e below _ (T444.setTop (mkF m 68 _ [(.long (((2 : Int64) * ((y5 - y5) / (100 : Int64))) + (2 : Int64))), (.long (y5 - y0))]))
  refine own_lcmp 69 (XT.cmpL (y5 - y0) (((2 : Int64) * ((y5 - y5) / (100 : Int64))) + (2 : Int64))) X444 hx hby d10_68 rfl rfl ?_
  refine own_ifN 72 X444 hx hby d10_69 rfl (own_fltL hc445).2.2.1 ?_
  refine own_aload_n 73 X444 hx hby d10_72 rfl rfl rfl ?_
  refine own_getF 76 X444 hx hby hZ hown (own_w hw 12 rfl) e444 F_c0_firsts d10_73 rfl ?_
  intro T457 X457 e457
  refine own_iload_n 77 X457 hx hby d10_76 rfl rfl ?_
  refine own_aload_n 78 X457 hx hby d10_77 rfl rfl rfl ?_
  refine own_getF 81 X457 hx hby hZ hown (own_w hw 12 rfl) e457 F_c0_firsts d10_78 rfl ?_
  intro T458 X458 e458
  refine own_iload 83 X458 hx hby d10_81 rfl rfl ?_
  refine own_laload 84 (.long y2) X458 hx hby hZ e458 V_c1 d10_83 rfl (by decide) rfl ?_
  refine own_stJ 85 2 X458 hx hby hZ e458 V_c1 d10_84 rfl (by decide) (by decide) (Nat.le_of_ble_eq_true rfl) ?_
  intro T459 h459 X459 e459 W459 V459
  have V459 : Arv Z h459 c1 k_c1 .long (16 : Int32) [(.long y1), (.long y2), (.long y2), (.long (0 : Int64))] (.long (0 : Int64)) := V459
  have E_c0_459 := E_c0.wr W459
  have F_c0_droppedTotal_459 := F_c0_droppedTotal.other W459 (Or.inl ne_c0_c1)
  have F_c0_end_459 := F_c0_end.other W459 (Or.inl ne_c0_c1)
  have F_c0_firsts_459 := F_c0_firsts.other W459 (Or.inl ne_c0_c1)
  have F_c0_head_459 := F_c0_head.other W459 (Or.inl ne_c0_c1)
  have F_c0_lasts_459 := F_c0_lasts.other W459 (Or.inl ne_c0_c1)
  have F_c0_totals_459 := F_c0_totals.other W459 (Or.inl ne_c0_c1)
  have V_c2_459 := V_c2.other W459 (Ne.symm ne_c1_c2)
  have V_c3_459 := V_c3.other W459 (Ne.symm ne_c1_c3)
  have K459 : Keep h0 h459 [c1, c0] := (Keep.refl h0 [c1, c0]).wr W459 (Or.inl (List.mem_of_getElem? (i := 0) rfl))
  have O459 := O0.wr W459 n_c1
  have N459 := Fr.snoc X459 N444 n_c1
  refine own_goto 130 X459 hx hby d10_85 (by decide) (by decide) ?_
  refine own_iinc 133 #[oA c0, oJ y5, oS, oI (2 : Int32), oI (0 : Int32), oJ (y5 - y0), oS, oJ (y5 - y5), oS] X459 hx hby d10_130 rfl rfl rfl ?_
  refine own_goto 27 X459 hx hby d10_133 (by decide) (by decide) ?_
  refine own_iload 29 X459 hx hby d10_27 rfl rfl ?_
  refine own_aload_n 30 X459 hx hby d10_29 rfl rfl rfl ?_
  refine own_getF 33 X459 hx hby hZ hown (own_w hw 29 rfl) e459 F_c0_head_459 d10_30 rfl ?_
  intro T460 X460 e460
  refine own_icY 136 X460 hx hby d10_33 (by decide) (by decide) (by decide) ?_
  refine own_aload_n 137 X460 hx hby d10_136 rfl rfl rfl ?_
  refine own_iload_n 138 X460 hx hby d10_137 rfl rfl ?_
  refine own_putF 141 X460 hx hby hZ .int hown (own_w hw 29 rfl) e460 F_c0_head_459 E_c0_459 (Or.inl (own_w hw 30 rfl)) (own_w hw 2 rfl) (by decide) rfl rfl d10_138 rfl ?_
  intro T461 h461 X461 e461 W461
  have E_c0_461 := E_c0_459.wr W461
  have F_c0_droppedTotal_461 := F_c0_droppedTotal_459.other W461 (Or.inr (slot_ne (Or.inl (own_w hw 49 rfl)) (Or.inl (own_w hw 30 rfl)) (by decide) (t := .long) (t' := .int) (by decide) (by decide)))
  have F_c0_end_461 := F_c0_end_459.other W461 (Or.inr (slot_ne (Or.inl (own_w hw 24 rfl)) (Or.inl (own_w hw 30 rfl)) (by decide) (t := .int) (t' := .int) (by decide) (by decide)))
  have F_c0_firsts_461 := F_c0_firsts_459.other W461 (Or.inr (slot_ne (Or.inl (own_w hw 13 rfl)) (Or.inl (own_w hw 30 rfl)) (by decide) (t := (.array .long)) (t' := .int) (by decide) (by decide)))
  have F_c0_head_461 := F_c0_head_459.same W461
  have F_c0_lasts_461 := F_c0_lasts_459.other W461 (Or.inr (slot_ne (Or.inl (own_w hw 15 rfl)) (Or.inl (own_w hw 30 rfl)) (by decide) (t := (.array .long)) (t' := .int) (by decide) (by decide)))
  have F_c0_totals_461 := F_c0_totals_459.other W461 (Or.inr (slot_ne (Or.inl (own_w hw 17 rfl)) (Or.inl (own_w hw 30 rfl)) (by decide) (t := (.array .long)) (t' := .int) (by decide) (by decide)))
  have V_c1_461 := V459.other W461 (Ne.symm ne_c0_c1)
  have V_c2_461 := V_c2_459.other W461 (Ne.symm ne_c0_c2)
  have V_c3_461 := V_c3_459.other W461 (Ne.symm ne_c0_c3)
  have K461 : Keep h0 h461 [c1, c0] := K459.wr W461 (Or.inl (List.mem_of_getElem? (i := 1) rfl))
  have O461 := O459.wr W461 n_c0
  have N461 := Fr.snoc X461 N459 n_c0
  exact own_ret0 (Q := Q_rm10_50 Z w_NONE k_NONE c0 c1 k_c1 c2 k_c2 c3 k_c3 y0 y1 y2 y3 y4 y5 h0 n0) X461 hx hby hret hlk d10_141 (by decide) (by decide) (by rw [e461]; exact ⟨rfl, N461, K461, E_c0_461, F_c0_droppedTotal_461, F_c0_end_461, F_c0_firsts_461, F_c0_head_461, F_c0_lasts_461, F_c0_totals_461, V_c1_461, V_c2_461, V_c3_461⟩)
set_option maxRecDepth 65536 in
set_option maxHeartbeats 40000000 in
theorem rm8_51 (l : Launch) (Z : State) (a0 : Array Value) (hw : ∀ d ∈ tables_1, d.before a0 Z = true) (ws : List Jvm.Cond) (w_NONE k_NONE : Addr) (W : own_W Z w_NONE k_NONE) (c0 : Addr) (c1 : Addr) (k_c1 : ClassId) (c2 : Addr) (k_c2 : ClassId) (c3 : Addr) (k_c3 : ClassId) (y0 : Int64) (y1 : Int64) (y2 : Int64) (y3 : Int64) (y4 : Int64) (y5 : Int64) (h0 : Heap) (n0 : Nat) (O0 : Old Z n0 h0) (E_c0 : Exa Z h0 c0 "com/example/meter/meter/store/Spans") (F_c0_droppedTotal : Fld Z h0 c0 "com/example/meter/meter/store/Spans" "droppedTotal" "J" (.long y0)) (F_c0_end : Fld Z h0 c0 "com/example/meter/meter/store/Spans" "end" "I" (.int (3 : Int32))) (F_c0_firsts : Fld Z h0 c0 "com/example/meter/meter/store/Spans" "firsts" "[J" (.ref c1)) (F_c0_head : Fld Z h0 c0 "com/example/meter/meter/store/Spans" "head" "I" (.int (2 : Int32))) (F_c0_lasts : Fld Z h0 c0 "com/example/meter/meter/store/Spans" "lasts" "[J" (.ref c2)) (F_c0_totals : Fld Z h0 c0 "com/example/meter/meter/store/Spans" "totals" "[J" (.ref c3)) (n_c0 : n0 ≤ c0) (V_c1 : Arv Z h0 c1 k_c1 .long (16 : Int32) [(.long y1), (.long y2), (.long y2), (.long (0 : Int64))] (.long (0 : Int64))) (n_c1 : n0 ≤ c1) (V_c2 : Arv Z h0 c2 k_c2 .long (16 : Int32) [(.long y1), (.long y2), (.long y3), (.long (0 : Int64))] (.long (0 : Int64))) (n_c2 : n0 ≤ c2) (V_c3 : Arv Z h0 c3 k_c3 .long (16 : Int32) [(.long y0), (.long y4), (.long y5), (.long (0 : Int64))] (.long (0 : Int64))) (n_c3 : n0 ≤ c3) (ne_c0_c1 : c0 ≠ c1) (ne_c0_c2 : c0 ≠ c2) (ne_c0_c3 : c0 ≠ c3) (ne_c1_c2 : c1 ≠ c2) (ne_c1_c3 : c1 ≠ c3) (ne_c2_c3 : c2 ≠ c3) :
    MetFree l (⟨"com/example/meter/meter/store/Spans", "newestSecond", "()J"⟩ : MethodName) (head1 (Jvm.Cond.code (⟨"com/example/meter/meter/store/Spans", "newestSecond", "()J"⟩ : MethodName) prog_11_method_7_code 1 (some .long) :: ws) ({ frames := 0, cells := 0, slots := 0, locals := 0 } : Room)) (fun a U => a = #[(.ref c0)] ∧ Z.Warmed39 U.vm ∧ U.heap = h0) (fun _ _ _ _ _ => True) (fun _ U o U' => ∃ v L, o = .returned v ∧ own_Q (some (.long y3)) n0 h0 v U'.heap L ∧ FrameEnd U o U' L ({ frames := 0, cells := 0, slots := 0, locals := 0 } : Room).cells ({ frames := 0, cells := 0, slots := 0, locals := 0 } : Room).slots) := by
  refine MetFree.of_bodySF (plainFor_of_name pn_0) hisR ?_
  intro p e s m args below meth c s₁ Bd hml0 hP hK
  obtain ⟨rfl, hZ, hh⟩ := hP
  have hx := Bd.exec
  have hby := Bd.bytes
  have hml : c.maxLocals = 1 := hml0
  have hlk := BodyLoose.notSynchronized Bd
  have hret := Bd.returns
  have hown : s.vm.findClass "com/example/meter/meter/store/Spans" = some m.cls := findClass_of_methodNamed Bd.named
  have hnm := (name_of_methodNamed Bd.named Bd.method).1
  have X0 : Stand p l e ({ frames := 0, cells := 0, slots := 0, locals := 0 } : Room) s m #[(.ref c0)] below meth c s₁ [] 0 0 := Stand.of_body Bd
  have e0 : s₁.heap = h0 := by rw [← hh, Bd.state]; rfl
  have N0 := Fr.nil n0
  rw [ef_8 m c0]
  show Go p e below _ (s₁.setTop (mkF m 0 #[oA c0] []))
  refine own_aload_n 1 X0 hx hby d8_0 rfl rfl rfl ?_
  refine own_getF 4 X0 hx hby hZ hown (own_w hw 29 rfl) e0 F_c0_head d8_1 rfl ?_
  intro T466 X466 e466
  refine own_aload_n 5 X466 hx hby d8_4 rfl rfl rfl ?_
  refine own_getF 8 X466 hx hby hZ hown (own_w hw 23 rfl) e466 F_c0_end d8_5 rfl ?_
  intro T467 X467 e467
  refine own_icY 17 X467 hx hby d8_8 (by decide) (by decide) (by decide) ?_
  refine own_aload_n 18 X467 hx hby d8_17 rfl rfl rfl ?_
  refine own_getF 21 X467 hx hby hZ hown (own_w hw 14 rfl) e467 F_c0_lasts d8_18 rfl ?_
  intro T468 X468 e468
  refine own_aload_n 22 X468 hx hby d8_21 rfl rfl rfl ?_
  refine own_getF 25 X468 hx hby hZ hown (own_w hw 23 rfl) e468 F_c0_end d8_22 rfl ?_
  intro T469 X469 e469
  refine own_iconst 26 (1 : Int32) X469 hx hby d8_25 rfl (by decide) ?_
  refine own_isub 27 (2 : Int32) X469 hx hby d8_26 rfl (by decide) ?_
  refine own_laload 28 (.long y3) X469 hx hby hZ e469 V_c2 d8_27 rfl (by decide) rfl ?_
  exact own_ret (Q := own_Q (some (.long y3)) n0 h0) X469 hx hby hret hlk d8_28 rfl (Or.inr (Or.inl ⟨rfl, rfl, _, rfl⟩)) (by decide) (by decide) ⟨rfl, N0, e469⟩
set_option maxRecDepth 65536 in
set_option maxHeartbeats 40000000 in
theorem rm8_52 (l : Launch) (Z : State) (a0 : Array Value) (hw : ∀ d ∈ tables_1, d.before a0 Z = true) (ws : List Jvm.Cond) (w_NONE k_NONE : Addr) (W : own_W Z w_NONE k_NONE) (c0 : Addr) (c1 : Addr) (k_c1 : ClassId) (c2 : Addr) (k_c2 : ClassId) (c3 : Addr) (k_c3 : ClassId) (y0 : Int64) (y1 : Int64) (y2 : Int64) (y3 : Int64) (y4 : Int64) (y5 : Int64) (h0 : Heap) (n0 : Nat) (O0 : Old Z n0 h0) (E_c0 : Exa Z h0 c0 "com/example/meter/meter/store/Spans") (F_c0_droppedTotal : Fld Z h0 c0 "com/example/meter/meter/store/Spans" "droppedTotal" "J" (.long y0)) (F_c0_end : Fld Z h0 c0 "com/example/meter/meter/store/Spans" "end" "I" (.int (3 : Int32))) (F_c0_firsts : Fld Z h0 c0 "com/example/meter/meter/store/Spans" "firsts" "[J" (.ref c1)) (F_c0_head : Fld Z h0 c0 "com/example/meter/meter/store/Spans" "head" "I" (.int (2 : Int32))) (F_c0_lasts : Fld Z h0 c0 "com/example/meter/meter/store/Spans" "lasts" "[J" (.ref c2)) (F_c0_totals : Fld Z h0 c0 "com/example/meter/meter/store/Spans" "totals" "[J" (.ref c3)) (n_c0 : n0 ≤ c0) (V_c1 : Arv Z h0 c1 k_c1 .long (16 : Int32) [(.long y1), (.long y2), (.long y3), (.long (0 : Int64))] (.long (0 : Int64))) (n_c1 : n0 ≤ c1) (V_c2 : Arv Z h0 c2 k_c2 .long (16 : Int32) [(.long y1), (.long y2), (.long y3), (.long (0 : Int64))] (.long (0 : Int64))) (n_c2 : n0 ≤ c2) (V_c3 : Arv Z h0 c3 k_c3 .long (16 : Int32) [(.long y4), (.long y0), (.long y5), (.long (0 : Int64))] (.long (0 : Int64))) (n_c3 : n0 ≤ c3) (ne_c0_c1 : c0 ≠ c1) (ne_c0_c2 : c0 ≠ c2) (ne_c0_c3 : c0 ≠ c3) (ne_c1_c2 : c1 ≠ c2) (ne_c1_c3 : c1 ≠ c3) (ne_c2_c3 : c2 ≠ c3) :
    MetFree l (⟨"com/example/meter/meter/store/Spans", "newestSecond", "()J"⟩ : MethodName) (head1 (Jvm.Cond.code (⟨"com/example/meter/meter/store/Spans", "newestSecond", "()J"⟩ : MethodName) prog_11_method_7_code 1 (some .long) :: ws) ({ frames := 0, cells := 0, slots := 0, locals := 0 } : Room)) (fun a U => a = #[(.ref c0)] ∧ Z.Warmed39 U.vm ∧ U.heap = h0) (fun _ _ _ _ _ => True) (fun _ U o U' => ∃ v L, o = .returned v ∧ own_Q (some (.long y3)) n0 h0 v U'.heap L ∧ FrameEnd U o U' L ({ frames := 0, cells := 0, slots := 0, locals := 0 } : Room).cells ({ frames := 0, cells := 0, slots := 0, locals := 0 } : Room).slots) := by
  refine MetFree.of_bodySF (plainFor_of_name pn_0) hisR ?_
  intro p e s m args below meth c s₁ Bd hml0 hP hK
  obtain ⟨rfl, hZ, hh⟩ := hP
  have hx := Bd.exec
  have hby := Bd.bytes
  have hml : c.maxLocals = 1 := hml0
  have hlk := BodyLoose.notSynchronized Bd
  have hret := Bd.returns
  have hown : s.vm.findClass "com/example/meter/meter/store/Spans" = some m.cls := findClass_of_methodNamed Bd.named
  have hnm := (name_of_methodNamed Bd.named Bd.method).1
  have X0 : Stand p l e ({ frames := 0, cells := 0, slots := 0, locals := 0 } : Room) s m #[(.ref c0)] below meth c s₁ [] 0 0 := Stand.of_body Bd
  have e0 : s₁.heap = h0 := by rw [← hh, Bd.state]; rfl
  have N0 := Fr.nil n0
  rw [ef_8 m c0]
  show Go p e below _ (s₁.setTop (mkF m 0 #[oA c0] []))
  refine own_aload_n 1 X0 hx hby d8_0 rfl rfl rfl ?_
  refine own_getF 4 X0 hx hby hZ hown (own_w hw 29 rfl) e0 F_c0_head d8_1 rfl ?_
  intro T474 X474 e474
  refine own_aload_n 5 X474 hx hby d8_4 rfl rfl rfl ?_
  refine own_getF 8 X474 hx hby hZ hown (own_w hw 23 rfl) e474 F_c0_end d8_5 rfl ?_
  intro T475 X475 e475
  refine own_icY 17 X475 hx hby d8_8 (by decide) (by decide) (by decide) ?_
  refine own_aload_n 18 X475 hx hby d8_17 rfl rfl rfl ?_
  refine own_getF 21 X475 hx hby hZ hown (own_w hw 14 rfl) e475 F_c0_lasts d8_18 rfl ?_
  intro T476 X476 e476
  refine own_aload_n 22 X476 hx hby d8_21 rfl rfl rfl ?_
  refine own_getF 25 X476 hx hby hZ hown (own_w hw 23 rfl) e476 F_c0_end d8_22 rfl ?_
  intro T477 X477 e477
  refine own_iconst 26 (1 : Int32) X477 hx hby d8_25 rfl (by decide) ?_
  refine own_isub 27 (2 : Int32) X477 hx hby d8_26 rfl (by decide) ?_
  refine own_laload 28 (.long y3) X477 hx hby hZ e477 V_c2 d8_27 rfl (by decide) rfl ?_
  exact own_ret (Q := own_Q (some (.long y3)) n0 h0) X477 hx hby hret hlk d8_28 rfl (Or.inr (Or.inl ⟨rfl, rfl, _, rfl⟩)) (by decide) (by decide) ⟨rfl, N0, e477⟩
def Q_rm10_53 (Z : State) (w_NONE k_NONE : Addr) (c0 : Addr) (c1 : Addr) (k_c1 : ClassId) (c2 : Addr) (k_c2 : ClassId) (c3 : Addr) (k_c3 : ClassId) (y0 : Int64) (y1 : Int64) (y2 : Int64) (y3 : Int64) (y4 : Int64) (y5 : Int64) (h0 : Heap) (n0 : Nat) (v : Option Value) (h : Heap) (L : List Loc) : Prop := v = none ∧ Fr n0 L ∧ Keep h0 h [c0] ∧ Exa Z h c0 "com/example/meter/meter/store/Spans" ∧ Fld Z h c0 "com/example/meter/meter/store/Spans" "droppedTotal" "J" (.long y0) ∧ Fld Z h c0 "com/example/meter/meter/store/Spans" "end" "I" (.int (3 : Int32)) ∧ Fld Z h c0 "com/example/meter/meter/store/Spans" "firsts" "[J" (.ref c1) ∧ Fld Z h c0 "com/example/meter/meter/store/Spans" "head" "I" (.int (2 : Int32)) ∧ Fld Z h c0 "com/example/meter/meter/store/Spans" "lasts" "[J" (.ref c2) ∧ Fld Z h c0 "com/example/meter/meter/store/Spans" "totals" "[J" (.ref c3) ∧ Arv Z h c1 k_c1 .long (16 : Int32) [(.long y1), (.long y2), (.long y3), (.long (0 : Int64))] (.long (0 : Int64)) ∧ Arv Z h c2 k_c2 .long (16 : Int32) [(.long y1), (.long y2), (.long y3), (.long (0 : Int64))] (.long (0 : Int64)) ∧ Arv Z h c3 k_c3 .long (16 : Int32) [(.long y4), (.long y0), (.long y5), (.long (0 : Int64))] (.long (0 : Int64))
set_option maxRecDepth 65536 in
set_option maxHeartbeats 40000000 in
theorem rm10_53 (l : Launch) (Z : State) (a0 : Array Value) (hw : ∀ d ∈ tables_1, d.before a0 Z = true) (ws : List Jvm.Cond) (w_NONE k_NONE : Addr) (W : own_W Z w_NONE k_NONE) (c0 : Addr) (c1 : Addr) (k_c1 : ClassId) (c2 : Addr) (k_c2 : ClassId) (c3 : Addr) (k_c3 : ClassId) (y0 : Int64) (y1 : Int64) (y2 : Int64) (y3 : Int64) (y4 : Int64) (y5 : Int64) (h0 : Heap) (n0 : Nat) (O0 : Old Z n0 h0) (E_c0 : Exa Z h0 c0 "com/example/meter/meter/store/Spans") (F_c0_droppedTotal : Fld Z h0 c0 "com/example/meter/meter/store/Spans" "droppedTotal" "J" (.long y0)) (F_c0_end : Fld Z h0 c0 "com/example/meter/meter/store/Spans" "end" "I" (.int (3 : Int32))) (F_c0_firsts : Fld Z h0 c0 "com/example/meter/meter/store/Spans" "firsts" "[J" (.ref c1)) (F_c0_head : Fld Z h0 c0 "com/example/meter/meter/store/Spans" "head" "I" (.int (2 : Int32))) (F_c0_lasts : Fld Z h0 c0 "com/example/meter/meter/store/Spans" "lasts" "[J" (.ref c2)) (F_c0_totals : Fld Z h0 c0 "com/example/meter/meter/store/Spans" "totals" "[J" (.ref c3)) (n_c0 : n0 ≤ c0) (V_c1 : Arv Z h0 c1 k_c1 .long (16 : Int32) [(.long y1), (.long y2), (.long y3), (.long (0 : Int64))] (.long (0 : Int64))) (n_c1 : n0 ≤ c1) (V_c2 : Arv Z h0 c2 k_c2 .long (16 : Int32) [(.long y1), (.long y2), (.long y3), (.long (0 : Int64))] (.long (0 : Int64))) (n_c2 : n0 ≤ c2) (V_c3 : Arv Z h0 c3 k_c3 .long (16 : Int32) [(.long y4), (.long y0), (.long y5), (.long (0 : Int64))] (.long (0 : Int64))) (n_c3 : n0 ≤ c3) (ne_c0_c1 : c0 ≠ c1) (ne_c0_c2 : c0 ≠ c2) (ne_c0_c3 : c0 ≠ c3) (ne_c1_c2 : c1 ≠ c2) (ne_c1_c3 : c1 ≠ c3) (ne_c2_c3 : c2 ≠ c3) :
    MetFree l (⟨"com/example/meter/meter/store/Spans", "join", "()V"⟩ : MethodName) (head1 (Jvm.Cond.code (⟨"com/example/meter/meter/store/Spans", "join", "()V"⟩ : MethodName) prog_11_method_12_code 9 none :: ws) ({ frames := 0, cells := 0, slots := 0, locals := 0 } : Room)) (fun a U => a = #[(.ref c0)] ∧ Z.Warmed39 U.vm ∧ U.heap = h0) (fun _ _ _ _ _ => True) (fun _ U o U' => ∃ v L, o = .returned v ∧ Q_rm10_53 Z w_NONE k_NONE c0 c1 k_c1 c2 k_c2 c3 k_c3 y0 y1 y2 y3 y4 y5 h0 n0 v U'.heap L ∧ FrameEnd U o U' L ({ frames := 0, cells := 0, slots := 0, locals := 0 } : Room).cells ({ frames := 0, cells := 0, slots := 0, locals := 0 } : Room).slots) := by
  refine MetFree.of_bodySF (plainFor_of_name pn_0) hisR ?_
  intro p e s m args below meth c s₁ Bd hml0 hP hK
  obtain ⟨rfl, hZ, hh⟩ := hP
  have hx := Bd.exec
  have hby := Bd.bytes
  have hml : c.maxLocals = 9 := hml0
  have hlk := BodyLoose.notSynchronized Bd
  have hret := Bd.returns
  have hown : s.vm.findClass "com/example/meter/meter/store/Spans" = some m.cls := findClass_of_methodNamed Bd.named
  have hnm := (name_of_methodNamed Bd.named Bd.method).1
  have X0 : Stand p l e ({ frames := 0, cells := 0, slots := 0, locals := 0 } : Room) s m #[(.ref c0)] below meth c s₁ [] 0 0 := Stand.of_body Bd
  have e0 : s₁.heap = h0 := by rw [← hh, Bd.state]; rfl
  have N0 := Fr.nil n0
  rw [ef_10 m c0]
  show Go p e below _ (s₁.setTop (mkF m 0 #[oA c0, oU, oU, oU, oU, oU, oU, oU, oU] []))
  refine own_aload_n 1 X0 hx hby d10_0 rfl rfl rfl ?_
  refine own_getF 4 X0 hx hby hZ hown (own_w hw 16 rfl) e0 F_c0_totals d10_1 rfl ?_
  intro T479 X479 e479
  refine own_aload_n 5 X479 hx hby d10_4 rfl rfl rfl ?_
  refine own_getF 8 X479 hx hby hZ hown (own_w hw 23 rfl) e479 F_c0_end d10_5 rfl ?_
  intro T480 X480 e480
  refine own_iconst 9 (1 : Int32) X480 hx hby d10_8 rfl (by decide) ?_
  refine own_isub 10 (2 : Int32) X480 hx hby d10_9 rfl (by decide) ?_
  refine own_laload 11 (.long y5) X480 hx hby hZ e480 V_c3 d10_10 rfl (by decide) rfl ?_
  refine own_lstore_n 12 #[oA c0, oJ y5, oS, oU, oU, oU, oU, oU, oU] X480 hx hby d10_11 rfl rfl ?_
  refine own_aload_n 13 X480 hx hby d10_12 rfl rfl rfl ?_
  refine own_getF 16 X480 hx hby hZ hown (own_w hw 23 rfl) e480 F_c0_end d10_13 rfl ?_
  intro T481 X481 e481
  refine own_iconst 17 (1 : Int32) X481 hx hby d10_16 rfl (by decide) ?_
  refine own_isub 18 (2 : Int32) X481 hx hby d10_17 rfl (by decide) ?_
  refine own_istore_n 19 #[oA c0, oJ y5, oS, oI (2 : Int32), oU, oU, oU, oU, oU] X481 hx hby d10_18 rfl rfl ?_
  refine own_aload_n 20 X481 hx hby d10_19 rfl rfl rfl ?_
  refine own_getF 23 X481 hx hby hZ hown (own_w hw 23 rfl) e481 F_c0_end d10_20 rfl ?_
  intro T482 X482 e482
  refine own_iconst 24 (2 : Int32) X482 hx hby d10_23 rfl (by decide) ?_
  refine own_isub 25 (1 : Int32) X482 hx hby d10_24 rfl (by decide) ?_
  refine own_istore 27 #[oA c0, oJ y5, oS, oI (2 : Int32), oI (1 : Int32), oU, oU, oU, oU] X482 hx hby d10_25 rfl rfl ?_
  refine own_iload 29 X482 hx hby d10_27 rfl rfl ?_
  refine own_aload_n 30 X482 hx hby d10_29 rfl rfl rfl ?_
  refine own_getF 33 X482 hx hby hZ hown (own_w hw 29 rfl) e482 F_c0_head d10_30 rfl ?_
  intro T483 X483 e483
  refine own_icY 136 X483 hx hby d10_33 (by decide) (by decide) (by decide) ?_
  refine own_aload_n 137 X483 hx hby d10_136 rfl rfl rfl ?_
  refine own_iload_n 138 X483 hx hby d10_137 rfl rfl ?_
  refine own_putF 141 X483 hx hby hZ .int hown (own_w hw 29 rfl) e483 F_c0_head E_c0 (Or.inl (own_w hw 30 rfl)) (own_w hw 2 rfl) (by decide) rfl rfl d10_138 rfl ?_
  intro T484 h484 X484 e484 W484
  have E_c0_484 := E_c0.wr W484
  have F_c0_droppedTotal_484 := F_c0_droppedTotal.other W484 (Or.inr (slot_ne (Or.inl (own_w hw 49 rfl)) (Or.inl (own_w hw 30 rfl)) (by decide) (t := .long) (t' := .int) (by decide) (by decide)))
  have F_c0_end_484 := F_c0_end.other W484 (Or.inr (slot_ne (Or.inl (own_w hw 24 rfl)) (Or.inl (own_w hw 30 rfl)) (by decide) (t := .int) (t' := .int) (by decide) (by decide)))
  have F_c0_firsts_484 := F_c0_firsts.other W484 (Or.inr (slot_ne (Or.inl (own_w hw 13 rfl)) (Or.inl (own_w hw 30 rfl)) (by decide) (t := (.array .long)) (t' := .int) (by decide) (by decide)))
  have F_c0_head_484 := F_c0_head.same W484
  have F_c0_lasts_484 := F_c0_lasts.other W484 (Or.inr (slot_ne (Or.inl (own_w hw 15 rfl)) (Or.inl (own_w hw 30 rfl)) (by decide) (t := (.array .long)) (t' := .int) (by decide) (by decide)))
  have F_c0_totals_484 := F_c0_totals.other W484 (Or.inr (slot_ne (Or.inl (own_w hw 17 rfl)) (Or.inl (own_w hw 30 rfl)) (by decide) (t := (.array .long)) (t' := .int) (by decide) (by decide)))
  have V_c1_484 := V_c1.other W484 (Ne.symm ne_c0_c1)
  have V_c2_484 := V_c2.other W484 (Ne.symm ne_c0_c2)
  have V_c3_484 := V_c3.other W484 (Ne.symm ne_c0_c3)
  have K484 : Keep h0 h484 [c0] := (Keep.refl h0 [c0]).wr W484 (Or.inl (List.mem_of_getElem? (i := 0) rfl))
  have O484 := O0.wr W484 n_c0
  have N484 := Fr.snoc X484 N0 n_c0
  exact own_ret0 (Q := Q_rm10_53 Z w_NONE k_NONE c0 c1 k_c1 c2 k_c2 c3 k_c3 y0 y1 y2 y3 y4 y5 h0 n0) X484 hx hby hret hlk d10_141 (by decide) (by decide) (by rw [e484]; exact ⟨rfl, N484, K484, E_c0_484, F_c0_droppedTotal_484, F_c0_end_484, F_c0_firsts_484, F_c0_head_484, F_c0_lasts_484, F_c0_totals_484, V_c1_484, V_c2_484, V_c3_484⟩)
set_option maxRecDepth 65536 in
set_option maxHeartbeats 40000000 in
theorem rm8_54 (l : Launch) (Z : State) (a0 : Array Value) (hw : ∀ d ∈ tables_1, d.before a0 Z = true) (ws : List Jvm.Cond) (w_NONE k_NONE : Addr) (W : own_W Z w_NONE k_NONE) (c0 : Addr) (c1 : Addr) (k_c1 : ClassId) (c2 : Addr) (k_c2 : ClassId) (c3 : Addr) (k_c3 : ClassId) (y0 : Int64) (y1 : Int64) (y2 : Int64) (y3 : Int64) (y4 : Int64) (y5 : Int64) (h0 : Heap) (n0 : Nat) (O0 : Old Z n0 h0) (E_c0 : Exa Z h0 c0 "com/example/meter/meter/store/Spans") (F_c0_droppedTotal : Fld Z h0 c0 "com/example/meter/meter/store/Spans" "droppedTotal" "J" (.long y0)) (F_c0_end : Fld Z h0 c0 "com/example/meter/meter/store/Spans" "end" "I" (.int (3 : Int32))) (F_c0_firsts : Fld Z h0 c0 "com/example/meter/meter/store/Spans" "firsts" "[J" (.ref c1)) (F_c0_head : Fld Z h0 c0 "com/example/meter/meter/store/Spans" "head" "I" (.int (3 : Int32))) (F_c0_lasts : Fld Z h0 c0 "com/example/meter/meter/store/Spans" "lasts" "[J" (.ref c2)) (F_c0_totals : Fld Z h0 c0 "com/example/meter/meter/store/Spans" "totals" "[J" (.ref c3)) (n_c0 : n0 ≤ c0) (V_c1 : Arv Z h0 c1 k_c1 .long (16 : Int32) [(.long y1), (.long y2), (.long y3), (.long (0 : Int64))] (.long (0 : Int64))) (n_c1 : n0 ≤ c1) (V_c2 : Arv Z h0 c2 k_c2 .long (16 : Int32) [(.long y1), (.long y2), (.long y3), (.long (0 : Int64))] (.long (0 : Int64))) (n_c2 : n0 ≤ c2) (V_c3 : Arv Z h0 c3 k_c3 .long (16 : Int32) [(.long y4), (.long y5), (.long y0), (.long (0 : Int64))] (.long (0 : Int64))) (n_c3 : n0 ≤ c3) (ne_c0_c1 : c0 ≠ c1) (ne_c0_c2 : c0 ≠ c2) (ne_c0_c3 : c0 ≠ c3) (ne_c1_c2 : c1 ≠ c2) (ne_c1_c3 : c1 ≠ c3) (ne_c2_c3 : c2 ≠ c3) :
    MetFree l (⟨"com/example/meter/meter/store/Spans", "newestSecond", "()J"⟩ : MethodName) (head1 (Jvm.Cond.code (⟨"com/example/meter/meter/store/Spans", "newestSecond", "()J"⟩ : MethodName) prog_11_method_7_code 1 (some .long) :: ws) ({ frames := 0, cells := 0, slots := 0, locals := 0 } : Room)) (fun a U => a = #[(.ref c0)] ∧ Z.Warmed39 U.vm ∧ U.heap = h0) (fun _ _ _ _ _ => True) (fun _ U o U' => ∃ v L, o = .returned v ∧ own_Q (some (.long (-1 : Int64))) n0 h0 v U'.heap L ∧ FrameEnd U o U' L ({ frames := 0, cells := 0, slots := 0, locals := 0 } : Room).cells ({ frames := 0, cells := 0, slots := 0, locals := 0 } : Room).slots) := by
  refine MetFree.of_bodySF (plainFor_of_name pn_0) hisR ?_
  intro p e s m args below meth c s₁ Bd hml0 hP hK
  obtain ⟨rfl, hZ, hh⟩ := hP
  have hx := Bd.exec
  have hby := Bd.bytes
  have hml : c.maxLocals = 1 := hml0
  have hlk := BodyLoose.notSynchronized Bd
  have hret := Bd.returns
  have hown : s.vm.findClass "com/example/meter/meter/store/Spans" = some m.cls := findClass_of_methodNamed Bd.named
  have hnm := (name_of_methodNamed Bd.named Bd.method).1
  have X0 : Stand p l e ({ frames := 0, cells := 0, slots := 0, locals := 0 } : Room) s m #[(.ref c0)] below meth c s₁ [] 0 0 := Stand.of_body Bd
  have e0 : s₁.heap = h0 := by rw [← hh, Bd.state]; rfl
  have N0 := Fr.nil n0
  rw [ef_8 m c0]
  show Go p e below _ (s₁.setTop (mkF m 0 #[oA c0] []))
  refine own_aload_n 1 X0 hx hby d8_0 rfl rfl rfl ?_
  refine own_getF 4 X0 hx hby hZ hown (own_w hw 29 rfl) e0 F_c0_head d8_1 rfl ?_
  intro T489 X489 e489
  refine own_aload_n 5 X489 hx hby d8_4 rfl rfl rfl ?_
  refine own_getF 8 X489 hx hby hZ hown (own_w hw 23 rfl) e489 F_c0_end d8_5 rfl ?_
  intro T490 X490 e490
  refine own_icN 11 X490 hx hby d8_8 rfl (by decide) ?_
  refine own_ldc2 14 X490 hx hby hZ hown (own_w hw 66 rfl) d8_11 rfl ?_
  refine own_goto 28 X490 hx hby d8_14 (by decide) (by decide) ?_
  exact own_ret (Q := own_Q (some (.long (-1 : Int64))) n0 h0) X490 hx hby hret hlk d8_28 rfl (Or.inr (Or.inl ⟨rfl, rfl, _, rfl⟩)) (by decide) (by decide) ⟨rfl, N0, e490⟩
set_option maxRecDepth 65536 in
set_option maxHeartbeats 40000000 in
theorem cut_109_0 (l : Launch) (Z : State) (a0 : Array Value) (hw : ∀ d ∈ tables_1, d.before a0 Z = true) (w_NONE k_NONE : Addr) (W : own_W Z w_NONE k_NONE) (y0 : Int64) (y2 : Int64) (y4 : Int64) (y6 : Int64) (x8 : Int32) (x9 : Int32) (x10 : Int32) (x11 : Int32) (x12 : Int32) (y13 : Int64) (y15 : Int64) (y17 : Int64) (y19 : Int64) (y21 : Int64) (y23 : Int64) (h0 : Heap) (n0 : Nat) (O0 : Old Z n0 h0) (hq0 : ¬ (x10 < (0 : Int32))) (hq1 : ¬ ((3 : Int32) < x10)) (hq2 : ¬ (y13 < (0 : Int64))) (hq3 : y13 < y15) (hq4 : y15 < y17) {p : Program} {e : Env} {s : State} {m : MethodId} {args : Array Value} {below : List Frame} {meth : Method} {c : Code} {T : State} {locs : List Loc}
    (X0 : Stand p l e room_1 s m args below meth c T locs 0 0) (hx : p.tables.exec = Jvm.exec) (hby : c.code = code) (hml : c.maxLocals = 34) (hret : meth.sig.returnType = some .boolean) (hlk : meth.locks = false) (hZ : Z.Warmed39 s.vm) (hown : s.vm.findClass "com/example/meter/meter/store/SpansNewestSecondPinLaw" = some m.cls) (e0 : T.heap = h0) (N0 : Fr n0 locs) :
    Go p e below (fun s₂ o => s₂.status = .running ∧ Ended s₂ below o ∧ ∃ v L, o = .returned v ∧ own_Q1 n0 v s₂.heap L ∧ FrameEnd s o s₂ L 16 192) (T.setTop (mkF m 109 #[oJ y0, oS, oJ y2, oS, oJ y4, oS, oJ y6, oS, oI x8, oI x9, oI x10, oI x11, oI x12, oJ y13, oS, oJ y15, oS, oJ y17, oS, oJ y19, oS, oJ y21, oS, oJ y23, oS, oU, oU, oU, oU, oU, oU, oU, oU, oU] [])) := by
  refine own_new 112 6 X0 hx hby hZ hown (own_w hw 1 rfl) (own_w hw 2 rfl) (own_w hw 3 rfl) e0 at_109 rfl (by decide) (by decide) ?_
  intro T26 h26 b26 X26 e26 E26 g26 A26 D26
  have n_b26 : n0 ≤ b26 := Nat.le_trans (own_n0 O0) (Nat.le_of_eq g26.symm)
  have O26 := O0.ext E26
  have F_b26_firsts : Fld Z h26 b26 "com/example/meter/meter/store/Spans" "firsts" "[J" .null := D26 (Or.inl (own_w hw 13 rfl)) (ty := (.array .long)) (by decide)
  have F_b26_lasts : Fld Z h26 b26 "com/example/meter/meter/store/Spans" "lasts" "[J" .null := D26 (Or.inl (own_w hw 15 rfl)) (ty := (.array .long)) (by decide)
  have F_b26_totals : Fld Z h26 b26 "com/example/meter/meter/store/Spans" "totals" "[J" .null := D26 (Or.inl (own_w hw 17 rfl)) (ty := (.array .long)) (by decide)
  have F_b26_end : Fld Z h26 b26 "com/example/meter/meter/store/Spans" "end" "I" (.int (0 : Int32)) := D26 (Or.inl (own_w hw 24 rfl)) (ty := .int) (by decide)
  have F_b26_head : Fld Z h26 b26 "com/example/meter/meter/store/Spans" "head" "I" (.int (0 : Int32)) := D26 (Or.inl (own_w hw 30 rfl)) (ty := .int) (by decide)
  have F_b26_droppedTotal : Fld Z h26 b26 "com/example/meter/meter/store/Spans" "droppedTotal" "J" (.long (0 : Int64)) := D26 (Or.inl (own_w hw 49 rfl)) (ty := .long) (by decide)
  refine own_dup 113 X26 hx hby at_112 rfl rfl ?_
  refine own_spec (W := 1) 116 (rm1_1 l Z a0 hw [] w_NONE k_NONE W b26 h26 n0 O26 A26 F_b26_droppedTotal F_b26_end F_b26_firsts F_b26_head F_b26_lasts F_b26_totals n_b26) X26 hx hby hZ hown rfl (own_w hw 4 rfl) (own_w hw 5 rfl) (own_w hw 3 rfl) (own_w hw 6 rfl) (by decide) (by rw [hml]; rfl) b26 [] [(.ref b26)] pd_0 rfl at_113 rfl e26 rfl rfl rfl (by decide) (by decide) (by decide) (by decide) ?_
  rintro _ T34 L34 X34 ⟨rfl, N34, Kc34, E_b26_34, F_b26_droppedTotal_34, F_b26_end_34, F_b26_firsts_34, F_b26_head_34, F_b26_lasts_34, F_b26_totals_34⟩
  have N34 := Fr.app N0 N34
  have O34 := O26.keep Kc34 (allS n_b26 all0)
  show Go p e below _ (T34.setTop (mkF m 116 _ [(.ref b26)]))
  refine own_astore 118 #[oJ y0, oS, oJ y2, oS, oJ y4, oS, oJ y6, oS, oI x8, oI x9, oI x10, oI x11, oI x12, oJ y13, oS, oJ y15, oS, oJ y17, oS, oJ y19, oS, oJ y21, oS, oJ y23, oS, oA b26, oU, oU, oU, oU, oU, oU, oU, oU] X34 hx hby at_116 rfl rfl rfl ?_
  refine own_iload 120 X34 hx hby at_118 rfl rfl ?_
  refine own_iconst 121 (1 : Int32) X34 hx hby at_120 rfl (by decide) ?_
  by_cases hc35 : x10 < (1 : Int32)
  · refine own_icY 133 X34 hx hby at_121 (by decide) (by decide) (tlt hc35).1 ?_
    refine own_iload 135 X34 hx hby at_133 rfl rfl ?_
    refine own_iconst 136 (2 : Int32) X34 hx hby at_135 rfl (by decide) ?_
    refine own_icY 148 X34 hx hby at_136 (by decide) (by decide) (tlt (by have : 0 ≤ (x10).toInt ∧ (x10).toInt ≤ 3 := own_bdI hq0 hq1; have : ((2 : Int32)).toInt = 2 := rfl; have : ((1 : Int32)).toInt = 1 := rfl; have : (x10).toInt < ((1 : Int32)).toInt := Int32.lt_iff_toInt_lt.mp hc35; exact Int32.lt_iff_toInt_lt.mpr (by omega))).1 ?_
    refine own_iload 150 X34 hx hby at_148 rfl rfl ?_
    refine own_iconst 151 (3 : Int32) X34 hx hby at_150 rfl (by decide) ?_
    refine own_icY 163 X34 hx hby at_151 (by decide) (by decide) (tlt (by have : 0 ≤ (x10).toInt ∧ (x10).toInt ≤ 3 := own_bdI hq0 hq1; have : ((3 : Int32)).toInt = 3 := rfl; have : ((1 : Int32)).toInt = 1 := rfl; have : (x10).toInt < ((1 : Int32)).toInt := Int32.lt_iff_toInt_lt.mp hc35; exact Int32.lt_iff_toInt_lt.mpr (by omega))).1 ?_
    refine own_iload 165 X34 hx hby at_163 rfl rfl ?_
    refine own_ifN 168 X34 hx hby at_165 rfl ((if0 _ _).trans (teq (by have : 0 ≤ (x10).toInt ∧ (x10).toInt ≤ 3 := own_bdI hq0 hq1; have : ((0 : Int32)).toInt = 0 := rfl; have : ((1 : Int32)).toInt = 1 := rfl; have : (x10).toInt < ((1 : Int32)).toInt := Int32.lt_iff_toInt_lt.mp hc35; exact Int32.toInt_inj.mp (by omega))).2) ?_
    refine own_ldc2 171 X34 hx hby hZ hown (own_w hw 60 rfl) at_168 rfl ?_
    refine own_goto 198 X34 hx hby at_171 (by decide) (by decide) ?_
    refine own_lstore 200 #[oJ y0, oS, oJ y2, oS, oJ y4, oS, oJ y6, oS, oI x8, oI x9, oI x10, oI x11, oI x12, oJ y13, oS, oJ y15, oS, oJ y17, oS, oJ y19, oS, oJ y21, oS, oJ y23, oS, oA b26, oJ (-1 : Int64), oS, oU, oU, oU, oU, oU, oU] X34 hx hby at_198 rfl rfl ?_
    refine own_aload 202 X34 hx hby at_200 rfl rfl rfl ?_
    refine own_virt (W := 0) 205 (rm8_2 l Z a0 hw [] w_NONE k_NONE W b26 T34.heap n0 O34 E_b26_34 F_b26_droppedTotal_34 F_b26_end_34 F_b26_firsts_34 F_b26_head_34 F_b26_lasts_34 F_b26_totals_34 n_b26) X34 hx hby hZ hown (own_w hw 50 rfl) (own_w hw 51 rfl) (notFace_of_selects (args := #[]) (mvT hZ (own_w hw 53 rfl))) (own_w hw 53 rfl) (own_w hw 52 rfl) (own_w hw 3 rfl) (own_w hw 54 rfl) (by decide) (by rw [hml]; rfl) b26 [] [] pd_1 rfl at_202 rfl rfl E_b26_34 rfl rfl rfl (by decide) (by decide) (by decide) (by decide) ?_
    rintro _ T38 L38 X38 ⟨rfl, N38, e38⟩
    have N38 := Fr.app N34 N38
    show Go p e below _ (T38.setTop (mkF m 205 _ [(.long (-1 : Int64))]))
    refine own_lstore 207 #[oJ y0, oS, oJ y2, oS, oJ y4, oS, oJ y6, oS, oI x8, oI x9, oI x10, oI x11, oI x12, oJ y13, oS, oJ y15, oS, oJ y17, oS, oJ y19, oS, oJ y21, oS, oJ y23, oS, oA b26, oJ (-1 : Int64), oS, oJ (-1 : Int64), oS, oU, oU, oU, oU] X38 hx hby at_205 rfl rfl ?_
    refine own_lload 209 X38 hx hby at_207 rfl rfl ?_
    refine own_lload 211 X38 hx hby at_209 rfl rfl ?_
    refine own_lcmp 212 (0 : Int32) X38 hx hby at_211 rfl (by decide) ?_
    refine own_ifY 217 X38 hx hby at_212 (by decide) (by decide) (by decide) ?_
    refine own_lload 219 X38 hx hby at_217 rfl rfl ?_
    refine own_lstore 221 #[oJ y0, oS, oJ y2, oS, oJ y4, oS, oJ y6, oS, oI x8, oI x9, oI x10, oI x11, oI x12, oJ y13, oS, oJ y15, oS, oJ y17, oS, oJ y19, oS, oJ y21, oS, oJ y23, oS, oA b26, oJ (-1 : Int64), oS, oJ (-1 : Int64), oS, oJ (-1 : Int64), oS, oU, oU] X38 hx hby at_219 rfl rfl ?_
    refine own_iload 223 X38 hx hby at_221 rfl rfl ?_
    by_cases hc39 : x11 = (0 : Int32)
    · refine own_ifY 251 X38 hx hby at_223 (by decide) (by decide) ((if0 _ _).trans (teq hc39).1) ?_
      refine own_iload 253 X38 hx hby at_251 rfl rfl ?_
      by_cases hc40 : x12 = (0 : Int32)
      · refine own_ifY 270 X38 hx hby at_253 (by decide) (by decide) ((if0 _ _).trans (teq hc40).1) ?_
        refine own_aload 272 X38 hx hby at_270 rfl rfl rfl ?_
        refine own_virt (W := 0) 275 (rm8_2 l Z a0 hw [] w_NONE k_NONE W b26 T34.heap n0 O34 E_b26_34 F_b26_droppedTotal_34 F_b26_end_34 F_b26_firsts_34 F_b26_head_34 F_b26_lasts_34 F_b26_totals_34 n_b26) X38 hx hby hZ hown (own_w hw 50 rfl) (own_w hw 51 rfl) (notFace_of_selects (args := #[]) (mvT hZ (own_w hw 53 rfl))) (own_w hw 53 rfl) (own_w hw 52 rfl) (own_w hw 3 rfl) (own_w hw 54 rfl) (by decide) (by rw [hml]; rfl) b26 [] [] pd_1 rfl at_272 rfl e38 E_b26_34 rfl rfl rfl (by decide) (by decide) (by decide) (by decide) ?_
        rintro _ T41 L41 X41 ⟨rfl, N41, e41⟩
        have N41 := Fr.app N38 N41
        show Go p e below _ (T41.setTop (mkF m 275 _ [(.long (-1 : Int64))]))
        refine own_lstore 277 #[oJ y0, oS, oJ y2, oS, oJ y4, oS, oJ y6, oS, oI x8, oI x9, oI x10, oI x11, oI x12, oJ y13, oS, oJ y15, oS, oJ y17, oS, oJ y19, oS, oJ y21, oS, oJ y23, oS, oA b26, oJ (-1 : Int64), oS, oJ (-1 : Int64), oS, oJ (-1 : Int64), oS, oJ (-1 : Int64), oS] X41 hx hby at_275 rfl rfl ?_
        refine own_lload 279 X41 hx hby at_277 rfl rfl ?_
        refine own_lload 281 X41 hx hby at_279 rfl rfl ?_
        refine own_lcmp 282 (0 : Int32) X41 hx hby at_281 rfl (by decide) ?_
        refine own_ifN 285 X41 hx hby at_282 rfl (by decide) ?_
        refine own_iconst 286 (1 : Int32) X41 hx hby at_285 rfl (by decide) ?_
        refine own_goto 290 X41 hx hby at_286 (by decide) (by decide) ?_
        exact own_ret (Q := own_Q1 n0) X41 hx hby hret hlk at_290 rfl (Or.inl ⟨rfl, by simp, _, rfl⟩) (by decide) (by decide) ⟨rfl, N41⟩
      refine own_ifN 256 X38 hx hby at_253 rfl ((if0 _ _).trans (feq hc40).1) ?_
      refine own_lload 258 X38 hx hby at_256 rfl rfl ?_
      refine own_ldc2 261 X38 hx hby hZ hown (own_w hw 60 rfl) at_258 rfl ?_
      refine own_lcmp 262 (0 : Int32) X38 hx hby at_261 rfl (by decide) ?_
      refine own_ifY 270 X38 hx hby at_262 (by decide) (by decide) (by decide) ?_
      refine own_aload 272 X38 hx hby at_270 rfl rfl rfl ?_
      refine own_virt (W := 0) 275 (rm8_2 l Z a0 hw [] w_NONE k_NONE W b26 T34.heap n0 O34 E_b26_34 F_b26_droppedTotal_34 F_b26_end_34 F_b26_firsts_34 F_b26_head_34 F_b26_lasts_34 F_b26_totals_34 n_b26) X38 hx hby hZ hown (own_w hw 50 rfl) (own_w hw 51 rfl) (notFace_of_selects (args := #[]) (mvT hZ (own_w hw 53 rfl))) (own_w hw 53 rfl) (own_w hw 52 rfl) (own_w hw 3 rfl) (own_w hw 54 rfl) (by decide) (by rw [hml]; rfl) b26 [] [] pd_1 rfl at_272 rfl e38 E_b26_34 rfl rfl rfl (by decide) (by decide) (by decide) (by decide) ?_
      rintro _ T42 L42 X42 ⟨rfl, N42, e42⟩
      have N42 := Fr.app N38 N42
      show Go p e below _ (T42.setTop (mkF m 275 _ [(.long (-1 : Int64))]))
      refine own_lstore 277 #[oJ y0, oS, oJ y2, oS, oJ y4, oS, oJ y6, oS, oI x8, oI x9, oI x10, oI x11, oI x12, oJ y13, oS, oJ y15, oS, oJ y17, oS, oJ y19, oS, oJ y21, oS, oJ y23, oS, oA b26, oJ (-1 : Int64), oS, oJ (-1 : Int64), oS, oJ (-1 : Int64), oS, oJ (-1 : Int64), oS] X42 hx hby at_275 rfl rfl ?_
      refine own_lload 279 X42 hx hby at_277 rfl rfl ?_
      refine own_lload 281 X42 hx hby at_279 rfl rfl ?_
      refine own_lcmp 282 (0 : Int32) X42 hx hby at_281 rfl (by decide) ?_
      refine own_ifN 285 X42 hx hby at_282 rfl (by decide) ?_
      refine own_iconst 286 (1 : Int32) X42 hx hby at_285 rfl (by decide) ?_
      refine own_goto 290 X42 hx hby at_286 (by decide) (by decide) ?_
      exact own_ret (Q := own_Q1 n0) X42 hx hby hret hlk at_290 rfl (Or.inl ⟨rfl, by simp, _, rfl⟩) (by decide) (by decide) ⟨rfl, N42⟩
    refine own_ifN 226 X38 hx hby at_223 rfl ((if0 _ _).trans (feq hc39).1) ?_
    refine own_aload 228 X38 hx hby at_226 rfl rfl rfl ?_
    refine own_lload 230 X38 hx hby at_228 rfl rfl ?_
    refine own_virt (W := 0) 233 (rm9_3 l Z a0 hw [] w_NONE k_NONE W b26 y6 T34.heap n0 O34 E_b26_34 F_b26_droppedTotal_34 F_b26_end_34 F_b26_firsts_34 F_b26_head_34 F_b26_lasts_34 F_b26_totals_34 n_b26) X38 hx hby hZ hown (own_w hw 55 rfl) (own_w hw 56 rfl) (notFace_of_selects (args := #[]) (mvT hZ (own_w hw 58 rfl))) (own_w hw 58 rfl) (own_w hw 57 rfl) (own_w hw 3 rfl) (own_w hw 59 rfl) (by decide) (by rw [hml]; rfl) b26 [(.long y6)] [] pd_2 rfl at_230 rfl e38 E_b26_34 rfl rfl rfl (by decide) (by decide) (by decide) (by decide) ?_
    rintro _ T45 L45 X45 ⟨rfl, N45, e45⟩
    have N45 := Fr.app N38 N45
    show Go p e below _ (T45.setTop (mkF m 233 _ []))
    refine own_iload 235 X45 hx hby at_233 rfl rfl ?_
    refine own_ifY 251 X45 hx hby at_235 (by decide) (by decide) ((if0 _ _).trans (flt (by have : ((0 : Int32)).toInt = 0 := rfl; have : 0 ≤ (x10).toInt ∧ (x10).toInt ≤ 3 := own_bdI hq0 hq1; have : ((1 : Int32)).toInt = 1 := rfl; have : (x10).toInt < ((1 : Int32)).toInt := Int32.lt_iff_toInt_lt.mp hc35; exact fun q => absurd (Int32.lt_iff_toInt_lt.mp q) (by omega))).2.2.2) ?_
    refine own_iload 253 X45 hx hby at_251 rfl rfl ?_
    by_cases hc46 : x12 = (0 : Int32)
    · refine own_ifY 270 X45 hx hby at_253 (by decide) (by decide) ((if0 _ _).trans (teq hc46).1) ?_
      refine own_aload 272 X45 hx hby at_270 rfl rfl rfl ?_
      refine own_virt (W := 0) 275 (rm8_2 l Z a0 hw [] w_NONE k_NONE W b26 T34.heap n0 O34 E_b26_34 F_b26_droppedTotal_34 F_b26_end_34 F_b26_firsts_34 F_b26_head_34 F_b26_lasts_34 F_b26_totals_34 n_b26) X45 hx hby hZ hown (own_w hw 50 rfl) (own_w hw 51 rfl) (notFace_of_selects (args := #[]) (mvT hZ (own_w hw 53 rfl))) (own_w hw 53 rfl) (own_w hw 52 rfl) (own_w hw 3 rfl) (own_w hw 54 rfl) (by decide) (by rw [hml]; rfl) b26 [] [] pd_1 rfl at_272 rfl e45 E_b26_34 rfl rfl rfl (by decide) (by decide) (by decide) (by decide) ?_
      rintro _ T47 L47 X47 ⟨rfl, N47, e47⟩
      have N47 := Fr.app N45 N47
      show Go p e below _ (T47.setTop (mkF m 275 _ [(.long (-1 : Int64))]))
      refine own_lstore 277 #[oJ y0, oS, oJ y2, oS, oJ y4, oS, oJ y6, oS, oI x8, oI x9, oI x10, oI x11, oI x12, oJ y13, oS, oJ y15, oS, oJ y17, oS, oJ y19, oS, oJ y21, oS, oJ y23, oS, oA b26, oJ (-1 : Int64), oS, oJ (-1 : Int64), oS, oJ (-1 : Int64), oS, oJ (-1 : Int64), oS] X47 hx hby at_275 rfl rfl ?_
      refine own_lload 279 X47 hx hby at_277 rfl rfl ?_
      refine own_lload 281 X47 hx hby at_279 rfl rfl ?_
      refine own_lcmp 282 (0 : Int32) X47 hx hby at_281 rfl (by decide) ?_
      refine own_ifN 285 X47 hx hby at_282 rfl (by decide) ?_
      refine own_iconst 286 (1 : Int32) X47 hx hby at_285 rfl (by decide) ?_
      refine own_goto 290 X47 hx hby at_286 (by decide) (by decide) ?_
      exact own_ret (Q := own_Q1 n0) X47 hx hby hret hlk at_290 rfl (Or.inl ⟨rfl, by simp, _, rfl⟩) (by decide) (by decide) ⟨rfl, N47⟩
    refine own_ifN 256 X45 hx hby at_253 rfl ((if0 _ _).trans (feq hc46).1) ?_
    refine own_lload 258 X45 hx hby at_256 rfl rfl ?_
    refine own_ldc2 261 X45 hx hby hZ hown (own_w hw 60 rfl) at_258 rfl ?_
    refine own_lcmp 262 (0 : Int32) X45 hx hby at_261 rfl (by decide) ?_
    refine own_ifY 270 X45 hx hby at_262 (by decide) (by decide) (by decide) ?_
    refine own_aload 272 X45 hx hby at_270 rfl rfl rfl ?_
    refine own_virt (W := 0) 275 (rm8_2 l Z a0 hw [] w_NONE k_NONE W b26 T34.heap n0 O34 E_b26_34 F_b26_droppedTotal_34 F_b26_end_34 F_b26_firsts_34 F_b26_head_34 F_b26_lasts_34 F_b26_totals_34 n_b26) X45 hx hby hZ hown (own_w hw 50 rfl) (own_w hw 51 rfl) (notFace_of_selects (args := #[]) (mvT hZ (own_w hw 53 rfl))) (own_w hw 53 rfl) (own_w hw 52 rfl) (own_w hw 3 rfl) (own_w hw 54 rfl) (by decide) (by rw [hml]; rfl) b26 [] [] pd_1 rfl at_272 rfl e45 E_b26_34 rfl rfl rfl (by decide) (by decide) (by decide) (by decide) ?_
    rintro _ T48 L48 X48 ⟨rfl, N48, e48⟩
    have N48 := Fr.app N45 N48
    show Go p e below _ (T48.setTop (mkF m 275 _ [(.long (-1 : Int64))]))
    refine own_lstore 277 #[oJ y0, oS, oJ y2, oS, oJ y4, oS, oJ y6, oS, oI x8, oI x9, oI x10, oI x11, oI x12, oJ y13, oS, oJ y15, oS, oJ y17, oS, oJ y19, oS, oJ y21, oS, oJ y23, oS, oA b26, oJ (-1 : Int64), oS, oJ (-1 : Int64), oS, oJ (-1 : Int64), oS, oJ (-1 : Int64), oS] X48 hx hby at_275 rfl rfl ?_
    refine own_lload 279 X48 hx hby at_277 rfl rfl ?_
    refine own_lload 281 X48 hx hby at_279 rfl rfl ?_
    refine own_lcmp 282 (0 : Int32) X48 hx hby at_281 rfl (by decide) ?_
    refine own_ifN 285 X48 hx hby at_282 rfl (by decide) ?_
    refine own_iconst 286 (1 : Int32) X48 hx hby at_285 rfl (by decide) ?_
    refine own_goto 290 X48 hx hby at_286 (by decide) (by decide) ?_
    exact own_ret (Q := own_Q1 n0) X48 hx hby hret hlk at_290 rfl (Or.inl ⟨rfl, by simp, _, rfl⟩) (by decide) (by decide) ⟨rfl, N48⟩
  refine own_icN 124 X34 hx hby at_121 rfl (flt hc35).1 ?_
  refine own_aload 126 X34 hx hby at_124 rfl rfl rfl ?_
  refine own_lload 128 X34 hx hby at_126 rfl rfl ?_
  refine own_lload 130 X34 hx hby at_128 rfl rfl ?_
  refine own_virt (W := 0) 133 (rm3_10 l Z a0 hw [] w_NONE k_NONE W b26 y13 y19 T34.heap n0 O34 E_b26_34 F_b26_droppedTotal_34 F_b26_end_34 F_b26_firsts_34 F_b26_head_34 F_b26_lasts_34 F_b26_totals_34 n_b26) X34 hx hby hZ hown (own_w hw 18 rfl) (own_w hw 19 rfl) (notFace_of_selects (args := #[]) (mvT hZ (own_w hw 21 rfl))) (own_w hw 21 rfl) (own_w hw 20 rfl) (own_w hw 3 rfl) (own_w hw 22 rfl) (by decide) (by rw [hml]; rfl) b26 [(.long y13), (.long y19)] [] pd_6 rfl at_130 rfl rfl E_b26_34 rfl rfl rfl (by decide) (by decide) (by decide) (by decide) ?_
  rintro _ T99 L99 X99 ⟨b99_0, b99_1, b99_2, k99_0, k99_1, k99_2, rfl, N99, Kc99, n_b99_0, sz_b99_0, n_b99_1, sz_b99_1, n_b99_2, sz_b99_2, ne_b99_0_b99_1, ne_b99_0_b99_2, ne_b99_1_b99_2, E_b26_99, F_b26_droppedTotal_99, F_b26_end_99, F_b26_firsts_99, F_b26_head_99, F_b26_lasts_99, F_b26_totals_99, V_b99_0_99, V_b99_1_99, V_b99_2_99⟩
  have N99 := Fr.app N34 N99
  have ne_b26_b99_0 : b26 ≠ b99_0 := Nat.ne_of_lt (Nat.lt_of_lt_of_le E_b26_34.lt sz_b99_0)
  have ne_b26_b99_1 : b26 ≠ b99_1 := Nat.ne_of_lt (Nat.lt_of_lt_of_le E_b26_34.lt sz_b99_1)
  have ne_b26_b99_2 : b26 ≠ b99_2 := Nat.ne_of_lt (Nat.lt_of_lt_of_le E_b26_34.lt sz_b99_2)
  have O99 := O34.keep Kc99 (allS n_b26 all0)
  show Go p e below _ (T99.setTop (mkF m 133 _ []))
  refine own_iload 135 X99 hx hby at_133 rfl rfl ?_
  refine own_iconst 136 (2 : Int32) X99 hx hby at_135 rfl (by decide) ?_
  by_cases hc100 : x10 < (2 : Int32)
  · refine own_icY 148 X99 hx hby at_136 (by decide) (by decide) (tlt hc100).1 ?_
    refine own_iload 150 X99 hx hby at_148 rfl rfl ?_
    refine own_iconst 151 (3 : Int32) X99 hx hby at_150 rfl (by decide) ?_
    refine own_icY 163 X99 hx hby at_151 (by decide) (by decide) (tlt (by have : 1 ≤ (x10).toInt ∧ (x10).toInt ≤ 3 := own_bdI hc35 hq1; have : ((3 : Int32)).toInt = 3 := rfl; have : ((2 : Int32)).toInt = 2 := rfl; have : (x10).toInt < ((2 : Int32)).toInt := Int32.lt_iff_toInt_lt.mp hc100; exact Int32.lt_iff_toInt_lt.mpr (by omega))).1 ?_
    refine own_iload 165 X99 hx hby at_163 rfl rfl ?_
    refine own_ifY 174 X99 hx hby at_165 (by decide) (by decide) ((if0 _ _).trans (feq (by have : 1 ≤ (x10).toInt ∧ (x10).toInt ≤ 3 := own_bdI hc35 hq1; have : ((0 : Int32)).toInt = 0 := rfl; exact fun q => absurd (congrArg Int32.toInt q) (by omega))).2) ?_
    refine own_iload 176 X99 hx hby at_174 rfl rfl ?_
    refine own_iconst 177 (1 : Int32) X99 hx hby at_176 rfl (by decide) ?_
    refine own_icN 180 X99 hx hby at_177 rfl (teq (by have : 1 ≤ (x10).toInt ∧ (x10).toInt ≤ 3 := own_bdI hc35 hq1; have : ((1 : Int32)).toInt = 1 := rfl; have : ((2 : Int32)).toInt = 2 := rfl; have : (x10).toInt < ((2 : Int32)).toInt := Int32.lt_iff_toInt_lt.mp hc100; exact Int32.toInt_inj.mp (by omega))).2 ?_
    refine own_lload 182 X99 hx hby at_180 rfl rfl ?_
    refine own_goto 198 X99 hx hby at_182 (by decide) (by decide) ?_
    refine own_lstore 200 #[oJ y0, oS, oJ y2, oS, oJ y4, oS, oJ y6, oS, oI x8, oI x9, oI x10, oI x11, oI x12, oJ y13, oS, oJ y15, oS, oJ y17, oS, oJ y19, oS, oJ y21, oS, oJ y23, oS, oA b26, oJ y13, oS, oU, oU, oU, oU, oU, oU] X99 hx hby at_198 rfl rfl ?_
    refine own_aload 202 X99 hx hby at_200 rfl rfl rfl ?_
    refine own_virt (W := 0) 205 (rm8_11 l Z a0 hw [] w_NONE k_NONE W b26 b99_0 k99_0 b99_1 k99_1 b99_2 k99_2 y13 ((0 : Int64) + y19) T99.heap n0 O99 E_b26_99 F_b26_droppedTotal_99 F_b26_end_99 F_b26_firsts_99 F_b26_head_99 F_b26_lasts_99 F_b26_totals_99 n_b26 V_b99_0_99 n_b99_0 V_b99_1_99 n_b99_1 V_b99_2_99 n_b99_2 ne_b26_b99_0 ne_b26_b99_1 ne_b26_b99_2 ne_b99_0_b99_1 ne_b99_0_b99_2 ne_b99_1_b99_2) X99 hx hby hZ hown (own_w hw 50 rfl) (own_w hw 51 rfl) (notFace_of_selects (args := #[]) (mvT hZ (own_w hw 53 rfl))) (own_w hw 53 rfl) (own_w hw 52 rfl) (own_w hw 3 rfl) (own_w hw 54 rfl) (by decide) (by rw [hml]; rfl) b26 [] [] pd_1 rfl at_202 rfl rfl E_b26_99 rfl rfl rfl (by decide) (by decide) (by decide) (by decide) ?_
    rintro _ T105 L105 X105 ⟨rfl, N105, e105⟩
    have N105 := Fr.app N99 N105
    show Go p e below _ (T105.setTop (mkF m 205 _ [(.long y13)]))
    refine own_lstore 207 #[oJ y0, oS, oJ y2, oS, oJ y4, oS, oJ y6, oS, oI x8, oI x9, oI x10, oI x11, oI x12, oJ y13, oS, oJ y15, oS, oJ y17, oS, oJ y19, oS, oJ y21, oS, oJ y23, oS, oA b26, oJ y13, oS, oJ y13, oS, oU, oU, oU, oU] X105 hx hby at_205 rfl rfl ?_
    refine own_lload 209 X105 hx hby at_207 rfl rfl ?_
    refine own_lload 211 X105 hx hby at_209 rfl rfl ?_
    refine own_lcmp 212 (XT.cmpL y13 y13) X105 hx hby at_211 rfl rfl ?_
    refine own_ifY 217 X105 hx hby at_212 (by decide) (by decide) (own_teqL rfl).1 ?_
    refine own_lload 219 X105 hx hby at_217 rfl rfl ?_
    refine own_lstore 221 #[oJ y0, oS, oJ y2, oS, oJ y4, oS, oJ y6, oS, oI x8, oI x9, oI x10, oI x11, oI x12, oJ y13, oS, oJ y15, oS, oJ y17, oS, oJ y19, oS, oJ y21, oS, oJ y23, oS, oA b26, oJ y13, oS, oJ y13, oS, oJ y13, oS, oU, oU] X105 hx hby at_219 rfl rfl ?_
    refine own_iload 223 X105 hx hby at_221 rfl rfl ?_
    by_cases hc106 : x11 = (0 : Int32)
    · refine own_ifY 251 X105 hx hby at_223 (by decide) (by decide) ((if0 _ _).trans (teq hc106).1) ?_
      refine own_iload 253 X105 hx hby at_251 rfl rfl ?_
      by_cases hc107 : x12 = (0 : Int32)
      · refine own_ifY 270 X105 hx hby at_253 (by decide) (by decide) ((if0 _ _).trans (teq hc107).1) ?_
        refine own_aload 272 X105 hx hby at_270 rfl rfl rfl ?_
        refine own_virt (W := 0) 275 (rm8_11 l Z a0 hw [] w_NONE k_NONE W b26 b99_0 k99_0 b99_1 k99_1 b99_2 k99_2 y13 ((0 : Int64) + y19) T99.heap n0 O99 E_b26_99 F_b26_droppedTotal_99 F_b26_end_99 F_b26_firsts_99 F_b26_head_99 F_b26_lasts_99 F_b26_totals_99 n_b26 V_b99_0_99 n_b99_0 V_b99_1_99 n_b99_1 V_b99_2_99 n_b99_2 ne_b26_b99_0 ne_b26_b99_1 ne_b26_b99_2 ne_b99_0_b99_1 ne_b99_0_b99_2 ne_b99_1_b99_2) X105 hx hby hZ hown (own_w hw 50 rfl) (own_w hw 51 rfl) (notFace_of_selects (args := #[]) (mvT hZ (own_w hw 53 rfl))) (own_w hw 53 rfl) (own_w hw 52 rfl) (own_w hw 3 rfl) (own_w hw 54 rfl) (by decide) (by rw [hml]; rfl) b26 [] [] pd_1 rfl at_272 rfl e105 E_b26_99 rfl rfl rfl (by decide) (by decide) (by decide) (by decide) ?_
        rintro _ T108 L108 X108 ⟨rfl, N108, e108⟩
        have N108 := Fr.app N105 N108
        show Go p e below _ (T108.setTop (mkF m 275 _ [(.long y13)]))
        refine own_lstore 277 #[oJ y0, oS, oJ y2, oS, oJ y4, oS, oJ y6, oS, oI x8, oI x9, oI x10, oI x11, oI x12, oJ y13, oS, oJ y15, oS, oJ y17, oS, oJ y19, oS, oJ y21, oS, oJ y23, oS, oA b26, oJ y13, oS, oJ y13, oS, oJ y13, oS, oJ y13, oS] X108 hx hby at_275 rfl rfl ?_
        refine own_lload 279 X108 hx hby at_277 rfl rfl ?_
        refine own_lload 281 X108 hx hby at_279 rfl rfl ?_
        refine own_lcmp 282 (XT.cmpL y13 y13) X108 hx hby at_281 rfl rfl ?_
        refine own_ifN 285 X108 hx hby at_282 rfl (own_teqL rfl).2 ?_
        refine own_iconst 286 (1 : Int32) X108 hx hby at_285 rfl (by decide) ?_
        refine own_goto 290 X108 hx hby at_286 (by decide) (by decide) ?_
        exact own_ret (Q := own_Q1 n0) X108 hx hby hret hlk at_290 rfl (Or.inl ⟨rfl, by simp, _, rfl⟩) (by decide) (by decide) ⟨rfl, N108⟩
      refine own_ifN 256 X105 hx hby at_253 rfl ((if0 _ _).trans (feq hc107).1) ?_
      refine own_lload 258 X105 hx hby at_256 rfl rfl ?_
      refine own_ldc2 261 X105 hx hby hZ hown (own_w hw 60 rfl) at_258 rfl ?_
      refine own_lcmp 262 (XT.cmpL y13 (-1 : Int64)) X105 hx hby at_261 rfl rfl ?_
      refine own_ifN 265 X105 hx hby at_262 rfl (own_feqL (by have : -2 ^ 63 ≤ (y13).toInt ∧ (y13).toInt < 2 ^ 63 := own_rngJ y13; have : ((-1 : Int64)).toInt = -1 := rfl; have : ((0 : Int64)).toInt = 0 := rfl; have : ¬ ((y13).toInt < ((0 : Int64)).toInt) := fun q => hq2 (Int64.lt_iff_toInt_lt.mpr q); exact fun q => absurd (congrArg Int64.toInt q) (by omega))).1 ?_
      refine own_aload 267 X105 hx hby at_265 rfl rfl rfl ?_
      refine own_virt (W := 0) 270 (rm10_12 l Z a0 hw [] w_NONE k_NONE W b26 b99_0 k99_0 b99_1 k99_1 b99_2 k99_2 y13 ((0 : Int64) + y19) T99.heap n0 O99 E_b26_99 F_b26_droppedTotal_99 F_b26_end_99 F_b26_firsts_99 F_b26_head_99 F_b26_lasts_99 F_b26_totals_99 n_b26 V_b99_0_99 n_b99_0 V_b99_1_99 n_b99_1 V_b99_2_99 n_b99_2 ne_b26_b99_0 ne_b26_b99_1 ne_b26_b99_2 ne_b99_0_b99_1 ne_b99_0_b99_2 ne_b99_1_b99_2) X105 hx hby hZ hown (own_w hw 61 rfl) (own_w hw 62 rfl) (notFace_of_selects (args := #[]) (mvT hZ (own_w hw 64 rfl))) (own_w hw 64 rfl) (own_w hw 63 rfl) (own_w hw 3 rfl) (own_w hw 65 rfl) (by decide) (by rw [hml]; rfl) b26 [] [] pd_0 rfl at_267 rfl e105 E_b26_99 rfl rfl rfl (by decide) (by decide) (by decide) (by decide) ?_
      rintro _ T115 L115 X115 ⟨rfl, N115, Kc115, E_b26_115, F_b26_droppedTotal_115, F_b26_end_115, F_b26_firsts_115, F_b26_head_115, F_b26_lasts_115, F_b26_totals_115, V_b99_0_115, V_b99_1_115, V_b99_2_115⟩
      have N115 := Fr.app N105 N115
      have O115 := O99.keep Kc115 (allS n_b26 all0)
      show Go p e below _ (T115.setTop (mkF m 270 _ []))
      refine own_aload 272 X115 hx hby at_270 rfl rfl rfl ?_
      refine own_virt (W := 0) 275 (rm8_11 l Z a0 hw [] w_NONE k_NONE W b26 b99_0 k99_0 b99_1 k99_1 b99_2 k99_2 y13 ((0 : Int64) + y19) T115.heap n0 O115 E_b26_115 F_b26_droppedTotal_115 F_b26_end_115 F_b26_firsts_115 F_b26_head_115 F_b26_lasts_115 F_b26_totals_115 n_b26 V_b99_0_115 n_b99_0 V_b99_1_115 n_b99_1 V_b99_2_115 n_b99_2 ne_b26_b99_0 ne_b26_b99_1 ne_b26_b99_2 ne_b99_0_b99_1 ne_b99_0_b99_2 ne_b99_1_b99_2) X115 hx hby hZ hown (own_w hw 50 rfl) (own_w hw 51 rfl) (notFace_of_selects (args := #[]) (mvT hZ (own_w hw 53 rfl))) (own_w hw 53 rfl) (own_w hw 52 rfl) (own_w hw 3 rfl) (own_w hw 54 rfl) (by decide) (by rw [hml]; rfl) b26 [] [] pd_1 rfl at_272 rfl rfl E_b26_115 rfl rfl rfl (by decide) (by decide) (by decide) (by decide) ?_
      rintro _ T116 L116 X116 ⟨rfl, N116, e116⟩
      have N116 := Fr.app N115 N116
      show Go p e below _ (T116.setTop (mkF m 275 _ [(.long y13)]))
      refine own_lstore 277 #[oJ y0, oS, oJ y2, oS, oJ y4, oS, oJ y6, oS, oI x8, oI x9, oI x10, oI x11, oI x12, oJ y13, oS, oJ y15, oS, oJ y17, oS, oJ y19, oS, oJ y21, oS, oJ y23, oS, oA b26, oJ y13, oS, oJ y13, oS, oJ y13, oS, oJ y13, oS] X116 hx hby at_275 rfl rfl ?_
      refine own_lload 279 X116 hx hby at_277 rfl rfl ?_
      refine own_lload 281 X116 hx hby at_279 rfl rfl ?_
      refine own_lcmp 282 (XT.cmpL y13 y13) X116 hx hby at_281 rfl rfl ?_
      refine own_ifN 285 X116 hx hby at_282 rfl (own_teqL rfl).2 ?_
      refine own_iconst 286 (1 : Int32) X116 hx hby at_285 rfl (by decide) ?_
      refine own_goto 290 X116 hx hby at_286 (by decide) (by decide) ?_
      exact own_ret (Q := own_Q1 n0) X116 hx hby hret hlk at_290 rfl (Or.inl ⟨rfl, by simp, _, rfl⟩) (by decide) (by decide) ⟨rfl, N116⟩
    refine own_ifN 226 X105 hx hby at_223 rfl ((if0 _ _).trans (feq hc106).1) ?_
    refine own_aload 228 X105 hx hby at_226 rfl rfl rfl ?_
    refine own_lload 230 X105 hx hby at_228 rfl rfl ?_
    by_cases hc129 : y6 < y13
    · refine own_virt (W := 0) 233 (rm9_13 l Z a0 hw [] w_NONE k_NONE W b26 b99_0 k99_0 b99_1 k99_1 b99_2 k99_2 y6 y13 ((0 : Int64) + y19) T99.heap n0 O99 E_b26_99 F_b26_droppedTotal_99 F_b26_end_99 F_b26_firsts_99 F_b26_head_99 F_b26_lasts_99 F_b26_totals_99 n_b26 V_b99_0_99 n_b99_0 V_b99_1_99 n_b99_1 V_b99_2_99 n_b99_2 ne_b26_b99_0 ne_b26_b99_1 ne_b26_b99_2 ne_b99_0_b99_1 ne_b99_0_b99_2 ne_b99_1_b99_2 hc129) X105 hx hby hZ hown (own_w hw 55 rfl) (own_w hw 56 rfl) (notFace_of_selects (args := #[]) (mvT hZ (own_w hw 58 rfl))) (own_w hw 58 rfl) (own_w hw 57 rfl) (own_w hw 3 rfl) (own_w hw 59 rfl) (by decide) (by rw [hml]; rfl) b26 [(.long y6)] [] pd_2 rfl at_230 rfl e105 E_b26_99 rfl rfl rfl (by decide) (by decide) (by decide) (by decide) ?_
      rintro _ T130 L130 X130 ⟨rfl, N130, e130⟩
      have N130 := Fr.app N105 N130
      show Go p e below _ (T130.setTop (mkF m 233 _ []))
      refine own_iload 235 X130 hx hby at_233 rfl rfl ?_
      refine own_ifN 238 X130 hx hby at_235 rfl ((if0 _ _).trans (tlt (by have : ((0 : Int32)).toInt = 0 := rfl; have : 1 ≤ (x10).toInt ∧ (x10).toInt ≤ 3 := own_bdI hc35 hq1; exact Int32.lt_iff_toInt_lt.mpr (by omega))).2.2.2) ?_
      refine own_lload 240 X130 hx hby at_238 rfl rfl ?_
      refine own_lload 242 X130 hx hby at_240 rfl rfl ?_
      refine own_lcmp 243 (XT.cmpL y13 y6) X130 hx hby at_242 rfl rfl ?_
      refine own_ifY 251 X130 hx hby at_243 (by decide) (by decide) (own_tltL hc129).2.2.1 ?_
      refine own_iload 253 X130 hx hby at_251 rfl rfl ?_
      by_cases hc131 : x12 = (0 : Int32)
      · refine own_ifY 270 X130 hx hby at_253 (by decide) (by decide) ((if0 _ _).trans (teq hc131).1) ?_
        refine own_aload 272 X130 hx hby at_270 rfl rfl rfl ?_
        refine own_virt (W := 0) 275 (rm8_11 l Z a0 hw [] w_NONE k_NONE W b26 b99_0 k99_0 b99_1 k99_1 b99_2 k99_2 y13 ((0 : Int64) + y19) T99.heap n0 O99 E_b26_99 F_b26_droppedTotal_99 F_b26_end_99 F_b26_firsts_99 F_b26_head_99 F_b26_lasts_99 F_b26_totals_99 n_b26 V_b99_0_99 n_b99_0 V_b99_1_99 n_b99_1 V_b99_2_99 n_b99_2 ne_b26_b99_0 ne_b26_b99_1 ne_b26_b99_2 ne_b99_0_b99_1 ne_b99_0_b99_2 ne_b99_1_b99_2) X130 hx hby hZ hown (own_w hw 50 rfl) (own_w hw 51 rfl) (notFace_of_selects (args := #[]) (mvT hZ (own_w hw 53 rfl))) (own_w hw 53 rfl) (own_w hw 52 rfl) (own_w hw 3 rfl) (own_w hw 54 rfl) (by decide) (by rw [hml]; rfl) b26 [] [] pd_1 rfl at_272 rfl e130 E_b26_99 rfl rfl rfl (by decide) (by decide) (by decide) (by decide) ?_
        rintro _ T132 L132 X132 ⟨rfl, N132, e132⟩
        have N132 := Fr.app N130 N132
        show Go p e below _ (T132.setTop (mkF m 275 _ [(.long y13)]))
        refine own_lstore 277 #[oJ y0, oS, oJ y2, oS, oJ y4, oS, oJ y6, oS, oI x8, oI x9, oI x10, oI x11, oI x12, oJ y13, oS, oJ y15, oS, oJ y17, oS, oJ y19, oS, oJ y21, oS, oJ y23, oS, oA b26, oJ y13, oS, oJ y13, oS, oJ y13, oS, oJ y13, oS] X132 hx hby at_275 rfl rfl ?_
        refine own_lload 279 X132 hx hby at_277 rfl rfl ?_
        refine own_lload 281 X132 hx hby at_279 rfl rfl ?_
        refine own_lcmp 282 (XT.cmpL y13 y13) X132 hx hby at_281 rfl rfl ?_
        refine own_ifN 285 X132 hx hby at_282 rfl (own_teqL rfl).2 ?_
        refine own_iconst 286 (1 : Int32) X132 hx hby at_285 rfl (by decide) ?_
        refine own_goto 290 X132 hx hby at_286 (by decide) (by decide) ?_
        exact own_ret (Q := own_Q1 n0) X132 hx hby hret hlk at_290 rfl (Or.inl ⟨rfl, by simp, _, rfl⟩) (by decide) (by decide) ⟨rfl, N132⟩
      refine own_ifN 256 X130 hx hby at_253 rfl ((if0 _ _).trans (feq hc131).1) ?_
      refine own_lload 258 X130 hx hby at_256 rfl rfl ?_
      refine own_ldc2 261 X130 hx hby hZ hown (own_w hw 60 rfl) at_258 rfl ?_
      refine own_lcmp 262 (XT.cmpL y13 (-1 : Int64)) X130 hx hby at_261 rfl rfl ?_
      refine own_ifN 265 X130 hx hby at_262 rfl (own_feqL (by have : -2 ^ 63 ≤ (y13).toInt ∧ (y13).toInt < 2 ^ 63 := own_rngJ y13; have : ((-1 : Int64)).toInt = -1 := rfl; have : ((0 : Int64)).toInt = 0 := rfl; have : ¬ ((y13).toInt < ((0 : Int64)).toInt) := fun q => hq2 (Int64.lt_iff_toInt_lt.mpr q); exact fun q => absurd (congrArg Int64.toInt q) (by omega))).1 ?_
      refine own_aload 267 X130 hx hby at_265 rfl rfl rfl ?_
      refine own_virt (W := 0) 270 (rm10_12 l Z a0 hw [] w_NONE k_NONE W b26 b99_0 k99_0 b99_1 k99_1 b99_2 k99_2 y13 ((0 : Int64) + y19) T99.heap n0 O99 E_b26_99 F_b26_droppedTotal_99 F_b26_end_99 F_b26_firsts_99 F_b26_head_99 F_b26_lasts_99 F_b26_totals_99 n_b26 V_b99_0_99 n_b99_0 V_b99_1_99 n_b99_1 V_b99_2_99 n_b99_2 ne_b26_b99_0 ne_b26_b99_1 ne_b26_b99_2 ne_b99_0_b99_1 ne_b99_0_b99_2 ne_b99_1_b99_2) X130 hx hby hZ hown (own_w hw 61 rfl) (own_w hw 62 rfl) (notFace_of_selects (args := #[]) (mvT hZ (own_w hw 64 rfl))) (own_w hw 64 rfl) (own_w hw 63 rfl) (own_w hw 3 rfl) (own_w hw 65 rfl) (by decide) (by rw [hml]; rfl) b26 [] [] pd_0 rfl at_267 rfl e130 E_b26_99 rfl rfl rfl (by decide) (by decide) (by decide) (by decide) ?_
      rintro _ T133 L133 X133 ⟨rfl, N133, Kc133, E_b26_133, F_b26_droppedTotal_133, F_b26_end_133, F_b26_firsts_133, F_b26_head_133, F_b26_lasts_133, F_b26_totals_133, V_b99_0_133, V_b99_1_133, V_b99_2_133⟩
      have N133 := Fr.app N130 N133
      have O133 := O99.keep Kc133 (allS n_b26 all0)
      show Go p e below _ (T133.setTop (mkF m 270 _ []))
      refine own_aload 272 X133 hx hby at_270 rfl rfl rfl ?_
      refine own_virt (W := 0) 275 (rm8_11 l Z a0 hw [] w_NONE k_NONE W b26 b99_0 k99_0 b99_1 k99_1 b99_2 k99_2 y13 ((0 : Int64) + y19) T133.heap n0 O133 E_b26_133 F_b26_droppedTotal_133 F_b26_end_133 F_b26_firsts_133 F_b26_head_133 F_b26_lasts_133 F_b26_totals_133 n_b26 V_b99_0_133 n_b99_0 V_b99_1_133 n_b99_1 V_b99_2_133 n_b99_2 ne_b26_b99_0 ne_b26_b99_1 ne_b26_b99_2 ne_b99_0_b99_1 ne_b99_0_b99_2 ne_b99_1_b99_2) X133 hx hby hZ hown (own_w hw 50 rfl) (own_w hw 51 rfl) (notFace_of_selects (args := #[]) (mvT hZ (own_w hw 53 rfl))) (own_w hw 53 rfl) (own_w hw 52 rfl) (own_w hw 3 rfl) (own_w hw 54 rfl) (by decide) (by rw [hml]; rfl) b26 [] [] pd_1 rfl at_272 rfl rfl E_b26_133 rfl rfl rfl (by decide) (by decide) (by decide) (by decide) ?_
      rintro _ T134 L134 X134 ⟨rfl, N134, e134⟩
      have N134 := Fr.app N133 N134
      show Go p e below _ (T134.setTop (mkF m 275 _ [(.long y13)]))
      refine own_lstore 277 #[oJ y0, oS, oJ y2, oS, oJ y4, oS, oJ y6, oS, oI x8, oI x9, oI x10, oI x11, oI x12, oJ y13, oS, oJ y15, oS, oJ y17, oS, oJ y19, oS, oJ y21, oS, oJ y23, oS, oA b26, oJ y13, oS, oJ y13, oS, oJ y13, oS, oJ y13, oS] X134 hx hby at_275 rfl rfl ?_
      refine own_lload 279 X134 hx hby at_277 rfl rfl ?_
      refine own_lload 281 X134 hx hby at_279 rfl rfl ?_
      refine own_lcmp 282 (XT.cmpL y13 y13) X134 hx hby at_281 rfl rfl ?_
      refine own_ifN 285 X134 hx hby at_282 rfl (own_teqL rfl).2 ?_
      refine own_iconst 286 (1 : Int32) X134 hx hby at_285 rfl (by decide) ?_
      refine own_goto 290 X134 hx hby at_286 (by decide) (by decide) ?_
      exact own_ret (Q := own_Q1 n0) X134 hx hby hret hlk at_290 rfl (Or.inl ⟨rfl, by simp, _, rfl⟩) (by decide) (by decide) ⟨rfl, N134⟩
    refine own_virt (W := 0) 233 (rm9_14 l Z a0 hw [] w_NONE k_NONE W b26 b99_0 k99_0 b99_1 k99_1 b99_2 k99_2 y6 y13 ((0 : Int64) + y19) T99.heap n0 O99 E_b26_99 F_b26_droppedTotal_99 F_b26_end_99 F_b26_firsts_99 F_b26_head_99 F_b26_lasts_99 F_b26_totals_99 n_b26 V_b99_0_99 n_b99_0 V_b99_1_99 n_b99_1 V_b99_2_99 n_b99_2 ne_b26_b99_0 ne_b26_b99_1 ne_b26_b99_2 ne_b99_0_b99_1 ne_b99_0_b99_2 ne_b99_1_b99_2 hc129) X105 hx hby hZ hown (own_w hw 55 rfl) (own_w hw 56 rfl) (notFace_of_selects (args := #[]) (mvT hZ (own_w hw 58 rfl))) (own_w hw 58 rfl) (own_w hw 57 rfl) (own_w hw 3 rfl) (own_w hw 59 rfl) (by decide) (by rw [hml]; rfl) b26 [(.long y6)] [] pd_2 rfl at_230 rfl e105 E_b26_99 rfl rfl rfl (by decide) (by decide) (by decide) (by decide) ?_
    rintro _ T135 L135 X135 ⟨rfl, N135, Kc135, E_b26_135, F_b26_droppedTotal_135, F_b26_end_135, F_b26_firsts_135, F_b26_head_135, F_b26_lasts_135, F_b26_totals_135, V_b99_0_135, V_b99_1_135, V_b99_2_135⟩
    have N135 := Fr.app N105 N135
    have O135 := O99.keep Kc135 (allS n_b26 all0)
    show Go p e below _ (T135.setTop (mkF m 233 _ []))
    refine own_iload 235 X135 hx hby at_233 rfl rfl ?_
    refine own_ifN 238 X135 hx hby at_235 rfl ((if0 _ _).trans (tlt (by have : ((0 : Int32)).toInt = 0 := rfl; have : 1 ≤ (x10).toInt ∧ (x10).toInt ≤ 3 := own_bdI hc35 hq1; exact Int32.lt_iff_toInt_lt.mpr (by omega))).2.2.2) ?_
    refine own_lload 240 X135 hx hby at_238 rfl rfl ?_
    refine own_lload 242 X135 hx hby at_240 rfl rfl ?_
    refine own_lcmp 243 (XT.cmpL y13 y6) X135 hx hby at_242 rfl rfl ?_
    refine own_ifN 246 X135 hx hby at_243 rfl (own_fltL hc129).2.2.1 ?_
    refine own_ldc2 249 X135 hx hby hZ hown (own_w hw 60 rfl) at_246 rfl ?_
    refine own_lstore 251 #[oJ y0, oS, oJ y2, oS, oJ y4, oS, oJ y6, oS, oI x8, oI x9, oI x10, oI x11, oI x12, oJ y13, oS, oJ y15, oS, oJ y17, oS, oJ y19, oS, oJ y21, oS, oJ y23, oS, oA b26, oJ y13, oS, oJ y13, oS, oJ (-1 : Int64), oS, oU, oU] X135 hx hby at_249 rfl rfl ?_
    refine own_iload 253 X135 hx hby at_251 rfl rfl ?_
    by_cases hc136 : x12 = (0 : Int32)
    · refine own_ifY 270 X135 hx hby at_253 (by decide) (by decide) ((if0 _ _).trans (teq hc136).1) ?_
      refine own_aload 272 X135 hx hby at_270 rfl rfl rfl ?_
      refine own_virt (W := 0) 275 (rm8_15 l Z a0 hw [] w_NONE k_NONE W b26 b99_0 k99_0 b99_1 k99_1 b99_2 k99_2 ((0 : Int64) + y19) y13 T135.heap n0 O135 E_b26_135 F_b26_droppedTotal_135 F_b26_end_135 F_b26_firsts_135 F_b26_head_135 F_b26_lasts_135 F_b26_totals_135 n_b26 V_b99_0_135 n_b99_0 V_b99_1_135 n_b99_1 V_b99_2_135 n_b99_2 ne_b26_b99_0 ne_b26_b99_1 ne_b26_b99_2 ne_b99_0_b99_1 ne_b99_0_b99_2 ne_b99_1_b99_2) X135 hx hby hZ hown (own_w hw 50 rfl) (own_w hw 51 rfl) (notFace_of_selects (args := #[]) (mvT hZ (own_w hw 53 rfl))) (own_w hw 53 rfl) (own_w hw 52 rfl) (own_w hw 3 rfl) (own_w hw 54 rfl) (by decide) (by rw [hml]; rfl) b26 [] [] pd_1 rfl at_272 rfl rfl E_b26_135 rfl rfl rfl (by decide) (by decide) (by decide) (by decide) ?_
      rintro _ T139 L139 X139 ⟨rfl, N139, e139⟩
      have N139 := Fr.app N135 N139
      show Go p e below _ (T139.setTop (mkF m 275 _ [(.long (-1 : Int64))]))
      refine own_lstore 277 #[oJ y0, oS, oJ y2, oS, oJ y4, oS, oJ y6, oS, oI x8, oI x9, oI x10, oI x11, oI x12, oJ y13, oS, oJ y15, oS, oJ y17, oS, oJ y19, oS, oJ y21, oS, oJ y23, oS, oA b26, oJ y13, oS, oJ y13, oS, oJ (-1 : Int64), oS, oJ (-1 : Int64), oS] X139 hx hby at_275 rfl rfl ?_
      refine own_lload 279 X139 hx hby at_277 rfl rfl ?_
      refine own_lload 281 X139 hx hby at_279 rfl rfl ?_
      refine own_lcmp 282 (0 : Int32) X139 hx hby at_281 rfl (by decide) ?_
      refine own_ifN 285 X139 hx hby at_282 rfl (by decide) ?_
      refine own_iconst 286 (1 : Int32) X139 hx hby at_285 rfl (by decide) ?_
      refine own_goto 290 X139 hx hby at_286 (by decide) (by decide) ?_
      exact own_ret (Q := own_Q1 n0) X139 hx hby hret hlk at_290 rfl (Or.inl ⟨rfl, by simp, _, rfl⟩) (by decide) (by decide) ⟨rfl, N139⟩
    refine own_ifN 256 X135 hx hby at_253 rfl ((if0 _ _).trans (feq hc136).1) ?_
    refine own_lload 258 X135 hx hby at_256 rfl rfl ?_
    refine own_ldc2 261 X135 hx hby hZ hown (own_w hw 60 rfl) at_258 rfl ?_
    refine own_lcmp 262 (0 : Int32) X135 hx hby at_261 rfl (by decide) ?_
    refine own_ifY 270 X135 hx hby at_262 (by decide) (by decide) (by decide) ?_
    refine own_aload 272 X135 hx hby at_270 rfl rfl rfl ?_
    refine own_virt (W := 0) 275 (rm8_15 l Z a0 hw [] w_NONE k_NONE W b26 b99_0 k99_0 b99_1 k99_1 b99_2 k99_2 ((0 : Int64) + y19) y13 T135.heap n0 O135 E_b26_135 F_b26_droppedTotal_135 F_b26_end_135 F_b26_firsts_135 F_b26_head_135 F_b26_lasts_135 F_b26_totals_135 n_b26 V_b99_0_135 n_b99_0 V_b99_1_135 n_b99_1 V_b99_2_135 n_b99_2 ne_b26_b99_0 ne_b26_b99_1 ne_b26_b99_2 ne_b99_0_b99_1 ne_b99_0_b99_2 ne_b99_1_b99_2) X135 hx hby hZ hown (own_w hw 50 rfl) (own_w hw 51 rfl) (notFace_of_selects (args := #[]) (mvT hZ (own_w hw 53 rfl))) (own_w hw 53 rfl) (own_w hw 52 rfl) (own_w hw 3 rfl) (own_w hw 54 rfl) (by decide) (by rw [hml]; rfl) b26 [] [] pd_1 rfl at_272 rfl rfl E_b26_135 rfl rfl rfl (by decide) (by decide) (by decide) (by decide) ?_
    rintro _ T140 L140 X140 ⟨rfl, N140, e140⟩
    have N140 := Fr.app N135 N140
    show Go p e below _ (T140.setTop (mkF m 275 _ [(.long (-1 : Int64))]))
    refine own_lstore 277 #[oJ y0, oS, oJ y2, oS, oJ y4, oS, oJ y6, oS, oI x8, oI x9, oI x10, oI x11, oI x12, oJ y13, oS, oJ y15, oS, oJ y17, oS, oJ y19, oS, oJ y21, oS, oJ y23, oS, oA b26, oJ y13, oS, oJ y13, oS, oJ (-1 : Int64), oS, oJ (-1 : Int64), oS] X140 hx hby at_275 rfl rfl ?_
    refine own_lload 279 X140 hx hby at_277 rfl rfl ?_
    refine own_lload 281 X140 hx hby at_279 rfl rfl ?_
    refine own_lcmp 282 (0 : Int32) X140 hx hby at_281 rfl (by decide) ?_
    refine own_ifN 285 X140 hx hby at_282 rfl (by decide) ?_
    refine own_iconst 286 (1 : Int32) X140 hx hby at_285 rfl (by decide) ?_
    refine own_goto 290 X140 hx hby at_286 (by decide) (by decide) ?_
    exact own_ret (Q := own_Q1 n0) X140 hx hby hret hlk at_290 rfl (Or.inl ⟨rfl, by simp, _, rfl⟩) (by decide) (by decide) ⟨rfl, N140⟩
  refine own_icN 139 X99 hx hby at_136 rfl (flt hc100).1 ?_
  refine own_aload 141 X99 hx hby at_139 rfl rfl rfl ?_
  refine own_lload 143 X99 hx hby at_141 rfl rfl ?_
  refine own_lload 145 X99 hx hby at_143 rfl rfl ?_
  refine own_virt (W := 0) 148 (rm3_17 l Z a0 hw [] w_NONE k_NONE W b26 b99_0 k99_0 b99_1 k99_1 b99_2 k99_2 y15 y21 y13 ((0 : Int64) + y19) T99.heap n0 O99 E_b26_99 F_b26_droppedTotal_99 F_b26_end_99 F_b26_firsts_99 F_b26_head_99 F_b26_lasts_99 F_b26_totals_99 n_b26 V_b99_0_99 n_b99_0 V_b99_1_99 n_b99_1 V_b99_2_99 n_b99_2 ne_b26_b99_0 ne_b26_b99_1 ne_b26_b99_2 ne_b99_0_b99_1 ne_b99_0_b99_2 ne_b99_1_b99_2) X99 hx hby hZ hown (own_w hw 18 rfl) (own_w hw 19 rfl) (notFace_of_selects (args := #[]) (mvT hZ (own_w hw 21 rfl))) (own_w hw 21 rfl) (own_w hw 20 rfl) (own_w hw 3 rfl) (own_w hw 22 rfl) (by decide) (by rw [hml]; rfl) b26 [(.long y15), (.long y21)] [] pd_6 rfl at_145 rfl rfl E_b26_99 rfl rfl rfl (by decide) (by decide) (by decide) (by decide) ?_
  rintro _ T158 L158 X158 ⟨rfl, N158, Kc158, E_b26_158, F_b26_droppedTotal_158, F_b26_end_158, F_b26_firsts_158, F_b26_head_158, F_b26_lasts_158, F_b26_totals_158, V_b99_0_158, V_b99_1_158, V_b99_2_158⟩
  have N158 := Fr.app N99 N158
  have O158 := O99.keep Kc158 (allS n_b99_0 (allS n_b99_1 (allS n_b99_2 (allS n_b26 all0))))
  show Go p e below _ (T158.setTop (mkF m 148 _ []))
  refine own_iload 150 X158 hx hby at_148 rfl rfl ?_
  refine own_iconst 151 (3 : Int32) X158 hx hby at_150 rfl (by decide) ?_
  by_cases hc159 : x10 < (3 : Int32)
  · refine own_icY 163 X158 hx hby at_151 (by decide) (by decide) (tlt hc159).1 ?_
    refine own_iload 165 X158 hx hby at_163 rfl rfl ?_
    refine own_ifY 174 X158 hx hby at_165 (by decide) (by decide) ((if0 _ _).trans (feq (by have : 2 ≤ (x10).toInt ∧ (x10).toInt ≤ 3 := own_bdI hc100 hq1; have : ((0 : Int32)).toInt = 0 := rfl; exact fun q => absurd (congrArg Int32.toInt q) (by omega))).2) ?_
    refine own_iload 176 X158 hx hby at_174 rfl rfl ?_
    refine own_iconst 177 (1 : Int32) X158 hx hby at_176 rfl (by decide) ?_
    refine own_icY 185 X158 hx hby at_177 (by decide) (by decide) (feq (by have : 2 ≤ (x10).toInt ∧ (x10).toInt ≤ 3 := own_bdI hc100 hq1; have : ((1 : Int32)).toInt = 1 := rfl; exact fun q => absurd (congrArg Int32.toInt q) (by omega))).2 ?_
    refine own_iload 187 X158 hx hby at_185 rfl rfl ?_
    refine own_iconst 188 (2 : Int32) X158 hx hby at_187 rfl (by decide) ?_
    refine own_icN 191 X158 hx hby at_188 rfl (teq (by have : 2 ≤ (x10).toInt ∧ (x10).toInt ≤ 3 := own_bdI hc100 hq1; have : ((2 : Int32)).toInt = 2 := rfl; have : ((3 : Int32)).toInt = 3 := rfl; have : (x10).toInt < ((3 : Int32)).toInt := Int32.lt_iff_toInt_lt.mp hc159; exact Int32.toInt_inj.mp (by omega))).2 ?_
    refine own_lload 193 X158 hx hby at_191 rfl rfl ?_
    refine own_goto 198 X158 hx hby at_193 (by decide) (by decide) ?_
    refine own_lstore 200 #[oJ y0, oS, oJ y2, oS, oJ y4, oS, oJ y6, oS, oI x8, oI x9, oI x10, oI x11, oI x12, oJ y13, oS, oJ y15, oS, oJ y17, oS, oJ y19, oS, oJ y21, oS, oJ y23, oS, oA b26, oJ y15, oS, oU, oU, oU, oU, oU, oU] X158 hx hby at_198 rfl rfl ?_
    refine own_aload 202 X158 hx hby at_200 rfl rfl rfl ?_
    refine own_virt (W := 0) 205 (rm8_18 l Z a0 hw [] w_NONE k_NONE W b26 b99_0 k99_0 b99_1 k99_1 b99_2 k99_2 y13 y15 ((0 : Int64) + y19) (((0 : Int64) + y19) + y21) T158.heap n0 O158 E_b26_158 F_b26_droppedTotal_158 F_b26_end_158 F_b26_firsts_158 F_b26_head_158 F_b26_lasts_158 F_b26_totals_158 n_b26 V_b99_0_158 n_b99_0 V_b99_1_158 n_b99_1 V_b99_2_158 n_b99_2 ne_b26_b99_0 ne_b26_b99_1 ne_b26_b99_2 ne_b99_0_b99_1 ne_b99_0_b99_2 ne_b99_1_b99_2) X158 hx hby hZ hown (own_w hw 50 rfl) (own_w hw 51 rfl) (notFace_of_selects (args := #[]) (mvT hZ (own_w hw 53 rfl))) (own_w hw 53 rfl) (own_w hw 52 rfl) (own_w hw 3 rfl) (own_w hw 54 rfl) (by decide) (by rw [hml]; rfl) b26 [] [] pd_1 rfl at_202 rfl rfl E_b26_158 rfl rfl rfl (by decide) (by decide) (by decide) (by decide) ?_
    rintro _ T164 L164 X164 ⟨rfl, N164, e164⟩
    have N164 := Fr.app N158 N164
    show Go p e below _ (T164.setTop (mkF m 205 _ [(.long y15)]))
    refine own_lstore 207 #[oJ y0, oS, oJ y2, oS, oJ y4, oS, oJ y6, oS, oI x8, oI x9, oI x10, oI x11, oI x12, oJ y13, oS, oJ y15, oS, oJ y17, oS, oJ y19, oS, oJ y21, oS, oJ y23, oS, oA b26, oJ y15, oS, oJ y15, oS, oU, oU, oU, oU] X164 hx hby at_205 rfl rfl ?_
    refine own_lload 209 X164 hx hby at_207 rfl rfl ?_
    refine own_lload 211 X164 hx hby at_209 rfl rfl ?_
    refine own_lcmp 212 (XT.cmpL y15 y15) X164 hx hby at_211 rfl rfl ?_
    refine own_ifY 217 X164 hx hby at_212 (by decide) (by decide) (own_teqL rfl).1 ?_
    refine own_lload 219 X164 hx hby at_217 rfl rfl ?_
    refine own_lstore 221 #[oJ y0, oS, oJ y2, oS, oJ y4, oS, oJ y6, oS, oI x8, oI x9, oI x10, oI x11, oI x12, oJ y13, oS, oJ y15, oS, oJ y17, oS, oJ y19, oS, oJ y21, oS, oJ y23, oS, oA b26, oJ y15, oS, oJ y15, oS, oJ y15, oS, oU, oU] X164 hx hby at_219 rfl rfl ?_
    refine own_iload 223 X164 hx hby at_221 rfl rfl ?_
    by_cases hc165 : x11 = (0 : Int32)
    · refine own_ifY 251 X164 hx hby at_223 (by decide) (by decide) ((if0 _ _).trans (teq hc165).1) ?_
      refine own_iload 253 X164 hx hby at_251 rfl rfl ?_
      by_cases hc166 : x12 = (0 : Int32)
      · refine own_ifY 270 X164 hx hby at_253 (by decide) (by decide) ((if0 _ _).trans (teq hc166).1) ?_
        refine own_aload 272 X164 hx hby at_270 rfl rfl rfl ?_
        refine own_virt (W := 0) 275 (rm8_18 l Z a0 hw [] w_NONE k_NONE W b26 b99_0 k99_0 b99_1 k99_1 b99_2 k99_2 y13 y15 ((0 : Int64) + y19) (((0 : Int64) + y19) + y21) T158.heap n0 O158 E_b26_158 F_b26_droppedTotal_158 F_b26_end_158 F_b26_firsts_158 F_b26_head_158 F_b26_lasts_158 F_b26_totals_158 n_b26 V_b99_0_158 n_b99_0 V_b99_1_158 n_b99_1 V_b99_2_158 n_b99_2 ne_b26_b99_0 ne_b26_b99_1 ne_b26_b99_2 ne_b99_0_b99_1 ne_b99_0_b99_2 ne_b99_1_b99_2) X164 hx hby hZ hown (own_w hw 50 rfl) (own_w hw 51 rfl) (notFace_of_selects (args := #[]) (mvT hZ (own_w hw 53 rfl))) (own_w hw 53 rfl) (own_w hw 52 rfl) (own_w hw 3 rfl) (own_w hw 54 rfl) (by decide) (by rw [hml]; rfl) b26 [] [] pd_1 rfl at_272 rfl e164 E_b26_158 rfl rfl rfl (by decide) (by decide) (by decide) (by decide) ?_
        rintro _ T167 L167 X167 ⟨rfl, N167, e167⟩
        have N167 := Fr.app N164 N167
        show Go p e below _ (T167.setTop (mkF m 275 _ [(.long y15)]))
        refine own_lstore 277 #[oJ y0, oS, oJ y2, oS, oJ y4, oS, oJ y6, oS, oI x8, oI x9, oI x10, oI x11, oI x12, oJ y13, oS, oJ y15, oS, oJ y17, oS, oJ y19, oS, oJ y21, oS, oJ y23, oS, oA b26, oJ y15, oS, oJ y15, oS, oJ y15, oS, oJ y15, oS] X167 hx hby at_275 rfl rfl ?_
        refine own_lload 279 X167 hx hby at_277 rfl rfl ?_
        refine own_lload 281 X167 hx hby at_279 rfl rfl ?_
        refine own_lcmp 282 (XT.cmpL y15 y15) X167 hx hby at_281 rfl rfl ?_
        refine own_ifN 285 X167 hx hby at_282 rfl (own_teqL rfl).2 ?_
        refine own_iconst 286 (1 : Int32) X167 hx hby at_285 rfl (by decide) ?_
        refine own_goto 290 X167 hx hby at_286 (by decide) (by decide) ?_
        exact own_ret (Q := own_Q1 n0) X167 hx hby hret hlk at_290 rfl (Or.inl ⟨rfl, by simp, _, rfl⟩) (by decide) (by decide) ⟨rfl, N167⟩
      refine own_ifN 256 X164 hx hby at_253 rfl ((if0 _ _).trans (feq hc166).1) ?_
      refine own_lload 258 X164 hx hby at_256 rfl rfl ?_
      refine own_ldc2 261 X164 hx hby hZ hown (own_w hw 60 rfl) at_258 rfl ?_
      refine own_lcmp 262 (XT.cmpL y15 (-1 : Int64)) X164 hx hby at_261 rfl rfl ?_
      refine own_ifN 265 X164 hx hby at_262 rfl (own_feqL (by have : -2 ^ 63 ≤ (y15).toInt ∧ (y15).toInt < 2 ^ 63 := own_rngJ y15; have : ((-1 : Int64)).toInt = -1 := rfl; have : -2 ^ 63 ≤ (y13).toInt ∧ (y13).toInt < 2 ^ 63 := own_rngJ y13; have : ((0 : Int64)).toInt = 0 := rfl; have : ¬ ((y13).toInt < ((0 : Int64)).toInt) := fun q => hq2 (Int64.lt_iff_toInt_lt.mpr q); have : (y13).toInt < (y15).toInt := Int64.lt_iff_toInt_lt.mp hq3; exact fun q => absurd (congrArg Int64.toInt q) (by omega))).1 ?_
      refine own_aload 267 X164 hx hby at_265 rfl rfl rfl ?_
      by_cases hc196 : (((2 : Int64) * (((((0 : Int64) + y19) + y21) - (((0 : Int64) + y19) + y21)) / (100 : Int64))) + (2 : Int64)) < ((((0 : Int64) + y19) + y21) - (0 : Int64))
      · refine own_virt (W := 0) 270 (rm10_21 l Z a0 hw [] w_NONE k_NONE W b26 b99_0 k99_0 b99_1 k99_1 b99_2 k99_2 y13 y15 ((0 : Int64) + y19) (((0 : Int64) + y19) + y21) T158.heap n0 O158 E_b26_158 F_b26_droppedTotal_158 F_b26_end_158 F_b26_firsts_158 F_b26_head_158 F_b26_lasts_158 F_b26_totals_158 n_b26 V_b99_0_158 n_b99_0 V_b99_1_158 n_b99_1 V_b99_2_158 n_b99_2 ne_b26_b99_0 ne_b26_b99_1 ne_b26_b99_2 ne_b99_0_b99_1 ne_b99_0_b99_2 ne_b99_1_b99_2 hc196) X164 hx hby hZ hown (own_w hw 61 rfl) (own_w hw 62 rfl) (notFace_of_selects (args := #[]) (mvT hZ (own_w hw 64 rfl))) (own_w hw 64 rfl) (own_w hw 63 rfl) (own_w hw 3 rfl) (own_w hw 65 rfl) (by decide) (by rw [hml]; rfl) b26 [] [] pd_0 rfl at_267 rfl e164 E_b26_158 rfl rfl rfl (by decide) (by decide) (by decide) (by decide) ?_
        rintro _ T197 L197 X197 ⟨rfl, N197, Kc197, E_b26_197, F_b26_droppedTotal_197, F_b26_end_197, F_b26_firsts_197, F_b26_head_197, F_b26_lasts_197, F_b26_totals_197, V_b99_0_197, V_b99_1_197, V_b99_2_197⟩
        have N197 := Fr.app N164 N197
        have O197 := O158.keep Kc197 (allS n_b99_0 (allS n_b99_1 (allS n_b99_2 (allS n_b26 all0))))
        show Go p e below _ (T197.setTop (mkF m 270 _ []))
        refine own_aload 272 X197 hx hby at_270 rfl rfl rfl ?_
        refine own_virt (W := 0) 275 (rm8_18 l Z a0 hw [] w_NONE k_NONE W b26 b99_0 k99_0 b99_1 k99_1 b99_2 k99_2 y13 y15 ((0 : Int64) + y19) (((0 : Int64) + y19) + y21) T197.heap n0 O197 E_b26_197 F_b26_droppedTotal_197 F_b26_end_197 F_b26_firsts_197 F_b26_head_197 F_b26_lasts_197 F_b26_totals_197 n_b26 V_b99_0_197 n_b99_0 V_b99_1_197 n_b99_1 V_b99_2_197 n_b99_2 ne_b26_b99_0 ne_b26_b99_1 ne_b26_b99_2 ne_b99_0_b99_1 ne_b99_0_b99_2 ne_b99_1_b99_2) X197 hx hby hZ hown (own_w hw 50 rfl) (own_w hw 51 rfl) (notFace_of_selects (args := #[]) (mvT hZ (own_w hw 53 rfl))) (own_w hw 53 rfl) (own_w hw 52 rfl) (own_w hw 3 rfl) (own_w hw 54 rfl) (by decide) (by rw [hml]; rfl) b26 [] [] pd_1 rfl at_272 rfl rfl E_b26_197 rfl rfl rfl (by decide) (by decide) (by decide) (by decide) ?_
        rintro _ T198 L198 X198 ⟨rfl, N198, e198⟩
        have N198 := Fr.app N197 N198
        show Go p e below _ (T198.setTop (mkF m 275 _ [(.long y15)]))
        refine own_lstore 277 #[oJ y0, oS, oJ y2, oS, oJ y4, oS, oJ y6, oS, oI x8, oI x9, oI x10, oI x11, oI x12, oJ y13, oS, oJ y15, oS, oJ y17, oS, oJ y19, oS, oJ y21, oS, oJ y23, oS, oA b26, oJ y15, oS, oJ y15, oS, oJ y15, oS, oJ y15, oS] X198 hx hby at_275 rfl rfl ?_
        refine own_lload 279 X198 hx hby at_277 rfl rfl ?_
        refine own_lload 281 X198 hx hby at_279 rfl rfl ?_
        refine own_lcmp 282 (XT.cmpL y15 y15) X198 hx hby at_281 rfl rfl ?_
        refine own_ifN 285 X198 hx hby at_282 rfl (own_teqL rfl).2 ?_
        refine own_iconst 286 (1 : Int32) X198 hx hby at_285 rfl (by decide) ?_
        refine own_goto 290 X198 hx hby at_286 (by decide) (by decide) ?_
        exact own_ret (Q := own_Q1 n0) X198 hx hby hret hlk at_290 rfl (Or.inl ⟨rfl, by simp, _, rfl⟩) (by decide) (by decide) ⟨rfl, N198⟩
      refine own_virt (W := 0) 270 (rm10_22 l Z a0 hw [] w_NONE k_NONE W b26 b99_0 k99_0 b99_1 k99_1 b99_2 k99_2 y13 y15 ((0 : Int64) + y19) (((0 : Int64) + y19) + y21) T158.heap n0 O158 E_b26_158 F_b26_droppedTotal_158 F_b26_end_158 F_b26_firsts_158 F_b26_head_158 F_b26_lasts_158 F_b26_totals_158 n_b26 V_b99_0_158 n_b99_0 V_b99_1_158 n_b99_1 V_b99_2_158 n_b99_2 ne_b26_b99_0 ne_b26_b99_1 ne_b26_b99_2 ne_b99_0_b99_1 ne_b99_0_b99_2 ne_b99_1_b99_2 hc196) X164 hx hby hZ hown (own_w hw 61 rfl) (own_w hw 62 rfl) (notFace_of_selects (args := #[]) (mvT hZ (own_w hw 64 rfl))) (own_w hw 64 rfl) (own_w hw 63 rfl) (own_w hw 3 rfl) (own_w hw 65 rfl) (by decide) (by rw [hml]; rfl) b26 [] [] pd_0 rfl at_267 rfl e164 E_b26_158 rfl rfl rfl (by decide) (by decide) (by decide) (by decide) ?_
      rintro _ T199 L199 X199 ⟨rfl, N199, Kc199, E_b26_199, F_b26_droppedTotal_199, F_b26_end_199, F_b26_firsts_199, F_b26_head_199, F_b26_lasts_199, F_b26_totals_199, V_b99_0_199, V_b99_1_199, V_b99_2_199⟩
      have N199 := Fr.app N164 N199
      have O199 := O158.keep Kc199 (allS n_b99_0 (allS n_b26 all0))
      show Go p e below _ (T199.setTop (mkF m 270 _ []))
      refine own_aload 272 X199 hx hby at_270 rfl rfl rfl ?_
      refine own_virt (W := 0) 275 (rm8_23 l Z a0 hw [] w_NONE k_NONE W b26 b99_0 k99_0 b99_1 k99_1 b99_2 k99_2 y13 y15 ((0 : Int64) + y19) (((0 : Int64) + y19) + y21) T199.heap n0 O199 E_b26_199 F_b26_droppedTotal_199 F_b26_end_199 F_b26_firsts_199 F_b26_head_199 F_b26_lasts_199 F_b26_totals_199 n_b26 V_b99_0_199 n_b99_0 V_b99_1_199 n_b99_1 V_b99_2_199 n_b99_2 ne_b26_b99_0 ne_b26_b99_1 ne_b26_b99_2 ne_b99_0_b99_1 ne_b99_0_b99_2 ne_b99_1_b99_2) X199 hx hby hZ hown (own_w hw 50 rfl) (own_w hw 51 rfl) (notFace_of_selects (args := #[]) (mvT hZ (own_w hw 53 rfl))) (own_w hw 53 rfl) (own_w hw 52 rfl) (own_w hw 3 rfl) (own_w hw 54 rfl) (by decide) (by rw [hml]; rfl) b26 [] [] pd_1 rfl at_272 rfl rfl E_b26_199 rfl rfl rfl (by decide) (by decide) (by decide) (by decide) ?_
      rintro _ T204 L204 X204 ⟨rfl, N204, e204⟩
      have N204 := Fr.app N199 N204
      show Go p e below _ (T204.setTop (mkF m 275 _ [(.long y15)]))
      refine own_lstore 277 #[oJ y0, oS, oJ y2, oS, oJ y4, oS, oJ y6, oS, oI x8, oI x9, oI x10, oI x11, oI x12, oJ y13, oS, oJ y15, oS, oJ y17, oS, oJ y19, oS, oJ y21, oS, oJ y23, oS, oA b26, oJ y15, oS, oJ y15, oS, oJ y15, oS, oJ y15, oS] X204 hx hby at_275 rfl rfl ?_
      refine own_lload 279 X204 hx hby at_277 rfl rfl ?_
      refine own_lload 281 X204 hx hby at_279 rfl rfl ?_
      refine own_lcmp 282 (XT.cmpL y15 y15) X204 hx hby at_281 rfl rfl ?_
      refine own_ifN 285 X204 hx hby at_282 rfl (own_teqL rfl).2 ?_
      refine own_iconst 286 (1 : Int32) X204 hx hby at_285 rfl (by decide) ?_
      refine own_goto 290 X204 hx hby at_286 (by decide) (by decide) ?_
      exact own_ret (Q := own_Q1 n0) X204 hx hby hret hlk at_290 rfl (Or.inl ⟨rfl, by simp, _, rfl⟩) (by decide) (by decide) ⟨rfl, N204⟩
    refine own_ifN 226 X164 hx hby at_223 rfl ((if0 _ _).trans (feq hc165).1) ?_
    refine own_aload 228 X164 hx hby at_226 rfl rfl rfl ?_
    refine own_lload 230 X164 hx hby at_228 rfl rfl ?_
    by_cases hc227 : y6 < y13
    · refine own_virt (W := 0) 233 (rm9_24 l Z a0 hw [] w_NONE k_NONE W b26 b99_0 k99_0 b99_1 k99_1 b99_2 k99_2 y6 y13 y15 ((0 : Int64) + y19) (((0 : Int64) + y19) + y21) T158.heap n0 O158 E_b26_158 F_b26_droppedTotal_158 F_b26_end_158 F_b26_firsts_158 F_b26_head_158 F_b26_lasts_158 F_b26_totals_158 n_b26 V_b99_0_158 n_b99_0 V_b99_1_158 n_b99_1 V_b99_2_158 n_b99_2 ne_b26_b99_0 ne_b26_b99_1 ne_b26_b99_2 ne_b99_0_b99_1 ne_b99_0_b99_2 ne_b99_1_b99_2 hc227) X164 hx hby hZ hown (own_w hw 55 rfl) (own_w hw 56 rfl) (notFace_of_selects (args := #[]) (mvT hZ (own_w hw 58 rfl))) (own_w hw 58 rfl) (own_w hw 57 rfl) (own_w hw 3 rfl) (own_w hw 59 rfl) (by decide) (by rw [hml]; rfl) b26 [(.long y6)] [] pd_2 rfl at_230 rfl e164 E_b26_158 rfl rfl rfl (by decide) (by decide) (by decide) (by decide) ?_
      rintro _ T228 L228 X228 ⟨rfl, N228, e228⟩
      have N228 := Fr.app N164 N228
      show Go p e below _ (T228.setTop (mkF m 233 _ []))
      refine own_iload 235 X228 hx hby at_233 rfl rfl ?_
      refine own_ifN 238 X228 hx hby at_235 rfl ((if0 _ _).trans (tlt (by have : ((0 : Int32)).toInt = 0 := rfl; have : 2 ≤ (x10).toInt ∧ (x10).toInt ≤ 3 := own_bdI hc100 hq1; exact Int32.lt_iff_toInt_lt.mpr (by omega))).2.2.2) ?_
      refine own_lload 240 X228 hx hby at_238 rfl rfl ?_
      refine own_lload 242 X228 hx hby at_240 rfl rfl ?_
      refine own_lcmp 243 (XT.cmpL y15 y6) X228 hx hby at_242 rfl rfl ?_
      refine own_ifY 251 X228 hx hby at_243 (by decide) (by decide) (own_tltL (by have : -2 ^ 63 ≤ (y6).toInt ∧ (y6).toInt < 2 ^ 63 := own_rngJ y6; have : -2 ^ 63 ≤ (y15).toInt ∧ (y15).toInt < 2 ^ 63 := own_rngJ y15; have : -2 ^ 63 ≤ (y13).toInt ∧ (y13).toInt < 2 ^ 63 := own_rngJ y13; have : (y13).toInt < (y15).toInt := Int64.lt_iff_toInt_lt.mp hq3; have : (y6).toInt < (y13).toInt := Int64.lt_iff_toInt_lt.mp hc227; exact Int64.lt_iff_toInt_lt.mpr (by omega))).2.2.1 ?_
      refine own_iload 253 X228 hx hby at_251 rfl rfl ?_
      by_cases hc229 : x12 = (0 : Int32)
      · refine own_ifY 270 X228 hx hby at_253 (by decide) (by decide) ((if0 _ _).trans (teq hc229).1) ?_
        refine own_aload 272 X228 hx hby at_270 rfl rfl rfl ?_
        refine own_virt (W := 0) 275 (rm8_18 l Z a0 hw [] w_NONE k_NONE W b26 b99_0 k99_0 b99_1 k99_1 b99_2 k99_2 y13 y15 ((0 : Int64) + y19) (((0 : Int64) + y19) + y21) T158.heap n0 O158 E_b26_158 F_b26_droppedTotal_158 F_b26_end_158 F_b26_firsts_158 F_b26_head_158 F_b26_lasts_158 F_b26_totals_158 n_b26 V_b99_0_158 n_b99_0 V_b99_1_158 n_b99_1 V_b99_2_158 n_b99_2 ne_b26_b99_0 ne_b26_b99_1 ne_b26_b99_2 ne_b99_0_b99_1 ne_b99_0_b99_2 ne_b99_1_b99_2) X228 hx hby hZ hown (own_w hw 50 rfl) (own_w hw 51 rfl) (notFace_of_selects (args := #[]) (mvT hZ (own_w hw 53 rfl))) (own_w hw 53 rfl) (own_w hw 52 rfl) (own_w hw 3 rfl) (own_w hw 54 rfl) (by decide) (by rw [hml]; rfl) b26 [] [] pd_1 rfl at_272 rfl e228 E_b26_158 rfl rfl rfl (by decide) (by decide) (by decide) (by decide) ?_
        rintro _ T230 L230 X230 ⟨rfl, N230, e230⟩
        have N230 := Fr.app N228 N230
        show Go p e below _ (T230.setTop (mkF m 275 _ [(.long y15)]))
        refine own_lstore 277 #[oJ y0, oS, oJ y2, oS, oJ y4, oS, oJ y6, oS, oI x8, oI x9, oI x10, oI x11, oI x12, oJ y13, oS, oJ y15, oS, oJ y17, oS, oJ y19, oS, oJ y21, oS, oJ y23, oS, oA b26, oJ y15, oS, oJ y15, oS, oJ y15, oS, oJ y15, oS] X230 hx hby at_275 rfl rfl ?_
        refine own_lload 279 X230 hx hby at_277 rfl rfl ?_
        refine own_lload 281 X230 hx hby at_279 rfl rfl ?_
        refine own_lcmp 282 (XT.cmpL y15 y15) X230 hx hby at_281 rfl rfl ?_
        refine own_ifN 285 X230 hx hby at_282 rfl (own_teqL rfl).2 ?_
        refine own_iconst 286 (1 : Int32) X230 hx hby at_285 rfl (by decide) ?_
        refine own_goto 290 X230 hx hby at_286 (by decide) (by decide) ?_
        exact own_ret (Q := own_Q1 n0) X230 hx hby hret hlk at_290 rfl (Or.inl ⟨rfl, by simp, _, rfl⟩) (by decide) (by decide) ⟨rfl, N230⟩
      refine own_ifN 256 X228 hx hby at_253 rfl ((if0 _ _).trans (feq hc229).1) ?_
      refine own_lload 258 X228 hx hby at_256 rfl rfl ?_
      refine own_ldc2 261 X228 hx hby hZ hown (own_w hw 60 rfl) at_258 rfl ?_
      refine own_lcmp 262 (XT.cmpL y15 (-1 : Int64)) X228 hx hby at_261 rfl rfl ?_
      refine own_ifN 265 X228 hx hby at_262 rfl (own_feqL (by have : -2 ^ 63 ≤ (y15).toInt ∧ (y15).toInt < 2 ^ 63 := own_rngJ y15; have : ((-1 : Int64)).toInt = -1 := rfl; have : -2 ^ 63 ≤ (y13).toInt ∧ (y13).toInt < 2 ^ 63 := own_rngJ y13; have : ((0 : Int64)).toInt = 0 := rfl; have : ¬ ((y13).toInt < ((0 : Int64)).toInt) := fun q => hq2 (Int64.lt_iff_toInt_lt.mpr q); have : (y13).toInt < (y15).toInt := Int64.lt_iff_toInt_lt.mp hq3; exact fun q => absurd (congrArg Int64.toInt q) (by omega))).1 ?_
      refine own_aload 267 X228 hx hby at_265 rfl rfl rfl ?_
      by_cases hc231 : (((2 : Int64) * (((((0 : Int64) + y19) + y21) - (((0 : Int64) + y19) + y21)) / (100 : Int64))) + (2 : Int64)) < ((((0 : Int64) + y19) + y21) - (0 : Int64))
      · refine own_virt (W := 0) 270 (rm10_21 l Z a0 hw [] w_NONE k_NONE W b26 b99_0 k99_0 b99_1 k99_1 b99_2 k99_2 y13 y15 ((0 : Int64) + y19) (((0 : Int64) + y19) + y21) T158.heap n0 O158 E_b26_158 F_b26_droppedTotal_158 F_b26_end_158 F_b26_firsts_158 F_b26_head_158 F_b26_lasts_158 F_b26_totals_158 n_b26 V_b99_0_158 n_b99_0 V_b99_1_158 n_b99_1 V_b99_2_158 n_b99_2 ne_b26_b99_0 ne_b26_b99_1 ne_b26_b99_2 ne_b99_0_b99_1 ne_b99_0_b99_2 ne_b99_1_b99_2 hc231) X228 hx hby hZ hown (own_w hw 61 rfl) (own_w hw 62 rfl) (notFace_of_selects (args := #[]) (mvT hZ (own_w hw 64 rfl))) (own_w hw 64 rfl) (own_w hw 63 rfl) (own_w hw 3 rfl) (own_w hw 65 rfl) (by decide) (by rw [hml]; rfl) b26 [] [] pd_0 rfl at_267 rfl e228 E_b26_158 rfl rfl rfl (by decide) (by decide) (by decide) (by decide) ?_
        rintro _ T232 L232 X232 ⟨rfl, N232, Kc232, E_b26_232, F_b26_droppedTotal_232, F_b26_end_232, F_b26_firsts_232, F_b26_head_232, F_b26_lasts_232, F_b26_totals_232, V_b99_0_232, V_b99_1_232, V_b99_2_232⟩
        have N232 := Fr.app N228 N232
        have O232 := O158.keep Kc232 (allS n_b99_0 (allS n_b99_1 (allS n_b99_2 (allS n_b26 all0))))
        show Go p e below _ (T232.setTop (mkF m 270 _ []))
        refine own_aload 272 X232 hx hby at_270 rfl rfl rfl ?_
        refine own_virt (W := 0) 275 (rm8_18 l Z a0 hw [] w_NONE k_NONE W b26 b99_0 k99_0 b99_1 k99_1 b99_2 k99_2 y13 y15 ((0 : Int64) + y19) (((0 : Int64) + y19) + y21) T232.heap n0 O232 E_b26_232 F_b26_droppedTotal_232 F_b26_end_232 F_b26_firsts_232 F_b26_head_232 F_b26_lasts_232 F_b26_totals_232 n_b26 V_b99_0_232 n_b99_0 V_b99_1_232 n_b99_1 V_b99_2_232 n_b99_2 ne_b26_b99_0 ne_b26_b99_1 ne_b26_b99_2 ne_b99_0_b99_1 ne_b99_0_b99_2 ne_b99_1_b99_2) X232 hx hby hZ hown (own_w hw 50 rfl) (own_w hw 51 rfl) (notFace_of_selects (args := #[]) (mvT hZ (own_w hw 53 rfl))) (own_w hw 53 rfl) (own_w hw 52 rfl) (own_w hw 3 rfl) (own_w hw 54 rfl) (by decide) (by rw [hml]; rfl) b26 [] [] pd_1 rfl at_272 rfl rfl E_b26_232 rfl rfl rfl (by decide) (by decide) (by decide) (by decide) ?_
        rintro _ T233 L233 X233 ⟨rfl, N233, e233⟩
        have N233 := Fr.app N232 N233
        show Go p e below _ (T233.setTop (mkF m 275 _ [(.long y15)]))
        refine own_lstore 277 #[oJ y0, oS, oJ y2, oS, oJ y4, oS, oJ y6, oS, oI x8, oI x9, oI x10, oI x11, oI x12, oJ y13, oS, oJ y15, oS, oJ y17, oS, oJ y19, oS, oJ y21, oS, oJ y23, oS, oA b26, oJ y15, oS, oJ y15, oS, oJ y15, oS, oJ y15, oS] X233 hx hby at_275 rfl rfl ?_
        refine own_lload 279 X233 hx hby at_277 rfl rfl ?_
        refine own_lload 281 X233 hx hby at_279 rfl rfl ?_
        refine own_lcmp 282 (XT.cmpL y15 y15) X233 hx hby at_281 rfl rfl ?_
        refine own_ifN 285 X233 hx hby at_282 rfl (own_teqL rfl).2 ?_
        refine own_iconst 286 (1 : Int32) X233 hx hby at_285 rfl (by decide) ?_
        refine own_goto 290 X233 hx hby at_286 (by decide) (by decide) ?_
        exact own_ret (Q := own_Q1 n0) X233 hx hby hret hlk at_290 rfl (Or.inl ⟨rfl, by simp, _, rfl⟩) (by decide) (by decide) ⟨rfl, N233⟩
      refine own_virt (W := 0) 270 (rm10_22 l Z a0 hw [] w_NONE k_NONE W b26 b99_0 k99_0 b99_1 k99_1 b99_2 k99_2 y13 y15 ((0 : Int64) + y19) (((0 : Int64) + y19) + y21) T158.heap n0 O158 E_b26_158 F_b26_droppedTotal_158 F_b26_end_158 F_b26_firsts_158 F_b26_head_158 F_b26_lasts_158 F_b26_totals_158 n_b26 V_b99_0_158 n_b99_0 V_b99_1_158 n_b99_1 V_b99_2_158 n_b99_2 ne_b26_b99_0 ne_b26_b99_1 ne_b26_b99_2 ne_b99_0_b99_1 ne_b99_0_b99_2 ne_b99_1_b99_2 hc231) X228 hx hby hZ hown (own_w hw 61 rfl) (own_w hw 62 rfl) (notFace_of_selects (args := #[]) (mvT hZ (own_w hw 64 rfl))) (own_w hw 64 rfl) (own_w hw 63 rfl) (own_w hw 3 rfl) (own_w hw 65 rfl) (by decide) (by rw [hml]; rfl) b26 [] [] pd_0 rfl at_267 rfl e228 E_b26_158 rfl rfl rfl (by decide) (by decide) (by decide) (by decide) ?_
      rintro _ T234 L234 X234 ⟨rfl, N234, Kc234, E_b26_234, F_b26_droppedTotal_234, F_b26_end_234, F_b26_firsts_234, F_b26_head_234, F_b26_lasts_234, F_b26_totals_234, V_b99_0_234, V_b99_1_234, V_b99_2_234⟩
      have N234 := Fr.app N228 N234
      have O234 := O158.keep Kc234 (allS n_b99_0 (allS n_b26 all0))
      show Go p e below _ (T234.setTop (mkF m 270 _ []))
      refine own_aload 272 X234 hx hby at_270 rfl rfl rfl ?_
      refine own_virt (W := 0) 275 (rm8_23 l Z a0 hw [] w_NONE k_NONE W b26 b99_0 k99_0 b99_1 k99_1 b99_2 k99_2 y13 y15 ((0 : Int64) + y19) (((0 : Int64) + y19) + y21) T234.heap n0 O234 E_b26_234 F_b26_droppedTotal_234 F_b26_end_234 F_b26_firsts_234 F_b26_head_234 F_b26_lasts_234 F_b26_totals_234 n_b26 V_b99_0_234 n_b99_0 V_b99_1_234 n_b99_1 V_b99_2_234 n_b99_2 ne_b26_b99_0 ne_b26_b99_1 ne_b26_b99_2 ne_b99_0_b99_1 ne_b99_0_b99_2 ne_b99_1_b99_2) X234 hx hby hZ hown (own_w hw 50 rfl) (own_w hw 51 rfl) (notFace_of_selects (args := #[]) (mvT hZ (own_w hw 53 rfl))) (own_w hw 53 rfl) (own_w hw 52 rfl) (own_w hw 3 rfl) (own_w hw 54 rfl) (by decide) (by rw [hml]; rfl) b26 [] [] pd_1 rfl at_272 rfl rfl E_b26_234 rfl rfl rfl (by decide) (by decide) (by decide) (by decide) ?_
      rintro _ T235 L235 X235 ⟨rfl, N235, e235⟩
      have N235 := Fr.app N234 N235
      show Go p e below _ (T235.setTop (mkF m 275 _ [(.long y15)]))
      refine own_lstore 277 #[oJ y0, oS, oJ y2, oS, oJ y4, oS, oJ y6, oS, oI x8, oI x9, oI x10, oI x11, oI x12, oJ y13, oS, oJ y15, oS, oJ y17, oS, oJ y19, oS, oJ y21, oS, oJ y23, oS, oA b26, oJ y15, oS, oJ y15, oS, oJ y15, oS, oJ y15, oS] X235 hx hby at_275 rfl rfl ?_
      refine own_lload 279 X235 hx hby at_277 rfl rfl ?_
      refine own_lload 281 X235 hx hby at_279 rfl rfl ?_
      refine own_lcmp 282 (XT.cmpL y15 y15) X235 hx hby at_281 rfl rfl ?_
      refine own_ifN 285 X235 hx hby at_282 rfl (own_teqL rfl).2 ?_
      refine own_iconst 286 (1 : Int32) X235 hx hby at_285 rfl (by decide) ?_
      refine own_goto 290 X235 hx hby at_286 (by decide) (by decide) ?_
      exact own_ret (Q := own_Q1 n0) X235 hx hby hret hlk at_290 rfl (Or.inl ⟨rfl, by simp, _, rfl⟩) (by decide) (by decide) ⟨rfl, N235⟩
    by_cases hc236 : y6 < y15
    · refine own_virt (W := 0) 233 (rm9_25 l Z a0 hw [] w_NONE k_NONE W b26 b99_0 k99_0 b99_1 k99_1 b99_2 k99_2 y6 y13 y15 ((0 : Int64) + y19) (((0 : Int64) + y19) + y21) T158.heap n0 O158 E_b26_158 F_b26_droppedTotal_158 F_b26_end_158 F_b26_firsts_158 F_b26_head_158 F_b26_lasts_158 F_b26_totals_158 n_b26 V_b99_0_158 n_b99_0 V_b99_1_158 n_b99_1 V_b99_2_158 n_b99_2 ne_b26_b99_0 ne_b26_b99_1 ne_b26_b99_2 ne_b99_0_b99_1 ne_b99_0_b99_2 ne_b99_1_b99_2 hc227 hc236) X164 hx hby hZ hown (own_w hw 55 rfl) (own_w hw 56 rfl) (notFace_of_selects (args := #[]) (mvT hZ (own_w hw 58 rfl))) (own_w hw 58 rfl) (own_w hw 57 rfl) (own_w hw 3 rfl) (own_w hw 59 rfl) (by decide) (by rw [hml]; rfl) b26 [(.long y6)] [] pd_2 rfl at_230 rfl e164 E_b26_158 rfl rfl rfl (by decide) (by decide) (by decide) (by decide) ?_
      rintro _ T237 L237 X237 ⟨rfl, N237, Kc237, E_b26_237, F_b26_droppedTotal_237, F_b26_end_237, F_b26_firsts_237, F_b26_head_237, F_b26_lasts_237, F_b26_totals_237, V_b99_0_237, V_b99_1_237, V_b99_2_237⟩
      have N237 := Fr.app N164 N237
      have O237 := O158.keep Kc237 (allS n_b26 all0)
      show Go p e below _ (T237.setTop (mkF m 233 _ []))
      refine own_iload 235 X237 hx hby at_233 rfl rfl ?_
      refine own_ifN 238 X237 hx hby at_235 rfl ((if0 _ _).trans (tlt (by have : ((0 : Int32)).toInt = 0 := rfl; have : 2 ≤ (x10).toInt ∧ (x10).toInt ≤ 3 := own_bdI hc100 hq1; exact Int32.lt_iff_toInt_lt.mpr (by omega))).2.2.2) ?_
      refine own_lload 240 X237 hx hby at_238 rfl rfl ?_
      refine own_lload 242 X237 hx hby at_240 rfl rfl ?_
      refine own_lcmp 243 (XT.cmpL y15 y6) X237 hx hby at_242 rfl rfl ?_
      refine own_ifY 251 X237 hx hby at_243 (by decide) (by decide) (own_tltL hc236).2.2.1 ?_
      refine own_iload 253 X237 hx hby at_251 rfl rfl ?_
      by_cases hc238 : x12 = (0 : Int32)
      · refine own_ifY 270 X237 hx hby at_253 (by decide) (by decide) ((if0 _ _).trans (teq hc238).1) ?_
        refine own_aload 272 X237 hx hby at_270 rfl rfl rfl ?_
        refine own_virt (W := 0) 275 (rm8_27 l Z a0 hw [] w_NONE k_NONE W b26 b99_0 k99_0 b99_1 k99_1 b99_2 k99_2 ((0 : Int64) + y19) y13 y15 (((0 : Int64) + y19) + y21) T237.heap n0 O237 E_b26_237 F_b26_droppedTotal_237 F_b26_end_237 F_b26_firsts_237 F_b26_head_237 F_b26_lasts_237 F_b26_totals_237 n_b26 V_b99_0_237 n_b99_0 V_b99_1_237 n_b99_1 V_b99_2_237 n_b99_2 ne_b26_b99_0 ne_b26_b99_1 ne_b26_b99_2 ne_b99_0_b99_1 ne_b99_0_b99_2 ne_b99_1_b99_2) X237 hx hby hZ hown (own_w hw 50 rfl) (own_w hw 51 rfl) (notFace_of_selects (args := #[]) (mvT hZ (own_w hw 53 rfl))) (own_w hw 53 rfl) (own_w hw 52 rfl) (own_w hw 3 rfl) (own_w hw 54 rfl) (by decide) (by rw [hml]; rfl) b26 [] [] pd_1 rfl at_272 rfl rfl E_b26_237 rfl rfl rfl (by decide) (by decide) (by decide) (by decide) ?_
        rintro _ T243 L243 X243 ⟨rfl, N243, e243⟩
        have N243 := Fr.app N237 N243
        show Go p e below _ (T243.setTop (mkF m 275 _ [(.long y15)]))
        refine own_lstore 277 #[oJ y0, oS, oJ y2, oS, oJ y4, oS, oJ y6, oS, oI x8, oI x9, oI x10, oI x11, oI x12, oJ y13, oS, oJ y15, oS, oJ y17, oS, oJ y19, oS, oJ y21, oS, oJ y23, oS, oA b26, oJ y15, oS, oJ y15, oS, oJ y15, oS, oJ y15, oS] X243 hx hby at_275 rfl rfl ?_
        refine own_lload 279 X243 hx hby at_277 rfl rfl ?_
        refine own_lload 281 X243 hx hby at_279 rfl rfl ?_
        refine own_lcmp 282 (XT.cmpL y15 y15) X243 hx hby at_281 rfl rfl ?_
        refine own_ifN 285 X243 hx hby at_282 rfl (own_teqL rfl).2 ?_
        refine own_iconst 286 (1 : Int32) X243 hx hby at_285 rfl (by decide) ?_
        refine own_goto 290 X243 hx hby at_286 (by decide) (by decide) ?_
        exact own_ret (Q := own_Q1 n0) X243 hx hby hret hlk at_290 rfl (Or.inl ⟨rfl, by simp, _, rfl⟩) (by decide) (by decide) ⟨rfl, N243⟩
      refine own_ifN 256 X237 hx hby at_253 rfl ((if0 _ _).trans (feq hc238).1) ?_
      refine own_lload 258 X237 hx hby at_256 rfl rfl ?_
      refine own_ldc2 261 X237 hx hby hZ hown (own_w hw 60 rfl) at_258 rfl ?_
      refine own_lcmp 262 (XT.cmpL y15 (-1 : Int64)) X237 hx hby at_261 rfl rfl ?_
      refine own_ifN 265 X237 hx hby at_262 rfl (own_feqL (by have : -2 ^ 63 ≤ (y15).toInt ∧ (y15).toInt < 2 ^ 63 := own_rngJ y15; have : ((-1 : Int64)).toInt = -1 := rfl; have : -2 ^ 63 ≤ (y13).toInt ∧ (y13).toInt < 2 ^ 63 := own_rngJ y13; have : ((0 : Int64)).toInt = 0 := rfl; have : ¬ ((y13).toInt < ((0 : Int64)).toInt) := fun q => hq2 (Int64.lt_iff_toInt_lt.mpr q); have : (y13).toInt < (y15).toInt := Int64.lt_iff_toInt_lt.mp hq3; exact fun q => absurd (congrArg Int64.toInt q) (by omega))).1 ?_
      refine own_aload 267 X237 hx hby at_265 rfl rfl rfl ?_
      refine own_virt (W := 0) 270 (rm10_28 l Z a0 hw [] w_NONE k_NONE W b26 b99_0 k99_0 b99_1 k99_1 b99_2 k99_2 ((0 : Int64) + y19) y13 y15 (((0 : Int64) + y19) + y21) T237.heap n0 O237 E_b26_237 F_b26_droppedTotal_237 F_b26_end_237 F_b26_firsts_237 F_b26_head_237 F_b26_lasts_237 F_b26_totals_237 n_b26 V_b99_0_237 n_b99_0 V_b99_1_237 n_b99_1 V_b99_2_237 n_b99_2 ne_b26_b99_0 ne_b26_b99_1 ne_b26_b99_2 ne_b99_0_b99_1 ne_b99_0_b99_2 ne_b99_1_b99_2) X237 hx hby hZ hown (own_w hw 61 rfl) (own_w hw 62 rfl) (notFace_of_selects (args := #[]) (mvT hZ (own_w hw 64 rfl))) (own_w hw 64 rfl) (own_w hw 63 rfl) (own_w hw 3 rfl) (own_w hw 65 rfl) (by decide) (by rw [hml]; rfl) b26 [] [] pd_0 rfl at_267 rfl rfl E_b26_237 rfl rfl rfl (by decide) (by decide) (by decide) (by decide) ?_
      rintro _ T250 L250 X250 ⟨rfl, N250, Kc250, E_b26_250, F_b26_droppedTotal_250, F_b26_end_250, F_b26_firsts_250, F_b26_head_250, F_b26_lasts_250, F_b26_totals_250, V_b99_0_250, V_b99_1_250, V_b99_2_250⟩
      have N250 := Fr.app N237 N250
      have O250 := O237.keep Kc250 (allS n_b26 all0)
      show Go p e below _ (T250.setTop (mkF m 270 _ []))
      refine own_aload 272 X250 hx hby at_270 rfl rfl rfl ?_
      refine own_virt (W := 0) 275 (rm8_27 l Z a0 hw [] w_NONE k_NONE W b26 b99_0 k99_0 b99_1 k99_1 b99_2 k99_2 ((0 : Int64) + y19) y13 y15 (((0 : Int64) + y19) + y21) T250.heap n0 O250 E_b26_250 F_b26_droppedTotal_250 F_b26_end_250 F_b26_firsts_250 F_b26_head_250 F_b26_lasts_250 F_b26_totals_250 n_b26 V_b99_0_250 n_b99_0 V_b99_1_250 n_b99_1 V_b99_2_250 n_b99_2 ne_b26_b99_0 ne_b26_b99_1 ne_b26_b99_2 ne_b99_0_b99_1 ne_b99_0_b99_2 ne_b99_1_b99_2) X250 hx hby hZ hown (own_w hw 50 rfl) (own_w hw 51 rfl) (notFace_of_selects (args := #[]) (mvT hZ (own_w hw 53 rfl))) (own_w hw 53 rfl) (own_w hw 52 rfl) (own_w hw 3 rfl) (own_w hw 54 rfl) (by decide) (by rw [hml]; rfl) b26 [] [] pd_1 rfl at_272 rfl rfl E_b26_250 rfl rfl rfl (by decide) (by decide) (by decide) (by decide) ?_
      rintro _ T251 L251 X251 ⟨rfl, N251, e251⟩
      have N251 := Fr.app N250 N251
      show Go p e below _ (T251.setTop (mkF m 275 _ [(.long y15)]))
      refine own_lstore 277 #[oJ y0, oS, oJ y2, oS, oJ y4, oS, oJ y6, oS, oI x8, oI x9, oI x10, oI x11, oI x12, oJ y13, oS, oJ y15, oS, oJ y17, oS, oJ y19, oS, oJ y21, oS, oJ y23, oS, oA b26, oJ y15, oS, oJ y15, oS, oJ y15, oS, oJ y15, oS] X251 hx hby at_275 rfl rfl ?_
      refine own_lload 279 X251 hx hby at_277 rfl rfl ?_
      refine own_lload 281 X251 hx hby at_279 rfl rfl ?_
      refine own_lcmp 282 (XT.cmpL y15 y15) X251 hx hby at_281 rfl rfl ?_
      refine own_ifN 285 X251 hx hby at_282 rfl (own_teqL rfl).2 ?_
      refine own_iconst 286 (1 : Int32) X251 hx hby at_285 rfl (by decide) ?_
      refine own_goto 290 X251 hx hby at_286 (by decide) (by decide) ?_
      exact own_ret (Q := own_Q1 n0) X251 hx hby hret hlk at_290 rfl (Or.inl ⟨rfl, by simp, _, rfl⟩) (by decide) (by decide) ⟨rfl, N251⟩
    refine own_virt (W := 0) 233 (rm9_26 l Z a0 hw [] w_NONE k_NONE W b26 b99_0 k99_0 b99_1 k99_1 b99_2 k99_2 y6 y13 y15 ((0 : Int64) + y19) (((0 : Int64) + y19) + y21) T158.heap n0 O158 E_b26_158 F_b26_droppedTotal_158 F_b26_end_158 F_b26_firsts_158 F_b26_head_158 F_b26_lasts_158 F_b26_totals_158 n_b26 V_b99_0_158 n_b99_0 V_b99_1_158 n_b99_1 V_b99_2_158 n_b99_2 ne_b26_b99_0 ne_b26_b99_1 ne_b26_b99_2 ne_b99_0_b99_1 ne_b99_0_b99_2 ne_b99_1_b99_2 hc227 hc236) X164 hx hby hZ hown (own_w hw 55 rfl) (own_w hw 56 rfl) (notFace_of_selects (args := #[]) (mvT hZ (own_w hw 58 rfl))) (own_w hw 58 rfl) (own_w hw 57 rfl) (own_w hw 3 rfl) (own_w hw 59 rfl) (by decide) (by rw [hml]; rfl) b26 [(.long y6)] [] pd_2 rfl at_230 rfl e164 E_b26_158 rfl rfl rfl (by decide) (by decide) (by decide) (by decide) ?_
    rintro _ T252 L252 X252 ⟨rfl, N252, Kc252, E_b26_252, F_b26_droppedTotal_252, F_b26_end_252, F_b26_firsts_252, F_b26_head_252, F_b26_lasts_252, F_b26_totals_252, V_b99_0_252, V_b99_1_252, V_b99_2_252⟩
    have N252 := Fr.app N164 N252
    have O252 := O158.keep Kc252 (allS n_b26 all0)
    show Go p e below _ (T252.setTop (mkF m 233 _ []))
    refine own_iload 235 X252 hx hby at_233 rfl rfl ?_
    refine own_ifN 238 X252 hx hby at_235 rfl ((if0 _ _).trans (tlt (by have : ((0 : Int32)).toInt = 0 := rfl; have : 2 ≤ (x10).toInt ∧ (x10).toInt ≤ 3 := own_bdI hc100 hq1; exact Int32.lt_iff_toInt_lt.mpr (by omega))).2.2.2) ?_
    refine own_lload 240 X252 hx hby at_238 rfl rfl ?_
    refine own_lload 242 X252 hx hby at_240 rfl rfl ?_
    refine own_lcmp 243 (XT.cmpL y15 y6) X252 hx hby at_242 rfl rfl ?_
    refine own_ifN 246 X252 hx hby at_243 rfl (own_fltL hc236).2.2.1 ?_
    refine own_ldc2 249 X252 hx hby hZ hown (own_w hw 60 rfl) at_246 rfl ?_
    refine own_lstore 251 #[oJ y0, oS, oJ y2, oS, oJ y4, oS, oJ y6, oS, oI x8, oI x9, oI x10, oI x11, oI x12, oJ y13, oS, oJ y15, oS, oJ y17, oS, oJ y19, oS, oJ y21, oS, oJ y23, oS, oA b26, oJ y15, oS, oJ y15, oS, oJ (-1 : Int64), oS, oU, oU] X252 hx hby at_249 rfl rfl ?_
    refine own_iload 253 X252 hx hby at_251 rfl rfl ?_
    by_cases hc253 : x12 = (0 : Int32)
    · refine own_ifY 270 X252 hx hby at_253 (by decide) (by decide) ((if0 _ _).trans (teq hc253).1) ?_
      refine own_aload 272 X252 hx hby at_270 rfl rfl rfl ?_
      refine own_virt (W := 0) 275 (rm8_29 l Z a0 hw [] w_NONE k_NONE W b26 b99_0 k99_0 b99_1 k99_1 b99_2 k99_2 (((0 : Int64) + y19) + y21) y13 y15 ((0 : Int64) + y19) T252.heap n0 O252 E_b26_252 F_b26_droppedTotal_252 F_b26_end_252 F_b26_firsts_252 F_b26_head_252 F_b26_lasts_252 F_b26_totals_252 n_b26 V_b99_0_252 n_b99_0 V_b99_1_252 n_b99_1 V_b99_2_252 n_b99_2 ne_b26_b99_0 ne_b26_b99_1 ne_b26_b99_2 ne_b99_0_b99_1 ne_b99_0_b99_2 ne_b99_1_b99_2) X252 hx hby hZ hown (own_w hw 50 rfl) (own_w hw 51 rfl) (notFace_of_selects (args := #[]) (mvT hZ (own_w hw 53 rfl))) (own_w hw 53 rfl) (own_w hw 52 rfl) (own_w hw 3 rfl) (own_w hw 54 rfl) (by decide) (by rw [hml]; rfl) b26 [] [] pd_1 rfl at_272 rfl rfl E_b26_252 rfl rfl rfl (by decide) (by decide) (by decide) (by decide) ?_
      rintro _ T256 L256 X256 ⟨rfl, N256, e256⟩
      have N256 := Fr.app N252 N256
      show Go p e below _ (T256.setTop (mkF m 275 _ [(.long (-1 : Int64))]))
      refine own_lstore 277 #[oJ y0, oS, oJ y2, oS, oJ y4, oS, oJ y6, oS, oI x8, oI x9, oI x10, oI x11, oI x12, oJ y13, oS, oJ y15, oS, oJ y17, oS, oJ y19, oS, oJ y21, oS, oJ y23, oS, oA b26, oJ y15, oS, oJ y15, oS, oJ (-1 : Int64), oS, oJ (-1 : Int64), oS] X256 hx hby at_275 rfl rfl ?_
      refine own_lload 279 X256 hx hby at_277 rfl rfl ?_
      refine own_lload 281 X256 hx hby at_279 rfl rfl ?_
      refine own_lcmp 282 (0 : Int32) X256 hx hby at_281 rfl (by decide) ?_
      refine own_ifN 285 X256 hx hby at_282 rfl (by decide) ?_
      refine own_iconst 286 (1 : Int32) X256 hx hby at_285 rfl (by decide) ?_
      refine own_goto 290 X256 hx hby at_286 (by decide) (by decide) ?_
      exact own_ret (Q := own_Q1 n0) X256 hx hby hret hlk at_290 rfl (Or.inl ⟨rfl, by simp, _, rfl⟩) (by decide) (by decide) ⟨rfl, N256⟩
    refine own_ifN 256 X252 hx hby at_253 rfl ((if0 _ _).trans (feq hc253).1) ?_
    refine own_lload 258 X252 hx hby at_256 rfl rfl ?_
    refine own_ldc2 261 X252 hx hby hZ hown (own_w hw 60 rfl) at_258 rfl ?_
    refine own_lcmp 262 (0 : Int32) X252 hx hby at_261 rfl (by decide) ?_
    refine own_ifY 270 X252 hx hby at_262 (by decide) (by decide) (by decide) ?_
    refine own_aload 272 X252 hx hby at_270 rfl rfl rfl ?_
    refine own_virt (W := 0) 275 (rm8_29 l Z a0 hw [] w_NONE k_NONE W b26 b99_0 k99_0 b99_1 k99_1 b99_2 k99_2 (((0 : Int64) + y19) + y21) y13 y15 ((0 : Int64) + y19) T252.heap n0 O252 E_b26_252 F_b26_droppedTotal_252 F_b26_end_252 F_b26_firsts_252 F_b26_head_252 F_b26_lasts_252 F_b26_totals_252 n_b26 V_b99_0_252 n_b99_0 V_b99_1_252 n_b99_1 V_b99_2_252 n_b99_2 ne_b26_b99_0 ne_b26_b99_1 ne_b26_b99_2 ne_b99_0_b99_1 ne_b99_0_b99_2 ne_b99_1_b99_2) X252 hx hby hZ hown (own_w hw 50 rfl) (own_w hw 51 rfl) (notFace_of_selects (args := #[]) (mvT hZ (own_w hw 53 rfl))) (own_w hw 53 rfl) (own_w hw 52 rfl) (own_w hw 3 rfl) (own_w hw 54 rfl) (by decide) (by rw [hml]; rfl) b26 [] [] pd_1 rfl at_272 rfl rfl E_b26_252 rfl rfl rfl (by decide) (by decide) (by decide) (by decide) ?_
    rintro _ T257 L257 X257 ⟨rfl, N257, e257⟩
    have N257 := Fr.app N252 N257
    show Go p e below _ (T257.setTop (mkF m 275 _ [(.long (-1 : Int64))]))
    refine own_lstore 277 #[oJ y0, oS, oJ y2, oS, oJ y4, oS, oJ y6, oS, oI x8, oI x9, oI x10, oI x11, oI x12, oJ y13, oS, oJ y15, oS, oJ y17, oS, oJ y19, oS, oJ y21, oS, oJ y23, oS, oA b26, oJ y15, oS, oJ y15, oS, oJ (-1 : Int64), oS, oJ (-1 : Int64), oS] X257 hx hby at_275 rfl rfl ?_
    refine own_lload 279 X257 hx hby at_277 rfl rfl ?_
    refine own_lload 281 X257 hx hby at_279 rfl rfl ?_
    refine own_lcmp 282 (0 : Int32) X257 hx hby at_281 rfl (by decide) ?_
    refine own_ifN 285 X257 hx hby at_282 rfl (by decide) ?_
    refine own_iconst 286 (1 : Int32) X257 hx hby at_285 rfl (by decide) ?_
    refine own_goto 290 X257 hx hby at_286 (by decide) (by decide) ?_
    exact own_ret (Q := own_Q1 n0) X257 hx hby hret hlk at_290 rfl (Or.inl ⟨rfl, by simp, _, rfl⟩) (by decide) (by decide) ⟨rfl, N257⟩
  refine own_icN 154 X158 hx hby at_151 rfl (flt hc159).1 ?_
  refine own_aload 156 X158 hx hby at_154 rfl rfl rfl ?_
  refine own_lload 158 X158 hx hby at_156 rfl rfl ?_
  refine own_lload 160 X158 hx hby at_158 rfl rfl ?_
  refine own_virt (W := 0) 163 (rm3_31 l Z a0 hw [] w_NONE k_NONE W b26 b99_0 k99_0 b99_1 k99_1 b99_2 k99_2 y17 y23 y13 y15 ((0 : Int64) + y19) (((0 : Int64) + y19) + y21) T158.heap n0 O158 E_b26_158 F_b26_droppedTotal_158 F_b26_end_158 F_b26_firsts_158 F_b26_head_158 F_b26_lasts_158 F_b26_totals_158 n_b26 V_b99_0_158 n_b99_0 V_b99_1_158 n_b99_1 V_b99_2_158 n_b99_2 ne_b26_b99_0 ne_b26_b99_1 ne_b26_b99_2 ne_b99_0_b99_1 ne_b99_0_b99_2 ne_b99_1_b99_2) X158 hx hby hZ hown (own_w hw 18 rfl) (own_w hw 19 rfl) (notFace_of_selects (args := #[]) (mvT hZ (own_w hw 21 rfl))) (own_w hw 21 rfl) (own_w hw 20 rfl) (own_w hw 3 rfl) (own_w hw 22 rfl) (by decide) (by rw [hml]; rfl) b26 [(.long y17), (.long y23)] [] pd_6 rfl at_160 rfl rfl E_b26_158 rfl rfl rfl (by decide) (by decide) (by decide) (by decide) ?_
  rintro _ T275 L275 X275 ⟨rfl, N275, Kc275, E_b26_275, F_b26_droppedTotal_275, F_b26_end_275, F_b26_firsts_275, F_b26_head_275, F_b26_lasts_275, F_b26_totals_275, V_b99_0_275, V_b99_1_275, V_b99_2_275⟩
  have N275 := Fr.app N158 N275
  have O275 := O158.keep Kc275 (allS n_b99_0 (allS n_b99_1 (allS n_b99_2 (allS n_b26 all0))))
  show Go p e below _ (T275.setTop (mkF m 163 _ []))
  refine own_iload 165 X275 hx hby at_163 rfl rfl ?_
  refine own_ifY 174 X275 hx hby at_165 (by decide) (by decide) ((if0 _ _).trans (feq (by have : 3 ≤ (x10).toInt ∧ (x10).toInt ≤ 3 := own_bdI hc159 hq1; have : ((0 : Int32)).toInt = 0 := rfl; exact fun q => absurd (congrArg Int32.toInt q) (by omega))).2) ?_
  refine own_iload 176 X275 hx hby at_174 rfl rfl ?_
  refine own_iconst 177 (1 : Int32) X275 hx hby at_176 rfl (by decide) ?_
  refine own_icY 185 X275 hx hby at_177 (by decide) (by decide) (feq (by have : 3 ≤ (x10).toInt ∧ (x10).toInt ≤ 3 := own_bdI hc159 hq1; have : ((1 : Int32)).toInt = 1 := rfl; exact fun q => absurd (congrArg Int32.toInt q) (by omega))).2 ?_
  refine own_iload 187 X275 hx hby at_185 rfl rfl ?_
  refine own_iconst 188 (2 : Int32) X275 hx hby at_187 rfl (by decide) ?_
  refine own_icY 196 X275 hx hby at_188 (by decide) (by decide) (feq (by have : 3 ≤ (x10).toInt ∧ (x10).toInt ≤ 3 := own_bdI hc159 hq1; have : ((2 : Int32)).toInt = 2 := rfl; exact fun q => absurd (congrArg Int32.toInt q) (by omega))).2 ?_
  refine own_lload 198 X275 hx hby at_196 rfl rfl ?_
  refine own_lstore 200 #[oJ y0, oS, oJ y2, oS, oJ y4, oS, oJ y6, oS, oI x8, oI x9, oI x10, oI x11, oI x12, oJ y13, oS, oJ y15, oS, oJ y17, oS, oJ y19, oS, oJ y21, oS, oJ y23, oS, oA b26, oJ y17, oS, oU, oU, oU, oU, oU, oU] X275 hx hby at_198 rfl rfl ?_
  refine own_aload 202 X275 hx hby at_200 rfl rfl rfl ?_
  refine own_virt (W := 0) 205 (rm8_32 l Z a0 hw [] w_NONE k_NONE W b26 b99_0 k99_0 b99_1 k99_1 b99_2 k99_2 y13 y15 y17 ((0 : Int64) + y19) (((0 : Int64) + y19) + y21) ((((0 : Int64) + y19) + y21) + y23) T275.heap n0 O275 E_b26_275 F_b26_droppedTotal_275 F_b26_end_275 F_b26_firsts_275 F_b26_head_275 F_b26_lasts_275 F_b26_totals_275 n_b26 V_b99_0_275 n_b99_0 V_b99_1_275 n_b99_1 V_b99_2_275 n_b99_2 ne_b26_b99_0 ne_b26_b99_1 ne_b26_b99_2 ne_b99_0_b99_1 ne_b99_0_b99_2 ne_b99_1_b99_2) X275 hx hby hZ hown (own_w hw 50 rfl) (own_w hw 51 rfl) (notFace_of_selects (args := #[]) (mvT hZ (own_w hw 53 rfl))) (own_w hw 53 rfl) (own_w hw 52 rfl) (own_w hw 3 rfl) (own_w hw 54 rfl) (by decide) (by rw [hml]; rfl) b26 [] [] pd_1 rfl at_202 rfl rfl E_b26_275 rfl rfl rfl (by decide) (by decide) (by decide) (by decide) ?_
  rintro _ T280 L280 X280 ⟨rfl, N280, e280⟩
  have N280 := Fr.app N275 N280
  show Go p e below _ (T280.setTop (mkF m 205 _ [(.long y17)]))
  refine own_lstore 207 #[oJ y0, oS, oJ y2, oS, oJ y4, oS, oJ y6, oS, oI x8, oI x9, oI x10, oI x11, oI x12, oJ y13, oS, oJ y15, oS, oJ y17, oS, oJ y19, oS, oJ y21, oS, oJ y23, oS, oA b26, oJ y17, oS, oJ y17, oS, oU, oU, oU, oU] X280 hx hby at_205 rfl rfl ?_
  refine own_lload 209 X280 hx hby at_207 rfl rfl ?_
  refine own_lload 211 X280 hx hby at_209 rfl rfl ?_
  refine own_lcmp 212 (XT.cmpL y17 y17) X280 hx hby at_211 rfl rfl ?_
  refine own_ifY 217 X280 hx hby at_212 (by decide) (by decide) (own_teqL rfl).1 ?_
  refine own_lload 219 X280 hx hby at_217 rfl rfl ?_
  refine own_lstore 221 #[oJ y0, oS, oJ y2, oS, oJ y4, oS, oJ y6, oS, oI x8, oI x9, oI x10, oI x11, oI x12, oJ y13, oS, oJ y15, oS, oJ y17, oS, oJ y19, oS, oJ y21, oS, oJ y23, oS, oA b26, oJ y17, oS, oJ y17, oS, oJ y17, oS, oU, oU] X280 hx hby at_219 rfl rfl ?_
  refine own_iload 223 X280 hx hby at_221 rfl rfl ?_
  by_cases hc281 : x11 = (0 : Int32)
  · refine own_ifY 251 X280 hx hby at_223 (by decide) (by decide) ((if0 _ _).trans (teq hc281).1) ?_
    refine own_iload 253 X280 hx hby at_251 rfl rfl ?_
    by_cases hc282 : x12 = (0 : Int32)
    · refine own_ifY 270 X280 hx hby at_253 (by decide) (by decide) ((if0 _ _).trans (teq hc282).1) ?_
      refine own_aload 272 X280 hx hby at_270 rfl rfl rfl ?_
      refine own_virt (W := 0) 275 (rm8_32 l Z a0 hw [] w_NONE k_NONE W b26 b99_0 k99_0 b99_1 k99_1 b99_2 k99_2 y13 y15 y17 ((0 : Int64) + y19) (((0 : Int64) + y19) + y21) ((((0 : Int64) + y19) + y21) + y23) T275.heap n0 O275 E_b26_275 F_b26_droppedTotal_275 F_b26_end_275 F_b26_firsts_275 F_b26_head_275 F_b26_lasts_275 F_b26_totals_275 n_b26 V_b99_0_275 n_b99_0 V_b99_1_275 n_b99_1 V_b99_2_275 n_b99_2 ne_b26_b99_0 ne_b26_b99_1 ne_b26_b99_2 ne_b99_0_b99_1 ne_b99_0_b99_2 ne_b99_1_b99_2) X280 hx hby hZ hown (own_w hw 50 rfl) (own_w hw 51 rfl) (notFace_of_selects (args := #[]) (mvT hZ (own_w hw 53 rfl))) (own_w hw 53 rfl) (own_w hw 52 rfl) (own_w hw 3 rfl) (own_w hw 54 rfl) (by decide) (by rw [hml]; rfl) b26 [] [] pd_1 rfl at_272 rfl e280 E_b26_275 rfl rfl rfl (by decide) (by decide) (by decide) (by decide) ?_
      rintro _ T283 L283 X283 ⟨rfl, N283, e283⟩
      have N283 := Fr.app N280 N283
      show Go p e below _ (T283.setTop (mkF m 275 _ [(.long y17)]))
      refine own_lstore 277 #[oJ y0, oS, oJ y2, oS, oJ y4, oS, oJ y6, oS, oI x8, oI x9, oI x10, oI x11, oI x12, oJ y13, oS, oJ y15, oS, oJ y17, oS, oJ y19, oS, oJ y21, oS, oJ y23, oS, oA b26, oJ y17, oS, oJ y17, oS, oJ y17, oS, oJ y17, oS] X283 hx hby at_275 rfl rfl ?_
      refine own_lload 279 X283 hx hby at_277 rfl rfl ?_
      refine own_lload 281 X283 hx hby at_279 rfl rfl ?_
      refine own_lcmp 282 (XT.cmpL y17 y17) X283 hx hby at_281 rfl rfl ?_
      refine own_ifN 285 X283 hx hby at_282 rfl (own_teqL rfl).2 ?_
      refine own_iconst 286 (1 : Int32) X283 hx hby at_285 rfl (by decide) ?_
      refine own_goto 290 X283 hx hby at_286 (by decide) (by decide) ?_
      exact own_ret (Q := own_Q1 n0) X283 hx hby hret hlk at_290 rfl (Or.inl ⟨rfl, by simp, _, rfl⟩) (by decide) (by decide) ⟨rfl, N283⟩
    refine own_ifN 256 X280 hx hby at_253 rfl ((if0 _ _).trans (feq hc282).1) ?_
    refine own_lload 258 X280 hx hby at_256 rfl rfl ?_
    refine own_ldc2 261 X280 hx hby hZ hown (own_w hw 60 rfl) at_258 rfl ?_
    refine own_lcmp 262 (XT.cmpL y17 (-1 : Int64)) X280 hx hby at_261 rfl rfl ?_
    refine own_ifN 265 X280 hx hby at_262 rfl (own_feqL (by have : -2 ^ 63 ≤ (y17).toInt ∧ (y17).toInt < 2 ^ 63 := own_rngJ y17; have : ((-1 : Int64)).toInt = -1 := rfl; have : -2 ^ 63 ≤ (y13).toInt ∧ (y13).toInt < 2 ^ 63 := own_rngJ y13; have : ((0 : Int64)).toInt = 0 := rfl; have : ¬ ((y13).toInt < ((0 : Int64)).toInt) := fun q => hq2 (Int64.lt_iff_toInt_lt.mpr q); have : -2 ^ 63 ≤ (y15).toInt ∧ (y15).toInt < 2 ^ 63 := own_rngJ y15; have : (y13).toInt < (y15).toInt := Int64.lt_iff_toInt_lt.mp hq3; have : (y15).toInt < (y17).toInt := Int64.lt_iff_toInt_lt.mp hq4; exact fun q => absurd (congrArg Int64.toInt q) (by omega))).1 ?_
    refine own_aload 267 X280 hx hby at_265 rfl rfl rfl ?_
    by_cases hc356 : (((2 : Int64) * ((((((0 : Int64) + y19) + y21) + y23) - ((((0 : Int64) + y19) + y21) + y23)) / (100 : Int64))) + (2 : Int64)) < (((((0 : Int64) + y19) + y21) + y23) - ((0 : Int64) + y19))
    · by_cases hc357 : (((2 : Int64) * ((((((0 : Int64) + y19) + y21) + y23) - (((0 : Int64) + y19) + y21)) / (100 : Int64))) + (2 : Int64)) < ((((0 : Int64) + y19) + y21) - (0 : Int64))
      · refine own_virt (W := 0) 270 (rm10_35 l Z a0 hw [] w_NONE k_NONE W b26 b99_0 k99_0 b99_1 k99_1 b99_2 k99_2 y13 y15 y17 ((0 : Int64) + y19) (((0 : Int64) + y19) + y21) ((((0 : Int64) + y19) + y21) + y23) T275.heap n0 O275 E_b26_275 F_b26_droppedTotal_275 F_b26_end_275 F_b26_firsts_275 F_b26_head_275 F_b26_lasts_275 F_b26_totals_275 n_b26 V_b99_0_275 n_b99_0 V_b99_1_275 n_b99_1 V_b99_2_275 n_b99_2 ne_b26_b99_0 ne_b26_b99_1 ne_b26_b99_2 ne_b99_0_b99_1 ne_b99_0_b99_2 ne_b99_1_b99_2 hc356 hc357) X280 hx hby hZ hown (own_w hw 61 rfl) (own_w hw 62 rfl) (notFace_of_selects (args := #[]) (mvT hZ (own_w hw 64 rfl))) (own_w hw 64 rfl) (own_w hw 63 rfl) (own_w hw 3 rfl) (own_w hw 65 rfl) (by decide) (by rw [hml]; rfl) b26 [] [] pd_0 rfl at_267 rfl e280 E_b26_275 rfl rfl rfl (by decide) (by decide) (by decide) (by decide) ?_
        rintro _ T358 L358 X358 ⟨rfl, N358, Kc358, E_b26_358, F_b26_droppedTotal_358, F_b26_end_358, F_b26_firsts_358, F_b26_head_358, F_b26_lasts_358, F_b26_totals_358, V_b99_0_358, V_b99_1_358, V_b99_2_358⟩
        have N358 := Fr.app N280 N358
        have O358 := O275.keep Kc358 (allS n_b99_0 (allS n_b99_1 (allS n_b99_2 (allS n_b26 all0))))
        show Go p e below _ (T358.setTop (mkF m 270 _ []))
        refine own_aload 272 X358 hx hby at_270 rfl rfl rfl ?_
        refine own_virt (W := 0) 275 (rm8_32 l Z a0 hw [] w_NONE k_NONE W b26 b99_0 k99_0 b99_1 k99_1 b99_2 k99_2 y13 y15 y17 ((0 : Int64) + y19) (((0 : Int64) + y19) + y21) ((((0 : Int64) + y19) + y21) + y23) T358.heap n0 O358 E_b26_358 F_b26_droppedTotal_358 F_b26_end_358 F_b26_firsts_358 F_b26_head_358 F_b26_lasts_358 F_b26_totals_358 n_b26 V_b99_0_358 n_b99_0 V_b99_1_358 n_b99_1 V_b99_2_358 n_b99_2 ne_b26_b99_0 ne_b26_b99_1 ne_b26_b99_2 ne_b99_0_b99_1 ne_b99_0_b99_2 ne_b99_1_b99_2) X358 hx hby hZ hown (own_w hw 50 rfl) (own_w hw 51 rfl) (notFace_of_selects (args := #[]) (mvT hZ (own_w hw 53 rfl))) (own_w hw 53 rfl) (own_w hw 52 rfl) (own_w hw 3 rfl) (own_w hw 54 rfl) (by decide) (by rw [hml]; rfl) b26 [] [] pd_1 rfl at_272 rfl rfl E_b26_358 rfl rfl rfl (by decide) (by decide) (by decide) (by decide) ?_
        rintro _ T359 L359 X359 ⟨rfl, N359, e359⟩
        have N359 := Fr.app N358 N359
        show Go p e below _ (T359.setTop (mkF m 275 _ [(.long y17)]))
        refine own_lstore 277 #[oJ y0, oS, oJ y2, oS, oJ y4, oS, oJ y6, oS, oI x8, oI x9, oI x10, oI x11, oI x12, oJ y13, oS, oJ y15, oS, oJ y17, oS, oJ y19, oS, oJ y21, oS, oJ y23, oS, oA b26, oJ y17, oS, oJ y17, oS, oJ y17, oS, oJ y17, oS] X359 hx hby at_275 rfl rfl ?_
        refine own_lload 279 X359 hx hby at_277 rfl rfl ?_
        refine own_lload 281 X359 hx hby at_279 rfl rfl ?_
        refine own_lcmp 282 (XT.cmpL y17 y17) X359 hx hby at_281 rfl rfl ?_
        refine own_ifN 285 X359 hx hby at_282 rfl (own_teqL rfl).2 ?_
        refine own_iconst 286 (1 : Int32) X359 hx hby at_285 rfl (by decide) ?_
        refine own_goto 290 X359 hx hby at_286 (by decide) (by decide) ?_
        exact own_ret (Q := own_Q1 n0) X359 hx hby hret hlk at_290 rfl (Or.inl ⟨rfl, by simp, _, rfl⟩) (by decide) (by decide) ⟨rfl, N359⟩
      refine own_virt (W := 0) 270 (rm10_36 l Z a0 hw [] w_NONE k_NONE W b26 b99_0 k99_0 b99_1 k99_1 b99_2 k99_2 y13 y15 y17 ((0 : Int64) + y19) (((0 : Int64) + y19) + y21) ((((0 : Int64) + y19) + y21) + y23) T275.heap n0 O275 E_b26_275 F_b26_droppedTotal_275 F_b26_end_275 F_b26_firsts_275 F_b26_head_275 F_b26_lasts_275 F_b26_totals_275 n_b26 V_b99_0_275 n_b99_0 V_b99_1_275 n_b99_1 V_b99_2_275 n_b99_2 ne_b26_b99_0 ne_b26_b99_1 ne_b26_b99_2 ne_b99_0_b99_1 ne_b99_0_b99_2 ne_b99_1_b99_2 hc356 hc357) X280 hx hby hZ hown (own_w hw 61 rfl) (own_w hw 62 rfl) (notFace_of_selects (args := #[]) (mvT hZ (own_w hw 64 rfl))) (own_w hw 64 rfl) (own_w hw 63 rfl) (own_w hw 3 rfl) (own_w hw 65 rfl) (by decide) (by rw [hml]; rfl) b26 [] [] pd_0 rfl at_267 rfl e280 E_b26_275 rfl rfl rfl (by decide) (by decide) (by decide) (by decide) ?_
      rintro _ T360 L360 X360 ⟨rfl, N360, Kc360, E_b26_360, F_b26_droppedTotal_360, F_b26_end_360, F_b26_firsts_360, F_b26_head_360, F_b26_lasts_360, F_b26_totals_360, V_b99_0_360, V_b99_1_360, V_b99_2_360⟩
      have N360 := Fr.app N280 N360
      have O360 := O275.keep Kc360 (allS n_b99_0 (allS n_b99_1 (allS n_b99_2 (allS n_b26 all0))))
      show Go p e below _ (T360.setTop (mkF m 270 _ []))
      refine own_aload 272 X360 hx hby at_270 rfl rfl rfl ?_
      refine own_virt (W := 0) 275 (rm8_40 l Z a0 hw [] w_NONE k_NONE W b26 b99_0 k99_0 b99_1 k99_1 b99_2 k99_2 y13 y17 y15 ((0 : Int64) + y19) (((0 : Int64) + y19) + y21) ((((0 : Int64) + y19) + y21) + y23) T360.heap n0 O360 E_b26_360 F_b26_droppedTotal_360 F_b26_end_360 F_b26_firsts_360 F_b26_head_360 F_b26_lasts_360 F_b26_totals_360 n_b26 V_b99_0_360 n_b99_0 V_b99_1_360 n_b99_1 V_b99_2_360 n_b99_2 ne_b26_b99_0 ne_b26_b99_1 ne_b26_b99_2 ne_b99_0_b99_1 ne_b99_0_b99_2 ne_b99_1_b99_2) X360 hx hby hZ hown (own_w hw 50 rfl) (own_w hw 51 rfl) (notFace_of_selects (args := #[]) (mvT hZ (own_w hw 53 rfl))) (own_w hw 53 rfl) (own_w hw 52 rfl) (own_w hw 3 rfl) (own_w hw 54 rfl) (by decide) (by rw [hml]; rfl) b26 [] [] pd_1 rfl at_272 rfl rfl E_b26_360 rfl rfl rfl (by decide) (by decide) (by decide) (by decide) ?_
      rintro _ T365 L365 X365 ⟨rfl, N365, e365⟩
      have N365 := Fr.app N360 N365
      show Go p e below _ (T365.setTop (mkF m 275 _ [(.long y17)]))
      refine own_lstore 277 #[oJ y0, oS, oJ y2, oS, oJ y4, oS, oJ y6, oS, oI x8, oI x9, oI x10, oI x11, oI x12, oJ y13, oS, oJ y15, oS, oJ y17, oS, oJ y19, oS, oJ y21, oS, oJ y23, oS, oA b26, oJ y17, oS, oJ y17, oS, oJ y17, oS, oJ y17, oS] X365 hx hby at_275 rfl rfl ?_
      refine own_lload 279 X365 hx hby at_277 rfl rfl ?_
      refine own_lload 281 X365 hx hby at_279 rfl rfl ?_
      refine own_lcmp 282 (XT.cmpL y17 y17) X365 hx hby at_281 rfl rfl ?_
      refine own_ifN 285 X365 hx hby at_282 rfl (own_teqL rfl).2 ?_
      refine own_iconst 286 (1 : Int32) X365 hx hby at_285 rfl (by decide) ?_
      refine own_goto 290 X365 hx hby at_286 (by decide) (by decide) ?_
      exact own_ret (Q := own_Q1 n0) X365 hx hby hret hlk at_290 rfl (Or.inl ⟨rfl, by simp, _, rfl⟩) (by decide) (by decide) ⟨rfl, N365⟩
    by_cases hc366 : (((2 : Int64) * ((((((0 : Int64) + y19) + y21) + y23) - ((((0 : Int64) + y19) + y21) + y23)) / (100 : Int64))) + (2 : Int64)) < (((((0 : Int64) + y19) + y21) + y23) - (0 : Int64))
    · refine own_virt (W := 0) 270 (rm10_38 l Z a0 hw [] w_NONE k_NONE W b26 b99_0 k99_0 b99_1 k99_1 b99_2 k99_2 y13 y15 y17 ((0 : Int64) + y19) (((0 : Int64) + y19) + y21) ((((0 : Int64) + y19) + y21) + y23) T275.heap n0 O275 E_b26_275 F_b26_droppedTotal_275 F_b26_end_275 F_b26_firsts_275 F_b26_head_275 F_b26_lasts_275 F_b26_totals_275 n_b26 V_b99_0_275 n_b99_0 V_b99_1_275 n_b99_1 V_b99_2_275 n_b99_2 ne_b26_b99_0 ne_b26_b99_1 ne_b26_b99_2 ne_b99_0_b99_1 ne_b99_0_b99_2 ne_b99_1_b99_2 hc356 hc366) X280 hx hby hZ hown (own_w hw 61 rfl) (own_w hw 62 rfl) (notFace_of_selects (args := #[]) (mvT hZ (own_w hw 64 rfl))) (own_w hw 64 rfl) (own_w hw 63 rfl) (own_w hw 3 rfl) (own_w hw 65 rfl) (by decide) (by rw [hml]; rfl) b26 [] [] pd_0 rfl at_267 rfl e280 E_b26_275 rfl rfl rfl (by decide) (by decide) (by decide) (by decide) ?_
      rintro _ T367 L367 X367 ⟨rfl, N367, Kc367, E_b26_367, F_b26_droppedTotal_367, F_b26_end_367, F_b26_firsts_367, F_b26_head_367, F_b26_lasts_367, F_b26_totals_367, V_b99_0_367, V_b99_1_367, V_b99_2_367⟩
      have N367 := Fr.app N280 N367
      have O367 := O275.keep Kc367 (allS n_b99_0 (allS n_b99_1 (allS n_b99_2 (allS n_b26 all0))))
      show Go p e below _ (T367.setTop (mkF m 270 _ []))
      refine own_aload 272 X367 hx hby at_270 rfl rfl rfl ?_
      refine own_virt (W := 0) 275 (rm8_41 l Z a0 hw [] w_NONE k_NONE W b26 b99_0 k99_0 b99_1 k99_1 b99_2 k99_2 y13 y15 y17 ((0 : Int64) + y19) ((((0 : Int64) + y19) + y21) + y23) T367.heap n0 O367 E_b26_367 F_b26_droppedTotal_367 F_b26_end_367 F_b26_firsts_367 F_b26_head_367 F_b26_lasts_367 F_b26_totals_367 n_b26 V_b99_0_367 n_b99_0 V_b99_1_367 n_b99_1 V_b99_2_367 n_b99_2 ne_b26_b99_0 ne_b26_b99_1 ne_b26_b99_2 ne_b99_0_b99_1 ne_b99_0_b99_2 ne_b99_1_b99_2) X367 hx hby hZ hown (own_w hw 50 rfl) (own_w hw 51 rfl) (notFace_of_selects (args := #[]) (mvT hZ (own_w hw 53 rfl))) (own_w hw 53 rfl) (own_w hw 52 rfl) (own_w hw 3 rfl) (own_w hw 54 rfl) (by decide) (by rw [hml]; rfl) b26 [] [] pd_1 rfl at_272 rfl rfl E_b26_367 rfl rfl rfl (by decide) (by decide) (by decide) (by decide) ?_
      rintro _ T372 L372 X372 ⟨rfl, N372, e372⟩
      have N372 := Fr.app N367 N372
      show Go p e below _ (T372.setTop (mkF m 275 _ [(.long y17)]))
      refine own_lstore 277 #[oJ y0, oS, oJ y2, oS, oJ y4, oS, oJ y6, oS, oI x8, oI x9, oI x10, oI x11, oI x12, oJ y13, oS, oJ y15, oS, oJ y17, oS, oJ y19, oS, oJ y21, oS, oJ y23, oS, oA b26, oJ y17, oS, oJ y17, oS, oJ y17, oS, oJ y17, oS] X372 hx hby at_275 rfl rfl ?_
      refine own_lload 279 X372 hx hby at_277 rfl rfl ?_
      refine own_lload 281 X372 hx hby at_279 rfl rfl ?_
      refine own_lcmp 282 (XT.cmpL y17 y17) X372 hx hby at_281 rfl rfl ?_
      refine own_ifN 285 X372 hx hby at_282 rfl (own_teqL rfl).2 ?_
      refine own_iconst 286 (1 : Int32) X372 hx hby at_285 rfl (by decide) ?_
      refine own_goto 290 X372 hx hby at_286 (by decide) (by decide) ?_
      exact own_ret (Q := own_Q1 n0) X372 hx hby hret hlk at_290 rfl (Or.inl ⟨rfl, by simp, _, rfl⟩) (by decide) (by decide) ⟨rfl, N372⟩
    refine own_virt (W := 0) 270 (rm10_39 l Z a0 hw [] w_NONE k_NONE W b26 b99_0 k99_0 b99_1 k99_1 b99_2 k99_2 y13 y15 y17 ((0 : Int64) + y19) (((0 : Int64) + y19) + y21) ((((0 : Int64) + y19) + y21) + y23) T275.heap n0 O275 E_b26_275 F_b26_droppedTotal_275 F_b26_end_275 F_b26_firsts_275 F_b26_head_275 F_b26_lasts_275 F_b26_totals_275 n_b26 V_b99_0_275 n_b99_0 V_b99_1_275 n_b99_1 V_b99_2_275 n_b99_2 ne_b26_b99_0 ne_b26_b99_1 ne_b26_b99_2 ne_b99_0_b99_1 ne_b99_0_b99_2 ne_b99_1_b99_2 hc356 hc366) X280 hx hby hZ hown (own_w hw 61 rfl) (own_w hw 62 rfl) (notFace_of_selects (args := #[]) (mvT hZ (own_w hw 64 rfl))) (own_w hw 64 rfl) (own_w hw 63 rfl) (own_w hw 3 rfl) (own_w hw 65 rfl) (by decide) (by rw [hml]; rfl) b26 [] [] pd_0 rfl at_267 rfl e280 E_b26_275 rfl rfl rfl (by decide) (by decide) (by decide) (by decide) ?_
    rintro _ T373 L373 X373 ⟨rfl, N373, Kc373, E_b26_373, F_b26_droppedTotal_373, F_b26_end_373, F_b26_firsts_373, F_b26_head_373, F_b26_lasts_373, F_b26_totals_373, V_b99_0_373, V_b99_1_373, V_b99_2_373⟩
    have N373 := Fr.app N280 N373
    have O373 := O275.keep Kc373 (allS n_b99_0 (allS n_b26 all0))
    show Go p e below _ (T373.setTop (mkF m 270 _ []))
    refine own_aload 272 X373 hx hby at_270 rfl rfl rfl ?_
    refine own_virt (W := 0) 275 (rm8_42 l Z a0 hw [] w_NONE k_NONE W b26 b99_0 k99_0 b99_1 k99_1 b99_2 k99_2 y13 y15 y17 ((0 : Int64) + y19) (((0 : Int64) + y19) + y21) ((((0 : Int64) + y19) + y21) + y23) T373.heap n0 O373 E_b26_373 F_b26_droppedTotal_373 F_b26_end_373 F_b26_firsts_373 F_b26_head_373 F_b26_lasts_373 F_b26_totals_373 n_b26 V_b99_0_373 n_b99_0 V_b99_1_373 n_b99_1 V_b99_2_373 n_b99_2 ne_b26_b99_0 ne_b26_b99_1 ne_b26_b99_2 ne_b99_0_b99_1 ne_b99_0_b99_2 ne_b99_1_b99_2) X373 hx hby hZ hown (own_w hw 50 rfl) (own_w hw 51 rfl) (notFace_of_selects (args := #[]) (mvT hZ (own_w hw 53 rfl))) (own_w hw 53 rfl) (own_w hw 52 rfl) (own_w hw 3 rfl) (own_w hw 54 rfl) (by decide) (by rw [hml]; rfl) b26 [] [] pd_1 rfl at_272 rfl rfl E_b26_373 rfl rfl rfl (by decide) (by decide) (by decide) (by decide) ?_
    rintro _ T378 L378 X378 ⟨rfl, N378, e378⟩
    have N378 := Fr.app N373 N378
    show Go p e below _ (T378.setTop (mkF m 275 _ [(.long y17)]))
    refine own_lstore 277 #[oJ y0, oS, oJ y2, oS, oJ y4, oS, oJ y6, oS, oI x8, oI x9, oI x10, oI x11, oI x12, oJ y13, oS, oJ y15, oS, oJ y17, oS, oJ y19, oS, oJ y21, oS, oJ y23, oS, oA b26, oJ y17, oS, oJ y17, oS, oJ y17, oS, oJ y17, oS] X378 hx hby at_275 rfl rfl ?_
    refine own_lload 279 X378 hx hby at_277 rfl rfl ?_
    refine own_lload 281 X378 hx hby at_279 rfl rfl ?_
    refine own_lcmp 282 (XT.cmpL y17 y17) X378 hx hby at_281 rfl rfl ?_
    refine own_ifN 285 X378 hx hby at_282 rfl (own_teqL rfl).2 ?_
    refine own_iconst 286 (1 : Int32) X378 hx hby at_285 rfl (by decide) ?_
    refine own_goto 290 X378 hx hby at_286 (by decide) (by decide) ?_
    exact own_ret (Q := own_Q1 n0) X378 hx hby hret hlk at_290 rfl (Or.inl ⟨rfl, by simp, _, rfl⟩) (by decide) (by decide) ⟨rfl, N378⟩
  refine own_ifN 226 X280 hx hby at_223 rfl ((if0 _ _).trans (feq hc281).1) ?_
  refine own_aload 228 X280 hx hby at_226 rfl rfl rfl ?_
  refine own_lload 230 X280 hx hby at_228 rfl rfl ?_
  by_cases hc411 : y6 < y13
  · refine own_virt (W := 0) 233 (rm9_43 l Z a0 hw [] w_NONE k_NONE W b26 b99_0 k99_0 b99_1 k99_1 b99_2 k99_2 y6 y13 y15 y17 ((0 : Int64) + y19) (((0 : Int64) + y19) + y21) ((((0 : Int64) + y19) + y21) + y23) T275.heap n0 O275 E_b26_275 F_b26_droppedTotal_275 F_b26_end_275 F_b26_firsts_275 F_b26_head_275 F_b26_lasts_275 F_b26_totals_275 n_b26 V_b99_0_275 n_b99_0 V_b99_1_275 n_b99_1 V_b99_2_275 n_b99_2 ne_b26_b99_0 ne_b26_b99_1 ne_b26_b99_2 ne_b99_0_b99_1 ne_b99_0_b99_2 ne_b99_1_b99_2 hc411) X280 hx hby hZ hown (own_w hw 55 rfl) (own_w hw 56 rfl) (notFace_of_selects (args := #[]) (mvT hZ (own_w hw 58 rfl))) (own_w hw 58 rfl) (own_w hw 57 rfl) (own_w hw 3 rfl) (own_w hw 59 rfl) (by decide) (by rw [hml]; rfl) b26 [(.long y6)] [] pd_2 rfl at_230 rfl e280 E_b26_275 rfl rfl rfl (by decide) (by decide) (by decide) (by decide) ?_
    rintro _ T412 L412 X412 ⟨rfl, N412, e412⟩
    have N412 := Fr.app N280 N412
    show Go p e below _ (T412.setTop (mkF m 233 _ []))
    refine own_iload 235 X412 hx hby at_233 rfl rfl ?_
    refine own_ifN 238 X412 hx hby at_235 rfl ((if0 _ _).trans (tlt (by have : ((0 : Int32)).toInt = 0 := rfl; have : 3 ≤ (x10).toInt ∧ (x10).toInt ≤ 3 := own_bdI hc159 hq1; exact Int32.lt_iff_toInt_lt.mpr (by omega))).2.2.2) ?_
    refine own_lload 240 X412 hx hby at_238 rfl rfl ?_
    refine own_lload 242 X412 hx hby at_240 rfl rfl ?_
    refine own_lcmp 243 (XT.cmpL y17 y6) X412 hx hby at_242 rfl rfl ?_
    refine own_ifY 251 X412 hx hby at_243 (by decide) (by decide) (own_tltL (by have : -2 ^ 63 ≤ (y6).toInt ∧ (y6).toInt < 2 ^ 63 := own_rngJ y6; have : -2 ^ 63 ≤ (y17).toInt ∧ (y17).toInt < 2 ^ 63 := own_rngJ y17; have : -2 ^ 63 ≤ (y13).toInt ∧ (y13).toInt < 2 ^ 63 := own_rngJ y13; have : -2 ^ 63 ≤ (y15).toInt ∧ (y15).toInt < 2 ^ 63 := own_rngJ y15; have : (y13).toInt < (y15).toInt := Int64.lt_iff_toInt_lt.mp hq3; have : (y15).toInt < (y17).toInt := Int64.lt_iff_toInt_lt.mp hq4; have : (y6).toInt < (y13).toInt := Int64.lt_iff_toInt_lt.mp hc411; exact Int64.lt_iff_toInt_lt.mpr (by omega))).2.2.1 ?_
    refine own_iload 253 X412 hx hby at_251 rfl rfl ?_
    by_cases hc413 : x12 = (0 : Int32)
    · refine own_ifY 270 X412 hx hby at_253 (by decide) (by decide) ((if0 _ _).trans (teq hc413).1) ?_
      refine own_aload 272 X412 hx hby at_270 rfl rfl rfl ?_
      refine own_virt (W := 0) 275 (rm8_32 l Z a0 hw [] w_NONE k_NONE W b26 b99_0 k99_0 b99_1 k99_1 b99_2 k99_2 y13 y15 y17 ((0 : Int64) + y19) (((0 : Int64) + y19) + y21) ((((0 : Int64) + y19) + y21) + y23) T275.heap n0 O275 E_b26_275 F_b26_droppedTotal_275 F_b26_end_275 F_b26_firsts_275 F_b26_head_275 F_b26_lasts_275 F_b26_totals_275 n_b26 V_b99_0_275 n_b99_0 V_b99_1_275 n_b99_1 V_b99_2_275 n_b99_2 ne_b26_b99_0 ne_b26_b99_1 ne_b26_b99_2 ne_b99_0_b99_1 ne_b99_0_b99_2 ne_b99_1_b99_2) X412 hx hby hZ hown (own_w hw 50 rfl) (own_w hw 51 rfl) (notFace_of_selects (args := #[]) (mvT hZ (own_w hw 53 rfl))) (own_w hw 53 rfl) (own_w hw 52 rfl) (own_w hw 3 rfl) (own_w hw 54 rfl) (by decide) (by rw [hml]; rfl) b26 [] [] pd_1 rfl at_272 rfl e412 E_b26_275 rfl rfl rfl (by decide) (by decide) (by decide) (by decide) ?_
      rintro _ T414 L414 X414 ⟨rfl, N414, e414⟩
      have N414 := Fr.app N412 N414
      show Go p e below _ (T414.setTop (mkF m 275 _ [(.long y17)]))
      refine own_lstore 277 #[oJ y0, oS, oJ y2, oS, oJ y4, oS, oJ y6, oS, oI x8, oI x9, oI x10, oI x11, oI x12, oJ y13, oS, oJ y15, oS, oJ y17, oS, oJ y19, oS, oJ y21, oS, oJ y23, oS, oA b26, oJ y17, oS, oJ y17, oS, oJ y17, oS, oJ y17, oS] X414 hx hby at_275 rfl rfl ?_
      refine own_lload 279 X414 hx hby at_277 rfl rfl ?_
      refine own_lload 281 X414 hx hby at_279 rfl rfl ?_
      refine own_lcmp 282 (XT.cmpL y17 y17) X414 hx hby at_281 rfl rfl ?_
      refine own_ifN 285 X414 hx hby at_282 rfl (own_teqL rfl).2 ?_
      refine own_iconst 286 (1 : Int32) X414 hx hby at_285 rfl (by decide) ?_
      refine own_goto 290 X414 hx hby at_286 (by decide) (by decide) ?_
      exact own_ret (Q := own_Q1 n0) X414 hx hby hret hlk at_290 rfl (Or.inl ⟨rfl, by simp, _, rfl⟩) (by decide) (by decide) ⟨rfl, N414⟩
    refine own_ifN 256 X412 hx hby at_253 rfl ((if0 _ _).trans (feq hc413).1) ?_
    refine own_lload 258 X412 hx hby at_256 rfl rfl ?_
    refine own_ldc2 261 X412 hx hby hZ hown (own_w hw 60 rfl) at_258 rfl ?_
    refine own_lcmp 262 (XT.cmpL y17 (-1 : Int64)) X412 hx hby at_261 rfl rfl ?_
    refine own_ifN 265 X412 hx hby at_262 rfl (own_feqL (by have : -2 ^ 63 ≤ (y17).toInt ∧ (y17).toInt < 2 ^ 63 := own_rngJ y17; have : ((-1 : Int64)).toInt = -1 := rfl; have : -2 ^ 63 ≤ (y13).toInt ∧ (y13).toInt < 2 ^ 63 := own_rngJ y13; have : ((0 : Int64)).toInt = 0 := rfl; have : ¬ ((y13).toInt < ((0 : Int64)).toInt) := fun q => hq2 (Int64.lt_iff_toInt_lt.mpr q); have : -2 ^ 63 ≤ (y15).toInt ∧ (y15).toInt < 2 ^ 63 := own_rngJ y15; have : (y13).toInt < (y15).toInt := Int64.lt_iff_toInt_lt.mp hq3; have : (y15).toInt < (y17).toInt := Int64.lt_iff_toInt_lt.mp hq4; exact fun q => absurd (congrArg Int64.toInt q) (by omega))).1 ?_
    refine own_aload 267 X412 hx hby at_265 rfl rfl rfl ?_
    by_cases hc415 : (((2 : Int64) * ((((((0 : Int64) + y19) + y21) + y23) - ((((0 : Int64) + y19) + y21) + y23)) / (100 : Int64))) + (2 : Int64)) < (((((0 : Int64) + y19) + y21) + y23) - ((0 : Int64) + y19))
    · by_cases hc416 : (((2 : Int64) * ((((((0 : Int64) + y19) + y21) + y23) - (((0 : Int64) + y19) + y21)) / (100 : Int64))) + (2 : Int64)) < ((((0 : Int64) + y19) + y21) - (0 : Int64))
      · refine own_virt (W := 0) 270 (rm10_35 l Z a0 hw [] w_NONE k_NONE W b26 b99_0 k99_0 b99_1 k99_1 b99_2 k99_2 y13 y15 y17 ((0 : Int64) + y19) (((0 : Int64) + y19) + y21) ((((0 : Int64) + y19) + y21) + y23) T275.heap n0 O275 E_b26_275 F_b26_droppedTotal_275 F_b26_end_275 F_b26_firsts_275 F_b26_head_275 F_b26_lasts_275 F_b26_totals_275 n_b26 V_b99_0_275 n_b99_0 V_b99_1_275 n_b99_1 V_b99_2_275 n_b99_2 ne_b26_b99_0 ne_b26_b99_1 ne_b26_b99_2 ne_b99_0_b99_1 ne_b99_0_b99_2 ne_b99_1_b99_2 hc415 hc416) X412 hx hby hZ hown (own_w hw 61 rfl) (own_w hw 62 rfl) (notFace_of_selects (args := #[]) (mvT hZ (own_w hw 64 rfl))) (own_w hw 64 rfl) (own_w hw 63 rfl) (own_w hw 3 rfl) (own_w hw 65 rfl) (by decide) (by rw [hml]; rfl) b26 [] [] pd_0 rfl at_267 rfl e412 E_b26_275 rfl rfl rfl (by decide) (by decide) (by decide) (by decide) ?_
        rintro _ T417 L417 X417 ⟨rfl, N417, Kc417, E_b26_417, F_b26_droppedTotal_417, F_b26_end_417, F_b26_firsts_417, F_b26_head_417, F_b26_lasts_417, F_b26_totals_417, V_b99_0_417, V_b99_1_417, V_b99_2_417⟩
        have N417 := Fr.app N412 N417
        have O417 := O275.keep Kc417 (allS n_b99_0 (allS n_b99_1 (allS n_b99_2 (allS n_b26 all0))))
        show Go p e below _ (T417.setTop (mkF m 270 _ []))
        refine own_aload 272 X417 hx hby at_270 rfl rfl rfl ?_
        refine own_virt (W := 0) 275 (rm8_32 l Z a0 hw [] w_NONE k_NONE W b26 b99_0 k99_0 b99_1 k99_1 b99_2 k99_2 y13 y15 y17 ((0 : Int64) + y19) (((0 : Int64) + y19) + y21) ((((0 : Int64) + y19) + y21) + y23) T417.heap n0 O417 E_b26_417 F_b26_droppedTotal_417 F_b26_end_417 F_b26_firsts_417 F_b26_head_417 F_b26_lasts_417 F_b26_totals_417 n_b26 V_b99_0_417 n_b99_0 V_b99_1_417 n_b99_1 V_b99_2_417 n_b99_2 ne_b26_b99_0 ne_b26_b99_1 ne_b26_b99_2 ne_b99_0_b99_1 ne_b99_0_b99_2 ne_b99_1_b99_2) X417 hx hby hZ hown (own_w hw 50 rfl) (own_w hw 51 rfl) (notFace_of_selects (args := #[]) (mvT hZ (own_w hw 53 rfl))) (own_w hw 53 rfl) (own_w hw 52 rfl) (own_w hw 3 rfl) (own_w hw 54 rfl) (by decide) (by rw [hml]; rfl) b26 [] [] pd_1 rfl at_272 rfl rfl E_b26_417 rfl rfl rfl (by decide) (by decide) (by decide) (by decide) ?_
        rintro _ T418 L418 X418 ⟨rfl, N418, e418⟩
        have N418 := Fr.app N417 N418
        show Go p e below _ (T418.setTop (mkF m 275 _ [(.long y17)]))
        refine own_lstore 277 #[oJ y0, oS, oJ y2, oS, oJ y4, oS, oJ y6, oS, oI x8, oI x9, oI x10, oI x11, oI x12, oJ y13, oS, oJ y15, oS, oJ y17, oS, oJ y19, oS, oJ y21, oS, oJ y23, oS, oA b26, oJ y17, oS, oJ y17, oS, oJ y17, oS, oJ y17, oS] X418 hx hby at_275 rfl rfl ?_
        refine own_lload 279 X418 hx hby at_277 rfl rfl ?_
        refine own_lload 281 X418 hx hby at_279 rfl rfl ?_
        refine own_lcmp 282 (XT.cmpL y17 y17) X418 hx hby at_281 rfl rfl ?_
        refine own_ifN 285 X418 hx hby at_282 rfl (own_teqL rfl).2 ?_
        refine own_iconst 286 (1 : Int32) X418 hx hby at_285 rfl (by decide) ?_
        refine own_goto 290 X418 hx hby at_286 (by decide) (by decide) ?_
        exact own_ret (Q := own_Q1 n0) X418 hx hby hret hlk at_290 rfl (Or.inl ⟨rfl, by simp, _, rfl⟩) (by decide) (by decide) ⟨rfl, N418⟩
      refine own_virt (W := 0) 270 (rm10_36 l Z a0 hw [] w_NONE k_NONE W b26 b99_0 k99_0 b99_1 k99_1 b99_2 k99_2 y13 y15 y17 ((0 : Int64) + y19) (((0 : Int64) + y19) + y21) ((((0 : Int64) + y19) + y21) + y23) T275.heap n0 O275 E_b26_275 F_b26_droppedTotal_275 F_b26_end_275 F_b26_firsts_275 F_b26_head_275 F_b26_lasts_275 F_b26_totals_275 n_b26 V_b99_0_275 n_b99_0 V_b99_1_275 n_b99_1 V_b99_2_275 n_b99_2 ne_b26_b99_0 ne_b26_b99_1 ne_b26_b99_2 ne_b99_0_b99_1 ne_b99_0_b99_2 ne_b99_1_b99_2 hc415 hc416) X412 hx hby hZ hown (own_w hw 61 rfl) (own_w hw 62 rfl) (notFace_of_selects (args := #[]) (mvT hZ (own_w hw 64 rfl))) (own_w hw 64 rfl) (own_w hw 63 rfl) (own_w hw 3 rfl) (own_w hw 65 rfl) (by decide) (by rw [hml]; rfl) b26 [] [] pd_0 rfl at_267 rfl e412 E_b26_275 rfl rfl rfl (by decide) (by decide) (by decide) (by decide) ?_
      rintro _ T419 L419 X419 ⟨rfl, N419, Kc419, E_b26_419, F_b26_droppedTotal_419, F_b26_end_419, F_b26_firsts_419, F_b26_head_419, F_b26_lasts_419, F_b26_totals_419, V_b99_0_419, V_b99_1_419, V_b99_2_419⟩
      have N419 := Fr.app N412 N419
      have O419 := O275.keep Kc419 (allS n_b99_0 (allS n_b99_1 (allS n_b99_2 (allS n_b26 all0))))
      show Go p e below _ (T419.setTop (mkF m 270 _ []))
      refine own_aload 272 X419 hx hby at_270 rfl rfl rfl ?_
      refine own_virt (W := 0) 275 (rm8_40 l Z a0 hw [] w_NONE k_NONE W b26 b99_0 k99_0 b99_1 k99_1 b99_2 k99_2 y13 y17 y15 ((0 : Int64) + y19) (((0 : Int64) + y19) + y21) ((((0 : Int64) + y19) + y21) + y23) T419.heap n0 O419 E_b26_419 F_b26_droppedTotal_419 F_b26_end_419 F_b26_firsts_419 F_b26_head_419 F_b26_lasts_419 F_b26_totals_419 n_b26 V_b99_0_419 n_b99_0 V_b99_1_419 n_b99_1 V_b99_2_419 n_b99_2 ne_b26_b99_0 ne_b26_b99_1 ne_b26_b99_2 ne_b99_0_b99_1 ne_b99_0_b99_2 ne_b99_1_b99_2) X419 hx hby hZ hown (own_w hw 50 rfl) (own_w hw 51 rfl) (notFace_of_selects (args := #[]) (mvT hZ (own_w hw 53 rfl))) (own_w hw 53 rfl) (own_w hw 52 rfl) (own_w hw 3 rfl) (own_w hw 54 rfl) (by decide) (by rw [hml]; rfl) b26 [] [] pd_1 rfl at_272 rfl rfl E_b26_419 rfl rfl rfl (by decide) (by decide) (by decide) (by decide) ?_
      rintro _ T420 L420 X420 ⟨rfl, N420, e420⟩
      have N420 := Fr.app N419 N420
      show Go p e below _ (T420.setTop (mkF m 275 _ [(.long y17)]))
      refine own_lstore 277 #[oJ y0, oS, oJ y2, oS, oJ y4, oS, oJ y6, oS, oI x8, oI x9, oI x10, oI x11, oI x12, oJ y13, oS, oJ y15, oS, oJ y17, oS, oJ y19, oS, oJ y21, oS, oJ y23, oS, oA b26, oJ y17, oS, oJ y17, oS, oJ y17, oS, oJ y17, oS] X420 hx hby at_275 rfl rfl ?_
      refine own_lload 279 X420 hx hby at_277 rfl rfl ?_
      refine own_lload 281 X420 hx hby at_279 rfl rfl ?_
      refine own_lcmp 282 (XT.cmpL y17 y17) X420 hx hby at_281 rfl rfl ?_
      refine own_ifN 285 X420 hx hby at_282 rfl (own_teqL rfl).2 ?_
      refine own_iconst 286 (1 : Int32) X420 hx hby at_285 rfl (by decide) ?_
      refine own_goto 290 X420 hx hby at_286 (by decide) (by decide) ?_
      exact own_ret (Q := own_Q1 n0) X420 hx hby hret hlk at_290 rfl (Or.inl ⟨rfl, by simp, _, rfl⟩) (by decide) (by decide) ⟨rfl, N420⟩
    by_cases hc421 : (((2 : Int64) * ((((((0 : Int64) + y19) + y21) + y23) - ((((0 : Int64) + y19) + y21) + y23)) / (100 : Int64))) + (2 : Int64)) < (((((0 : Int64) + y19) + y21) + y23) - (0 : Int64))
    · refine own_virt (W := 0) 270 (rm10_38 l Z a0 hw [] w_NONE k_NONE W b26 b99_0 k99_0 b99_1 k99_1 b99_2 k99_2 y13 y15 y17 ((0 : Int64) + y19) (((0 : Int64) + y19) + y21) ((((0 : Int64) + y19) + y21) + y23) T275.heap n0 O275 E_b26_275 F_b26_droppedTotal_275 F_b26_end_275 F_b26_firsts_275 F_b26_head_275 F_b26_lasts_275 F_b26_totals_275 n_b26 V_b99_0_275 n_b99_0 V_b99_1_275 n_b99_1 V_b99_2_275 n_b99_2 ne_b26_b99_0 ne_b26_b99_1 ne_b26_b99_2 ne_b99_0_b99_1 ne_b99_0_b99_2 ne_b99_1_b99_2 hc415 hc421) X412 hx hby hZ hown (own_w hw 61 rfl) (own_w hw 62 rfl) (notFace_of_selects (args := #[]) (mvT hZ (own_w hw 64 rfl))) (own_w hw 64 rfl) (own_w hw 63 rfl) (own_w hw 3 rfl) (own_w hw 65 rfl) (by decide) (by rw [hml]; rfl) b26 [] [] pd_0 rfl at_267 rfl e412 E_b26_275 rfl rfl rfl (by decide) (by decide) (by decide) (by decide) ?_
      rintro _ T422 L422 X422 ⟨rfl, N422, Kc422, E_b26_422, F_b26_droppedTotal_422, F_b26_end_422, F_b26_firsts_422, F_b26_head_422, F_b26_lasts_422, F_b26_totals_422, V_b99_0_422, V_b99_1_422, V_b99_2_422⟩
      have N422 := Fr.app N412 N422
      have O422 := O275.keep Kc422 (allS n_b99_0 (allS n_b99_1 (allS n_b99_2 (allS n_b26 all0))))
      show Go p e below _ (T422.setTop (mkF m 270 _ []))
      refine own_aload 272 X422 hx hby at_270 rfl rfl rfl ?_
      refine own_virt (W := 0) 275 (rm8_41 l Z a0 hw [] w_NONE k_NONE W b26 b99_0 k99_0 b99_1 k99_1 b99_2 k99_2 y13 y15 y17 ((0 : Int64) + y19) ((((0 : Int64) + y19) + y21) + y23) T422.heap n0 O422 E_b26_422 F_b26_droppedTotal_422 F_b26_end_422 F_b26_firsts_422 F_b26_head_422 F_b26_lasts_422 F_b26_totals_422 n_b26 V_b99_0_422 n_b99_0 V_b99_1_422 n_b99_1 V_b99_2_422 n_b99_2 ne_b26_b99_0 ne_b26_b99_1 ne_b26_b99_2 ne_b99_0_b99_1 ne_b99_0_b99_2 ne_b99_1_b99_2) X422 hx hby hZ hown (own_w hw 50 rfl) (own_w hw 51 rfl) (notFace_of_selects (args := #[]) (mvT hZ (own_w hw 53 rfl))) (own_w hw 53 rfl) (own_w hw 52 rfl) (own_w hw 3 rfl) (own_w hw 54 rfl) (by decide) (by rw [hml]; rfl) b26 [] [] pd_1 rfl at_272 rfl rfl E_b26_422 rfl rfl rfl (by decide) (by decide) (by decide) (by decide) ?_
      rintro _ T423 L423 X423 ⟨rfl, N423, e423⟩
      have N423 := Fr.app N422 N423
      show Go p e below _ (T423.setTop (mkF m 275 _ [(.long y17)]))
      refine own_lstore 277 #[oJ y0, oS, oJ y2, oS, oJ y4, oS, oJ y6, oS, oI x8, oI x9, oI x10, oI x11, oI x12, oJ y13, oS, oJ y15, oS, oJ y17, oS, oJ y19, oS, oJ y21, oS, oJ y23, oS, oA b26, oJ y17, oS, oJ y17, oS, oJ y17, oS, oJ y17, oS] X423 hx hby at_275 rfl rfl ?_
      refine own_lload 279 X423 hx hby at_277 rfl rfl ?_
      refine own_lload 281 X423 hx hby at_279 rfl rfl ?_
      refine own_lcmp 282 (XT.cmpL y17 y17) X423 hx hby at_281 rfl rfl ?_
      refine own_ifN 285 X423 hx hby at_282 rfl (own_teqL rfl).2 ?_
      refine own_iconst 286 (1 : Int32) X423 hx hby at_285 rfl (by decide) ?_
      refine own_goto 290 X423 hx hby at_286 (by decide) (by decide) ?_
      exact own_ret (Q := own_Q1 n0) X423 hx hby hret hlk at_290 rfl (Or.inl ⟨rfl, by simp, _, rfl⟩) (by decide) (by decide) ⟨rfl, N423⟩
    refine own_virt (W := 0) 270 (rm10_39 l Z a0 hw [] w_NONE k_NONE W b26 b99_0 k99_0 b99_1 k99_1 b99_2 k99_2 y13 y15 y17 ((0 : Int64) + y19) (((0 : Int64) + y19) + y21) ((((0 : Int64) + y19) + y21) + y23) T275.heap n0 O275 E_b26_275 F_b26_droppedTotal_275 F_b26_end_275 F_b26_firsts_275 F_b26_head_275 F_b26_lasts_275 F_b26_totals_275 n_b26 V_b99_0_275 n_b99_0 V_b99_1_275 n_b99_1 V_b99_2_275 n_b99_2 ne_b26_b99_0 ne_b26_b99_1 ne_b26_b99_2 ne_b99_0_b99_1 ne_b99_0_b99_2 ne_b99_1_b99_2 hc415 hc421) X412 hx hby hZ hown (own_w hw 61 rfl) (own_w hw 62 rfl) (notFace_of_selects (args := #[]) (mvT hZ (own_w hw 64 rfl))) (own_w hw 64 rfl) (own_w hw 63 rfl) (own_w hw 3 rfl) (own_w hw 65 rfl) (by decide) (by rw [hml]; rfl) b26 [] [] pd_0 rfl at_267 rfl e412 E_b26_275 rfl rfl rfl (by decide) (by decide) (by decide) (by decide) ?_
    rintro _ T424 L424 X424 ⟨rfl, N424, Kc424, E_b26_424, F_b26_droppedTotal_424, F_b26_end_424, F_b26_firsts_424, F_b26_head_424, F_b26_lasts_424, F_b26_totals_424, V_b99_0_424, V_b99_1_424, V_b99_2_424⟩
    have N424 := Fr.app N412 N424
    have O424 := O275.keep Kc424 (allS n_b99_0 (allS n_b26 all0))
    show Go p e below _ (T424.setTop (mkF m 270 _ []))
    refine own_aload 272 X424 hx hby at_270 rfl rfl rfl ?_
    refine own_virt (W := 0) 275 (rm8_42 l Z a0 hw [] w_NONE k_NONE W b26 b99_0 k99_0 b99_1 k99_1 b99_2 k99_2 y13 y15 y17 ((0 : Int64) + y19) (((0 : Int64) + y19) + y21) ((((0 : Int64) + y19) + y21) + y23) T424.heap n0 O424 E_b26_424 F_b26_droppedTotal_424 F_b26_end_424 F_b26_firsts_424 F_b26_head_424 F_b26_lasts_424 F_b26_totals_424 n_b26 V_b99_0_424 n_b99_0 V_b99_1_424 n_b99_1 V_b99_2_424 n_b99_2 ne_b26_b99_0 ne_b26_b99_1 ne_b26_b99_2 ne_b99_0_b99_1 ne_b99_0_b99_2 ne_b99_1_b99_2) X424 hx hby hZ hown (own_w hw 50 rfl) (own_w hw 51 rfl) (notFace_of_selects (args := #[]) (mvT hZ (own_w hw 53 rfl))) (own_w hw 53 rfl) (own_w hw 52 rfl) (own_w hw 3 rfl) (own_w hw 54 rfl) (by decide) (by rw [hml]; rfl) b26 [] [] pd_1 rfl at_272 rfl rfl E_b26_424 rfl rfl rfl (by decide) (by decide) (by decide) (by decide) ?_
    rintro _ T425 L425 X425 ⟨rfl, N425, e425⟩
    have N425 := Fr.app N424 N425
    show Go p e below _ (T425.setTop (mkF m 275 _ [(.long y17)]))
    refine own_lstore 277 #[oJ y0, oS, oJ y2, oS, oJ y4, oS, oJ y6, oS, oI x8, oI x9, oI x10, oI x11, oI x12, oJ y13, oS, oJ y15, oS, oJ y17, oS, oJ y19, oS, oJ y21, oS, oJ y23, oS, oA b26, oJ y17, oS, oJ y17, oS, oJ y17, oS, oJ y17, oS] X425 hx hby at_275 rfl rfl ?_
    refine own_lload 279 X425 hx hby at_277 rfl rfl ?_
    refine own_lload 281 X425 hx hby at_279 rfl rfl ?_
    refine own_lcmp 282 (XT.cmpL y17 y17) X425 hx hby at_281 rfl rfl ?_
    refine own_ifN 285 X425 hx hby at_282 rfl (own_teqL rfl).2 ?_
    refine own_iconst 286 (1 : Int32) X425 hx hby at_285 rfl (by decide) ?_
    refine own_goto 290 X425 hx hby at_286 (by decide) (by decide) ?_
    exact own_ret (Q := own_Q1 n0) X425 hx hby hret hlk at_290 rfl (Or.inl ⟨rfl, by simp, _, rfl⟩) (by decide) (by decide) ⟨rfl, N425⟩
  by_cases hc426 : y6 < y15
  · refine own_virt (W := 0) 233 (rm9_44 l Z a0 hw [] w_NONE k_NONE W b26 b99_0 k99_0 b99_1 k99_1 b99_2 k99_2 y6 y13 y15 y17 ((0 : Int64) + y19) (((0 : Int64) + y19) + y21) ((((0 : Int64) + y19) + y21) + y23) T275.heap n0 O275 E_b26_275 F_b26_droppedTotal_275 F_b26_end_275 F_b26_firsts_275 F_b26_head_275 F_b26_lasts_275 F_b26_totals_275 n_b26 V_b99_0_275 n_b99_0 V_b99_1_275 n_b99_1 V_b99_2_275 n_b99_2 ne_b26_b99_0 ne_b26_b99_1 ne_b26_b99_2 ne_b99_0_b99_1 ne_b99_0_b99_2 ne_b99_1_b99_2 hc411 hc426) X280 hx hby hZ hown (own_w hw 55 rfl) (own_w hw 56 rfl) (notFace_of_selects (args := #[]) (mvT hZ (own_w hw 58 rfl))) (own_w hw 58 rfl) (own_w hw 57 rfl) (own_w hw 3 rfl) (own_w hw 59 rfl) (by decide) (by rw [hml]; rfl) b26 [(.long y6)] [] pd_2 rfl at_230 rfl e280 E_b26_275 rfl rfl rfl (by decide) (by decide) (by decide) (by decide) ?_
    rintro _ T427 L427 X427 ⟨rfl, N427, Kc427, E_b26_427, F_b26_droppedTotal_427, F_b26_end_427, F_b26_firsts_427, F_b26_head_427, F_b26_lasts_427, F_b26_totals_427, V_b99_0_427, V_b99_1_427, V_b99_2_427⟩
    have N427 := Fr.app N280 N427
    have O427 := O275.keep Kc427 (allS n_b26 all0)
    show Go p e below _ (T427.setTop (mkF m 233 _ []))
    refine own_iload 235 X427 hx hby at_233 rfl rfl ?_
    refine own_ifN 238 X427 hx hby at_235 rfl ((if0 _ _).trans (tlt (by have : ((0 : Int32)).toInt = 0 := rfl; have : 3 ≤ (x10).toInt ∧ (x10).toInt ≤ 3 := own_bdI hc159 hq1; exact Int32.lt_iff_toInt_lt.mpr (by omega))).2.2.2) ?_
    refine own_lload 240 X427 hx hby at_238 rfl rfl ?_
    refine own_lload 242 X427 hx hby at_240 rfl rfl ?_
    refine own_lcmp 243 (XT.cmpL y17 y6) X427 hx hby at_242 rfl rfl ?_
    refine own_ifY 251 X427 hx hby at_243 (by decide) (by decide) (own_tltL (by have : -2 ^ 63 ≤ (y6).toInt ∧ (y6).toInt < 2 ^ 63 := own_rngJ y6; have : -2 ^ 63 ≤ (y17).toInt ∧ (y17).toInt < 2 ^ 63 := own_rngJ y17; have : -2 ^ 63 ≤ (y15).toInt ∧ (y15).toInt < 2 ^ 63 := own_rngJ y15; have : (y15).toInt < (y17).toInt := Int64.lt_iff_toInt_lt.mp hq4; have : (y6).toInt < (y15).toInt := Int64.lt_iff_toInt_lt.mp hc426; exact Int64.lt_iff_toInt_lt.mpr (by omega))).2.2.1 ?_
    refine own_iload 253 X427 hx hby at_251 rfl rfl ?_
    by_cases hc428 : x12 = (0 : Int32)
    · refine own_ifY 270 X427 hx hby at_253 (by decide) (by decide) ((if0 _ _).trans (teq hc428).1) ?_
      refine own_aload 272 X427 hx hby at_270 rfl rfl rfl ?_
      refine own_virt (W := 0) 275 (rm8_47 l Z a0 hw [] w_NONE k_NONE W b26 b99_0 k99_0 b99_1 k99_1 b99_2 k99_2 ((0 : Int64) + y19) y13 y15 y17 (((0 : Int64) + y19) + y21) ((((0 : Int64) + y19) + y21) + y23) T427.heap n0 O427 E_b26_427 F_b26_droppedTotal_427 F_b26_end_427 F_b26_firsts_427 F_b26_head_427 F_b26_lasts_427 F_b26_totals_427 n_b26 V_b99_0_427 n_b99_0 V_b99_1_427 n_b99_1 V_b99_2_427 n_b99_2 ne_b26_b99_0 ne_b26_b99_1 ne_b26_b99_2 ne_b99_0_b99_1 ne_b99_0_b99_2 ne_b99_1_b99_2) X427 hx hby hZ hown (own_w hw 50 rfl) (own_w hw 51 rfl) (notFace_of_selects (args := #[]) (mvT hZ (own_w hw 53 rfl))) (own_w hw 53 rfl) (own_w hw 52 rfl) (own_w hw 3 rfl) (own_w hw 54 rfl) (by decide) (by rw [hml]; rfl) b26 [] [] pd_1 rfl at_272 rfl rfl E_b26_427 rfl rfl rfl (by decide) (by decide) (by decide) (by decide) ?_
      rintro _ T433 L433 X433 ⟨rfl, N433, e433⟩
      have N433 := Fr.app N427 N433
      show Go p e below _ (T433.setTop (mkF m 275 _ [(.long y17)]))
      refine own_lstore 277 #[oJ y0, oS, oJ y2, oS, oJ y4, oS, oJ y6, oS, oI x8, oI x9, oI x10, oI x11, oI x12, oJ y13, oS, oJ y15, oS, oJ y17, oS, oJ y19, oS, oJ y21, oS, oJ y23, oS, oA b26, oJ y17, oS, oJ y17, oS, oJ y17, oS, oJ y17, oS] X433 hx hby at_275 rfl rfl ?_
      refine own_lload 279 X433 hx hby at_277 rfl rfl ?_
      refine own_lload 281 X433 hx hby at_279 rfl rfl ?_
      refine own_lcmp 282 (XT.cmpL y17 y17) X433 hx hby at_281 rfl rfl ?_
      refine own_ifN 285 X433 hx hby at_282 rfl (own_teqL rfl).2 ?_
      refine own_iconst 286 (1 : Int32) X433 hx hby at_285 rfl (by decide) ?_
      refine own_goto 290 X433 hx hby at_286 (by decide) (by decide) ?_
      exact own_ret (Q := own_Q1 n0) X433 hx hby hret hlk at_290 rfl (Or.inl ⟨rfl, by simp, _, rfl⟩) (by decide) (by decide) ⟨rfl, N433⟩
    refine own_ifN 256 X427 hx hby at_253 rfl ((if0 _ _).trans (feq hc428).1) ?_
    refine own_lload 258 X427 hx hby at_256 rfl rfl ?_
    refine own_ldc2 261 X427 hx hby hZ hown (own_w hw 60 rfl) at_258 rfl ?_
    refine own_lcmp 262 (XT.cmpL y17 (-1 : Int64)) X427 hx hby at_261 rfl rfl ?_
    refine own_ifN 265 X427 hx hby at_262 rfl (own_feqL (by have : -2 ^ 63 ≤ (y17).toInt ∧ (y17).toInt < 2 ^ 63 := own_rngJ y17; have : ((-1 : Int64)).toInt = -1 := rfl; have : -2 ^ 63 ≤ (y13).toInt ∧ (y13).toInt < 2 ^ 63 := own_rngJ y13; have : ((0 : Int64)).toInt = 0 := rfl; have : ¬ ((y13).toInt < ((0 : Int64)).toInt) := fun q => hq2 (Int64.lt_iff_toInt_lt.mpr q); have : -2 ^ 63 ≤ (y15).toInt ∧ (y15).toInt < 2 ^ 63 := own_rngJ y15; have : (y13).toInt < (y15).toInt := Int64.lt_iff_toInt_lt.mp hq3; have : (y15).toInt < (y17).toInt := Int64.lt_iff_toInt_lt.mp hq4; exact fun q => absurd (congrArg Int64.toInt q) (by omega))).1 ?_
    refine own_aload 267 X427 hx hby at_265 rfl rfl rfl ?_
    by_cases hc462 : (((2 : Int64) * ((((((0 : Int64) + y19) + y21) + y23) - ((((0 : Int64) + y19) + y21) + y23)) / (100 : Int64))) + (2 : Int64)) < (((((0 : Int64) + y19) + y21) + y23) - ((0 : Int64) + y19))
    · refine own_virt (W := 0) 270 (rm10_49 l Z a0 hw [] w_NONE k_NONE W b26 b99_0 k99_0 b99_1 k99_1 b99_2 k99_2 ((0 : Int64) + y19) y13 y15 y17 (((0 : Int64) + y19) + y21) ((((0 : Int64) + y19) + y21) + y23) T427.heap n0 O427 E_b26_427 F_b26_droppedTotal_427 F_b26_end_427 F_b26_firsts_427 F_b26_head_427 F_b26_lasts_427 F_b26_totals_427 n_b26 V_b99_0_427 n_b99_0 V_b99_1_427 n_b99_1 V_b99_2_427 n_b99_2 ne_b26_b99_0 ne_b26_b99_1 ne_b26_b99_2 ne_b99_0_b99_1 ne_b99_0_b99_2 ne_b99_1_b99_2 hc462) X427 hx hby hZ hown (own_w hw 61 rfl) (own_w hw 62 rfl) (notFace_of_selects (args := #[]) (mvT hZ (own_w hw 64 rfl))) (own_w hw 64 rfl) (own_w hw 63 rfl) (own_w hw 3 rfl) (own_w hw 65 rfl) (by decide) (by rw [hml]; rfl) b26 [] [] pd_0 rfl at_267 rfl rfl E_b26_427 rfl rfl rfl (by decide) (by decide) (by decide) (by decide) ?_
      rintro _ T463 L463 X463 ⟨rfl, N463, Kc463, E_b26_463, F_b26_droppedTotal_463, F_b26_end_463, F_b26_firsts_463, F_b26_head_463, F_b26_lasts_463, F_b26_totals_463, V_b99_0_463, V_b99_1_463, V_b99_2_463⟩
      have N463 := Fr.app N427 N463
      have O463 := O427.keep Kc463 (allS n_b99_0 (allS n_b99_1 (allS n_b99_2 (allS n_b26 all0))))
      show Go p e below _ (T463.setTop (mkF m 270 _ []))
      refine own_aload 272 X463 hx hby at_270 rfl rfl rfl ?_
      refine own_virt (W := 0) 275 (rm8_47 l Z a0 hw [] w_NONE k_NONE W b26 b99_0 k99_0 b99_1 k99_1 b99_2 k99_2 ((0 : Int64) + y19) y13 y15 y17 (((0 : Int64) + y19) + y21) ((((0 : Int64) + y19) + y21) + y23) T463.heap n0 O463 E_b26_463 F_b26_droppedTotal_463 F_b26_end_463 F_b26_firsts_463 F_b26_head_463 F_b26_lasts_463 F_b26_totals_463 n_b26 V_b99_0_463 n_b99_0 V_b99_1_463 n_b99_1 V_b99_2_463 n_b99_2 ne_b26_b99_0 ne_b26_b99_1 ne_b26_b99_2 ne_b99_0_b99_1 ne_b99_0_b99_2 ne_b99_1_b99_2) X463 hx hby hZ hown (own_w hw 50 rfl) (own_w hw 51 rfl) (notFace_of_selects (args := #[]) (mvT hZ (own_w hw 53 rfl))) (own_w hw 53 rfl) (own_w hw 52 rfl) (own_w hw 3 rfl) (own_w hw 54 rfl) (by decide) (by rw [hml]; rfl) b26 [] [] pd_1 rfl at_272 rfl rfl E_b26_463 rfl rfl rfl (by decide) (by decide) (by decide) (by decide) ?_
      rintro _ T464 L464 X464 ⟨rfl, N464, e464⟩
      have N464 := Fr.app N463 N464
      show Go p e below _ (T464.setTop (mkF m 275 _ [(.long y17)]))
      refine own_lstore 277 #[oJ y0, oS, oJ y2, oS, oJ y4, oS, oJ y6, oS, oI x8, oI x9, oI x10, oI x11, oI x12, oJ y13, oS, oJ y15, oS, oJ y17, oS, oJ y19, oS, oJ y21, oS, oJ y23, oS, oA b26, oJ y17, oS, oJ y17, oS, oJ y17, oS, oJ y17, oS] X464 hx hby at_275 rfl rfl ?_
      refine own_lload 279 X464 hx hby at_277 rfl rfl ?_
      refine own_lload 281 X464 hx hby at_279 rfl rfl ?_
      refine own_lcmp 282 (XT.cmpL y17 y17) X464 hx hby at_281 rfl rfl ?_
      refine own_ifN 285 X464 hx hby at_282 rfl (own_teqL rfl).2 ?_
      refine own_iconst 286 (1 : Int32) X464 hx hby at_285 rfl (by decide) ?_
      refine own_goto 290 X464 hx hby at_286 (by decide) (by decide) ?_
      exact own_ret (Q := own_Q1 n0) X464 hx hby hret hlk at_290 rfl (Or.inl ⟨rfl, by simp, _, rfl⟩) (by decide) (by decide) ⟨rfl, N464⟩
    refine own_virt (W := 0) 270 (rm10_50 l Z a0 hw [] w_NONE k_NONE W b26 b99_0 k99_0 b99_1 k99_1 b99_2 k99_2 ((0 : Int64) + y19) y13 y15 y17 (((0 : Int64) + y19) + y21) ((((0 : Int64) + y19) + y21) + y23) T427.heap n0 O427 E_b26_427 F_b26_droppedTotal_427 F_b26_end_427 F_b26_firsts_427 F_b26_head_427 F_b26_lasts_427 F_b26_totals_427 n_b26 V_b99_0_427 n_b99_0 V_b99_1_427 n_b99_1 V_b99_2_427 n_b99_2 ne_b26_b99_0 ne_b26_b99_1 ne_b26_b99_2 ne_b99_0_b99_1 ne_b99_0_b99_2 ne_b99_1_b99_2 hc462) X427 hx hby hZ hown (own_w hw 61 rfl) (own_w hw 62 rfl) (notFace_of_selects (args := #[]) (mvT hZ (own_w hw 64 rfl))) (own_w hw 64 rfl) (own_w hw 63 rfl) (own_w hw 3 rfl) (own_w hw 65 rfl) (by decide) (by rw [hml]; rfl) b26 [] [] pd_0 rfl at_267 rfl rfl E_b26_427 rfl rfl rfl (by decide) (by decide) (by decide) (by decide) ?_
    rintro _ T465 L465 X465 ⟨rfl, N465, Kc465, E_b26_465, F_b26_droppedTotal_465, F_b26_end_465, F_b26_firsts_465, F_b26_head_465, F_b26_lasts_465, F_b26_totals_465, V_b99_0_465, V_b99_1_465, V_b99_2_465⟩
    have N465 := Fr.app N427 N465
    have O465 := O427.keep Kc465 (allS n_b99_0 (allS n_b26 all0))
    show Go p e below _ (T465.setTop (mkF m 270 _ []))
    refine own_aload 272 X465 hx hby at_270 rfl rfl rfl ?_
    refine own_virt (W := 0) 275 (rm8_51 l Z a0 hw [] w_NONE k_NONE W b26 b99_0 k99_0 b99_1 k99_1 b99_2 k99_2 ((0 : Int64) + y19) y13 y15 y17 (((0 : Int64) + y19) + y21) ((((0 : Int64) + y19) + y21) + y23) T465.heap n0 O465 E_b26_465 F_b26_droppedTotal_465 F_b26_end_465 F_b26_firsts_465 F_b26_head_465 F_b26_lasts_465 F_b26_totals_465 n_b26 V_b99_0_465 n_b99_0 V_b99_1_465 n_b99_1 V_b99_2_465 n_b99_2 ne_b26_b99_0 ne_b26_b99_1 ne_b26_b99_2 ne_b99_0_b99_1 ne_b99_0_b99_2 ne_b99_1_b99_2) X465 hx hby hZ hown (own_w hw 50 rfl) (own_w hw 51 rfl) (notFace_of_selects (args := #[]) (mvT hZ (own_w hw 53 rfl))) (own_w hw 53 rfl) (own_w hw 52 rfl) (own_w hw 3 rfl) (own_w hw 54 rfl) (by decide) (by rw [hml]; rfl) b26 [] [] pd_1 rfl at_272 rfl rfl E_b26_465 rfl rfl rfl (by decide) (by decide) (by decide) (by decide) ?_
    rintro _ T470 L470 X470 ⟨rfl, N470, e470⟩
    have N470 := Fr.app N465 N470
    show Go p e below _ (T470.setTop (mkF m 275 _ [(.long y17)]))
    refine own_lstore 277 #[oJ y0, oS, oJ y2, oS, oJ y4, oS, oJ y6, oS, oI x8, oI x9, oI x10, oI x11, oI x12, oJ y13, oS, oJ y15, oS, oJ y17, oS, oJ y19, oS, oJ y21, oS, oJ y23, oS, oA b26, oJ y17, oS, oJ y17, oS, oJ y17, oS, oJ y17, oS] X470 hx hby at_275 rfl rfl ?_
    refine own_lload 279 X470 hx hby at_277 rfl rfl ?_
    refine own_lload 281 X470 hx hby at_279 rfl rfl ?_
    refine own_lcmp 282 (XT.cmpL y17 y17) X470 hx hby at_281 rfl rfl ?_
    refine own_ifN 285 X470 hx hby at_282 rfl (own_teqL rfl).2 ?_
    refine own_iconst 286 (1 : Int32) X470 hx hby at_285 rfl (by decide) ?_
    refine own_goto 290 X470 hx hby at_286 (by decide) (by decide) ?_
    exact own_ret (Q := own_Q1 n0) X470 hx hby hret hlk at_290 rfl (Or.inl ⟨rfl, by simp, _, rfl⟩) (by decide) (by decide) ⟨rfl, N470⟩
  by_cases hc471 : y6 < y17
  · refine own_virt (W := 0) 233 (rm9_45 l Z a0 hw [] w_NONE k_NONE W b26 b99_0 k99_0 b99_1 k99_1 b99_2 k99_2 y6 y13 y15 y17 ((0 : Int64) + y19) (((0 : Int64) + y19) + y21) ((((0 : Int64) + y19) + y21) + y23) T275.heap n0 O275 E_b26_275 F_b26_droppedTotal_275 F_b26_end_275 F_b26_firsts_275 F_b26_head_275 F_b26_lasts_275 F_b26_totals_275 n_b26 V_b99_0_275 n_b99_0 V_b99_1_275 n_b99_1 V_b99_2_275 n_b99_2 ne_b26_b99_0 ne_b26_b99_1 ne_b26_b99_2 ne_b99_0_b99_1 ne_b99_0_b99_2 ne_b99_1_b99_2 hc411 hc426 hc471) X280 hx hby hZ hown (own_w hw 55 rfl) (own_w hw 56 rfl) (notFace_of_selects (args := #[]) (mvT hZ (own_w hw 58 rfl))) (own_w hw 58 rfl) (own_w hw 57 rfl) (own_w hw 3 rfl) (own_w hw 59 rfl) (by decide) (by rw [hml]; rfl) b26 [(.long y6)] [] pd_2 rfl at_230 rfl e280 E_b26_275 rfl rfl rfl (by decide) (by decide) (by decide) (by decide) ?_
    rintro _ T472 L472 X472 ⟨rfl, N472, Kc472, E_b26_472, F_b26_droppedTotal_472, F_b26_end_472, F_b26_firsts_472, F_b26_head_472, F_b26_lasts_472, F_b26_totals_472, V_b99_0_472, V_b99_1_472, V_b99_2_472⟩
    have N472 := Fr.app N280 N472
    have O472 := O275.keep Kc472 (allS n_b26 all0)
    show Go p e below _ (T472.setTop (mkF m 233 _ []))
    refine own_iload 235 X472 hx hby at_233 rfl rfl ?_
    refine own_ifN 238 X472 hx hby at_235 rfl ((if0 _ _).trans (tlt (by have : ((0 : Int32)).toInt = 0 := rfl; have : 3 ≤ (x10).toInt ∧ (x10).toInt ≤ 3 := own_bdI hc159 hq1; exact Int32.lt_iff_toInt_lt.mpr (by omega))).2.2.2) ?_
    refine own_lload 240 X472 hx hby at_238 rfl rfl ?_
    refine own_lload 242 X472 hx hby at_240 rfl rfl ?_
    refine own_lcmp 243 (XT.cmpL y17 y6) X472 hx hby at_242 rfl rfl ?_
    refine own_ifY 251 X472 hx hby at_243 (by decide) (by decide) (own_tltL hc471).2.2.1 ?_
    refine own_iload 253 X472 hx hby at_251 rfl rfl ?_
    by_cases hc473 : x12 = (0 : Int32)
    · refine own_ifY 270 X472 hx hby at_253 (by decide) (by decide) ((if0 _ _).trans (teq hc473).1) ?_
      refine own_aload 272 X472 hx hby at_270 rfl rfl rfl ?_
      refine own_virt (W := 0) 275 (rm8_52 l Z a0 hw [] w_NONE k_NONE W b26 b99_0 k99_0 b99_1 k99_1 b99_2 k99_2 (((0 : Int64) + y19) + y21) y13 y15 y17 ((0 : Int64) + y19) ((((0 : Int64) + y19) + y21) + y23) T472.heap n0 O472 E_b26_472 F_b26_droppedTotal_472 F_b26_end_472 F_b26_firsts_472 F_b26_head_472 F_b26_lasts_472 F_b26_totals_472 n_b26 V_b99_0_472 n_b99_0 V_b99_1_472 n_b99_1 V_b99_2_472 n_b99_2 ne_b26_b99_0 ne_b26_b99_1 ne_b26_b99_2 ne_b99_0_b99_1 ne_b99_0_b99_2 ne_b99_1_b99_2) X472 hx hby hZ hown (own_w hw 50 rfl) (own_w hw 51 rfl) (notFace_of_selects (args := #[]) (mvT hZ (own_w hw 53 rfl))) (own_w hw 53 rfl) (own_w hw 52 rfl) (own_w hw 3 rfl) (own_w hw 54 rfl) (by decide) (by rw [hml]; rfl) b26 [] [] pd_1 rfl at_272 rfl rfl E_b26_472 rfl rfl rfl (by decide) (by decide) (by decide) (by decide) ?_
      rintro _ T478 L478 X478 ⟨rfl, N478, e478⟩
      have N478 := Fr.app N472 N478
      show Go p e below _ (T478.setTop (mkF m 275 _ [(.long y17)]))
      refine own_lstore 277 #[oJ y0, oS, oJ y2, oS, oJ y4, oS, oJ y6, oS, oI x8, oI x9, oI x10, oI x11, oI x12, oJ y13, oS, oJ y15, oS, oJ y17, oS, oJ y19, oS, oJ y21, oS, oJ y23, oS, oA b26, oJ y17, oS, oJ y17, oS, oJ y17, oS, oJ y17, oS] X478 hx hby at_275 rfl rfl ?_
      refine own_lload 279 X478 hx hby at_277 rfl rfl ?_
      refine own_lload 281 X478 hx hby at_279 rfl rfl ?_
      refine own_lcmp 282 (XT.cmpL y17 y17) X478 hx hby at_281 rfl rfl ?_
      refine own_ifN 285 X478 hx hby at_282 rfl (own_teqL rfl).2 ?_
      refine own_iconst 286 (1 : Int32) X478 hx hby at_285 rfl (by decide) ?_
      refine own_goto 290 X478 hx hby at_286 (by decide) (by decide) ?_
      exact own_ret (Q := own_Q1 n0) X478 hx hby hret hlk at_290 rfl (Or.inl ⟨rfl, by simp, _, rfl⟩) (by decide) (by decide) ⟨rfl, N478⟩
    refine own_ifN 256 X472 hx hby at_253 rfl ((if0 _ _).trans (feq hc473).1) ?_
    refine own_lload 258 X472 hx hby at_256 rfl rfl ?_
    refine own_ldc2 261 X472 hx hby hZ hown (own_w hw 60 rfl) at_258 rfl ?_
    refine own_lcmp 262 (XT.cmpL y17 (-1 : Int64)) X472 hx hby at_261 rfl rfl ?_
    refine own_ifN 265 X472 hx hby at_262 rfl (own_feqL (by have : -2 ^ 63 ≤ (y17).toInt ∧ (y17).toInt < 2 ^ 63 := own_rngJ y17; have : ((-1 : Int64)).toInt = -1 := rfl; have : -2 ^ 63 ≤ (y13).toInt ∧ (y13).toInt < 2 ^ 63 := own_rngJ y13; have : ((0 : Int64)).toInt = 0 := rfl; have : ¬ ((y13).toInt < ((0 : Int64)).toInt) := fun q => hq2 (Int64.lt_iff_toInt_lt.mpr q); have : -2 ^ 63 ≤ (y15).toInt ∧ (y15).toInt < 2 ^ 63 := own_rngJ y15; have : (y13).toInt < (y15).toInt := Int64.lt_iff_toInt_lt.mp hq3; have : (y15).toInt < (y17).toInt := Int64.lt_iff_toInt_lt.mp hq4; exact fun q => absurd (congrArg Int64.toInt q) (by omega))).1 ?_
    refine own_aload 267 X472 hx hby at_265 rfl rfl rfl ?_
    refine own_virt (W := 0) 270 (rm10_53 l Z a0 hw [] w_NONE k_NONE W b26 b99_0 k99_0 b99_1 k99_1 b99_2 k99_2 (((0 : Int64) + y19) + y21) y13 y15 y17 ((0 : Int64) + y19) ((((0 : Int64) + y19) + y21) + y23) T472.heap n0 O472 E_b26_472 F_b26_droppedTotal_472 F_b26_end_472 F_b26_firsts_472 F_b26_head_472 F_b26_lasts_472 F_b26_totals_472 n_b26 V_b99_0_472 n_b99_0 V_b99_1_472 n_b99_1 V_b99_2_472 n_b99_2 ne_b26_b99_0 ne_b26_b99_1 ne_b26_b99_2 ne_b99_0_b99_1 ne_b99_0_b99_2 ne_b99_1_b99_2) X472 hx hby hZ hown (own_w hw 61 rfl) (own_w hw 62 rfl) (notFace_of_selects (args := #[]) (mvT hZ (own_w hw 64 rfl))) (own_w hw 64 rfl) (own_w hw 63 rfl) (own_w hw 3 rfl) (own_w hw 65 rfl) (by decide) (by rw [hml]; rfl) b26 [] [] pd_0 rfl at_267 rfl rfl E_b26_472 rfl rfl rfl (by decide) (by decide) (by decide) (by decide) ?_
    rintro _ T485 L485 X485 ⟨rfl, N485, Kc485, E_b26_485, F_b26_droppedTotal_485, F_b26_end_485, F_b26_firsts_485, F_b26_head_485, F_b26_lasts_485, F_b26_totals_485, V_b99_0_485, V_b99_1_485, V_b99_2_485⟩
    have N485 := Fr.app N472 N485
    have O485 := O472.keep Kc485 (allS n_b26 all0)
    show Go p e below _ (T485.setTop (mkF m 270 _ []))
    refine own_aload 272 X485 hx hby at_270 rfl rfl rfl ?_
    refine own_virt (W := 0) 275 (rm8_52 l Z a0 hw [] w_NONE k_NONE W b26 b99_0 k99_0 b99_1 k99_1 b99_2 k99_2 (((0 : Int64) + y19) + y21) y13 y15 y17 ((0 : Int64) + y19) ((((0 : Int64) + y19) + y21) + y23) T485.heap n0 O485 E_b26_485 F_b26_droppedTotal_485 F_b26_end_485 F_b26_firsts_485 F_b26_head_485 F_b26_lasts_485 F_b26_totals_485 n_b26 V_b99_0_485 n_b99_0 V_b99_1_485 n_b99_1 V_b99_2_485 n_b99_2 ne_b26_b99_0 ne_b26_b99_1 ne_b26_b99_2 ne_b99_0_b99_1 ne_b99_0_b99_2 ne_b99_1_b99_2) X485 hx hby hZ hown (own_w hw 50 rfl) (own_w hw 51 rfl) (notFace_of_selects (args := #[]) (mvT hZ (own_w hw 53 rfl))) (own_w hw 53 rfl) (own_w hw 52 rfl) (own_w hw 3 rfl) (own_w hw 54 rfl) (by decide) (by rw [hml]; rfl) b26 [] [] pd_1 rfl at_272 rfl rfl E_b26_485 rfl rfl rfl (by decide) (by decide) (by decide) (by decide) ?_
    rintro _ T486 L486 X486 ⟨rfl, N486, e486⟩
    have N486 := Fr.app N485 N486
    show Go p e below _ (T486.setTop (mkF m 275 _ [(.long y17)]))
    refine own_lstore 277 #[oJ y0, oS, oJ y2, oS, oJ y4, oS, oJ y6, oS, oI x8, oI x9, oI x10, oI x11, oI x12, oJ y13, oS, oJ y15, oS, oJ y17, oS, oJ y19, oS, oJ y21, oS, oJ y23, oS, oA b26, oJ y17, oS, oJ y17, oS, oJ y17, oS, oJ y17, oS] X486 hx hby at_275 rfl rfl ?_
    refine own_lload 279 X486 hx hby at_277 rfl rfl ?_
    refine own_lload 281 X486 hx hby at_279 rfl rfl ?_
    refine own_lcmp 282 (XT.cmpL y17 y17) X486 hx hby at_281 rfl rfl ?_
    refine own_ifN 285 X486 hx hby at_282 rfl (own_teqL rfl).2 ?_
    refine own_iconst 286 (1 : Int32) X486 hx hby at_285 rfl (by decide) ?_
    refine own_goto 290 X486 hx hby at_286 (by decide) (by decide) ?_
    exact own_ret (Q := own_Q1 n0) X486 hx hby hret hlk at_290 rfl (Or.inl ⟨rfl, by simp, _, rfl⟩) (by decide) (by decide) ⟨rfl, N486⟩
  refine own_virt (W := 0) 233 (rm9_46 l Z a0 hw [] w_NONE k_NONE W b26 b99_0 k99_0 b99_1 k99_1 b99_2 k99_2 y6 y13 y15 y17 ((0 : Int64) + y19) (((0 : Int64) + y19) + y21) ((((0 : Int64) + y19) + y21) + y23) T275.heap n0 O275 E_b26_275 F_b26_droppedTotal_275 F_b26_end_275 F_b26_firsts_275 F_b26_head_275 F_b26_lasts_275 F_b26_totals_275 n_b26 V_b99_0_275 n_b99_0 V_b99_1_275 n_b99_1 V_b99_2_275 n_b99_2 ne_b26_b99_0 ne_b26_b99_1 ne_b26_b99_2 ne_b99_0_b99_1 ne_b99_0_b99_2 ne_b99_1_b99_2 hc411 hc426 hc471) X280 hx hby hZ hown (own_w hw 55 rfl) (own_w hw 56 rfl) (notFace_of_selects (args := #[]) (mvT hZ (own_w hw 58 rfl))) (own_w hw 58 rfl) (own_w hw 57 rfl) (own_w hw 3 rfl) (own_w hw 59 rfl) (by decide) (by rw [hml]; rfl) b26 [(.long y6)] [] pd_2 rfl at_230 rfl e280 E_b26_275 rfl rfl rfl (by decide) (by decide) (by decide) (by decide) ?_
  rintro _ T487 L487 X487 ⟨rfl, N487, Kc487, E_b26_487, F_b26_droppedTotal_487, F_b26_end_487, F_b26_firsts_487, F_b26_head_487, F_b26_lasts_487, F_b26_totals_487, V_b99_0_487, V_b99_1_487, V_b99_2_487⟩
  have N487 := Fr.app N280 N487
  have O487 := O275.keep Kc487 (allS n_b26 all0)
  show Go p e below _ (T487.setTop (mkF m 233 _ []))
  refine own_iload 235 X487 hx hby at_233 rfl rfl ?_
  refine own_ifN 238 X487 hx hby at_235 rfl ((if0 _ _).trans (tlt (by have : ((0 : Int32)).toInt = 0 := rfl; have : 3 ≤ (x10).toInt ∧ (x10).toInt ≤ 3 := own_bdI hc159 hq1; exact Int32.lt_iff_toInt_lt.mpr (by omega))).2.2.2) ?_
  refine own_lload 240 X487 hx hby at_238 rfl rfl ?_
  refine own_lload 242 X487 hx hby at_240 rfl rfl ?_
  refine own_lcmp 243 (XT.cmpL y17 y6) X487 hx hby at_242 rfl rfl ?_
  refine own_ifN 246 X487 hx hby at_243 rfl (own_fltL hc471).2.2.1 ?_
  refine own_ldc2 249 X487 hx hby hZ hown (own_w hw 60 rfl) at_246 rfl ?_
  refine own_lstore 251 #[oJ y0, oS, oJ y2, oS, oJ y4, oS, oJ y6, oS, oI x8, oI x9, oI x10, oI x11, oI x12, oJ y13, oS, oJ y15, oS, oJ y17, oS, oJ y19, oS, oJ y21, oS, oJ y23, oS, oA b26, oJ y17, oS, oJ y17, oS, oJ (-1 : Int64), oS, oU, oU] X487 hx hby at_249 rfl rfl ?_
  refine own_iload 253 X487 hx hby at_251 rfl rfl ?_
  by_cases hc488 : x12 = (0 : Int32)
  · refine own_ifY 270 X487 hx hby at_253 (by decide) (by decide) ((if0 _ _).trans (teq hc488).1) ?_
    refine own_aload 272 X487 hx hby at_270 rfl rfl rfl ?_
    refine own_virt (W := 0) 275 (rm8_54 l Z a0 hw [] w_NONE k_NONE W b26 b99_0 k99_0 b99_1 k99_1 b99_2 k99_2 ((((0 : Int64) + y19) + y21) + y23) y13 y15 y17 ((0 : Int64) + y19) (((0 : Int64) + y19) + y21) T487.heap n0 O487 E_b26_487 F_b26_droppedTotal_487 F_b26_end_487 F_b26_firsts_487 F_b26_head_487 F_b26_lasts_487 F_b26_totals_487 n_b26 V_b99_0_487 n_b99_0 V_b99_1_487 n_b99_1 V_b99_2_487 n_b99_2 ne_b26_b99_0 ne_b26_b99_1 ne_b26_b99_2 ne_b99_0_b99_1 ne_b99_0_b99_2 ne_b99_1_b99_2) X487 hx hby hZ hown (own_w hw 50 rfl) (own_w hw 51 rfl) (notFace_of_selects (args := #[]) (mvT hZ (own_w hw 53 rfl))) (own_w hw 53 rfl) (own_w hw 52 rfl) (own_w hw 3 rfl) (own_w hw 54 rfl) (by decide) (by rw [hml]; rfl) b26 [] [] pd_1 rfl at_272 rfl rfl E_b26_487 rfl rfl rfl (by decide) (by decide) (by decide) (by decide) ?_
    rintro _ T491 L491 X491 ⟨rfl, N491, e491⟩
    have N491 := Fr.app N487 N491
    show Go p e below _ (T491.setTop (mkF m 275 _ [(.long (-1 : Int64))]))
    refine own_lstore 277 #[oJ y0, oS, oJ y2, oS, oJ y4, oS, oJ y6, oS, oI x8, oI x9, oI x10, oI x11, oI x12, oJ y13, oS, oJ y15, oS, oJ y17, oS, oJ y19, oS, oJ y21, oS, oJ y23, oS, oA b26, oJ y17, oS, oJ y17, oS, oJ (-1 : Int64), oS, oJ (-1 : Int64), oS] X491 hx hby at_275 rfl rfl ?_
    refine own_lload 279 X491 hx hby at_277 rfl rfl ?_
    refine own_lload 281 X491 hx hby at_279 rfl rfl ?_
    refine own_lcmp 282 (0 : Int32) X491 hx hby at_281 rfl (by decide) ?_
    refine own_ifN 285 X491 hx hby at_282 rfl (by decide) ?_
    refine own_iconst 286 (1 : Int32) X491 hx hby at_285 rfl (by decide) ?_
    refine own_goto 290 X491 hx hby at_286 (by decide) (by decide) ?_
    exact own_ret (Q := own_Q1 n0) X491 hx hby hret hlk at_290 rfl (Or.inl ⟨rfl, by simp, _, rfl⟩) (by decide) (by decide) ⟨rfl, N491⟩
  refine own_ifN 256 X487 hx hby at_253 rfl ((if0 _ _).trans (feq hc488).1) ?_
  refine own_lload 258 X487 hx hby at_256 rfl rfl ?_
  refine own_ldc2 261 X487 hx hby hZ hown (own_w hw 60 rfl) at_258 rfl ?_
  refine own_lcmp 262 (0 : Int32) X487 hx hby at_261 rfl (by decide) ?_
  refine own_ifY 270 X487 hx hby at_262 (by decide) (by decide) (by decide) ?_
  refine own_aload 272 X487 hx hby at_270 rfl rfl rfl ?_
  refine own_virt (W := 0) 275 (rm8_54 l Z a0 hw [] w_NONE k_NONE W b26 b99_0 k99_0 b99_1 k99_1 b99_2 k99_2 ((((0 : Int64) + y19) + y21) + y23) y13 y15 y17 ((0 : Int64) + y19) (((0 : Int64) + y19) + y21) T487.heap n0 O487 E_b26_487 F_b26_droppedTotal_487 F_b26_end_487 F_b26_firsts_487 F_b26_head_487 F_b26_lasts_487 F_b26_totals_487 n_b26 V_b99_0_487 n_b99_0 V_b99_1_487 n_b99_1 V_b99_2_487 n_b99_2 ne_b26_b99_0 ne_b26_b99_1 ne_b26_b99_2 ne_b99_0_b99_1 ne_b99_0_b99_2 ne_b99_1_b99_2) X487 hx hby hZ hown (own_w hw 50 rfl) (own_w hw 51 rfl) (notFace_of_selects (args := #[]) (mvT hZ (own_w hw 53 rfl))) (own_w hw 53 rfl) (own_w hw 52 rfl) (own_w hw 3 rfl) (own_w hw 54 rfl) (by decide) (by rw [hml]; rfl) b26 [] [] pd_1 rfl at_272 rfl rfl E_b26_487 rfl rfl rfl (by decide) (by decide) (by decide) (by decide) ?_
  rintro _ T492 L492 X492 ⟨rfl, N492, e492⟩
  have N492 := Fr.app N487 N492
  show Go p e below _ (T492.setTop (mkF m 275 _ [(.long (-1 : Int64))]))
  refine own_lstore 277 #[oJ y0, oS, oJ y2, oS, oJ y4, oS, oJ y6, oS, oI x8, oI x9, oI x10, oI x11, oI x12, oJ y13, oS, oJ y15, oS, oJ y17, oS, oJ y19, oS, oJ y21, oS, oJ y23, oS, oA b26, oJ y17, oS, oJ y17, oS, oJ (-1 : Int64), oS, oJ (-1 : Int64), oS] X492 hx hby at_275 rfl rfl ?_
  refine own_lload 279 X492 hx hby at_277 rfl rfl ?_
  refine own_lload 281 X492 hx hby at_279 rfl rfl ?_
  refine own_lcmp 282 (0 : Int32) X492 hx hby at_281 rfl (by decide) ?_
  refine own_ifN 285 X492 hx hby at_282 rfl (by decide) ?_
  refine own_iconst 286 (1 : Int32) X492 hx hby at_285 rfl (by decide) ?_
  refine own_goto 290 X492 hx hby at_286 (by decide) (by decide) ?_
  exact own_ret (Q := own_Q1 n0) X492 hx hby hret hlk at_290 rfl (Or.inl ⟨rfl, by simp, _, rfl⟩) (by decide) (by decide) ⟨rfl, N492⟩
set_option maxRecDepth 65536 in
set_option maxHeartbeats 40000000 in
theorem rm0 (l : Launch) (Z : State) (a0 : Array Value) (hw : ∀ d ∈ tables_1, d.before a0 Z = true) (ws : List Jvm.Cond) (w_NONE k_NONE : Addr) (W : own_W Z w_NONE k_NONE) (q0 : Int64) (q1 : Int64) (q2 : Int64) (q3 : Int64) (x4 : Int32) (x5 : Int32) (h0 : Heap) (n0 : Nat) (O0 : Old Z n0 h0)  :
    MetFree l x (head1 (Jvm.Cond.code x code maxLocals ret :: ws) room_1) (fun a U => a = #[(.long q0), (.long q1), (.long q2), (.long q3), (.int x4), (.int x5)] ∧ Z.Warmed39 U.vm ∧ U.heap = h0) (fun _ _ _ _ _ => True) (fun _ U o U' => ∃ v L, o = .returned v ∧ own_Q1 n0 v U'.heap L ∧ FrameEnd U o U' L 16 192) := by
  refine MetFree.of_bodySF (plainFor_of_name pn_1) hisR ?_
  intro p e s m args below meth c s₁ Bd hml0 hP hK
  obtain ⟨rfl, hZ, hh⟩ := hP
  have hx := Bd.exec
  have hby := Bd.bytes
  have hml : c.maxLocals = 34 := hml0
  have hlk := BodyLoose.notSynchronized Bd
  have hret := Bd.returns
  have hown : s.vm.findClass "com/example/meter/meter/store/SpansNewestSecondPinLaw" = some m.cls := findClass_of_methodNamed Bd.named
  have hnm := (name_of_methodNamed Bd.named Bd.method).1
  have X0 : Stand p l e room_1 s m #[(.long q0), (.long q1), (.long q2), (.long q3), (.int x4), (.int x5)] below meth c s₁ [] 0 0 := Stand.of_body Bd
  have e0 : s₁.heap = h0 := by rw [← hh, Bd.state]; rfl
  have N0 := Fr.nil n0
  rw [ef_0 m q0 q1 q2 q3 x4 x5]
  show Go p e below _ (s₁.setTop (mkF m 0 #[oJ q0, oS, oJ q1, oS, oJ q2, oS, oJ q3, oS, oI x4, oI x5, oU, oU, oU, oU, oU, oU, oU, oU, oU, oU, oU, oU, oU, oU, oU, oU, oU, oU, oU, oU, oU, oU, oU, oU] []))
  refine own_iload 2 X0 hx hby at_0 rfl rfl ?_
  refine own_iconst 3 (3 : Int32) X0 hx hby at_2 rfl (by decide) ?_
  obtain ⟨v1, dv1⟩ : ∃ z, z = (x4 &&& (3 : Int32)) := ⟨_, rfl⟩
  refine own_iand 4 v1 X0 hx hby at_3 rfl dv1.symm ?_
  refine own_istore 6 #[oJ q0, oS, oJ q1, oS, oJ q2, oS, oJ q3, oS, oI x4, oI x5, oI v1, oU, oU, oU, oU, oU, oU, oU, oU, oU, oU, oU, oU, oU, oU, oU, oU, oU, oU, oU, oU, oU, oU, oU] X0 hx hby at_4 rfl rfl ?_
  refine own_iload 8 X0 hx hby at_6 rfl rfl ?_
  refine own_iconst 9 (2 : Int32) X0 hx hby at_8 rfl (by decide) ?_
  obtain ⟨v2, dv2⟩ : ∃ z, z = (XT.ushr x4 (2 : Int32)) := ⟨_, rfl⟩
  refine own_iushr 10 v2 X0 hx hby at_9 rfl dv2.symm ?_
  refine own_iconst 11 (1 : Int32) X0 hx hby at_10 rfl (by decide) ?_
  obtain ⟨v3, dv3⟩ : ∃ z, z = (v2 &&& (1 : Int32)) := ⟨_, rfl⟩
  refine own_iand 12 v3 X0 hx hby at_11 rfl dv3.symm ?_
  by_cases hc4 : v3 = (0 : Int32)
  · refine own_ifY 19 X0 hx hby at_12 (by decide) (by decide) ((if0 _ _).trans (teq hc4).1) ?_
    refine own_iconst 20 (0 : Int32) X0 hx hby at_19 rfl (by decide) ?_
    refine own_istore 22 #[oJ q0, oS, oJ q1, oS, oJ q2, oS, oJ q3, oS, oI x4, oI x5, oI v1, oI (0 : Int32), oU, oU, oU, oU, oU, oU, oU, oU, oU, oU, oU, oU, oU, oU, oU, oU, oU, oU, oU, oU, oU, oU] X0 hx hby at_20 rfl rfl ?_
    refine own_iload 24 X0 hx hby at_22 rfl rfl ?_
    refine own_iconst 25 (3 : Int32) X0 hx hby at_24 rfl (by decide) ?_
    obtain ⟨v5, dv5⟩ : ∃ z, z = (XT.ushr x4 (3 : Int32)) := ⟨_, rfl⟩
    refine own_iushr 26 v5 X0 hx hby at_25 rfl dv5.symm ?_
    refine own_iconst 27 (1 : Int32) X0 hx hby at_26 rfl (by decide) ?_
    obtain ⟨v6, dv6⟩ : ∃ z, z = (v5 &&& (1 : Int32)) := ⟨_, rfl⟩
    refine own_iand 28 v6 X0 hx hby at_27 rfl dv6.symm ?_
    by_cases hc7 : v6 = (0 : Int32)
    · refine own_ifY 35 X0 hx hby at_28 (by decide) (by decide) ((if0 _ _).trans (teq hc7).1) ?_
      refine own_iconst 36 (0 : Int32) X0 hx hby at_35 rfl (by decide) ?_
      refine own_istore 38 #[oJ q0, oS, oJ q1, oS, oJ q2, oS, oJ q3, oS, oI x4, oI x5, oI v1, oI (0 : Int32), oI (0 : Int32), oU, oU, oU, oU, oU, oU, oU, oU, oU, oU, oU, oU, oU, oU, oU, oU, oU, oU, oU, oU, oU] X0 hx hby at_36 rfl rfl ?_
      refine own_lload_n 39 X0 hx hby at_38 rfl rfl ?_
      refine own_ldc2 42 X0 hx hby hZ hown (own_w hw 0 rfl) at_39 rfl ?_
      obtain ⟨v8, dv8⟩ : ∃ z, z = (q0 &&& (2305843009213693951 : Int64)) := ⟨_, rfl⟩
      refine own_land 43 v8 X0 hx hby at_42 rfl dv8.symm ?_
      refine own_lstore 45 #[oJ q0, oS, oJ q1, oS, oJ q2, oS, oJ q3, oS, oI x4, oI x5, oI v1, oI (0 : Int32), oI (0 : Int32), oJ v8, oS, oU, oU, oU, oU, oU, oU, oU, oU, oU, oU, oU, oU, oU, oU, oU, oU, oU, oU, oU] X0 hx hby at_43 rfl rfl ?_
      refine own_lload 47 X0 hx hby at_45 rfl rfl ?_
      refine own_lconst 48 (1 : Int64) X0 hx hby at_47 rfl (by decide) ?_
      obtain ⟨v9, dv9⟩ : ∃ z, z = (v8 + (1 : Int64)) := ⟨_, rfl⟩
      refine own_ladd 49 v9 X0 hx hby at_48 rfl dv9.symm ?_
      refine own_lload_n 50 X0 hx hby at_49 rfl rfl ?_
      refine own_ldc2 53 X0 hx hby hZ hown (own_w hw 0 rfl) at_50 rfl ?_
      obtain ⟨v10, dv10⟩ : ∃ z, z = (q1 &&& (2305843009213693951 : Int64)) := ⟨_, rfl⟩
      refine own_land 54 v10 X0 hx hby at_53 rfl dv10.symm ?_
      obtain ⟨v11, dv11⟩ : ∃ z, z = (v9 + v10) := ⟨_, rfl⟩
      refine own_ladd 55 v11 X0 hx hby at_54 rfl dv11.symm ?_
      refine own_lstore 57 #[oJ q0, oS, oJ q1, oS, oJ q2, oS, oJ q3, oS, oI x4, oI x5, oI v1, oI (0 : Int32), oI (0 : Int32), oJ v8, oS, oJ v11, oS, oU, oU, oU, oU, oU, oU, oU, oU, oU, oU, oU, oU, oU, oU, oU, oU, oU] X0 hx hby at_55 rfl rfl ?_
      refine own_lload 59 X0 hx hby at_57 rfl rfl ?_
      refine own_lconst 60 (1 : Int64) X0 hx hby at_59 rfl (by decide) ?_
      obtain ⟨v12, dv12⟩ : ∃ z, z = (v11 + (1 : Int64)) := ⟨_, rfl⟩
      refine own_ladd 61 v12 X0 hx hby at_60 rfl dv12.symm ?_
      refine own_lload 63 X0 hx hby at_61 rfl rfl ?_
      refine own_ldc2 66 X0 hx hby hZ hown (own_w hw 0 rfl) at_63 rfl ?_
      obtain ⟨v13, dv13⟩ : ∃ z, z = (q2 &&& (2305843009213693951 : Int64)) := ⟨_, rfl⟩
      refine own_land 67 v13 X0 hx hby at_66 rfl dv13.symm ?_
      obtain ⟨v14, dv14⟩ : ∃ z, z = (v12 + v13) := ⟨_, rfl⟩
      refine own_ladd 68 v14 X0 hx hby at_67 rfl dv14.symm ?_
      refine own_lstore 70 #[oJ q0, oS, oJ q1, oS, oJ q2, oS, oJ q3, oS, oI x4, oI x5, oI v1, oI (0 : Int32), oI (0 : Int32), oJ v8, oS, oJ v11, oS, oJ v14, oS, oU, oU, oU, oU, oU, oU, oU, oU, oU, oU, oU, oU, oU, oU, oU] X0 hx hby at_68 rfl rfl ?_
      refine own_iload 72 X0 hx hby at_70 rfl rfl ?_
      refine own_sipush 75 (255 : Int32) X0 hx hby at_72 rfl (by decide) ?_
      obtain ⟨v15, dv15⟩ : ∃ z, z = (x5 &&& (255 : Int32)) := ⟨_, rfl⟩
      refine own_iand 76 v15 X0 hx hby at_75 rfl dv15.symm ?_
      refine own_iconst 77 (1 : Int32) X0 hx hby at_76 rfl (by decide) ?_
      obtain ⟨v16, dv16⟩ : ∃ z, z = (v15 + (1 : Int32)) := ⟨_, rfl⟩
      refine own_iadd 78 v16 X0 hx hby at_77 rfl dv16.symm ?_
      obtain ⟨v17, dv17⟩ : ∃ z, z = (v16).toInt64 := ⟨_, rfl⟩
      refine own_i2l 79 v17 X0 hx hby at_78 rfl dv17.symm ?_
      refine own_lstore 81 #[oJ q0, oS, oJ q1, oS, oJ q2, oS, oJ q3, oS, oI x4, oI x5, oI v1, oI (0 : Int32), oI (0 : Int32), oJ v8, oS, oJ v11, oS, oJ v14, oS, oJ v17, oS, oU, oU, oU, oU, oU, oU, oU, oU, oU, oU, oU, oU, oU] X0 hx hby at_79 rfl rfl ?_
      refine own_iload 83 X0 hx hby at_81 rfl rfl ?_
      refine own_bipush 85 (8 : Int32) X0 hx hby at_83 rfl (by decide) ?_
      obtain ⟨v18, dv18⟩ : ∃ z, z = (XT.ushr x5 (8 : Int32)) := ⟨_, rfl⟩
      refine own_iushr 86 v18 X0 hx hby at_85 rfl dv18.symm ?_
      refine own_sipush 89 (255 : Int32) X0 hx hby at_86 rfl (by decide) ?_
      obtain ⟨v19, dv19⟩ : ∃ z, z = (v18 &&& (255 : Int32)) := ⟨_, rfl⟩
      refine own_iand 90 v19 X0 hx hby at_89 rfl dv19.symm ?_
      refine own_iconst 91 (1 : Int32) X0 hx hby at_90 rfl (by decide) ?_
      obtain ⟨v20, dv20⟩ : ∃ z, z = (v19 + (1 : Int32)) := ⟨_, rfl⟩
      refine own_iadd 92 v20 X0 hx hby at_91 rfl dv20.symm ?_
      obtain ⟨v21, dv21⟩ : ∃ z, z = (v20).toInt64 := ⟨_, rfl⟩
      refine own_i2l 93 v21 X0 hx hby at_92 rfl dv21.symm ?_
      refine own_lstore 95 #[oJ q0, oS, oJ q1, oS, oJ q2, oS, oJ q3, oS, oI x4, oI x5, oI v1, oI (0 : Int32), oI (0 : Int32), oJ v8, oS, oJ v11, oS, oJ v14, oS, oJ v17, oS, oJ v21, oS, oU, oU, oU, oU, oU, oU, oU, oU, oU, oU, oU] X0 hx hby at_93 rfl rfl ?_
      refine own_iload 97 X0 hx hby at_95 rfl rfl ?_
      refine own_bipush 99 (16 : Int32) X0 hx hby at_97 rfl (by decide) ?_
      obtain ⟨v22, dv22⟩ : ∃ z, z = (XT.ushr x5 (16 : Int32)) := ⟨_, rfl⟩
      refine own_iushr 100 v22 X0 hx hby at_99 rfl dv22.symm ?_
      refine own_sipush 103 (255 : Int32) X0 hx hby at_100 rfl (by decide) ?_
      obtain ⟨v23, dv23⟩ : ∃ z, z = (v22 &&& (255 : Int32)) := ⟨_, rfl⟩
      refine own_iand 104 v23 X0 hx hby at_103 rfl dv23.symm ?_
      refine own_iconst 105 (1 : Int32) X0 hx hby at_104 rfl (by decide) ?_
      obtain ⟨v24, dv24⟩ : ∃ z, z = (v23 + (1 : Int32)) := ⟨_, rfl⟩
      refine own_iadd 106 v24 X0 hx hby at_105 rfl dv24.symm ?_
      obtain ⟨v25, dv25⟩ : ∃ z, z = (v24).toInt64 := ⟨_, rfl⟩
      refine own_i2l 107 v25 X0 hx hby at_106 rfl dv25.symm ?_
      refine own_lstore 109 #[oJ q0, oS, oJ q1, oS, oJ q2, oS, oJ q3, oS, oI x4, oI x5, oI v1, oI (0 : Int32), oI (0 : Int32), oJ v8, oS, oJ v11, oS, oJ v14, oS, oJ v17, oS, oJ v21, oS, oJ v25, oS, oU, oU, oU, oU, oU, oU, oU, oU, oU] X0 hx hby at_107 rfl rfl ?_
      exact cut_109_0 l Z a0 hw w_NONE k_NONE W q0 q1 q2 q3 x4 x5 v1 (0 : Int32) (0 : Int32) v8 v11 v14 v17 v21 v25 h0 n0 O0 (by have : 0 ≤ ((x4 &&& (3 : Int32))).toInt ∧ ((x4 &&& (3 : Int32))).toInt ≤ 3 := own_mkI x4 (3 : Int32) 2 (by decide) (by decide); have : (v1).toInt = ((x4 &&& (3 : Int32))).toInt := congrArg Int32.toInt dv1; have : ((0 : Int32)).toInt = 0 := rfl; exact fun q => absurd (Int32.lt_iff_toInt_lt.mp q) (by omega)) (by have : ((3 : Int32)).toInt = 3 := rfl; have : 0 ≤ ((x4 &&& (3 : Int32))).toInt ∧ ((x4 &&& (3 : Int32))).toInt ≤ 3 := own_mkI x4 (3 : Int32) 2 (by decide) (by decide); have : (v1).toInt = ((x4 &&& (3 : Int32))).toInt := congrArg Int32.toInt dv1; exact fun q => absurd (Int32.lt_iff_toInt_lt.mp q) (by omega)) (by have : 0 ≤ ((q0 &&& (2305843009213693951 : Int64))).toInt ∧ ((q0 &&& (2305843009213693951 : Int64))).toInt ≤ 2305843009213693951 := own_mkJ q0 (2305843009213693951 : Int64) 61 (by decide) (by decide); have : (v8).toInt = ((q0 &&& (2305843009213693951 : Int64))).toInt := congrArg Int64.toInt dv8; have : ((0 : Int64)).toInt = 0 := rfl; exact fun q => absurd (Int64.lt_iff_toInt_lt.mp q) (by omega)) (by have : 0 ≤ ((q0 &&& (2305843009213693951 : Int64))).toInt ∧ ((q0 &&& (2305843009213693951 : Int64))).toInt ≤ 2305843009213693951 := own_mkJ q0 (2305843009213693951 : Int64) 61 (by decide) (by decide); have : (v8).toInt = ((q0 &&& (2305843009213693951 : Int64))).toInt := congrArg Int64.toInt dv8; have : ((1 : Int64)).toInt = 1 := rfl; have : ((v8 + (1 : Int64))).toInt = (v8).toInt + ((1 : Int64)).toInt := Jvm.Kit.i64_add (by omega) (by omega); have : (v9).toInt = ((v8 + (1 : Int64))).toInt := congrArg Int64.toInt dv9; have : 0 ≤ ((q1 &&& (2305843009213693951 : Int64))).toInt ∧ ((q1 &&& (2305843009213693951 : Int64))).toInt ≤ 2305843009213693951 := own_mkJ q1 (2305843009213693951 : Int64) 61 (by decide) (by decide); have : (v10).toInt = ((q1 &&& (2305843009213693951 : Int64))).toInt := congrArg Int64.toInt dv10; have : ((v9 + v10)).toInt = (v9).toInt + (v10).toInt := Jvm.Kit.i64_add (by omega) (by omega); have : (v11).toInt = ((v9 + v10)).toInt := congrArg Int64.toInt dv11; exact Int64.lt_iff_toInt_lt.mpr (by omega)) (by have : 0 ≤ ((q0 &&& (2305843009213693951 : Int64))).toInt ∧ ((q0 &&& (2305843009213693951 : Int64))).toInt ≤ 2305843009213693951 := own_mkJ q0 (2305843009213693951 : Int64) 61 (by decide) (by decide); have : (v8).toInt = ((q0 &&& (2305843009213693951 : Int64))).toInt := congrArg Int64.toInt dv8; have : ((1 : Int64)).toInt = 1 := rfl; have : ((v8 + (1 : Int64))).toInt = (v8).toInt + ((1 : Int64)).toInt := Jvm.Kit.i64_add (by omega) (by omega); have : (v9).toInt = ((v8 + (1 : Int64))).toInt := congrArg Int64.toInt dv9; have : 0 ≤ ((q1 &&& (2305843009213693951 : Int64))).toInt ∧ ((q1 &&& (2305843009213693951 : Int64))).toInt ≤ 2305843009213693951 := own_mkJ q1 (2305843009213693951 : Int64) 61 (by decide) (by decide); have : (v10).toInt = ((q1 &&& (2305843009213693951 : Int64))).toInt := congrArg Int64.toInt dv10; have : ((v9 + v10)).toInt = (v9).toInt + (v10).toInt := Jvm.Kit.i64_add (by omega) (by omega); have : (v11).toInt = ((v9 + v10)).toInt := congrArg Int64.toInt dv11; have : ((v11 + (1 : Int64))).toInt = (v11).toInt + ((1 : Int64)).toInt := Jvm.Kit.i64_add (by omega) (by omega); have : (v12).toInt = ((v11 + (1 : Int64))).toInt := congrArg Int64.toInt dv12; have : 0 ≤ ((q2 &&& (2305843009213693951 : Int64))).toInt ∧ ((q2 &&& (2305843009213693951 : Int64))).toInt ≤ 2305843009213693951 := own_mkJ q2 (2305843009213693951 : Int64) 61 (by decide) (by decide); have : (v13).toInt = ((q2 &&& (2305843009213693951 : Int64))).toInt := congrArg Int64.toInt dv13; have : ((v12 + v13)).toInt = (v12).toInt + (v13).toInt := Jvm.Kit.i64_add (by omega) (by omega); have : (v14).toInt = ((v12 + v13)).toInt := congrArg Int64.toInt dv14; exact Int64.lt_iff_toInt_lt.mpr (by omega)) X0 hx hby hml hret hlk hZ hown e0 N0
    refine own_ifN 31 X0 hx hby at_28 rfl ((if0 _ _).trans (feq hc7).1) ?_
    refine own_iconst 32 (1 : Int32) X0 hx hby at_31 rfl (by decide) ?_
    refine own_goto 36 X0 hx hby at_32 (by decide) (by decide) ?_
    refine own_istore 38 #[oJ q0, oS, oJ q1, oS, oJ q2, oS, oJ q3, oS, oI x4, oI x5, oI v1, oI (0 : Int32), oI (1 : Int32), oU, oU, oU, oU, oU, oU, oU, oU, oU, oU, oU, oU, oU, oU, oU, oU, oU, oU, oU, oU, oU] X0 hx hby at_36 rfl rfl ?_
    refine own_lload_n 39 X0 hx hby at_38 rfl rfl ?_
    refine own_ldc2 42 X0 hx hby hZ hown (own_w hw 0 rfl) at_39 rfl ?_
    obtain ⟨v493, dv493⟩ : ∃ z, z = (q0 &&& (2305843009213693951 : Int64)) := ⟨_, rfl⟩
    refine own_land 43 v493 X0 hx hby at_42 rfl dv493.symm ?_
    refine own_lstore 45 #[oJ q0, oS, oJ q1, oS, oJ q2, oS, oJ q3, oS, oI x4, oI x5, oI v1, oI (0 : Int32), oI (1 : Int32), oJ v493, oS, oU, oU, oU, oU, oU, oU, oU, oU, oU, oU, oU, oU, oU, oU, oU, oU, oU, oU, oU] X0 hx hby at_43 rfl rfl ?_
    refine own_lload 47 X0 hx hby at_45 rfl rfl ?_
    refine own_lconst 48 (1 : Int64) X0 hx hby at_47 rfl (by decide) ?_
    obtain ⟨v494, dv494⟩ : ∃ z, z = (v493 + (1 : Int64)) := ⟨_, rfl⟩
    refine own_ladd 49 v494 X0 hx hby at_48 rfl dv494.symm ?_
    refine own_lload_n 50 X0 hx hby at_49 rfl rfl ?_
    refine own_ldc2 53 X0 hx hby hZ hown (own_w hw 0 rfl) at_50 rfl ?_
    obtain ⟨v495, dv495⟩ : ∃ z, z = (q1 &&& (2305843009213693951 : Int64)) := ⟨_, rfl⟩
    refine own_land 54 v495 X0 hx hby at_53 rfl dv495.symm ?_
    obtain ⟨v496, dv496⟩ : ∃ z, z = (v494 + v495) := ⟨_, rfl⟩
    refine own_ladd 55 v496 X0 hx hby at_54 rfl dv496.symm ?_
    refine own_lstore 57 #[oJ q0, oS, oJ q1, oS, oJ q2, oS, oJ q3, oS, oI x4, oI x5, oI v1, oI (0 : Int32), oI (1 : Int32), oJ v493, oS, oJ v496, oS, oU, oU, oU, oU, oU, oU, oU, oU, oU, oU, oU, oU, oU, oU, oU, oU, oU] X0 hx hby at_55 rfl rfl ?_
    refine own_lload 59 X0 hx hby at_57 rfl rfl ?_
    refine own_lconst 60 (1 : Int64) X0 hx hby at_59 rfl (by decide) ?_
    obtain ⟨v497, dv497⟩ : ∃ z, z = (v496 + (1 : Int64)) := ⟨_, rfl⟩
    refine own_ladd 61 v497 X0 hx hby at_60 rfl dv497.symm ?_
    refine own_lload 63 X0 hx hby at_61 rfl rfl ?_
    refine own_ldc2 66 X0 hx hby hZ hown (own_w hw 0 rfl) at_63 rfl ?_
    obtain ⟨v498, dv498⟩ : ∃ z, z = (q2 &&& (2305843009213693951 : Int64)) := ⟨_, rfl⟩
    refine own_land 67 v498 X0 hx hby at_66 rfl dv498.symm ?_
    obtain ⟨v499, dv499⟩ : ∃ z, z = (v497 + v498) := ⟨_, rfl⟩
    refine own_ladd 68 v499 X0 hx hby at_67 rfl dv499.symm ?_
    refine own_lstore 70 #[oJ q0, oS, oJ q1, oS, oJ q2, oS, oJ q3, oS, oI x4, oI x5, oI v1, oI (0 : Int32), oI (1 : Int32), oJ v493, oS, oJ v496, oS, oJ v499, oS, oU, oU, oU, oU, oU, oU, oU, oU, oU, oU, oU, oU, oU, oU, oU] X0 hx hby at_68 rfl rfl ?_
    refine own_iload 72 X0 hx hby at_70 rfl rfl ?_
    refine own_sipush 75 (255 : Int32) X0 hx hby at_72 rfl (by decide) ?_
    obtain ⟨v500, dv500⟩ : ∃ z, z = (x5 &&& (255 : Int32)) := ⟨_, rfl⟩
    refine own_iand 76 v500 X0 hx hby at_75 rfl dv500.symm ?_
    refine own_iconst 77 (1 : Int32) X0 hx hby at_76 rfl (by decide) ?_
    obtain ⟨v501, dv501⟩ : ∃ z, z = (v500 + (1 : Int32)) := ⟨_, rfl⟩
    refine own_iadd 78 v501 X0 hx hby at_77 rfl dv501.symm ?_
    obtain ⟨v502, dv502⟩ : ∃ z, z = (v501).toInt64 := ⟨_, rfl⟩
    refine own_i2l 79 v502 X0 hx hby at_78 rfl dv502.symm ?_
    refine own_lstore 81 #[oJ q0, oS, oJ q1, oS, oJ q2, oS, oJ q3, oS, oI x4, oI x5, oI v1, oI (0 : Int32), oI (1 : Int32), oJ v493, oS, oJ v496, oS, oJ v499, oS, oJ v502, oS, oU, oU, oU, oU, oU, oU, oU, oU, oU, oU, oU, oU, oU] X0 hx hby at_79 rfl rfl ?_
    refine own_iload 83 X0 hx hby at_81 rfl rfl ?_
    refine own_bipush 85 (8 : Int32) X0 hx hby at_83 rfl (by decide) ?_
    obtain ⟨v503, dv503⟩ : ∃ z, z = (XT.ushr x5 (8 : Int32)) := ⟨_, rfl⟩
    refine own_iushr 86 v503 X0 hx hby at_85 rfl dv503.symm ?_
    refine own_sipush 89 (255 : Int32) X0 hx hby at_86 rfl (by decide) ?_
    obtain ⟨v504, dv504⟩ : ∃ z, z = (v503 &&& (255 : Int32)) := ⟨_, rfl⟩
    refine own_iand 90 v504 X0 hx hby at_89 rfl dv504.symm ?_
    refine own_iconst 91 (1 : Int32) X0 hx hby at_90 rfl (by decide) ?_
    obtain ⟨v505, dv505⟩ : ∃ z, z = (v504 + (1 : Int32)) := ⟨_, rfl⟩
    refine own_iadd 92 v505 X0 hx hby at_91 rfl dv505.symm ?_
    obtain ⟨v506, dv506⟩ : ∃ z, z = (v505).toInt64 := ⟨_, rfl⟩
    refine own_i2l 93 v506 X0 hx hby at_92 rfl dv506.symm ?_
    refine own_lstore 95 #[oJ q0, oS, oJ q1, oS, oJ q2, oS, oJ q3, oS, oI x4, oI x5, oI v1, oI (0 : Int32), oI (1 : Int32), oJ v493, oS, oJ v496, oS, oJ v499, oS, oJ v502, oS, oJ v506, oS, oU, oU, oU, oU, oU, oU, oU, oU, oU, oU, oU] X0 hx hby at_93 rfl rfl ?_
    refine own_iload 97 X0 hx hby at_95 rfl rfl ?_
    refine own_bipush 99 (16 : Int32) X0 hx hby at_97 rfl (by decide) ?_
    obtain ⟨v507, dv507⟩ : ∃ z, z = (XT.ushr x5 (16 : Int32)) := ⟨_, rfl⟩
    refine own_iushr 100 v507 X0 hx hby at_99 rfl dv507.symm ?_
    refine own_sipush 103 (255 : Int32) X0 hx hby at_100 rfl (by decide) ?_
    obtain ⟨v508, dv508⟩ : ∃ z, z = (v507 &&& (255 : Int32)) := ⟨_, rfl⟩
    refine own_iand 104 v508 X0 hx hby at_103 rfl dv508.symm ?_
    refine own_iconst 105 (1 : Int32) X0 hx hby at_104 rfl (by decide) ?_
    obtain ⟨v509, dv509⟩ : ∃ z, z = (v508 + (1 : Int32)) := ⟨_, rfl⟩
    refine own_iadd 106 v509 X0 hx hby at_105 rfl dv509.symm ?_
    obtain ⟨v510, dv510⟩ : ∃ z, z = (v509).toInt64 := ⟨_, rfl⟩
    refine own_i2l 107 v510 X0 hx hby at_106 rfl dv510.symm ?_
    refine own_lstore 109 #[oJ q0, oS, oJ q1, oS, oJ q2, oS, oJ q3, oS, oI x4, oI x5, oI v1, oI (0 : Int32), oI (1 : Int32), oJ v493, oS, oJ v496, oS, oJ v499, oS, oJ v502, oS, oJ v506, oS, oJ v510, oS, oU, oU, oU, oU, oU, oU, oU, oU, oU] X0 hx hby at_107 rfl rfl ?_
    exact cut_109_0 l Z a0 hw w_NONE k_NONE W q0 q1 q2 q3 x4 x5 v1 (0 : Int32) (1 : Int32) v493 v496 v499 v502 v506 v510 h0 n0 O0 (by have : 0 ≤ ((x4 &&& (3 : Int32))).toInt ∧ ((x4 &&& (3 : Int32))).toInt ≤ 3 := own_mkI x4 (3 : Int32) 2 (by decide) (by decide); have : (v1).toInt = ((x4 &&& (3 : Int32))).toInt := congrArg Int32.toInt dv1; have : ((0 : Int32)).toInt = 0 := rfl; exact fun q => absurd (Int32.lt_iff_toInt_lt.mp q) (by omega)) (by have : ((3 : Int32)).toInt = 3 := rfl; have : 0 ≤ ((x4 &&& (3 : Int32))).toInt ∧ ((x4 &&& (3 : Int32))).toInt ≤ 3 := own_mkI x4 (3 : Int32) 2 (by decide) (by decide); have : (v1).toInt = ((x4 &&& (3 : Int32))).toInt := congrArg Int32.toInt dv1; exact fun q => absurd (Int32.lt_iff_toInt_lt.mp q) (by omega)) (by have : 0 ≤ ((q0 &&& (2305843009213693951 : Int64))).toInt ∧ ((q0 &&& (2305843009213693951 : Int64))).toInt ≤ 2305843009213693951 := own_mkJ q0 (2305843009213693951 : Int64) 61 (by decide) (by decide); have : (v493).toInt = ((q0 &&& (2305843009213693951 : Int64))).toInt := congrArg Int64.toInt dv493; have : ((0 : Int64)).toInt = 0 := rfl; exact fun q => absurd (Int64.lt_iff_toInt_lt.mp q) (by omega)) (by have : 0 ≤ ((q0 &&& (2305843009213693951 : Int64))).toInt ∧ ((q0 &&& (2305843009213693951 : Int64))).toInt ≤ 2305843009213693951 := own_mkJ q0 (2305843009213693951 : Int64) 61 (by decide) (by decide); have : (v493).toInt = ((q0 &&& (2305843009213693951 : Int64))).toInt := congrArg Int64.toInt dv493; have : ((1 : Int64)).toInt = 1 := rfl; have : ((v493 + (1 : Int64))).toInt = (v493).toInt + ((1 : Int64)).toInt := Jvm.Kit.i64_add (by omega) (by omega); have : (v494).toInt = ((v493 + (1 : Int64))).toInt := congrArg Int64.toInt dv494; have : 0 ≤ ((q1 &&& (2305843009213693951 : Int64))).toInt ∧ ((q1 &&& (2305843009213693951 : Int64))).toInt ≤ 2305843009213693951 := own_mkJ q1 (2305843009213693951 : Int64) 61 (by decide) (by decide); have : (v495).toInt = ((q1 &&& (2305843009213693951 : Int64))).toInt := congrArg Int64.toInt dv495; have : ((v494 + v495)).toInt = (v494).toInt + (v495).toInt := Jvm.Kit.i64_add (by omega) (by omega); have : (v496).toInt = ((v494 + v495)).toInt := congrArg Int64.toInt dv496; exact Int64.lt_iff_toInt_lt.mpr (by omega)) (by have : 0 ≤ ((q0 &&& (2305843009213693951 : Int64))).toInt ∧ ((q0 &&& (2305843009213693951 : Int64))).toInt ≤ 2305843009213693951 := own_mkJ q0 (2305843009213693951 : Int64) 61 (by decide) (by decide); have : (v493).toInt = ((q0 &&& (2305843009213693951 : Int64))).toInt := congrArg Int64.toInt dv493; have : ((1 : Int64)).toInt = 1 := rfl; have : ((v493 + (1 : Int64))).toInt = (v493).toInt + ((1 : Int64)).toInt := Jvm.Kit.i64_add (by omega) (by omega); have : (v494).toInt = ((v493 + (1 : Int64))).toInt := congrArg Int64.toInt dv494; have : 0 ≤ ((q1 &&& (2305843009213693951 : Int64))).toInt ∧ ((q1 &&& (2305843009213693951 : Int64))).toInt ≤ 2305843009213693951 := own_mkJ q1 (2305843009213693951 : Int64) 61 (by decide) (by decide); have : (v495).toInt = ((q1 &&& (2305843009213693951 : Int64))).toInt := congrArg Int64.toInt dv495; have : ((v494 + v495)).toInt = (v494).toInt + (v495).toInt := Jvm.Kit.i64_add (by omega) (by omega); have : (v496).toInt = ((v494 + v495)).toInt := congrArg Int64.toInt dv496; have : ((v496 + (1 : Int64))).toInt = (v496).toInt + ((1 : Int64)).toInt := Jvm.Kit.i64_add (by omega) (by omega); have : (v497).toInt = ((v496 + (1 : Int64))).toInt := congrArg Int64.toInt dv497; have : 0 ≤ ((q2 &&& (2305843009213693951 : Int64))).toInt ∧ ((q2 &&& (2305843009213693951 : Int64))).toInt ≤ 2305843009213693951 := own_mkJ q2 (2305843009213693951 : Int64) 61 (by decide) (by decide); have : (v498).toInt = ((q2 &&& (2305843009213693951 : Int64))).toInt := congrArg Int64.toInt dv498; have : ((v497 + v498)).toInt = (v497).toInt + (v498).toInt := Jvm.Kit.i64_add (by omega) (by omega); have : (v499).toInt = ((v497 + v498)).toInt := congrArg Int64.toInt dv499; exact Int64.lt_iff_toInt_lt.mpr (by omega)) X0 hx hby hml hret hlk hZ hown e0 N0
  refine own_ifN 15 X0 hx hby at_12 rfl ((if0 _ _).trans (feq hc4).1) ?_
  refine own_iconst 16 (1 : Int32) X0 hx hby at_15 rfl (by decide) ?_
  refine own_goto 20 X0 hx hby at_16 (by decide) (by decide) ?_
  refine own_istore 22 #[oJ q0, oS, oJ q1, oS, oJ q2, oS, oJ q3, oS, oI x4, oI x5, oI v1, oI (1 : Int32), oU, oU, oU, oU, oU, oU, oU, oU, oU, oU, oU, oU, oU, oU, oU, oU, oU, oU, oU, oU, oU, oU] X0 hx hby at_20 rfl rfl ?_
  refine own_iload 24 X0 hx hby at_22 rfl rfl ?_
  refine own_iconst 25 (3 : Int32) X0 hx hby at_24 rfl (by decide) ?_
  obtain ⟨v511, dv511⟩ : ∃ z, z = (XT.ushr x4 (3 : Int32)) := ⟨_, rfl⟩
  refine own_iushr 26 v511 X0 hx hby at_25 rfl dv511.symm ?_
  refine own_iconst 27 (1 : Int32) X0 hx hby at_26 rfl (by decide) ?_
  obtain ⟨v512, dv512⟩ : ∃ z, z = (v511 &&& (1 : Int32)) := ⟨_, rfl⟩
  refine own_iand 28 v512 X0 hx hby at_27 rfl dv512.symm ?_
  by_cases hc513 : v512 = (0 : Int32)
  · refine own_ifY 35 X0 hx hby at_28 (by decide) (by decide) ((if0 _ _).trans (teq hc513).1) ?_
    refine own_iconst 36 (0 : Int32) X0 hx hby at_35 rfl (by decide) ?_
    refine own_istore 38 #[oJ q0, oS, oJ q1, oS, oJ q2, oS, oJ q3, oS, oI x4, oI x5, oI v1, oI (1 : Int32), oI (0 : Int32), oU, oU, oU, oU, oU, oU, oU, oU, oU, oU, oU, oU, oU, oU, oU, oU, oU, oU, oU, oU, oU] X0 hx hby at_36 rfl rfl ?_
    refine own_lload_n 39 X0 hx hby at_38 rfl rfl ?_
    refine own_ldc2 42 X0 hx hby hZ hown (own_w hw 0 rfl) at_39 rfl ?_
    obtain ⟨v514, dv514⟩ : ∃ z, z = (q0 &&& (2305843009213693951 : Int64)) := ⟨_, rfl⟩
    refine own_land 43 v514 X0 hx hby at_42 rfl dv514.symm ?_
    refine own_lstore 45 #[oJ q0, oS, oJ q1, oS, oJ q2, oS, oJ q3, oS, oI x4, oI x5, oI v1, oI (1 : Int32), oI (0 : Int32), oJ v514, oS, oU, oU, oU, oU, oU, oU, oU, oU, oU, oU, oU, oU, oU, oU, oU, oU, oU, oU, oU] X0 hx hby at_43 rfl rfl ?_
    refine own_lload 47 X0 hx hby at_45 rfl rfl ?_
    refine own_lconst 48 (1 : Int64) X0 hx hby at_47 rfl (by decide) ?_
    obtain ⟨v515, dv515⟩ : ∃ z, z = (v514 + (1 : Int64)) := ⟨_, rfl⟩
    refine own_ladd 49 v515 X0 hx hby at_48 rfl dv515.symm ?_
    refine own_lload_n 50 X0 hx hby at_49 rfl rfl ?_
    refine own_ldc2 53 X0 hx hby hZ hown (own_w hw 0 rfl) at_50 rfl ?_
    obtain ⟨v516, dv516⟩ : ∃ z, z = (q1 &&& (2305843009213693951 : Int64)) := ⟨_, rfl⟩
    refine own_land 54 v516 X0 hx hby at_53 rfl dv516.symm ?_
    obtain ⟨v517, dv517⟩ : ∃ z, z = (v515 + v516) := ⟨_, rfl⟩
    refine own_ladd 55 v517 X0 hx hby at_54 rfl dv517.symm ?_
    refine own_lstore 57 #[oJ q0, oS, oJ q1, oS, oJ q2, oS, oJ q3, oS, oI x4, oI x5, oI v1, oI (1 : Int32), oI (0 : Int32), oJ v514, oS, oJ v517, oS, oU, oU, oU, oU, oU, oU, oU, oU, oU, oU, oU, oU, oU, oU, oU, oU, oU] X0 hx hby at_55 rfl rfl ?_
    refine own_lload 59 X0 hx hby at_57 rfl rfl ?_
    refine own_lconst 60 (1 : Int64) X0 hx hby at_59 rfl (by decide) ?_
    obtain ⟨v518, dv518⟩ : ∃ z, z = (v517 + (1 : Int64)) := ⟨_, rfl⟩
    refine own_ladd 61 v518 X0 hx hby at_60 rfl dv518.symm ?_
    refine own_lload 63 X0 hx hby at_61 rfl rfl ?_
    refine own_ldc2 66 X0 hx hby hZ hown (own_w hw 0 rfl) at_63 rfl ?_
    obtain ⟨v519, dv519⟩ : ∃ z, z = (q2 &&& (2305843009213693951 : Int64)) := ⟨_, rfl⟩
    refine own_land 67 v519 X0 hx hby at_66 rfl dv519.symm ?_
    obtain ⟨v520, dv520⟩ : ∃ z, z = (v518 + v519) := ⟨_, rfl⟩
    refine own_ladd 68 v520 X0 hx hby at_67 rfl dv520.symm ?_
    refine own_lstore 70 #[oJ q0, oS, oJ q1, oS, oJ q2, oS, oJ q3, oS, oI x4, oI x5, oI v1, oI (1 : Int32), oI (0 : Int32), oJ v514, oS, oJ v517, oS, oJ v520, oS, oU, oU, oU, oU, oU, oU, oU, oU, oU, oU, oU, oU, oU, oU, oU] X0 hx hby at_68 rfl rfl ?_
    refine own_iload 72 X0 hx hby at_70 rfl rfl ?_
    refine own_sipush 75 (255 : Int32) X0 hx hby at_72 rfl (by decide) ?_
    obtain ⟨v521, dv521⟩ : ∃ z, z = (x5 &&& (255 : Int32)) := ⟨_, rfl⟩
    refine own_iand 76 v521 X0 hx hby at_75 rfl dv521.symm ?_
    refine own_iconst 77 (1 : Int32) X0 hx hby at_76 rfl (by decide) ?_
    obtain ⟨v522, dv522⟩ : ∃ z, z = (v521 + (1 : Int32)) := ⟨_, rfl⟩
    refine own_iadd 78 v522 X0 hx hby at_77 rfl dv522.symm ?_
    obtain ⟨v523, dv523⟩ : ∃ z, z = (v522).toInt64 := ⟨_, rfl⟩
    refine own_i2l 79 v523 X0 hx hby at_78 rfl dv523.symm ?_
    refine own_lstore 81 #[oJ q0, oS, oJ q1, oS, oJ q2, oS, oJ q3, oS, oI x4, oI x5, oI v1, oI (1 : Int32), oI (0 : Int32), oJ v514, oS, oJ v517, oS, oJ v520, oS, oJ v523, oS, oU, oU, oU, oU, oU, oU, oU, oU, oU, oU, oU, oU, oU] X0 hx hby at_79 rfl rfl ?_
    refine own_iload 83 X0 hx hby at_81 rfl rfl ?_
    refine own_bipush 85 (8 : Int32) X0 hx hby at_83 rfl (by decide) ?_
    obtain ⟨v524, dv524⟩ : ∃ z, z = (XT.ushr x5 (8 : Int32)) := ⟨_, rfl⟩
    refine own_iushr 86 v524 X0 hx hby at_85 rfl dv524.symm ?_
    refine own_sipush 89 (255 : Int32) X0 hx hby at_86 rfl (by decide) ?_
    obtain ⟨v525, dv525⟩ : ∃ z, z = (v524 &&& (255 : Int32)) := ⟨_, rfl⟩
    refine own_iand 90 v525 X0 hx hby at_89 rfl dv525.symm ?_
    refine own_iconst 91 (1 : Int32) X0 hx hby at_90 rfl (by decide) ?_
    obtain ⟨v526, dv526⟩ : ∃ z, z = (v525 + (1 : Int32)) := ⟨_, rfl⟩
    refine own_iadd 92 v526 X0 hx hby at_91 rfl dv526.symm ?_
    obtain ⟨v527, dv527⟩ : ∃ z, z = (v526).toInt64 := ⟨_, rfl⟩
    refine own_i2l 93 v527 X0 hx hby at_92 rfl dv527.symm ?_
    refine own_lstore 95 #[oJ q0, oS, oJ q1, oS, oJ q2, oS, oJ q3, oS, oI x4, oI x5, oI v1, oI (1 : Int32), oI (0 : Int32), oJ v514, oS, oJ v517, oS, oJ v520, oS, oJ v523, oS, oJ v527, oS, oU, oU, oU, oU, oU, oU, oU, oU, oU, oU, oU] X0 hx hby at_93 rfl rfl ?_
    refine own_iload 97 X0 hx hby at_95 rfl rfl ?_
    refine own_bipush 99 (16 : Int32) X0 hx hby at_97 rfl (by decide) ?_
    obtain ⟨v528, dv528⟩ : ∃ z, z = (XT.ushr x5 (16 : Int32)) := ⟨_, rfl⟩
    refine own_iushr 100 v528 X0 hx hby at_99 rfl dv528.symm ?_
    refine own_sipush 103 (255 : Int32) X0 hx hby at_100 rfl (by decide) ?_
    obtain ⟨v529, dv529⟩ : ∃ z, z = (v528 &&& (255 : Int32)) := ⟨_, rfl⟩
    refine own_iand 104 v529 X0 hx hby at_103 rfl dv529.symm ?_
    refine own_iconst 105 (1 : Int32) X0 hx hby at_104 rfl (by decide) ?_
    obtain ⟨v530, dv530⟩ : ∃ z, z = (v529 + (1 : Int32)) := ⟨_, rfl⟩
    refine own_iadd 106 v530 X0 hx hby at_105 rfl dv530.symm ?_
    obtain ⟨v531, dv531⟩ : ∃ z, z = (v530).toInt64 := ⟨_, rfl⟩
    refine own_i2l 107 v531 X0 hx hby at_106 rfl dv531.symm ?_
    refine own_lstore 109 #[oJ q0, oS, oJ q1, oS, oJ q2, oS, oJ q3, oS, oI x4, oI x5, oI v1, oI (1 : Int32), oI (0 : Int32), oJ v514, oS, oJ v517, oS, oJ v520, oS, oJ v523, oS, oJ v527, oS, oJ v531, oS, oU, oU, oU, oU, oU, oU, oU, oU, oU] X0 hx hby at_107 rfl rfl ?_
    exact cut_109_0 l Z a0 hw w_NONE k_NONE W q0 q1 q2 q3 x4 x5 v1 (1 : Int32) (0 : Int32) v514 v517 v520 v523 v527 v531 h0 n0 O0 (by have : 0 ≤ ((x4 &&& (3 : Int32))).toInt ∧ ((x4 &&& (3 : Int32))).toInt ≤ 3 := own_mkI x4 (3 : Int32) 2 (by decide) (by decide); have : (v1).toInt = ((x4 &&& (3 : Int32))).toInt := congrArg Int32.toInt dv1; have : ((0 : Int32)).toInt = 0 := rfl; exact fun q => absurd (Int32.lt_iff_toInt_lt.mp q) (by omega)) (by have : ((3 : Int32)).toInt = 3 := rfl; have : 0 ≤ ((x4 &&& (3 : Int32))).toInt ∧ ((x4 &&& (3 : Int32))).toInt ≤ 3 := own_mkI x4 (3 : Int32) 2 (by decide) (by decide); have : (v1).toInt = ((x4 &&& (3 : Int32))).toInt := congrArg Int32.toInt dv1; exact fun q => absurd (Int32.lt_iff_toInt_lt.mp q) (by omega)) (by have : 0 ≤ ((q0 &&& (2305843009213693951 : Int64))).toInt ∧ ((q0 &&& (2305843009213693951 : Int64))).toInt ≤ 2305843009213693951 := own_mkJ q0 (2305843009213693951 : Int64) 61 (by decide) (by decide); have : (v514).toInt = ((q0 &&& (2305843009213693951 : Int64))).toInt := congrArg Int64.toInt dv514; have : ((0 : Int64)).toInt = 0 := rfl; exact fun q => absurd (Int64.lt_iff_toInt_lt.mp q) (by omega)) (by have : 0 ≤ ((q0 &&& (2305843009213693951 : Int64))).toInt ∧ ((q0 &&& (2305843009213693951 : Int64))).toInt ≤ 2305843009213693951 := own_mkJ q0 (2305843009213693951 : Int64) 61 (by decide) (by decide); have : (v514).toInt = ((q0 &&& (2305843009213693951 : Int64))).toInt := congrArg Int64.toInt dv514; have : ((1 : Int64)).toInt = 1 := rfl; have : ((v514 + (1 : Int64))).toInt = (v514).toInt + ((1 : Int64)).toInt := Jvm.Kit.i64_add (by omega) (by omega); have : (v515).toInt = ((v514 + (1 : Int64))).toInt := congrArg Int64.toInt dv515; have : 0 ≤ ((q1 &&& (2305843009213693951 : Int64))).toInt ∧ ((q1 &&& (2305843009213693951 : Int64))).toInt ≤ 2305843009213693951 := own_mkJ q1 (2305843009213693951 : Int64) 61 (by decide) (by decide); have : (v516).toInt = ((q1 &&& (2305843009213693951 : Int64))).toInt := congrArg Int64.toInt dv516; have : ((v515 + v516)).toInt = (v515).toInt + (v516).toInt := Jvm.Kit.i64_add (by omega) (by omega); have : (v517).toInt = ((v515 + v516)).toInt := congrArg Int64.toInt dv517; exact Int64.lt_iff_toInt_lt.mpr (by omega)) (by have : 0 ≤ ((q0 &&& (2305843009213693951 : Int64))).toInt ∧ ((q0 &&& (2305843009213693951 : Int64))).toInt ≤ 2305843009213693951 := own_mkJ q0 (2305843009213693951 : Int64) 61 (by decide) (by decide); have : (v514).toInt = ((q0 &&& (2305843009213693951 : Int64))).toInt := congrArg Int64.toInt dv514; have : ((1 : Int64)).toInt = 1 := rfl; have : ((v514 + (1 : Int64))).toInt = (v514).toInt + ((1 : Int64)).toInt := Jvm.Kit.i64_add (by omega) (by omega); have : (v515).toInt = ((v514 + (1 : Int64))).toInt := congrArg Int64.toInt dv515; have : 0 ≤ ((q1 &&& (2305843009213693951 : Int64))).toInt ∧ ((q1 &&& (2305843009213693951 : Int64))).toInt ≤ 2305843009213693951 := own_mkJ q1 (2305843009213693951 : Int64) 61 (by decide) (by decide); have : (v516).toInt = ((q1 &&& (2305843009213693951 : Int64))).toInt := congrArg Int64.toInt dv516; have : ((v515 + v516)).toInt = (v515).toInt + (v516).toInt := Jvm.Kit.i64_add (by omega) (by omega); have : (v517).toInt = ((v515 + v516)).toInt := congrArg Int64.toInt dv517; have : ((v517 + (1 : Int64))).toInt = (v517).toInt + ((1 : Int64)).toInt := Jvm.Kit.i64_add (by omega) (by omega); have : (v518).toInt = ((v517 + (1 : Int64))).toInt := congrArg Int64.toInt dv518; have : 0 ≤ ((q2 &&& (2305843009213693951 : Int64))).toInt ∧ ((q2 &&& (2305843009213693951 : Int64))).toInt ≤ 2305843009213693951 := own_mkJ q2 (2305843009213693951 : Int64) 61 (by decide) (by decide); have : (v519).toInt = ((q2 &&& (2305843009213693951 : Int64))).toInt := congrArg Int64.toInt dv519; have : ((v518 + v519)).toInt = (v518).toInt + (v519).toInt := Jvm.Kit.i64_add (by omega) (by omega); have : (v520).toInt = ((v518 + v519)).toInt := congrArg Int64.toInt dv520; exact Int64.lt_iff_toInt_lt.mpr (by omega)) X0 hx hby hml hret hlk hZ hown e0 N0
  refine own_ifN 31 X0 hx hby at_28 rfl ((if0 _ _).trans (feq hc513).1) ?_
  refine own_iconst 32 (1 : Int32) X0 hx hby at_31 rfl (by decide) ?_
  refine own_goto 36 X0 hx hby at_32 (by decide) (by decide) ?_
  refine own_istore 38 #[oJ q0, oS, oJ q1, oS, oJ q2, oS, oJ q3, oS, oI x4, oI x5, oI v1, oI (1 : Int32), oI (1 : Int32), oU, oU, oU, oU, oU, oU, oU, oU, oU, oU, oU, oU, oU, oU, oU, oU, oU, oU, oU, oU, oU] X0 hx hby at_36 rfl rfl ?_
  refine own_lload_n 39 X0 hx hby at_38 rfl rfl ?_
  refine own_ldc2 42 X0 hx hby hZ hown (own_w hw 0 rfl) at_39 rfl ?_
  obtain ⟨v532, dv532⟩ : ∃ z, z = (q0 &&& (2305843009213693951 : Int64)) := ⟨_, rfl⟩
  refine own_land 43 v532 X0 hx hby at_42 rfl dv532.symm ?_
  refine own_lstore 45 #[oJ q0, oS, oJ q1, oS, oJ q2, oS, oJ q3, oS, oI x4, oI x5, oI v1, oI (1 : Int32), oI (1 : Int32), oJ v532, oS, oU, oU, oU, oU, oU, oU, oU, oU, oU, oU, oU, oU, oU, oU, oU, oU, oU, oU, oU] X0 hx hby at_43 rfl rfl ?_
  refine own_lload 47 X0 hx hby at_45 rfl rfl ?_
  refine own_lconst 48 (1 : Int64) X0 hx hby at_47 rfl (by decide) ?_
  obtain ⟨v533, dv533⟩ : ∃ z, z = (v532 + (1 : Int64)) := ⟨_, rfl⟩
  refine own_ladd 49 v533 X0 hx hby at_48 rfl dv533.symm ?_
  refine own_lload_n 50 X0 hx hby at_49 rfl rfl ?_
  refine own_ldc2 53 X0 hx hby hZ hown (own_w hw 0 rfl) at_50 rfl ?_
  obtain ⟨v534, dv534⟩ : ∃ z, z = (q1 &&& (2305843009213693951 : Int64)) := ⟨_, rfl⟩
  refine own_land 54 v534 X0 hx hby at_53 rfl dv534.symm ?_
  obtain ⟨v535, dv535⟩ : ∃ z, z = (v533 + v534) := ⟨_, rfl⟩
  refine own_ladd 55 v535 X0 hx hby at_54 rfl dv535.symm ?_
  refine own_lstore 57 #[oJ q0, oS, oJ q1, oS, oJ q2, oS, oJ q3, oS, oI x4, oI x5, oI v1, oI (1 : Int32), oI (1 : Int32), oJ v532, oS, oJ v535, oS, oU, oU, oU, oU, oU, oU, oU, oU, oU, oU, oU, oU, oU, oU, oU, oU, oU] X0 hx hby at_55 rfl rfl ?_
  refine own_lload 59 X0 hx hby at_57 rfl rfl ?_
  refine own_lconst 60 (1 : Int64) X0 hx hby at_59 rfl (by decide) ?_
  obtain ⟨v536, dv536⟩ : ∃ z, z = (v535 + (1 : Int64)) := ⟨_, rfl⟩
  refine own_ladd 61 v536 X0 hx hby at_60 rfl dv536.symm ?_
  refine own_lload 63 X0 hx hby at_61 rfl rfl ?_
  refine own_ldc2 66 X0 hx hby hZ hown (own_w hw 0 rfl) at_63 rfl ?_
  obtain ⟨v537, dv537⟩ : ∃ z, z = (q2 &&& (2305843009213693951 : Int64)) := ⟨_, rfl⟩
  refine own_land 67 v537 X0 hx hby at_66 rfl dv537.symm ?_
  obtain ⟨v538, dv538⟩ : ∃ z, z = (v536 + v537) := ⟨_, rfl⟩
  refine own_ladd 68 v538 X0 hx hby at_67 rfl dv538.symm ?_
  refine own_lstore 70 #[oJ q0, oS, oJ q1, oS, oJ q2, oS, oJ q3, oS, oI x4, oI x5, oI v1, oI (1 : Int32), oI (1 : Int32), oJ v532, oS, oJ v535, oS, oJ v538, oS, oU, oU, oU, oU, oU, oU, oU, oU, oU, oU, oU, oU, oU, oU, oU] X0 hx hby at_68 rfl rfl ?_
  refine own_iload 72 X0 hx hby at_70 rfl rfl ?_
  refine own_sipush 75 (255 : Int32) X0 hx hby at_72 rfl (by decide) ?_
  obtain ⟨v539, dv539⟩ : ∃ z, z = (x5 &&& (255 : Int32)) := ⟨_, rfl⟩
  refine own_iand 76 v539 X0 hx hby at_75 rfl dv539.symm ?_
  refine own_iconst 77 (1 : Int32) X0 hx hby at_76 rfl (by decide) ?_
  obtain ⟨v540, dv540⟩ : ∃ z, z = (v539 + (1 : Int32)) := ⟨_, rfl⟩
  refine own_iadd 78 v540 X0 hx hby at_77 rfl dv540.symm ?_
  obtain ⟨v541, dv541⟩ : ∃ z, z = (v540).toInt64 := ⟨_, rfl⟩
  refine own_i2l 79 v541 X0 hx hby at_78 rfl dv541.symm ?_
  refine own_lstore 81 #[oJ q0, oS, oJ q1, oS, oJ q2, oS, oJ q3, oS, oI x4, oI x5, oI v1, oI (1 : Int32), oI (1 : Int32), oJ v532, oS, oJ v535, oS, oJ v538, oS, oJ v541, oS, oU, oU, oU, oU, oU, oU, oU, oU, oU, oU, oU, oU, oU] X0 hx hby at_79 rfl rfl ?_
  refine own_iload 83 X0 hx hby at_81 rfl rfl ?_
  refine own_bipush 85 (8 : Int32) X0 hx hby at_83 rfl (by decide) ?_
  obtain ⟨v542, dv542⟩ : ∃ z, z = (XT.ushr x5 (8 : Int32)) := ⟨_, rfl⟩
  refine own_iushr 86 v542 X0 hx hby at_85 rfl dv542.symm ?_
  refine own_sipush 89 (255 : Int32) X0 hx hby at_86 rfl (by decide) ?_
  obtain ⟨v543, dv543⟩ : ∃ z, z = (v542 &&& (255 : Int32)) := ⟨_, rfl⟩
  refine own_iand 90 v543 X0 hx hby at_89 rfl dv543.symm ?_
  refine own_iconst 91 (1 : Int32) X0 hx hby at_90 rfl (by decide) ?_
  obtain ⟨v544, dv544⟩ : ∃ z, z = (v543 + (1 : Int32)) := ⟨_, rfl⟩
  refine own_iadd 92 v544 X0 hx hby at_91 rfl dv544.symm ?_
  obtain ⟨v545, dv545⟩ : ∃ z, z = (v544).toInt64 := ⟨_, rfl⟩
  refine own_i2l 93 v545 X0 hx hby at_92 rfl dv545.symm ?_
  refine own_lstore 95 #[oJ q0, oS, oJ q1, oS, oJ q2, oS, oJ q3, oS, oI x4, oI x5, oI v1, oI (1 : Int32), oI (1 : Int32), oJ v532, oS, oJ v535, oS, oJ v538, oS, oJ v541, oS, oJ v545, oS, oU, oU, oU, oU, oU, oU, oU, oU, oU, oU, oU] X0 hx hby at_93 rfl rfl ?_
  refine own_iload 97 X0 hx hby at_95 rfl rfl ?_
  refine own_bipush 99 (16 : Int32) X0 hx hby at_97 rfl (by decide) ?_
  obtain ⟨v546, dv546⟩ : ∃ z, z = (XT.ushr x5 (16 : Int32)) := ⟨_, rfl⟩
  refine own_iushr 100 v546 X0 hx hby at_99 rfl dv546.symm ?_
  refine own_sipush 103 (255 : Int32) X0 hx hby at_100 rfl (by decide) ?_
  obtain ⟨v547, dv547⟩ : ∃ z, z = (v546 &&& (255 : Int32)) := ⟨_, rfl⟩
  refine own_iand 104 v547 X0 hx hby at_103 rfl dv547.symm ?_
  refine own_iconst 105 (1 : Int32) X0 hx hby at_104 rfl (by decide) ?_
  obtain ⟨v548, dv548⟩ : ∃ z, z = (v547 + (1 : Int32)) := ⟨_, rfl⟩
  refine own_iadd 106 v548 X0 hx hby at_105 rfl dv548.symm ?_
  obtain ⟨v549, dv549⟩ : ∃ z, z = (v548).toInt64 := ⟨_, rfl⟩
  refine own_i2l 107 v549 X0 hx hby at_106 rfl dv549.symm ?_
  refine own_lstore 109 #[oJ q0, oS, oJ q1, oS, oJ q2, oS, oJ q3, oS, oI x4, oI x5, oI v1, oI (1 : Int32), oI (1 : Int32), oJ v532, oS, oJ v535, oS, oJ v538, oS, oJ v541, oS, oJ v545, oS, oJ v549, oS, oU, oU, oU, oU, oU, oU, oU, oU, oU] X0 hx hby at_107 rfl rfl ?_
  exact cut_109_0 l Z a0 hw w_NONE k_NONE W q0 q1 q2 q3 x4 x5 v1 (1 : Int32) (1 : Int32) v532 v535 v538 v541 v545 v549 h0 n0 O0 (by have : 0 ≤ ((x4 &&& (3 : Int32))).toInt ∧ ((x4 &&& (3 : Int32))).toInt ≤ 3 := own_mkI x4 (3 : Int32) 2 (by decide) (by decide); have : (v1).toInt = ((x4 &&& (3 : Int32))).toInt := congrArg Int32.toInt dv1; have : ((0 : Int32)).toInt = 0 := rfl; exact fun q => absurd (Int32.lt_iff_toInt_lt.mp q) (by omega)) (by have : ((3 : Int32)).toInt = 3 := rfl; have : 0 ≤ ((x4 &&& (3 : Int32))).toInt ∧ ((x4 &&& (3 : Int32))).toInt ≤ 3 := own_mkI x4 (3 : Int32) 2 (by decide) (by decide); have : (v1).toInt = ((x4 &&& (3 : Int32))).toInt := congrArg Int32.toInt dv1; exact fun q => absurd (Int32.lt_iff_toInt_lt.mp q) (by omega)) (by have : 0 ≤ ((q0 &&& (2305843009213693951 : Int64))).toInt ∧ ((q0 &&& (2305843009213693951 : Int64))).toInt ≤ 2305843009213693951 := own_mkJ q0 (2305843009213693951 : Int64) 61 (by decide) (by decide); have : (v532).toInt = ((q0 &&& (2305843009213693951 : Int64))).toInt := congrArg Int64.toInt dv532; have : ((0 : Int64)).toInt = 0 := rfl; exact fun q => absurd (Int64.lt_iff_toInt_lt.mp q) (by omega)) (by have : 0 ≤ ((q0 &&& (2305843009213693951 : Int64))).toInt ∧ ((q0 &&& (2305843009213693951 : Int64))).toInt ≤ 2305843009213693951 := own_mkJ q0 (2305843009213693951 : Int64) 61 (by decide) (by decide); have : (v532).toInt = ((q0 &&& (2305843009213693951 : Int64))).toInt := congrArg Int64.toInt dv532; have : ((1 : Int64)).toInt = 1 := rfl; have : ((v532 + (1 : Int64))).toInt = (v532).toInt + ((1 : Int64)).toInt := Jvm.Kit.i64_add (by omega) (by omega); have : (v533).toInt = ((v532 + (1 : Int64))).toInt := congrArg Int64.toInt dv533; have : 0 ≤ ((q1 &&& (2305843009213693951 : Int64))).toInt ∧ ((q1 &&& (2305843009213693951 : Int64))).toInt ≤ 2305843009213693951 := own_mkJ q1 (2305843009213693951 : Int64) 61 (by decide) (by decide); have : (v534).toInt = ((q1 &&& (2305843009213693951 : Int64))).toInt := congrArg Int64.toInt dv534; have : ((v533 + v534)).toInt = (v533).toInt + (v534).toInt := Jvm.Kit.i64_add (by omega) (by omega); have : (v535).toInt = ((v533 + v534)).toInt := congrArg Int64.toInt dv535; exact Int64.lt_iff_toInt_lt.mpr (by omega)) (by have : 0 ≤ ((q0 &&& (2305843009213693951 : Int64))).toInt ∧ ((q0 &&& (2305843009213693951 : Int64))).toInt ≤ 2305843009213693951 := own_mkJ q0 (2305843009213693951 : Int64) 61 (by decide) (by decide); have : (v532).toInt = ((q0 &&& (2305843009213693951 : Int64))).toInt := congrArg Int64.toInt dv532; have : ((1 : Int64)).toInt = 1 := rfl; have : ((v532 + (1 : Int64))).toInt = (v532).toInt + ((1 : Int64)).toInt := Jvm.Kit.i64_add (by omega) (by omega); have : (v533).toInt = ((v532 + (1 : Int64))).toInt := congrArg Int64.toInt dv533; have : 0 ≤ ((q1 &&& (2305843009213693951 : Int64))).toInt ∧ ((q1 &&& (2305843009213693951 : Int64))).toInt ≤ 2305843009213693951 := own_mkJ q1 (2305843009213693951 : Int64) 61 (by decide) (by decide); have : (v534).toInt = ((q1 &&& (2305843009213693951 : Int64))).toInt := congrArg Int64.toInt dv534; have : ((v533 + v534)).toInt = (v533).toInt + (v534).toInt := Jvm.Kit.i64_add (by omega) (by omega); have : (v535).toInt = ((v533 + v534)).toInt := congrArg Int64.toInt dv535; have : ((v535 + (1 : Int64))).toInt = (v535).toInt + ((1 : Int64)).toInt := Jvm.Kit.i64_add (by omega) (by omega); have : (v536).toInt = ((v535 + (1 : Int64))).toInt := congrArg Int64.toInt dv536; have : 0 ≤ ((q2 &&& (2305843009213693951 : Int64))).toInt ∧ ((q2 &&& (2305843009213693951 : Int64))).toInt ≤ 2305843009213693951 := own_mkJ q2 (2305843009213693951 : Int64) 61 (by decide) (by decide); have : (v537).toInt = ((q2 &&& (2305843009213693951 : Int64))).toInt := congrArg Int64.toInt dv537; have : ((v536 + v537)).toInt = (v536).toInt + (v537).toInt := Jvm.Kit.i64_add (by omega) (by omega); have : (v538).toInt = ((v536 + v537)).toInt := congrArg Int64.toInt dv538; exact Int64.lt_iff_toInt_lt.mpr (by omega)) X0 hx hby hml hret hlk hZ hown e0 N0
set_option maxRecDepth 65536 in
set_option maxHeartbeats 40000000 in
theorem comes_1 {Post : Tables → Env → Array Value → State → Outcome → State → Prop} (hpost : ∀ tb e args s v u, (limb_1_1.after args s (.returned v) u = true ∧ limb_1_2.after args s (.returned v) u = true) → FrameEnd s (.returned v) u (Jvm.fieldLocs frame_1_writes args s ++ Jvm.arrayLocs frame_1_arrays args s ++ Jvm.staticLocs frame_1_statics s) 16 192 → Post tb e args s (.returned v) u) :
    ArmFor flags0 classFile x code maxLocals ret World_1 tables_1 room_1 Calls_1 rest_1 Pre_1 Post := by
  intro l hfl _ _ p e ha hc hk s m args below hf hA hF happ hP
  obtain ⟨hcalls, hrest, hpre⟩ := hP
  obtain ⟨-, -, -, hnamed, -, -, -, hat⟩ := (Spec.applies_iff hf).mp happ
  obtain ⟨hg, hn⟩ := and_e (Cond.before_iff.mp (show (Jvm.Cond.and given_1 narrow_1).before args s = true from hpre))
  obtain ⟨ga0, gb0⟩ := and_e hg
  obtain ⟨ga1, gb1⟩ := and_e gb0
  obtain ⟨ga2, gb2⟩ := and_e gb1
  obtain ⟨ga3, gb3⟩ := and_e gb2
  obtain ⟨ga4, gb4⟩ := and_e gb3
  obtain ⟨ga5, ga6⟩ := and_e gb4
  obtain ⟨u0, u1, u2, u3, u4, u5, rfl⟩ : ∃ u0 u1 u2 u3 u4 u5 : Value, args = #[u0, u1, u2, u3, u4, u5] := by
    have hs : args.size = 6 := by simpa [Cond.value, given_1] using ga0
    obtain ⟨L⟩ := args
    match L, hs with
    | [u0, u1, u2, u3, u4, u5], _ => exact ⟨u0, u1, u2, u3, u4, u5, rfl⟩
  have hw := fun d (hd : d ∈ tables_1) => atoms_spec (ws := Jvm.Cond.code x code maxLocals ret :: tables_1) hat d (List.mem_cons_of_mem _ hd)
  have hfit : Fit s := fun {y c} hc i hi => by
    obtain ⟨ha, rfl⟩ := Array.getElem?_eq_some_iff.mp hc
    have q := List.all_eq_true.mp ((Array.all_eq_true_iff_forall_mem.mp hF) _ (Array.getElem_mem ha)) i (List.mem_range.mpr hi)
    simpa [Array.getElem?_eq_getElem hi] using q
  obtain ⟨i0, ei0⟩ := isL_v ga1
  obtain rfl : u0 = (.long i0) := Option.some.inj ei0
  obtain ⟨i1, ei1⟩ := isL_v ga2
  obtain rfl : u1 = (.long i1) := Option.some.inj ei1
  obtain ⟨i2, ei2⟩ := isL_v ga3
  obtain rfl : u2 = (.long i2) := Option.some.inj ei2
  obtain ⟨i3, ei3⟩ := isL_v ga4
  obtain rfl : u3 = (.long i3) := Option.some.inj ei3
  obtain ⟨i4, ei4⟩ := is_v ga5
  obtain rfl : u4 = (.int i4) := Option.some.inj ei4
  obtain ⟨i5, ei5⟩ := is_v ga6
  obtain rfl : u5 = (.int i5) := Option.some.inj ei5
  obtain ⟨na0, nb0⟩ := and_e hn
  obtain ⟨na1, na2⟩ := and_e nb0
  obtain ⟨w_NONE, v_w_NONE⟩ := arr_v na0
  have S_w_NONE := Sta.start v_w_NONE (Or.inr ⟨(own_w hw 3 rfl), (own_w hw 11 rfl)⟩)
  obtain ⟨cl_w_NONE, A_w_NONE⟩ := Arr.start v_w_NONE na0
  obtain ⟨q_w_NONE, l_w_NONE⟩ := own_len_at (eqv_i (Term.int_eval _) na2) v_w_NONE (A_w_NONE.fin (Vm.Alike.refl _))
  have V_w_NONE : Arv s s.heap w_NONE _ .long (0 : Int32) [] (.long (0 : Int64)) := Arv.start hfit A_w_NONE q_w_NONE l_w_NONE (by decide) rfl trivial
  obtain ⟨n, o, h1, h2, h3, _, L, rfl, ⟨rfl, N⟩, hq⟩ := rm0 l s _ hw tables_1 w_NONE _ ⟨S_w_NONE, V_w_NONE⟩ i0 i1 i2 i3 i4 i5 s.heap s.heap.size (Old.start s) p e ha hc hk s m _ below hf ((Spec.applies_iff_loose hf).mp happ).1 ⟨rfl, State.Warmed39.refl s, rfl⟩ trivial
  refine ⟨n, _, h1, h2, h3, hpost _ _ _ _ _ _ ⟨Cond.after_iff.mpr rfl, Cond.after_iff.mpr (eq_i res_at (Term.int_eval (1)) rfl)⟩ ⟨hq.1, hq.2.1, (hq.2.2.sift fun y hy => Or.inr (N y hy)).mono (by decide) (by decide)⟩⟩
theorem main_1_1 : Claimed_1_1 := comes_1 fun _ _ _ _ _ _ h hF => ⟨h.1, hF⟩
theorem main_1_2 : Claimed_1_2 := comes_1 fun _ _ _ _ _ _ h hF => ⟨h.2, hF⟩
end Jvm.Pilot.@@N@@
namespace Jvm.Pilot.@@N@@
open Jvm Jvm.ClassFile Sem Op Lib Jvm.Free Jvm.Stand Jvm.Pilot.@@N@@.Jvm.D
/-! MADE BY PROGRAM (witnessworld.py) out of the Statement's table words and the real class files: 13 classes; the members and pool entries that the words name. The judged class is class 1, her method 1. -/
namespace start1
open Jvm.ClassFile
def u (s : String) : CpInfo := .utf8 (stringToUtf16 s)
/-- a pool by its gaps: so many unusable entries, then the entry; so many at the end -/
def gap : Nat → List CpInfo → List CpInfo
  | 0, r => r
  | n + 1, r => .unusable :: gap n r
def poolList (es : List (Nat × CpInfo)) (last : Nat) : List CpInfo := es.foldr (fun e r => gap e.1 (e.2 :: r)) (gap last [])
def pool (es : List (Nat × CpInfo)) (last : Nat) : Array CpInfo := ⟨poolList es last⟩
def fileOf (pool : Array CpInfo) (this : Nat) (attrs : Array Attribute := #[]) (ms : Array MethodInfo := #[]) (fl : Nat := 33) (sup : Nat := 0) (ifs : Array Nat := #[]) (fds : Array FieldInfo := #[]) : ClassFile where
  minorVersion := 0
  majorVersion := 65
  constantPool := pool
  accessFlags := fl
  thisClass := this
  superClass := sup
  interfaces := ifs
  fields := fds
  methods := ms
  attributes := attrs
def plain (name : String) (sup : Option ClassId) : Class where
  name := name
  kind := .ordinary
  loader := none
  accessFlags := 33
  super := sup
  interfaces := #[]
  cf := none
  fields := #[]
  methods := #[]
  instanceTypes := #[]
  staticTypes := #[]
  resolved := #[]
  callSites := []
  init := .initialized
  statics := none
  mirror := none

def pool0 : Array CpInfo := pool [(5, u "<init>"), (0, u "()V"), (1, .class_ 10), (1, u "java/lang/Object")] 113

def k0c0 : Code := { maxStack := 0, maxLocals := 1, code := object_method_1_code, exceptionTable := #[], attributes := #[] }
def k0m0 : Method := { name := "<init>", desc := "()V", sig := { parameters := [], returnType := none }, accessFlags := 1, code := some k0c0 }
/-- java/lang/Object -/
def k0 : Class := { plain "java/lang/Object" none with
  accessFlags := 33
  interfaces := #[]
  cf := some (fileOf pool0 8 #[] #[{ accessFlags := 1, nameIndex := 5, descriptorIndex := 6, attributes := #[] }] 33 0 #[] #[])
  fields := #[]
  methods := #[k0m0]
  instanceTypes := #[]
  staticTypes := #[]
  resolved := Array.replicate 124 none
  statics := none }

def pool1 : Array CpInfo := pool [(2, .class_ 4), (0, .nameAndType 5 6), (0, u "java/lang/Object"), (0, u "<init>"), (0, u "()V"), (0, .class_ 8), (0, u "com/example/meter/meter/store/SpansNewestSecondPinLaw"), (0, .long 2305843009213693951), (1, .class_ 12), (0, u "com/example/meter/meter/store/Spans"), (0, .methodref 11 3), (0, .methodref 11 15), (0, .nameAndType 16 17), (0, u "append"), (0, u "(JJ)V"), (0, .long 18446744073709551615), (1, .methodref 11 21), (0, .nameAndType 22 23), (0, u "newestSecond"), (0, u "()J"), (0, .methodref 11 25), (0, .nameAndType 26 27), (0, u "dropThrough"), (0, u "(J)V"), (0, .methodref 11 29), (0, .nameAndType 30 6), (0, u "join"), (0, u "MASK"), (0, u "J"), (3, u "law"), (0, u "(JJJJII)Z")] 3

def k1m0 : Method := { name := "<init>", desc := "()V", sig := { parameters := [], returnType := none }, accessFlags := 1, code := none }
def k1c1 : Code := { maxStack := 6, maxLocals := 34, code := code, exceptionTable := #[], attributes := #[] }
def k1m1 : Method := { name := "law", desc := "(JJJJII)Z", sig := { parameters := [.long, .long, .long, .long, .int, .int], returnType := some .boolean }, accessFlags := 9, code := some k1c1 }
/-- com/example/meter/meter/store/SpansNewestSecondPinLaw -/
def k1 : Class := { plain "com/example/meter/meter/store/SpansNewestSecondPinLaw" (some 0) with
  accessFlags := 49
  interfaces := #[]
  cf := some (fileOf pool1 7 #[] #[{ accessFlags := 1, nameIndex := 5, descriptorIndex := 6, attributes := #[] }, { accessFlags := 9, nameIndex := 36, descriptorIndex := 37, attributes := #[] }] 49 2 #[] #[{ accessFlags := 26, nameIndex := 31, descriptorIndex := 32, attributes := #[] }])
  fields := #[{ name := "MASK", type := .long, accessFlags := 26, slot := 0, constantValue := 0 }]
  methods := #[k1m0, k1m1]
  instanceTypes := #[]
  staticTypes := #[.long]
  resolved := Array.replicate 41 none
  statics := none }

def pool2 : Array CpInfo := pool [(1, .methodref 2 3), (0, .class_ 4), (0, .nameAndType 5 6), (0, u "java/lang/Object"), (0, u "<init>"), (0, u "()V"), (0, .fieldref 8 9), (0, .class_ 10), (0, .nameAndType 11 12), (0, u "com/example/meter/meter/store/Spans"), (0, u "NONE"), (0, u "[J"), (0, .fieldref 8 14), (0, .nameAndType 15 12), (0, u "firsts"), (0, .fieldref 8 17), (0, .nameAndType 18 12), (0, u "lasts"), (0, .fieldref 8 20), (0, .nameAndType 21 12), (0, u "totals"), (0, .fieldref 8 23), (0, .nameAndType 24 25), (0, u "end"), (0, u "I"), (20, .methodref 8 47), (0, .nameAndType 48 49), (0, u "mostHitsToStand"), (0, u "(J)J"), (1, .class_ 53), (1, u "java/lang/Math"), (2, .long 2), (15, u "(J)V"), (0, .fieldref 8 74), (0, .nameAndType 75 25), (0, u "head"), (0, .methodref 8 77), (0, .nameAndType 78 79), (0, u "totalBefore"), (0, u "(I)J"), (0, .fieldref 8 81), (0, .nameAndType 82 83), (0, u "droppedTotal"), (0, u "J"), (0, .long 18446744073709551615), (1, .methodref 8 87), (0, .nameAndType 88 6), (0, u "makeRoom"), (6, .long 100), (1, .methodref 51 98), (0, .nameAndType 99 100), (0, u "max"), (0, u "(II)I"), (0, .methodref 8 102), (0, .nameAndType 103 104), (0, u "movedDown"), (0, u "([JI)[J"), (0, .methodref 106 107), (0, .class_ 108), (0, .nameAndType 109 110), (0, u "java/lang/System"), (0, u "arraycopy"), (0, u "(Ljava/lang/Object;ILjava/lang/Object;II)V"), (0, u "ERROR_DIVISOR"), (1, u "INITIAL_CAPACITY"), (10, u "()J"), (0, u "newestSecond"), (2, u "append"), (0, u "(JJ)V"), (0, u "dropThrough"), (1, u "join")] 3

def k2c0 : Code := { maxStack := 2, maxLocals := 1, code := prog_11_method_1_code, exceptionTable := #[], attributes := #[] }
def k2m0 : Method := { name := "<init>", desc := "()V", sig := { parameters := [], returnType := none }, accessFlags := 0, code := some k2c0 }
def k2c1 : Code := { maxStack := 3, maxLocals := 1, code := prog_11_method_7_code, exceptionTable := #[], attributes := #[] }
def k2m1 : Method := { name := "newestSecond", desc := "()J", sig := { parameters := [], returnType := some .long }, accessFlags := 0, code := some k2c1 }
def k2c2 : Code := { maxStack := 6, maxLocals := 5, code := prog_11_method_9_code, exceptionTable := #[], attributes := #[] }
def k2m2 : Method := { name := "append", desc := "(JJ)V", sig := { parameters := [.long, .long], returnType := none }, accessFlags := 0, code := some k2c2 }
def k2c3 : Code := { maxStack := 4, maxLocals := 3, code := prog_11_method_10_code, exceptionTable := #[], attributes := #[] }
def k2m3 : Method := { name := "dropThrough", desc := "(J)V", sig := { parameters := [.long], returnType := none }, accessFlags := 0, code := some k2c3 }
def k2c4 : Code := { maxStack := 4, maxLocals := 9, code := prog_11_method_12_code, exceptionTable := #[], attributes := #[] }
def k2m4 : Method := { name := "join", desc := "()V", sig := { parameters := [], returnType := none }, accessFlags := 0, code := some k2c4 }
def k2c5 : Code := { maxStack := 6, maxLocals := 2, code := prog_11_method_13_code, exceptionTable := #[], attributes := #[] }
def k2m5 : Method := { name := "mostHitsToStand", desc := "(J)J", sig := { parameters := [.long], returnType := some .long }, accessFlags := 10, code := some k2c5 }
def k2c6 : Code := { maxStack := 3, maxLocals := 2, code := prog_11_method_14_code, exceptionTable := #[], attributes := #[] }
def k2m6 : Method := { name := "totalBefore", desc := "(I)J", sig := { parameters := [.int], returnType := some .long }, accessFlags := 2, code := some k2c6 }
def k2c7 : Code := { maxStack := 4, maxLocals := 4, code := prog_11_method_15_code, exceptionTable := #[], attributes := #[] }
def k2m7 : Method := { name := "makeRoom", desc := "()V", sig := { parameters := [], returnType := none }, accessFlags := 2, code := some k2c7 }
def k2c8 : Code := { maxStack := 6, maxLocals := 4, code := prog_11_method_16_code, exceptionTable := #[], attributes := #[] }
def k2m8 : Method := { name := "movedDown", desc := "([JI)[J", sig := { parameters := [(.array .long), .int], returnType := some (.array .long) }, accessFlags := 2, code := some k2c8 }
/-- com/example/meter/meter/store/Spans -/
def k2 : Class := { plain "com/example/meter/meter/store/Spans" (some 0) with
  accessFlags := 48
  interfaces := #[]
  cf := some (fileOf pool2 8 #[] #[{ accessFlags := 0, nameIndex := 5, descriptorIndex := 6, attributes := #[] }, { accessFlags := 0, nameIndex := 125, descriptorIndex := 124, attributes := #[] }, { accessFlags := 0, nameIndex := 128, descriptorIndex := 129, attributes := #[] }, { accessFlags := 0, nameIndex := 130, descriptorIndex := 72, attributes := #[] }, { accessFlags := 0, nameIndex := 132, descriptorIndex := 6, attributes := #[] }, { accessFlags := 10, nameIndex := 48, descriptorIndex := 49, attributes := #[] }, { accessFlags := 2, nameIndex := 78, descriptorIndex := 79, attributes := #[] }, { accessFlags := 2, nameIndex := 88, descriptorIndex := 6, attributes := #[] }, { accessFlags := 2, nameIndex := 103, descriptorIndex := 104, attributes := #[] }] 48 2 #[] #[{ accessFlags := 26, nameIndex := 111, descriptorIndex := 83, attributes := #[] }, { accessFlags := 26, nameIndex := 113, descriptorIndex := 25, attributes := #[] }, { accessFlags := 26, nameIndex := 11, descriptorIndex := 12, attributes := #[] }, { accessFlags := 2, nameIndex := 15, descriptorIndex := 12, attributes := #[] }, { accessFlags := 2, nameIndex := 18, descriptorIndex := 12, attributes := #[] }, { accessFlags := 2, nameIndex := 21, descriptorIndex := 12, attributes := #[] }, { accessFlags := 2, nameIndex := 75, descriptorIndex := 25, attributes := #[] }, { accessFlags := 2, nameIndex := 24, descriptorIndex := 25, attributes := #[] }, { accessFlags := 2, nameIndex := 82, descriptorIndex := 83, attributes := #[] }])
  fields := #[{ name := "ERROR_DIVISOR", type := .long, accessFlags := 26, slot := 0, constantValue := 0 }, { name := "INITIAL_CAPACITY", type := .int, accessFlags := 26, slot := 1, constantValue := 0 }, { name := "NONE", type := (.array .long), accessFlags := 26, slot := 2, constantValue := 0 }, { name := "firsts", type := (.array .long), accessFlags := 2, slot := 0, constantValue := 0 }, { name := "lasts", type := (.array .long), accessFlags := 2, slot := 1, constantValue := 0 }, { name := "totals", type := (.array .long), accessFlags := 2, slot := 2, constantValue := 0 }, { name := "head", type := .int, accessFlags := 2, slot := 3, constantValue := 0 }, { name := "end", type := .int, accessFlags := 2, slot := 4, constantValue := 0 }, { name := "droppedTotal", type := .long, accessFlags := 2, slot := 5, constantValue := 0 }]
  methods := #[k2m0, k2m1, k2m2, k2m3, k2m4, k2m5, k2m6, k2m7, k2m8]
  instanceTypes := #[(.array .long), (.array .long), (.array .long), .int, .int, .long]
  staticTypes := #[.long, .int, (.array .long)]
  resolved := Array.replicate 136 none
  statics := some 0 }

def pool3 : Array CpInfo := pool [(1, .class_ 2), (0, u "java/lang/Math"), (1, .class_ 6), (1, u "java/lang/Object"), (0, u "<init>"), (0, u "()V"), (89, .class_ 100), (1, u "java/lang/Math$RandomNumberGeneratorHolder"), (71, u "negativeZeroFloatBits"), (0, u "J"), (2, u "negativeZeroDoubleBits"), (21, u "max"), (46, u "$assertionsDisabled"), (0, u "Z"), (88, u "(II)I"), (2, u "twoToTheDoubleScaleDown"), (0, u "D"), (4, u "twoToTheDoubleScaleUp"), (9, u "E"), (3, u "PI"), (2, u "TAU"), (2, u "DEGREES_TO_RADIANS"), (0, u "RADIANS_TO_DEGREES")] 94

def k3m0 : Method := { name := "<init>", desc := "()V", sig := { parameters := [], returnType := none }, accessFlags := 2, code := none }
def k3c1 : Code := { maxStack := 2, maxLocals := 2, code := jdk_29_method_65_code, exceptionTable := #[], attributes := #[] }
def k3m1 : Method := { name := "max", desc := "(II)I", sig := { parameters := [.int, .int], returnType := some .int }, accessFlags := 9, code := some k3c1 }
/-- java/lang/Math -/
def k3 : Class := { plain "java/lang/Math" (some 0) with
  accessFlags := 49
  interfaces := #[]
  cf := some (fileOf pool3 1 #[.nestMembers #[98]] #[{ accessFlags := 2, nameIndex := 7, descriptorIndex := 8, attributes := #[] }, { accessFlags := 9, nameIndex := 198, descriptorIndex := 335, attributes := #[] }] 49 4 #[] #[{ accessFlags := 25, nameIndex := 354, descriptorIndex := 339, attributes := #[] }, { accessFlags := 25, nameIndex := 358, descriptorIndex := 339, attributes := #[] }, { accessFlags := 25, nameIndex := 361, descriptorIndex := 339, attributes := #[] }, { accessFlags := 26, nameIndex := 364, descriptorIndex := 339, attributes := #[] }, { accessFlags := 26, nameIndex := 365, descriptorIndex := 339, attributes := #[] }, { accessFlags := 26, nameIndex := 172, descriptorIndex := 173, attributes := #[] }, { accessFlags := 26, nameIndex := 176, descriptorIndex := 173, attributes := #[] }, { accessFlags := 8, nameIndex := 344, descriptorIndex := 339, attributes := #[] }, { accessFlags := 8, nameIndex := 338, descriptorIndex := 339, attributes := #[] }, { accessFlags := 4120, nameIndex := 245, descriptorIndex := 246, attributes := #[] }])
  fields := #[{ name := "E", type := .double, accessFlags := 25, slot := 0, constantValue := 0 }, { name := "PI", type := .double, accessFlags := 25, slot := 1, constantValue := 0 }, { name := "TAU", type := .double, accessFlags := 25, slot := 2, constantValue := 0 }, { name := "DEGREES_TO_RADIANS", type := .double, accessFlags := 26, slot := 3, constantValue := 0 }, { name := "RADIANS_TO_DEGREES", type := .double, accessFlags := 26, slot := 4, constantValue := 0 }, { name := "negativeZeroFloatBits", type := .long, accessFlags := 26, slot := 5, constantValue := 0 }, { name := "negativeZeroDoubleBits", type := .long, accessFlags := 26, slot := 6, constantValue := 0 }, { name := "twoToTheDoubleScaleUp", type := .double, accessFlags := 8, slot := 7, constantValue := 0 }, { name := "twoToTheDoubleScaleDown", type := .double, accessFlags := 8, slot := 8, constantValue := 0 }, { name := "$assertionsDisabled", type := .boolean, accessFlags := 4120, slot := 9, constantValue := 0 }]
  methods := #[k3m0, k3m1]
  instanceTypes := #[]
  staticTypes := #[.double, .double, .double, .double, .double, .long, .long, .double, .double, .boolean]
  resolved := Array.replicate 460 none
  statics := none }

def pool4 : Array CpInfo := pool [(2, .class_ 4), (1, u "java/lang/Object"), (0, u "<init>"), (0, u "()V"), (1, .class_ 10), (1, u "java/lang/System"), (0, u "allowSecurityManager"), (0, u "I"), (16, u "cons"), (0, u "Ljava/io/Console;"), (77, .class_ 110), (1, u "java/lang/System$CallersHolder"), (43, u "initialErrStream"), (0, u "Ljava/io/PrintStream;"), (19, u "security"), (0, u "Ljava/lang/SecurityManager;"), (31, .class_ 209), (0, u "java/lang/System$1"), (7, u "props"), (0, u "Ljava/util/Properties;"), (2, u "lineSeparator"), (0, u "Ljava/lang/String;"), (96, .class_ 321), (1, u "java/lang/System$LoggerFinder"), (5, .class_ 328), (0, u "java/lang/System$Logger"), (67, u "err"), (2, u "out"), (91, u "notSupportedJnuEncoding"), (15, u "in"), (17, u "initialIn"), (0, u "Ljava/io/InputStream;"), (35, u "bootLayer"), (0, u "Ljava/lang/ModuleLayer;"), (99, .class_ 664), (0, u "java/lang/System$2"), (9, u "NEVER"), (2, u "MAYBE"), (49, u "arraycopy"), (0, u "(Ljava/lang/Object;ILjava/lang/Object;II)V"), (72, .class_ 802), (0, u "java/lang/System$Logger$Level")] 31

def k4m0 : Method := { name := "<init>", desc := "()V", sig := { parameters := [], returnType := none }, accessFlags := 2, code := none }
def k4m1 : Method := { name := "arraycopy", desc := "(Ljava/lang/Object;ILjava/lang/Object;II)V", sig := { parameters := [(.object "java/lang/Object"), .int, (.object "java/lang/Object"), .int, .int], returnType := none }, accessFlags := 265, code := none }
/-- java/lang/System -/
def k4 : Class := { plain "java/lang/System" (some 0) with
  accessFlags := 49
  interfaces := #[]
  cf := some (fileOf pool4 8 #[.nestMembers #[319, 327, 801, 108, 663, 208]] #[{ accessFlags := 2, nameIndex := 5, descriptorIndex := 6, attributes := #[] }, { accessFlags := 265, nameIndex := 727, descriptorIndex := 728, attributes := #[] }] 49 2 #[] #[{ accessFlags := 25, nameIndex := 507, descriptorIndex := 526, attributes := #[] }, { accessFlags := 25, nameIndex := 399, descriptorIndex := 155, attributes := #[] }, { accessFlags := 25, nameIndex := 396, descriptorIndex := 155, attributes := #[] }, { accessFlags := 10, nameIndex := 525, descriptorIndex := 526, attributes := #[] }, { accessFlags := 26, nameIndex := 674, descriptorIndex := 12, attributes := #[] }, { accessFlags := 26, nameIndex := 677, descriptorIndex := 12, attributes := #[] }, { accessFlags := 10, nameIndex := 11, descriptorIndex := 12, attributes := #[] }, { accessFlags := 74, nameIndex := 175, descriptorIndex := 176, attributes := #[] }, { accessFlags := 10, nameIndex := 491, descriptorIndex := 222, attributes := #[] }, { accessFlags := 74, nameIndex := 29, descriptorIndex := 30, attributes := #[] }, { accessFlags := 74, nameIndex := 154, descriptorIndex := 155, attributes := #[] }, { accessFlags := 10, nameIndex := 217, descriptorIndex := 218, attributes := #[] }, { accessFlags := 10, nameIndex := 221, descriptorIndex := 222, attributes := #[] }, { accessFlags := 8, nameIndex := 562, descriptorIndex := 563, attributes := #[] }])
  fields := #[{ name := "in", type := (.object "java/io/InputStream"), accessFlags := 25, slot := 0, constantValue := 0 }, { name := "out", type := (.object "java/io/PrintStream"), accessFlags := 25, slot := 1, constantValue := 0 }, { name := "err", type := (.object "java/io/PrintStream"), accessFlags := 25, slot := 2, constantValue := 0 }, { name := "initialIn", type := (.object "java/io/InputStream"), accessFlags := 10, slot := 3, constantValue := 0 }, { name := "NEVER", type := .int, accessFlags := 26, slot := 4, constantValue := 0 }, { name := "MAYBE", type := .int, accessFlags := 26, slot := 5, constantValue := 0 }, { name := "allowSecurityManager", type := .int, accessFlags := 10, slot := 6, constantValue := 0 }, { name := "security", type := (.object "java/lang/SecurityManager"), accessFlags := 74, slot := 7, constantValue := 0 }, { name := "notSupportedJnuEncoding", type := (.object "java/lang/String"), accessFlags := 10, slot := 8, constantValue := 0 }, { name := "cons", type := (.object "java/io/Console"), accessFlags := 74, slot := 9, constantValue := 0 }, { name := "initialErrStream", type := (.object "java/io/PrintStream"), accessFlags := 74, slot := 10, constantValue := 0 }, { name := "props", type := (.object "java/util/Properties"), accessFlags := 10, slot := 11, constantValue := 0 }, { name := "lineSeparator", type := (.object "java/lang/String"), accessFlags := 10, slot := 12, constantValue := 0 }, { name := "bootLayer", type := (.object "java/lang/ModuleLayer"), accessFlags := 8, slot := 13, constantValue := 0 }]
  methods := #[k4m0, k4m1]
  instanceTypes := #[]
  staticTypes := #[(.object "java/io/InputStream"), (.object "java/io/PrintStream"), (.object "java/io/PrintStream"), (.object "java/io/InputStream"), .int, .int, .int, (.object "java/lang/SecurityManager"), (.object "java/lang/String"), (.object "java/io/Console"), (.object "java/io/PrintStream"), (.object "java/util/Properties"), (.object "java/lang/String"), (.object "java/lang/ModuleLayer")]
  resolved := Array.replicate 834 none
  statics := none }

def pool5 : Array CpInfo := pool [(1, u "java/lang/Cloneable"), (0, .class_ 1), (0, u "java/lang/Object"), (0, .class_ 3)] 3

/-- java/lang/Cloneable -/
def k5 : Class := { plain "java/lang/Cloneable" (some 0) with
  accessFlags := 1537
  interfaces := #[]
  cf := some (fileOf pool5 2 #[] #[] 1537 4 #[] #[])
  fields := #[]
  methods := #[]
  instanceTypes := #[]
  staticTypes := #[]
  resolved := Array.replicate 8 none
  statics := none }

def pool6 : Array CpInfo := pool [(1, u "java/io/Serializable"), (0, .class_ 1), (0, u "java/lang/Object"), (0, .class_ 3)] 3

/-- java/io/Serializable -/
def k6 : Class := { plain "java/io/Serializable" (some 0) with
  accessFlags := 1537
  interfaces := #[]
  cf := some (fileOf pool6 2 #[] #[] 1537 4 #[] #[])
  fields := #[]
  methods := #[]
  instanceTypes := #[]
  staticTypes := #[]
  resolved := Array.replicate 8 none
  statics := none }

/-- the primitive byte -/
def k7 : Class := { plain "byte" none with kind := .primitive 'B', accessFlags := 0x411 }
/-- [B -/
def k8 : Class := { plain "[B" (some 0) with kind := .array 7 .byte, interfaces := #[5, 6], accessFlags := 1041 }

/-- the primitive int -/
def k9 : Class := { plain "int" none with kind := .primitive 'I', accessFlags := 0x411 }
/-- [I -/
def k10 : Class := { plain "[I" (some 0) with kind := .array 9 .int, interfaces := #[5, 6], accessFlags := 1041 }

/-- the primitive long -/
def k11 : Class := { plain "long" none with kind := .primitive 'J', accessFlags := 0x411 }
/-- [J -/
def k12 : Class := { plain "[J" (some 0) with kind := .array 11 .long, interfaces := #[5, 6], accessFlags := 1041 }

def heap : Heap := #[{ cls := 2, slots := #[.long 0, .int 0, .ref 1], vm := .statics 2 },
  { cls := 12, slots := #[], vm := .none }]
def classes : Array Class := #[k0, k1, k2, k3, k4, k5, k6, k7, k8, k9, k10, k11, k12]
def interned : List (Array UInt16 × Addr) := []
def slotsUsed : Nat := 3
def theMethod : MethodId := ⟨1, 1⟩
def args0 : Array Value := #[.long 5, .long 5, .long 5, .long 5, .int 5, .int 5]
def aboutOver (below : List Frame) : State where
  vm := { classes := classes, interned := interned.toArray }
  heap := heap
  slotsUsed := slotsUsed
  threads := #[{ frames := .invoking theMethod args0 :: below }]
def below0 : List Frame := [.native { method := ⟨0, 0⟩, args := #[] }]
def about1 : State := aboutOver below0
def p0 : Program := .bare "" "" ""
def e0 : Env := launch0.env 0 0 0
theorem w_frames : about1.frames = Frame.invoking theMethod args0 :: below0 := rfl
set_option maxRecDepth 65536 in
theorem w_args : argsFit about1.vm theMethod args0 = true := by decide +kernel
set_option maxRecDepth 65536 in
theorem w_heap : heapFits about1 = true := by decide +kernel
set_option maxRecDepth 65536 in
theorem w_runnable : about1.curStatus? = some .runnable := by decide +kernel
set_option maxRecDepth 65536 in
theorem w_alone : about1.alone = true := by decide +kernel
set_option maxRecDepth 65536 in
theorem w_named : about1.methodNamed? x = some theMethod := by decide +kernel
set_option maxRecDepth 65536 in
theorem w_hears : about1.hears theMethod below0 = true := by decide +kernel
set_option maxRecDepth 65536 in
theorem w_ripe : about1.ripe theMethod args0 below0 = true := by decide +kernel
theorem w_running : about1.status = .running := rfl
set_option maxRecDepth 65536 in
theorem w_room : about1.hasRoom e0.platform room_1 = true :=
  launch0.hasRoom_least _ room_1 (by decide +kernel) (by decide +kernel) (by decide +kernel) (by decide +kernel) (by decide +kernel) (by decide +kernel)
theorem allAtoms_all (ts : List Jvm.Cond) (a : Array Jvm.Value) (st : Jvm.State) : (allAtoms ts).before a st = ts.all (fun c => c.before a st) := by
  induction ts with
  | nil => rfl
  | cons c t ih =>
    show (Jvm.Cond.and c (allAtoms t)).before a st = _
    rw [Jvm.Cond.before_and, ih, List.all_cons]
def words1 : List Jvm.Cond := Jvm.Cond.code x code maxLocals ret :: tables_1
/-- a 'code' word, met by the world's own term for the bytes: nothing is compared byte by byte -/
theorem code_word {y : MethodName} {bytes : ByteArray} {mx : Nat} {rt : Option FieldType} {a : Array Value} {s : State} {m : MethodId} {meth : Method} {c : Code} (h1 : s.methodNamed? y = some m) (h2 : s.vm.method? m = some meth) (h3 : meth.code = some c) (h4 : c.code = bytes)
    (h5 : (c.maxLocals == mx && c.exceptionTable.isEmpty && decide (c.maxStack ≤ mostOperands) && decide (meth.sig.returnType = rt) && !meth.locks && decide (parseMethodDescriptor y.desc = some meth.sig)) = true) : (Jvm.Cond.code y bytes mx rt).before a s = true := by
  simp only [Bool.and_eq_true, beq_iff_eq, Bool.not_eq_true', decide_eq_true_eq] at h5
  obtain ⟨⟨⟨⟨⟨g1, g2⟩, g3⟩, g4⟩, g5⟩, g6⟩ := h5
  simp [Cond.before, Cond.holds, Cond.value, h1, h2, h3, h4, g1, g2, g3, g4, g5, g6]
def isCode : Jvm.Cond → Bool
  | .code _ _ _ _ => true
  | _ => false
theorem all_split {L : List Jvm.Cond} {P : Jvm.Cond → Bool} (h1 : L.all (fun c => isCode c || P c) = true) (h2 : ∀ c ∈ L.filter isCode, P c = true) : L.all P = true := by
  refine List.all_eq_true.mpr fun c hc => ?_
  have h := List.all_eq_true.mp h1 c hc
  rcases Bool.eq_false_or_eq_true (isCode c) with hi | hi
  · exact h2 c (List.mem_filter.mpr ⟨hc, hi⟩)
  · simpa [hi] using h
set_option maxRecDepth 65536 in
theorem w_c0 : (Jvm.Cond.code x code maxLocals ret).before args0 about1 = true := code_word (m := ⟨1, 1⟩) (meth := k1m1) (c := k1c1) (by decide +kernel) rfl rfl rfl (by decide +kernel)
set_option maxRecDepth 65536 in
theorem w_c1 : (Jvm.Cond.code ({ cls := "com/example/meter/meter/store/Spans", name := "<init>", desc := "()V" } : Jvm.MethodName) prog_11_method_1_code (1 : Nat) (Option.none : Option Jvm.ClassFile.FieldType)).before args0 about1 = true := code_word (m := ⟨2, 0⟩) (meth := k2m0) (c := k2c0) (by decide +kernel) rfl rfl rfl (by decide +kernel)
set_option maxRecDepth 65536 in
theorem w_c2 : (Jvm.Cond.code ({ cls := "java/lang/Object", name := "<init>", desc := "()V" } : Jvm.MethodName) object_method_1_code (1 : Nat) (Option.none : Option Jvm.ClassFile.FieldType)).before args0 about1 = true := code_word (m := ⟨0, 0⟩) (meth := k0m0) (c := k0c0) (by decide +kernel) rfl rfl rfl (by decide +kernel)
set_option maxRecDepth 65536 in
theorem w_c3 : (Jvm.Cond.code ({ cls := "com/example/meter/meter/store/Spans", name := "append", desc := "(JJ)V" } : Jvm.MethodName) prog_11_method_9_code (5 : Nat) (Option.none : Option Jvm.ClassFile.FieldType)).before args0 about1 = true := code_word (m := ⟨2, 2⟩) (meth := k2m2) (c := k2c2) (by decide +kernel) rfl rfl rfl (by decide +kernel)
set_option maxRecDepth 65536 in
theorem w_c4 : (Jvm.Cond.code ({ cls := "com/example/meter/meter/store/Spans", name := "makeRoom", desc := "()V" } : Jvm.MethodName) prog_11_method_15_code (4 : Nat) (Option.none : Option Jvm.ClassFile.FieldType)).before args0 about1 = true := code_word (m := ⟨2, 7⟩) (meth := k2m7) (c := k2c7) (by decide +kernel) rfl rfl rfl (by decide +kernel)
set_option maxRecDepth 65536 in
theorem w_c5 : (Jvm.Cond.code ({ cls := "java/lang/Math", name := "max", desc := "(II)I" } : Jvm.MethodName) jdk_29_method_65_code (2 : Nat) (Option.some Jvm.ClassFile.FieldType.int)).before args0 about1 = true := code_word (m := ⟨3, 1⟩) (meth := k3m1) (c := k3c1) (by decide +kernel) rfl rfl rfl (by decide +kernel)
set_option maxRecDepth 65536 in
theorem w_c6 : (Jvm.Cond.code ({ cls := "com/example/meter/meter/store/Spans", name := "movedDown", desc := "([JI)[J" } : Jvm.MethodName) prog_11_method_16_code (4 : Nat) (Option.some (Jvm.ClassFile.FieldType.array Jvm.ClassFile.FieldType.long))).before args0 about1 = true := code_word (m := ⟨2, 8⟩) (meth := k2m8) (c := k2c8) (by decide +kernel) rfl rfl rfl (by decide +kernel)
set_option maxRecDepth 65536 in
theorem w_c7 : (Jvm.Cond.code ({ cls := "com/example/meter/meter/store/Spans", name := "totalBefore", desc := "(I)J" } : Jvm.MethodName) prog_11_method_14_code (2 : Nat) (Option.some Jvm.ClassFile.FieldType.long)).before args0 about1 = true := code_word (m := ⟨2, 6⟩) (meth := k2m6) (c := k2c6) (by decide +kernel) rfl rfl rfl (by decide +kernel)
set_option maxRecDepth 65536 in
theorem w_c8 : (Jvm.Cond.code ({ cls := "com/example/meter/meter/store/Spans", name := "newestSecond", desc := "()J" } : Jvm.MethodName) prog_11_method_7_code (1 : Nat) (Option.some Jvm.ClassFile.FieldType.long)).before args0 about1 = true := code_word (m := ⟨2, 1⟩) (meth := k2m1) (c := k2c1) (by decide +kernel) rfl rfl rfl (by decide +kernel)
set_option maxRecDepth 65536 in
theorem w_c9 : (Jvm.Cond.code ({ cls := "com/example/meter/meter/store/Spans", name := "dropThrough", desc := "(J)V" } : Jvm.MethodName) prog_11_method_10_code (3 : Nat) (Option.none : Option Jvm.ClassFile.FieldType)).before args0 about1 = true := code_word (m := ⟨2, 3⟩) (meth := k2m3) (c := k2c3) (by decide +kernel) rfl rfl rfl (by decide +kernel)
set_option maxRecDepth 65536 in
theorem w_c10 : (Jvm.Cond.code ({ cls := "com/example/meter/meter/store/Spans", name := "join", desc := "()V" } : Jvm.MethodName) prog_11_method_12_code (9 : Nat) (Option.none : Option Jvm.ClassFile.FieldType)).before args0 about1 = true := code_word (m := ⟨2, 4⟩) (meth := k2m4) (c := k2c4) (by decide +kernel) rfl rfl rfl (by decide +kernel)
set_option maxRecDepth 65536 in
theorem w_c11 : (Jvm.Cond.code ({ cls := "com/example/meter/meter/store/Spans", name := "mostHitsToStand", desc := "(J)J" } : Jvm.MethodName) prog_11_method_13_code (2 : Nat) (Option.some Jvm.ClassFile.FieldType.long)).before args0 about1 = true := code_word (m := ⟨2, 5⟩) (meth := k2m5) (c := k2c5) (by decide +kernel) rfl rfl rfl (by decide +kernel)
def codes1 : List Jvm.Cond := [Jvm.Cond.code x code maxLocals ret, Jvm.Cond.code ({ cls := "com/example/meter/meter/store/Spans", name := "<init>", desc := "()V" } : Jvm.MethodName) prog_11_method_1_code (1 : Nat) (Option.none : Option Jvm.ClassFile.FieldType), Jvm.Cond.code ({ cls := "java/lang/Object", name := "<init>", desc := "()V" } : Jvm.MethodName) object_method_1_code (1 : Nat) (Option.none : Option Jvm.ClassFile.FieldType), Jvm.Cond.code ({ cls := "com/example/meter/meter/store/Spans", name := "append", desc := "(JJ)V" } : Jvm.MethodName) prog_11_method_9_code (5 : Nat) (Option.none : Option Jvm.ClassFile.FieldType), Jvm.Cond.code ({ cls := "com/example/meter/meter/store/Spans", name := "makeRoom", desc := "()V" } : Jvm.MethodName) prog_11_method_15_code (4 : Nat) (Option.none : Option Jvm.ClassFile.FieldType), Jvm.Cond.code ({ cls := "java/lang/Math", name := "max", desc := "(II)I" } : Jvm.MethodName) jdk_29_method_65_code (2 : Nat) (Option.some Jvm.ClassFile.FieldType.int), Jvm.Cond.code ({ cls := "com/example/meter/meter/store/Spans", name := "movedDown", desc := "([JI)[J" } : Jvm.MethodName) prog_11_method_16_code (4 : Nat) (Option.some (Jvm.ClassFile.FieldType.array Jvm.ClassFile.FieldType.long)), Jvm.Cond.code ({ cls := "com/example/meter/meter/store/Spans", name := "totalBefore", desc := "(I)J" } : Jvm.MethodName) prog_11_method_14_code (2 : Nat) (Option.some Jvm.ClassFile.FieldType.long), Jvm.Cond.code ({ cls := "com/example/meter/meter/store/Spans", name := "newestSecond", desc := "()J" } : Jvm.MethodName) prog_11_method_7_code (1 : Nat) (Option.some Jvm.ClassFile.FieldType.long), Jvm.Cond.code ({ cls := "com/example/meter/meter/store/Spans", name := "dropThrough", desc := "(J)V" } : Jvm.MethodName) prog_11_method_10_code (3 : Nat) (Option.none : Option Jvm.ClassFile.FieldType), Jvm.Cond.code ({ cls := "com/example/meter/meter/store/Spans", name := "join", desc := "()V" } : Jvm.MethodName) prog_11_method_12_code (9 : Nat) (Option.none : Option Jvm.ClassFile.FieldType), Jvm.Cond.code ({ cls := "com/example/meter/meter/store/Spans", name := "mostHitsToStand", desc := "(J)J" } : Jvm.MethodName) prog_11_method_13_code (2 : Nat) (Option.some Jvm.ClassFile.FieldType.long)]
set_option maxRecDepth 65536 in
theorem codes_eq : words1.filter isCode = codes1 := rfl
theorem w_codes : ∀ c ∈ words1.filter isCode, c.before args0 about1 = true := by
  rw [codes_eq]
  intro c hc
  simp only [codes1, List.mem_cons, List.not_mem_nil, or_false] at hc
  rcases hc with rfl | rfl | rfl | rfl | rfl | rfl | rfl | rfl | rfl | rfl | rfl | rfl
  · exact w_c0
  · exact w_c1
  · exact w_c2
  · exact w_c3
  · exact w_c4
  · exact w_c5
  · exact w_c6
  · exact w_c7
  · exact w_c8
  · exact w_c9
  · exact w_c10
  · exact w_c11
set_option maxRecDepth 65536 in
theorem w_t1 : (words1.take 24).all (fun c => isCode c || c.before args0 about1) = true := by decide +kernel
set_option maxRecDepth 65536 in
theorem w_t2 : ((words1.drop 24).take 24).all (fun c => isCode c || c.before args0 about1) = true := by decide +kernel
set_option maxRecDepth 65536 in
theorem w_t3 : (((words1.drop 24).drop 24).take 24).all (fun c => isCode c || c.before args0 about1) = true := by decide +kernel
set_option maxRecDepth 65536 in
theorem w_t4 : (((words1.drop 24).drop 24).drop 24).all (fun c => isCode c || c.before args0 about1) = true := by decide +kernel
theorem w_tables : (allAtoms (Jvm.Cond.code x code maxLocals ret :: tables_1)).before args0 about1 = true := by
  rw [allAtoms_all]
  show words1.all (fun c => c.before args0 about1) = true
  refine all_split ?_ w_codes
  rw [← List.take_append_drop 24 words1, List.all_append, w_t1, ← List.take_append_drop 24 (words1.drop 24), List.all_append, w_t2, ← List.take_append_drop 24 ((words1.drop 24).drop 24), List.all_append, w_t3, w_t4]
  rfl
set_option maxRecDepth 65536 in
theorem w_case : (Jvm.Cond.and given_1 narrow_1).before args0 about1 = true := by decide +kernel
theorem w_applies : (headSpec (Jvm.Cond.code x code maxLocals ret :: tables_1) room_1).applies x e0.platform about1 = true :=
  (Spec.applies_iff w_frames).mpr ⟨w_running, w_runnable, w_alone, w_named, w_hears, w_ripe, w_room, w_tables⟩
theorem atStart : AtStart classFile x code maxLocals ret World_1 tables_1 room_1 Calls_1 rest_1 Pre_1 launch0 p0 e0 about1 theMethod args0 below0 :=
  ⟨lists_1, trivial, launch0.admits_env _ _ _, launch0.least_env, fairChoices_fair.cas, fairChoices_fair.clock, w_frames, w_args, w_heap, w_applies, trivial, trivial, w_case⟩
end start1
theorem witness_1 : WitnessClaimed_1 := ⟨start1.p0, start1.e0, start1.about1, start1.theMethod, start1.args0, start1.below0, start1.atStart⟩
end Jvm.Pilot.@@N@@
