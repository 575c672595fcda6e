import JvmDerived
import JvmDerived.Pilot.@@N@@Statement
import JvmDerived.Pilot.@@N@@Code
set_option linter.unusedVariables false
set_option linter.unusedSimpArgs false
@@BLOCK:NumsL.lean.txt@@
namespace Jvm.Pilot.@@N@@
open Jvm Jvm.ClassFile Sem Op Lib Jvm.Free Jvm.Stand Jvm.LawKit Jvm.RoadKit Bundle Jvm.Pilot.@@N@@.Jvm.D
abbrev oI (x : Int32) : Slot := .val (.int x)
abbrev oJ (x : Int64) : Slot := .val (.long x)
abbrev oA (x : Addr) : Slot := .val (.ref x)
abbrev oN : Slot := .val .null
abbrev oU : Slot := .unset
abbrev oS : Slot := .second
theorem own_w {Z : State} {a0 : Array Value} (hw : ∀ d ∈ tables_1, d.before a0 Z = true) (i : Nat) {d : Jvm.Cond} (h : tables_1[i]? = some d) : d.before a0 Z = true := hw d (List.mem_of_getElem? h)
section Own
variable {p : Program} {l : Launch} {e : Env} {R : Room} {s : State} {m : MethodId} {args : Array Value} {below : List Frame} {meth : Method} {c : Code} {T : State} {locs : List Loc} {cells slots : Nat} {P : State → Outcome → Prop} {pc : Nat} {ls : Array Slot} {st : List Value} {Z : State} {a0 : Array Value} {h : Heap} {bytes : ByteArray}
/-- the run goes on from A and ends so that P holds -/
def Go (p : Program) (e : Env) (below : List Frame) (P : State → Outcome → Prop) (A : State) : Prop := ∃ s₂ o, Steps p.tables e below A s₂ ∧ P s₂ o
theorem own_go {A A' : State} (h : ∀ t, Steps p.tables e below A' t → Steps p.tables e below A t) (k : Go p e below P A') : Go p e below P A := by
  obtain ⟨s₂, o, h1, h2⟩ := k
  exact ⟨s₂, o, h _ h1, h2⟩
/-! loads, stores, constants -/
theorem own_iload_n (pc' : Nat) (X : Stand p l e R s m args below meth c T locs cells slots) (hx : p.tables.exec = Jvm.exec) (hby : c.code = bytes) {k : Fin 4} {v : Int32} (hd : decode bytes pc = .ok (.iload_n k, 1)) (hp : pc + 1 = pc') (hl : ls[k.val]? = some (.val (.int v))) (r : Go p e below P (T.setTop (mkF m pc' ls (.int v :: st)))) : Go p e below P (T.setTop (mkF m pc ls st)) := by
  subst hp; exact own_go (fun t q => XS.iloadN X.here hx rfl (hb hby hd) hl q) r
theorem own_iload (pc' : Nat) (X : Stand p l e R s m args below meth c T locs cells slots) (hx : p.tables.exec = Jvm.exec) (hby : c.code = bytes) {k : Nat} {v : Int32} (hd : decode bytes pc = .ok (.iload k, 2)) (hp : pc + 2 = pc') (hl : ls[k]? = some (.val (.int v))) (r : Go p e below P (T.setTop (mkF m pc' ls (.int v :: st)))) : Go p e below P (T.setTop (mkF m pc ls st)) := by
  subst hp; exact own_go (fun t q => XS.iload X.here hx rfl (hb hby hd) hl q) r
theorem own_lload_n (pc' : Nat) (X : Stand p l e R s m args below meth c T locs cells slots) (hx : p.tables.exec = Jvm.exec) (hby : c.code = bytes) {k : Fin 4} {v : Int64} (hd : decode bytes pc = .ok (.lload_n k, 1)) (hp : pc + 1 = pc') (hl : ls[k.val]? = some (.val (.long v))) (r : Go p e below P (T.setTop (mkF m pc' ls (.long v :: st)))) : Go p e below P (T.setTop (mkF m pc ls st)) := by
  subst hp; exact own_go (fun t q => XT.lloadN X.here hx rfl (hb hby hd) hl q) r
theorem own_lload (pc' : Nat) (X : Stand p l e R s m args below meth c T locs cells slots) (hx : p.tables.exec = Jvm.exec) (hby : c.code = bytes) {k : Nat} {v : Int64} (hd : decode bytes pc = .ok (.lload k, 2)) (hp : pc + 2 = pc') (hl : ls[k]? = some (.val (.long v))) (r : Go p e below P (T.setTop (mkF m pc' ls (.long v :: st)))) : Go p e below P (T.setTop (mkF m pc ls st)) := by
  subst hp; exact own_go (fun t q => XT.lload X.here hx rfl (hb hby hd) hl q) r
theorem own_aload_n (pc' : Nat) (X : Stand p l e R s m args below meth c T locs cells slots) (hx : p.tables.exec = Jvm.exec) (hby : c.code = bytes) {k : Fin 4} {v : Value} (hd : decode bytes pc = .ok (.aload_n k, 1)) (hp : pc + 1 = pc') (hl : ls[k.val]? = some (.val v)) (hv : v.isRef = true) (r : Go p e below P (T.setTop (mkF m pc' ls (v :: st)))) : Go p e below P (T.setTop (mkF m pc ls st)) := by
  subst hp; exact own_go (fun t q => XS.aloadN X.here hx rfl (hb hby hd) hl hv q) r
theorem own_aload (pc' : Nat) (X : Stand p l e R s m args below meth c T locs cells slots) (hx : p.tables.exec = Jvm.exec) (hby : c.code = bytes) {k : Nat} {v : Value} (hd : decode bytes pc = .ok (.aload k, 2)) (hp : pc + 2 = pc') (hl : ls[k]? = some (.val v)) (hv : v.isRef = true) (r : Go p e below P (T.setTop (mkF m pc' ls (v :: st)))) : Go p e below P (T.setTop (mkF m pc ls st)) := by
  subst hp; exact own_go (fun t q => XS.aload X.here hx rfl (hb hby hd) hl hv q) r
theorem own_istore_n (pc' : Nat) (l' : Array Slot) (X : Stand p l e R s m args below meth c T locs cells slots) (hx : p.tables.exec = Jvm.exec) (hby : c.code = bytes) {k : Fin 4} {v : Int32} (hd : decode bytes pc = .ok (.istore_n k, 1)) (hp : pc + 1 = pc') (hl : storeLocals ls k.val (.int v) = some l') (r : Go p e below P (T.setTop (mkF m pc' l' st))) : Go p e below P (T.setTop (mkF m pc ls (.int v :: st))) := by
  subst hp; exact own_go (fun t q => XS.istoreN X.here hx rfl (hb hby hd) rfl hl q) r
theorem own_istore (pc' : Nat) (l' : Array Slot) (X : Stand p l e R s m args below meth c T locs cells slots) (hx : p.tables.exec = Jvm.exec) (hby : c.code = bytes) {k : Nat} {v : Int32} (hd : decode bytes pc = .ok (.istore k, 2)) (hp : pc + 2 = pc') (hl : storeLocals ls k (.int v) = some l') (r : Go p e below P (T.setTop (mkF m pc' l' st))) : Go p e below P (T.setTop (mkF m pc ls (.int v :: st))) := by
  subst hp; exact own_go (fun t q => XS.istore X.here hx rfl (hb hby hd) rfl hl q) r
theorem own_lstore_n (pc' : Nat) (l' : Array Slot) (X : Stand p l e R s m args below meth c T locs cells slots) (hx : p.tables.exec = Jvm.exec) (hby : c.code = bytes) {k : Fin 4} {v : Int64} (hd : decode bytes pc = .ok (.lstore_n k, 1)) (hp : pc + 1 = pc') (hl : storeLocals ls k.val (.long v) = some l') (r : Go p e below P (T.setTop (mkF m pc' l' st))) : Go p e below P (T.setTop (mkF m pc ls (.long v :: st))) := by
  subst hp; exact own_go (fun t q => XT.lstoreN X.here hx rfl (hb hby hd) rfl hl q) r
theorem own_lstore (pc' : Nat) (l' : Array Slot) (X : Stand p l e R s m args below meth c T locs cells slots) (hx : p.tables.exec = Jvm.exec) (hby : c.code = bytes) {k : Nat} {v : Int64} (hd : decode bytes pc = .ok (.lstore k, 2)) (hp : pc + 2 = pc') (hl : storeLocals ls k (.long v) = some l') (r : Go p e below P (T.setTop (mkF m pc' l' st))) : Go p e below P (T.setTop (mkF m pc ls (.long v :: st))) := by
  subst hp; exact own_go (fun t q => XT.lstore X.here hx rfl (hb hby hd) rfl hl q) r
theorem own_astore_n (pc' : Nat) (l' : Array Slot) (X : Stand p l e R s m args below meth c T locs cells slots) (hx : p.tables.exec = Jvm.exec) (hby : c.code = bytes) {k : Fin 4} {v : Value} (hd : decode bytes pc = .ok (.astore_n k, 1)) (hp : pc + 1 = pc') (hv : v.isRef = true) (hl : storeLocals ls k.val v = some l') (r : Go p e below P (T.setTop (mkF m pc' l' st))) : Go p e below P (T.setTop (mkF m pc ls (v :: st))) := by
  subst hp; exact own_go (fun t q => XS.astoreN X.here hx rfl (hb hby hd) rfl hv hl q) r
theorem own_astore (pc' : Nat) (l' : Array Slot) (X : Stand p l e R s m args below meth c T locs cells slots) (hx : p.tables.exec = Jvm.exec) (hby : c.code = bytes) {k : Nat} {v : Value} (hd : decode bytes pc = .ok (.astore k, 2)) (hp : pc + 2 = pc') (hv : v.isRef = true) (hl : storeLocals ls k v = some l') (r : Go p e below P (T.setTop (mkF m pc' l' st))) : Go p e below P (T.setTop (mkF m pc ls (v :: st))) := by
  subst hp; exact own_go (fun t q => XS.astore X.here hx rfl (hb hby hd) rfl hv hl q) r
theorem own_iconst (pc' : Nat) (w : Int32) (X : Stand p l e R s m args below meth c T locs cells slots) (hx : p.tables.exec = Jvm.exec) (hby : c.code = bytes) {i : Int} (hd : decode bytes pc = .ok (.iconst i, 1)) (hp : pc + 1 = pc') (hw : Int32.ofInt i = w) (r : Go p e below P (T.setTop (mkF m pc' ls (.int w :: st)))) : Go p e below P (T.setTop (mkF m pc ls st)) := by
  subst hp hw; exact own_go (fun t q => XS.iconst X.here hx rfl (hb hby hd) q) r
theorem own_bipush (pc' : Nat) (w : Int32) (X : Stand p l e R s m args below meth c T locs cells slots) (hx : p.tables.exec = Jvm.exec) (hby : c.code = bytes) {i : Int} (hd : decode bytes pc = .ok (.bipush i, 2)) (hp : pc + 2 = pc') (hw : (Int8.ofInt i).toInt32 = w) (r : Go p e below P (T.setTop (mkF m pc' ls (.int w :: st)))) : Go p e below P (T.setTop (mkF m pc ls st)) := by
  subst hp hw; exact own_go (fun t q => XS.bipush X.here hx rfl (hb hby hd) q) r
theorem own_sipush (pc' : Nat) (w : Int32) (X : Stand p l e R s m args below meth c T locs cells slots) (hx : p.tables.exec = Jvm.exec) (hby : c.code = bytes) {i : Int} (hd : decode bytes pc = .ok (.sipush i, 3)) (hp : pc + 3 = pc') (hw : (Int16.ofInt i).toInt32 = w) (r : Go p e below P (T.setTop (mkF m pc' ls (.int w :: st)))) : Go p e below P (T.setTop (mkF m pc ls st)) := by
  subst hp hw; exact own_go (fun t q => XS.sipush X.here hx rfl (hb hby hd) q) r
theorem own_lconst (pc' : Nat) (w : Int64) (X : Stand p l e R s m args below meth c T locs cells slots) (hx : p.tables.exec = Jvm.exec) (hby : c.code = bytes) {k : Fin 2} (hd : decode bytes pc = .ok (.lconst k, 1)) (hp : pc + 1 = pc') (hw : Int64.ofNat k = w) (r : Go p e below P (T.setTop (mkF m pc' ls (.long w :: st)))) : Go p e below P (T.setTop (mkF m pc ls st)) := by
  subst hp hw; exact own_go (fun t q => XT.lconst X.here hx rfl (hb hby hd) q) r
theorem own_null (pc' : Nat) (X : Stand p l e R s m args below meth c T locs cells slots) (hx : p.tables.exec = Jvm.exec) (hby : c.code = bytes) (hd : decode bytes pc = .ok (.aconst_null, 1)) (hp : pc + 1 = pc') (r : Go p e below P (T.setTop (mkF m pc' ls (.null :: st)))) : Go p e below P (T.setTop (mkF m pc ls st)) := by
  subst hp; exact own_go (fun t q => XS.aconstNull X.here hx rfl (hb hby hd) q) r
theorem own_ldc (pc' : Nat) (X : Stand p l e R s m args below meth c T locs cells slots) (hx : p.tables.exec = Jvm.exec) (hby : c.code = bytes) (hZ : Z.Warmed39 s.vm) {own : String} {index : Nat} {v : Int32} (hown : s.vm.findClass own = some m.cls) (w : (Cond.constant own index v).before a0 Z = true) (hd : decode bytes pc = .ok (.ldc index, 2)) (hp : pc + 2 = pc') (r : Go p e below P (T.setTop (mkF m pc' ls (.int v :: st)))) : Go p e below P (T.setTop (mkF m pc ls st)) := by
  subst hp; exact own_go (fun t q => X.ldcI hx hown (mvT hZ w) rfl (hb hby hd) q) r
theorem own_ldc2 (pc' : Nat) (X : Stand p l e R s m args below meth c T locs cells slots) (hx : p.tables.exec = Jvm.exec) (hby : c.code = bytes) (hZ : Z.Warmed39 s.vm) {own : String} {index : Nat} {v : Int64} (hown : s.vm.findClass own = some m.cls) (w : (Cond.constantLong own index v).before a0 Z = true) (hd : decode bytes pc = .ok (.ldc2_w index, 3)) (hp : pc + 3 = pc') (r : Go p e below P (T.setTop (mkF m pc' ls (.long v :: st)))) : Go p e below P (T.setTop (mkF m pc ls st)) := by
  subst hp; exact own_go (fun t q => X.ldc2J hx hown (mvT hZ w) rfl (hb hby hd) q) r
/-! arithmetic -/
theorem own_iadd (pc' : Nat) (w : Int32) (X : Stand p l e R s m args below meth c T locs cells slots) (hx : p.tables.exec = Jvm.exec) (hby : c.code = bytes) {x y : Int32} (hd : decode bytes pc = .ok (.iadd, 1)) (hp : pc + 1 = pc') (hw : x + y = w) (r : Go p e below P (T.setTop (mkF m pc' ls (.int w :: st)))) : Go p e below P (T.setTop (mkF m pc ls (.int y :: .int x :: st))) := by
  subst hp hw; exact own_go (fun t q => XS.iadd X.here hx rfl (hb hby hd) rfl q) r
theorem own_isub (pc' : Nat) (w : Int32) (X : Stand p l e R s m args below meth c T locs cells slots) (hx : p.tables.exec = Jvm.exec) (hby : c.code = bytes) {x y : Int32} (hd : decode bytes pc = .ok (.isub, 1)) (hp : pc + 1 = pc') (hw : x - y = w) (r : Go p e below P (T.setTop (mkF m pc' ls (.int w :: st)))) : Go p e below P (T.setTop (mkF m pc ls (.int y :: .int x :: st))) := by
  subst hp hw; exact own_go (fun t q => XS.isub X.here hx rfl (hb hby hd) rfl q) r
theorem own_imul (pc' : Nat) (w : Int32) (X : Stand p l e R s m args below meth c T locs cells slots) (hx : p.tables.exec = Jvm.exec) (hby : c.code = bytes) {x y : Int32} (hd : decode bytes pc = .ok (.imul, 1)) (hp : pc + 1 = pc') (hw : x * y = w) (r : Go p e below P (T.setTop (mkF m pc' ls (.int w :: st)))) : Go p e below P (T.setTop (mkF m pc ls (.int y :: .int x :: st))) := by
  subst hp hw; exact own_go (fun t q => XS.imul X.here hx rfl (hb hby hd) rfl q) r
theorem own_idiv (pc' : Nat) (w : Int32) (X : Stand p l e R s m args below meth c T locs cells slots) (hx : p.tables.exec = Jvm.exec) (hby : c.code = bytes) {x y : Int32} (hd : decode bytes pc = .ok (.idiv, 1)) (hp : pc + 1 = pc') (hy : y ≠ 0) (hw : x / y = w) (r : Go p e below P (T.setTop (mkF m pc' ls (.int w :: st)))) : Go p e below P (T.setTop (mkF m pc ls (.int y :: .int x :: st))) := by
  subst hp hw; exact own_go (fun t q => XS.idiv X.here hx rfl (hb hby hd) rfl hy q) r
theorem own_irem (pc' : Nat) (w : Int32) (X : Stand p l e R s m args below meth c T locs cells slots) (hx : p.tables.exec = Jvm.exec) (hby : c.code = bytes) {x y : Int32} (hd : decode bytes pc = .ok (.irem, 1)) (hp : pc + 1 = pc') (hy : y ≠ 0) (hw : x % y = w) (r : Go p e below P (T.setTop (mkF m pc' ls (.int w :: st)))) : Go p e below P (T.setTop (mkF m pc ls (.int y :: .int x :: st))) := by
  subst hp hw; exact own_go (fun t q => iremM X hx rfl (hb hby hd) rfl hy q) r
theorem own_iand (pc' : Nat) (w : Int32) (X : Stand p l e R s m args below meth c T locs cells slots) (hx : p.tables.exec = Jvm.exec) (hby : c.code = bytes) {x y : Int32} (hd : decode bytes pc = .ok (.iand, 1)) (hp : pc + 1 = pc') (hw : x &&& y = w) (r : Go p e below P (T.setTop (mkF m pc' ls (.int w :: st)))) : Go p e below P (T.setTop (mkF m pc ls (.int y :: .int x :: st))) := by
  subst hp hw; exact own_go (fun t q => XS.iand X.here hx rfl (hb hby hd) rfl q) r
theorem own_ishr (pc' : Nat) (w : Int32) (X : Stand p l e R s m args below meth c T locs cells slots) (hx : p.tables.exec = Jvm.exec) (hby : c.code = bytes) {x y : Int32} (hd : decode bytes pc = .ok (.ishr, 1)) (hp : pc + 1 = pc') (hw : x >>> (y &&& 31) = w) (r : Go p e below P (T.setTop (mkF m pc' ls (.int w :: st)))) : Go p e below P (T.setTop (mkF m pc ls (.int y :: .int x :: st))) := by
  subst hp hw; exact own_go (fun t q => XT.ishr X.here hx rfl (hb hby hd) rfl q) r
theorem own_iushr (pc' : Nat) (w : Int32) (X : Stand p l e R s m args below meth c T locs cells slots) (hx : p.tables.exec = Jvm.exec) (hby : c.code = bytes) {x y : Int32} (hd : decode bytes pc = .ok (.iushr, 1)) (hp : pc + 1 = pc') (hw : XT.ushr x y = w) (r : Go p e below P (T.setTop (mkF m pc' ls (.int w :: st)))) : Go p e below P (T.setTop (mkF m pc ls (.int y :: .int x :: st))) := by
  subst hp hw; exact own_go (fun t q => XT.iushr X.here hx rfl (hb hby hd) rfl q) r
theorem own_ladd (pc' : Nat) (w : Int64) (X : Stand p l e R s m args below meth c T locs cells slots) (hx : p.tables.exec = Jvm.exec) (hby : c.code = bytes) {x y : Int64} (hd : decode bytes pc = .ok (.ladd, 1)) (hp : pc + 1 = pc') (hw : x + y = w) (r : Go p e below P (T.setTop (mkF m pc' ls (.long w :: st)))) : Go p e below P (T.setTop (mkF m pc ls (.long y :: .long x :: st))) := by
  subst hp hw; exact own_go (fun t q => XT.ladd X.here hx rfl (hb hby hd) rfl q) r
theorem own_lsub (pc' : Nat) (w : Int64) (X : Stand p l e R s m args below meth c T locs cells slots) (hx : p.tables.exec = Jvm.exec) (hby : c.code = bytes) {x y : Int64} (hd : decode bytes pc = .ok (.lsub, 1)) (hp : pc + 1 = pc') (hw : x - y = w) (r : Go p e below P (T.setTop (mkF m pc' ls (.long w :: st)))) : Go p e below P (T.setTop (mkF m pc ls (.long y :: .long x :: st))) := by
  subst hp hw; exact own_go (fun t q => XT.lsub X.here hx rfl (hb hby hd) rfl q) r
theorem own_lmul (pc' : Nat) (w : Int64) (X : Stand p l e R s m args below meth c T locs cells slots) (hx : p.tables.exec = Jvm.exec) (hby : c.code = bytes) {x y : Int64} (hd : decode bytes pc = .ok (.lmul, 1)) (hp : pc + 1 = pc') (hw : x * y = w) (r : Go p e below P (T.setTop (mkF m pc' ls (.long w :: st)))) : Go p e below P (T.setTop (mkF m pc ls (.long y :: .long x :: st))) := by
  subst hp hw; exact own_go (fun t q => XT.lmul X.here hx rfl (hb hby hd) rfl q) r
theorem own_ldiv (pc' : Nat) (w : Int64) (X : Stand p l e R s m args below meth c T locs cells slots) (hx : p.tables.exec = Jvm.exec) (hby : c.code = bytes) {x y : Int64} (hd : decode bytes pc = .ok (.ldiv, 1)) (hp : pc + 1 = pc') (hy : y ≠ 0) (hw : x / y = w) (r : Go p e below P (T.setTop (mkF m pc' ls (.long w :: st)))) : Go p e below P (T.setTop (mkF m pc ls (.long y :: .long x :: st))) := by
  subst hp hw; exact own_go (fun t q => XT.ldiv X.here hx rfl (hb hby hd) rfl hy q) r
theorem own_lrem (pc' : Nat) (w : Int64) (X : Stand p l e R s m args below meth c T locs cells slots) (hx : p.tables.exec = Jvm.exec) (hby : c.code = bytes) {x y : Int64} (hd : decode bytes pc = .ok (.lrem, 1)) (hp : pc + 1 = pc') (hy : y ≠ 0) (hw : x - (x / y) * y = w) (r : Go p e below P (T.setTop (mkF m pc' ls (.long w :: st)))) : Go p e below P (T.setTop (mkF m pc ls (.long y :: .long x :: st))) := by
  subst hp hw; exact own_go (fun t q => XT.lrem X.here hx rfl (hb hby hd) rfl hy q) r
theorem own_land (pc' : Nat) (w : Int64) (X : Stand p l e R s m args below meth c T locs cells slots) (hx : p.tables.exec = Jvm.exec) (hby : c.code = bytes) {x y : Int64} (hd : decode bytes pc = .ok (.land, 1)) (hp : pc + 1 = pc') (hw : x &&& y = w) (r : Go p e below P (T.setTop (mkF m pc' ls (.long w :: st)))) : Go p e below P (T.setTop (mkF m pc ls (.long y :: .long x :: st))) := by
  subst hp hw; exact own_go (fun t q => XT.land X.here hx rfl (hb hby hd) rfl q) r
theorem own_lushr (pc' : Nat) (w : Int64) (X : Stand p l e R s m args below meth c T locs cells slots) (hx : p.tables.exec = Jvm.exec) (hby : c.code = bytes) {x : Int64} {y : Int32} (hd : decode bytes pc = .ok (.lushr, 1)) (hp : pc + 1 = pc') (hw : XT.ushrL x y = w) (r : Go p e below P (T.setTop (mkF m pc' ls (.long w :: st)))) : Go p e below P (T.setTop (mkF m pc ls (.int y :: .long x :: st))) := by
  subst hp hw; exact own_go (fun t q => XT.lushr X.here hx rfl (hb hby hd) rfl q) r
theorem own_i2l (pc' : Nat) (w : Int64) (X : Stand p l e R s m args below meth c T locs cells slots) (hx : p.tables.exec = Jvm.exec) (hby : c.code = bytes) {x : Int32} (hd : decode bytes pc = .ok (.i2l, 1)) (hp : pc + 1 = pc') (hw : x.toInt64 = w) (r : Go p e below P (T.setTop (mkF m pc' ls (.long w :: st)))) : Go p e below P (T.setTop (mkF m pc ls (.int x :: st))) := by
  subst hp hw; exact own_go (fun t q => XT.i2l X.here hx rfl (hb hby hd) rfl q) r
theorem own_l2i (pc' : Nat) (w : Int32) (X : Stand p l e R s m args below meth c T locs cells slots) (hx : p.tables.exec = Jvm.exec) (hby : c.code = bytes) {x : Int64} (hd : decode bytes pc = .ok (.l2i, 1)) (hp : pc + 1 = pc') (hw : x.toInt32 = w) (r : Go p e below P (T.setTop (mkF m pc' ls (.int w :: st)))) : Go p e below P (T.setTop (mkF m pc ls (.long x :: st))) := by
  subst hp hw; exact own_go (fun t q => XT.l2i X.here hx rfl (hb hby hd) rfl q) r
theorem own_lcmp (pc' : Nat) (w : Int32) (X : Stand p l e R s m args below meth c T locs cells slots) (hx : p.tables.exec = Jvm.exec) (hby : c.code = bytes) {x y : Int64} (hd : decode bytes pc = .ok (.lcmp, 1)) (hp : pc + 1 = pc') (hw : XT.cmpL x y = w) (r : Go p e below P (T.setTop (mkF m pc' ls (.int w :: st)))) : Go p e below P (T.setTop (mkF m pc ls (.long y :: .long x :: st))) := by
  subst hp hw; exact own_go (fun t q => XT.lcmp X.here hx rfl (hb hby hd) rfl q) r
theorem own_iinc (pc' : Nat) (l' : Array Slot) (X : Stand p l e R s m args below meth c T locs cells slots) (hx : p.tables.exec = Jvm.exec) (hby : c.code = bytes) {k : Nat} {i : Int} {x : Int32} (hd : decode bytes pc = .ok (.iinc k i, 3)) (hp : pc + 3 = pc') (hl : ls[k]? = some (.val (.int x))) (hl' : storeLocals ls k (.int (x + Int32.ofInt i)) = some l') (r : Go p e below P (T.setTop (mkF m pc' l' st))) : Go p e below P (T.setTop (mkF m pc ls st)) := by
  subst hp; exact own_go (fun t q => XS.iinc X.here hx rfl (hb hby hd) hl hl' q) r
theorem own_dup (pc' : Nat) (X : Stand p l e R s m args below meth c T locs cells slots) (hx : p.tables.exec = Jvm.exec) (hby : c.code = bytes) {v : Value} (hd : decode bytes pc = .ok (.dup, 1)) (hp : pc + 1 = pc') (hc : v.category = 1) (r : Go p e below P (T.setTop (mkF m pc' ls (v :: v :: st)))) : Go p e below P (T.setTop (mkF m pc ls (v :: st))) := by
  subst hp; exact own_go (fun t q => XS.dup X.here hx rfl (hb hby hd) rfl hc q) r
theorem own_pop (pc' : Nat) (X : Stand p l e R s m args below meth c T locs cells slots) (hx : p.tables.exec = Jvm.exec) (hby : c.code = bytes) {v : Value} (hd : decode bytes pc = .ok (.pop, 1)) (hp : pc + 1 = pc') (hc : v.category = 1) (r : Go p e below P (T.setTop (mkF m pc' ls st))) : Go p e below P (T.setTop (mkF m pc ls (v :: st))) := by
  subst hp; exact own_go (fun t q => XT.pop X.here hx rfl (hb hby hd) rfl hc q) r
/-! branches -/
theorem own_goto (pc' : Nat) (X : Stand p l e R s m args below meth c T locs cells slots) (hx : p.tables.exec = Jvm.exec) (hby : c.code = bytes) {o : Int} (hd : decode bytes pc = .ok (.goto o, 3)) (ho : 0 ≤ (pc : Int) + o) (hp : ((pc : Int) + o).toNat = pc') (r : Go p e below P (T.setTop (mkF m pc' ls st))) : Go p e below P (T.setTop (mkF m pc ls st)) :=
  own_go (fun t q => XS.goto X.here hx rfl rfl (hb hby hd) ho hp q) r
theorem own_ifY (pc' : Nat) (X : Stand p l e R s m args below meth c T locs cells slots) (hx : p.tables.exec = Jvm.exec) (hby : c.code = bytes) {cd : ClassFile.Cond} {x : Int32} {o : Int} (hd : decode bytes pc = .ok (.ifCond cd o, 3)) (ho : 0 ≤ (pc : Int) + o) (hp : ((pc : Int) + o).toNat = pc') (hc : ifCond.holds cd x = true) (r : Go p e below P (T.setTop (mkF m pc' ls st))) : Go p e below P (T.setTop (mkF m pc ls (.int x :: st))) :=
  own_go (fun t q => XS.ifYes X.here hx rfl rfl (hb hby hd) rfl hc ho hp q) r
theorem own_ifN (pc' : Nat) (X : Stand p l e R s m args below meth c T locs cells slots) (hx : p.tables.exec = Jvm.exec) (hby : c.code = bytes) {cd : ClassFile.Cond} {x : Int32} {o : Int} (hd : decode bytes pc = .ok (.ifCond cd o, 3)) (hp : pc + 3 = pc') (hc : ifCond.holds cd x = false) (r : Go p e below P (T.setTop (mkF m pc' ls st))) : Go p e below P (T.setTop (mkF m pc ls (.int x :: st))) := by
  subst hp; exact own_go (fun t q => XS.ifNo X.here hx rfl (hb hby hd) rfl hc q) r
theorem own_icY (pc' : Nat) (X : Stand p l e R s m args below meth c T locs cells slots) (hx : p.tables.exec = Jvm.exec) (hby : c.code = bytes) {cd : ClassFile.Cond} {x y : Int32} {o : Int} (hd : decode bytes pc = .ok (.if_icmp cd o, 3)) (ho : 0 ≤ (pc : Int) + o) (hp : ((pc : Int) + o).toNat = pc') (hc : if_icmp.holds cd x y = true) (r : Go p e below P (T.setTop (mkF m pc' ls st))) : Go p e below P (T.setTop (mkF m pc ls (.int y :: .int x :: st))) :=
  own_go (fun t q => XS.icmpYes X.here hx rfl rfl (hb hby hd) rfl hc ho hp q) r
theorem own_icN (pc' : Nat) (X : Stand p l e R s m args below meth c T locs cells slots) (hx : p.tables.exec = Jvm.exec) (hby : c.code = bytes) {cd : ClassFile.Cond} {x y : Int32} {o : Int} (hd : decode bytes pc = .ok (.if_icmp cd o, 3)) (hp : pc + 3 = pc') (hc : if_icmp.holds cd x y = false) (r : Go p e below P (T.setTop (mkF m pc' ls st))) : Go p e below P (T.setTop (mkF m pc ls (.int y :: .int x :: st))) := by
  subst hp; exact own_go (fun t q => XS.icmpNo X.here hx rfl (hb hby hd) rfl hc q) r
theorem own_acmp (pc' : Nat) (same : Bool) (X : Stand p l e R s m args below meth c T locs cells slots) (hx : p.tables.exec = Jvm.exec) (hby : c.code = bytes) {cd : ACond} {x y : Value} {o : Int} (hd : decode bytes pc = .ok (.if_acmp cd o, 3)) (h1 : x.isRef = true) (h2 : y.isRef = true) (ho : 0 ≤ (pc : Int) + o) (hp : pc' = if acV cd same = true then ((pc : Int) + o).toNat else pc + 3) (hq : decide (x = y) = same) (r : Go p e below P (T.setTop (mkF m pc' ls st))) : Go p e below P (T.setTop (mkF m pc ls (y :: x :: st))) :=
  own_go (fun t q => Jvm.RoadKit.acmp X hx rfl h1 h2 rfl (hb hby hd) rfl hq ho hp q) r
theorem own_nullY (pc' : Nat) (X : Stand p l e R s m args below meth c T locs cells slots) (hx : p.tables.exec = Jvm.exec) (hby : c.code = bytes) {o : Int} (hd : decode bytes pc = .ok (.ifnull o, 3)) (ho : 0 ≤ (pc : Int) + o) (hp : ((pc : Int) + o).toNat = pc') (r : Go p e below P (T.setTop (mkF m pc' ls st))) : Go p e below P (T.setTop (mkF m pc ls (.null :: st))) :=
  own_go (fun t q => XS.ifnullYes X.here hx rfl rfl (hb hby hd) rfl ho hp q) r
theorem own_nullN (pc' : Nat) (X : Stand p l e R s m args below meth c T locs cells slots) (hx : p.tables.exec = Jvm.exec) (hby : c.code = bytes) {o : Int} {b : Addr} (hd : decode bytes pc = .ok (.ifnull o, 3)) (hp : pc + 3 = pc') (r : Go p e below P (T.setTop (mkF m pc' ls st))) : Go p e below P (T.setTop (mkF m pc ls (.ref b :: st))) := by
  subst hp; exact own_go (fun t q => XS.ifnullNo X.here hx rfl (hb hby hd) rfl q) r
theorem own_nnY (pc' : Nat) (X : Stand p l e R s m args below meth c T locs cells slots) (hx : p.tables.exec = Jvm.exec) (hby : c.code = bytes) {o : Int} {b : Addr} (hd : decode bytes pc = .ok (.ifnonnull o, 3)) (ho : 0 ≤ (pc : Int) + o) (hp : ((pc : Int) + o).toNat = pc') (r : Go p e below P (T.setTop (mkF m pc' ls st))) : Go p e below P (T.setTop (mkF m pc ls (.ref b :: st))) :=
  own_go (fun t q => XT.ifnonnullYes X.here hx rfl rfl (hb hby hd) rfl ho hp q) r
theorem own_nnN (pc' : Nat) (X : Stand p l e R s m args below meth c T locs cells slots) (hx : p.tables.exec = Jvm.exec) (hby : c.code = bytes) {o : Int} (hd : decode bytes pc = .ok (.ifnonnull o, 3)) (hp : pc + 3 = pc') (r : Go p e below P (T.setTop (mkF m pc' ls st))) : Go p e below P (T.setTop (mkF m pc ls (.null :: st))) := by
  subst hp; exact own_go (fun t q => XT.ifnonnullNo X.here hx rfl (hb hby hd) rfl q) r
/-! what lcmp and a branch behind it say -/
theorem own_tltL {x y : Int64} (h : x < y) : ifCond.holds .lt (XT.cmpL x y) = true ∧ ifCond.holds .ge (XT.cmpL x y) = false ∧ ifCond.holds .gt (XT.cmpL y x) = true ∧ ifCond.holds .le (XT.cmpL y x) = false := by
  have h1 : ¬ y < x := fun q => absurd h (Int64.lt_asymm q)
  have h2 : ¬ x = y := fun q => absurd (q ▸ h) Int64.lt_irrefl
  have h3 : ¬ y = x := fun q => h2 q.symm
  simp only [XT.cmpL, h, h1, h2, h3, if_true, if_false]
  decide
theorem own_fltL {x y : Int64} (h : ¬ x < y) : ifCond.holds .lt (XT.cmpL x y) = false ∧ ifCond.holds .ge (XT.cmpL x y) = true ∧ ifCond.holds .gt (XT.cmpL y x) = false ∧ ifCond.holds .le (XT.cmpL y x) = true := by
  by_cases q : x = y
  · subst q
    simp only [XT.cmpL, h, if_true, if_false]
    decide
  · have h1 : y < x := by
      rw [Int64.lt_iff_toInt_lt] at h ⊢
      have : x.toInt ≠ y.toInt := fun z => q (Int64.toInt_inj.mp z)
      omega
    have h3 : ¬ y = x := fun z => q z.symm
    simp only [XT.cmpL, h, h1, q, h3, if_true, if_false]
    decide
theorem own_teqL {x y : Int64} (h : x = y) : ifCond.holds .eq (XT.cmpL x y) = true ∧ ifCond.holds .ne (XT.cmpL x y) = false := by
  subst h
  simp only [XT.cmpL, Int64.lt_irrefl, if_true, if_false]
  decide
theorem own_feqL {x y : Int64} (h : ¬ x = y) : ifCond.holds .eq (XT.cmpL x y) = false ∧ ifCond.holds .ne (XT.cmpL x y) = true := by
  by_cases q : y < x
  · simp only [XT.cmpL, q, if_true]
    decide
  · simp only [XT.cmpL, q, h, if_false]
    decide
/-! fields, statics -/
theorem own_getS (pc' : Nat) (X : Stand p l e R s m args below meth c T locs cells slots) (hx : p.tables.exec = Jvm.exec) (hby : c.code = bytes) (hZ : Z.Warmed39 s.vm) {own O n d : String} {index : Nat} (hown : s.vm.findClass own = some m.cls) (w : (Cond.fieldLink own index O n d).before a0 Z = true) (eT : T.heap = h) {v : Value} (F : Sta Z h O n d v) (hd : decode bytes pc = .ok (.getstatic index, 3)) (hp : pc + 3 = pc')
    (r : ∀ T', Stand p l e R s m args below meth c T' locs cells slots → T'.heap = h → Go p e below P (T'.setTop (mkF m pc' ls (v :: st)))) : Go p e below P (T.setTop (mkF m pc ls st)) := by
  subst hp
  obtain ⟨T', X', e', q⟩ := getS2 X hx hZ hown (host := "") (Or.inl w) Via.refl eT F (g := mkF m pc ls st) rfl (hb hby hd)
  exact own_go q (r T' X' e')
theorem own_getSN (pc' : Nat) (X : Stand p l e R s m args below meth c T locs cells slots) (hx : p.tables.exec = Jvm.exec) (hby : c.code = bytes) (hZ : Z.Warmed39 s.vm) {own O n d host : String} {index : Nat} (hown : s.vm.findClass own = some m.cls) (w : (Cond.fieldLinkNest own index O n d host).before a0 Z = true) (eT : T.heap = h) {v : Value} (F : Sta Z h O n d v) (hd : decode bytes pc = .ok (.getstatic index, 3)) (hp : pc + 3 = pc')
    (r : ∀ T', Stand p l e R s m args below meth c T' locs cells slots → T'.heap = h → Go p e below P (T'.setTop (mkF m pc' ls (v :: st)))) : Go p e below P (T.setTop (mkF m pc ls st)) := by
  subst hp
  obtain ⟨T', X', e', q⟩ := getS2 X hx hZ hown (Or.inr w) Via.refl eT F (g := mkF m pc ls st) rfl (hb hby hd)
  exact own_go q (r T' X' e')
theorem own_getF (pc' : Nat) (X : Stand p l e R s m args below meth c T locs cells slots) (hx : p.tables.exec = Jvm.exec) (hby : c.code = bytes) (hZ : Z.Warmed39 s.vm) {own O n d : String} {index : Nat} (hown : s.vm.findClass own = some m.cls) (w : (Cond.fieldLink own index O n d).before a0 Z = true) (eT : T.heap = h) {a : Addr} {v : Value} (F : Fld Z h a O n d v) (hd : decode bytes pc = .ok (.getfield index, 3)) (hp : pc + 3 = pc')
    (r : ∀ T', Stand p l e R s m args below meth c T' locs cells slots → T'.heap = h → Go p e below P (T'.setTop (mkF m pc' ls (v :: st)))) : Go p e below P (T.setTop (mkF m pc ls (.ref a :: st))) := by
  subst hp
  obtain ⟨T', X', e', q⟩ := getF X hx hZ hown (host := "") (Or.inl w) Via.refl eT F (g := mkF m pc ls (.ref a :: st)) rfl rfl (hb hby hd)
  exact own_go q (r T' X' e')
/-! arrays -/
theorem own_n0 {n0 : Nat} (O : Old Z n0 h) : n0 ≤ h.size := O.1 ▸ O.2.1
theorem own_newR (pc' : Nat) (N : Nat) (X : Stand p l e R s m args below meth c T locs cells slots) (hx : p.tables.exec = Jvm.exec) (hby : c.code = bytes) (hZ : Z.Warmed39 s.vm) {own C : String} {index : Nat} (hown : s.vm.findClass own = some m.cls) (w1 : (Cond.classLink own index C).before a0 Z = true) (w2 : (Cond.arrayOver (.object C)).before a0 Z = true) (eT : T.heap = h)
    (hd : decode bytes pc = .ok (.anewarray index, 3)) (hp : pc + 3 = pc') {n : Int32} (hn : ¬ n < 0) (hcap : n.toNatClampNeg ≤ N) (hbig : N * 8 ≤ 536870912) (hc : cells + 1 ≤ R.cells) (hl : slots + N ≤ R.slots)
    (r : ∀ T' h' cA b, Stand p l e R s m args below meth c T' locs (cells + 1) (slots + N) → T'.heap = h' → Ext h h' → b = h.size → Arv Z h' b cA (.object C) n (List.replicate N .null) .null → Ovr Z cA C → Go p e below P (T'.setTop (mkF m pc' ls (.ref b :: st)))) : Go p e below P (T.setTop (mkF m pc ls (.int n :: st))) := by
  subst hp
  obtain ⟨T', h', cA, X', e', E', A', O', q⟩ := newR X hx hZ hown w1 w2 eT (g := mkF m pc ls (.int n :: st)) rfl (hb hby hd) rfl hn hcap hbig hc hl
  exact own_go q (r T' h' cA h.size X' e' E' rfl ((Arv.new A' hn).pad (pad_rep [] .null N)) O')
theorem own_newP (pc' : Nat) (N : Nat) {aty : ArrayType} (X : Stand p l e R s m args below meth c T locs cells slots) (hx : p.tables.exec = Jvm.exec) (hby : c.code = bytes) (hZ : Z.Warmed39 s.vm) (w : (Cond.arrayClass (newarray.typeOf aty)).before a0 Z = true) (eT : T.heap = h)
    (hd : decode bytes pc = .ok (.newarray aty, 2)) (hp : pc + 2 = pc') {n : Int32} (hn : ¬ n < 0) (hcap : n.toNatClampNeg ≤ N) (hbig : N * 8 ≤ 536870912) (hc : cells + 1 ≤ R.cells) (hl : slots + N ≤ R.slots)
    (r : ∀ T' h' cA b, Stand p l e R s m args below meth c T' locs (cells + 1) (slots + N) → T'.heap = h' → Ext h h' → b = h.size → Arv Z h' b cA (newarray.typeOf aty) n (List.replicate N (defaultValue (newarray.typeOf aty))) (defaultValue (newarray.typeOf aty)) → Go p e below P (T'.setTop (mkF m pc' ls (.ref b :: st)))) : Go p e below P (T.setTop (mkF m pc ls (.int n :: st))) := by
  subst hp
  obtain ⟨T', h', cA, X', e', E', A', q⟩ := newP X hx hZ w eT (g := mkF m pc ls (.int n :: st)) rfl (hb hby hd) rfl hn hcap hbig hc hl
  exact own_go q (r T' h' cA h.size X' e' E' rfl ((Arv.new A' hn).pad (pad_rep [] _ N)))
theorem own_stR (pc' : Nat) (i : Nat) (X : Stand p l e R s m args below meth c T locs cells slots) (hx : p.tables.exec = Jvm.exec) (hby : c.code = bytes) (hZ : Z.Warmed39 s.vm) (eT : T.heap = h) {a y : Addr} {cA : ClassId} {C : String} {n j : Int32} {vs : List Value} (V : Arv Z h a cA (.object C) n vs .null) (O : Ovr Z cA C) (I : Ins Z h y C true)
    (hd : decode bytes pc = .ok (.aastore, 1)) (hp : pc + 1 = pc') (hj : ¬ j < 0 ∧ j < n) (hi : j.toNatClampNeg = i) (hv : i < vs.length)
    (r : ∀ T' h', Stand p l e R s m args below meth c T' (locs ++ [⟨a, j.toNatClampNeg⟩]) cells slots → T'.heap = h' → Wr h h' a j.toNatClampNeg (.ref y) → Arv Z h' a cA (.object C) n (vs.set i (.ref y)) .null → Go p e below P (T'.setTop (mkF m pc' ls st))) : Go p e below P (T.setTop (mkF m pc ls (.ref y :: .int j :: .ref a :: st))) := by
  subst hp
  obtain ⟨cl, A, q1, S, q3, H, G⟩ := V
  obtain ⟨T', h', X', e', W', q⟩ := stR X hx hZ eT A (j := j) (inb_of S hj) rfl (Sto.ofV A q1 O I) (g := mkF m pc ls (.ref y :: .int j :: .ref a :: st)) rfl rfl (hb hby hd)
  exact own_go q (r T' h' X' e' W' (Arv.set A q1 S q3 H G rfl W' i hi hv))
theorem own_stZ (pc' : Nat) (i : Nat) (X : Stand p l e R s m args below meth c T locs cells slots) (hx : p.tables.exec = Jvm.exec) (hby : c.code = bytes) (hZ : Z.Warmed39 s.vm) (eT : T.heap = h) {a : Addr} {cA : ClassId} {n j x : Int32} {vs : List Value} {dv : Value} (V : Arv Z h a cA .boolean n vs dv)
    (hd : decode bytes pc = .ok (.bastore, 1)) (hp : pc + 1 = pc') (hj : ¬ j < 0 ∧ j < n) (hi : j.toNatClampNeg = i) (hv : i < vs.length) (hx1 : nar .boolean x = x)
    (r : ∀ T' h', Stand p l e R s m args below meth c T' (locs ++ [⟨a, j.toNatClampNeg⟩]) cells slots → T'.heap = h' → Wr h h' a j.toNatClampNeg (.int x) → Arv Z h' a cA .boolean n (vs.set i (.int x)) dv → Go p e below P (T'.setTop (mkF m pc' ls st))) : Go p e below P (T.setTop (mkF m pc ls (.int x :: .int j :: .ref a :: st))) := by
  subst hp
  obtain ⟨cl, A, q1, S, q3, H, G⟩ := V
  obtain ⟨T', h', X', e', W', q⟩ := stZ X hx hZ eT A (j := j) (x := x) (inb_of S hj) (g := mkF m pc ls (.int x :: .int j :: .ref a :: st)) rfl rfl (hb hby hd)
  rw [hx1] at W'
  exact own_go q (r T' h' X' e' W' (Arv.set A q1 S q3 H G (hx1 ▸ fits_nar_bool x) W' i hi hv))
theorem own_aaload (pc' : Nat) (v : Value) (X : Stand p l e R s m args below meth c T locs cells slots) (hx : p.tables.exec = Jvm.exec) (hby : c.code = bytes) (hZ : Z.Warmed39 s.vm) (eT : T.heap = h) {a : Addr} {cA : ClassId} {ty : FieldType} {n j : Int32} {vs : List Value} {dv : Value} (V : Arv Z h a cA ty n vs dv) (hty : ty.isReference = true)
    (hd : decode bytes pc = .ok (.aaload, 1)) (hp : pc + 1 = pc') (hj : ¬ j < 0 ∧ j < n) (hv : vs.getD j.toNatClampNeg dv = v)
    (r : Go p e below P (T.setTop (mkF m pc' ls (v :: st)))) : Go p e below P (T.setTop (mkF m pc ls (.int j :: .ref a :: st))) := by
  subst hp
  obtain ⟨cl, A, q1, S, q3, H, G⟩ := V
  exact own_go (fun t q => X.aaload hx (j := j) (v := v) (by rw [eT]; exact A.1) (State.isArrayOf_alike hZ.alike A.2.1) hty A.2.2 (inb_of S hj) (H.at (inb_of S hj) hv) (g := mkF m pc ls (.int j :: .ref a :: st)) rfl rfl (hb hby hd) t q) r
theorem own_zaload (pc' : Nat) (v : Value) (X : Stand p l e R s m args below meth c T locs cells slots) (hx : p.tables.exec = Jvm.exec) (hby : c.code = bytes) (hZ : Z.Warmed39 s.vm) (eT : T.heap = h) {a : Addr} {cA : ClassId} {n j : Int32} {vs : List Value} {dv : Value} (V : Arv Z h a cA .boolean n vs dv)
    (hd : decode bytes pc = .ok (.baload, 1)) (hp : pc + 1 = pc') (hj : ¬ j < 0 ∧ j < n) (hv : vs.getD j.toNatClampNeg dv = v)
    (r : Go p e below P (T.setTop (mkF m pc' ls (v :: st)))) : Go p e below P (T.setTop (mkF m pc ls (.int j :: .ref a :: st))) := by
  subst hp
  obtain ⟨cl, A, q1, S, q3, H, G⟩ := V
  exact own_go (fun t q => X.baloadBooleans hx (j := j) (v := v) (by rw [eT]; exact A.1) (State.isArrayOf_alike hZ.alike A.2.1) A.2.2 (inb_of S hj) (H.at (inb_of S hj) hv) (g := mkF m pc ls (.int j :: .ref a :: st)) rfl rfl (hb hby hd) t q) r
theorem own_len (pc' : Nat) (X : Stand p l e R s m args below meth c T locs cells slots) (hx : p.tables.exec = Jvm.exec) (hby : c.code = bytes) (hZ : Z.Warmed39 s.vm) (eT : T.heap = h) {a : Addr} {cA : ClassId} {ty : FieldType} {n : Int32} {vs : List Value} {dv : Value} (V : Arv Z h a cA ty n vs dv)
    (hd : decode bytes pc = .ok (.arraylength, 1)) (hp : pc + 1 = pc')
    (r : Go p e below P (T.setTop (mkF m pc' ls (.int n :: st)))) : Go p e below P (T.setTop (mkF m pc ls (.ref a :: st))) := by
  subst hp
  obtain ⟨cl, A, q1, S, q3, H, G⟩ := V
  rw [← len_of S q3] at r
  exact own_go (fun t q => X.arraylength hx (by rw [eT]; exact A.1) (State.isArrayOf_alike hZ.alike A.2.1) (g := mkF m pc ls (.ref a :: st)) rfl rfl (hb hby hd) t q) r
/-! calls -/
theorem own_callS (pc' : Nat) {h : Heap} {as' : Array Value} {rm : Room} {Q : Option Value → Heap → List Loc → Prop} {y : MethodName} {code' : ByteArray} {maxL : Nat} {ret' : Option FieldType}
    (hM : MetFree l y (head1 [Cond.code y code' maxL ret'] rm) (fun a U => a = as' ∧ Z.Warmed39 U.vm ∧ U.heap = h) (fun _ _ _ _ _ => True) (fun _ U o U' => ∃ v L, o = .returned v ∧ Q v U'.heap L ∧ FrameEnd U o U' L rm.cells rm.slots))
    (X : Stand p l e R s m args below meth c T locs cells slots) (hx : p.tables.exec = Jvm.exec) (hby : c.code = bytes) (hZ : Z.Warmed39 s.vm) {own : String} {index W : Nat} (hown : s.vm.findClass own = some m.cls)
    (w1 : (Cond.methodLink own index y).before a0 Z = true) (w2 : (Cond.static y).before a0 Z = true) (w3 : (Cond.initialized y.cls).before a0 Z = true) (w4 : (Cond.code y code' maxL ret').before a0 Z = true)
    (hy : y.cls ≠ "java/lang/invoke/MethodHandle" ∧ y.cls ≠ "java/lang/invoke/VarHandle") (hsz : ls.size = c.maxLocals) (argsL rest : List Value) {ps : List FieldType} {rt : Option FieldType} (hps : parseMethodDescriptor y.desc = some ⟨ps, rt⟩) (hlen : argsL.length = ps.length)
    (hd : decode bytes pc = .ok (.invokestatic index, 3)) (hp : pc + 3 = pc') (eT : T.heap = h) (hst : st = argsL.reverse ++ rest) (has : argsL.toArray = as') (hW : (rest.map fun v => v.category).sum = W)
    (hf : rm.frames + 1 ≤ R.frames) (hl : W + (maxL + 11) + rm.locals ≤ R.locals) (hc : cells + rm.cells ≤ R.cells) (hs : slots + rm.slots ≤ R.slots)
    (r : ∀ v T' L, Stand p l e R s m args below meth c T' (locs ++ L) (cells + rm.cells) (slots + rm.slots) → Q v T'.heap L → Go p e below P (T'.setTop (mkF m pc' ls (v.toList ++ rest)))) : Go p e below P (T.setTop (mkF m pc ls st)) := by
  subst hp
  obtain ⟨v, _, ⟨T', L', k', n'⟩, -, X', ⟨L, hQ, l1, l2, l3⟩, q⟩ := Jvm.LawKit.callS X hx hown (mvT hZ w1) (mvT hZ w2) (mvT hZ w3) (mvT hZ w4) hy (backOf (W := W) hM hZ w4 w3 hf hl) (g := mkF m pc ls st) rfl hsz (argsL := argsL) (rest := rest) (lenOf hps hlen) hst (by show 2 * 0 + _ ≤ _; omega) (hb hby hd) (fun _ _ => ⟨has, eT, hc, hs⟩)
  dsimp only [Pt.U, Pt.locs, Pt.cells, Pt.slots] at X' l1 l2 l3 q hQ
  subst l1 l2 l3
  exact own_go q (r v T' L X' hQ)
theorem own_virt (pc' : Nat) {h : Heap} {as' : Array Value} {rm : Room} {Q : Option Value → Heap → List Loc → Prop} {y z : MethodName} {code' : ByteArray} {maxL : Nat} {ret' : Option FieldType}
    (hM : MetFree l z (head1 [Cond.code z code' maxL ret'] rm) (fun a U => a = as' ∧ Z.Warmed39 U.vm ∧ U.heap = h) (fun _ _ _ _ _ => True) (fun _ U o U' => ∃ v L, o = .returned v ∧ Q v U'.heap L ∧ FrameEnd U o U' L rm.cells rm.slots))
    (X : Stand p l e R s m args below meth c T locs cells slots) (hx : p.tables.exec = Jvm.exec) (hby : c.code = bytes) (hZ : Z.Warmed39 s.vm) {own C : String} {index W : Nat} (hown : s.vm.findClass own = some m.cls)
    (w1 : (Cond.methodLink own index y).before a0 Z = true) (w2 : (Cond.declares y).before a0 Z = true) (nf : NotFace s y) (w3 : (Cond.selects C y z).before a0 Z = true) (w4 : (Cond.instanceMethod z).before a0 Z = true) (w5 : (Cond.initialized z.cls).before a0 Z = true) (w6 : (Cond.code z code' maxL ret').before a0 Z = true)
    (hy : y.cls ≠ "java/lang/invoke/MethodHandle" ∧ y.cls ≠ "java/lang/invoke/VarHandle") (hsz : ls.size = c.maxLocals) (b : Addr) (argsL rest : List Value) {ps : List FieldType} {rt : Option FieldType} (hps : parseMethodDescriptor y.desc = some ⟨ps, rt⟩) (hlen : argsL.length = ps.length)
    (hd : decode bytes pc = .ok (.invokevirtual index, 3)) (hp : pc + 3 = pc') (eT : T.heap = h) (E : Exa Z h b C) (hst : st = argsL.reverse ++ .ref b :: rest) (has : (.ref b :: argsL).toArray = as') (hW : (rest.map fun v => v.category).sum = W)
    (hf : rm.frames + 1 ≤ R.frames) (hl : W + (maxL + 11) + rm.locals ≤ R.locals) (hc : cells + rm.cells ≤ R.cells) (hs : slots + rm.slots ≤ R.slots)
    (r : ∀ v T' L, Stand p l e R s m args below meth c T' (locs ++ L) (cells + rm.cells) (slots + rm.slots) → Q v T'.heap L → Go p e below P (T'.setTop (mkF m pc' ls (v.toList ++ rest)))) : Go p e below P (T.setTop (mkF m pc ls st)) := by
  subst hp
  obtain ⟨cq, kq, q1, q2, q3⟩ := isOf (s := s) (T := T) hZ eT E
  obtain ⟨v, _, ⟨T', L', k', n'⟩, -, X', ⟨L, hQ, l1, l2, l3⟩, q⟩ := X.virtualBack hx hown (mvT hZ w1) (mvT hZ w2) nf (mvT hZ w3) (mvT hZ w4) hy (backOf (W := W) hM hZ w6 w5 hf hl) q1 q3 (g := mkF m pc ls st) rfl hsz (Steps.refl _) (argsL := argsL) (rest := rest) (lenOf hps hlen) hst (by show 2 * 0 + _ ≤ _; omega) (hb hby hd) (fun _ _ => ⟨has, eT, hc, hs⟩)
  dsimp only [Pt.U, Pt.locs, Pt.cells, Pt.slots] at X' l1 l2 l3 q hQ
  subst l1 l2 l3
  exact own_go (fun t k => q.trans k) (r v T' L X' hQ)
/-! the end of a walk -/
theorem own_ret {Q : Option Value → Heap → List Loc → Prop} {K N : Nat} {t : FieldType} {w : Value} {i : Instr} (X : Stand p l e R s m args below meth c T locs cells slots) (hx : p.tables.exec = Jvm.exec) (hby : c.code = bytes) (hret : meth.sig.returnType = some t) (hlocks : meth.locks = false)
    (hd : decode bytes pc = .ok (i, 1)) (hn : narrow t w = w)
    (hi : (i = .ireturn ∧ (t = .int ∨ t = .boolean ∨ t = .byte ∨ t = .char ∨ t = .short) ∧ ∃ z, w = .int z) ∨ (i = .lreturn ∧ t = .long ∧ ∃ z, w = .long z) ∨ (i = .dreturn ∧ t = .double ∧ ∃ z, w = .double z) ∨ (i = .freturn ∧ t = .float ∧ ∃ z, w = .float z) ∨ (i = .areturn ∧ t.isReference = true ∧ w.isRef = true))
    (hK : cells ≤ K) (hN : slots ≤ N) (hQ : Q (some w) T.heap locs) :
    Go p e below (fun s₂ o => s₂.status = .running ∧ Ended s₂ below o ∧ ∃ v L, o = .returned v ∧ Q v s₂.heap L ∧ FrameEnd s o s₂ L K N) (T.setTop (mkF m pc ls (w :: st))) := by
  obtain ⟨fs, hr, hrun, hended, hW, hsame⟩ := X.leave (v := some w) (fun h => by rw [hret] at h; cases h) hlocks
  exact ⟨_, _, retOut X hx hret hn hi (hb hby hd) hr, hrun, hended, _, _, rfl, hQ, ⟨_, rfl⟩, hW, hsame.mono hK hN⟩
theorem own_ret0 {Q : Option Value → Heap → List Loc → Prop} {K N : Nat} (X : Stand p l e R s m args below meth c T locs cells slots) (hx : p.tables.exec = Jvm.exec) (hby : c.code = bytes) (hret : meth.sig.returnType = none) (hlocks : meth.locks = false)
    (hd : decode bytes pc = .ok (.return_, 1)) (hK : cells ≤ K) (hN : slots ≤ N) (hQ : Q none T.heap locs) :
    Go p e below (fun s₂ o => s₂.status = .running ∧ Ended s₂ below o ∧ ∃ v L, o = .returned v ∧ Q v s₂.heap L ∧ FrameEnd s o s₂ L K N) (T.setTop (mkF m pc ls [])) := by
  obtain ⟨fs, hr, hrun, hended, hW, hsame⟩ := X.leave (v := none) (fun _ => rfl) hlocks
  exact ⟨_, _, X.returnOut hx hret (hb hby hd) hr, hrun, hended, _, _, rfl, hQ, ⟨_, rfl⟩, hW, hsame.mono hK hN⟩
/-! the case's words -/
theorem own_fld {Z : State} {args : Array Value} {t : Term} {C n d : String} {v : Int32} {x : Addr} (h : (Cond.eq (Term.field t C n d) (Term.int v)).value args Z none Z [] = some true) (ht : t.eval args Z none [] Z = some (.ref x)) : Fld Z Z.heap x C n d (.int v) :=
  Fld.start ((fld_at ht).symm.trans (eqv_i (Term.int_eval v) h))
theorem own_fldN {Z : State} {args : Array Value} {t : Term} {C n d : String} {x : Addr} (h : (Cond.eq (Term.field t C n d) Term.null).value args Z none Z [] = some true) (ht : t.eval args Z none [] Z = some (.ref x)) : Fld Z Z.heap x C n d .null :=
  Fld.start ((fld_at ht).symm.trans (null_v h))
theorem own_eqvR {Z : State} {args : Array Value} {X F : Term} {y : Addr} (hF : F.eval args Z none [] Z = some (.ref y)) (h : (Cond.eq X F).value args Z none Z [] = some true) : X.eval args Z none [] Z = some (.ref y) := by
  obtain ⟨x, y', e1, e2, k1, k2⟩ := cmp_v (Or.inl h)
  cases hF.symm.trans e2
  have hx : x.isRef = true := k2.2
  exact e1.trans (congrArg some (gotT (eq_R e1 hF hx rfl) h))
theorem own_fldR {Z : State} {args : Array Value} {t F : Term} {C n d : String} {x y : Addr} (h : (Cond.eq (Term.field t C n d) F).value args Z none Z [] = some true) (ht : t.eval args Z none [] Z = some (.ref x)) (hF : F.eval args Z none [] Z = some (.ref y)) : Fld Z Z.heap x C n d (.ref y) :=
  Fld.start ((fld_at ht).symm.trans (own_eqvR hF h))
theorem own_len_at {Z : State} {args : Array Value} {t : Term} {z : Int32} {a : Addr} {cl : Cell} (h : (Term.length t).eval args Z none [] Z = some (.int z)) (ht : t.eval args Z none [] Z = some (.ref a)) (ha : Z.arrayAt? a = some cl) : cl.slots.size < 2 ^ 31 ∧ cl.slots.size.toInt32 = z := by
  by_cases q : cl.slots.size < 2 ^ 31
  · refine ⟨q, ?_⟩
    rw [len_f ht ha q] at h
    exact Value.int.inj (Option.some.inj h)
  · exfalso
    simp [Term.eval, ht, ha, q] at h
/-- what a callee that writes nothing leaves -/
def own_Q (r : Option Value) (n0 : Nat) (h0 : Heap) (v : Option Value) (h : Heap) (L : List Loc) : Prop := v = r ∧ Fr n0 L ∧ h = h0
/-- what the law leaves -/
def own_Q1 (n0 : Nat) (v : Option Value) (h : Heap) (L : List Loc) : Prop := v = some (.int 1) ∧ Fr n0 L
end Own
/-! small facts on ints -/
theorem own_mask_nn (x : Int32) : 0 ≤ (x &&& 2147483647).toInt := by
  have h : (x &&& 2147483647).toInt = x.toInt % 2 ^ 31 := Jvm.Kit.i32_mask x 2147483647 (k := 31) (by decide) (by decide)
  omega
theorem own_mod_toInt (x y : Int32) (hy : 0 < y.toInt) (hx : 0 ≤ x.toInt) : (x % y).toInt = x.toInt % y.toInt := Jvm.Kit.i32_rem_nonneg hx
theorem own_and_toInt1 (x : Int32) : (x &&& 1).toInt = x.toInt % 2 := Jvm.Kit.i32_mask x 1 (k := 1) (by decide) (by decide)
theorem own_and_toInt3 (x : Int32) : (x &&& 3).toInt = x.toInt % 4 := Jvm.Kit.i32_mask x 3 (k := 2) (by decide) (by decide)
theorem own_and_toInt7 (x : Int32) : (x &&& 7).toInt = x.toInt % 8 := Jvm.Kit.i32_mask x 7 (k := 3) (by decide) (by decide)
theorem own_mkI (x m : Int32) (k : Nat) (hk : k < 32) (hm : m.toBitVec.toNat = 2 ^ k - 1) : 0 ≤ (x &&& m).toInt ∧ (x &&& m).toInt ≤ m.toInt := by
  have h1 := Jvm.Kit.i32_mask x m hk hm
  have h2 : m.toInt = 2 ^ k - 1 := by
    have h3 : m.toInt = (m.toBitVec).toInt := rfl
    have h4 : (2 : Nat) ^ k ≤ 2 ^ 31 := Nat.pow_le_pow_right (by decide) (by omega)
    rw [h3, BitVec.toInt_eq_toNat_cond, hm]
    have h5 : 0 < (2 : Nat) ^ k := Nat.pow_pos (by decide)
    have h6 : ((2 ^ k - 1 : Nat) : Int) = (2 : Int) ^ k - 1 := by
      rw [Int.natCast_sub h5]; simp
    split
    · exact h6
    · omega
  have h7 : (0 : Int) < 2 ^ k := Int.pow_pos (by decide)
  have h8 := Int.emod_nonneg x.toInt (Int.ne_of_gt h7)
  have h9 := Int.emod_lt_of_pos x.toInt h7
  omega
theorem own_mkJ (x m : Int64) (k : Nat) (hk : k < 64) (hm : m.toBitVec.toNat = 2 ^ k - 1) : 0 ≤ (x &&& m).toInt ∧ (x &&& m).toInt ≤ m.toInt := by
  have h1 := Jvm.Kit.i64_mask x m hk hm
  have h2 : m.toInt = 2 ^ k - 1 := by
    have h3 : m.toInt = (m.toBitVec).toInt := rfl
    have h4 : (2 : Nat) ^ k ≤ 2 ^ 63 := Nat.pow_le_pow_right (by decide) (by omega)
    rw [h3, BitVec.toInt_eq_toNat_cond, hm]
    have h5 : 0 < (2 : Nat) ^ k := Nat.pow_pos (by decide)
    have h6 : ((2 ^ k - 1 : Nat) : Int) = (2 : Int) ^ k - 1 := by
      rw [Int.natCast_sub h5]; simp
    split
    · exact h6
    · omega
  have h7 : (0 : Int) < 2 ^ k := Int.pow_pos (by decide)
  have h8 := Int.emod_nonneg x.toInt (Int.ne_of_gt h7)
  have h9 := Int.emod_lt_of_pos x.toInt h7
  omega
theorem own_rngI (x : Int32) : -2 ^ 31 ≤ x.toInt ∧ x.toInt < 2 ^ 31 := ⟨Int32.le_toInt x, Int32.toInt_lt x⟩
theorem own_rngJ (x : Int64) : -2 ^ 63 ≤ x.toInt ∧ x.toInt < 2 ^ 63 := ⟨Int64.le_toInt x, Int64.toInt_lt x⟩
theorem own_rmI {x : Int32} (hx : 0 ≤ x.toInt) (y : Int32) (hy : 0 < y.toInt) : 0 ≤ (x % y).toInt ∧ (x % y).toInt ≤ y.toInt - 1 := by
  rw [Jvm.Kit.i32_rem_nonneg hx]
  have h8 := Int.emod_nonneg x.toInt (Int.ne_of_gt hy)
  have h9 := Int.emod_lt_of_pos x.toInt hy
  omega
theorem own_rmJ (x y : Int64) (hy : 0 < y.toInt) : -(y.toInt - 1) ≤ (x - (x / y) * y).toInt ∧ (x - (x / y) * y).toInt ≤ y.toInt - 1 := by
  rw [Jvm.Kit.i64_rem]
  have h1 := Int.tmod_lt_of_pos x.toInt hy
  have h2 := Int.lt_tmod_of_pos x.toInt hy
  omega
theorem own_dvI {x : Int32} (hx : 0 ≤ x.toInt) (y : Int32) (hy : 0 < y.toInt) : (x / y).toInt = x.toInt / y.toInt := by
  rw [Jvm.Kit.i32_div (by omega), Int.tdiv_eq_ediv_of_nonneg hx]
theorem own_bdI {x a b : Int32} (h1 : ¬ (x < a)) (h2 : ¬ (b < x)) : a.toInt ≤ x.toInt ∧ x.toInt ≤ b.toInt := by
  rw [Int32.lt_iff_toInt_lt] at h1 h2
  omega
theorem own_bdJ {x a b : Int64} (h1 : ¬ (x < a)) (h2 : ¬ (b < x)) : a.toInt ≤ x.toInt ∧ x.toInt ≤ b.toInt := by
  rw [Int64.lt_iff_toInt_lt] at h1 h2
  omega
theorem own_and7 (x : Int32) : x &&& 7 = 0 ∨ x &&& 7 = 1 ∨ x &&& 7 = 2 ∨ x &&& 7 = 3 ∨ x &&& 7 = 4 ∨ x &&& 7 = 5 ∨ x &&& 7 = 6 ∨ x &&& 7 = 7 := by
  have h1 : (x &&& 7).toInt = x.toInt % 8 := own_and_toInt7 x
  have h3 : ∀ y : Int32, ∀ k : Int32, y.toInt = k.toInt → y = k := fun _ _ q => Int32.toInt_inj.mp q
  have h4 : x.toInt % 8 = 0 ∨ x.toInt % 8 = 1 ∨ x.toInt % 8 = 2 ∨ x.toInt % 8 = 3 ∨ x.toInt % 8 = 4 ∨ x.toInt % 8 = 5 ∨ x.toInt % 8 = 6 ∨ x.toInt % 8 = 7 := by omega
  rcases h4 with h4 | h4 | h4 | h4 | h4 | h4 | h4 | h4
  · exact Or.inl (h3 _ _ (h1.trans h4))
  · exact Or.inr (Or.inl (h3 _ _ (h1.trans h4)))
  · exact Or.inr (Or.inr (Or.inl (h3 _ _ (h1.trans h4))))
  · exact Or.inr (Or.inr (Or.inr (Or.inl (h3 _ _ (h1.trans h4)))))
  · exact Or.inr (Or.inr (Or.inr (Or.inr (Or.inl (h3 _ _ (h1.trans h4))))))
  · exact Or.inr (Or.inr (Or.inr (Or.inr (Or.inr (Or.inl (h3 _ _ (h1.trans h4)))))))
  · exact Or.inr (Or.inr (Or.inr (Or.inr (Or.inr (Or.inr (Or.inl (h3 _ _ (h1.trans h4))))))))
  · exact Or.inr (Or.inr (Or.inr (Or.inr (Or.inr (Or.inr (Or.inr (h3 _ _ (h1.trans h4))))))))
def own_W (Z : State) (w_HANDLED w_UNKNOWN_TRANSACTION w_NO_SUCH_OBJECT w_FAILED w_TOO_LARGE w_ALL k_ALL : Addr) : Prop := Sta Z Z.heap "com/example/hop1/hop1/protocol/ReplyStatus" "HANDLED" "Lcom/example/hop1/hop1/protocol/ReplyStatus;" (.ref w_HANDLED) ∧ Exa Z Z.heap w_HANDLED "com/example/hop1/hop1/protocol/ReplyStatus" ∧ Sta Z Z.heap "com/example/hop1/hop1/protocol/ReplyStatus" "UNKNOWN_TRANSACTION" "Lcom/example/hop1/hop1/protocol/ReplyStatus;" (.ref w_UNKNOWN_TRANSACTION) ∧ Exa Z Z.heap w_UNKNOWN_TRANSACTION "com/example/hop1/hop1/protocol/ReplyStatus" ∧ Sta Z Z.heap "com/example/hop1/hop1/protocol/ReplyStatus" "NO_SUCH_OBJECT" "Lcom/example/hop1/hop1/protocol/ReplyStatus;" (.ref w_NO_SUCH_OBJECT) ∧ Exa Z Z.heap w_NO_SUCH_OBJECT "com/example/hop1/hop1/protocol/ReplyStatus" ∧ Sta Z Z.heap "com/example/hop1/hop1/protocol/ReplyStatus" "FAILED" "Lcom/example/hop1/hop1/protocol/ReplyStatus;" (.ref w_FAILED) ∧ Exa Z Z.heap w_FAILED "com/example/hop1/hop1/protocol/ReplyStatus" ∧ Sta Z Z.heap "com/example/hop1/hop1/protocol/ReplyStatus" "TOO_LARGE" "Lcom/example/hop1/hop1/protocol/ReplyStatus;" (.ref w_TOO_LARGE) ∧ Exa Z Z.heap w_TOO_LARGE "com/example/hop1/hop1/protocol/ReplyStatus" ∧ Sta Z Z.heap "com/example/hop1/hop1/protocol/ReplyStatus" "ALL" "[Lcom/example/hop1/hop1/protocol/ReplyStatus;" (.ref w_ALL) ∧ Fld Z Z.heap w_HANDLED "com/example/hop1/hop1/protocol/ReplyStatus" "code" "I" (.int (0 : Int32)) ∧ Fld Z Z.heap w_UNKNOWN_TRANSACTION "com/example/hop1/hop1/protocol/ReplyStatus" "code" "I" (.int (1 : Int32)) ∧ Fld Z Z.heap w_NO_SUCH_OBJECT "com/example/hop1/hop1/protocol/ReplyStatus" "code" "I" (.int (2 : Int32)) ∧ Fld Z Z.heap w_FAILED "com/example/hop1/hop1/protocol/ReplyStatus" "code" "I" (.int (3 : Int32)) ∧ Fld Z Z.heap w_TOO_LARGE "com/example/hop1/hop1/protocol/ReplyStatus" "code" "I" (.int (4 : Int32)) ∧ Arv Z Z.heap w_ALL k_ALL (.object "com/example/hop1/hop1/protocol/ReplyStatus") (5 : Int32) [(.ref w_HANDLED), (.ref w_UNKNOWN_TRANSACTION), (.ref w_NO_SUCH_OBJECT), (.ref w_FAILED), (.ref w_TOO_LARGE)] .null
theorem d1_0 : decode prog_123_method_5_code 0 = .ok (.getstatic 42, 3) := by decide +kernel
theorem d1_3 : decode prog_123_method_5_code 3 = .ok (.astore_n 1, 1) := by decide +kernel
theorem d1_4 : decode prog_123_method_5_code 4 = .ok (.aload_n 1, 1) := by decide +kernel
theorem d1_5 : decode prog_123_method_5_code 5 = .ok (.arraylength, 1) := by decide +kernel
theorem d1_6 : decode prog_123_method_5_code 6 = .ok (.istore_n 2, 1) := by decide +kernel
theorem d1_7 : decode prog_123_method_5_code 7 = .ok (.iconst 0, 1) := by decide +kernel
theorem d1_8 : decode prog_123_method_5_code 8 = .ok (.istore_n 3, 1) := by decide +kernel
theorem d1_9 : decode prog_123_method_5_code 9 = .ok (.iload_n 3, 1) := by decide +kernel
theorem d1_10 : decode prog_123_method_5_code 10 = .ok (.iload_n 2, 1) := by decide +kernel
theorem d1_11 : decode prog_123_method_5_code 11 = .ok (.if_icmp .ge 26, 3) := by decide +kernel
theorem d1_14 : decode prog_123_method_5_code 14 = .ok (.aload_n 1, 1) := by decide +kernel
theorem d1_15 : decode prog_123_method_5_code 15 = .ok (.iload_n 3, 1) := by decide +kernel
theorem d1_16 : decode prog_123_method_5_code 16 = .ok (.aaload, 1) := by decide +kernel
theorem d1_17 : decode prog_123_method_5_code 17 = .ok (.astore 4, 2) := by decide +kernel
theorem d1_19 : decode prog_123_method_5_code 19 = .ok (.aload 4, 2) := by decide +kernel
theorem d1_21 : decode prog_123_method_5_code 21 = .ok (.getfield 38, 3) := by decide +kernel
theorem d1_24 : decode prog_123_method_5_code 24 = .ok (.iload_n 0, 1) := by decide +kernel
theorem d1_25 : decode prog_123_method_5_code 25 = .ok (.if_icmp .ne 6, 3) := by decide +kernel
theorem d1_28 : decode prog_123_method_5_code 28 = .ok (.aload 4, 2) := by decide +kernel
theorem d1_30 : decode prog_123_method_5_code 30 = .ok (.areturn, 1) := by decide +kernel
theorem ef_1 (m : MethodId) (x0 : Int32) : entryFrame m #[(.int x0)] 5 = mkF m 0 #[oI x0, oU, oU, oU, oU] [] := by first | (simp [entryFrame, mkF, argsToLocals, Value.category]; done) | rfl
theorem pn_0 : plainName "com/example/hop1/hop1/protocol/ReplyStatus" = true := by first | (simp [plainName, overriddenIn]; done) | decide +kernel
theorem d1_31 : decode prog_123_method_5_code 31 = .ok (.iinc 3 1, 3) := by decide +kernel
theorem d1_34 : decode prog_123_method_5_code 34 = .ok (.goto (-25), 3) := by decide +kernel
theorem d1_37 : decode prog_123_method_5_code 37 = .ok (.aconst_null, 1) := by decide +kernel
theorem d1_38 : decode prog_123_method_5_code 38 = .ok (.areturn, 1) := by decide +kernel
theorem pd_0 : parseMethodDescriptor "(I)Lcom/example/hop1/hop1/protocol/ReplyStatus;" = some ⟨[.int], some (.object "com/example/hop1/hop1/protocol/ReplyStatus")⟩ := by decide +kernel
theorem d2_0 : decode method_2_code 0 = .ok (.iload_n 0, 1) := by decide +kernel
theorem d2_1 : decode method_2_code 1 = .ok (.ifCond .ne 7, 3) := by decide +kernel
theorem d2_4 : decode method_2_code 4 = .ok (.getstatic 7, 3) := by decide +kernel
theorem d2_7 : decode method_2_code 7 = .ok (.areturn, 1) := by decide +kernel
theorem ef_2 (m : MethodId) (x0 : Int32) : entryFrame m #[(.int x0)] 1 = mkF m 0 #[oI x0] [] := by first | (simp [entryFrame, mkF, argsToLocals, Value.category]; done) | rfl
theorem pn_1 : plainName "com/example/hop1/hop1/protocol/ReplyStatusOfPinLaw" = true := by first | (simp [plainName, overriddenIn]; done) | decide +kernel
theorem d2_8 : decode method_2_code 8 = .ok (.iload_n 0, 1) := by decide +kernel
theorem d2_9 : decode method_2_code 9 = .ok (.iconst 1, 1) := by decide +kernel
theorem d2_10 : decode method_2_code 10 = .ok (.if_icmp .ne 7, 3) := by decide +kernel
theorem d2_13 : decode method_2_code 13 = .ok (.getstatic 13, 3) := by decide +kernel
theorem d2_16 : decode method_2_code 16 = .ok (.areturn, 1) := by decide +kernel
theorem d2_17 : decode method_2_code 17 = .ok (.iload_n 0, 1) := by decide +kernel
theorem d2_18 : decode method_2_code 18 = .ok (.iconst 2, 1) := by decide +kernel
theorem d2_19 : decode method_2_code 19 = .ok (.if_icmp .ne 7, 3) := by decide +kernel
theorem d2_22 : decode method_2_code 22 = .ok (.getstatic 16, 3) := by decide +kernel
theorem d2_25 : decode method_2_code 25 = .ok (.areturn, 1) := by decide +kernel
theorem d2_26 : decode method_2_code 26 = .ok (.iload_n 0, 1) := by decide +kernel
theorem d2_27 : decode method_2_code 27 = .ok (.iconst 3, 1) := by decide +kernel
theorem d2_28 : decode method_2_code 28 = .ok (.if_icmp .ne 7, 3) := by decide +kernel
theorem d2_31 : decode method_2_code 31 = .ok (.getstatic 19, 3) := by decide +kernel
theorem d2_34 : decode method_2_code 34 = .ok (.areturn, 1) := by decide +kernel
theorem d2_35 : decode method_2_code 35 = .ok (.iload_n 0, 1) := by decide +kernel
theorem d2_36 : decode method_2_code 36 = .ok (.iconst 4, 1) := by decide +kernel
theorem d2_37 : decode method_2_code 37 = .ok (.if_icmp .ne 7, 3) := by decide +kernel
theorem d2_40 : decode method_2_code 40 = .ok (.getstatic 22, 3) := by decide +kernel
theorem d2_43 : decode method_2_code 43 = .ok (.areturn, 1) := by decide +kernel
theorem d2_44 : decode method_2_code 44 = .ok (.aconst_null, 1) := by decide +kernel
theorem d2_45 : decode method_2_code 45 = .ok (.areturn, 1) := by decide +kernel
theorem ef_0 (m : MethodId) (x0 : Int32) (x1 : Int32) : entryFrame m #[(.int x0), (.int x1)] maxLocals = mkF m 0 #[oI x0, oI x1, oU, oU, oU] [] := by first | (simp [entryFrame, mkF, argsToLocals, Value.category, maxLocals]; done) | rfl
set_option maxRecDepth 65536 in
set_option maxHeartbeats 40000000 in
theorem rm1_1 (l : Launch) (Z : State) (a0 : Array Value) (hw : ∀ d ∈ tables_1, d.before a0 Z = true) (ws : List Jvm.Cond) (w_HANDLED w_UNKNOWN_TRANSACTION w_NO_SUCH_OBJECT w_FAILED w_TOO_LARGE w_ALL k_ALL : Addr) (W : own_W Z w_HANDLED w_UNKNOWN_TRANSACTION w_NO_SUCH_OBJECT w_FAILED w_TOO_LARGE w_ALL k_ALL) (x0 : Int32) (h0 : Heap) (n0 : Nat) (O0 : Old Z n0 h0) (hc4 : (0 : Int32) = x0) :
    MetFree l (⟨"com/example/hop1/hop1/protocol/ReplyStatus", "of", "(I)Lcom/example/hop1/hop1/protocol/ReplyStatus;"⟩ : MethodName) (head1 (Jvm.Cond.code (⟨"com/example/hop1/hop1/protocol/ReplyStatus", "of", "(I)Lcom/example/hop1/hop1/protocol/ReplyStatus;"⟩ : MethodName) prog_123_method_5_code 5 (some (.object "com/example/hop1/hop1/protocol/ReplyStatus")) :: ws) ({ frames := 0, cells := 0, slots := 0, locals := 0 } : Room)) (fun a U => a = #[(.int x0)] ∧ Z.Warmed39 U.vm ∧ U.heap = h0) (fun _ _ _ _ _ => True) (fun _ U o U' => ∃ v L, o = .returned v ∧ own_Q (some (.ref w_HANDLED)) n0 h0 v U'.heap L ∧ FrameEnd U o U' L ({ frames := 0, cells := 0, slots := 0, locals := 0 } : Room).cells ({ frames := 0, cells := 0, slots := 0, locals := 0 } : Room).slots) := by
  refine MetFree.of_bodySF (plainFor_of_name pn_0) hisR ?_
  intro p e s m args below meth c s₁ Bd hml0 hP hK
  obtain ⟨rfl, hZ, hh⟩ := hP
  have hx := Bd.exec
  have hby := Bd.bytes
  have hml : c.maxLocals = 5 := hml0
  have hlk := BodyLoose.notSynchronized Bd
  have hret := Bd.returns
  have hown : s.vm.findClass "com/example/hop1/hop1/protocol/ReplyStatus" = some m.cls := findClass_of_methodNamed Bd.named
  have hnm := (name_of_methodNamed Bd.named Bd.method).1
  have X0 : Stand p l e ({ frames := 0, cells := 0, slots := 0, locals := 0 } : Room) s m #[(.int x0)] below meth c s₁ [] 0 0 := Stand.of_body Bd
  have e0 : s₁.heap = h0 := by rw [← hh, Bd.state]; rfl
  have N0 := Fr.nil n0
  rw [ef_1 m x0]
  show Go p e below _ (s₁.setTop (mkF m 0 #[oI x0, oU, oU, oU, oU] []))
  refine own_getS 3 X0 hx hby hZ hown (own_w hw 4 rfl) e0 (W.2.2.2.2.2.2.2.2.2.2.1.ext O0.2) d1_0 rfl ?_
  intro T2 X2 e2
  refine own_astore_n 4 #[oI x0, oA w_ALL, oU, oU, oU] X2 hx hby d1_3 rfl rfl rfl ?_
  refine own_aload_n 5 X2 hx hby d1_4 rfl rfl rfl ?_
  refine own_len 6 X2 hx hby hZ e2 (W.2.2.2.2.2.2.2.2.2.2.2.2.2.2.2.2.ext O0.2) d1_5 rfl ?_
  refine own_istore_n 7 #[oI x0, oA w_ALL, oI (5 : Int32), oU, oU] X2 hx hby d1_6 rfl rfl ?_
  refine own_iconst 8 (0 : Int32) X2 hx hby d1_7 rfl (by decide) ?_
  refine own_istore_n 9 #[oI x0, oA w_ALL, oI (5 : Int32), oI (0 : Int32), oU] X2 hx hby d1_8 rfl rfl ?_
  refine own_iload_n 10 X2 hx hby d1_9 rfl rfl ?_
  refine own_iload_n 11 X2 hx hby d1_10 rfl rfl ?_
  refine own_icN 14 X2 hx hby d1_11 rfl (by decide) ?_
  refine own_aload_n 15 X2 hx hby d1_14 rfl rfl rfl ?_
  refine own_iload_n 16 X2 hx hby d1_15 rfl rfl ?_
  refine own_aaload 17 (.ref w_HANDLED) X2 hx hby hZ e2 (W.2.2.2.2.2.2.2.2.2.2.2.2.2.2.2.2.ext O0.2) rfl d1_16 rfl (by decide) rfl ?_
  refine own_astore 19 #[oI x0, oA w_ALL, oI (5 : Int32), oI (0 : Int32), oA w_HANDLED] X2 hx hby d1_17 rfl rfl rfl ?_
  refine own_aload 21 X2 hx hby d1_19 rfl rfl rfl ?_
  refine own_getF 24 X2 hx hby hZ hown (own_w hw 7 rfl) e2 (W.2.2.2.2.2.2.2.2.2.2.2.1.ext O0.2) d1_21 rfl ?_
  intro T3 X3 e3
  refine own_iload_n 25 X3 hx hby d1_24 rfl rfl ?_
  refine own_icN 28 X3 hx hby d1_25 rfl (teq hc4).2 ?_
  refine own_aload 30 X3 hx hby d1_28 rfl rfl rfl ?_
  exact own_ret (Q := own_Q _ n0 h0) X3 hx hby hret hlk d1_30 rfl (Or.inr (Or.inr (Or.inr (Or.inr ⟨rfl, rfl, rfl⟩)))) (by decide) (by decide) ⟨rfl, N0, e3⟩
set_option maxRecDepth 65536 in
set_option maxHeartbeats 40000000 in
theorem rm1_2 (l : Launch) (Z : State) (a0 : Array Value) (hw : ∀ d ∈ tables_1, d.before a0 Z = true) (ws : List Jvm.Cond) (w_HANDLED w_UNKNOWN_TRANSACTION w_NO_SUCH_OBJECT w_FAILED w_TOO_LARGE w_ALL k_ALL : Addr) (W : own_W Z w_HANDLED w_UNKNOWN_TRANSACTION w_NO_SUCH_OBJECT w_FAILED w_TOO_LARGE w_ALL k_ALL) (x0 : Int32) (h0 : Heap) (n0 : Nat) (O0 : Old Z n0 h0) (hc4 : ¬ ((0 : Int32) = x0)) (hc6 : (1 : Int32) = x0) :
    MetFree l (⟨"com/example/hop1/hop1/protocol/ReplyStatus", "of", "(I)Lcom/example/hop1/hop1/protocol/ReplyStatus;"⟩ : MethodName) (head1 (Jvm.Cond.code (⟨"com/example/hop1/hop1/protocol/ReplyStatus", "of", "(I)Lcom/example/hop1/hop1/protocol/ReplyStatus;"⟩ : MethodName) prog_123_method_5_code 5 (some (.object "com/example/hop1/hop1/protocol/ReplyStatus")) :: ws) ({ frames := 0, cells := 0, slots := 0, locals := 0 } : Room)) (fun a U => a = #[(.int x0)] ∧ Z.Warmed39 U.vm ∧ U.heap = h0) (fun _ _ _ _ _ => True) (fun _ U o U' => ∃ v L, o = .returned v ∧ own_Q (some (.ref w_UNKNOWN_TRANSACTION)) n0 h0 v U'.heap L ∧ FrameEnd U o U' L ({ frames := 0, cells := 0, slots := 0, locals := 0 } : Room).cells ({ frames := 0, cells := 0, slots := 0, locals := 0 } : Room).slots) := by
  refine MetFree.of_bodySF (plainFor_of_name pn_0) hisR ?_
  intro p e s m args below meth c s₁ Bd hml0 hP hK
  obtain ⟨rfl, hZ, hh⟩ := hP
  have hx := Bd.exec
  have hby := Bd.bytes
  have hml : c.maxLocals = 5 := hml0
  have hlk := BodyLoose.notSynchronized Bd
  have hret := Bd.returns
  have hown : s.vm.findClass "com/example/hop1/hop1/protocol/ReplyStatus" = some m.cls := findClass_of_methodNamed Bd.named
  have hnm := (name_of_methodNamed Bd.named Bd.method).1
  have X0 : Stand p l e ({ frames := 0, cells := 0, slots := 0, locals := 0 } : Room) s m #[(.int x0)] below meth c s₁ [] 0 0 := Stand.of_body Bd
  have e0 : s₁.heap = h0 := by rw [← hh, Bd.state]; rfl
  have N0 := Fr.nil n0
  rw [ef_1 m x0]
  show Go p e below _ (s₁.setTop (mkF m 0 #[oI x0, oU, oU, oU, oU] []))
  refine own_getS 3 X0 hx hby hZ hown (own_w hw 4 rfl) e0 (W.2.2.2.2.2.2.2.2.2.2.1.ext O0.2) d1_0 rfl ?_
  intro T2 X2 e2
  refine own_astore_n 4 #[oI x0, oA w_ALL, oU, oU, oU] X2 hx hby d1_3 rfl rfl rfl ?_
  refine own_aload_n 5 X2 hx hby d1_4 rfl rfl rfl ?_
  refine own_len 6 X2 hx hby hZ e2 (W.2.2.2.2.2.2.2.2.2.2.2.2.2.2.2.2.ext O0.2) d1_5 rfl ?_
  refine own_istore_n 7 #[oI x0, oA w_ALL, oI (5 : Int32), oU, oU] X2 hx hby d1_6 rfl rfl ?_
  refine own_iconst 8 (0 : Int32) X2 hx hby d1_7 rfl (by decide) ?_
  refine own_istore_n 9 #[oI x0, oA w_ALL, oI (5 : Int32), oI (0 : Int32), oU] X2 hx hby d1_8 rfl rfl ?_
  refine own_iload_n 10 X2 hx hby d1_9 rfl rfl ?_
  refine own_iload_n 11 X2 hx hby d1_10 rfl rfl ?_
  refine own_icN 14 X2 hx hby d1_11 rfl (by decide) ?_
  refine own_aload_n 15 X2 hx hby d1_14 rfl rfl rfl ?_
  refine own_iload_n 16 X2 hx hby d1_15 rfl rfl ?_
  refine own_aaload 17 (.ref w_HANDLED) X2 hx hby hZ e2 (W.2.2.2.2.2.2.2.2.2.2.2.2.2.2.2.2.ext O0.2) rfl d1_16 rfl (by decide) rfl ?_
  refine own_astore 19 #[oI x0, oA w_ALL, oI (5 : Int32), oI (0 : Int32), oA w_HANDLED] X2 hx hby d1_17 rfl rfl rfl ?_
  refine own_aload 21 X2 hx hby d1_19 rfl rfl rfl ?_
  refine own_getF 24 X2 hx hby hZ hown (own_w hw 7 rfl) e2 (W.2.2.2.2.2.2.2.2.2.2.2.1.ext O0.2) d1_21 rfl ?_
  intro T3 X3 e3
  refine own_iload_n 25 X3 hx hby d1_24 rfl rfl ?_
  refine own_icY 31 X3 hx hby d1_25 (by decide) (by decide) (feq hc4).2 ?_
  refine own_iinc 34 #[oI x0, oA w_ALL, oI (5 : Int32), oI (1 : Int32), oA w_HANDLED] X3 hx hby d1_31 rfl rfl rfl ?_
  refine own_goto 9 X3 hx hby d1_34 (by decide) (by decide) ?_
  refine own_iload_n 10 X3 hx hby d1_9 rfl rfl ?_
  refine own_iload_n 11 X3 hx hby d1_10 rfl rfl ?_
  refine own_icN 14 X3 hx hby d1_11 rfl (by decide) ?_
  refine own_aload_n 15 X3 hx hby d1_14 rfl rfl rfl ?_
  refine own_iload_n 16 X3 hx hby d1_15 rfl rfl ?_
  refine own_aaload 17 (.ref w_UNKNOWN_TRANSACTION) X3 hx hby hZ e3 (W.2.2.2.2.2.2.2.2.2.2.2.2.2.2.2.2.ext O0.2) rfl d1_16 rfl (by decide) rfl ?_
  refine own_astore 19 #[oI x0, oA w_ALL, oI (5 : Int32), oI (1 : Int32), oA w_UNKNOWN_TRANSACTION] X3 hx hby d1_17 rfl rfl rfl ?_
  refine own_aload 21 X3 hx hby d1_19 rfl rfl rfl ?_
  refine own_getF 24 X3 hx hby hZ hown (own_w hw 7 rfl) e3 (W.2.2.2.2.2.2.2.2.2.2.2.2.1.ext O0.2) d1_21 rfl ?_
  intro T5 X5 e5
  refine own_iload_n 25 X5 hx hby d1_24 rfl rfl ?_
  refine own_icN 28 X5 hx hby d1_25 rfl (teq hc6).2 ?_
  refine own_aload 30 X5 hx hby d1_28 rfl rfl rfl ?_
  exact own_ret (Q := own_Q _ n0 h0) X5 hx hby hret hlk d1_30 rfl (Or.inr (Or.inr (Or.inr (Or.inr ⟨rfl, rfl, rfl⟩)))) (by decide) (by decide) ⟨rfl, N0, e5⟩
set_option maxRecDepth 65536 in
set_option maxHeartbeats 40000000 in
theorem rm1_3 (l : Launch) (Z : State) (a0 : Array Value) (hw : ∀ d ∈ tables_1, d.before a0 Z = true) (ws : List Jvm.Cond) (w_HANDLED w_UNKNOWN_TRANSACTION w_NO_SUCH_OBJECT w_FAILED w_TOO_LARGE w_ALL k_ALL : Addr) (W : own_W Z w_HANDLED w_UNKNOWN_TRANSACTION w_NO_SUCH_OBJECT w_FAILED w_TOO_LARGE w_ALL k_ALL) (x0 : Int32) (h0 : Heap) (n0 : Nat) (O0 : Old Z n0 h0) (hc4 : ¬ ((0 : Int32) = x0)) (hc6 : ¬ ((1 : Int32) = x0)) (hc8 : (2 : Int32) = x0) :
    MetFree l (⟨"com/example/hop1/hop1/protocol/ReplyStatus", "of", "(I)Lcom/example/hop1/hop1/protocol/ReplyStatus;"⟩ : MethodName) (head1 (Jvm.Cond.code (⟨"com/example/hop1/hop1/protocol/ReplyStatus", "of", "(I)Lcom/example/hop1/hop1/protocol/ReplyStatus;"⟩ : MethodName) prog_123_method_5_code 5 (some (.object "com/example/hop1/hop1/protocol/ReplyStatus")) :: ws) ({ frames := 0, cells := 0, slots := 0, locals := 0 } : Room)) (fun a U => a = #[(.int x0)] ∧ Z.Warmed39 U.vm ∧ U.heap = h0) (fun _ _ _ _ _ => True) (fun _ U o U' => ∃ v L, o = .returned v ∧ own_Q (some (.ref w_NO_SUCH_OBJECT)) n0 h0 v U'.heap L ∧ FrameEnd U o U' L ({ frames := 0, cells := 0, slots := 0, locals := 0 } : Room).cells ({ frames := 0, cells := 0, slots := 0, locals := 0 } : Room).slots) := by
  refine MetFree.of_bodySF (plainFor_of_name pn_0) hisR ?_
  intro p e s m args below meth c s₁ Bd hml0 hP hK
  obtain ⟨rfl, hZ, hh⟩ := hP
  have hx := Bd.exec
  have hby := Bd.bytes
  have hml : c.maxLocals = 5 := hml0
  have hlk := BodyLoose.notSynchronized Bd
  have hret := Bd.returns
  have hown : s.vm.findClass "com/example/hop1/hop1/protocol/ReplyStatus" = some m.cls := findClass_of_methodNamed Bd.named
  have hnm := (name_of_methodNamed Bd.named Bd.method).1
  have X0 : Stand p l e ({ frames := 0, cells := 0, slots := 0, locals := 0 } : Room) s m #[(.int x0)] below meth c s₁ [] 0 0 := Stand.of_body Bd
  have e0 : s₁.heap = h0 := by rw [← hh, Bd.state]; rfl
  have N0 := Fr.nil n0
  rw [ef_1 m x0]
  show Go p e below _ (s₁.setTop (mkF m 0 #[oI x0, oU, oU, oU, oU] []))
  refine own_getS 3 X0 hx hby hZ hown (own_w hw 4 rfl) e0 (W.2.2.2.2.2.2.2.2.2.2.1.ext O0.2) d1_0 rfl ?_
  intro T2 X2 e2
  refine own_astore_n 4 #[oI x0, oA w_ALL, oU, oU, oU] X2 hx hby d1_3 rfl rfl rfl ?_
  refine own_aload_n 5 X2 hx hby d1_4 rfl rfl rfl ?_
  refine own_len 6 X2 hx hby hZ e2 (W.2.2.2.2.2.2.2.2.2.2.2.2.2.2.2.2.ext O0.2) d1_5 rfl ?_
  refine own_istore_n 7 #[oI x0, oA w_ALL, oI (5 : Int32), oU, oU] X2 hx hby d1_6 rfl rfl ?_
  refine own_iconst 8 (0 : Int32) X2 hx hby d1_7 rfl (by decide) ?_
  refine own_istore_n 9 #[oI x0, oA w_ALL, oI (5 : Int32), oI (0 : Int32), oU] X2 hx hby d1_8 rfl rfl ?_
  refine own_iload_n 10 X2 hx hby d1_9 rfl rfl ?_
  refine own_iload_n 11 X2 hx hby d1_10 rfl rfl ?_
  refine own_icN 14 X2 hx hby d1_11 rfl (by decide) ?_
  refine own_aload_n 15 X2 hx hby d1_14 rfl rfl rfl ?_
  refine own_iload_n 16 X2 hx hby d1_15 rfl rfl ?_
  refine own_aaload 17 (.ref w_HANDLED) X2 hx hby hZ e2 (W.2.2.2.2.2.2.2.2.2.2.2.2.2.2.2.2.ext O0.2) rfl d1_16 rfl (by decide) rfl ?_
  refine own_astore 19 #[oI x0, oA w_ALL, oI (5 : Int32), oI (0 : Int32), oA w_HANDLED] X2 hx hby d1_17 rfl rfl rfl ?_
  refine own_aload 21 X2 hx hby d1_19 rfl rfl rfl ?_
  refine own_getF 24 X2 hx hby hZ hown (own_w hw 7 rfl) e2 (W.2.2.2.2.2.2.2.2.2.2.2.1.ext O0.2) d1_21 rfl ?_
  intro T3 X3 e3
  refine own_iload_n 25 X3 hx hby d1_24 rfl rfl ?_
  refine own_icY 31 X3 hx hby d1_25 (by decide) (by decide) (feq hc4).2 ?_
  refine own_iinc 34 #[oI x0, oA w_ALL, oI (5 : Int32), oI (1 : Int32), oA w_HANDLED] X3 hx hby d1_31 rfl rfl rfl ?_
  refine own_goto 9 X3 hx hby d1_34 (by decide) (by decide) ?_
  refine own_iload_n 10 X3 hx hby d1_9 rfl rfl ?_
  refine own_iload_n 11 X3 hx hby d1_10 rfl rfl ?_
  refine own_icN 14 X3 hx hby d1_11 rfl (by decide) ?_
  refine own_aload_n 15 X3 hx hby d1_14 rfl rfl rfl ?_
  refine own_iload_n 16 X3 hx hby d1_15 rfl rfl ?_
  refine own_aaload 17 (.ref w_UNKNOWN_TRANSACTION) X3 hx hby hZ e3 (W.2.2.2.2.2.2.2.2.2.2.2.2.2.2.2.2.ext O0.2) rfl d1_16 rfl (by decide) rfl ?_
  refine own_astore 19 #[oI x0, oA w_ALL, oI (5 : Int32), oI (1 : Int32), oA w_UNKNOWN_TRANSACTION] X3 hx hby d1_17 rfl rfl rfl ?_
  refine own_aload 21 X3 hx hby d1_19 rfl rfl rfl ?_
  refine own_getF 24 X3 hx hby hZ hown (own_w hw 7 rfl) e3 (W.2.2.2.2.2.2.2.2.2.2.2.2.1.ext O0.2) d1_21 rfl ?_
  intro T5 X5 e5
  refine own_iload_n 25 X5 hx hby d1_24 rfl rfl ?_
  refine own_icY 31 X5 hx hby d1_25 (by decide) (by decide) (feq hc6).2 ?_
  refine own_iinc 34 #[oI x0, oA w_ALL, oI (5 : Int32), oI (2 : Int32), oA w_UNKNOWN_TRANSACTION] X5 hx hby d1_31 rfl rfl rfl ?_
  refine own_goto 9 X5 hx hby d1_34 (by decide) (by decide) ?_
  refine own_iload_n 10 X5 hx hby d1_9 rfl rfl ?_
  refine own_iload_n 11 X5 hx hby d1_10 rfl rfl ?_
  refine own_icN 14 X5 hx hby d1_11 rfl (by decide) ?_
  refine own_aload_n 15 X5 hx hby d1_14 rfl rfl rfl ?_
  refine own_iload_n 16 X5 hx hby d1_15 rfl rfl ?_
  refine own_aaload 17 (.ref w_NO_SUCH_OBJECT) X5 hx hby hZ e5 (W.2.2.2.2.2.2.2.2.2.2.2.2.2.2.2.2.ext O0.2) rfl d1_16 rfl (by decide) rfl ?_
  refine own_astore 19 #[oI x0, oA w_ALL, oI (5 : Int32), oI (2 : Int32), oA w_NO_SUCH_OBJECT] X5 hx hby d1_17 rfl rfl rfl ?_
  refine own_aload 21 X5 hx hby d1_19 rfl rfl rfl ?_
  refine own_getF 24 X5 hx hby hZ hown (own_w hw 7 rfl) e5 (W.2.2.2.2.2.2.2.2.2.2.2.2.2.1.ext O0.2) d1_21 rfl ?_
  intro T7 X7 e7
  refine own_iload_n 25 X7 hx hby d1_24 rfl rfl ?_
  refine own_icN 28 X7 hx hby d1_25 rfl (teq hc8).2 ?_
  refine own_aload 30 X7 hx hby d1_28 rfl rfl rfl ?_
  exact own_ret (Q := own_Q _ n0 h0) X7 hx hby hret hlk d1_30 rfl (Or.inr (Or.inr (Or.inr (Or.inr ⟨rfl, rfl, rfl⟩)))) (by decide) (by decide) ⟨rfl, N0, e7⟩
set_option maxRecDepth 65536 in
set_option maxHeartbeats 40000000 in
theorem rm1_4 (l : Launch) (Z : State) (a0 : Array Value) (hw : ∀ d ∈ tables_1, d.before a0 Z = true) (ws : List Jvm.Cond) (w_HANDLED w_UNKNOWN_TRANSACTION w_NO_SUCH_OBJECT w_FAILED w_TOO_LARGE w_ALL k_ALL : Addr) (W : own_W Z w_HANDLED w_UNKNOWN_TRANSACTION w_NO_SUCH_OBJECT w_FAILED w_TOO_LARGE w_ALL k_ALL) (x0 : Int32) (h0 : Heap) (n0 : Nat) (O0 : Old Z n0 h0) (hc4 : ¬ ((0 : Int32) = x0)) (hc6 : ¬ ((1 : Int32) = x0)) (hc8 : ¬ ((2 : Int32) = x0)) (hc10 : (3 : Int32) = x0) :
    MetFree l (⟨"com/example/hop1/hop1/protocol/ReplyStatus", "of", "(I)Lcom/example/hop1/hop1/protocol/ReplyStatus;"⟩ : MethodName) (head1 (Jvm.Cond.code (⟨"com/example/hop1/hop1/protocol/ReplyStatus", "of", "(I)Lcom/example/hop1/hop1/protocol/ReplyStatus;"⟩ : MethodName) prog_123_method_5_code 5 (some (.object "com/example/hop1/hop1/protocol/ReplyStatus")) :: ws) ({ frames := 0, cells := 0, slots := 0, locals := 0 } : Room)) (fun a U => a = #[(.int x0)] ∧ Z.Warmed39 U.vm ∧ U.heap = h0) (fun _ _ _ _ _ => True) (fun _ U o U' => ∃ v L, o = .returned v ∧ own_Q (some (.ref w_FAILED)) n0 h0 v U'.heap L ∧ FrameEnd U o U' L ({ frames := 0, cells := 0, slots := 0, locals := 0 } : Room).cells ({ frames := 0, cells := 0, slots := 0, locals := 0 } : Room).slots) := by
  refine MetFree.of_bodySF (plainFor_of_name pn_0) hisR ?_
  intro p e s m args below meth c s₁ Bd hml0 hP hK
  obtain ⟨rfl, hZ, hh⟩ := hP
  have hx := Bd.exec
  have hby := Bd.bytes
  have hml : c.maxLocals = 5 := hml0
  have hlk := BodyLoose.notSynchronized Bd
  have hret := Bd.returns
  have hown : s.vm.findClass "com/example/hop1/hop1/protocol/ReplyStatus" = some m.cls := findClass_of_methodNamed Bd.named
  have hnm := (name_of_methodNamed Bd.named Bd.method).1
  have X0 : Stand p l e ({ frames := 0, cells := 0, slots := 0, locals := 0 } : Room) s m #[(.int x0)] below meth c s₁ [] 0 0 := Stand.of_body Bd
  have e0 : s₁.heap = h0 := by rw [← hh, Bd.state]; rfl
  have N0 := Fr.nil n0
  rw [ef_1 m x0]
  show Go p e below _ (s₁.setTop (mkF m 0 #[oI x0, oU, oU, oU, oU] []))
  refine own_getS 3 X0 hx hby hZ hown (own_w hw 4 rfl) e0 (W.2.2.2.2.2.2.2.2.2.2.1.ext O0.2) d1_0 rfl ?_
  intro T2 X2 e2
  refine own_astore_n 4 #[oI x0, oA w_ALL, oU, oU, oU] X2 hx hby d1_3 rfl rfl rfl ?_
  refine own_aload_n 5 X2 hx hby d1_4 rfl rfl rfl ?_
  refine own_len 6 X2 hx hby hZ e2 (W.2.2.2.2.2.2.2.2.2.2.2.2.2.2.2.2.ext O0.2) d1_5 rfl ?_
  refine own_istore_n 7 #[oI x0, oA w_ALL, oI (5 : Int32), oU, oU] X2 hx hby d1_6 rfl rfl ?_
  refine own_iconst 8 (0 : Int32) X2 hx hby d1_7 rfl (by decide) ?_
  refine own_istore_n 9 #[oI x0, oA w_ALL, oI (5 : Int32), oI (0 : Int32), oU] X2 hx hby d1_8 rfl rfl ?_
  refine own_iload_n 10 X2 hx hby d1_9 rfl rfl ?_
  refine own_iload_n 11 X2 hx hby d1_10 rfl rfl ?_
  refine own_icN 14 X2 hx hby d1_11 rfl (by decide) ?_
  refine own_aload_n 15 X2 hx hby d1_14 rfl rfl rfl ?_
  refine own_iload_n 16 X2 hx hby d1_15 rfl rfl ?_
  refine own_aaload 17 (.ref w_HANDLED) X2 hx hby hZ e2 (W.2.2.2.2.2.2.2.2.2.2.2.2.2.2.2.2.ext O0.2) rfl d1_16 rfl (by decide) rfl ?_
  refine own_astore 19 #[oI x0, oA w_ALL, oI (5 : Int32), oI (0 : Int32), oA w_HANDLED] X2 hx hby d1_17 rfl rfl rfl ?_
  refine own_aload 21 X2 hx hby d1_19 rfl rfl rfl ?_
  refine own_getF 24 X2 hx hby hZ hown (own_w hw 7 rfl) e2 (W.2.2.2.2.2.2.2.2.2.2.2.1.ext O0.2) d1_21 rfl ?_
  intro T3 X3 e3
  refine own_iload_n 25 X3 hx hby d1_24 rfl rfl ?_
  refine own_icY 31 X3 hx hby d1_25 (by decide) (by decide) (feq hc4).2 ?_
  refine own_iinc 34 #[oI x0, oA w_ALL, oI (5 : Int32), oI (1 : Int32), oA w_HANDLED] X3 hx hby d1_31 rfl rfl rfl ?_
  refine own_goto 9 X3 hx hby d1_34 (by decide) (by decide) ?_
  refine own_iload_n 10 X3 hx hby d1_9 rfl rfl ?_
  refine own_iload_n 11 X3 hx hby d1_10 rfl rfl ?_
  refine own_icN 14 X3 hx hby d1_11 rfl (by decide) ?_
  refine own_aload_n 15 X3 hx hby d1_14 rfl rfl rfl ?_
  refine own_iload_n 16 X3 hx hby d1_15 rfl rfl ?_
  refine own_aaload 17 (.ref w_UNKNOWN_TRANSACTION) X3 hx hby hZ e3 (W.2.2.2.2.2.2.2.2.2.2.2.2.2.2.2.2.ext O0.2) rfl d1_16 rfl (by decide) rfl ?_
  refine own_astore 19 #[oI x0, oA w_ALL, oI (5 : Int32), oI (1 : Int32), oA w_UNKNOWN_TRANSACTION] X3 hx hby d1_17 rfl rfl rfl ?_
  refine own_aload 21 X3 hx hby d1_19 rfl rfl rfl ?_
  refine own_getF 24 X3 hx hby hZ hown (own_w hw 7 rfl) e3 (W.2.2.2.2.2.2.2.2.2.2.2.2.1.ext O0.2) d1_21 rfl ?_
  intro T5 X5 e5
  refine own_iload_n 25 X5 hx hby d1_24 rfl rfl ?_
  refine own_icY 31 X5 hx hby d1_25 (by decide) (by decide) (feq hc6).2 ?_
  refine own_iinc 34 #[oI x0, oA w_ALL, oI (5 : Int32), oI (2 : Int32), oA w_UNKNOWN_TRANSACTION] X5 hx hby d1_31 rfl rfl rfl ?_
  refine own_goto 9 X5 hx hby d1_34 (by decide) (by decide) ?_
  refine own_iload_n 10 X5 hx hby d1_9 rfl rfl ?_
  refine own_iload_n 11 X5 hx hby d1_10 rfl rfl ?_
  refine own_icN 14 X5 hx hby d1_11 rfl (by decide) ?_
  refine own_aload_n 15 X5 hx hby d1_14 rfl rfl rfl ?_
  refine own_iload_n 16 X5 hx hby d1_15 rfl rfl ?_
  refine own_aaload 17 (.ref w_NO_SUCH_OBJECT) X5 hx hby hZ e5 (W.2.2.2.2.2.2.2.2.2.2.2.2.2.2.2.2.ext O0.2) rfl d1_16 rfl (by decide) rfl ?_
  refine own_astore 19 #[oI x0, oA w_ALL, oI (5 : Int32), oI (2 : Int32), oA w_NO_SUCH_OBJECT] X5 hx hby d1_17 rfl rfl rfl ?_
  refine own_aload 21 X5 hx hby d1_19 rfl rfl rfl ?_
  refine own_getF 24 X5 hx hby hZ hown (own_w hw 7 rfl) e5 (W.2.2.2.2.2.2.2.2.2.2.2.2.2.1.ext O0.2) d1_21 rfl ?_
  intro T7 X7 e7
  refine own_iload_n 25 X7 hx hby d1_24 rfl rfl ?_
  refine own_icY 31 X7 hx hby d1_25 (by decide) (by decide) (feq hc8).2 ?_
  refine own_iinc 34 #[oI x0, oA w_ALL, oI (5 : Int32), oI (3 : Int32), oA w_NO_SUCH_OBJECT] X7 hx hby d1_31 rfl rfl rfl ?_
  refine own_goto 9 X7 hx hby d1_34 (by decide) (by decide) ?_
  refine own_iload_n 10 X7 hx hby d1_9 rfl rfl ?_
  refine own_iload_n 11 X7 hx hby d1_10 rfl rfl ?_
  refine own_icN 14 X7 hx hby d1_11 rfl (by decide) ?_
  refine own_aload_n 15 X7 hx hby d1_14 rfl rfl rfl ?_
  refine own_iload_n 16 X7 hx hby d1_15 rfl rfl ?_
  refine own_aaload 17 (.ref w_FAILED) X7 hx hby hZ e7 (W.2.2.2.2.2.2.2.2.2.2.2.2.2.2.2.2.ext O0.2) rfl d1_16 rfl (by decide) rfl ?_
  refine own_astore 19 #[oI x0, oA w_ALL, oI (5 : Int32), oI (3 : Int32), oA w_FAILED] X7 hx hby d1_17 rfl rfl rfl ?_
  refine own_aload 21 X7 hx hby d1_19 rfl rfl rfl ?_
  refine own_getF 24 X7 hx hby hZ hown (own_w hw 7 rfl) e7 (W.2.2.2.2.2.2.2.2.2.2.2.2.2.2.1.ext O0.2) d1_21 rfl ?_
  intro T9 X9 e9
  refine own_iload_n 25 X9 hx hby d1_24 rfl rfl ?_
  refine own_icN 28 X9 hx hby d1_25 rfl (teq hc10).2 ?_
  refine own_aload 30 X9 hx hby d1_28 rfl rfl rfl ?_
  exact own_ret (Q := own_Q _ n0 h0) X9 hx hby hret hlk d1_30 rfl (Or.inr (Or.inr (Or.inr (Or.inr ⟨rfl, rfl, rfl⟩)))) (by decide) (by decide) ⟨rfl, N0, e9⟩
set_option maxRecDepth 65536 in
set_option maxHeartbeats 40000000 in
theorem rm1_5 (l : Launch) (Z : State) (a0 : Array Value) (hw : ∀ d ∈ tables_1, d.before a0 Z = true) (ws : List Jvm.Cond) (w_HANDLED w_UNKNOWN_TRANSACTION w_NO_SUCH_OBJECT w_FAILED w_TOO_LARGE w_ALL k_ALL : Addr) (W : own_W Z w_HANDLED w_UNKNOWN_TRANSACTION w_NO_SUCH_OBJECT w_FAILED w_TOO_LARGE w_ALL k_ALL) (x0 : Int32) (h0 : Heap) (n0 : Nat) (O0 : Old Z n0 h0) (hc4 : ¬ ((0 : Int32) = x0)) (hc6 : ¬ ((1 : Int32) = x0)) (hc8 : ¬ ((2 : Int32) = x0)) (hc10 : ¬ ((3 : Int32) = x0)) (hc12 : (4 : Int32) = x0) :
    MetFree l (⟨"com/example/hop1/hop1/protocol/ReplyStatus", "of", "(I)Lcom/example/hop1/hop1/protocol/ReplyStatus;"⟩ : MethodName) (head1 (Jvm.Cond.code (⟨"com/example/hop1/hop1/protocol/ReplyStatus", "of", "(I)Lcom/example/hop1/hop1/protocol/ReplyStatus;"⟩ : MethodName) prog_123_method_5_code 5 (some (.object "com/example/hop1/hop1/protocol/ReplyStatus")) :: ws) ({ frames := 0, cells := 0, slots := 0, locals := 0 } : Room)) (fun a U => a = #[(.int x0)] ∧ Z.Warmed39 U.vm ∧ U.heap = h0) (fun _ _ _ _ _ => True) (fun _ U o U' => ∃ v L, o = .returned v ∧ own_Q (some (.ref w_TOO_LARGE)) n0 h0 v U'.heap L ∧ FrameEnd U o U' L ({ frames := 0, cells := 0, slots := 0, locals := 0 } : Room).cells ({ frames := 0, cells := 0, slots := 0, locals := 0 } : Room).slots) := by
  refine MetFree.of_bodySF (plainFor_of_name pn_0) hisR ?_
  intro p e s m args below meth c s₁ Bd hml0 hP hK
  obtain ⟨rfl, hZ, hh⟩ := hP
  have hx := Bd.exec
  have hby := Bd.bytes
  have hml : c.maxLocals = 5 := hml0
  have hlk := BodyLoose.notSynchronized Bd
  have hret := Bd.returns
  have hown : s.vm.findClass "com/example/hop1/hop1/protocol/ReplyStatus" = some m.cls := findClass_of_methodNamed Bd.named
  have hnm := (name_of_methodNamed Bd.named Bd.method).1
  have X0 : Stand p l e ({ frames := 0, cells := 0, slots := 0, locals := 0 } : Room) s m #[(.int x0)] below meth c s₁ [] 0 0 := Stand.of_body Bd
  have e0 : s₁.heap = h0 := by rw [← hh, Bd.state]; rfl
  have N0 := Fr.nil n0
  rw [ef_1 m x0]
  show Go p e below _ (s₁.setTop (mkF m 0 #[oI x0, oU, oU, oU, oU] []))
  refine own_getS 3 X0 hx hby hZ hown (own_w hw 4 rfl) e0 (W.2.2.2.2.2.2.2.2.2.2.1.ext O0.2) d1_0 rfl ?_
  intro T2 X2 e2
  refine own_astore_n 4 #[oI x0, oA w_ALL, oU, oU, oU] X2 hx hby d1_3 rfl rfl rfl ?_
  refine own_aload_n 5 X2 hx hby d1_4 rfl rfl rfl ?_
  refine own_len 6 X2 hx hby hZ e2 (W.2.2.2.2.2.2.2.2.2.2.2.2.2.2.2.2.ext O0.2) d1_5 rfl ?_
  refine own_istore_n 7 #[oI x0, oA w_ALL, oI (5 : Int32), oU, oU] X2 hx hby d1_6 rfl rfl ?_
  refine own_iconst 8 (0 : Int32) X2 hx hby d1_7 rfl (by decide) ?_
  refine own_istore_n 9 #[oI x0, oA w_ALL, oI (5 : Int32), oI (0 : Int32), oU] X2 hx hby d1_8 rfl rfl ?_
  refine own_iload_n 10 X2 hx hby d1_9 rfl rfl ?_
  refine own_iload_n 11 X2 hx hby d1_10 rfl rfl ?_
  refine own_icN 14 X2 hx hby d1_11 rfl (by decide) ?_
  refine own_aload_n 15 X2 hx hby d1_14 rfl rfl rfl ?_
  refine own_iload_n 16 X2 hx hby d1_15 rfl rfl ?_
  refine own_aaload 17 (.ref w_HANDLED) X2 hx hby hZ e2 (W.2.2.2.2.2.2.2.2.2.2.2.2.2.2.2.2.ext O0.2) rfl d1_16 rfl (by decide) rfl ?_
  refine own_astore 19 #[oI x0, oA w_ALL, oI (5 : Int32), oI (0 : Int32), oA w_HANDLED] X2 hx hby d1_17 rfl rfl rfl ?_
  refine own_aload 21 X2 hx hby d1_19 rfl rfl rfl ?_
  refine own_getF 24 X2 hx hby hZ hown (own_w hw 7 rfl) e2 (W.2.2.2.2.2.2.2.2.2.2.2.1.ext O0.2) d1_21 rfl ?_
  intro T3 X3 e3
  refine own_iload_n 25 X3 hx hby d1_24 rfl rfl ?_
  refine own_icY 31 X3 hx hby d1_25 (by decide) (by decide) (feq hc4).2 ?_
  refine own_iinc 34 #[oI x0, oA w_ALL, oI (5 : Int32), oI (1 : Int32), oA w_HANDLED] X3 hx hby d1_31 rfl rfl rfl ?_
  refine own_goto 9 X3 hx hby d1_34 (by decide) (by decide) ?_
  refine own_iload_n 10 X3 hx hby d1_9 rfl rfl ?_
  refine own_iload_n 11 X3 hx hby d1_10 rfl rfl ?_
  refine own_icN 14 X3 hx hby d1_11 rfl (by decide) ?_
  refine own_aload_n 15 X3 hx hby d1_14 rfl rfl rfl ?_
  refine own_iload_n 16 X3 hx hby d1_15 rfl rfl ?_
  refine own_aaload 17 (.ref w_UNKNOWN_TRANSACTION) X3 hx hby hZ e3 (W.2.2.2.2.2.2.2.2.2.2.2.2.2.2.2.2.ext O0.2) rfl d1_16 rfl (by decide) rfl ?_
  refine own_astore 19 #[oI x0, oA w_ALL, oI (5 : Int32), oI (1 : Int32), oA w_UNKNOWN_TRANSACTION] X3 hx hby d1_17 rfl rfl rfl ?_
  refine own_aload 21 X3 hx hby d1_19 rfl rfl rfl ?_
  refine own_getF 24 X3 hx hby hZ hown (own_w hw 7 rfl) e3 (W.2.2.2.2.2.2.2.2.2.2.2.2.1.ext O0.2) d1_21 rfl ?_
  intro T5 X5 e5
  refine own_iload_n 25 X5 hx hby d1_24 rfl rfl ?_
  refine own_icY 31 X5 hx hby d1_25 (by decide) (by decide) (feq hc6).2 ?_
  refine own_iinc 34 #[oI x0, oA w_ALL, oI (5 : Int32), oI (2 : Int32), oA w_UNKNOWN_TRANSACTION] X5 hx hby d1_31 rfl rfl rfl ?_
  refine own_goto 9 X5 hx hby d1_34 (by decide) (by decide) ?_
  refine own_iload_n 10 X5 hx hby d1_9 rfl rfl ?_
  refine own_iload_n 11 X5 hx hby d1_10 rfl rfl ?_
  refine own_icN 14 X5 hx hby d1_11 rfl (by decide) ?_
  refine own_aload_n 15 X5 hx hby d1_14 rfl rfl rfl ?_
  refine own_iload_n 16 X5 hx hby d1_15 rfl rfl ?_
  refine own_aaload 17 (.ref w_NO_SUCH_OBJECT) X5 hx hby hZ e5 (W.2.2.2.2.2.2.2.2.2.2.2.2.2.2.2.2.ext O0.2) rfl d1_16 rfl (by decide) rfl ?_
  refine own_astore 19 #[oI x0, oA w_ALL, oI (5 : Int32), oI (2 : Int32), oA w_NO_SUCH_OBJECT] X5 hx hby d1_17 rfl rfl rfl ?_
  refine own_aload 21 X5 hx hby d1_19 rfl rfl rfl ?_
  refine own_getF 24 X5 hx hby hZ hown (own_w hw 7 rfl) e5 (W.2.2.2.2.2.2.2.2.2.2.2.2.2.1.ext O0.2) d1_21 rfl ?_
  intro T7 X7 e7
  refine own_iload_n 25 X7 hx hby d1_24 rfl rfl ?_
  refine own_icY 31 X7 hx hby d1_25 (by decide) (by decide) (feq hc8).2 ?_
  refine own_iinc 34 #[oI x0, oA w_ALL, oI (5 : Int32), oI (3 : Int32), oA w_NO_SUCH_OBJECT] X7 hx hby d1_31 rfl rfl rfl ?_
  refine own_goto 9 X7 hx hby d1_34 (by decide) (by decide) ?_
  refine own_iload_n 10 X7 hx hby d1_9 rfl rfl ?_
  refine own_iload_n 11 X7 hx hby d1_10 rfl rfl ?_
  refine own_icN 14 X7 hx hby d1_11 rfl (by decide) ?_
  refine own_aload_n 15 X7 hx hby d1_14 rfl rfl rfl ?_
  refine own_iload_n 16 X7 hx hby d1_15 rfl rfl ?_
  refine own_aaload 17 (.ref w_FAILED) X7 hx hby hZ e7 (W.2.2.2.2.2.2.2.2.2.2.2.2.2.2.2.2.ext O0.2) rfl d1_16 rfl (by decide) rfl ?_
  refine own_astore 19 #[oI x0, oA w_ALL, oI (5 : Int32), oI (3 : Int32), oA w_FAILED] X7 hx hby d1_17 rfl rfl rfl ?_
  refine own_aload 21 X7 hx hby d1_19 rfl rfl rfl ?_
  refine own_getF 24 X7 hx hby hZ hown (own_w hw 7 rfl) e7 (W.2.2.2.2.2.2.2.2.2.2.2.2.2.2.1.ext O0.2) d1_21 rfl ?_
  intro T9 X9 e9
  refine own_iload_n 25 X9 hx hby d1_24 rfl rfl ?_
  refine own_icY 31 X9 hx hby d1_25 (by decide) (by decide) (feq hc10).2 ?_
  refine own_iinc 34 #[oI x0, oA w_ALL, oI (5 : Int32), oI (4 : Int32), oA w_FAILED] X9 hx hby d1_31 rfl rfl rfl ?_
  refine own_goto 9 X9 hx hby d1_34 (by decide) (by decide) ?_
  refine own_iload_n 10 X9 hx hby d1_9 rfl rfl ?_
  refine own_iload_n 11 X9 hx hby d1_10 rfl rfl ?_
  refine own_icN 14 X9 hx hby d1_11 rfl (by decide) ?_
  refine own_aload_n 15 X9 hx hby d1_14 rfl rfl rfl ?_
  refine own_iload_n 16 X9 hx hby d1_15 rfl rfl ?_
  refine own_aaload 17 (.ref w_TOO_LARGE) X9 hx hby hZ e9 (W.2.2.2.2.2.2.2.2.2.2.2.2.2.2.2.2.ext O0.2) rfl d1_16 rfl (by decide) rfl ?_
  refine own_astore 19 #[oI x0, oA w_ALL, oI (5 : Int32), oI (4 : Int32), oA w_TOO_LARGE] X9 hx hby d1_17 rfl rfl rfl ?_
  refine own_aload 21 X9 hx hby d1_19 rfl rfl rfl ?_
  refine own_getF 24 X9 hx hby hZ hown (own_w hw 7 rfl) e9 (W.2.2.2.2.2.2.2.2.2.2.2.2.2.2.2.1.ext O0.2) d1_21 rfl ?_
  intro T11 X11 e11
  refine own_iload_n 25 X11 hx hby d1_24 rfl rfl ?_
  refine own_icN 28 X11 hx hby d1_25 rfl (teq hc12).2 ?_
  refine own_aload 30 X11 hx hby d1_28 rfl rfl rfl ?_
  exact own_ret (Q := own_Q _ n0 h0) X11 hx hby hret hlk d1_30 rfl (Or.inr (Or.inr (Or.inr (Or.inr ⟨rfl, rfl, rfl⟩)))) (by decide) (by decide) ⟨rfl, N0, e11⟩
set_option maxRecDepth 65536 in
set_option maxHeartbeats 40000000 in
theorem rm1_6 (l : Launch) (Z : State) (a0 : Array Value) (hw : ∀ d ∈ tables_1, d.before a0 Z = true) (ws : List Jvm.Cond) (w_HANDLED w_UNKNOWN_TRANSACTION w_NO_SUCH_OBJECT w_FAILED w_TOO_LARGE w_ALL k_ALL : Addr) (W : own_W Z w_HANDLED w_UNKNOWN_TRANSACTION w_NO_SUCH_OBJECT w_FAILED w_TOO_LARGE w_ALL k_ALL) (x0 : Int32) (h0 : Heap) (n0 : Nat) (O0 : Old Z n0 h0) (hc4 : ¬ ((0 : Int32) = x0)) (hc6 : ¬ ((1 : Int32) = x0)) (hc8 : ¬ ((2 : Int32) = x0)) (hc10 : ¬ ((3 : Int32) = x0)) (hc12 : ¬ ((4 : Int32) = x0)) :
    MetFree l (⟨"com/example/hop1/hop1/protocol/ReplyStatus", "of", "(I)Lcom/example/hop1/hop1/protocol/ReplyStatus;"⟩ : MethodName) (head1 (Jvm.Cond.code (⟨"com/example/hop1/hop1/protocol/ReplyStatus", "of", "(I)Lcom/example/hop1/hop1/protocol/ReplyStatus;"⟩ : MethodName) prog_123_method_5_code 5 (some (.object "com/example/hop1/hop1/protocol/ReplyStatus")) :: ws) ({ frames := 0, cells := 0, slots := 0, locals := 0 } : Room)) (fun a U => a = #[(.int x0)] ∧ Z.Warmed39 U.vm ∧ U.heap = h0) (fun _ _ _ _ _ => True) (fun _ U o U' => ∃ v L, o = .returned v ∧ own_Q (some .null) n0 h0 v U'.heap L ∧ FrameEnd U o U' L ({ frames := 0, cells := 0, slots := 0, locals := 0 } : Room).cells ({ frames := 0, cells := 0, slots := 0, locals := 0 } : Room).slots) := by
  refine MetFree.of_bodySF (plainFor_of_name pn_0) hisR ?_
  intro p e s m args below meth c s₁ Bd hml0 hP hK
  obtain ⟨rfl, hZ, hh⟩ := hP
  have hx := Bd.exec
  have hby := Bd.bytes
  have hml : c.maxLocals = 5 := hml0
  have hlk := BodyLoose.notSynchronized Bd
  have hret := Bd.returns
  have hown : s.vm.findClass "com/example/hop1/hop1/protocol/ReplyStatus" = some m.cls := findClass_of_methodNamed Bd.named
  have hnm := (name_of_methodNamed Bd.named Bd.method).1
  have X0 : Stand p l e ({ frames := 0, cells := 0, slots := 0, locals := 0 } : Room) s m #[(.int x0)] below meth c s₁ [] 0 0 := Stand.of_body Bd
  have e0 : s₁.heap = h0 := by rw [← hh, Bd.state]; rfl
  have N0 := Fr.nil n0
  rw [ef_1 m x0]
  show Go p e below _ (s₁.setTop (mkF m 0 #[oI x0, oU, oU, oU, oU] []))
  refine own_getS 3 X0 hx hby hZ hown (own_w hw 4 rfl) e0 (W.2.2.2.2.2.2.2.2.2.2.1.ext O0.2) d1_0 rfl ?_
  intro T2 X2 e2
  refine own_astore_n 4 #[oI x0, oA w_ALL, oU, oU, oU] X2 hx hby d1_3 rfl rfl rfl ?_
  refine own_aload_n 5 X2 hx hby d1_4 rfl rfl rfl ?_
  refine own_len 6 X2 hx hby hZ e2 (W.2.2.2.2.2.2.2.2.2.2.2.2.2.2.2.2.ext O0.2) d1_5 rfl ?_
  refine own_istore_n 7 #[oI x0, oA w_ALL, oI (5 : Int32), oU, oU] X2 hx hby d1_6 rfl rfl ?_
  refine own_iconst 8 (0 : Int32) X2 hx hby d1_7 rfl (by decide) ?_
  refine own_istore_n 9 #[oI x0, oA w_ALL, oI (5 : Int32), oI (0 : Int32), oU] X2 hx hby d1_8 rfl rfl ?_
  refine own_iload_n 10 X2 hx hby d1_9 rfl rfl ?_
  refine own_iload_n 11 X2 hx hby d1_10 rfl rfl ?_
  refine own_icN 14 X2 hx hby d1_11 rfl (by decide) ?_
  refine own_aload_n 15 X2 hx hby d1_14 rfl rfl rfl ?_
  refine own_iload_n 16 X2 hx hby d1_15 rfl rfl ?_
  refine own_aaload 17 (.ref w_HANDLED) X2 hx hby hZ e2 (W.2.2.2.2.2.2.2.2.2.2.2.2.2.2.2.2.ext O0.2) rfl d1_16 rfl (by decide) rfl ?_
  refine own_astore 19 #[oI x0, oA w_ALL, oI (5 : Int32), oI (0 : Int32), oA w_HANDLED] X2 hx hby d1_17 rfl rfl rfl ?_
  refine own_aload 21 X2 hx hby d1_19 rfl rfl rfl ?_
  refine own_getF 24 X2 hx hby hZ hown (own_w hw 7 rfl) e2 (W.2.2.2.2.2.2.2.2.2.2.2.1.ext O0.2) d1_21 rfl ?_
  intro T3 X3 e3
  refine own_iload_n 25 X3 hx hby d1_24 rfl rfl ?_
  refine own_icY 31 X3 hx hby d1_25 (by decide) (by decide) (feq hc4).2 ?_
  refine own_iinc 34 #[oI x0, oA w_ALL, oI (5 : Int32), oI (1 : Int32), oA w_HANDLED] X3 hx hby d1_31 rfl rfl rfl ?_
  refine own_goto 9 X3 hx hby d1_34 (by decide) (by decide) ?_
  refine own_iload_n 10 X3 hx hby d1_9 rfl rfl ?_
  refine own_iload_n 11 X3 hx hby d1_10 rfl rfl ?_
  refine own_icN 14 X3 hx hby d1_11 rfl (by decide) ?_
  refine own_aload_n 15 X3 hx hby d1_14 rfl rfl rfl ?_
  refine own_iload_n 16 X3 hx hby d1_15 rfl rfl ?_
  refine own_aaload 17 (.ref w_UNKNOWN_TRANSACTION) X3 hx hby hZ e3 (W.2.2.2.2.2.2.2.2.2.2.2.2.2.2.2.2.ext O0.2) rfl d1_16 rfl (by decide) rfl ?_
  refine own_astore 19 #[oI x0, oA w_ALL, oI (5 : Int32), oI (1 : Int32), oA w_UNKNOWN_TRANSACTION] X3 hx hby d1_17 rfl rfl rfl ?_
  refine own_aload 21 X3 hx hby d1_19 rfl rfl rfl ?_
  refine own_getF 24 X3 hx hby hZ hown (own_w hw 7 rfl) e3 (W.2.2.2.2.2.2.2.2.2.2.2.2.1.ext O0.2) d1_21 rfl ?_
  intro T5 X5 e5
  refine own_iload_n 25 X5 hx hby d1_24 rfl rfl ?_
  refine own_icY 31 X5 hx hby d1_25 (by decide) (by decide) (feq hc6).2 ?_
  refine own_iinc 34 #[oI x0, oA w_ALL, oI (5 : Int32), oI (2 : Int32), oA w_UNKNOWN_TRANSACTION] X5 hx hby d1_31 rfl rfl rfl ?_
  refine own_goto 9 X5 hx hby d1_34 (by decide) (by decide) ?_
  refine own_iload_n 10 X5 hx hby d1_9 rfl rfl ?_
  refine own_iload_n 11 X5 hx hby d1_10 rfl rfl ?_
  refine own_icN 14 X5 hx hby d1_11 rfl (by decide) ?_
  refine own_aload_n 15 X5 hx hby d1_14 rfl rfl rfl ?_
  refine own_iload_n 16 X5 hx hby d1_15 rfl rfl ?_
  refine own_aaload 17 (.ref w_NO_SUCH_OBJECT) X5 hx hby hZ e5 (W.2.2.2.2.2.2.2.2.2.2.2.2.2.2.2.2.ext O0.2) rfl d1_16 rfl (by decide) rfl ?_
  refine own_astore 19 #[oI x0, oA w_ALL, oI (5 : Int32), oI (2 : Int32), oA w_NO_SUCH_OBJECT] X5 hx hby d1_17 rfl rfl rfl ?_
  refine own_aload 21 X5 hx hby d1_19 rfl rfl rfl ?_
  refine own_getF 24 X5 hx hby hZ hown (own_w hw 7 rfl) e5 (W.2.2.2.2.2.2.2.2.2.2.2.2.2.1.ext O0.2) d1_21 rfl ?_
  intro T7 X7 e7
  refine own_iload_n 25 X7 hx hby d1_24 rfl rfl ?_
  refine own_icY 31 X7 hx hby d1_25 (by decide) (by decide) (feq hc8).2 ?_
  refine own_iinc 34 #[oI x0, oA w_ALL, oI (5 : Int32), oI (3 : Int32), oA w_NO_SUCH_OBJECT] X7 hx hby d1_31 rfl rfl rfl ?_
  refine own_goto 9 X7 hx hby d1_34 (by decide) (by decide) ?_
  refine own_iload_n 10 X7 hx hby d1_9 rfl rfl ?_
  refine own_iload_n 11 X7 hx hby d1_10 rfl rfl ?_
  refine own_icN 14 X7 hx hby d1_11 rfl (by decide) ?_
  refine own_aload_n 15 X7 hx hby d1_14 rfl rfl rfl ?_
  refine own_iload_n 16 X7 hx hby d1_15 rfl rfl ?_
  refine own_aaload 17 (.ref w_FAILED) X7 hx hby hZ e7 (W.2.2.2.2.2.2.2.2.2.2.2.2.2.2.2.2.ext O0.2) rfl d1_16 rfl (by decide) rfl ?_
  refine own_astore 19 #[oI x0, oA w_ALL, oI (5 : Int32), oI (3 : Int32), oA w_FAILED] X7 hx hby d1_17 rfl rfl rfl ?_
  refine own_aload 21 X7 hx hby d1_19 rfl rfl rfl ?_
  refine own_getF 24 X7 hx hby hZ hown (own_w hw 7 rfl) e7 (W.2.2.2.2.2.2.2.2.2.2.2.2.2.2.1.ext O0.2) d1_21 rfl ?_
  intro T9 X9 e9
  refine own_iload_n 25 X9 hx hby d1_24 rfl rfl ?_
  refine own_icY 31 X9 hx hby d1_25 (by decide) (by decide) (feq hc10).2 ?_
  refine own_iinc 34 #[oI x0, oA w_ALL, oI (5 : Int32), oI (4 : Int32), oA w_FAILED] X9 hx hby d1_31 rfl rfl rfl ?_
  refine own_goto 9 X9 hx hby d1_34 (by decide) (by decide) ?_
  refine own_iload_n 10 X9 hx hby d1_9 rfl rfl ?_
  refine own_iload_n 11 X9 hx hby d1_10 rfl rfl ?_
  refine own_icN 14 X9 hx hby d1_11 rfl (by decide) ?_
  refine own_aload_n 15 X9 hx hby d1_14 rfl rfl rfl ?_
  refine own_iload_n 16 X9 hx hby d1_15 rfl rfl ?_
  refine own_aaload 17 (.ref w_TOO_LARGE) X9 hx hby hZ e9 (W.2.2.2.2.2.2.2.2.2.2.2.2.2.2.2.2.ext O0.2) rfl d1_16 rfl (by decide) rfl ?_
  refine own_astore 19 #[oI x0, oA w_ALL, oI (5 : Int32), oI (4 : Int32), oA w_TOO_LARGE] X9 hx hby d1_17 rfl rfl rfl ?_
  refine own_aload 21 X9 hx hby d1_19 rfl rfl rfl ?_
  refine own_getF 24 X9 hx hby hZ hown (own_w hw 7 rfl) e9 (W.2.2.2.2.2.2.2.2.2.2.2.2.2.2.2.1.ext O0.2) d1_21 rfl ?_
  intro T11 X11 e11
  refine own_iload_n 25 X11 hx hby d1_24 rfl rfl ?_
  refine own_icY 31 X11 hx hby d1_25 (by decide) (by decide) (feq hc12).2 ?_
  refine own_iinc 34 #[oI x0, oA w_ALL, oI (5 : Int32), oI (5 : Int32), oA w_TOO_LARGE] X11 hx hby d1_31 rfl rfl rfl ?_
  refine own_goto 9 X11 hx hby d1_34 (by decide) (by decide) ?_
  refine own_iload_n 10 X11 hx hby d1_9 rfl rfl ?_
  refine own_iload_n 11 X11 hx hby d1_10 rfl rfl ?_
  refine own_icY 37 X11 hx hby d1_11 (by decide) (by decide) (by decide) ?_
  refine own_null 38 X11 hx hby d1_37 rfl ?_
  exact own_ret (Q := own_Q _ n0 h0) X11 hx hby hret hlk d1_38 rfl (Or.inr (Or.inr (Or.inr (Or.inr ⟨rfl, rfl, rfl⟩)))) (by decide) (by decide) ⟨rfl, N0, e11⟩
set_option maxRecDepth 65536 in
set_option maxHeartbeats 40000000 in
theorem rm2_1 (l : Launch) (Z : State) (a0 : Array Value) (hw : ∀ d ∈ tables_1, d.before a0 Z = true) (ws : List Jvm.Cond) (w_HANDLED w_UNKNOWN_TRANSACTION w_NO_SUCH_OBJECT w_FAILED w_TOO_LARGE w_ALL k_ALL : Addr) (W : own_W Z w_HANDLED w_UNKNOWN_TRANSACTION w_NO_SUCH_OBJECT w_FAILED w_TOO_LARGE w_ALL k_ALL) (x0 : Int32) (h0 : Heap) (n0 : Nat) (O0 : Old Z n0 h0) (hc16 : x0 = (0 : Int32)) :
    MetFree l (⟨"com/example/hop1/hop1/protocol/ReplyStatusOfPinLaw", "expected", "(I)Lcom/example/hop1/hop1/protocol/ReplyStatus;"⟩ : MethodName) (head1 (Jvm.Cond.code (⟨"com/example/hop1/hop1/protocol/ReplyStatusOfPinLaw", "expected", "(I)Lcom/example/hop1/hop1/protocol/ReplyStatus;"⟩ : MethodName) method_2_code 1 (some (.object "com/example/hop1/hop1/protocol/ReplyStatus")) :: ws) ({ frames := 0, cells := 0, slots := 0, locals := 0 } : Room)) (fun a U => a = #[(.int x0)] ∧ Z.Warmed39 U.vm ∧ U.heap = h0) (fun _ _ _ _ _ => True) (fun _ U o U' => ∃ v L, o = .returned v ∧ own_Q (some (.ref w_HANDLED)) n0 h0 v U'.heap L ∧ FrameEnd U o U' L ({ frames := 0, cells := 0, slots := 0, locals := 0 } : Room).cells ({ frames := 0, cells := 0, slots := 0, locals := 0 } : Room).slots) := by
  refine MetFree.of_bodySF (plainFor_of_name pn_1) hisR ?_
  intro p e s m args below meth c s₁ Bd hml0 hP hK
  obtain ⟨rfl, hZ, hh⟩ := hP
  have hx := Bd.exec
  have hby := Bd.bytes
  have hml : c.maxLocals = 1 := hml0
  have hlk := BodyLoose.notSynchronized Bd
  have hret := Bd.returns
  have hown : s.vm.findClass "com/example/hop1/hop1/protocol/ReplyStatusOfPinLaw" = some m.cls := findClass_of_methodNamed Bd.named
  have hnm := (name_of_methodNamed Bd.named Bd.method).1
  have X0 : Stand p l e ({ frames := 0, cells := 0, slots := 0, locals := 0 } : Room) s m #[(.int x0)] below meth c s₁ [] 0 0 := Stand.of_body Bd
  have e0 : s₁.heap = h0 := by rw [← hh, Bd.state]; rfl
  have N0 := Fr.nil n0
  rw [ef_2 m x0]
  show Go p e below _ (s₁.setTop (mkF m 0 #[oI x0] []))
  refine own_iload_n 1 X0 hx hby d2_0 rfl rfl ?_
  refine own_ifN 4 X0 hx hby d2_1 rfl ((if0 _ _).trans (teq hc16).2) ?_
  refine own_getS 7 X0 hx hby hZ hown (own_w hw 15 rfl) e0 (W.1.ext O0.2) d2_4 rfl ?_
  intro T17 X17 e17
  exact own_ret (Q := own_Q _ n0 h0) X17 hx hby hret hlk d2_7 rfl (Or.inr (Or.inr (Or.inr (Or.inr ⟨rfl, rfl, rfl⟩)))) (by decide) (by decide) ⟨rfl, N0, e17⟩
set_option maxRecDepth 65536 in
set_option maxHeartbeats 40000000 in
theorem rm2_2 (l : Launch) (Z : State) (a0 : Array Value) (hw : ∀ d ∈ tables_1, d.before a0 Z = true) (ws : List Jvm.Cond) (w_HANDLED w_UNKNOWN_TRANSACTION w_NO_SUCH_OBJECT w_FAILED w_TOO_LARGE w_ALL k_ALL : Addr) (W : own_W Z w_HANDLED w_UNKNOWN_TRANSACTION w_NO_SUCH_OBJECT w_FAILED w_TOO_LARGE w_ALL k_ALL) (x0 : Int32) (h0 : Heap) (n0 : Nat) (O0 : Old Z n0 h0) (hc16 : ¬ (x0 = (0 : Int32))) (hc18 : x0 = (1 : Int32)) :
    MetFree l (⟨"com/example/hop1/hop1/protocol/ReplyStatusOfPinLaw", "expected", "(I)Lcom/example/hop1/hop1/protocol/ReplyStatus;"⟩ : MethodName) (head1 (Jvm.Cond.code (⟨"com/example/hop1/hop1/protocol/ReplyStatusOfPinLaw", "expected", "(I)Lcom/example/hop1/hop1/protocol/ReplyStatus;"⟩ : MethodName) method_2_code 1 (some (.object "com/example/hop1/hop1/protocol/ReplyStatus")) :: ws) ({ frames := 0, cells := 0, slots := 0, locals := 0 } : Room)) (fun a U => a = #[(.int x0)] ∧ Z.Warmed39 U.vm ∧ U.heap = h0) (fun _ _ _ _ _ => True) (fun _ U o U' => ∃ v L, o = .returned v ∧ own_Q (some (.ref w_UNKNOWN_TRANSACTION)) n0 h0 v U'.heap L ∧ FrameEnd U o U' L ({ frames := 0, cells := 0, slots := 0, locals := 0 } : Room).cells ({ frames := 0, cells := 0, slots := 0, locals := 0 } : Room).slots) := by
  refine MetFree.of_bodySF (plainFor_of_name pn_1) hisR ?_
  intro p e s m args below meth c s₁ Bd hml0 hP hK
  obtain ⟨rfl, hZ, hh⟩ := hP
  have hx := Bd.exec
  have hby := Bd.bytes
  have hml : c.maxLocals = 1 := hml0
  have hlk := BodyLoose.notSynchronized Bd
  have hret := Bd.returns
  have hown : s.vm.findClass "com/example/hop1/hop1/protocol/ReplyStatusOfPinLaw" = some m.cls := findClass_of_methodNamed Bd.named
  have hnm := (name_of_methodNamed Bd.named Bd.method).1
  have X0 : Stand p l e ({ frames := 0, cells := 0, slots := 0, locals := 0 } : Room) s m #[(.int x0)] below meth c s₁ [] 0 0 := Stand.of_body Bd
  have e0 : s₁.heap = h0 := by rw [← hh, Bd.state]; rfl
  have N0 := Fr.nil n0
  rw [ef_2 m x0]
  show Go p e below _ (s₁.setTop (mkF m 0 #[oI x0] []))
  refine own_iload_n 1 X0 hx hby d2_0 rfl rfl ?_
  refine own_ifY 8 X0 hx hby d2_1 (by decide) (by decide) ((if0 _ _).trans (feq hc16).2) ?_
  refine own_iload_n 9 X0 hx hby d2_8 rfl rfl ?_
  refine own_iconst 10 (1 : Int32) X0 hx hby d2_9 rfl (by decide) ?_
  refine own_icN 13 X0 hx hby d2_10 rfl (teq hc18).2 ?_
  refine own_getS 16 X0 hx hby hZ hown (own_w hw 21 rfl) e0 (W.2.2.1.ext O0.2) d2_13 rfl ?_
  intro T19 X19 e19
  exact own_ret (Q := own_Q _ n0 h0) X19 hx hby hret hlk d2_16 rfl (Or.inr (Or.inr (Or.inr (Or.inr ⟨rfl, rfl, rfl⟩)))) (by decide) (by decide) ⟨rfl, N0, e19⟩
set_option maxRecDepth 65536 in
set_option maxHeartbeats 40000000 in
theorem rm2_3 (l : Launch) (Z : State) (a0 : Array Value) (hw : ∀ d ∈ tables_1, d.before a0 Z = true) (ws : List Jvm.Cond) (w_HANDLED w_UNKNOWN_TRANSACTION w_NO_SUCH_OBJECT w_FAILED w_TOO_LARGE w_ALL k_ALL : Addr) (W : own_W Z w_HANDLED w_UNKNOWN_TRANSACTION w_NO_SUCH_OBJECT w_FAILED w_TOO_LARGE w_ALL k_ALL) (x0 : Int32) (h0 : Heap) (n0 : Nat) (O0 : Old Z n0 h0) (hc16 : ¬ (x0 = (0 : Int32))) (hc18 : ¬ (x0 = (1 : Int32))) (hc20 : x0 = (2 : Int32)) :
    MetFree l (⟨"com/example/hop1/hop1/protocol/ReplyStatusOfPinLaw", "expected", "(I)Lcom/example/hop1/hop1/protocol/ReplyStatus;"⟩ : MethodName) (head1 (Jvm.Cond.code (⟨"com/example/hop1/hop1/protocol/ReplyStatusOfPinLaw", "expected", "(I)Lcom/example/hop1/hop1/protocol/ReplyStatus;"⟩ : MethodName) method_2_code 1 (some (.object "com/example/hop1/hop1/protocol/ReplyStatus")) :: ws) ({ frames := 0, cells := 0, slots := 0, locals := 0 } : Room)) (fun a U => a = #[(.int x0)] ∧ Z.Warmed39 U.vm ∧ U.heap = h0) (fun _ _ _ _ _ => True) (fun _ U o U' => ∃ v L, o = .returned v ∧ own_Q (some (.ref w_NO_SUCH_OBJECT)) n0 h0 v U'.heap L ∧ FrameEnd U o U' L ({ frames := 0, cells := 0, slots := 0, locals := 0 } : Room).cells ({ frames := 0, cells := 0, slots := 0, locals := 0 } : Room).slots) := by
  refine MetFree.of_bodySF (plainFor_of_name pn_1) hisR ?_
  intro p e s m args below meth c s₁ Bd hml0 hP hK
  obtain ⟨rfl, hZ, hh⟩ := hP
  have hx := Bd.exec
  have hby := Bd.bytes
  have hml : c.maxLocals = 1 := hml0
  have hlk := BodyLoose.notSynchronized Bd
  have hret := Bd.returns
  have hown : s.vm.findClass "com/example/hop1/hop1/protocol/ReplyStatusOfPinLaw" = some m.cls := findClass_of_methodNamed Bd.named
  have hnm := (name_of_methodNamed Bd.named Bd.method).1
  have X0 : Stand p l e ({ frames := 0, cells := 0, slots := 0, locals := 0 } : Room) s m #[(.int x0)] below meth c s₁ [] 0 0 := Stand.of_body Bd
  have e0 : s₁.heap = h0 := by rw [← hh, Bd.state]; rfl
  have N0 := Fr.nil n0
  rw [ef_2 m x0]
  show Go p e below _ (s₁.setTop (mkF m 0 #[oI x0] []))
  refine own_iload_n 1 X0 hx hby d2_0 rfl rfl ?_
  refine own_ifY 8 X0 hx hby d2_1 (by decide) (by decide) ((if0 _ _).trans (feq hc16).2) ?_
  refine own_iload_n 9 X0 hx hby d2_8 rfl rfl ?_
  refine own_iconst 10 (1 : Int32) X0 hx hby d2_9 rfl (by decide) ?_
  refine own_icY 17 X0 hx hby d2_10 (by decide) (by decide) (feq hc18).2 ?_
  refine own_iload_n 18 X0 hx hby d2_17 rfl rfl ?_
  refine own_iconst 19 (2 : Int32) X0 hx hby d2_18 rfl (by decide) ?_
  refine own_icN 22 X0 hx hby d2_19 rfl (teq hc20).2 ?_
  refine own_getS 25 X0 hx hby hZ hown (own_w hw 16 rfl) e0 (W.2.2.2.2.1.ext O0.2) d2_22 rfl ?_
  intro T21 X21 e21
  exact own_ret (Q := own_Q _ n0 h0) X21 hx hby hret hlk d2_25 rfl (Or.inr (Or.inr (Or.inr (Or.inr ⟨rfl, rfl, rfl⟩)))) (by decide) (by decide) ⟨rfl, N0, e21⟩
set_option maxRecDepth 65536 in
set_option maxHeartbeats 40000000 in
theorem rm2_4 (l : Launch) (Z : State) (a0 : Array Value) (hw : ∀ d ∈ tables_1, d.before a0 Z = true) (ws : List Jvm.Cond) (w_HANDLED w_UNKNOWN_TRANSACTION w_NO_SUCH_OBJECT w_FAILED w_TOO_LARGE w_ALL k_ALL : Addr) (W : own_W Z w_HANDLED w_UNKNOWN_TRANSACTION w_NO_SUCH_OBJECT w_FAILED w_TOO_LARGE w_ALL k_ALL) (x0 : Int32) (h0 : Heap) (n0 : Nat) (O0 : Old Z n0 h0) (hc16 : ¬ (x0 = (0 : Int32))) (hc18 : ¬ (x0 = (1 : Int32))) (hc20 : ¬ (x0 = (2 : Int32))) (hc22 : x0 = (3 : Int32)) :
    MetFree l (⟨"com/example/hop1/hop1/protocol/ReplyStatusOfPinLaw", "expected", "(I)Lcom/example/hop1/hop1/protocol/ReplyStatus;"⟩ : MethodName) (head1 (Jvm.Cond.code (⟨"com/example/hop1/hop1/protocol/ReplyStatusOfPinLaw", "expected", "(I)Lcom/example/hop1/hop1/protocol/ReplyStatus;"⟩ : MethodName) method_2_code 1 (some (.object "com/example/hop1/hop1/protocol/ReplyStatus")) :: ws) ({ frames := 0, cells := 0, slots := 0, locals := 0 } : Room)) (fun a U => a = #[(.int x0)] ∧ Z.Warmed39 U.vm ∧ U.heap = h0) (fun _ _ _ _ _ => True) (fun _ U o U' => ∃ v L, o = .returned v ∧ own_Q (some (.ref w_FAILED)) n0 h0 v U'.heap L ∧ FrameEnd U o U' L ({ frames := 0, cells := 0, slots := 0, locals := 0 } : Room).cells ({ frames := 0, cells := 0, slots := 0, locals := 0 } : Room).slots) := by
  refine MetFree.of_bodySF (plainFor_of_name pn_1) hisR ?_
  intro p e s m args below meth c s₁ Bd hml0 hP hK
  obtain ⟨rfl, hZ, hh⟩ := hP
  have hx := Bd.exec
  have hby := Bd.bytes
  have hml : c.maxLocals = 1 := hml0
  have hlk := BodyLoose.notSynchronized Bd
  have hret := Bd.returns
  have hown : s.vm.findClass "com/example/hop1/hop1/protocol/ReplyStatusOfPinLaw" = some m.cls := findClass_of_methodNamed Bd.named
  have hnm := (name_of_methodNamed Bd.named Bd.method).1
  have X0 : Stand p l e ({ frames := 0, cells := 0, slots := 0, locals := 0 } : Room) s m #[(.int x0)] below meth c s₁ [] 0 0 := Stand.of_body Bd
  have e0 : s₁.heap = h0 := by rw [← hh, Bd.state]; rfl
  have N0 := Fr.nil n0
  rw [ef_2 m x0]
  show Go p e below _ (s₁.setTop (mkF m 0 #[oI x0] []))
  refine own_iload_n 1 X0 hx hby d2_0 rfl rfl ?_
  refine own_ifY 8 X0 hx hby d2_1 (by decide) (by decide) ((if0 _ _).trans (feq hc16).2) ?_
  refine own_iload_n 9 X0 hx hby d2_8 rfl rfl ?_
  refine own_iconst 10 (1 : Int32) X0 hx hby d2_9 rfl (by decide) ?_
  refine own_icY 17 X0 hx hby d2_10 (by decide) (by decide) (feq hc18).2 ?_
  refine own_iload_n 18 X0 hx hby d2_17 rfl rfl ?_
  refine own_iconst 19 (2 : Int32) X0 hx hby d2_18 rfl (by decide) ?_
  refine own_icY 26 X0 hx hby d2_19 (by decide) (by decide) (feq hc20).2 ?_
  refine own_iload_n 27 X0 hx hby d2_26 rfl rfl ?_
  refine own_iconst 28 (3 : Int32) X0 hx hby d2_27 rfl (by decide) ?_
  refine own_icN 31 X0 hx hby d2_28 rfl (teq hc22).2 ?_
  refine own_getS 34 X0 hx hby hZ hown (own_w hw 19 rfl) e0 (W.2.2.2.2.2.2.1.ext O0.2) d2_31 rfl ?_
  intro T23 X23 e23
  exact own_ret (Q := own_Q _ n0 h0) X23 hx hby hret hlk d2_34 rfl (Or.inr (Or.inr (Or.inr (Or.inr ⟨rfl, rfl, rfl⟩)))) (by decide) (by decide) ⟨rfl, N0, e23⟩
set_option maxRecDepth 65536 in
set_option maxHeartbeats 40000000 in
theorem rm2_5 (l : Launch) (Z : State) (a0 : Array Value) (hw : ∀ d ∈ tables_1, d.before a0 Z = true) (ws : List Jvm.Cond) (w_HANDLED w_UNKNOWN_TRANSACTION w_NO_SUCH_OBJECT w_FAILED w_TOO_LARGE w_ALL k_ALL : Addr) (W : own_W Z w_HANDLED w_UNKNOWN_TRANSACTION w_NO_SUCH_OBJECT w_FAILED w_TOO_LARGE w_ALL k_ALL) (x0 : Int32) (h0 : Heap) (n0 : Nat) (O0 : Old Z n0 h0) (hc16 : ¬ (x0 = (0 : Int32))) (hc18 : ¬ (x0 = (1 : Int32))) (hc20 : ¬ (x0 = (2 : Int32))) (hc22 : ¬ (x0 = (3 : Int32))) (hc24 : x0 = (4 : Int32)) :
    MetFree l (⟨"com/example/hop1/hop1/protocol/ReplyStatusOfPinLaw", "expected", "(I)Lcom/example/hop1/hop1/protocol/ReplyStatus;"⟩ : MethodName) (head1 (Jvm.Cond.code (⟨"com/example/hop1/hop1/protocol/ReplyStatusOfPinLaw", "expected", "(I)Lcom/example/hop1/hop1/protocol/ReplyStatus;"⟩ : MethodName) method_2_code 1 (some (.object "com/example/hop1/hop1/protocol/ReplyStatus")) :: ws) ({ frames := 0, cells := 0, slots := 0, locals := 0 } : Room)) (fun a U => a = #[(.int x0)] ∧ Z.Warmed39 U.vm ∧ U.heap = h0) (fun _ _ _ _ _ => True) (fun _ U o U' => ∃ v L, o = .returned v ∧ own_Q (some (.ref w_TOO_LARGE)) n0 h0 v U'.heap L ∧ FrameEnd U o U' L ({ frames := 0, cells := 0, slots := 0, locals := 0 } : Room).cells ({ frames := 0, cells := 0, slots := 0, locals := 0 } : Room).slots) := by
  refine MetFree.of_bodySF (plainFor_of_name pn_1) hisR ?_
  intro p e s m args below meth c s₁ Bd hml0 hP hK
  obtain ⟨rfl, hZ, hh⟩ := hP
  have hx := Bd.exec
  have hby := Bd.bytes
  have hml : c.maxLocals = 1 := hml0
  have hlk := BodyLoose.notSynchronized Bd
  have hret := Bd.returns
  have hown : s.vm.findClass "com/example/hop1/hop1/protocol/ReplyStatusOfPinLaw" = some m.cls := findClass_of_methodNamed Bd.named
  have hnm := (name_of_methodNamed Bd.named Bd.method).1
  have X0 : Stand p l e ({ frames := 0, cells := 0, slots := 0, locals := 0 } : Room) s m #[(.int x0)] below meth c s₁ [] 0 0 := Stand.of_body Bd
  have e0 : s₁.heap = h0 := by rw [← hh, Bd.state]; rfl
  have N0 := Fr.nil n0
  rw [ef_2 m x0]
  show Go p e below _ (s₁.setTop (mkF m 0 #[oI x0] []))
  refine own_iload_n 1 X0 hx hby d2_0 rfl rfl ?_
  refine own_ifY 8 X0 hx hby d2_1 (by decide) (by decide) ((if0 _ _).trans (feq hc16).2) ?_
  refine own_iload_n 9 X0 hx hby d2_8 rfl rfl ?_
  refine own_iconst 10 (1 : Int32) X0 hx hby d2_9 rfl (by decide) ?_
  refine own_icY 17 X0 hx hby d2_10 (by decide) (by decide) (feq hc18).2 ?_
  refine own_iload_n 18 X0 hx hby d2_17 rfl rfl ?_
  refine own_iconst 19 (2 : Int32) X0 hx hby d2_18 rfl (by decide) ?_
  refine own_icY 26 X0 hx hby d2_19 (by decide) (by decide) (feq hc20).2 ?_
  refine own_iload_n 27 X0 hx hby d2_26 rfl rfl ?_
  refine own_iconst 28 (3 : Int32) X0 hx hby d2_27 rfl (by decide) ?_
  refine own_icY 35 X0 hx hby d2_28 (by decide) (by decide) (feq hc22).2 ?_
  refine own_iload_n 36 X0 hx hby d2_35 rfl rfl ?_
  refine own_iconst 37 (4 : Int32) X0 hx hby d2_36 rfl (by decide) ?_
  refine own_icN 40 X0 hx hby d2_37 rfl (teq hc24).2 ?_
  refine own_getS 43 X0 hx hby hZ hown (own_w hw 20 rfl) e0 (W.2.2.2.2.2.2.2.2.1.ext O0.2) d2_40 rfl ?_
  intro T25 X25 e25
  exact own_ret (Q := own_Q _ n0 h0) X25 hx hby hret hlk d2_43 rfl (Or.inr (Or.inr (Or.inr (Or.inr ⟨rfl, rfl, rfl⟩)))) (by decide) (by decide) ⟨rfl, N0, e25⟩
set_option maxRecDepth 65536 in
set_option maxHeartbeats 40000000 in
theorem rm2_6 (l : Launch) (Z : State) (a0 : Array Value) (hw : ∀ d ∈ tables_1, d.before a0 Z = true) (ws : List Jvm.Cond) (w_HANDLED w_UNKNOWN_TRANSACTION w_NO_SUCH_OBJECT w_FAILED w_TOO_LARGE w_ALL k_ALL : Addr) (W : own_W Z w_HANDLED w_UNKNOWN_TRANSACTION w_NO_SUCH_OBJECT w_FAILED w_TOO_LARGE w_ALL k_ALL) (x0 : Int32) (h0 : Heap) (n0 : Nat) (O0 : Old Z n0 h0) (hc16 : ¬ (x0 = (0 : Int32))) (hc18 : ¬ (x0 = (1 : Int32))) (hc20 : ¬ (x0 = (2 : Int32))) (hc22 : ¬ (x0 = (3 : Int32))) (hc24 : ¬ (x0 = (4 : Int32))) :
    MetFree l (⟨"com/example/hop1/hop1/protocol/ReplyStatusOfPinLaw", "expected", "(I)Lcom/example/hop1/hop1/protocol/ReplyStatus;"⟩ : MethodName) (head1 (Jvm.Cond.code (⟨"com/example/hop1/hop1/protocol/ReplyStatusOfPinLaw", "expected", "(I)Lcom/example/hop1/hop1/protocol/ReplyStatus;"⟩ : MethodName) method_2_code 1 (some (.object "com/example/hop1/hop1/protocol/ReplyStatus")) :: ws) ({ frames := 0, cells := 0, slots := 0, locals := 0 } : Room)) (fun a U => a = #[(.int x0)] ∧ Z.Warmed39 U.vm ∧ U.heap = h0) (fun _ _ _ _ _ => True) (fun _ U o U' => ∃ v L, o = .returned v ∧ own_Q (some .null) n0 h0 v U'.heap L ∧ FrameEnd U o U' L ({ frames := 0, cells := 0, slots := 0, locals := 0 } : Room).cells ({ frames := 0, cells := 0, slots := 0, locals := 0 } : Room).slots) := by
  refine MetFree.of_bodySF (plainFor_of_name pn_1) hisR ?_
  intro p e s m args below meth c s₁ Bd hml0 hP hK
  obtain ⟨rfl, hZ, hh⟩ := hP
  have hx := Bd.exec
  have hby := Bd.bytes
  have hml : c.maxLocals = 1 := hml0
  have hlk := BodyLoose.notSynchronized Bd
  have hret := Bd.returns
  have hown : s.vm.findClass "com/example/hop1/hop1/protocol/ReplyStatusOfPinLaw" = some m.cls := findClass_of_methodNamed Bd.named
  have hnm := (name_of_methodNamed Bd.named Bd.method).1
  have X0 : Stand p l e ({ frames := 0, cells := 0, slots := 0, locals := 0 } : Room) s m #[(.int x0)] below meth c s₁ [] 0 0 := Stand.of_body Bd
  have e0 : s₁.heap = h0 := by rw [← hh, Bd.state]; rfl
  have N0 := Fr.nil n0
  rw [ef_2 m x0]
  show Go p e below _ (s₁.setTop (mkF m 0 #[oI x0] []))
  refine own_iload_n 1 X0 hx hby d2_0 rfl rfl ?_
  refine own_ifY 8 X0 hx hby d2_1 (by decide) (by decide) ((if0 _ _).trans (feq hc16).2) ?_
  refine own_iload_n 9 X0 hx hby d2_8 rfl rfl ?_
  refine own_iconst 10 (1 : Int32) X0 hx hby d2_9 rfl (by decide) ?_
  refine own_icY 17 X0 hx hby d2_10 (by decide) (by decide) (feq hc18).2 ?_
  refine own_iload_n 18 X0 hx hby d2_17 rfl rfl ?_
  refine own_iconst 19 (2 : Int32) X0 hx hby d2_18 rfl (by decide) ?_
  refine own_icY 26 X0 hx hby d2_19 (by decide) (by decide) (feq hc20).2 ?_
  refine own_iload_n 27 X0 hx hby d2_26 rfl rfl ?_
  refine own_iconst 28 (3 : Int32) X0 hx hby d2_27 rfl (by decide) ?_
  refine own_icY 35 X0 hx hby d2_28 (by decide) (by decide) (feq hc22).2 ?_
  refine own_iload_n 36 X0 hx hby d2_35 rfl rfl ?_
  refine own_iconst 37 (4 : Int32) X0 hx hby d2_36 rfl (by decide) ?_
  refine own_icY 44 X0 hx hby d2_37 (by decide) (by decide) (feq hc24).2 ?_
  refine own_null 45 X0 hx hby d2_44 rfl ?_
  exact own_ret (Q := own_Q _ n0 h0) X0 hx hby hret hlk d2_45 rfl (Or.inr (Or.inr (Or.inr (Or.inr ⟨rfl, rfl, rfl⟩)))) (by decide) (by decide) ⟨rfl, N0, e0⟩
set_option maxRecDepth 65536 in
set_option maxHeartbeats 40000000 in
theorem rm0 (l : Launch) (Z : State) (a0 : Array Value) (hw : ∀ d ∈ tables_1, d.before a0 Z = true) (ws : List Jvm.Cond) (w_HANDLED w_UNKNOWN_TRANSACTION w_NO_SUCH_OBJECT w_FAILED w_TOO_LARGE w_ALL k_ALL : Addr) (W : own_W Z w_HANDLED w_UNKNOWN_TRANSACTION w_NO_SUCH_OBJECT w_FAILED w_TOO_LARGE w_ALL k_ALL) (x0 : Int32) (x1 : Int32) (h0 : Heap) (n0 : Nat) (O0 : Old Z n0 h0)  :
    MetFree l x (head1 (Jvm.Cond.code x code maxLocals ret :: ws) room_1) (fun a U => a = #[(.int x0), (.int x1)] ∧ Z.Warmed39 U.vm ∧ U.heap = h0) (fun _ _ _ _ _ => True) (fun _ U o U' => ∃ v L, o = .returned v ∧ own_Q1 n0 v U'.heap L ∧ FrameEnd U o U' L 0 0) := by
  refine MetFree.of_bodySF (plainFor_of_name pn_1) hisR ?_
  intro p e s m args below meth c s₁ Bd hml0 hP hK
  obtain ⟨rfl, hZ, hh⟩ := hP
  have hx := Bd.exec
  have hby := Bd.bytes
  have hml : c.maxLocals = 5 := hml0
  have hlk := BodyLoose.notSynchronized Bd
  have hret := Bd.returns
  have hown : s.vm.findClass "com/example/hop1/hop1/protocol/ReplyStatusOfPinLaw" = some m.cls := findClass_of_methodNamed Bd.named
  have hnm := (name_of_methodNamed Bd.named Bd.method).1
  have X0 : Stand p l e room_1 s m #[(.int x0), (.int x1)] below meth c s₁ [] 0 0 := Stand.of_body Bd
  have e0 : s₁.heap = h0 := by rw [← hh, Bd.state]; rfl
  have N0 := Fr.nil n0
  rw [ef_0 m x0 x1]
  show Go p e below _ (s₁.setTop (mkF m 0 #[oI x0, oI x1, oU, oU, oU] []))
  refine own_iload_n 1 X0 hx hby at_0 rfl rfl ?_
  refine own_bipush 3 (7 : Int32) X0 hx hby at_1 rfl (by decide) ?_
  rcases own_and7 x1 with hv1 | hv1 | hv1 | hv1 | hv1 | hv1 | hv1 | hv1
  · refine own_iand 4 (0 : Int32) X0 hx hby at_3 rfl hv1 ?_
    refine own_iconst 5 (1 : Int32) X0 hx hby at_4 rfl (by decide) ?_
    refine own_isub 6 (-1 : Int32) X0 hx hby at_5 rfl (by decide) ?_
    refine own_istore_n 7 #[oI x0, oI x1, oI (-1 : Int32), oU, oU] X0 hx hby at_6 rfl rfl ?_
    refine own_iload_n 8 X0 hx hby at_7 rfl rfl ?_
    by_cases hc13 : (0 : Int32) = x0
    · refine own_callS (W := 0) 11 (rm1_1 l Z a0 hw [] w_HANDLED w_UNKNOWN_TRANSACTION w_NO_SUCH_OBJECT w_FAILED w_TOO_LARGE w_ALL k_ALL W x0 h0 n0 O0 hc13) X0 hx hby hZ hown (own_w hw 0 rfl) (own_w hw 1 rfl) (own_w hw 2 rfl) (own_w hw 3 rfl) (by decide) (by rw [hml]; rfl) [(.int x0)] [] pd_0 rfl at_8 rfl e0 rfl rfl rfl (by decide) (by decide) (by decide) (by decide) ?_
      rintro _ T14 L14 X14 ⟨rfl, N14, e14⟩
      have N14 := Fr.app N0 N14
      show Go p e below _ (T14.setTop (mkF m 11 _ [(.ref w_HANDLED)]))
      refine own_astore_n 12 #[oI x0, oI x1, oI (-1 : Int32), oA w_HANDLED, oU] X14 hx hby at_11 rfl rfl rfl ?_
      refine own_iload_n 13 X14 hx hby at_12 rfl rfl ?_
      refine own_callS (W := 0) 16 (rm1_6 l Z a0 hw [] w_HANDLED w_UNKNOWN_TRANSACTION w_NO_SUCH_OBJECT w_FAILED w_TOO_LARGE w_ALL k_ALL W (-1 : Int32) h0 n0 O0 (by decide) (by decide) (by decide) (by decide) (by decide)) X14 hx hby hZ hown (own_w hw 0 rfl) (own_w hw 1 rfl) (own_w hw 2 rfl) (own_w hw 3 rfl) (by decide) (by rw [hml]; rfl) [(.int (-1 : Int32))] [] pd_0 rfl at_13 rfl e14 rfl rfl rfl (by decide) (by decide) (by decide) (by decide) ?_
      rintro _ T15 L15 X15 ⟨rfl, N15, e15⟩
      have N15 := Fr.app N14 N15
      show Go p e below _ (T15.setTop (mkF m 16 _ [.null]))
      refine own_astore 18 #[oI x0, oI x1, oI (-1 : Int32), oA w_HANDLED, oN] X15 hx hby at_16 rfl rfl rfl ?_
      refine own_aload_n 19 X15 hx hby at_18 rfl rfl rfl ?_
      refine own_iload_n 20 X15 hx hby at_19 rfl rfl ?_
      refine own_callS (W := 1) 23 (rm2_1 l Z a0 hw [] w_HANDLED w_UNKNOWN_TRANSACTION w_NO_SUCH_OBJECT w_FAILED w_TOO_LARGE w_ALL k_ALL W x0 h0 n0 O0 hc13.symm) X15 hx hby hZ hown (own_w hw 11 rfl) (own_w hw 12 rfl) (own_w hw 13 rfl) (own_w hw 14 rfl) (by decide) (by rw [hml]; rfl) [(.int x0)] [(.ref w_HANDLED)] pd_0 rfl at_20 rfl e15 rfl rfl rfl (by decide) (by decide) (by decide) (by decide) ?_
      rintro _ T26 L26 X26 ⟨rfl, N26, e26⟩
      have N26 := Fr.app N15 N26
      show Go p e below _ (T26.setTop (mkF m 23 _ [(.ref w_HANDLED), (.ref w_HANDLED)]))
      refine own_acmp 26 true X26 hx hby at_23 rfl rfl (by decide) (by decide) (decide_eq_true (congrArg Value.ref rfl)) ?_
      refine own_aload 28 X26 hx hby at_26 rfl rfl rfl ?_
      refine own_iload_n 29 X26 hx hby at_28 rfl rfl ?_
      refine own_callS (W := 1) 32 (rm2_6 l Z a0 hw [] w_HANDLED w_UNKNOWN_TRANSACTION w_NO_SUCH_OBJECT w_FAILED w_TOO_LARGE w_ALL k_ALL W (-1 : Int32) h0 n0 O0 (by decide) (by decide) (by decide) (by decide) (by decide)) X26 hx hby hZ hown (own_w hw 11 rfl) (own_w hw 12 rfl) (own_w hw 13 rfl) (own_w hw 14 rfl) (by decide) (by rw [hml]; rfl) [(.int (-1 : Int32))] [.null] pd_0 rfl at_29 rfl e26 rfl rfl rfl (by decide) (by decide) (by decide) (by decide) ?_
      rintro _ T27 L27 X27 ⟨rfl, N27, e27⟩
      have N27 := Fr.app N26 N27
      show Go p e below _ (T27.setTop (mkF m 32 _ [.null, .null]))
      refine own_acmp 35 true X27 hx hby at_32 rfl rfl (by decide) (by decide) (decide_eq_true rfl) ?_
      refine own_iconst 36 (1 : Int32) X27 hx hby at_35 rfl (by decide) ?_
      refine own_goto 40 X27 hx hby at_36 (by decide) (by decide) ?_
      exact own_ret (Q := own_Q1 n0) X27 hx hby hret hlk at_40 rfl (Or.inl ⟨rfl, by simp, _, rfl⟩) (by decide) (by decide) ⟨rfl, N27⟩
    by_cases hc28 : (1 : Int32) = x0
    · refine own_callS (W := 0) 11 (rm1_2 l Z a0 hw [] w_HANDLED w_UNKNOWN_TRANSACTION w_NO_SUCH_OBJECT w_FAILED w_TOO_LARGE w_ALL k_ALL W x0 h0 n0 O0 hc13 hc28) X0 hx hby hZ hown (own_w hw 0 rfl) (own_w hw 1 rfl) (own_w hw 2 rfl) (own_w hw 3 rfl) (by decide) (by rw [hml]; rfl) [(.int x0)] [] pd_0 rfl at_8 rfl e0 rfl rfl rfl (by decide) (by decide) (by decide) (by decide) ?_
      rintro _ T29 L29 X29 ⟨rfl, N29, e29⟩
      have N29 := Fr.app N0 N29
      show Go p e below _ (T29.setTop (mkF m 11 _ [(.ref w_UNKNOWN_TRANSACTION)]))
      refine own_astore_n 12 #[oI x0, oI x1, oI (-1 : Int32), oA w_UNKNOWN_TRANSACTION, oU] X29 hx hby at_11 rfl rfl rfl ?_
      refine own_iload_n 13 X29 hx hby at_12 rfl rfl ?_
      refine own_callS (W := 0) 16 (rm1_6 l Z a0 hw [] w_HANDLED w_UNKNOWN_TRANSACTION w_NO_SUCH_OBJECT w_FAILED w_TOO_LARGE w_ALL k_ALL W (-1 : Int32) h0 n0 O0 (by decide) (by decide) (by decide) (by decide) (by decide)) X29 hx hby hZ hown (own_w hw 0 rfl) (own_w hw 1 rfl) (own_w hw 2 rfl) (own_w hw 3 rfl) (by decide) (by rw [hml]; rfl) [(.int (-1 : Int32))] [] pd_0 rfl at_13 rfl e29 rfl rfl rfl (by decide) (by decide) (by decide) (by decide) ?_
      rintro _ T30 L30 X30 ⟨rfl, N30, e30⟩
      have N30 := Fr.app N29 N30
      show Go p e below _ (T30.setTop (mkF m 16 _ [.null]))
      refine own_astore 18 #[oI x0, oI x1, oI (-1 : Int32), oA w_UNKNOWN_TRANSACTION, oN] X30 hx hby at_16 rfl rfl rfl ?_
      refine own_aload_n 19 X30 hx hby at_18 rfl rfl rfl ?_
      refine own_iload_n 20 X30 hx hby at_19 rfl rfl ?_
      refine own_callS (W := 1) 23 (rm2_2 l Z a0 hw [] w_HANDLED w_UNKNOWN_TRANSACTION w_NO_SUCH_OBJECT w_FAILED w_TOO_LARGE w_ALL k_ALL W x0 h0 n0 O0 (fun q => hc13 q.symm) hc28.symm) X30 hx hby hZ hown (own_w hw 11 rfl) (own_w hw 12 rfl) (own_w hw 13 rfl) (own_w hw 14 rfl) (by decide) (by rw [hml]; rfl) [(.int x0)] [(.ref w_UNKNOWN_TRANSACTION)] pd_0 rfl at_20 rfl e30 rfl rfl rfl (by decide) (by decide) (by decide) (by decide) ?_
      rintro _ T31 L31 X31 ⟨rfl, N31, e31⟩
      have N31 := Fr.app N30 N31
      show Go p e below _ (T31.setTop (mkF m 23 _ [(.ref w_UNKNOWN_TRANSACTION), (.ref w_UNKNOWN_TRANSACTION)]))
      refine own_acmp 26 true X31 hx hby at_23 rfl rfl (by decide) (by decide) (decide_eq_true (congrArg Value.ref rfl)) ?_
      refine own_aload 28 X31 hx hby at_26 rfl rfl rfl ?_
      refine own_iload_n 29 X31 hx hby at_28 rfl rfl ?_
      refine own_callS (W := 1) 32 (rm2_6 l Z a0 hw [] w_HANDLED w_UNKNOWN_TRANSACTION w_NO_SUCH_OBJECT w_FAILED w_TOO_LARGE w_ALL k_ALL W (-1 : Int32) h0 n0 O0 (by decide) (by decide) (by decide) (by decide) (by decide)) X31 hx hby hZ hown (own_w hw 11 rfl) (own_w hw 12 rfl) (own_w hw 13 rfl) (own_w hw 14 rfl) (by decide) (by rw [hml]; rfl) [(.int (-1 : Int32))] [.null] pd_0 rfl at_29 rfl e31 rfl rfl rfl (by decide) (by decide) (by decide) (by decide) ?_
      rintro _ T32 L32 X32 ⟨rfl, N32, e32⟩
      have N32 := Fr.app N31 N32
      show Go p e below _ (T32.setTop (mkF m 32 _ [.null, .null]))
      refine own_acmp 35 true X32 hx hby at_32 rfl rfl (by decide) (by decide) (decide_eq_true rfl) ?_
      refine own_iconst 36 (1 : Int32) X32 hx hby at_35 rfl (by decide) ?_
      refine own_goto 40 X32 hx hby at_36 (by decide) (by decide) ?_
      exact own_ret (Q := own_Q1 n0) X32 hx hby hret hlk at_40 rfl (Or.inl ⟨rfl, by simp, _, rfl⟩) (by decide) (by decide) ⟨rfl, N32⟩
    by_cases hc33 : (2 : Int32) = x0
    · refine own_callS (W := 0) 11 (rm1_3 l Z a0 hw [] w_HANDLED w_UNKNOWN_TRANSACTION w_NO_SUCH_OBJECT w_FAILED w_TOO_LARGE w_ALL k_ALL W x0 h0 n0 O0 hc13 hc28 hc33) X0 hx hby hZ hown (own_w hw 0 rfl) (own_w hw 1 rfl) (own_w hw 2 rfl) (own_w hw 3 rfl) (by decide) (by rw [hml]; rfl) [(.int x0)] [] pd_0 rfl at_8 rfl e0 rfl rfl rfl (by decide) (by decide) (by decide) (by decide) ?_
      rintro _ T34 L34 X34 ⟨rfl, N34, e34⟩
      have N34 := Fr.app N0 N34
      show Go p e below _ (T34.setTop (mkF m 11 _ [(.ref w_NO_SUCH_OBJECT)]))
      refine own_astore_n 12 #[oI x0, oI x1, oI (-1 : Int32), oA w_NO_SUCH_OBJECT, oU] X34 hx hby at_11 rfl rfl rfl ?_
      refine own_iload_n 13 X34 hx hby at_12 rfl rfl ?_
      refine own_callS (W := 0) 16 (rm1_6 l Z a0 hw [] w_HANDLED w_UNKNOWN_TRANSACTION w_NO_SUCH_OBJECT w_FAILED w_TOO_LARGE w_ALL k_ALL W (-1 : Int32) h0 n0 O0 (by decide) (by decide) (by decide) (by decide) (by decide)) X34 hx hby hZ hown (own_w hw 0 rfl) (own_w hw 1 rfl) (own_w hw 2 rfl) (own_w hw 3 rfl) (by decide) (by rw [hml]; rfl) [(.int (-1 : Int32))] [] pd_0 rfl at_13 rfl e34 rfl rfl rfl (by decide) (by decide) (by decide) (by decide) ?_
      rintro _ T35 L35 X35 ⟨rfl, N35, e35⟩
      have N35 := Fr.app N34 N35
      show Go p e below _ (T35.setTop (mkF m 16 _ [.null]))
      refine own_astore 18 #[oI x0, oI x1, oI (-1 : Int32), oA w_NO_SUCH_OBJECT, oN] X35 hx hby at_16 rfl rfl rfl ?_
      refine own_aload_n 19 X35 hx hby at_18 rfl rfl rfl ?_
      refine own_iload_n 20 X35 hx hby at_19 rfl rfl ?_
      refine own_callS (W := 1) 23 (rm2_3 l Z a0 hw [] w_HANDLED w_UNKNOWN_TRANSACTION w_NO_SUCH_OBJECT w_FAILED w_TOO_LARGE w_ALL k_ALL W x0 h0 n0 O0 (fun q => hc13 q.symm) (fun q => hc28 q.symm) hc33.symm) X35 hx hby hZ hown (own_w hw 11 rfl) (own_w hw 12 rfl) (own_w hw 13 rfl) (own_w hw 14 rfl) (by decide) (by rw [hml]; rfl) [(.int x0)] [(.ref w_NO_SUCH_OBJECT)] pd_0 rfl at_20 rfl e35 rfl rfl rfl (by decide) (by decide) (by decide) (by decide) ?_
      rintro _ T36 L36 X36 ⟨rfl, N36, e36⟩
      have N36 := Fr.app N35 N36
      show Go p e below _ (T36.setTop (mkF m 23 _ [(.ref w_NO_SUCH_OBJECT), (.ref w_NO_SUCH_OBJECT)]))
      refine own_acmp 26 true X36 hx hby at_23 rfl rfl (by decide) (by decide) (decide_eq_true (congrArg Value.ref rfl)) ?_
      refine own_aload 28 X36 hx hby at_26 rfl rfl rfl ?_
      refine own_iload_n 29 X36 hx hby at_28 rfl rfl ?_
      refine own_callS (W := 1) 32 (rm2_6 l Z a0 hw [] w_HANDLED w_UNKNOWN_TRANSACTION w_NO_SUCH_OBJECT w_FAILED w_TOO_LARGE w_ALL k_ALL W (-1 : Int32) h0 n0 O0 (by decide) (by decide) (by decide) (by decide) (by decide)) X36 hx hby hZ hown (own_w hw 11 rfl) (own_w hw 12 rfl) (own_w hw 13 rfl) (own_w hw 14 rfl) (by decide) (by rw [hml]; rfl) [(.int (-1 : Int32))] [.null] pd_0 rfl at_29 rfl e36 rfl rfl rfl (by decide) (by decide) (by decide) (by decide) ?_
      rintro _ T37 L37 X37 ⟨rfl, N37, e37⟩
      have N37 := Fr.app N36 N37
      show Go p e below _ (T37.setTop (mkF m 32 _ [.null, .null]))
      refine own_acmp 35 true X37 hx hby at_32 rfl rfl (by decide) (by decide) (decide_eq_true rfl) ?_
      refine own_iconst 36 (1 : Int32) X37 hx hby at_35 rfl (by decide) ?_
      refine own_goto 40 X37 hx hby at_36 (by decide) (by decide) ?_
      exact own_ret (Q := own_Q1 n0) X37 hx hby hret hlk at_40 rfl (Or.inl ⟨rfl, by simp, _, rfl⟩) (by decide) (by decide) ⟨rfl, N37⟩
    by_cases hc38 : (3 : Int32) = x0
    · refine own_callS (W := 0) 11 (rm1_4 l Z a0 hw [] w_HANDLED w_UNKNOWN_TRANSACTION w_NO_SUCH_OBJECT w_FAILED w_TOO_LARGE w_ALL k_ALL W x0 h0 n0 O0 hc13 hc28 hc33 hc38) X0 hx hby hZ hown (own_w hw 0 rfl) (own_w hw 1 rfl) (own_w hw 2 rfl) (own_w hw 3 rfl) (by decide) (by rw [hml]; rfl) [(.int x0)] [] pd_0 rfl at_8 rfl e0 rfl rfl rfl (by decide) (by decide) (by decide) (by decide) ?_
      rintro _ T39 L39 X39 ⟨rfl, N39, e39⟩
      have N39 := Fr.app N0 N39
      show Go p e below _ (T39.setTop (mkF m 11 _ [(.ref w_FAILED)]))
      refine own_astore_n 12 #[oI x0, oI x1, oI (-1 : Int32), oA w_FAILED, oU] X39 hx hby at_11 rfl rfl rfl ?_
      refine own_iload_n 13 X39 hx hby at_12 rfl rfl ?_
      refine own_callS (W := 0) 16 (rm1_6 l Z a0 hw [] w_HANDLED w_UNKNOWN_TRANSACTION w_NO_SUCH_OBJECT w_FAILED w_TOO_LARGE w_ALL k_ALL W (-1 : Int32) h0 n0 O0 (by decide) (by decide) (by decide) (by decide) (by decide)) X39 hx hby hZ hown (own_w hw 0 rfl) (own_w hw 1 rfl) (own_w hw 2 rfl) (own_w hw 3 rfl) (by decide) (by rw [hml]; rfl) [(.int (-1 : Int32))] [] pd_0 rfl at_13 rfl e39 rfl rfl rfl (by decide) (by decide) (by decide) (by decide) ?_
      rintro _ T40 L40 X40 ⟨rfl, N40, e40⟩
      have N40 := Fr.app N39 N40
      show Go p e below _ (T40.setTop (mkF m 16 _ [.null]))
      refine own_astore 18 #[oI x0, oI x1, oI (-1 : Int32), oA w_FAILED, oN] X40 hx hby at_16 rfl rfl rfl ?_
      refine own_aload_n 19 X40 hx hby at_18 rfl rfl rfl ?_
      refine own_iload_n 20 X40 hx hby at_19 rfl rfl ?_
      refine own_callS (W := 1) 23 (rm2_4 l Z a0 hw [] w_HANDLED w_UNKNOWN_TRANSACTION w_NO_SUCH_OBJECT w_FAILED w_TOO_LARGE w_ALL k_ALL W x0 h0 n0 O0 (fun q => hc13 q.symm) (fun q => hc28 q.symm) (fun q => hc33 q.symm) hc38.symm) X40 hx hby hZ hown (own_w hw 11 rfl) (own_w hw 12 rfl) (own_w hw 13 rfl) (own_w hw 14 rfl) (by decide) (by rw [hml]; rfl) [(.int x0)] [(.ref w_FAILED)] pd_0 rfl at_20 rfl e40 rfl rfl rfl (by decide) (by decide) (by decide) (by decide) ?_
      rintro _ T41 L41 X41 ⟨rfl, N41, e41⟩
      have N41 := Fr.app N40 N41
      show Go p e below _ (T41.setTop (mkF m 23 _ [(.ref w_FAILED), (.ref w_FAILED)]))
      refine own_acmp 26 true X41 hx hby at_23 rfl rfl (by decide) (by decide) (decide_eq_true (congrArg Value.ref rfl)) ?_
      refine own_aload 28 X41 hx hby at_26 rfl rfl rfl ?_
      refine own_iload_n 29 X41 hx hby at_28 rfl rfl ?_
      refine own_callS (W := 1) 32 (rm2_6 l Z a0 hw [] w_HANDLED w_UNKNOWN_TRANSACTION w_NO_SUCH_OBJECT w_FAILED w_TOO_LARGE w_ALL k_ALL W (-1 : Int32) h0 n0 O0 (by decide) (by decide) (by decide) (by decide) (by decide)) X41 hx hby hZ hown (own_w hw 11 rfl) (own_w hw 12 rfl) (own_w hw 13 rfl) (own_w hw 14 rfl) (by decide) (by rw [hml]; rfl) [(.int (-1 : Int32))] [.null] pd_0 rfl at_29 rfl e41 rfl rfl rfl (by decide) (by decide) (by decide) (by decide) ?_
      rintro _ T42 L42 X42 ⟨rfl, N42, e42⟩
      have N42 := Fr.app N41 N42
      show Go p e below _ (T42.setTop (mkF m 32 _ [.null, .null]))
      refine own_acmp 35 true X42 hx hby at_32 rfl rfl (by decide) (by decide) (decide_eq_true rfl) ?_
      refine own_iconst 36 (1 : Int32) X42 hx hby at_35 rfl (by decide) ?_
      refine own_goto 40 X42 hx hby at_36 (by decide) (by decide) ?_
      exact own_ret (Q := own_Q1 n0) X42 hx hby hret hlk at_40 rfl (Or.inl ⟨rfl, by simp, _, rfl⟩) (by decide) (by decide) ⟨rfl, N42⟩
    by_cases hc43 : (4 : Int32) = x0
    · refine own_callS (W := 0) 11 (rm1_5 l Z a0 hw [] w_HANDLED w_UNKNOWN_TRANSACTION w_NO_SUCH_OBJECT w_FAILED w_TOO_LARGE w_ALL k_ALL W x0 h0 n0 O0 hc13 hc28 hc33 hc38 hc43) X0 hx hby hZ hown (own_w hw 0 rfl) (own_w hw 1 rfl) (own_w hw 2 rfl) (own_w hw 3 rfl) (by decide) (by rw [hml]; rfl) [(.int x0)] [] pd_0 rfl at_8 rfl e0 rfl rfl rfl (by decide) (by decide) (by decide) (by decide) ?_
      rintro _ T44 L44 X44 ⟨rfl, N44, e44⟩
      have N44 := Fr.app N0 N44
      show Go p e below _ (T44.setTop (mkF m 11 _ [(.ref w_TOO_LARGE)]))
      refine own_astore_n 12 #[oI x0, oI x1, oI (-1 : Int32), oA w_TOO_LARGE, oU] X44 hx hby at_11 rfl rfl rfl ?_
      refine own_iload_n 13 X44 hx hby at_12 rfl rfl ?_
      refine own_callS (W := 0) 16 (rm1_6 l Z a0 hw [] w_HANDLED w_UNKNOWN_TRANSACTION w_NO_SUCH_OBJECT w_FAILED w_TOO_LARGE w_ALL k_ALL W (-1 : Int32) h0 n0 O0 (by decide) (by decide) (by decide) (by decide) (by decide)) X44 hx hby hZ hown (own_w hw 0 rfl) (own_w hw 1 rfl) (own_w hw 2 rfl) (own_w hw 3 rfl) (by decide) (by rw [hml]; rfl) [(.int (-1 : Int32))] [] pd_0 rfl at_13 rfl e44 rfl rfl rfl (by decide) (by decide) (by decide) (by decide) ?_
      rintro _ T45 L45 X45 ⟨rfl, N45, e45⟩
      have N45 := Fr.app N44 N45
      show Go p e below _ (T45.setTop (mkF m 16 _ [.null]))
      refine own_astore 18 #[oI x0, oI x1, oI (-1 : Int32), oA w_TOO_LARGE, oN] X45 hx hby at_16 rfl rfl rfl ?_
      refine own_aload_n 19 X45 hx hby at_18 rfl rfl rfl ?_
      refine own_iload_n 20 X45 hx hby at_19 rfl rfl ?_
      refine own_callS (W := 1) 23 (rm2_5 l Z a0 hw [] w_HANDLED w_UNKNOWN_TRANSACTION w_NO_SUCH_OBJECT w_FAILED w_TOO_LARGE w_ALL k_ALL W x0 h0 n0 O0 (fun q => hc13 q.symm) (fun q => hc28 q.symm) (fun q => hc33 q.symm) (fun q => hc38 q.symm) hc43.symm) X45 hx hby hZ hown (own_w hw 11 rfl) (own_w hw 12 rfl) (own_w hw 13 rfl) (own_w hw 14 rfl) (by decide) (by rw [hml]; rfl) [(.int x0)] [(.ref w_TOO_LARGE)] pd_0 rfl at_20 rfl e45 rfl rfl rfl (by decide) (by decide) (by decide) (by decide) ?_
      rintro _ T46 L46 X46 ⟨rfl, N46, e46⟩
      have N46 := Fr.app N45 N46
      show Go p e below _ (T46.setTop (mkF m 23 _ [(.ref w_TOO_LARGE), (.ref w_TOO_LARGE)]))
      refine own_acmp 26 true X46 hx hby at_23 rfl rfl (by decide) (by decide) (decide_eq_true (congrArg Value.ref rfl)) ?_
      refine own_aload 28 X46 hx hby at_26 rfl rfl rfl ?_
      refine own_iload_n 29 X46 hx hby at_28 rfl rfl ?_
      refine own_callS (W := 1) 32 (rm2_6 l Z a0 hw [] w_HANDLED w_UNKNOWN_TRANSACTION w_NO_SUCH_OBJECT w_FAILED w_TOO_LARGE w_ALL k_ALL W (-1 : Int32) h0 n0 O0 (by decide) (by decide) (by decide) (by decide) (by decide)) X46 hx hby hZ hown (own_w hw 11 rfl) (own_w hw 12 rfl) (own_w hw 13 rfl) (own_w hw 14 rfl) (by decide) (by rw [hml]; rfl) [(.int (-1 : Int32))] [.null] pd_0 rfl at_29 rfl e46 rfl rfl rfl (by decide) (by decide) (by decide) (by decide) ?_
      rintro _ T47 L47 X47 ⟨rfl, N47, e47⟩
      have N47 := Fr.app N46 N47
      show Go p e below _ (T47.setTop (mkF m 32 _ [.null, .null]))
      refine own_acmp 35 true X47 hx hby at_32 rfl rfl (by decide) (by decide) (decide_eq_true rfl) ?_
      refine own_iconst 36 (1 : Int32) X47 hx hby at_35 rfl (by decide) ?_
      refine own_goto 40 X47 hx hby at_36 (by decide) (by decide) ?_
      exact own_ret (Q := own_Q1 n0) X47 hx hby hret hlk at_40 rfl (Or.inl ⟨rfl, by simp, _, rfl⟩) (by decide) (by decide) ⟨rfl, N47⟩
    refine own_callS (W := 0) 11 (rm1_6 l Z a0 hw [] w_HANDLED w_UNKNOWN_TRANSACTION w_NO_SUCH_OBJECT w_FAILED w_TOO_LARGE w_ALL k_ALL W x0 h0 n0 O0 hc13 hc28 hc33 hc38 hc43) X0 hx hby hZ hown (own_w hw 0 rfl) (own_w hw 1 rfl) (own_w hw 2 rfl) (own_w hw 3 rfl) (by decide) (by rw [hml]; rfl) [(.int x0)] [] pd_0 rfl at_8 rfl e0 rfl rfl rfl (by decide) (by decide) (by decide) (by decide) ?_
    rintro _ T48 L48 X48 ⟨rfl, N48, e48⟩
    have N48 := Fr.app N0 N48
    show Go p e below _ (T48.setTop (mkF m 11 _ [.null]))
    refine own_astore_n 12 #[oI x0, oI x1, oI (-1 : Int32), oN, oU] X48 hx hby at_11 rfl rfl rfl ?_
    refine own_iload_n 13 X48 hx hby at_12 rfl rfl ?_
    refine own_callS (W := 0) 16 (rm1_6 l Z a0 hw [] w_HANDLED w_UNKNOWN_TRANSACTION w_NO_SUCH_OBJECT w_FAILED w_TOO_LARGE w_ALL k_ALL W (-1 : Int32) h0 n0 O0 (by decide) (by decide) (by decide) (by decide) (by decide)) X48 hx hby hZ hown (own_w hw 0 rfl) (own_w hw 1 rfl) (own_w hw 2 rfl) (own_w hw 3 rfl) (by decide) (by rw [hml]; rfl) [(.int (-1 : Int32))] [] pd_0 rfl at_13 rfl e48 rfl rfl rfl (by decide) (by decide) (by decide) (by decide) ?_
    rintro _ T49 L49 X49 ⟨rfl, N49, e49⟩
    have N49 := Fr.app N48 N49
    show Go p e below _ (T49.setTop (mkF m 16 _ [.null]))
    refine own_astore 18 #[oI x0, oI x1, oI (-1 : Int32), oN, oN] X49 hx hby at_16 rfl rfl rfl ?_
    refine own_aload_n 19 X49 hx hby at_18 rfl rfl rfl ?_
    refine own_iload_n 20 X49 hx hby at_19 rfl rfl ?_
    refine own_callS (W := 1) 23 (rm2_6 l Z a0 hw [] w_HANDLED w_UNKNOWN_TRANSACTION w_NO_SUCH_OBJECT w_FAILED w_TOO_LARGE w_ALL k_ALL W x0 h0 n0 O0 (fun q => hc13 q.symm) (fun q => hc28 q.symm) (fun q => hc33 q.symm) (fun q => hc38 q.symm) (fun q => hc43 q.symm)) X49 hx hby hZ hown (own_w hw 11 rfl) (own_w hw 12 rfl) (own_w hw 13 rfl) (own_w hw 14 rfl) (by decide) (by rw [hml]; rfl) [(.int x0)] [.null] pd_0 rfl at_20 rfl e49 rfl rfl rfl (by decide) (by decide) (by decide) (by decide) ?_
    rintro _ T50 L50 X50 ⟨rfl, N50, e50⟩
    have N50 := Fr.app N49 N50
    show Go p e below _ (T50.setTop (mkF m 23 _ [.null, .null]))
    refine own_acmp 26 true X50 hx hby at_23 rfl rfl (by decide) (by decide) (decide_eq_true rfl) ?_
    refine own_aload 28 X50 hx hby at_26 rfl rfl rfl ?_
    refine own_iload_n 29 X50 hx hby at_28 rfl rfl ?_
    refine own_callS (W := 1) 32 (rm2_6 l Z a0 hw [] w_HANDLED w_UNKNOWN_TRANSACTION w_NO_SUCH_OBJECT w_FAILED w_TOO_LARGE w_ALL k_ALL W (-1 : Int32) h0 n0 O0 (by decide) (by decide) (by decide) (by decide) (by decide)) X50 hx hby hZ hown (own_w hw 11 rfl) (own_w hw 12 rfl) (own_w hw 13 rfl) (own_w hw 14 rfl) (by decide) (by rw [hml]; rfl) [(.int (-1 : Int32))] [.null] pd_0 rfl at_29 rfl e50 rfl rfl rfl (by decide) (by decide) (by decide) (by decide) ?_
    rintro _ T51 L51 X51 ⟨rfl, N51, e51⟩
    have N51 := Fr.app N50 N51
    show Go p e below _ (T51.setTop (mkF m 32 _ [.null, .null]))
    refine own_acmp 35 true X51 hx hby at_32 rfl rfl (by decide) (by decide) (decide_eq_true rfl) ?_
    refine own_iconst 36 (1 : Int32) X51 hx hby at_35 rfl (by decide) ?_
    refine own_goto 40 X51 hx hby at_36 (by decide) (by decide) ?_
    exact own_ret (Q := own_Q1 n0) X51 hx hby hret hlk at_40 rfl (Or.inl ⟨rfl, by simp, _, rfl⟩) (by decide) (by decide) ⟨rfl, N51⟩
  · refine own_iand 4 (1 : Int32) X0 hx hby at_3 rfl hv1 ?_
    refine own_iconst 5 (1 : Int32) X0 hx hby at_4 rfl (by decide) ?_
    refine own_isub 6 (0 : Int32) X0 hx hby at_5 rfl (by decide) ?_
    refine own_istore_n 7 #[oI x0, oI x1, oI (0 : Int32), oU, oU] X0 hx hby at_6 rfl rfl ?_
    refine own_iload_n 8 X0 hx hby at_7 rfl rfl ?_
    by_cases hc52 : (0 : Int32) = x0
    · refine own_callS (W := 0) 11 (rm1_1 l Z a0 hw [] w_HANDLED w_UNKNOWN_TRANSACTION w_NO_SUCH_OBJECT w_FAILED w_TOO_LARGE w_ALL k_ALL W x0 h0 n0 O0 hc52) X0 hx hby hZ hown (own_w hw 0 rfl) (own_w hw 1 rfl) (own_w hw 2 rfl) (own_w hw 3 rfl) (by decide) (by rw [hml]; rfl) [(.int x0)] [] pd_0 rfl at_8 rfl e0 rfl rfl rfl (by decide) (by decide) (by decide) (by decide) ?_
      rintro _ T53 L53 X53 ⟨rfl, N53, e53⟩
      have N53 := Fr.app N0 N53
      show Go p e below _ (T53.setTop (mkF m 11 _ [(.ref w_HANDLED)]))
      refine own_astore_n 12 #[oI x0, oI x1, oI (0 : Int32), oA w_HANDLED, oU] X53 hx hby at_11 rfl rfl rfl ?_
      refine own_iload_n 13 X53 hx hby at_12 rfl rfl ?_
      refine own_callS (W := 0) 16 (rm1_1 l Z a0 hw [] w_HANDLED w_UNKNOWN_TRANSACTION w_NO_SUCH_OBJECT w_FAILED w_TOO_LARGE w_ALL k_ALL W (0 : Int32) h0 n0 O0 (by decide)) X53 hx hby hZ hown (own_w hw 0 rfl) (own_w hw 1 rfl) (own_w hw 2 rfl) (own_w hw 3 rfl) (by decide) (by rw [hml]; rfl) [(.int (0 : Int32))] [] pd_0 rfl at_13 rfl e53 rfl rfl rfl (by decide) (by decide) (by decide) (by decide) ?_
      rintro _ T54 L54 X54 ⟨rfl, N54, e54⟩
      have N54 := Fr.app N53 N54
      show Go p e below _ (T54.setTop (mkF m 16 _ [(.ref w_HANDLED)]))
      refine own_astore 18 #[oI x0, oI x1, oI (0 : Int32), oA w_HANDLED, oA w_HANDLED] X54 hx hby at_16 rfl rfl rfl ?_
      refine own_aload_n 19 X54 hx hby at_18 rfl rfl rfl ?_
      refine own_iload_n 20 X54 hx hby at_19 rfl rfl ?_
      refine own_callS (W := 1) 23 (rm2_1 l Z a0 hw [] w_HANDLED w_UNKNOWN_TRANSACTION w_NO_SUCH_OBJECT w_FAILED w_TOO_LARGE w_ALL k_ALL W x0 h0 n0 O0 hc52.symm) X54 hx hby hZ hown (own_w hw 11 rfl) (own_w hw 12 rfl) (own_w hw 13 rfl) (own_w hw 14 rfl) (by decide) (by rw [hml]; rfl) [(.int x0)] [(.ref w_HANDLED)] pd_0 rfl at_20 rfl e54 rfl rfl rfl (by decide) (by decide) (by decide) (by decide) ?_
      rintro _ T55 L55 X55 ⟨rfl, N55, e55⟩
      have N55 := Fr.app N54 N55
      show Go p e below _ (T55.setTop (mkF m 23 _ [(.ref w_HANDLED), (.ref w_HANDLED)]))
      refine own_acmp 26 true X55 hx hby at_23 rfl rfl (by decide) (by decide) (decide_eq_true (congrArg Value.ref rfl)) ?_
      refine own_aload 28 X55 hx hby at_26 rfl rfl rfl ?_
      refine own_iload_n 29 X55 hx hby at_28 rfl rfl ?_
      refine own_callS (W := 1) 32 (rm2_1 l Z a0 hw [] w_HANDLED w_UNKNOWN_TRANSACTION w_NO_SUCH_OBJECT w_FAILED w_TOO_LARGE w_ALL k_ALL W (0 : Int32) h0 n0 O0 (by decide)) X55 hx hby hZ hown (own_w hw 11 rfl) (own_w hw 12 rfl) (own_w hw 13 rfl) (own_w hw 14 rfl) (by decide) (by rw [hml]; rfl) [(.int (0 : Int32))] [(.ref w_HANDLED)] pd_0 rfl at_29 rfl e55 rfl rfl rfl (by decide) (by decide) (by decide) (by decide) ?_
      rintro _ T56 L56 X56 ⟨rfl, N56, e56⟩
      have N56 := Fr.app N55 N56
      show Go p e below _ (T56.setTop (mkF m 32 _ [(.ref w_HANDLED), (.ref w_HANDLED)]))
      refine own_acmp 35 true X56 hx hby at_32 rfl rfl (by decide) (by decide) (decide_eq_true (congrArg Value.ref rfl)) ?_
      refine own_iconst 36 (1 : Int32) X56 hx hby at_35 rfl (by decide) ?_
      refine own_goto 40 X56 hx hby at_36 (by decide) (by decide) ?_
      exact own_ret (Q := own_Q1 n0) X56 hx hby hret hlk at_40 rfl (Or.inl ⟨rfl, by simp, _, rfl⟩) (by decide) (by decide) ⟨rfl, N56⟩
    by_cases hc57 : (1 : Int32) = x0
    · refine own_callS (W := 0) 11 (rm1_2 l Z a0 hw [] w_HANDLED w_UNKNOWN_TRANSACTION w_NO_SUCH_OBJECT w_FAILED w_TOO_LARGE w_ALL k_ALL W x0 h0 n0 O0 hc52 hc57) X0 hx hby hZ hown (own_w hw 0 rfl) (own_w hw 1 rfl) (own_w hw 2 rfl) (own_w hw 3 rfl) (by decide) (by rw [hml]; rfl) [(.int x0)] [] pd_0 rfl at_8 rfl e0 rfl rfl rfl (by decide) (by decide) (by decide) (by decide) ?_
      rintro _ T58 L58 X58 ⟨rfl, N58, e58⟩
      have N58 := Fr.app N0 N58
      show Go p e below _ (T58.setTop (mkF m 11 _ [(.ref w_UNKNOWN_TRANSACTION)]))
      refine own_astore_n 12 #[oI x0, oI x1, oI (0 : Int32), oA w_UNKNOWN_TRANSACTION, oU] X58 hx hby at_11 rfl rfl rfl ?_
      refine own_iload_n 13 X58 hx hby at_12 rfl rfl ?_
      refine own_callS (W := 0) 16 (rm1_1 l Z a0 hw [] w_HANDLED w_UNKNOWN_TRANSACTION w_NO_SUCH_OBJECT w_FAILED w_TOO_LARGE w_ALL k_ALL W (0 : Int32) h0 n0 O0 (by decide)) X58 hx hby hZ hown (own_w hw 0 rfl) (own_w hw 1 rfl) (own_w hw 2 rfl) (own_w hw 3 rfl) (by decide) (by rw [hml]; rfl) [(.int (0 : Int32))] [] pd_0 rfl at_13 rfl e58 rfl rfl rfl (by decide) (by decide) (by decide) (by decide) ?_
      rintro _ T59 L59 X59 ⟨rfl, N59, e59⟩
      have N59 := Fr.app N58 N59
      show Go p e below _ (T59.setTop (mkF m 16 _ [(.ref w_HANDLED)]))
      refine own_astore 18 #[oI x0, oI x1, oI (0 : Int32), oA w_UNKNOWN_TRANSACTION, oA w_HANDLED] X59 hx hby at_16 rfl rfl rfl ?_
      refine own_aload_n 19 X59 hx hby at_18 rfl rfl rfl ?_
      refine own_iload_n 20 X59 hx hby at_19 rfl rfl ?_
      refine own_callS (W := 1) 23 (rm2_2 l Z a0 hw [] w_HANDLED w_UNKNOWN_TRANSACTION w_NO_SUCH_OBJECT w_FAILED w_TOO_LARGE w_ALL k_ALL W x0 h0 n0 O0 (fun q => hc52 q.symm) hc57.symm) X59 hx hby hZ hown (own_w hw 11 rfl) (own_w hw 12 rfl) (own_w hw 13 rfl) (own_w hw 14 rfl) (by decide) (by rw [hml]; rfl) [(.int x0)] [(.ref w_UNKNOWN_TRANSACTION)] pd_0 rfl at_20 rfl e59 rfl rfl rfl (by decide) (by decide) (by decide) (by decide) ?_
      rintro _ T60 L60 X60 ⟨rfl, N60, e60⟩
      have N60 := Fr.app N59 N60
      show Go p e below _ (T60.setTop (mkF m 23 _ [(.ref w_UNKNOWN_TRANSACTION), (.ref w_UNKNOWN_TRANSACTION)]))
      refine own_acmp 26 true X60 hx hby at_23 rfl rfl (by decide) (by decide) (decide_eq_true (congrArg Value.ref rfl)) ?_
      refine own_aload 28 X60 hx hby at_26 rfl rfl rfl ?_
      refine own_iload_n 29 X60 hx hby at_28 rfl rfl ?_
      refine own_callS (W := 1) 32 (rm2_1 l Z a0 hw [] w_HANDLED w_UNKNOWN_TRANSACTION w_NO_SUCH_OBJECT w_FAILED w_TOO_LARGE w_ALL k_ALL W (0 : Int32) h0 n0 O0 (by decide)) X60 hx hby hZ hown (own_w hw 11 rfl) (own_w hw 12 rfl) (own_w hw 13 rfl) (own_w hw 14 rfl) (by decide) (by rw [hml]; rfl) [(.int (0 : Int32))] [(.ref w_HANDLED)] pd_0 rfl at_29 rfl e60 rfl rfl rfl (by decide) (by decide) (by decide) (by decide) ?_
      rintro _ T61 L61 X61 ⟨rfl, N61, e61⟩
      have N61 := Fr.app N60 N61
      show Go p e below _ (T61.setTop (mkF m 32 _ [(.ref w_HANDLED), (.ref w_HANDLED)]))
      refine own_acmp 35 true X61 hx hby at_32 rfl rfl (by decide) (by decide) (decide_eq_true (congrArg Value.ref rfl)) ?_
      refine own_iconst 36 (1 : Int32) X61 hx hby at_35 rfl (by decide) ?_
      refine own_goto 40 X61 hx hby at_36 (by decide) (by decide) ?_
      exact own_ret (Q := own_Q1 n0) X61 hx hby hret hlk at_40 rfl (Or.inl ⟨rfl, by simp, _, rfl⟩) (by decide) (by decide) ⟨rfl, N61⟩
    by_cases hc62 : (2 : Int32) = x0
    · refine own_callS (W := 0) 11 (rm1_3 l Z a0 hw [] w_HANDLED w_UNKNOWN_TRANSACTION w_NO_SUCH_OBJECT w_FAILED w_TOO_LARGE w_ALL k_ALL W x0 h0 n0 O0 hc52 hc57 hc62) X0 hx hby hZ hown (own_w hw 0 rfl) (own_w hw 1 rfl) (own_w hw 2 rfl) (own_w hw 3 rfl) (by decide) (by rw [hml]; rfl) [(.int x0)] [] pd_0 rfl at_8 rfl e0 rfl rfl rfl (by decide) (by decide) (by decide) (by decide) ?_
      rintro _ T63 L63 X63 ⟨rfl, N63, e63⟩
      have N63 := Fr.app N0 N63
      show Go p e below _ (T63.setTop (mkF m 11 _ [(.ref w_NO_SUCH_OBJECT)]))
      refine own_astore_n 12 #[oI x0, oI x1, oI (0 : Int32), oA w_NO_SUCH_OBJECT, oU] X63 hx hby at_11 rfl rfl rfl ?_
      refine own_iload_n 13 X63 hx hby at_12 rfl rfl ?_
      refine own_callS (W := 0) 16 (rm1_1 l Z a0 hw [] w_HANDLED w_UNKNOWN_TRANSACTION w_NO_SUCH_OBJECT w_FAILED w_TOO_LARGE w_ALL k_ALL W (0 : Int32) h0 n0 O0 (by decide)) X63 hx hby hZ hown (own_w hw 0 rfl) (own_w hw 1 rfl) (own_w hw 2 rfl) (own_w hw 3 rfl) (by decide) (by rw [hml]; rfl) [(.int (0 : Int32))] [] pd_0 rfl at_13 rfl e63 rfl rfl rfl (by decide) (by decide) (by decide) (by decide) ?_
      rintro _ T64 L64 X64 ⟨rfl, N64, e64⟩
      have N64 := Fr.app N63 N64
      show Go p e below _ (T64.setTop (mkF m 16 _ [(.ref w_HANDLED)]))
      refine own_astore 18 #[oI x0, oI x1, oI (0 : Int32), oA w_NO_SUCH_OBJECT, oA w_HANDLED] X64 hx hby at_16 rfl rfl rfl ?_
      refine own_aload_n 19 X64 hx hby at_18 rfl rfl rfl ?_
      refine own_iload_n 20 X64 hx hby at_19 rfl rfl ?_
      refine own_callS (W := 1) 23 (rm2_3 l Z a0 hw [] w_HANDLED w_UNKNOWN_TRANSACTION w_NO_SUCH_OBJECT w_FAILED w_TOO_LARGE w_ALL k_ALL W x0 h0 n0 O0 (fun q => hc52 q.symm) (fun q => hc57 q.symm) hc62.symm) X64 hx hby hZ hown (own_w hw 11 rfl) (own_w hw 12 rfl) (own_w hw 13 rfl) (own_w hw 14 rfl) (by decide) (by rw [hml]; rfl) [(.int x0)] [(.ref w_NO_SUCH_OBJECT)] pd_0 rfl at_20 rfl e64 rfl rfl rfl (by decide) (by decide) (by decide) (by decide) ?_
      rintro _ T65 L65 X65 ⟨rfl, N65, e65⟩
      have N65 := Fr.app N64 N65
      show Go p e below _ (T65.setTop (mkF m 23 _ [(.ref w_NO_SUCH_OBJECT), (.ref w_NO_SUCH_OBJECT)]))
      refine own_acmp 26 true X65 hx hby at_23 rfl rfl (by decide) (by decide) (decide_eq_true (congrArg Value.ref rfl)) ?_
      refine own_aload 28 X65 hx hby at_26 rfl rfl rfl ?_
      refine own_iload_n 29 X65 hx hby at_28 rfl rfl ?_
      refine own_callS (W := 1) 32 (rm2_1 l Z a0 hw [] w_HANDLED w_UNKNOWN_TRANSACTION w_NO_SUCH_OBJECT w_FAILED w_TOO_LARGE w_ALL k_ALL W (0 : Int32) h0 n0 O0 (by decide)) X65 hx hby hZ hown (own_w hw 11 rfl) (own_w hw 12 rfl) (own_w hw 13 rfl) (own_w hw 14 rfl) (by decide) (by rw [hml]; rfl) [(.int (0 : Int32))] [(.ref w_HANDLED)] pd_0 rfl at_29 rfl e65 rfl rfl rfl (by decide) (by decide) (by decide) (by decide) ?_
      rintro _ T66 L66 X66 ⟨rfl, N66, e66⟩
      have N66 := Fr.app N65 N66
      show Go p e below _ (T66.setTop (mkF m 32 _ [(.ref w_HANDLED), (.ref w_HANDLED)]))
      refine own_acmp 35 true X66 hx hby at_32 rfl rfl (by decide) (by decide) (decide_eq_true (congrArg Value.ref rfl)) ?_
      refine own_iconst 36 (1 : Int32) X66 hx hby at_35 rfl (by decide) ?_
      refine own_goto 40 X66 hx hby at_36 (by decide) (by decide) ?_
      exact own_ret (Q := own_Q1 n0) X66 hx hby hret hlk at_40 rfl (Or.inl ⟨rfl, by simp, _, rfl⟩) (by decide) (by decide) ⟨rfl, N66⟩
    by_cases hc67 : (3 : Int32) = x0
    · refine own_callS (W := 0) 11 (rm1_4 l Z a0 hw [] w_HANDLED w_UNKNOWN_TRANSACTION w_NO_SUCH_OBJECT w_FAILED w_TOO_LARGE w_ALL k_ALL W x0 h0 n0 O0 hc52 hc57 hc62 hc67) X0 hx hby hZ hown (own_w hw 0 rfl) (own_w hw 1 rfl) (own_w hw 2 rfl) (own_w hw 3 rfl) (by decide) (by rw [hml]; rfl) [(.int x0)] [] pd_0 rfl at_8 rfl e0 rfl rfl rfl (by decide) (by decide) (by decide) (by decide) ?_
      rintro _ T68 L68 X68 ⟨rfl, N68, e68⟩
      have N68 := Fr.app N0 N68
      show Go p e below _ (T68.setTop (mkF m 11 _ [(.ref w_FAILED)]))
      refine own_astore_n 12 #[oI x0, oI x1, oI (0 : Int32), oA w_FAILED, oU] X68 hx hby at_11 rfl rfl rfl ?_
      refine own_iload_n 13 X68 hx hby at_12 rfl rfl ?_
      refine own_callS (W := 0) 16 (rm1_1 l Z a0 hw [] w_HANDLED w_UNKNOWN_TRANSACTION w_NO_SUCH_OBJECT w_FAILED w_TOO_LARGE w_ALL k_ALL W (0 : Int32) h0 n0 O0 (by decide)) X68 hx hby hZ hown (own_w hw 0 rfl) (own_w hw 1 rfl) (own_w hw 2 rfl) (own_w hw 3 rfl) (by decide) (by rw [hml]; rfl) [(.int (0 : Int32))] [] pd_0 rfl at_13 rfl e68 rfl rfl rfl (by decide) (by decide) (by decide) (by decide) ?_
      rintro _ T69 L69 X69 ⟨rfl, N69, e69⟩
      have N69 := Fr.app N68 N69
      show Go p e below _ (T69.setTop (mkF m 16 _ [(.ref w_HANDLED)]))
      refine own_astore 18 #[oI x0, oI x1, oI (0 : Int32), oA w_FAILED, oA w_HANDLED] X69 hx hby at_16 rfl rfl rfl ?_
      refine own_aload_n 19 X69 hx hby at_18 rfl rfl rfl ?_
      refine own_iload_n 20 X69 hx hby at_19 rfl rfl ?_
      refine own_callS (W := 1) 23 (rm2_4 l Z a0 hw [] w_HANDLED w_UNKNOWN_TRANSACTION w_NO_SUCH_OBJECT w_FAILED w_TOO_LARGE w_ALL k_ALL W x0 h0 n0 O0 (fun q => hc52 q.symm) (fun q => hc57 q.symm) (fun q => hc62 q.symm) hc67.symm) X69 hx hby hZ hown (own_w hw 11 rfl) (own_w hw 12 rfl) (own_w hw 13 rfl) (own_w hw 14 rfl) (by decide) (by rw [hml]; rfl) [(.int x0)] [(.ref w_FAILED)] pd_0 rfl at_20 rfl e69 rfl rfl rfl (by decide) (by decide) (by decide) (by decide) ?_
      rintro _ T70 L70 X70 ⟨rfl, N70, e70⟩
      have N70 := Fr.app N69 N70
      show Go p e below _ (T70.setTop (mkF m 23 _ [(.ref w_FAILED), (.ref w_FAILED)]))
      refine own_acmp 26 true X70 hx hby at_23 rfl rfl (by decide) (by decide) (decide_eq_true (congrArg Value.ref rfl)) ?_
      refine own_aload 28 X70 hx hby at_26 rfl rfl rfl ?_
      refine own_iload_n 29 X70 hx hby at_28 rfl rfl ?_
      refine own_callS (W := 1) 32 (rm2_1 l Z a0 hw [] w_HANDLED w_UNKNOWN_TRANSACTION w_NO_SUCH_OBJECT w_FAILED w_TOO_LARGE w_ALL k_ALL W (0 : Int32) h0 n0 O0 (by decide)) X70 hx hby hZ hown (own_w hw 11 rfl) (own_w hw 12 rfl) (own_w hw 13 rfl) (own_w hw 14 rfl) (by decide) (by rw [hml]; rfl) [(.int (0 : Int32))] [(.ref w_HANDLED)] pd_0 rfl at_29 rfl e70 rfl rfl rfl (by decide) (by decide) (by decide) (by decide) ?_
      rintro _ T71 L71 X71 ⟨rfl, N71, e71⟩
      have N71 := Fr.app N70 N71
      show Go p e below _ (T71.setTop (mkF m 32 _ [(.ref w_HANDLED), (.ref w_HANDLED)]))
      refine own_acmp 35 true X71 hx hby at_32 rfl rfl (by decide) (by decide) (decide_eq_true (congrArg Value.ref rfl)) ?_
      refine own_iconst 36 (1 : Int32) X71 hx hby at_35 rfl (by decide) ?_
      refine own_goto 40 X71 hx hby at_36 (by decide) (by decide) ?_
      exact own_ret (Q := own_Q1 n0) X71 hx hby hret hlk at_40 rfl (Or.inl ⟨rfl, by simp, _, rfl⟩) (by decide) (by decide) ⟨rfl, N71⟩
    by_cases hc72 : (4 : Int32) = x0
    · refine own_callS (W := 0) 11 (rm1_5 l Z a0 hw [] w_HANDLED w_UNKNOWN_TRANSACTION w_NO_SUCH_OBJECT w_FAILED w_TOO_LARGE w_ALL k_ALL W x0 h0 n0 O0 hc52 hc57 hc62 hc67 hc72) X0 hx hby hZ hown (own_w hw 0 rfl) (own_w hw 1 rfl) (own_w hw 2 rfl) (own_w hw 3 rfl) (by decide) (by rw [hml]; rfl) [(.int x0)] [] pd_0 rfl at_8 rfl e0 rfl rfl rfl (by decide) (by decide) (by decide) (by decide) ?_
      rintro _ T73 L73 X73 ⟨rfl, N73, e73⟩
      have N73 := Fr.app N0 N73
      show Go p e below _ (T73.setTop (mkF m 11 _ [(.ref w_TOO_LARGE)]))
      refine own_astore_n 12 #[oI x0, oI x1, oI (0 : Int32), oA w_TOO_LARGE, oU] X73 hx hby at_11 rfl rfl rfl ?_
      refine own_iload_n 13 X73 hx hby at_12 rfl rfl ?_
      refine own_callS (W := 0) 16 (rm1_1 l Z a0 hw [] w_HANDLED w_UNKNOWN_TRANSACTION w_NO_SUCH_OBJECT w_FAILED w_TOO_LARGE w_ALL k_ALL W (0 : Int32) h0 n0 O0 (by decide)) X73 hx hby hZ hown (own_w hw 0 rfl) (own_w hw 1 rfl) (own_w hw 2 rfl) (own_w hw 3 rfl) (by decide) (by rw [hml]; rfl) [(.int (0 : Int32))] [] pd_0 rfl at_13 rfl e73 rfl rfl rfl (by decide) (by decide) (by decide) (by decide) ?_
      rintro _ T74 L74 X74 ⟨rfl, N74, e74⟩
      have N74 := Fr.app N73 N74
      show Go p e below _ (T74.setTop (mkF m 16 _ [(.ref w_HANDLED)]))
      refine own_astore 18 #[oI x0, oI x1, oI (0 : Int32), oA w_TOO_LARGE, oA w_HANDLED] X74 hx hby at_16 rfl rfl rfl ?_
      refine own_aload_n 19 X74 hx hby at_18 rfl rfl rfl ?_
      refine own_iload_n 20 X74 hx hby at_19 rfl rfl ?_
      refine own_callS (W := 1) 23 (rm2_5 l Z a0 hw [] w_HANDLED w_UNKNOWN_TRANSACTION w_NO_SUCH_OBJECT w_FAILED w_TOO_LARGE w_ALL k_ALL W x0 h0 n0 O0 (fun q => hc52 q.symm) (fun q => hc57 q.symm) (fun q => hc62 q.symm) (fun q => hc67 q.symm) hc72.symm) X74 hx hby hZ hown (own_w hw 11 rfl) (own_w hw 12 rfl) (own_w hw 13 rfl) (own_w hw 14 rfl) (by decide) (by rw [hml]; rfl) [(.int x0)] [(.ref w_TOO_LARGE)] pd_0 rfl at_20 rfl e74 rfl rfl rfl (by decide) (by decide) (by decide) (by decide) ?_
      rintro _ T75 L75 X75 ⟨rfl, N75, e75⟩
      have N75 := Fr.app N74 N75
      show Go p e below _ (T75.setTop (mkF m 23 _ [(.ref w_TOO_LARGE), (.ref w_TOO_LARGE)]))
      refine own_acmp 26 true X75 hx hby at_23 rfl rfl (by decide) (by decide) (decide_eq_true (congrArg Value.ref rfl)) ?_
      refine own_aload 28 X75 hx hby at_26 rfl rfl rfl ?_
      refine own_iload_n 29 X75 hx hby at_28 rfl rfl ?_
      refine own_callS (W := 1) 32 (rm2_1 l Z a0 hw [] w_HANDLED w_UNKNOWN_TRANSACTION w_NO_SUCH_OBJECT w_FAILED w_TOO_LARGE w_ALL k_ALL W (0 : Int32) h0 n0 O0 (by decide)) X75 hx hby hZ hown (own_w hw 11 rfl) (own_w hw 12 rfl) (own_w hw 13 rfl) (own_w hw 14 rfl) (by decide) (by rw [hml]; rfl) [(.int (0 : Int32))] [(.ref w_HANDLED)] pd_0 rfl at_29 rfl e75 rfl rfl rfl (by decide) (by decide) (by decide) (by decide) ?_
      rintro _ T76 L76 X76 ⟨rfl, N76, e76⟩
      have N76 := Fr.app N75 N76
      show Go p e below _ (T76.setTop (mkF m 32 _ [(.ref w_HANDLED), (.ref w_HANDLED)]))
      refine own_acmp 35 true X76 hx hby at_32 rfl rfl (by decide) (by decide) (decide_eq_true (congrArg Value.ref rfl)) ?_
      refine own_iconst 36 (1 : Int32) X76 hx hby at_35 rfl (by decide) ?_
      refine own_goto 40 X76 hx hby at_36 (by decide) (by decide) ?_
      exact own_ret (Q := own_Q1 n0) X76 hx hby hret hlk at_40 rfl (Or.inl ⟨rfl, by simp, _, rfl⟩) (by decide) (by decide) ⟨rfl, N76⟩
    refine own_callS (W := 0) 11 (rm1_6 l Z a0 hw [] w_HANDLED w_UNKNOWN_TRANSACTION w_NO_SUCH_OBJECT w_FAILED w_TOO_LARGE w_ALL k_ALL W x0 h0 n0 O0 hc52 hc57 hc62 hc67 hc72) X0 hx hby hZ hown (own_w hw 0 rfl) (own_w hw 1 rfl) (own_w hw 2 rfl) (own_w hw 3 rfl) (by decide) (by rw [hml]; rfl) [(.int x0)] [] pd_0 rfl at_8 rfl e0 rfl rfl rfl (by decide) (by decide) (by decide) (by decide) ?_
    rintro _ T77 L77 X77 ⟨rfl, N77, e77⟩
    have N77 := Fr.app N0 N77
    show Go p e below _ (T77.setTop (mkF m 11 _ [.null]))
    refine own_astore_n 12 #[oI x0, oI x1, oI (0 : Int32), oN, oU] X77 hx hby at_11 rfl rfl rfl ?_
    refine own_iload_n 13 X77 hx hby at_12 rfl rfl ?_
    refine own_callS (W := 0) 16 (rm1_1 l Z a0 hw [] w_HANDLED w_UNKNOWN_TRANSACTION w_NO_SUCH_OBJECT w_FAILED w_TOO_LARGE w_ALL k_ALL W (0 : Int32) h0 n0 O0 (by decide)) X77 hx hby hZ hown (own_w hw 0 rfl) (own_w hw 1 rfl) (own_w hw 2 rfl) (own_w hw 3 rfl) (by decide) (by rw [hml]; rfl) [(.int (0 : Int32))] [] pd_0 rfl at_13 rfl e77 rfl rfl rfl (by decide) (by decide) (by decide) (by decide) ?_
    rintro _ T78 L78 X78 ⟨rfl, N78, e78⟩
    have N78 := Fr.app N77 N78
    show Go p e below _ (T78.setTop (mkF m 16 _ [(.ref w_HANDLED)]))
    refine own_astore 18 #[oI x0, oI x1, oI (0 : Int32), oN, oA w_HANDLED] X78 hx hby at_16 rfl rfl rfl ?_
    refine own_aload_n 19 X78 hx hby at_18 rfl rfl rfl ?_
    refine own_iload_n 20 X78 hx hby at_19 rfl rfl ?_
    refine own_callS (W := 1) 23 (rm2_6 l Z a0 hw [] w_HANDLED w_UNKNOWN_TRANSACTION w_NO_SUCH_OBJECT w_FAILED w_TOO_LARGE w_ALL k_ALL W x0 h0 n0 O0 (fun q => hc52 q.symm) (fun q => hc57 q.symm) (fun q => hc62 q.symm) (fun q => hc67 q.symm) (fun q => hc72 q.symm)) X78 hx hby hZ hown (own_w hw 11 rfl) (own_w hw 12 rfl) (own_w hw 13 rfl) (own_w hw 14 rfl) (by decide) (by rw [hml]; rfl) [(.int x0)] [.null] pd_0 rfl at_20 rfl e78 rfl rfl rfl (by decide) (by decide) (by decide) (by decide) ?_
    rintro _ T79 L79 X79 ⟨rfl, N79, e79⟩
    have N79 := Fr.app N78 N79
    show Go p e below _ (T79.setTop (mkF m 23 _ [.null, .null]))
    refine own_acmp 26 true X79 hx hby at_23 rfl rfl (by decide) (by decide) (decide_eq_true rfl) ?_
    refine own_aload 28 X79 hx hby at_26 rfl rfl rfl ?_
    refine own_iload_n 29 X79 hx hby at_28 rfl rfl ?_
    refine own_callS (W := 1) 32 (rm2_1 l Z a0 hw [] w_HANDLED w_UNKNOWN_TRANSACTION w_NO_SUCH_OBJECT w_FAILED w_TOO_LARGE w_ALL k_ALL W (0 : Int32) h0 n0 O0 (by decide)) X79 hx hby hZ hown (own_w hw 11 rfl) (own_w hw 12 rfl) (own_w hw 13 rfl) (own_w hw 14 rfl) (by decide) (by rw [hml]; rfl) [(.int (0 : Int32))] [(.ref w_HANDLED)] pd_0 rfl at_29 rfl e79 rfl rfl rfl (by decide) (by decide) (by decide) (by decide) ?_
    rintro _ T80 L80 X80 ⟨rfl, N80, e80⟩
    have N80 := Fr.app N79 N80
    show Go p e below _ (T80.setTop (mkF m 32 _ [(.ref w_HANDLED), (.ref w_HANDLED)]))
    refine own_acmp 35 true X80 hx hby at_32 rfl rfl (by decide) (by decide) (decide_eq_true (congrArg Value.ref rfl)) ?_
    refine own_iconst 36 (1 : Int32) X80 hx hby at_35 rfl (by decide) ?_
    refine own_goto 40 X80 hx hby at_36 (by decide) (by decide) ?_
    exact own_ret (Q := own_Q1 n0) X80 hx hby hret hlk at_40 rfl (Or.inl ⟨rfl, by simp, _, rfl⟩) (by decide) (by decide) ⟨rfl, N80⟩
  · refine own_iand 4 (2 : Int32) X0 hx hby at_3 rfl hv1 ?_
    refine own_iconst 5 (1 : Int32) X0 hx hby at_4 rfl (by decide) ?_
    refine own_isub 6 (1 : Int32) X0 hx hby at_5 rfl (by decide) ?_
    refine own_istore_n 7 #[oI x0, oI x1, oI (1 : Int32), oU, oU] X0 hx hby at_6 rfl rfl ?_
    refine own_iload_n 8 X0 hx hby at_7 rfl rfl ?_
    by_cases hc81 : (0 : Int32) = x0
    · refine own_callS (W := 0) 11 (rm1_1 l Z a0 hw [] w_HANDLED w_UNKNOWN_TRANSACTION w_NO_SUCH_OBJECT w_FAILED w_TOO_LARGE w_ALL k_ALL W x0 h0 n0 O0 hc81) X0 hx hby hZ hown (own_w hw 0 rfl) (own_w hw 1 rfl) (own_w hw 2 rfl) (own_w hw 3 rfl) (by decide) (by rw [hml]; rfl) [(.int x0)] [] pd_0 rfl at_8 rfl e0 rfl rfl rfl (by decide) (by decide) (by decide) (by decide) ?_
      rintro _ T82 L82 X82 ⟨rfl, N82, e82⟩
      have N82 := Fr.app N0 N82
      show Go p e below _ (T82.setTop (mkF m 11 _ [(.ref w_HANDLED)]))
      refine own_astore_n 12 #[oI x0, oI x1, oI (1 : Int32), oA w_HANDLED, oU] X82 hx hby at_11 rfl rfl rfl ?_
      refine own_iload_n 13 X82 hx hby at_12 rfl rfl ?_
      refine own_callS (W := 0) 16 (rm1_2 l Z a0 hw [] w_HANDLED w_UNKNOWN_TRANSACTION w_NO_SUCH_OBJECT w_FAILED w_TOO_LARGE w_ALL k_ALL W (1 : Int32) h0 n0 O0 (by decide) (by decide)) X82 hx hby hZ hown (own_w hw 0 rfl) (own_w hw 1 rfl) (own_w hw 2 rfl) (own_w hw 3 rfl) (by decide) (by rw [hml]; rfl) [(.int (1 : Int32))] [] pd_0 rfl at_13 rfl e82 rfl rfl rfl (by decide) (by decide) (by decide) (by decide) ?_
      rintro _ T83 L83 X83 ⟨rfl, N83, e83⟩
      have N83 := Fr.app N82 N83
      show Go p e below _ (T83.setTop (mkF m 16 _ [(.ref w_UNKNOWN_TRANSACTION)]))
      refine own_astore 18 #[oI x0, oI x1, oI (1 : Int32), oA w_HANDLED, oA w_UNKNOWN_TRANSACTION] X83 hx hby at_16 rfl rfl rfl ?_
      refine own_aload_n 19 X83 hx hby at_18 rfl rfl rfl ?_
      refine own_iload_n 20 X83 hx hby at_19 rfl rfl ?_
      refine own_callS (W := 1) 23 (rm2_1 l Z a0 hw [] w_HANDLED w_UNKNOWN_TRANSACTION w_NO_SUCH_OBJECT w_FAILED w_TOO_LARGE w_ALL k_ALL W x0 h0 n0 O0 hc81.symm) X83 hx hby hZ hown (own_w hw 11 rfl) (own_w hw 12 rfl) (own_w hw 13 rfl) (own_w hw 14 rfl) (by decide) (by rw [hml]; rfl) [(.int x0)] [(.ref w_HANDLED)] pd_0 rfl at_20 rfl e83 rfl rfl rfl (by decide) (by decide) (by decide) (by decide) ?_
      rintro _ T84 L84 X84 ⟨rfl, N84, e84⟩
      have N84 := Fr.app N83 N84
      show Go p e below _ (T84.setTop (mkF m 23 _ [(.ref w_HANDLED), (.ref w_HANDLED)]))
      refine own_acmp 26 true X84 hx hby at_23 rfl rfl (by decide) (by decide) (decide_eq_true (congrArg Value.ref rfl)) ?_
      refine own_aload 28 X84 hx hby at_26 rfl rfl rfl ?_
      refine own_iload_n 29 X84 hx hby at_28 rfl rfl ?_
      refine own_callS (W := 1) 32 (rm2_2 l Z a0 hw [] w_HANDLED w_UNKNOWN_TRANSACTION w_NO_SUCH_OBJECT w_FAILED w_TOO_LARGE w_ALL k_ALL W (1 : Int32) h0 n0 O0 (by decide) (by decide)) X84 hx hby hZ hown (own_w hw 11 rfl) (own_w hw 12 rfl) (own_w hw 13 rfl) (own_w hw 14 rfl) (by decide) (by rw [hml]; rfl) [(.int (1 : Int32))] [(.ref w_UNKNOWN_TRANSACTION)] pd_0 rfl at_29 rfl e84 rfl rfl rfl (by decide) (by decide) (by decide) (by decide) ?_
      rintro _ T85 L85 X85 ⟨rfl, N85, e85⟩
      have N85 := Fr.app N84 N85
      show Go p e below _ (T85.setTop (mkF m 32 _ [(.ref w_UNKNOWN_TRANSACTION), (.ref w_UNKNOWN_TRANSACTION)]))
      refine own_acmp 35 true X85 hx hby at_32 rfl rfl (by decide) (by decide) (decide_eq_true (congrArg Value.ref rfl)) ?_
      refine own_iconst 36 (1 : Int32) X85 hx hby at_35 rfl (by decide) ?_
      refine own_goto 40 X85 hx hby at_36 (by decide) (by decide) ?_
      exact own_ret (Q := own_Q1 n0) X85 hx hby hret hlk at_40 rfl (Or.inl ⟨rfl, by simp, _, rfl⟩) (by decide) (by decide) ⟨rfl, N85⟩
    by_cases hc86 : (1 : Int32) = x0
    · refine own_callS (W := 0) 11 (rm1_2 l Z a0 hw [] w_HANDLED w_UNKNOWN_TRANSACTION w_NO_SUCH_OBJECT w_FAILED w_TOO_LARGE w_ALL k_ALL W x0 h0 n0 O0 hc81 hc86) X0 hx hby hZ hown (own_w hw 0 rfl) (own_w hw 1 rfl) (own_w hw 2 rfl) (own_w hw 3 rfl) (by decide) (by rw [hml]; rfl) [(.int x0)] [] pd_0 rfl at_8 rfl e0 rfl rfl rfl (by decide) (by decide) (by decide) (by decide) ?_
      rintro _ T87 L87 X87 ⟨rfl, N87, e87⟩
      have N87 := Fr.app N0 N87
      show Go p e below _ (T87.setTop (mkF m 11 _ [(.ref w_UNKNOWN_TRANSACTION)]))
      refine own_astore_n 12 #[oI x0, oI x1, oI (1 : Int32), oA w_UNKNOWN_TRANSACTION, oU] X87 hx hby at_11 rfl rfl rfl ?_
      refine own_iload_n 13 X87 hx hby at_12 rfl rfl ?_
      refine own_callS (W := 0) 16 (rm1_2 l Z a0 hw [] w_HANDLED w_UNKNOWN_TRANSACTION w_NO_SUCH_OBJECT w_FAILED w_TOO_LARGE w_ALL k_ALL W (1 : Int32) h0 n0 O0 (by decide) (by decide)) X87 hx hby hZ hown (own_w hw 0 rfl) (own_w hw 1 rfl) (own_w hw 2 rfl) (own_w hw 3 rfl) (by decide) (by rw [hml]; rfl) [(.int (1 : Int32))] [] pd_0 rfl at_13 rfl e87 rfl rfl rfl (by decide) (by decide) (by decide) (by decide) ?_
      rintro _ T88 L88 X88 ⟨rfl, N88, e88⟩
      have N88 := Fr.app N87 N88
      show Go p e below _ (T88.setTop (mkF m 16 _ [(.ref w_UNKNOWN_TRANSACTION)]))
      refine own_astore 18 #[oI x0, oI x1, oI (1 : Int32), oA w_UNKNOWN_TRANSACTION, oA w_UNKNOWN_TRANSACTION] X88 hx hby at_16 rfl rfl rfl ?_
      refine own_aload_n 19 X88 hx hby at_18 rfl rfl rfl ?_
      refine own_iload_n 20 X88 hx hby at_19 rfl rfl ?_
      refine own_callS (W := 1) 23 (rm2_2 l Z a0 hw [] w_HANDLED w_UNKNOWN_TRANSACTION w_NO_SUCH_OBJECT w_FAILED w_TOO_LARGE w_ALL k_ALL W x0 h0 n0 O0 (fun q => hc81 q.symm) hc86.symm) X88 hx hby hZ hown (own_w hw 11 rfl) (own_w hw 12 rfl) (own_w hw 13 rfl) (own_w hw 14 rfl) (by decide) (by rw [hml]; rfl) [(.int x0)] [(.ref w_UNKNOWN_TRANSACTION)] pd_0 rfl at_20 rfl e88 rfl rfl rfl (by decide) (by decide) (by decide) (by decide) ?_
      rintro _ T89 L89 X89 ⟨rfl, N89, e89⟩
      have N89 := Fr.app N88 N89
      show Go p e below _ (T89.setTop (mkF m 23 _ [(.ref w_UNKNOWN_TRANSACTION), (.ref w_UNKNOWN_TRANSACTION)]))
      refine own_acmp 26 true X89 hx hby at_23 rfl rfl (by decide) (by decide) (decide_eq_true (congrArg Value.ref rfl)) ?_
      refine own_aload 28 X89 hx hby at_26 rfl rfl rfl ?_
      refine own_iload_n 29 X89 hx hby at_28 rfl rfl ?_
      refine own_callS (W := 1) 32 (rm2_2 l Z a0 hw [] w_HANDLED w_UNKNOWN_TRANSACTION w_NO_SUCH_OBJECT w_FAILED w_TOO_LARGE w_ALL k_ALL W (1 : Int32) h0 n0 O0 (by decide) (by decide)) X89 hx hby hZ hown (own_w hw 11 rfl) (own_w hw 12 rfl) (own_w hw 13 rfl) (own_w hw 14 rfl) (by decide) (by rw [hml]; rfl) [(.int (1 : Int32))] [(.ref w_UNKNOWN_TRANSACTION)] pd_0 rfl at_29 rfl e89 rfl rfl rfl (by decide) (by decide) (by decide) (by decide) ?_
      rintro _ T90 L90 X90 ⟨rfl, N90, e90⟩
      have N90 := Fr.app N89 N90
      show Go p e below _ (T90.setTop (mkF m 32 _ [(.ref w_UNKNOWN_TRANSACTION), (.ref w_UNKNOWN_TRANSACTION)]))
      refine own_acmp 35 true X90 hx hby at_32 rfl rfl (by decide) (by decide) (decide_eq_true (congrArg Value.ref rfl)) ?_
      refine own_iconst 36 (1 : Int32) X90 hx hby at_35 rfl (by decide) ?_
      refine own_goto 40 X90 hx hby at_36 (by decide) (by decide) ?_
      exact own_ret (Q := own_Q1 n0) X90 hx hby hret hlk at_40 rfl (Or.inl ⟨rfl, by simp, _, rfl⟩) (by decide) (by decide) ⟨rfl, N90⟩
    by_cases hc91 : (2 : Int32) = x0
    · refine own_callS (W := 0) 11 (rm1_3 l Z a0 hw [] w_HANDLED w_UNKNOWN_TRANSACTION w_NO_SUCH_OBJECT w_FAILED w_TOO_LARGE w_ALL k_ALL W x0 h0 n0 O0 hc81 hc86 hc91) X0 hx hby hZ hown (own_w hw 0 rfl) (own_w hw 1 rfl) (own_w hw 2 rfl) (own_w hw 3 rfl) (by decide) (by rw [hml]; rfl) [(.int x0)] [] pd_0 rfl at_8 rfl e0 rfl rfl rfl (by decide) (by decide) (by decide) (by decide) ?_
      rintro _ T92 L92 X92 ⟨rfl, N92, e92⟩
      have N92 := Fr.app N0 N92
      show Go p e below _ (T92.setTop (mkF m 11 _ [(.ref w_NO_SUCH_OBJECT)]))
      refine own_astore_n 12 #[oI x0, oI x1, oI (1 : Int32), oA w_NO_SUCH_OBJECT, oU] X92 hx hby at_11 rfl rfl rfl ?_
      refine own_iload_n 13 X92 hx hby at_12 rfl rfl ?_
      refine own_callS (W := 0) 16 (rm1_2 l Z a0 hw [] w_HANDLED w_UNKNOWN_TRANSACTION w_NO_SUCH_OBJECT w_FAILED w_TOO_LARGE w_ALL k_ALL W (1 : Int32) h0 n0 O0 (by decide) (by decide)) X92 hx hby hZ hown (own_w hw 0 rfl) (own_w hw 1 rfl) (own_w hw 2 rfl) (own_w hw 3 rfl) (by decide) (by rw [hml]; rfl) [(.int (1 : Int32))] [] pd_0 rfl at_13 rfl e92 rfl rfl rfl (by decide) (by decide) (by decide) (by decide) ?_
      rintro _ T93 L93 X93 ⟨rfl, N93, e93⟩
      have N93 := Fr.app N92 N93
      show Go p e below _ (T93.setTop (mkF m 16 _ [(.ref w_UNKNOWN_TRANSACTION)]))
      refine own_astore 18 #[oI x0, oI x1, oI (1 : Int32), oA w_NO_SUCH_OBJECT, oA w_UNKNOWN_TRANSACTION] X93 hx hby at_16 rfl rfl rfl ?_
      refine own_aload_n 19 X93 hx hby at_18 rfl rfl rfl ?_
      refine own_iload_n 20 X93 hx hby at_19 rfl rfl ?_
      refine own_callS (W := 1) 23 (rm2_3 l Z a0 hw [] w_HANDLED w_UNKNOWN_TRANSACTION w_NO_SUCH_OBJECT w_FAILED w_TOO_LARGE w_ALL k_ALL W x0 h0 n0 O0 (fun q => hc81 q.symm) (fun q => hc86 q.symm) hc91.symm) X93 hx hby hZ hown (own_w hw 11 rfl) (own_w hw 12 rfl) (own_w hw 13 rfl) (own_w hw 14 rfl) (by decide) (by rw [hml]; rfl) [(.int x0)] [(.ref w_NO_SUCH_OBJECT)] pd_0 rfl at_20 rfl e93 rfl rfl rfl (by decide) (by decide) (by decide) (by decide) ?_
      rintro _ T94 L94 X94 ⟨rfl, N94, e94⟩
      have N94 := Fr.app N93 N94
      show Go p e below _ (T94.setTop (mkF m 23 _ [(.ref w_NO_SUCH_OBJECT), (.ref w_NO_SUCH_OBJECT)]))
      refine own_acmp 26 true X94 hx hby at_23 rfl rfl (by decide) (by decide) (decide_eq_true (congrArg Value.ref rfl)) ?_
      refine own_aload 28 X94 hx hby at_26 rfl rfl rfl ?_
      refine own_iload_n 29 X94 hx hby at_28 rfl rfl ?_
      refine own_callS (W := 1) 32 (rm2_2 l Z a0 hw [] w_HANDLED w_UNKNOWN_TRANSACTION w_NO_SUCH_OBJECT w_FAILED w_TOO_LARGE w_ALL k_ALL W (1 : Int32) h0 n0 O0 (by decide) (by decide)) X94 hx hby hZ hown (own_w hw 11 rfl) (own_w hw 12 rfl) (own_w hw 13 rfl) (own_w hw 14 rfl) (by decide) (by rw [hml]; rfl) [(.int (1 : Int32))] [(.ref w_UNKNOWN_TRANSACTION)] pd_0 rfl at_29 rfl e94 rfl rfl rfl (by decide) (by decide) (by decide) (by decide) ?_
      rintro _ T95 L95 X95 ⟨rfl, N95, e95⟩
      have N95 := Fr.app N94 N95
      show Go p e below _ (T95.setTop (mkF m 32 _ [(.ref w_UNKNOWN_TRANSACTION), (.ref w_UNKNOWN_TRANSACTION)]))
      refine own_acmp 35 true X95 hx hby at_32 rfl rfl (by decide) (by decide) (decide_eq_true (congrArg Value.ref rfl)) ?_
      refine own_iconst 36 (1 : Int32) X95 hx hby at_35 rfl (by decide) ?_
      refine own_goto 40 X95 hx hby at_36 (by decide) (by decide) ?_
      exact own_ret (Q := own_Q1 n0) X95 hx hby hret hlk at_40 rfl (Or.inl ⟨rfl, by simp, _, rfl⟩) (by decide) (by decide) ⟨rfl, N95⟩
    by_cases hc96 : (3 : Int32) = x0
    · refine own_callS (W := 0) 11 (rm1_4 l Z a0 hw [] w_HANDLED w_UNKNOWN_TRANSACTION w_NO_SUCH_OBJECT w_FAILED w_TOO_LARGE w_ALL k_ALL W x0 h0 n0 O0 hc81 hc86 hc91 hc96) X0 hx hby hZ hown (own_w hw 0 rfl) (own_w hw 1 rfl) (own_w hw 2 rfl) (own_w hw 3 rfl) (by decide) (by rw [hml]; rfl) [(.int x0)] [] pd_0 rfl at_8 rfl e0 rfl rfl rfl (by decide) (by decide) (by decide) (by decide) ?_
      rintro _ T97 L97 X97 ⟨rfl, N97, e97⟩
      have N97 := Fr.app N0 N97
      show Go p e below _ (T97.setTop (mkF m 11 _ [(.ref w_FAILED)]))
      refine own_astore_n 12 #[oI x0, oI x1, oI (1 : Int32), oA w_FAILED, oU] X97 hx hby at_11 rfl rfl rfl ?_
      refine own_iload_n 13 X97 hx hby at_12 rfl rfl ?_
      refine own_callS (W := 0) 16 (rm1_2 l Z a0 hw [] w_HANDLED w_UNKNOWN_TRANSACTION w_NO_SUCH_OBJECT w_FAILED w_TOO_LARGE w_ALL k_ALL W (1 : Int32) h0 n0 O0 (by decide) (by decide)) X97 hx hby hZ hown (own_w hw 0 rfl) (own_w hw 1 rfl) (own_w hw 2 rfl) (own_w hw 3 rfl) (by decide) (by rw [hml]; rfl) [(.int (1 : Int32))] [] pd_0 rfl at_13 rfl e97 rfl rfl rfl (by decide) (by decide) (by decide) (by decide) ?_
      rintro _ T98 L98 X98 ⟨rfl, N98, e98⟩
      have N98 := Fr.app N97 N98
      show Go p e below _ (T98.setTop (mkF m 16 _ [(.ref w_UNKNOWN_TRANSACTION)]))
      refine own_astore 18 #[oI x0, oI x1, oI (1 : Int32), oA w_FAILED, oA w_UNKNOWN_TRANSACTION] X98 hx hby at_16 rfl rfl rfl ?_
      refine own_aload_n 19 X98 hx hby at_18 rfl rfl rfl ?_
      refine own_iload_n 20 X98 hx hby at_19 rfl rfl ?_
      refine own_callS (W := 1) 23 (rm2_4 l Z a0 hw [] w_HANDLED w_UNKNOWN_TRANSACTION w_NO_SUCH_OBJECT w_FAILED w_TOO_LARGE w_ALL k_ALL W x0 h0 n0 O0 (fun q => hc81 q.symm) (fun q => hc86 q.symm) (fun q => hc91 q.symm) hc96.symm) X98 hx hby hZ hown (own_w hw 11 rfl) (own_w hw 12 rfl) (own_w hw 13 rfl) (own_w hw 14 rfl) (by decide) (by rw [hml]; rfl) [(.int x0)] [(.ref w_FAILED)] pd_0 rfl at_20 rfl e98 rfl rfl rfl (by decide) (by decide) (by decide) (by decide) ?_
      rintro _ T99 L99 X99 ⟨rfl, N99, e99⟩
      have N99 := Fr.app N98 N99
      show Go p e below _ (T99.setTop (mkF m 23 _ [(.ref w_FAILED), (.ref w_FAILED)]))
      refine own_acmp 26 true X99 hx hby at_23 rfl rfl (by decide) (by decide) (decide_eq_true (congrArg Value.ref rfl)) ?_
      refine own_aload 28 X99 hx hby at_26 rfl rfl rfl ?_
      refine own_iload_n 29 X99 hx hby at_28 rfl rfl ?_
      refine own_callS (W := 1) 32 (rm2_2 l Z a0 hw [] w_HANDLED w_UNKNOWN_TRANSACTION w_NO_SUCH_OBJECT w_FAILED w_TOO_LARGE w_ALL k_ALL W (1 : Int32) h0 n0 O0 (by decide) (by decide)) X99 hx hby hZ hown (own_w hw 11 rfl) (own_w hw 12 rfl) (own_w hw 13 rfl) (own_w hw 14 rfl) (by decide) (by rw [hml]; rfl) [(.int (1 : Int32))] [(.ref w_UNKNOWN_TRANSACTION)] pd_0 rfl at_29 rfl e99 rfl rfl rfl (by decide) (by decide) (by decide) (by decide) ?_
      rintro _ T100 L100 X100 ⟨rfl, N100, e100⟩
      have N100 := Fr.app N99 N100
      show Go p e below _ (T100.setTop (mkF m 32 _ [(.ref w_UNKNOWN_TRANSACTION), (.ref w_UNKNOWN_TRANSACTION)]))
      refine own_acmp 35 true X100 hx hby at_32 rfl rfl (by decide) (by decide) (decide_eq_true (congrArg Value.ref rfl)) ?_
      refine own_iconst 36 (1 : Int32) X100 hx hby at_35 rfl (by decide) ?_
      refine own_goto 40 X100 hx hby at_36 (by decide) (by decide) ?_
      exact own_ret (Q := own_Q1 n0) X100 hx hby hret hlk at_40 rfl (Or.inl ⟨rfl, by simp, _, rfl⟩) (by decide) (by decide) ⟨rfl, N100⟩
    by_cases hc101 : (4 : Int32) = x0
    · refine own_callS (W := 0) 11 (rm1_5 l Z a0 hw [] w_HANDLED w_UNKNOWN_TRANSACTION w_NO_SUCH_OBJECT w_FAILED w_TOO_LARGE w_ALL k_ALL W x0 h0 n0 O0 hc81 hc86 hc91 hc96 hc101) X0 hx hby hZ hown (own_w hw 0 rfl) (own_w hw 1 rfl) (own_w hw 2 rfl) (own_w hw 3 rfl) (by decide) (by rw [hml]; rfl) [(.int x0)] [] pd_0 rfl at_8 rfl e0 rfl rfl rfl (by decide) (by decide) (by decide) (by decide) ?_
      rintro _ T102 L102 X102 ⟨rfl, N102, e102⟩
      have N102 := Fr.app N0 N102
      show Go p e below _ (T102.setTop (mkF m 11 _ [(.ref w_TOO_LARGE)]))
      refine own_astore_n 12 #[oI x0, oI x1, oI (1 : Int32), oA w_TOO_LARGE, oU] X102 hx hby at_11 rfl rfl rfl ?_
      refine own_iload_n 13 X102 hx hby at_12 rfl rfl ?_
      refine own_callS (W := 0) 16 (rm1_2 l Z a0 hw [] w_HANDLED w_UNKNOWN_TRANSACTION w_NO_SUCH_OBJECT w_FAILED w_TOO_LARGE w_ALL k_ALL W (1 : Int32) h0 n0 O0 (by decide) (by decide)) X102 hx hby hZ hown (own_w hw 0 rfl) (own_w hw 1 rfl) (own_w hw 2 rfl) (own_w hw 3 rfl) (by decide) (by rw [hml]; rfl) [(.int (1 : Int32))] [] pd_0 rfl at_13 rfl e102 rfl rfl rfl (by decide) (by decide) (by decide) (by decide) ?_
      rintro _ T103 L103 X103 ⟨rfl, N103, e103⟩
      have N103 := Fr.app N102 N103
      show Go p e below _ (T103.setTop (mkF m 16 _ [(.ref w_UNKNOWN_TRANSACTION)]))
      refine own_astore 18 #[oI x0, oI x1, oI (1 : Int32), oA w_TOO_LARGE, oA w_UNKNOWN_TRANSACTION] X103 hx hby at_16 rfl rfl rfl ?_
      refine own_aload_n 19 X103 hx hby at_18 rfl rfl rfl ?_
      refine own_iload_n 20 X103 hx hby at_19 rfl rfl ?_
      refine own_callS (W := 1) 23 (rm2_5 l Z a0 hw [] w_HANDLED w_UNKNOWN_TRANSACTION w_NO_SUCH_OBJECT w_FAILED w_TOO_LARGE w_ALL k_ALL W x0 h0 n0 O0 (fun q => hc81 q.symm) (fun q => hc86 q.symm) (fun q => hc91 q.symm) (fun q => hc96 q.symm) hc101.symm) X103 hx hby hZ hown (own_w hw 11 rfl) (own_w hw 12 rfl) (own_w hw 13 rfl) (own_w hw 14 rfl) (by decide) (by rw [hml]; rfl) [(.int x0)] [(.ref w_TOO_LARGE)] pd_0 rfl at_20 rfl e103 rfl rfl rfl (by decide) (by decide) (by decide) (by decide) ?_
      rintro _ T104 L104 X104 ⟨rfl, N104, e104⟩
      have N104 := Fr.app N103 N104
      show Go p e below _ (T104.setTop (mkF m 23 _ [(.ref w_TOO_LARGE), (.ref w_TOO_LARGE)]))
      refine own_acmp 26 true X104 hx hby at_23 rfl rfl (by decide) (by decide) (decide_eq_true (congrArg Value.ref rfl)) ?_
      refine own_aload 28 X104 hx hby at_26 rfl rfl rfl ?_
      refine own_iload_n 29 X104 hx hby at_28 rfl rfl ?_
      refine own_callS (W := 1) 32 (rm2_2 l Z a0 hw [] w_HANDLED w_UNKNOWN_TRANSACTION w_NO_SUCH_OBJECT w_FAILED w_TOO_LARGE w_ALL k_ALL W (1 : Int32) h0 n0 O0 (by decide) (by decide)) X104 hx hby hZ hown (own_w hw 11 rfl) (own_w hw 12 rfl) (own_w hw 13 rfl) (own_w hw 14 rfl) (by decide) (by rw [hml]; rfl) [(.int (1 : Int32))] [(.ref w_UNKNOWN_TRANSACTION)] pd_0 rfl at_29 rfl e104 rfl rfl rfl (by decide) (by decide) (by decide) (by decide) ?_
      rintro _ T105 L105 X105 ⟨rfl, N105, e105⟩
      have N105 := Fr.app N104 N105
      show Go p e below _ (T105.setTop (mkF m 32 _ [(.ref w_UNKNOWN_TRANSACTION), (.ref w_UNKNOWN_TRANSACTION)]))
      refine own_acmp 35 true X105 hx hby at_32 rfl rfl (by decide) (by decide) (decide_eq_true (congrArg Value.ref rfl)) ?_
      refine own_iconst 36 (1 : Int32) X105 hx hby at_35 rfl (by decide) ?_
      refine own_goto 40 X105 hx hby at_36 (by decide) (by decide) ?_
      exact own_ret (Q := own_Q1 n0) X105 hx hby hret hlk at_40 rfl (Or.inl ⟨rfl, by simp, _, rfl⟩) (by decide) (by decide) ⟨rfl, N105⟩
    refine own_callS (W := 0) 11 (rm1_6 l Z a0 hw [] w_HANDLED w_UNKNOWN_TRANSACTION w_NO_SUCH_OBJECT w_FAILED w_TOO_LARGE w_ALL k_ALL W x0 h0 n0 O0 hc81 hc86 hc91 hc96 hc101) X0 hx hby hZ hown (own_w hw 0 rfl) (own_w hw 1 rfl) (own_w hw 2 rfl) (own_w hw 3 rfl) (by decide) (by rw [hml]; rfl) [(.int x0)] [] pd_0 rfl at_8 rfl e0 rfl rfl rfl (by decide) (by decide) (by decide) (by decide) ?_
    rintro _ T106 L106 X106 ⟨rfl, N106, e106⟩
    have N106 := Fr.app N0 N106
    show Go p e below _ (T106.setTop (mkF m 11 _ [.null]))
    refine own_astore_n 12 #[oI x0, oI x1, oI (1 : Int32), oN, oU] X106 hx hby at_11 rfl rfl rfl ?_
    refine own_iload_n 13 X106 hx hby at_12 rfl rfl ?_
    refine own_callS (W := 0) 16 (rm1_2 l Z a0 hw [] w_HANDLED w_UNKNOWN_TRANSACTION w_NO_SUCH_OBJECT w_FAILED w_TOO_LARGE w_ALL k_ALL W (1 : Int32) h0 n0 O0 (by decide) (by decide)) X106 hx hby hZ hown (own_w hw 0 rfl) (own_w hw 1 rfl) (own_w hw 2 rfl) (own_w hw 3 rfl) (by decide) (by rw [hml]; rfl) [(.int (1 : Int32))] [] pd_0 rfl at_13 rfl e106 rfl rfl rfl (by decide) (by decide) (by decide) (by decide) ?_
    rintro _ T107 L107 X107 ⟨rfl, N107, e107⟩
    have N107 := Fr.app N106 N107
    show Go p e below _ (T107.setTop (mkF m 16 _ [(.ref w_UNKNOWN_TRANSACTION)]))
    refine own_astore 18 #[oI x0, oI x1, oI (1 : Int32), oN, oA w_UNKNOWN_TRANSACTION] X107 hx hby at_16 rfl rfl rfl ?_
    refine own_aload_n 19 X107 hx hby at_18 rfl rfl rfl ?_
    refine own_iload_n 20 X107 hx hby at_19 rfl rfl ?_
    refine own_callS (W := 1) 23 (rm2_6 l Z a0 hw [] w_HANDLED w_UNKNOWN_TRANSACTION w_NO_SUCH_OBJECT w_FAILED w_TOO_LARGE w_ALL k_ALL W x0 h0 n0 O0 (fun q => hc81 q.symm) (fun q => hc86 q.symm) (fun q => hc91 q.symm) (fun q => hc96 q.symm) (fun q => hc101 q.symm)) X107 hx hby hZ hown (own_w hw 11 rfl) (own_w hw 12 rfl) (own_w hw 13 rfl) (own_w hw 14 rfl) (by decide) (by rw [hml]; rfl) [(.int x0)] [.null] pd_0 rfl at_20 rfl e107 rfl rfl rfl (by decide) (by decide) (by decide) (by decide) ?_
    rintro _ T108 L108 X108 ⟨rfl, N108, e108⟩
    have N108 := Fr.app N107 N108
    show Go p e below _ (T108.setTop (mkF m 23 _ [.null, .null]))
    refine own_acmp 26 true X108 hx hby at_23 rfl rfl (by decide) (by decide) (decide_eq_true rfl) ?_
    refine own_aload 28 X108 hx hby at_26 rfl rfl rfl ?_
    refine own_iload_n 29 X108 hx hby at_28 rfl rfl ?_
    refine own_callS (W := 1) 32 (rm2_2 l Z a0 hw [] w_HANDLED w_UNKNOWN_TRANSACTION w_NO_SUCH_OBJECT w_FAILED w_TOO_LARGE w_ALL k_ALL W (1 : Int32) h0 n0 O0 (by decide) (by decide)) X108 hx hby hZ hown (own_w hw 11 rfl) (own_w hw 12 rfl) (own_w hw 13 rfl) (own_w hw 14 rfl) (by decide) (by rw [hml]; rfl) [(.int (1 : Int32))] [(.ref w_UNKNOWN_TRANSACTION)] pd_0 rfl at_29 rfl e108 rfl rfl rfl (by decide) (by decide) (by decide) (by decide) ?_
    rintro _ T109 L109 X109 ⟨rfl, N109, e109⟩
    have N109 := Fr.app N108 N109
    show Go p e below _ (T109.setTop (mkF m 32 _ [(.ref w_UNKNOWN_TRANSACTION), (.ref w_UNKNOWN_TRANSACTION)]))
    refine own_acmp 35 true X109 hx hby at_32 rfl rfl (by decide) (by decide) (decide_eq_true (congrArg Value.ref rfl)) ?_
    refine own_iconst 36 (1 : Int32) X109 hx hby at_35 rfl (by decide) ?_
    refine own_goto 40 X109 hx hby at_36 (by decide) (by decide) ?_
    exact own_ret (Q := own_Q1 n0) X109 hx hby hret hlk at_40 rfl (Or.inl ⟨rfl, by simp, _, rfl⟩) (by decide) (by decide) ⟨rfl, N109⟩
  · refine own_iand 4 (3 : Int32) X0 hx hby at_3 rfl hv1 ?_
    refine own_iconst 5 (1 : Int32) X0 hx hby at_4 rfl (by decide) ?_
    refine own_isub 6 (2 : Int32) X0 hx hby at_5 rfl (by decide) ?_
    refine own_istore_n 7 #[oI x0, oI x1, oI (2 : Int32), oU, oU] X0 hx hby at_6 rfl rfl ?_
    refine own_iload_n 8 X0 hx hby at_7 rfl rfl ?_
    by_cases hc110 : (0 : Int32) = x0
    · refine own_callS (W := 0) 11 (rm1_1 l Z a0 hw [] w_HANDLED w_UNKNOWN_TRANSACTION w_NO_SUCH_OBJECT w_FAILED w_TOO_LARGE w_ALL k_ALL W x0 h0 n0 O0 hc110) X0 hx hby hZ hown (own_w hw 0 rfl) (own_w hw 1 rfl) (own_w hw 2 rfl) (own_w hw 3 rfl) (by decide) (by rw [hml]; rfl) [(.int x0)] [] pd_0 rfl at_8 rfl e0 rfl rfl rfl (by decide) (by decide) (by decide) (by decide) ?_
      rintro _ T111 L111 X111 ⟨rfl, N111, e111⟩
      have N111 := Fr.app N0 N111
      show Go p e below _ (T111.setTop (mkF m 11 _ [(.ref w_HANDLED)]))
      refine own_astore_n 12 #[oI x0, oI x1, oI (2 : Int32), oA w_HANDLED, oU] X111 hx hby at_11 rfl rfl rfl ?_
      refine own_iload_n 13 X111 hx hby at_12 rfl rfl ?_
      refine own_callS (W := 0) 16 (rm1_3 l Z a0 hw [] w_HANDLED w_UNKNOWN_TRANSACTION w_NO_SUCH_OBJECT w_FAILED w_TOO_LARGE w_ALL k_ALL W (2 : Int32) h0 n0 O0 (by decide) (by decide) (by decide)) X111 hx hby hZ hown (own_w hw 0 rfl) (own_w hw 1 rfl) (own_w hw 2 rfl) (own_w hw 3 rfl) (by decide) (by rw [hml]; rfl) [(.int (2 : Int32))] [] pd_0 rfl at_13 rfl e111 rfl rfl rfl (by decide) (by decide) (by decide) (by decide) ?_
      rintro _ T112 L112 X112 ⟨rfl, N112, e112⟩
      have N112 := Fr.app N111 N112
      show Go p e below _ (T112.setTop (mkF m 16 _ [(.ref w_NO_SUCH_OBJECT)]))
      refine own_astore 18 #[oI x0, oI x1, oI (2 : Int32), oA w_HANDLED, oA w_NO_SUCH_OBJECT] X112 hx hby at_16 rfl rfl rfl ?_
      refine own_aload_n 19 X112 hx hby at_18 rfl rfl rfl ?_
      refine own_iload_n 20 X112 hx hby at_19 rfl rfl ?_
      refine own_callS (W := 1) 23 (rm2_1 l Z a0 hw [] w_HANDLED w_UNKNOWN_TRANSACTION w_NO_SUCH_OBJECT w_FAILED w_TOO_LARGE w_ALL k_ALL W x0 h0 n0 O0 hc110.symm) X112 hx hby hZ hown (own_w hw 11 rfl) (own_w hw 12 rfl) (own_w hw 13 rfl) (own_w hw 14 rfl) (by decide) (by rw [hml]; rfl) [(.int x0)] [(.ref w_HANDLED)] pd_0 rfl at_20 rfl e112 rfl rfl rfl (by decide) (by decide) (by decide) (by decide) ?_
      rintro _ T113 L113 X113 ⟨rfl, N113, e113⟩
      have N113 := Fr.app N112 N113
      show Go p e below _ (T113.setTop (mkF m 23 _ [(.ref w_HANDLED), (.ref w_HANDLED)]))
      refine own_acmp 26 true X113 hx hby at_23 rfl rfl (by decide) (by decide) (decide_eq_true (congrArg Value.ref rfl)) ?_
      refine own_aload 28 X113 hx hby at_26 rfl rfl rfl ?_
      refine own_iload_n 29 X113 hx hby at_28 rfl rfl ?_
      refine own_callS (W := 1) 32 (rm2_3 l Z a0 hw [] w_HANDLED w_UNKNOWN_TRANSACTION w_NO_SUCH_OBJECT w_FAILED w_TOO_LARGE w_ALL k_ALL W (2 : Int32) h0 n0 O0 (by decide) (by decide) (by decide)) X113 hx hby hZ hown (own_w hw 11 rfl) (own_w hw 12 rfl) (own_w hw 13 rfl) (own_w hw 14 rfl) (by decide) (by rw [hml]; rfl) [(.int (2 : Int32))] [(.ref w_NO_SUCH_OBJECT)] pd_0 rfl at_29 rfl e113 rfl rfl rfl (by decide) (by decide) (by decide) (by decide) ?_
      rintro _ T114 L114 X114 ⟨rfl, N114, e114⟩
      have N114 := Fr.app N113 N114
      show Go p e below _ (T114.setTop (mkF m 32 _ [(.ref w_NO_SUCH_OBJECT), (.ref w_NO_SUCH_OBJECT)]))
      refine own_acmp 35 true X114 hx hby at_32 rfl rfl (by decide) (by decide) (decide_eq_true (congrArg Value.ref rfl)) ?_
      refine own_iconst 36 (1 : Int32) X114 hx hby at_35 rfl (by decide) ?_
      refine own_goto 40 X114 hx hby at_36 (by decide) (by decide) ?_
      exact own_ret (Q := own_Q1 n0) X114 hx hby hret hlk at_40 rfl (Or.inl ⟨rfl, by simp, _, rfl⟩) (by decide) (by decide) ⟨rfl, N114⟩
    by_cases hc115 : (1 : Int32) = x0
    · refine own_callS (W := 0) 11 (rm1_2 l Z a0 hw [] w_HANDLED w_UNKNOWN_TRANSACTION w_NO_SUCH_OBJECT w_FAILED w_TOO_LARGE w_ALL k_ALL W x0 h0 n0 O0 hc110 hc115) X0 hx hby hZ hown (own_w hw 0 rfl) (own_w hw 1 rfl) (own_w hw 2 rfl) (own_w hw 3 rfl) (by decide) (by rw [hml]; rfl) [(.int x0)] [] pd_0 rfl at_8 rfl e0 rfl rfl rfl (by decide) (by decide) (by decide) (by decide) ?_
      rintro _ T116 L116 X116 ⟨rfl, N116, e116⟩
      have N116 := Fr.app N0 N116
      show Go p e below _ (T116.setTop (mkF m 11 _ [(.ref w_UNKNOWN_TRANSACTION)]))
      refine own_astore_n 12 #[oI x0, oI x1, oI (2 : Int32), oA w_UNKNOWN_TRANSACTION, oU] X116 hx hby at_11 rfl rfl rfl ?_
      refine own_iload_n 13 X116 hx hby at_12 rfl rfl ?_
      refine own_callS (W := 0) 16 (rm1_3 l Z a0 hw [] w_HANDLED w_UNKNOWN_TRANSACTION w_NO_SUCH_OBJECT w_FAILED w_TOO_LARGE w_ALL k_ALL W (2 : Int32) h0 n0 O0 (by decide) (by decide) (by decide)) X116 hx hby hZ hown (own_w hw 0 rfl) (own_w hw 1 rfl) (own_w hw 2 rfl) (own_w hw 3 rfl) (by decide) (by rw [hml]; rfl) [(.int (2 : Int32))] [] pd_0 rfl at_13 rfl e116 rfl rfl rfl (by decide) (by decide) (by decide) (by decide) ?_
      rintro _ T117 L117 X117 ⟨rfl, N117, e117⟩
      have N117 := Fr.app N116 N117
      show Go p e below _ (T117.setTop (mkF m 16 _ [(.ref w_NO_SUCH_OBJECT)]))
      refine own_astore 18 #[oI x0, oI x1, oI (2 : Int32), oA w_UNKNOWN_TRANSACTION, oA w_NO_SUCH_OBJECT] X117 hx hby at_16 rfl rfl rfl ?_
      refine own_aload_n 19 X117 hx hby at_18 rfl rfl rfl ?_
      refine own_iload_n 20 X117 hx hby at_19 rfl rfl ?_
      refine own_callS (W := 1) 23 (rm2_2 l Z a0 hw [] w_HANDLED w_UNKNOWN_TRANSACTION w_NO_SUCH_OBJECT w_FAILED w_TOO_LARGE w_ALL k_ALL W x0 h0 n0 O0 (fun q => hc110 q.symm) hc115.symm) X117 hx hby hZ hown (own_w hw 11 rfl) (own_w hw 12 rfl) (own_w hw 13 rfl) (own_w hw 14 rfl) (by decide) (by rw [hml]; rfl) [(.int x0)] [(.ref w_UNKNOWN_TRANSACTION)] pd_0 rfl at_20 rfl e117 rfl rfl rfl (by decide) (by decide) (by decide) (by decide) ?_
      rintro _ T118 L118 X118 ⟨rfl, N118, e118⟩
      have N118 := Fr.app N117 N118
      show Go p e below _ (T118.setTop (mkF m 23 _ [(.ref w_UNKNOWN_TRANSACTION), (.ref w_UNKNOWN_TRANSACTION)]))
      refine own_acmp 26 true X118 hx hby at_23 rfl rfl (by decide) (by decide) (decide_eq_true (congrArg Value.ref rfl)) ?_
      refine own_aload 28 X118 hx hby at_26 rfl rfl rfl ?_
      refine own_iload_n 29 X118 hx hby at_28 rfl rfl ?_
      refine own_callS (W := 1) 32 (rm2_3 l Z a0 hw [] w_HANDLED w_UNKNOWN_TRANSACTION w_NO_SUCH_OBJECT w_FAILED w_TOO_LARGE w_ALL k_ALL W (2 : Int32) h0 n0 O0 (by decide) (by decide) (by decide)) X118 hx hby hZ hown (own_w hw 11 rfl) (own_w hw 12 rfl) (own_w hw 13 rfl) (own_w hw 14 rfl) (by decide) (by rw [hml]; rfl) [(.int (2 : Int32))] [(.ref w_NO_SUCH_OBJECT)] pd_0 rfl at_29 rfl e118 rfl rfl rfl (by decide) (by decide) (by decide) (by decide) ?_
      rintro _ T119 L119 X119 ⟨rfl, N119, e119⟩
      have N119 := Fr.app N118 N119
      show Go p e below _ (T119.setTop (mkF m 32 _ [(.ref w_NO_SUCH_OBJECT), (.ref w_NO_SUCH_OBJECT)]))
      refine own_acmp 35 true X119 hx hby at_32 rfl rfl (by decide) (by decide) (decide_eq_true (congrArg Value.ref rfl)) ?_
      refine own_iconst 36 (1 : Int32) X119 hx hby at_35 rfl (by decide) ?_
      refine own_goto 40 X119 hx hby at_36 (by decide) (by decide) ?_
      exact own_ret (Q := own_Q1 n0) X119 hx hby hret hlk at_40 rfl (Or.inl ⟨rfl, by simp, _, rfl⟩) (by decide) (by decide) ⟨rfl, N119⟩
    by_cases hc120 : (2 : Int32) = x0
    · refine own_callS (W := 0) 11 (rm1_3 l Z a0 hw [] w_HANDLED w_UNKNOWN_TRANSACTION w_NO_SUCH_OBJECT w_FAILED w_TOO_LARGE w_ALL k_ALL W x0 h0 n0 O0 hc110 hc115 hc120) X0 hx hby hZ hown (own_w hw 0 rfl) (own_w hw 1 rfl) (own_w hw 2 rfl) (own_w hw 3 rfl) (by decide) (by rw [hml]; rfl) [(.int x0)] [] pd_0 rfl at_8 rfl e0 rfl rfl rfl (by decide) (by decide) (by decide) (by decide) ?_
      rintro _ T121 L121 X121 ⟨rfl, N121, e121⟩
      have N121 := Fr.app N0 N121
      show Go p e below _ (T121.setTop (mkF m 11 _ [(.ref w_NO_SUCH_OBJECT)]))
      refine own_astore_n 12 #[oI x0, oI x1, oI (2 : Int32), oA w_NO_SUCH_OBJECT, oU] X121 hx hby at_11 rfl rfl rfl ?_
      refine own_iload_n 13 X121 hx hby at_12 rfl rfl ?_
      refine own_callS (W := 0) 16 (rm1_3 l Z a0 hw [] w_HANDLED w_UNKNOWN_TRANSACTION w_NO_SUCH_OBJECT w_FAILED w_TOO_LARGE w_ALL k_ALL W (2 : Int32) h0 n0 O0 (by decide) (by decide) (by decide)) X121 hx hby hZ hown (own_w hw 0 rfl) (own_w hw 1 rfl) (own_w hw 2 rfl) (own_w hw 3 rfl) (by decide) (by rw [hml]; rfl) [(.int (2 : Int32))] [] pd_0 rfl at_13 rfl e121 rfl rfl rfl (by decide) (by decide) (by decide) (by decide) ?_
      rintro _ T122 L122 X122 ⟨rfl, N122, e122⟩
      have N122 := Fr.app N121 N122
      show Go p e below _ (T122.setTop (mkF m 16 _ [(.ref w_NO_SUCH_OBJECT)]))
      refine own_astore 18 #[oI x0, oI x1, oI (2 : Int32), oA w_NO_SUCH_OBJECT, oA w_NO_SUCH_OBJECT] X122 hx hby at_16 rfl rfl rfl ?_
      refine own_aload_n 19 X122 hx hby at_18 rfl rfl rfl ?_
      refine own_iload_n 20 X122 hx hby at_19 rfl rfl ?_
      refine own_callS (W := 1) 23 (rm2_3 l Z a0 hw [] w_HANDLED w_UNKNOWN_TRANSACTION w_NO_SUCH_OBJECT w_FAILED w_TOO_LARGE w_ALL k_ALL W x0 h0 n0 O0 (fun q => hc110 q.symm) (fun q => hc115 q.symm) hc120.symm) X122 hx hby hZ hown (own_w hw 11 rfl) (own_w hw 12 rfl) (own_w hw 13 rfl) (own_w hw 14 rfl) (by decide) (by rw [hml]; rfl) [(.int x0)] [(.ref w_NO_SUCH_OBJECT)] pd_0 rfl at_20 rfl e122 rfl rfl rfl (by decide) (by decide) (by decide) (by decide) ?_
      rintro _ T123 L123 X123 ⟨rfl, N123, e123⟩
      have N123 := Fr.app N122 N123
      show Go p e below _ (T123.setTop (mkF m 23 _ [(.ref w_NO_SUCH_OBJECT), (.ref w_NO_SUCH_OBJECT)]))
      refine own_acmp 26 true X123 hx hby at_23 rfl rfl (by decide) (by decide) (decide_eq_true (congrArg Value.ref rfl)) ?_
      refine own_aload 28 X123 hx hby at_26 rfl rfl rfl ?_
      refine own_iload_n 29 X123 hx hby at_28 rfl rfl ?_
      refine own_callS (W := 1) 32 (rm2_3 l Z a0 hw [] w_HANDLED w_UNKNOWN_TRANSACTION w_NO_SUCH_OBJECT w_FAILED w_TOO_LARGE w_ALL k_ALL W (2 : Int32) h0 n0 O0 (by decide) (by decide) (by decide)) X123 hx hby hZ hown (own_w hw 11 rfl) (own_w hw 12 rfl) (own_w hw 13 rfl) (own_w hw 14 rfl) (by decide) (by rw [hml]; rfl) [(.int (2 : Int32))] [(.ref w_NO_SUCH_OBJECT)] pd_0 rfl at_29 rfl e123 rfl rfl rfl (by decide) (by decide) (by decide) (by decide) ?_
      rintro _ T124 L124 X124 ⟨rfl, N124, e124⟩
      have N124 := Fr.app N123 N124
      show Go p e below _ (T124.setTop (mkF m 32 _ [(.ref w_NO_SUCH_OBJECT), (.ref w_NO_SUCH_OBJECT)]))
      refine own_acmp 35 true X124 hx hby at_32 rfl rfl (by decide) (by decide) (decide_eq_true (congrArg Value.ref rfl)) ?_
      refine own_iconst 36 (1 : Int32) X124 hx hby at_35 rfl (by decide) ?_
      refine own_goto 40 X124 hx hby at_36 (by decide) (by decide) ?_
      exact own_ret (Q := own_Q1 n0) X124 hx hby hret hlk at_40 rfl (Or.inl ⟨rfl, by simp, _, rfl⟩) (by decide) (by decide) ⟨rfl, N124⟩
    by_cases hc125 : (3 : Int32) = x0
    · refine own_callS (W := 0) 11 (rm1_4 l Z a0 hw [] w_HANDLED w_UNKNOWN_TRANSACTION w_NO_SUCH_OBJECT w_FAILED w_TOO_LARGE w_ALL k_ALL W x0 h0 n0 O0 hc110 hc115 hc120 hc125) X0 hx hby hZ hown (own_w hw 0 rfl) (own_w hw 1 rfl) (own_w hw 2 rfl) (own_w hw 3 rfl) (by decide) (by rw [hml]; rfl) [(.int x0)] [] pd_0 rfl at_8 rfl e0 rfl rfl rfl (by decide) (by decide) (by decide) (by decide) ?_
      rintro _ T126 L126 X126 ⟨rfl, N126, e126⟩
      have N126 := Fr.app N0 N126
      show Go p e below _ (T126.setTop (mkF m 11 _ [(.ref w_FAILED)]))
      refine own_astore_n 12 #[oI x0, oI x1, oI (2 : Int32), oA w_FAILED, oU] X126 hx hby at_11 rfl rfl rfl ?_
      refine own_iload_n 13 X126 hx hby at_12 rfl rfl ?_
      refine own_callS (W := 0) 16 (rm1_3 l Z a0 hw [] w_HANDLED w_UNKNOWN_TRANSACTION w_NO_SUCH_OBJECT w_FAILED w_TOO_LARGE w_ALL k_ALL W (2 : Int32) h0 n0 O0 (by decide) (by decide) (by decide)) X126 hx hby hZ hown (own_w hw 0 rfl) (own_w hw 1 rfl) (own_w hw 2 rfl) (own_w hw 3 rfl) (by decide) (by rw [hml]; rfl) [(.int (2 : Int32))] [] pd_0 rfl at_13 rfl e126 rfl rfl rfl (by decide) (by decide) (by decide) (by decide) ?_
      rintro _ T127 L127 X127 ⟨rfl, N127, e127⟩
      have N127 := Fr.app N126 N127
      show Go p e below _ (T127.setTop (mkF m 16 _ [(.ref w_NO_SUCH_OBJECT)]))
      refine own_astore 18 #[oI x0, oI x1, oI (2 : Int32), oA w_FAILED, oA w_NO_SUCH_OBJECT] X127 hx hby at_16 rfl rfl rfl ?_
      refine own_aload_n 19 X127 hx hby at_18 rfl rfl rfl ?_
      refine own_iload_n 20 X127 hx hby at_19 rfl rfl ?_
      refine own_callS (W := 1) 23 (rm2_4 l Z a0 hw [] w_HANDLED w_UNKNOWN_TRANSACTION w_NO_SUCH_OBJECT w_FAILED w_TOO_LARGE w_ALL k_ALL W x0 h0 n0 O0 (fun q => hc110 q.symm) (fun q => hc115 q.symm) (fun q => hc120 q.symm) hc125.symm) X127 hx hby hZ hown (own_w hw 11 rfl) (own_w hw 12 rfl) (own_w hw 13 rfl) (own_w hw 14 rfl) (by decide) (by rw [hml]; rfl) [(.int x0)] [(.ref w_FAILED)] pd_0 rfl at_20 rfl e127 rfl rfl rfl (by decide) (by decide) (by decide) (by decide) ?_
      rintro _ T128 L128 X128 ⟨rfl, N128, e128⟩
      have N128 := Fr.app N127 N128
      show Go p e below _ (T128.setTop (mkF m 23 _ [(.ref w_FAILED), (.ref w_FAILED)]))
      refine own_acmp 26 true X128 hx hby at_23 rfl rfl (by decide) (by decide) (decide_eq_true (congrArg Value.ref rfl)) ?_
      refine own_aload 28 X128 hx hby at_26 rfl rfl rfl ?_
      refine own_iload_n 29 X128 hx hby at_28 rfl rfl ?_
      refine own_callS (W := 1) 32 (rm2_3 l Z a0 hw [] w_HANDLED w_UNKNOWN_TRANSACTION w_NO_SUCH_OBJECT w_FAILED w_TOO_LARGE w_ALL k_ALL W (2 : Int32) h0 n0 O0 (by decide) (by decide) (by decide)) X128 hx hby hZ hown (own_w hw 11 rfl) (own_w hw 12 rfl) (own_w hw 13 rfl) (own_w hw 14 rfl) (by decide) (by rw [hml]; rfl) [(.int (2 : Int32))] [(.ref w_NO_SUCH_OBJECT)] pd_0 rfl at_29 rfl e128 rfl rfl rfl (by decide) (by decide) (by decide) (by decide) ?_
      rintro _ T129 L129 X129 ⟨rfl, N129, e129⟩
      have N129 := Fr.app N128 N129
      show Go p e below _ (T129.setTop (mkF m 32 _ [(.ref w_NO_SUCH_OBJECT), (.ref w_NO_SUCH_OBJECT)]))
      refine own_acmp 35 true X129 hx hby at_32 rfl rfl (by decide) (by decide) (decide_eq_true (congrArg Value.ref rfl)) ?_
      refine own_iconst 36 (1 : Int32) X129 hx hby at_35 rfl (by decide) ?_
      refine own_goto 40 X129 hx hby at_36 (by decide) (by decide) ?_
      exact own_ret (Q := own_Q1 n0) X129 hx hby hret hlk at_40 rfl (Or.inl ⟨rfl, by simp, _, rfl⟩) (by decide) (by decide) ⟨rfl, N129⟩
    by_cases hc130 : (4 : Int32) = x0
    · refine own_callS (W := 0) 11 (rm1_5 l Z a0 hw [] w_HANDLED w_UNKNOWN_TRANSACTION w_NO_SUCH_OBJECT w_FAILED w_TOO_LARGE w_ALL k_ALL W x0 h0 n0 O0 hc110 hc115 hc120 hc125 hc130) X0 hx hby hZ hown (own_w hw 0 rfl) (own_w hw 1 rfl) (own_w hw 2 rfl) (own_w hw 3 rfl) (by decide) (by rw [hml]; rfl) [(.int x0)] [] pd_0 rfl at_8 rfl e0 rfl rfl rfl (by decide) (by decide) (by decide) (by decide) ?_
      rintro _ T131 L131 X131 ⟨rfl, N131, e131⟩
      have N131 := Fr.app N0 N131
      show Go p e below _ (T131.setTop (mkF m 11 _ [(.ref w_TOO_LARGE)]))
      refine own_astore_n 12 #[oI x0, oI x1, oI (2 : Int32), oA w_TOO_LARGE, oU] X131 hx hby at_11 rfl rfl rfl ?_
      refine own_iload_n 13 X131 hx hby at_12 rfl rfl ?_
      refine own_callS (W := 0) 16 (rm1_3 l Z a0 hw [] w_HANDLED w_UNKNOWN_TRANSACTION w_NO_SUCH_OBJECT w_FAILED w_TOO_LARGE w_ALL k_ALL W (2 : Int32) h0 n0 O0 (by decide) (by decide) (by decide)) X131 hx hby hZ hown (own_w hw 0 rfl) (own_w hw 1 rfl) (own_w hw 2 rfl) (own_w hw 3 rfl) (by decide) (by rw [hml]; rfl) [(.int (2 : Int32))] [] pd_0 rfl at_13 rfl e131 rfl rfl rfl (by decide) (by decide) (by decide) (by decide) ?_
      rintro _ T132 L132 X132 ⟨rfl, N132, e132⟩
      have N132 := Fr.app N131 N132
      show Go p e below _ (T132.setTop (mkF m 16 _ [(.ref w_NO_SUCH_OBJECT)]))
      refine own_astore 18 #[oI x0, oI x1, oI (2 : Int32), oA w_TOO_LARGE, oA w_NO_SUCH_OBJECT] X132 hx hby at_16 rfl rfl rfl ?_
      refine own_aload_n 19 X132 hx hby at_18 rfl rfl rfl ?_
      refine own_iload_n 20 X132 hx hby at_19 rfl rfl ?_
      refine own_callS (W := 1) 23 (rm2_5 l Z a0 hw [] w_HANDLED w_UNKNOWN_TRANSACTION w_NO_SUCH_OBJECT w_FAILED w_TOO_LARGE w_ALL k_ALL W x0 h0 n0 O0 (fun q => hc110 q.symm) (fun q => hc115 q.symm) (fun q => hc120 q.symm) (fun q => hc125 q.symm) hc130.symm) X132 hx hby hZ hown (own_w hw 11 rfl) (own_w hw 12 rfl) (own_w hw 13 rfl) (own_w hw 14 rfl) (by decide) (by rw [hml]; rfl) [(.int x0)] [(.ref w_TOO_LARGE)] pd_0 rfl at_20 rfl e132 rfl rfl rfl (by decide) (by decide) (by decide) (by decide) ?_
      rintro _ T133 L133 X133 ⟨rfl, N133, e133⟩
      have N133 := Fr.app N132 N133
      show Go p e below _ (T133.setTop (mkF m 23 _ [(.ref w_TOO_LARGE), (.ref w_TOO_LARGE)]))
      refine own_acmp 26 true X133 hx hby at_23 rfl rfl (by decide) (by decide) (decide_eq_true (congrArg Value.ref rfl)) ?_
      refine own_aload 28 X133 hx hby at_26 rfl rfl rfl ?_
      refine own_iload_n 29 X133 hx hby at_28 rfl rfl ?_
      refine own_callS (W := 1) 32 (rm2_3 l Z a0 hw [] w_HANDLED w_UNKNOWN_TRANSACTION w_NO_SUCH_OBJECT w_FAILED w_TOO_LARGE w_ALL k_ALL W (2 : Int32) h0 n0 O0 (by decide) (by decide) (by decide)) X133 hx hby hZ hown (own_w hw 11 rfl) (own_w hw 12 rfl) (own_w hw 13 rfl) (own_w hw 14 rfl) (by decide) (by rw [hml]; rfl) [(.int (2 : Int32))] [(.ref w_NO_SUCH_OBJECT)] pd_0 rfl at_29 rfl e133 rfl rfl rfl (by decide) (by decide) (by decide) (by decide) ?_
      rintro _ T134 L134 X134 ⟨rfl, N134, e134⟩
      have N134 := Fr.app N133 N134
      show Go p e below _ (T134.setTop (mkF m 32 _ [(.ref w_NO_SUCH_OBJECT), (.ref w_NO_SUCH_OBJECT)]))
      refine own_acmp 35 true X134 hx hby at_32 rfl rfl (by decide) (by decide) (decide_eq_true (congrArg Value.ref rfl)) ?_
      refine own_iconst 36 (1 : Int32) X134 hx hby at_35 rfl (by decide) ?_
      refine own_goto 40 X134 hx hby at_36 (by decide) (by decide) ?_
      exact own_ret (Q := own_Q1 n0) X134 hx hby hret hlk at_40 rfl (Or.inl ⟨rfl, by simp, _, rfl⟩) (by decide) (by decide) ⟨rfl, N134⟩
    refine own_callS (W := 0) 11 (rm1_6 l Z a0 hw [] w_HANDLED w_UNKNOWN_TRANSACTION w_NO_SUCH_OBJECT w_FAILED w_TOO_LARGE w_ALL k_ALL W x0 h0 n0 O0 hc110 hc115 hc120 hc125 hc130) X0 hx hby hZ hown (own_w hw 0 rfl) (own_w hw 1 rfl) (own_w hw 2 rfl) (own_w hw 3 rfl) (by decide) (by rw [hml]; rfl) [(.int x0)] [] pd_0 rfl at_8 rfl e0 rfl rfl rfl (by decide) (by decide) (by decide) (by decide) ?_
    rintro _ T135 L135 X135 ⟨rfl, N135, e135⟩
    have N135 := Fr.app N0 N135
    show Go p e below _ (T135.setTop (mkF m 11 _ [.null]))
    refine own_astore_n 12 #[oI x0, oI x1, oI (2 : Int32), oN, oU] X135 hx hby at_11 rfl rfl rfl ?_
    refine own_iload_n 13 X135 hx hby at_12 rfl rfl ?_
    refine own_callS (W := 0) 16 (rm1_3 l Z a0 hw [] w_HANDLED w_UNKNOWN_TRANSACTION w_NO_SUCH_OBJECT w_FAILED w_TOO_LARGE w_ALL k_ALL W (2 : Int32) h0 n0 O0 (by decide) (by decide) (by decide)) X135 hx hby hZ hown (own_w hw 0 rfl) (own_w hw 1 rfl) (own_w hw 2 rfl) (own_w hw 3 rfl) (by decide) (by rw [hml]; rfl) [(.int (2 : Int32))] [] pd_0 rfl at_13 rfl e135 rfl rfl rfl (by decide) (by decide) (by decide) (by decide) ?_
    rintro _ T136 L136 X136 ⟨rfl, N136, e136⟩
    have N136 := Fr.app N135 N136
    show Go p e below _ (T136.setTop (mkF m 16 _ [(.ref w_NO_SUCH_OBJECT)]))
    refine own_astore 18 #[oI x0, oI x1, oI (2 : Int32), oN, oA w_NO_SUCH_OBJECT] X136 hx hby at_16 rfl rfl rfl ?_
    refine own_aload_n 19 X136 hx hby at_18 rfl rfl rfl ?_
    refine own_iload_n 20 X136 hx hby at_19 rfl rfl ?_
    refine own_callS (W := 1) 23 (rm2_6 l Z a0 hw [] w_HANDLED w_UNKNOWN_TRANSACTION w_NO_SUCH_OBJECT w_FAILED w_TOO_LARGE w_ALL k_ALL W x0 h0 n0 O0 (fun q => hc110 q.symm) (fun q => hc115 q.symm) (fun q => hc120 q.symm) (fun q => hc125 q.symm) (fun q => hc130 q.symm)) X136 hx hby hZ hown (own_w hw 11 rfl) (own_w hw 12 rfl) (own_w hw 13 rfl) (own_w hw 14 rfl) (by decide) (by rw [hml]; rfl) [(.int x0)] [.null] pd_0 rfl at_20 rfl e136 rfl rfl rfl (by decide) (by decide) (by decide) (by decide) ?_
    rintro _ T137 L137 X137 ⟨rfl, N137, e137⟩
    have N137 := Fr.app N136 N137
    show Go p e below _ (T137.setTop (mkF m 23 _ [.null, .null]))
    refine own_acmp 26 true X137 hx hby at_23 rfl rfl (by decide) (by decide) (decide_eq_true rfl) ?_
    refine own_aload 28 X137 hx hby at_26 rfl rfl rfl ?_
    refine own_iload_n 29 X137 hx hby at_28 rfl rfl ?_
    refine own_callS (W := 1) 32 (rm2_3 l Z a0 hw [] w_HANDLED w_UNKNOWN_TRANSACTION w_NO_SUCH_OBJECT w_FAILED w_TOO_LARGE w_ALL k_ALL W (2 : Int32) h0 n0 O0 (by decide) (by decide) (by decide)) X137 hx hby hZ hown (own_w hw 11 rfl) (own_w hw 12 rfl) (own_w hw 13 rfl) (own_w hw 14 rfl) (by decide) (by rw [hml]; rfl) [(.int (2 : Int32))] [(.ref w_NO_SUCH_OBJECT)] pd_0 rfl at_29 rfl e137 rfl rfl rfl (by decide) (by decide) (by decide) (by decide) ?_
    rintro _ T138 L138 X138 ⟨rfl, N138, e138⟩
    have N138 := Fr.app N137 N138
    show Go p e below _ (T138.setTop (mkF m 32 _ [(.ref w_NO_SUCH_OBJECT), (.ref w_NO_SUCH_OBJECT)]))
    refine own_acmp 35 true X138 hx hby at_32 rfl rfl (by decide) (by decide) (decide_eq_true (congrArg Value.ref rfl)) ?_
    refine own_iconst 36 (1 : Int32) X138 hx hby at_35 rfl (by decide) ?_
    refine own_goto 40 X138 hx hby at_36 (by decide) (by decide) ?_
    exact own_ret (Q := own_Q1 n0) X138 hx hby hret hlk at_40 rfl (Or.inl ⟨rfl, by simp, _, rfl⟩) (by decide) (by decide) ⟨rfl, N138⟩
  · refine own_iand 4 (4 : Int32) X0 hx hby at_3 rfl hv1 ?_
    refine own_iconst 5 (1 : Int32) X0 hx hby at_4 rfl (by decide) ?_
    refine own_isub 6 (3 : Int32) X0 hx hby at_5 rfl (by decide) ?_
    refine own_istore_n 7 #[oI x0, oI x1, oI (3 : Int32), oU, oU] X0 hx hby at_6 rfl rfl ?_
    refine own_iload_n 8 X0 hx hby at_7 rfl rfl ?_
    by_cases hc139 : (0 : Int32) = x0
    · refine own_callS (W := 0) 11 (rm1_1 l Z a0 hw [] w_HANDLED w_UNKNOWN_TRANSACTION w_NO_SUCH_OBJECT w_FAILED w_TOO_LARGE w_ALL k_ALL W x0 h0 n0 O0 hc139) X0 hx hby hZ hown (own_w hw 0 rfl) (own_w hw 1 rfl) (own_w hw 2 rfl) (own_w hw 3 rfl) (by decide) (by rw [hml]; rfl) [(.int x0)] [] pd_0 rfl at_8 rfl e0 rfl rfl rfl (by decide) (by decide) (by decide) (by decide) ?_
      rintro _ T140 L140 X140 ⟨rfl, N140, e140⟩
      have N140 := Fr.app N0 N140
      show Go p e below _ (T140.setTop (mkF m 11 _ [(.ref w_HANDLED)]))
      refine own_astore_n 12 #[oI x0, oI x1, oI (3 : Int32), oA w_HANDLED, oU] X140 hx hby at_11 rfl rfl rfl ?_
      refine own_iload_n 13 X140 hx hby at_12 rfl rfl ?_
      refine own_callS (W := 0) 16 (rm1_4 l Z a0 hw [] w_HANDLED w_UNKNOWN_TRANSACTION w_NO_SUCH_OBJECT w_FAILED w_TOO_LARGE w_ALL k_ALL W (3 : Int32) h0 n0 O0 (by decide) (by decide) (by decide) (by decide)) X140 hx hby hZ hown (own_w hw 0 rfl) (own_w hw 1 rfl) (own_w hw 2 rfl) (own_w hw 3 rfl) (by decide) (by rw [hml]; rfl) [(.int (3 : Int32))] [] pd_0 rfl at_13 rfl e140 rfl rfl rfl (by decide) (by decide) (by decide) (by decide) ?_
      rintro _ T141 L141 X141 ⟨rfl, N141, e141⟩
      have N141 := Fr.app N140 N141
      show Go p e below _ (T141.setTop (mkF m 16 _ [(.ref w_FAILED)]))
      refine own_astore 18 #[oI x0, oI x1, oI (3 : Int32), oA w_HANDLED, oA w_FAILED] X141 hx hby at_16 rfl rfl rfl ?_
      refine own_aload_n 19 X141 hx hby at_18 rfl rfl rfl ?_
      refine own_iload_n 20 X141 hx hby at_19 rfl rfl ?_
      refine own_callS (W := 1) 23 (rm2_1 l Z a0 hw [] w_HANDLED w_UNKNOWN_TRANSACTION w_NO_SUCH_OBJECT w_FAILED w_TOO_LARGE w_ALL k_ALL W x0 h0 n0 O0 hc139.symm) X141 hx hby hZ hown (own_w hw 11 rfl) (own_w hw 12 rfl) (own_w hw 13 rfl) (own_w hw 14 rfl) (by decide) (by rw [hml]; rfl) [(.int x0)] [(.ref w_HANDLED)] pd_0 rfl at_20 rfl e141 rfl rfl rfl (by decide) (by decide) (by decide) (by decide) ?_
      rintro _ T142 L142 X142 ⟨rfl, N142, e142⟩
      have N142 := Fr.app N141 N142
      show Go p e below _ (T142.setTop (mkF m 23 _ [(.ref w_HANDLED), (.ref w_HANDLED)]))
      refine own_acmp 26 true X142 hx hby at_23 rfl rfl (by decide) (by decide) (decide_eq_true (congrArg Value.ref rfl)) ?_
      refine own_aload 28 X142 hx hby at_26 rfl rfl rfl ?_
      refine own_iload_n 29 X142 hx hby at_28 rfl rfl ?_
      refine own_callS (W := 1) 32 (rm2_4 l Z a0 hw [] w_HANDLED w_UNKNOWN_TRANSACTION w_NO_SUCH_OBJECT w_FAILED w_TOO_LARGE w_ALL k_ALL W (3 : Int32) h0 n0 O0 (by decide) (by decide) (by decide) (by decide)) X142 hx hby hZ hown (own_w hw 11 rfl) (own_w hw 12 rfl) (own_w hw 13 rfl) (own_w hw 14 rfl) (by decide) (by rw [hml]; rfl) [(.int (3 : Int32))] [(.ref w_FAILED)] pd_0 rfl at_29 rfl e142 rfl rfl rfl (by decide) (by decide) (by decide) (by decide) ?_
      rintro _ T143 L143 X143 ⟨rfl, N143, e143⟩
      have N143 := Fr.app N142 N143
      show Go p e below _ (T143.setTop (mkF m 32 _ [(.ref w_FAILED), (.ref w_FAILED)]))
      refine own_acmp 35 true X143 hx hby at_32 rfl rfl (by decide) (by decide) (decide_eq_true (congrArg Value.ref rfl)) ?_
      refine own_iconst 36 (1 : Int32) X143 hx hby at_35 rfl (by decide) ?_
      refine own_goto 40 X143 hx hby at_36 (by decide) (by decide) ?_
      exact own_ret (Q := own_Q1 n0) X143 hx hby hret hlk at_40 rfl (Or.inl ⟨rfl, by simp, _, rfl⟩) (by decide) (by decide) ⟨rfl, N143⟩
    by_cases hc144 : (1 : Int32) = x0
    · refine own_callS (W := 0) 11 (rm1_2 l Z a0 hw [] w_HANDLED w_UNKNOWN_TRANSACTION w_NO_SUCH_OBJECT w_FAILED w_TOO_LARGE w_ALL k_ALL W x0 h0 n0 O0 hc139 hc144) X0 hx hby hZ hown (own_w hw 0 rfl) (own_w hw 1 rfl) (own_w hw 2 rfl) (own_w hw 3 rfl) (by decide) (by rw [hml]; rfl) [(.int x0)] [] pd_0 rfl at_8 rfl e0 rfl rfl rfl (by decide) (by decide) (by decide) (by decide) ?_
      rintro _ T145 L145 X145 ⟨rfl, N145, e145⟩
      have N145 := Fr.app N0 N145
      show Go p e below _ (T145.setTop (mkF m 11 _ [(.ref w_UNKNOWN_TRANSACTION)]))
      refine own_astore_n 12 #[oI x0, oI x1, oI (3 : Int32), oA w_UNKNOWN_TRANSACTION, oU] X145 hx hby at_11 rfl rfl rfl ?_
      refine own_iload_n 13 X145 hx hby at_12 rfl rfl ?_
      refine own_callS (W := 0) 16 (rm1_4 l Z a0 hw [] w_HANDLED w_UNKNOWN_TRANSACTION w_NO_SUCH_OBJECT w_FAILED w_TOO_LARGE w_ALL k_ALL W (3 : Int32) h0 n0 O0 (by decide) (by decide) (by decide) (by decide)) X145 hx hby hZ hown (own_w hw 0 rfl) (own_w hw 1 rfl) (own_w hw 2 rfl) (own_w hw 3 rfl) (by decide) (by rw [hml]; rfl) [(.int (3 : Int32))] [] pd_0 rfl at_13 rfl e145 rfl rfl rfl (by decide) (by decide) (by decide) (by decide) ?_
      rintro _ T146 L146 X146 ⟨rfl, N146, e146⟩
      have N146 := Fr.app N145 N146
      show Go p e below _ (T146.setTop (mkF m 16 _ [(.ref w_FAILED)]))
      refine own_astore 18 #[oI x0, oI x1, oI (3 : Int32), oA w_UNKNOWN_TRANSACTION, oA w_FAILED] X146 hx hby at_16 rfl rfl rfl ?_
      refine own_aload_n 19 X146 hx hby at_18 rfl rfl rfl ?_
      refine own_iload_n 20 X146 hx hby at_19 rfl rfl ?_
      refine own_callS (W := 1) 23 (rm2_2 l Z a0 hw [] w_HANDLED w_UNKNOWN_TRANSACTION w_NO_SUCH_OBJECT w_FAILED w_TOO_LARGE w_ALL k_ALL W x0 h0 n0 O0 (fun q => hc139 q.symm) hc144.symm) X146 hx hby hZ hown (own_w hw 11 rfl) (own_w hw 12 rfl) (own_w hw 13 rfl) (own_w hw 14 rfl) (by decide) (by rw [hml]; rfl) [(.int x0)] [(.ref w_UNKNOWN_TRANSACTION)] pd_0 rfl at_20 rfl e146 rfl rfl rfl (by decide) (by decide) (by decide) (by decide) ?_
      rintro _ T147 L147 X147 ⟨rfl, N147, e147⟩
      have N147 := Fr.app N146 N147
      show Go p e below _ (T147.setTop (mkF m 23 _ [(.ref w_UNKNOWN_TRANSACTION), (.ref w_UNKNOWN_TRANSACTION)]))
      refine own_acmp 26 true X147 hx hby at_23 rfl rfl (by decide) (by decide) (decide_eq_true (congrArg Value.ref rfl)) ?_
      refine own_aload 28 X147 hx hby at_26 rfl rfl rfl ?_
      refine own_iload_n 29 X147 hx hby at_28 rfl rfl ?_
      refine own_callS (W := 1) 32 (rm2_4 l Z a0 hw [] w_HANDLED w_UNKNOWN_TRANSACTION w_NO_SUCH_OBJECT w_FAILED w_TOO_LARGE w_ALL k_ALL W (3 : Int32) h0 n0 O0 (by decide) (by decide) (by decide) (by decide)) X147 hx hby hZ hown (own_w hw 11 rfl) (own_w hw 12 rfl) (own_w hw 13 rfl) (own_w hw 14 rfl) (by decide) (by rw [hml]; rfl) [(.int (3 : Int32))] [(.ref w_FAILED)] pd_0 rfl at_29 rfl e147 rfl rfl rfl (by decide) (by decide) (by decide) (by decide) ?_
      rintro _ T148 L148 X148 ⟨rfl, N148, e148⟩
      have N148 := Fr.app N147 N148
      show Go p e below _ (T148.setTop (mkF m 32 _ [(.ref w_FAILED), (.ref w_FAILED)]))
      refine own_acmp 35 true X148 hx hby at_32 rfl rfl (by decide) (by decide) (decide_eq_true (congrArg Value.ref rfl)) ?_
      refine own_iconst 36 (1 : Int32) X148 hx hby at_35 rfl (by decide) ?_
      refine own_goto 40 X148 hx hby at_36 (by decide) (by decide) ?_
      exact own_ret (Q := own_Q1 n0) X148 hx hby hret hlk at_40 rfl (Or.inl ⟨rfl, by simp, _, rfl⟩) (by decide) (by decide) ⟨rfl, N148⟩
    by_cases hc149 : (2 : Int32) = x0
    · refine own_callS (W := 0) 11 (rm1_3 l Z a0 hw [] w_HANDLED w_UNKNOWN_TRANSACTION w_NO_SUCH_OBJECT w_FAILED w_TOO_LARGE w_ALL k_ALL W x0 h0 n0 O0 hc139 hc144 hc149) X0 hx hby hZ hown (own_w hw 0 rfl) (own_w hw 1 rfl) (own_w hw 2 rfl) (own_w hw 3 rfl) (by decide) (by rw [hml]; rfl) [(.int x0)] [] pd_0 rfl at_8 rfl e0 rfl rfl rfl (by decide) (by decide) (by decide) (by decide) ?_
      rintro _ T150 L150 X150 ⟨rfl, N150, e150⟩
      have N150 := Fr.app N0 N150
      show Go p e below _ (T150.setTop (mkF m 11 _ [(.ref w_NO_SUCH_OBJECT)]))
      refine own_astore_n 12 #[oI x0, oI x1, oI (3 : Int32), oA w_NO_SUCH_OBJECT, oU] X150 hx hby at_11 rfl rfl rfl ?_
      refine own_iload_n 13 X150 hx hby at_12 rfl rfl ?_
      refine own_callS (W := 0) 16 (rm1_4 l Z a0 hw [] w_HANDLED w_UNKNOWN_TRANSACTION w_NO_SUCH_OBJECT w_FAILED w_TOO_LARGE w_ALL k_ALL W (3 : Int32) h0 n0 O0 (by decide) (by decide) (by decide) (by decide)) X150 hx hby hZ hown (own_w hw 0 rfl) (own_w hw 1 rfl) (own_w hw 2 rfl) (own_w hw 3 rfl) (by decide) (by rw [hml]; rfl) [(.int (3 : Int32))] [] pd_0 rfl at_13 rfl e150 rfl rfl rfl (by decide) (by decide) (by decide) (by decide) ?_
      rintro _ T151 L151 X151 ⟨rfl, N151, e151⟩
      have N151 := Fr.app N150 N151
      show Go p e below _ (T151.setTop (mkF m 16 _ [(.ref w_FAILED)]))
      refine own_astore 18 #[oI x0, oI x1, oI (3 : Int32), oA w_NO_SUCH_OBJECT, oA w_FAILED] X151 hx hby at_16 rfl rfl rfl ?_
      refine own_aload_n 19 X151 hx hby at_18 rfl rfl rfl ?_
      refine own_iload_n 20 X151 hx hby at_19 rfl rfl ?_
      refine own_callS (W := 1) 23 (rm2_3 l Z a0 hw [] w_HANDLED w_UNKNOWN_TRANSACTION w_NO_SUCH_OBJECT w_FAILED w_TOO_LARGE w_ALL k_ALL W x0 h0 n0 O0 (fun q => hc139 q.symm) (fun q => hc144 q.symm) hc149.symm) X151 hx hby hZ hown (own_w hw 11 rfl) (own_w hw 12 rfl) (own_w hw 13 rfl) (own_w hw 14 rfl) (by decide) (by rw [hml]; rfl) [(.int x0)] [(.ref w_NO_SUCH_OBJECT)] pd_0 rfl at_20 rfl e151 rfl rfl rfl (by decide) (by decide) (by decide) (by decide) ?_
      rintro _ T152 L152 X152 ⟨rfl, N152, e152⟩
      have N152 := Fr.app N151 N152
      show Go p e below _ (T152.setTop (mkF m 23 _ [(.ref w_NO_SUCH_OBJECT), (.ref w_NO_SUCH_OBJECT)]))
      refine own_acmp 26 true X152 hx hby at_23 rfl rfl (by decide) (by decide) (decide_eq_true (congrArg Value.ref rfl)) ?_
      refine own_aload 28 X152 hx hby at_26 rfl rfl rfl ?_
      refine own_iload_n 29 X152 hx hby at_28 rfl rfl ?_
      refine own_callS (W := 1) 32 (rm2_4 l Z a0 hw [] w_HANDLED w_UNKNOWN_TRANSACTION w_NO_SUCH_OBJECT w_FAILED w_TOO_LARGE w_ALL k_ALL W (3 : Int32) h0 n0 O0 (by decide) (by decide) (by decide) (by decide)) X152 hx hby hZ hown (own_w hw 11 rfl) (own_w hw 12 rfl) (own_w hw 13 rfl) (own_w hw 14 rfl) (by decide) (by rw [hml]; rfl) [(.int (3 : Int32))] [(.ref w_FAILED)] pd_0 rfl at_29 rfl e152 rfl rfl rfl (by decide) (by decide) (by decide) (by decide) ?_
      rintro _ T153 L153 X153 ⟨rfl, N153, e153⟩
      have N153 := Fr.app N152 N153
      show Go p e below _ (T153.setTop (mkF m 32 _ [(.ref w_FAILED), (.ref w_FAILED)]))
      refine own_acmp 35 true X153 hx hby at_32 rfl rfl (by decide) (by decide) (decide_eq_true (congrArg Value.ref rfl)) ?_
      refine own_iconst 36 (1 : Int32) X153 hx hby at_35 rfl (by decide) ?_
      refine own_goto 40 X153 hx hby at_36 (by decide) (by decide) ?_
      exact own_ret (Q := own_Q1 n0) X153 hx hby hret hlk at_40 rfl (Or.inl ⟨rfl, by simp, _, rfl⟩) (by decide) (by decide) ⟨rfl, N153⟩
    by_cases hc154 : (3 : Int32) = x0
    · refine own_callS (W := 0) 11 (rm1_4 l Z a0 hw [] w_HANDLED w_UNKNOWN_TRANSACTION w_NO_SUCH_OBJECT w_FAILED w_TOO_LARGE w_ALL k_ALL W x0 h0 n0 O0 hc139 hc144 hc149 hc154) X0 hx hby hZ hown (own_w hw 0 rfl) (own_w hw 1 rfl) (own_w hw 2 rfl) (own_w hw 3 rfl) (by decide) (by rw [hml]; rfl) [(.int x0)] [] pd_0 rfl at_8 rfl e0 rfl rfl rfl (by decide) (by decide) (by decide) (by decide) ?_
      rintro _ T155 L155 X155 ⟨rfl, N155, e155⟩
      have N155 := Fr.app N0 N155
      show Go p e below _ (T155.setTop (mkF m 11 _ [(.ref w_FAILED)]))
      refine own_astore_n 12 #[oI x0, oI x1, oI (3 : Int32), oA w_FAILED, oU] X155 hx hby at_11 rfl rfl rfl ?_
      refine own_iload_n 13 X155 hx hby at_12 rfl rfl ?_
      refine own_callS (W := 0) 16 (rm1_4 l Z a0 hw [] w_HANDLED w_UNKNOWN_TRANSACTION w_NO_SUCH_OBJECT w_FAILED w_TOO_LARGE w_ALL k_ALL W (3 : Int32) h0 n0 O0 (by decide) (by decide) (by decide) (by decide)) X155 hx hby hZ hown (own_w hw 0 rfl) (own_w hw 1 rfl) (own_w hw 2 rfl) (own_w hw 3 rfl) (by decide) (by rw [hml]; rfl) [(.int (3 : Int32))] [] pd_0 rfl at_13 rfl e155 rfl rfl rfl (by decide) (by decide) (by decide) (by decide) ?_
      rintro _ T156 L156 X156 ⟨rfl, N156, e156⟩
      have N156 := Fr.app N155 N156
      show Go p e below _ (T156.setTop (mkF m 16 _ [(.ref w_FAILED)]))
      refine own_astore 18 #[oI x0, oI x1, oI (3 : Int32), oA w_FAILED, oA w_FAILED] X156 hx hby at_16 rfl rfl rfl ?_
      refine own_aload_n 19 X156 hx hby at_18 rfl rfl rfl ?_
      refine own_iload_n 20 X156 hx hby at_19 rfl rfl ?_
      refine own_callS (W := 1) 23 (rm2_4 l Z a0 hw [] w_HANDLED w_UNKNOWN_TRANSACTION w_NO_SUCH_OBJECT w_FAILED w_TOO_LARGE w_ALL k_ALL W x0 h0 n0 O0 (fun q => hc139 q.symm) (fun q => hc144 q.symm) (fun q => hc149 q.symm) hc154.symm) X156 hx hby hZ hown (own_w hw 11 rfl) (own_w hw 12 rfl) (own_w hw 13 rfl) (own_w hw 14 rfl) (by decide) (by rw [hml]; rfl) [(.int x0)] [(.ref w_FAILED)] pd_0 rfl at_20 rfl e156 rfl rfl rfl (by decide) (by decide) (by decide) (by decide) ?_
      rintro _ T157 L157 X157 ⟨rfl, N157, e157⟩
      have N157 := Fr.app N156 N157
      show Go p e below _ (T157.setTop (mkF m 23 _ [(.ref w_FAILED), (.ref w_FAILED)]))
      refine own_acmp 26 true X157 hx hby at_23 rfl rfl (by decide) (by decide) (decide_eq_true (congrArg Value.ref rfl)) ?_
      refine own_aload 28 X157 hx hby at_26 rfl rfl rfl ?_
      refine own_iload_n 29 X157 hx hby at_28 rfl rfl ?_
      refine own_callS (W := 1) 32 (rm2_4 l Z a0 hw [] w_HANDLED w_UNKNOWN_TRANSACTION w_NO_SUCH_OBJECT w_FAILED w_TOO_LARGE w_ALL k_ALL W (3 : Int32) h0 n0 O0 (by decide) (by decide) (by decide) (by decide)) X157 hx hby hZ hown (own_w hw 11 rfl) (own_w hw 12 rfl) (own_w hw 13 rfl) (own_w hw 14 rfl) (by decide) (by rw [hml]; rfl) [(.int (3 : Int32))] [(.ref w_FAILED)] pd_0 rfl at_29 rfl e157 rfl rfl rfl (by decide) (by decide) (by decide) (by decide) ?_
      rintro _ T158 L158 X158 ⟨rfl, N158, e158⟩
      have N158 := Fr.app N157 N158
      show Go p e below _ (T158.setTop (mkF m 32 _ [(.ref w_FAILED), (.ref w_FAILED)]))
      refine own_acmp 35 true X158 hx hby at_32 rfl rfl (by decide) (by decide) (decide_eq_true (congrArg Value.ref rfl)) ?_
      refine own_iconst 36 (1 : Int32) X158 hx hby at_35 rfl (by decide) ?_
      refine own_goto 40 X158 hx hby at_36 (by decide) (by decide) ?_
      exact own_ret (Q := own_Q1 n0) X158 hx hby hret hlk at_40 rfl (Or.inl ⟨rfl, by simp, _, rfl⟩) (by decide) (by decide) ⟨rfl, N158⟩
    by_cases hc159 : (4 : Int32) = x0
    · refine own_callS (W := 0) 11 (rm1_5 l Z a0 hw [] w_HANDLED w_UNKNOWN_TRANSACTION w_NO_SUCH_OBJECT w_FAILED w_TOO_LARGE w_ALL k_ALL W x0 h0 n0 O0 hc139 hc144 hc149 hc154 hc159) X0 hx hby hZ hown (own_w hw 0 rfl) (own_w hw 1 rfl) (own_w hw 2 rfl) (own_w hw 3 rfl) (by decide) (by rw [hml]; rfl) [(.int x0)] [] pd_0 rfl at_8 rfl e0 rfl rfl rfl (by decide) (by decide) (by decide) (by decide) ?_
      rintro _ T160 L160 X160 ⟨rfl, N160, e160⟩
      have N160 := Fr.app N0 N160
      show Go p e below _ (T160.setTop (mkF m 11 _ [(.ref w_TOO_LARGE)]))
      refine own_astore_n 12 #[oI x0, oI x1, oI (3 : Int32), oA w_TOO_LARGE, oU] X160 hx hby at_11 rfl rfl rfl ?_
      refine own_iload_n 13 X160 hx hby at_12 rfl rfl ?_
      refine own_callS (W := 0) 16 (rm1_4 l Z a0 hw [] w_HANDLED w_UNKNOWN_TRANSACTION w_NO_SUCH_OBJECT w_FAILED w_TOO_LARGE w_ALL k_ALL W (3 : Int32) h0 n0 O0 (by decide) (by decide) (by decide) (by decide)) X160 hx hby hZ hown (own_w hw 0 rfl) (own_w hw 1 rfl) (own_w hw 2 rfl) (own_w hw 3 rfl) (by decide) (by rw [hml]; rfl) [(.int (3 : Int32))] [] pd_0 rfl at_13 rfl e160 rfl rfl rfl (by decide) (by decide) (by decide) (by decide) ?_
      rintro _ T161 L161 X161 ⟨rfl, N161, e161⟩
      have N161 := Fr.app N160 N161
      show Go p e below _ (T161.setTop (mkF m 16 _ [(.ref w_FAILED)]))
      refine own_astore 18 #[oI x0, oI x1, oI (3 : Int32), oA w_TOO_LARGE, oA w_FAILED] X161 hx hby at_16 rfl rfl rfl ?_
      refine own_aload_n 19 X161 hx hby at_18 rfl rfl rfl ?_
      refine own_iload_n 20 X161 hx hby at_19 rfl rfl ?_
      refine own_callS (W := 1) 23 (rm2_5 l Z a0 hw [] w_HANDLED w_UNKNOWN_TRANSACTION w_NO_SUCH_OBJECT w_FAILED w_TOO_LARGE w_ALL k_ALL W x0 h0 n0 O0 (fun q => hc139 q.symm) (fun q => hc144 q.symm) (fun q => hc149 q.symm) (fun q => hc154 q.symm) hc159.symm) X161 hx hby hZ hown (own_w hw 11 rfl) (own_w hw 12 rfl) (own_w hw 13 rfl) (own_w hw 14 rfl) (by decide) (by rw [hml]; rfl) [(.int x0)] [(.ref w_TOO_LARGE)] pd_0 rfl at_20 rfl e161 rfl rfl rfl (by decide) (by decide) (by decide) (by decide) ?_
      rintro _ T162 L162 X162 ⟨rfl, N162, e162⟩
      have N162 := Fr.app N161 N162
      show Go p e below _ (T162.setTop (mkF m 23 _ [(.ref w_TOO_LARGE), (.ref w_TOO_LARGE)]))
      refine own_acmp 26 true X162 hx hby at_23 rfl rfl (by decide) (by decide) (decide_eq_true (congrArg Value.ref rfl)) ?_
      refine own_aload 28 X162 hx hby at_26 rfl rfl rfl ?_
      refine own_iload_n 29 X162 hx hby at_28 rfl rfl ?_
      refine own_callS (W := 1) 32 (rm2_4 l Z a0 hw [] w_HANDLED w_UNKNOWN_TRANSACTION w_NO_SUCH_OBJECT w_FAILED w_TOO_LARGE w_ALL k_ALL W (3 : Int32) h0 n0 O0 (by decide) (by decide) (by decide) (by decide)) X162 hx hby hZ hown (own_w hw 11 rfl) (own_w hw 12 rfl) (own_w hw 13 rfl) (own_w hw 14 rfl) (by decide) (by rw [hml]; rfl) [(.int (3 : Int32))] [(.ref w_FAILED)] pd_0 rfl at_29 rfl e162 rfl rfl rfl (by decide) (by decide) (by decide) (by decide) ?_
      rintro _ T163 L163 X163 ⟨rfl, N163, e163⟩
      have N163 := Fr.app N162 N163
      show Go p e below _ (T163.setTop (mkF m 32 _ [(.ref w_FAILED), (.ref w_FAILED)]))
      refine own_acmp 35 true X163 hx hby at_32 rfl rfl (by decide) (by decide) (decide_eq_true (congrArg Value.ref rfl)) ?_
      refine own_iconst 36 (1 : Int32) X163 hx hby at_35 rfl (by decide) ?_
      refine own_goto 40 X163 hx hby at_36 (by decide) (by decide) ?_
      exact own_ret (Q := own_Q1 n0) X163 hx hby hret hlk at_40 rfl (Or.inl ⟨rfl, by simp, _, rfl⟩) (by decide) (by decide) ⟨rfl, N163⟩
    refine own_callS (W := 0) 11 (rm1_6 l Z a0 hw [] w_HANDLED w_UNKNOWN_TRANSACTION w_NO_SUCH_OBJECT w_FAILED w_TOO_LARGE w_ALL k_ALL W x0 h0 n0 O0 hc139 hc144 hc149 hc154 hc159) X0 hx hby hZ hown (own_w hw 0 rfl) (own_w hw 1 rfl) (own_w hw 2 rfl) (own_w hw 3 rfl) (by decide) (by rw [hml]; rfl) [(.int x0)] [] pd_0 rfl at_8 rfl e0 rfl rfl rfl (by decide) (by decide) (by decide) (by decide) ?_
    rintro _ T164 L164 X164 ⟨rfl, N164, e164⟩
    have N164 := Fr.app N0 N164
    show Go p e below _ (T164.setTop (mkF m 11 _ [.null]))
    refine own_astore_n 12 #[oI x0, oI x1, oI (3 : Int32), oN, oU] X164 hx hby at_11 rfl rfl rfl ?_
    refine own_iload_n 13 X164 hx hby at_12 rfl rfl ?_
    refine own_callS (W := 0) 16 (rm1_4 l Z a0 hw [] w_HANDLED w_UNKNOWN_TRANSACTION w_NO_SUCH_OBJECT w_FAILED w_TOO_LARGE w_ALL k_ALL W (3 : Int32) h0 n0 O0 (by decide) (by decide) (by decide) (by decide)) X164 hx hby hZ hown (own_w hw 0 rfl) (own_w hw 1 rfl) (own_w hw 2 rfl) (own_w hw 3 rfl) (by decide) (by rw [hml]; rfl) [(.int (3 : Int32))] [] pd_0 rfl at_13 rfl e164 rfl rfl rfl (by decide) (by decide) (by decide) (by decide) ?_
    rintro _ T165 L165 X165 ⟨rfl, N165, e165⟩
    have N165 := Fr.app N164 N165
    show Go p e below _ (T165.setTop (mkF m 16 _ [(.ref w_FAILED)]))
    refine own_astore 18 #[oI x0, oI x1, oI (3 : Int32), oN, oA w_FAILED] X165 hx hby at_16 rfl rfl rfl ?_
    refine own_aload_n 19 X165 hx hby at_18 rfl rfl rfl ?_
    refine own_iload_n 20 X165 hx hby at_19 rfl rfl ?_
    refine own_callS (W := 1) 23 (rm2_6 l Z a0 hw [] w_HANDLED w_UNKNOWN_TRANSACTION w_NO_SUCH_OBJECT w_FAILED w_TOO_LARGE w_ALL k_ALL W x0 h0 n0 O0 (fun q => hc139 q.symm) (fun q => hc144 q.symm) (fun q => hc149 q.symm) (fun q => hc154 q.symm) (fun q => hc159 q.symm)) X165 hx hby hZ hown (own_w hw 11 rfl) (own_w hw 12 rfl) (own_w hw 13 rfl) (own_w hw 14 rfl) (by decide) (by rw [hml]; rfl) [(.int x0)] [.null] pd_0 rfl at_20 rfl e165 rfl rfl rfl (by decide) (by decide) (by decide) (by decide) ?_
    rintro _ T166 L166 X166 ⟨rfl, N166, e166⟩
    have N166 := Fr.app N165 N166
    show Go p e below _ (T166.setTop (mkF m 23 _ [.null, .null]))
    refine own_acmp 26 true X166 hx hby at_23 rfl rfl (by decide) (by decide) (decide_eq_true rfl) ?_
    refine own_aload 28 X166 hx hby at_26 rfl rfl rfl ?_
    refine own_iload_n 29 X166 hx hby at_28 rfl rfl ?_
    refine own_callS (W := 1) 32 (rm2_4 l Z a0 hw [] w_HANDLED w_UNKNOWN_TRANSACTION w_NO_SUCH_OBJECT w_FAILED w_TOO_LARGE w_ALL k_ALL W (3 : Int32) h0 n0 O0 (by decide) (by decide) (by decide) (by decide)) X166 hx hby hZ hown (own_w hw 11 rfl) (own_w hw 12 rfl) (own_w hw 13 rfl) (own_w hw 14 rfl) (by decide) (by rw [hml]; rfl) [(.int (3 : Int32))] [(.ref w_FAILED)] pd_0 rfl at_29 rfl e166 rfl rfl rfl (by decide) (by decide) (by decide) (by decide) ?_
    rintro _ T167 L167 X167 ⟨rfl, N167, e167⟩
    have N167 := Fr.app N166 N167
    show Go p e below _ (T167.setTop (mkF m 32 _ [(.ref w_FAILED), (.ref w_FAILED)]))
    refine own_acmp 35 true X167 hx hby at_32 rfl rfl (by decide) (by decide) (decide_eq_true (congrArg Value.ref rfl)) ?_
    refine own_iconst 36 (1 : Int32) X167 hx hby at_35 rfl (by decide) ?_
    refine own_goto 40 X167 hx hby at_36 (by decide) (by decide) ?_
    exact own_ret (Q := own_Q1 n0) X167 hx hby hret hlk at_40 rfl (Or.inl ⟨rfl, by simp, _, rfl⟩) (by decide) (by decide) ⟨rfl, N167⟩
  · refine own_iand 4 (5 : Int32) X0 hx hby at_3 rfl hv1 ?_
    refine own_iconst 5 (1 : Int32) X0 hx hby at_4 rfl (by decide) ?_
    refine own_isub 6 (4 : Int32) X0 hx hby at_5 rfl (by decide) ?_
    refine own_istore_n 7 #[oI x0, oI x1, oI (4 : Int32), oU, oU] X0 hx hby at_6 rfl rfl ?_
    refine own_iload_n 8 X0 hx hby at_7 rfl rfl ?_
    by_cases hc168 : (0 : Int32) = x0
    · refine own_callS (W := 0) 11 (rm1_1 l Z a0 hw [] w_HANDLED w_UNKNOWN_TRANSACTION w_NO_SUCH_OBJECT w_FAILED w_TOO_LARGE w_ALL k_ALL W x0 h0 n0 O0 hc168) X0 hx hby hZ hown (own_w hw 0 rfl) (own_w hw 1 rfl) (own_w hw 2 rfl) (own_w hw 3 rfl) (by decide) (by rw [hml]; rfl) [(.int x0)] [] pd_0 rfl at_8 rfl e0 rfl rfl rfl (by decide) (by decide) (by decide) (by decide) ?_
      rintro _ T169 L169 X169 ⟨rfl, N169, e169⟩
      have N169 := Fr.app N0 N169
      show Go p e below _ (T169.setTop (mkF m 11 _ [(.ref w_HANDLED)]))
      refine own_astore_n 12 #[oI x0, oI x1, oI (4 : Int32), oA w_HANDLED, oU] X169 hx hby at_11 rfl rfl rfl ?_
      refine own_iload_n 13 X169 hx hby at_12 rfl rfl ?_
      refine own_callS (W := 0) 16 (rm1_5 l Z a0 hw [] w_HANDLED w_UNKNOWN_TRANSACTION w_NO_SUCH_OBJECT w_FAILED w_TOO_LARGE w_ALL k_ALL W (4 : Int32) h0 n0 O0 (by decide) (by decide) (by decide) (by decide) (by decide)) X169 hx hby hZ hown (own_w hw 0 rfl) (own_w hw 1 rfl) (own_w hw 2 rfl) (own_w hw 3 rfl) (by decide) (by rw [hml]; rfl) [(.int (4 : Int32))] [] pd_0 rfl at_13 rfl e169 rfl rfl rfl (by decide) (by decide) (by decide) (by decide) ?_
      rintro _ T170 L170 X170 ⟨rfl, N170, e170⟩
      have N170 := Fr.app N169 N170
      show Go p e below _ (T170.setTop (mkF m 16 _ [(.ref w_TOO_LARGE)]))
      refine own_astore 18 #[oI x0, oI x1, oI (4 : Int32), oA w_HANDLED, oA w_TOO_LARGE] X170 hx hby at_16 rfl rfl rfl ?_
      refine own_aload_n 19 X170 hx hby at_18 rfl rfl rfl ?_
      refine own_iload_n 20 X170 hx hby at_19 rfl rfl ?_
      refine own_callS (W := 1) 23 (rm2_1 l Z a0 hw [] w_HANDLED w_UNKNOWN_TRANSACTION w_NO_SUCH_OBJECT w_FAILED w_TOO_LARGE w_ALL k_ALL W x0 h0 n0 O0 hc168.symm) X170 hx hby hZ hown (own_w hw 11 rfl) (own_w hw 12 rfl) (own_w hw 13 rfl) (own_w hw 14 rfl) (by decide) (by rw [hml]; rfl) [(.int x0)] [(.ref w_HANDLED)] pd_0 rfl at_20 rfl e170 rfl rfl rfl (by decide) (by decide) (by decide) (by decide) ?_
      rintro _ T171 L171 X171 ⟨rfl, N171, e171⟩
      have N171 := Fr.app N170 N171
      show Go p e below _ (T171.setTop (mkF m 23 _ [(.ref w_HANDLED), (.ref w_HANDLED)]))
      refine own_acmp 26 true X171 hx hby at_23 rfl rfl (by decide) (by decide) (decide_eq_true (congrArg Value.ref rfl)) ?_
      refine own_aload 28 X171 hx hby at_26 rfl rfl rfl ?_
      refine own_iload_n 29 X171 hx hby at_28 rfl rfl ?_
      refine own_callS (W := 1) 32 (rm2_5 l Z a0 hw [] w_HANDLED w_UNKNOWN_TRANSACTION w_NO_SUCH_OBJECT w_FAILED w_TOO_LARGE w_ALL k_ALL W (4 : Int32) h0 n0 O0 (by decide) (by decide) (by decide) (by decide) (by decide)) X171 hx hby hZ hown (own_w hw 11 rfl) (own_w hw 12 rfl) (own_w hw 13 rfl) (own_w hw 14 rfl) (by decide) (by rw [hml]; rfl) [(.int (4 : Int32))] [(.ref w_TOO_LARGE)] pd_0 rfl at_29 rfl e171 rfl rfl rfl (by decide) (by decide) (by decide) (by decide) ?_
      rintro _ T172 L172 X172 ⟨rfl, N172, e172⟩
      have N172 := Fr.app N171 N172
      show Go p e below _ (T172.setTop (mkF m 32 _ [(.ref w_TOO_LARGE), (.ref w_TOO_LARGE)]))
      refine own_acmp 35 true X172 hx hby at_32 rfl rfl (by decide) (by decide) (decide_eq_true (congrArg Value.ref rfl)) ?_
      refine own_iconst 36 (1 : Int32) X172 hx hby at_35 rfl (by decide) ?_
      refine own_goto 40 X172 hx hby at_36 (by decide) (by decide) ?_
      exact own_ret (Q := own_Q1 n0) X172 hx hby hret hlk at_40 rfl (Or.inl ⟨rfl, by simp, _, rfl⟩) (by decide) (by decide) ⟨rfl, N172⟩
    by_cases hc173 : (1 : Int32) = x0
    · refine own_callS (W := 0) 11 (rm1_2 l Z a0 hw [] w_HANDLED w_UNKNOWN_TRANSACTION w_NO_SUCH_OBJECT w_FAILED w_TOO_LARGE w_ALL k_ALL W x0 h0 n0 O0 hc168 hc173) X0 hx hby hZ hown (own_w hw 0 rfl) (own_w hw 1 rfl) (own_w hw 2 rfl) (own_w hw 3 rfl) (by decide) (by rw [hml]; rfl) [(.int x0)] [] pd_0 rfl at_8 rfl e0 rfl rfl rfl (by decide) (by decide) (by decide) (by decide) ?_
      rintro _ T174 L174 X174 ⟨rfl, N174, e174⟩
      have N174 := Fr.app N0 N174
      show Go p e below _ (T174.setTop (mkF m 11 _ [(.ref w_UNKNOWN_TRANSACTION)]))
      refine own_astore_n 12 #[oI x0, oI x1, oI (4 : Int32), oA w_UNKNOWN_TRANSACTION, oU] X174 hx hby at_11 rfl rfl rfl ?_
      refine own_iload_n 13 X174 hx hby at_12 rfl rfl ?_
      refine own_callS (W := 0) 16 (rm1_5 l Z a0 hw [] w_HANDLED w_UNKNOWN_TRANSACTION w_NO_SUCH_OBJECT w_FAILED w_TOO_LARGE w_ALL k_ALL W (4 : Int32) h0 n0 O0 (by decide) (by decide) (by decide) (by decide) (by decide)) X174 hx hby hZ hown (own_w hw 0 rfl) (own_w hw 1 rfl) (own_w hw 2 rfl) (own_w hw 3 rfl) (by decide) (by rw [hml]; rfl) [(.int (4 : Int32))] [] pd_0 rfl at_13 rfl e174 rfl rfl rfl (by decide) (by decide) (by decide) (by decide) ?_
      rintro _ T175 L175 X175 ⟨rfl, N175, e175⟩
      have N175 := Fr.app N174 N175
      show Go p e below _ (T175.setTop (mkF m 16 _ [(.ref w_TOO_LARGE)]))
      refine own_astore 18 #[oI x0, oI x1, oI (4 : Int32), oA w_UNKNOWN_TRANSACTION, oA w_TOO_LARGE] X175 hx hby at_16 rfl rfl rfl ?_
      refine own_aload_n 19 X175 hx hby at_18 rfl rfl rfl ?_
      refine own_iload_n 20 X175 hx hby at_19 rfl rfl ?_
      refine own_callS (W := 1) 23 (rm2_2 l Z a0 hw [] w_HANDLED w_UNKNOWN_TRANSACTION w_NO_SUCH_OBJECT w_FAILED w_TOO_LARGE w_ALL k_ALL W x0 h0 n0 O0 (fun q => hc168 q.symm) hc173.symm) X175 hx hby hZ hown (own_w hw 11 rfl) (own_w hw 12 rfl) (own_w hw 13 rfl) (own_w hw 14 rfl) (by decide) (by rw [hml]; rfl) [(.int x0)] [(.ref w_UNKNOWN_TRANSACTION)] pd_0 rfl at_20 rfl e175 rfl rfl rfl (by decide) (by decide) (by decide) (by decide) ?_
      rintro _ T176 L176 X176 ⟨rfl, N176, e176⟩
      have N176 := Fr.app N175 N176
      show Go p e below _ (T176.setTop (mkF m 23 _ [(.ref w_UNKNOWN_TRANSACTION), (.ref w_UNKNOWN_TRANSACTION)]))
      refine own_acmp 26 true X176 hx hby at_23 rfl rfl (by decide) (by decide) (decide_eq_true (congrArg Value.ref rfl)) ?_
      refine own_aload 28 X176 hx hby at_26 rfl rfl rfl ?_
      refine own_iload_n 29 X176 hx hby at_28 rfl rfl ?_
      refine own_callS (W := 1) 32 (rm2_5 l Z a0 hw [] w_HANDLED w_UNKNOWN_TRANSACTION w_NO_SUCH_OBJECT w_FAILED w_TOO_LARGE w_ALL k_ALL W (4 : Int32) h0 n0 O0 (by decide) (by decide) (by decide) (by decide) (by decide)) X176 hx hby hZ hown (own_w hw 11 rfl) (own_w hw 12 rfl) (own_w hw 13 rfl) (own_w hw 14 rfl) (by decide) (by rw [hml]; rfl) [(.int (4 : Int32))] [(.ref w_TOO_LARGE)] pd_0 rfl at_29 rfl e176 rfl rfl rfl (by decide) (by decide) (by decide) (by decide) ?_
      rintro _ T177 L177 X177 ⟨rfl, N177, e177⟩
      have N177 := Fr.app N176 N177
      show Go p e below _ (T177.setTop (mkF m 32 _ [(.ref w_TOO_LARGE), (.ref w_TOO_LARGE)]))
      refine own_acmp 35 true X177 hx hby at_32 rfl rfl (by decide) (by decide) (decide_eq_true (congrArg Value.ref rfl)) ?_
      refine own_iconst 36 (1 : Int32) X177 hx hby at_35 rfl (by decide) ?_
      refine own_goto 40 X177 hx hby at_36 (by decide) (by decide) ?_
      exact own_ret (Q := own_Q1 n0) X177 hx hby hret hlk at_40 rfl (Or.inl ⟨rfl, by simp, _, rfl⟩) (by decide) (by decide) ⟨rfl, N177⟩
    by_cases hc178 : (2 : Int32) = x0
    · refine own_callS (W := 0) 11 (rm1_3 l Z a0 hw [] w_HANDLED w_UNKNOWN_TRANSACTION w_NO_SUCH_OBJECT w_FAILED w_TOO_LARGE w_ALL k_ALL W x0 h0 n0 O0 hc168 hc173 hc178) X0 hx hby hZ hown (own_w hw 0 rfl) (own_w hw 1 rfl) (own_w hw 2 rfl) (own_w hw 3 rfl) (by decide) (by rw [hml]; rfl) [(.int x0)] [] pd_0 rfl at_8 rfl e0 rfl rfl rfl (by decide) (by decide) (by decide) (by decide) ?_
      rintro _ T179 L179 X179 ⟨rfl, N179, e179⟩
      have N179 := Fr.app N0 N179
      show Go p e below _ (T179.setTop (mkF m 11 _ [(.ref w_NO_SUCH_OBJECT)]))
      refine own_astore_n 12 #[oI x0, oI x1, oI (4 : Int32), oA w_NO_SUCH_OBJECT, oU] X179 hx hby at_11 rfl rfl rfl ?_
      refine own_iload_n 13 X179 hx hby at_12 rfl rfl ?_
      refine own_callS (W := 0) 16 (rm1_5 l Z a0 hw [] w_HANDLED w_UNKNOWN_TRANSACTION w_NO_SUCH_OBJECT w_FAILED w_TOO_LARGE w_ALL k_ALL W (4 : Int32) h0 n0 O0 (by decide) (by decide) (by decide) (by decide) (by decide)) X179 hx hby hZ hown (own_w hw 0 rfl) (own_w hw 1 rfl) (own_w hw 2 rfl) (own_w hw 3 rfl) (by decide) (by rw [hml]; rfl) [(.int (4 : Int32))] [] pd_0 rfl at_13 rfl e179 rfl rfl rfl (by decide) (by decide) (by decide) (by decide) ?_
      rintro _ T180 L180 X180 ⟨rfl, N180, e180⟩
      have N180 := Fr.app N179 N180
      show Go p e below _ (T180.setTop (mkF m 16 _ [(.ref w_TOO_LARGE)]))
      refine own_astore 18 #[oI x0, oI x1, oI (4 : Int32), oA w_NO_SUCH_OBJECT, oA w_TOO_LARGE] X180 hx hby at_16 rfl rfl rfl ?_
      refine own_aload_n 19 X180 hx hby at_18 rfl rfl rfl ?_
      refine own_iload_n 20 X180 hx hby at_19 rfl rfl ?_
      refine own_callS (W := 1) 23 (rm2_3 l Z a0 hw [] w_HANDLED w_UNKNOWN_TRANSACTION w_NO_SUCH_OBJECT w_FAILED w_TOO_LARGE w_ALL k_ALL W x0 h0 n0 O0 (fun q => hc168 q.symm) (fun q => hc173 q.symm) hc178.symm) X180 hx hby hZ hown (own_w hw 11 rfl) (own_w hw 12 rfl) (own_w hw 13 rfl) (own_w hw 14 rfl) (by decide) (by rw [hml]; rfl) [(.int x0)] [(.ref w_NO_SUCH_OBJECT)] pd_0 rfl at_20 rfl e180 rfl rfl rfl (by decide) (by decide) (by decide) (by decide) ?_
      rintro _ T181 L181 X181 ⟨rfl, N181, e181⟩
      have N181 := Fr.app N180 N181
      show Go p e below _ (T181.setTop (mkF m 23 _ [(.ref w_NO_SUCH_OBJECT), (.ref w_NO_SUCH_OBJECT)]))
      refine own_acmp 26 true X181 hx hby at_23 rfl rfl (by decide) (by decide) (decide_eq_true (congrArg Value.ref rfl)) ?_
      refine own_aload 28 X181 hx hby at_26 rfl rfl rfl ?_
      refine own_iload_n 29 X181 hx hby at_28 rfl rfl ?_
      refine own_callS (W := 1) 32 (rm2_5 l Z a0 hw [] w_HANDLED w_UNKNOWN_TRANSACTION w_NO_SUCH_OBJECT w_FAILED w_TOO_LARGE w_ALL k_ALL W (4 : Int32) h0 n0 O0 (by decide) (by decide) (by decide) (by decide) (by decide)) X181 hx hby hZ hown (own_w hw 11 rfl) (own_w hw 12 rfl) (own_w hw 13 rfl) (own_w hw 14 rfl) (by decide) (by rw [hml]; rfl) [(.int (4 : Int32))] [(.ref w_TOO_LARGE)] pd_0 rfl at_29 rfl e181 rfl rfl rfl (by decide) (by decide) (by decide) (by decide) ?_
      rintro _ T182 L182 X182 ⟨rfl, N182, e182⟩
      have N182 := Fr.app N181 N182
      show Go p e below _ (T182.setTop (mkF m 32 _ [(.ref w_TOO_LARGE), (.ref w_TOO_LARGE)]))
      refine own_acmp 35 true X182 hx hby at_32 rfl rfl (by decide) (by decide) (decide_eq_true (congrArg Value.ref rfl)) ?_
      refine own_iconst 36 (1 : Int32) X182 hx hby at_35 rfl (by decide) ?_
      refine own_goto 40 X182 hx hby at_36 (by decide) (by decide) ?_
      exact own_ret (Q := own_Q1 n0) X182 hx hby hret hlk at_40 rfl (Or.inl ⟨rfl, by simp, _, rfl⟩) (by decide) (by decide) ⟨rfl, N182⟩
    by_cases hc183 : (3 : Int32) = x0
    · refine own_callS (W := 0) 11 (rm1_4 l Z a0 hw [] w_HANDLED w_UNKNOWN_TRANSACTION w_NO_SUCH_OBJECT w_FAILED w_TOO_LARGE w_ALL k_ALL W x0 h0 n0 O0 hc168 hc173 hc178 hc183) X0 hx hby hZ hown (own_w hw 0 rfl) (own_w hw 1 rfl) (own_w hw 2 rfl) (own_w hw 3 rfl) (by decide) (by rw [hml]; rfl) [(.int x0)] [] pd_0 rfl at_8 rfl e0 rfl rfl rfl (by decide) (by decide) (by decide) (by decide) ?_
      rintro _ T184 L184 X184 ⟨rfl, N184, e184⟩
      have N184 := Fr.app N0 N184
      show Go p e below _ (T184.setTop (mkF m 11 _ [(.ref w_FAILED)]))
      refine own_astore_n 12 #[oI x0, oI x1, oI (4 : Int32), oA w_FAILED, oU] X184 hx hby at_11 rfl rfl rfl ?_
      refine own_iload_n 13 X184 hx hby at_12 rfl rfl ?_
      refine own_callS (W := 0) 16 (rm1_5 l Z a0 hw [] w_HANDLED w_UNKNOWN_TRANSACTION w_NO_SUCH_OBJECT w_FAILED w_TOO_LARGE w_ALL k_ALL W (4 : Int32) h0 n0 O0 (by decide) (by decide) (by decide) (by decide) (by decide)) X184 hx hby hZ hown (own_w hw 0 rfl) (own_w hw 1 rfl) (own_w hw 2 rfl) (own_w hw 3 rfl) (by decide) (by rw [hml]; rfl) [(.int (4 : Int32))] [] pd_0 rfl at_13 rfl e184 rfl rfl rfl (by decide) (by decide) (by decide) (by decide) ?_
      rintro _ T185 L185 X185 ⟨rfl, N185, e185⟩
      have N185 := Fr.app N184 N185
      show Go p e below _ (T185.setTop (mkF m 16 _ [(.ref w_TOO_LARGE)]))
      refine own_astore 18 #[oI x0, oI x1, oI (4 : Int32), oA w_FAILED, oA w_TOO_LARGE] X185 hx hby at_16 rfl rfl rfl ?_
      refine own_aload_n 19 X185 hx hby at_18 rfl rfl rfl ?_
      refine own_iload_n 20 X185 hx hby at_19 rfl rfl ?_
      refine own_callS (W := 1) 23 (rm2_4 l Z a0 hw [] w_HANDLED w_UNKNOWN_TRANSACTION w_NO_SUCH_OBJECT w_FAILED w_TOO_LARGE w_ALL k_ALL W x0 h0 n0 O0 (fun q => hc168 q.symm) (fun q => hc173 q.symm) (fun q => hc178 q.symm) hc183.symm) X185 hx hby hZ hown (own_w hw 11 rfl) (own_w hw 12 rfl) (own_w hw 13 rfl) (own_w hw 14 rfl) (by decide) (by rw [hml]; rfl) [(.int x0)] [(.ref w_FAILED)] pd_0 rfl at_20 rfl e185 rfl rfl rfl (by decide) (by decide) (by decide) (by decide) ?_
      rintro _ T186 L186 X186 ⟨rfl, N186, e186⟩
      have N186 := Fr.app N185 N186
      show Go p e below _ (T186.setTop (mkF m 23 _ [(.ref w_FAILED), (.ref w_FAILED)]))
      refine own_acmp 26 true X186 hx hby at_23 rfl rfl (by decide) (by decide) (decide_eq_true (congrArg Value.ref rfl)) ?_
      refine own_aload 28 X186 hx hby at_26 rfl rfl rfl ?_
      refine own_iload_n 29 X186 hx hby at_28 rfl rfl ?_
      refine own_callS (W := 1) 32 (rm2_5 l Z a0 hw [] w_HANDLED w_UNKNOWN_TRANSACTION w_NO_SUCH_OBJECT w_FAILED w_TOO_LARGE w_ALL k_ALL W (4 : Int32) h0 n0 O0 (by decide) (by decide) (by decide) (by decide) (by decide)) X186 hx hby hZ hown (own_w hw 11 rfl) (own_w hw 12 rfl) (own_w hw 13 rfl) (own_w hw 14 rfl) (by decide) (by rw [hml]; rfl) [(.int (4 : Int32))] [(.ref w_TOO_LARGE)] pd_0 rfl at_29 rfl e186 rfl rfl rfl (by decide) (by decide) (by decide) (by decide) ?_
      rintro _ T187 L187 X187 ⟨rfl, N187, e187⟩
      have N187 := Fr.app N186 N187
      show Go p e below _ (T187.setTop (mkF m 32 _ [(.ref w_TOO_LARGE), (.ref w_TOO_LARGE)]))
      refine own_acmp 35 true X187 hx hby at_32 rfl rfl (by decide) (by decide) (decide_eq_true (congrArg Value.ref rfl)) ?_
      refine own_iconst 36 (1 : Int32) X187 hx hby at_35 rfl (by decide) ?_
      refine own_goto 40 X187 hx hby at_36 (by decide) (by decide) ?_
      exact own_ret (Q := own_Q1 n0) X187 hx hby hret hlk at_40 rfl (Or.inl ⟨rfl, by simp, _, rfl⟩) (by decide) (by decide) ⟨rfl, N187⟩
    by_cases hc188 : (4 : Int32) = x0
    · refine own_callS (W := 0) 11 (rm1_5 l Z a0 hw [] w_HANDLED w_UNKNOWN_TRANSACTION w_NO_SUCH_OBJECT w_FAILED w_TOO_LARGE w_ALL k_ALL W x0 h0 n0 O0 hc168 hc173 hc178 hc183 hc188) X0 hx hby hZ hown (own_w hw 0 rfl) (own_w hw 1 rfl) (own_w hw 2 rfl) (own_w hw 3 rfl) (by decide) (by rw [hml]; rfl) [(.int x0)] [] pd_0 rfl at_8 rfl e0 rfl rfl rfl (by decide) (by decide) (by decide) (by decide) ?_
      rintro _ T189 L189 X189 ⟨rfl, N189, e189⟩
      have N189 := Fr.app N0 N189
      show Go p e below _ (T189.setTop (mkF m 11 _ [(.ref w_TOO_LARGE)]))
      refine own_astore_n 12 #[oI x0, oI x1, oI (4 : Int32), oA w_TOO_LARGE, oU] X189 hx hby at_11 rfl rfl rfl ?_
      refine own_iload_n 13 X189 hx hby at_12 rfl rfl ?_
      refine own_callS (W := 0) 16 (rm1_5 l Z a0 hw [] w_HANDLED w_UNKNOWN_TRANSACTION w_NO_SUCH_OBJECT w_FAILED w_TOO_LARGE w_ALL k_ALL W (4 : Int32) h0 n0 O0 (by decide) (by decide) (by decide) (by decide) (by decide)) X189 hx hby hZ hown (own_w hw 0 rfl) (own_w hw 1 rfl) (own_w hw 2 rfl) (own_w hw 3 rfl) (by decide) (by rw [hml]; rfl) [(.int (4 : Int32))] [] pd_0 rfl at_13 rfl e189 rfl rfl rfl (by decide) (by decide) (by decide) (by decide) ?_
      rintro _ T190 L190 X190 ⟨rfl, N190, e190⟩
      have N190 := Fr.app N189 N190
      show Go p e below _ (T190.setTop (mkF m 16 _ [(.ref w_TOO_LARGE)]))
      refine own_astore 18 #[oI x0, oI x1, oI (4 : Int32), oA w_TOO_LARGE, oA w_TOO_LARGE] X190 hx hby at_16 rfl rfl rfl ?_
      refine own_aload_n 19 X190 hx hby at_18 rfl rfl rfl ?_
      refine own_iload_n 20 X190 hx hby at_19 rfl rfl ?_
      refine own_callS (W := 1) 23 (rm2_5 l Z a0 hw [] w_HANDLED w_UNKNOWN_TRANSACTION w_NO_SUCH_OBJECT w_FAILED w_TOO_LARGE w_ALL k_ALL W x0 h0 n0 O0 (fun q => hc168 q.symm) (fun q => hc173 q.symm) (fun q => hc178 q.symm) (fun q => hc183 q.symm) hc188.symm) X190 hx hby hZ hown (own_w hw 11 rfl) (own_w hw 12 rfl) (own_w hw 13 rfl) (own_w hw 14 rfl) (by decide) (by rw [hml]; rfl) [(.int x0)] [(.ref w_TOO_LARGE)] pd_0 rfl at_20 rfl e190 rfl rfl rfl (by decide) (by decide) (by decide) (by decide) ?_
      rintro _ T191 L191 X191 ⟨rfl, N191, e191⟩
      have N191 := Fr.app N190 N191
      show Go p e below _ (T191.setTop (mkF m 23 _ [(.ref w_TOO_LARGE), (.ref w_TOO_LARGE)]))
      refine own_acmp 26 true X191 hx hby at_23 rfl rfl (by decide) (by decide) (decide_eq_true (congrArg Value.ref rfl)) ?_
      refine own_aload 28 X191 hx hby at_26 rfl rfl rfl ?_
      refine own_iload_n 29 X191 hx hby at_28 rfl rfl ?_
      refine own_callS (W := 1) 32 (rm2_5 l Z a0 hw [] w_HANDLED w_UNKNOWN_TRANSACTION w_NO_SUCH_OBJECT w_FAILED w_TOO_LARGE w_ALL k_ALL W (4 : Int32) h0 n0 O0 (by decide) (by decide) (by decide) (by decide) (by decide)) X191 hx hby hZ hown (own_w hw 11 rfl) (own_w hw 12 rfl) (own_w hw 13 rfl) (own_w hw 14 rfl) (by decide) (by rw [hml]; rfl) [(.int (4 : Int32))] [(.ref w_TOO_LARGE)] pd_0 rfl at_29 rfl e191 rfl rfl rfl (by decide) (by decide) (by decide) (by decide) ?_
      rintro _ T192 L192 X192 ⟨rfl, N192, e192⟩
      have N192 := Fr.app N191 N192
      show Go p e below _ (T192.setTop (mkF m 32 _ [(.ref w_TOO_LARGE), (.ref w_TOO_LARGE)]))
      refine own_acmp 35 true X192 hx hby at_32 rfl rfl (by decide) (by decide) (decide_eq_true (congrArg Value.ref rfl)) ?_
      refine own_iconst 36 (1 : Int32) X192 hx hby at_35 rfl (by decide) ?_
      refine own_goto 40 X192 hx hby at_36 (by decide) (by decide) ?_
      exact own_ret (Q := own_Q1 n0) X192 hx hby hret hlk at_40 rfl (Or.inl ⟨rfl, by simp, _, rfl⟩) (by decide) (by decide) ⟨rfl, N192⟩
    refine own_callS (W := 0) 11 (rm1_6 l Z a0 hw [] w_HANDLED w_UNKNOWN_TRANSACTION w_NO_SUCH_OBJECT w_FAILED w_TOO_LARGE w_ALL k_ALL W x0 h0 n0 O0 hc168 hc173 hc178 hc183 hc188) X0 hx hby hZ hown (own_w hw 0 rfl) (own_w hw 1 rfl) (own_w hw 2 rfl) (own_w hw 3 rfl) (by decide) (by rw [hml]; rfl) [(.int x0)] [] pd_0 rfl at_8 rfl e0 rfl rfl rfl (by decide) (by decide) (by decide) (by decide) ?_
    rintro _ T193 L193 X193 ⟨rfl, N193, e193⟩
    have N193 := Fr.app N0 N193
    show Go p e below _ (T193.setTop (mkF m 11 _ [.null]))
    refine own_astore_n 12 #[oI x0, oI x1, oI (4 : Int32), oN, oU] X193 hx hby at_11 rfl rfl rfl ?_
    refine own_iload_n 13 X193 hx hby at_12 rfl rfl ?_
    refine own_callS (W := 0) 16 (rm1_5 l Z a0 hw [] w_HANDLED w_UNKNOWN_TRANSACTION w_NO_SUCH_OBJECT w_FAILED w_TOO_LARGE w_ALL k_ALL W (4 : Int32) h0 n0 O0 (by decide) (by decide) (by decide) (by decide) (by decide)) X193 hx hby hZ hown (own_w hw 0 rfl) (own_w hw 1 rfl) (own_w hw 2 rfl) (own_w hw 3 rfl) (by decide) (by rw [hml]; rfl) [(.int (4 : Int32))] [] pd_0 rfl at_13 rfl e193 rfl rfl rfl (by decide) (by decide) (by decide) (by decide) ?_
    rintro _ T194 L194 X194 ⟨rfl, N194, e194⟩
    have N194 := Fr.app N193 N194
    show Go p e below _ (T194.setTop (mkF m 16 _ [(.ref w_TOO_LARGE)]))
    refine own_astore 18 #[oI x0, oI x1, oI (4 : Int32), oN, oA w_TOO_LARGE] X194 hx hby at_16 rfl rfl rfl ?_
    refine own_aload_n 19 X194 hx hby at_18 rfl rfl rfl ?_
    refine own_iload_n 20 X194 hx hby at_19 rfl rfl ?_
    refine own_callS (W := 1) 23 (rm2_6 l Z a0 hw [] w_HANDLED w_UNKNOWN_TRANSACTION w_NO_SUCH_OBJECT w_FAILED w_TOO_LARGE w_ALL k_ALL W x0 h0 n0 O0 (fun q => hc168 q.symm) (fun q => hc173 q.symm) (fun q => hc178 q.symm) (fun q => hc183 q.symm) (fun q => hc188 q.symm)) X194 hx hby hZ hown (own_w hw 11 rfl) (own_w hw 12 rfl) (own_w hw 13 rfl) (own_w hw 14 rfl) (by decide) (by rw [hml]; rfl) [(.int x0)] [.null] pd_0 rfl at_20 rfl e194 rfl rfl rfl (by decide) (by decide) (by decide) (by decide) ?_
    rintro _ T195 L195 X195 ⟨rfl, N195, e195⟩
    have N195 := Fr.app N194 N195
    show Go p e below _ (T195.setTop (mkF m 23 _ [.null, .null]))
    refine own_acmp 26 true X195 hx hby at_23 rfl rfl (by decide) (by decide) (decide_eq_true rfl) ?_
    refine own_aload 28 X195 hx hby at_26 rfl rfl rfl ?_
    refine own_iload_n 29 X195 hx hby at_28 rfl rfl ?_
    refine own_callS (W := 1) 32 (rm2_5 l Z a0 hw [] w_HANDLED w_UNKNOWN_TRANSACTION w_NO_SUCH_OBJECT w_FAILED w_TOO_LARGE w_ALL k_ALL W (4 : Int32) h0 n0 O0 (by decide) (by decide) (by decide) (by decide) (by decide)) X195 hx hby hZ hown (own_w hw 11 rfl) (own_w hw 12 rfl) (own_w hw 13 rfl) (own_w hw 14 rfl) (by decide) (by rw [hml]; rfl) [(.int (4 : Int32))] [(.ref w_TOO_LARGE)] pd_0 rfl at_29 rfl e195 rfl rfl rfl (by decide) (by decide) (by decide) (by decide) ?_
    rintro _ T196 L196 X196 ⟨rfl, N196, e196⟩
    have N196 := Fr.app N195 N196
    show Go p e below _ (T196.setTop (mkF m 32 _ [(.ref w_TOO_LARGE), (.ref w_TOO_LARGE)]))
    refine own_acmp 35 true X196 hx hby at_32 rfl rfl (by decide) (by decide) (decide_eq_true (congrArg Value.ref rfl)) ?_
    refine own_iconst 36 (1 : Int32) X196 hx hby at_35 rfl (by decide) ?_
    refine own_goto 40 X196 hx hby at_36 (by decide) (by decide) ?_
    exact own_ret (Q := own_Q1 n0) X196 hx hby hret hlk at_40 rfl (Or.inl ⟨rfl, by simp, _, rfl⟩) (by decide) (by decide) ⟨rfl, N196⟩
  · refine own_iand 4 (6 : Int32) X0 hx hby at_3 rfl hv1 ?_
    refine own_iconst 5 (1 : Int32) X0 hx hby at_4 rfl (by decide) ?_
    refine own_isub 6 (5 : Int32) X0 hx hby at_5 rfl (by decide) ?_
    refine own_istore_n 7 #[oI x0, oI x1, oI (5 : Int32), oU, oU] X0 hx hby at_6 rfl rfl ?_
    refine own_iload_n 8 X0 hx hby at_7 rfl rfl ?_
    by_cases hc197 : (0 : Int32) = x0
    · refine own_callS (W := 0) 11 (rm1_1 l Z a0 hw [] w_HANDLED w_UNKNOWN_TRANSACTION w_NO_SUCH_OBJECT w_FAILED w_TOO_LARGE w_ALL k_ALL W x0 h0 n0 O0 hc197) X0 hx hby hZ hown (own_w hw 0 rfl) (own_w hw 1 rfl) (own_w hw 2 rfl) (own_w hw 3 rfl) (by decide) (by rw [hml]; rfl) [(.int x0)] [] pd_0 rfl at_8 rfl e0 rfl rfl rfl (by decide) (by decide) (by decide) (by decide) ?_
      rintro _ T198 L198 X198 ⟨rfl, N198, e198⟩
      have N198 := Fr.app N0 N198
      show Go p e below _ (T198.setTop (mkF m 11 _ [(.ref w_HANDLED)]))
      refine own_astore_n 12 #[oI x0, oI x1, oI (5 : Int32), oA w_HANDLED, oU] X198 hx hby at_11 rfl rfl rfl ?_
      refine own_iload_n 13 X198 hx hby at_12 rfl rfl ?_
      refine own_callS (W := 0) 16 (rm1_6 l Z a0 hw [] w_HANDLED w_UNKNOWN_TRANSACTION w_NO_SUCH_OBJECT w_FAILED w_TOO_LARGE w_ALL k_ALL W (5 : Int32) h0 n0 O0 (by decide) (by decide) (by decide) (by decide) (by decide)) X198 hx hby hZ hown (own_w hw 0 rfl) (own_w hw 1 rfl) (own_w hw 2 rfl) (own_w hw 3 rfl) (by decide) (by rw [hml]; rfl) [(.int (5 : Int32))] [] pd_0 rfl at_13 rfl e198 rfl rfl rfl (by decide) (by decide) (by decide) (by decide) ?_
      rintro _ T199 L199 X199 ⟨rfl, N199, e199⟩
      have N199 := Fr.app N198 N199
      show Go p e below _ (T199.setTop (mkF m 16 _ [.null]))
      refine own_astore 18 #[oI x0, oI x1, oI (5 : Int32), oA w_HANDLED, oN] X199 hx hby at_16 rfl rfl rfl ?_
      refine own_aload_n 19 X199 hx hby at_18 rfl rfl rfl ?_
      refine own_iload_n 20 X199 hx hby at_19 rfl rfl ?_
      refine own_callS (W := 1) 23 (rm2_1 l Z a0 hw [] w_HANDLED w_UNKNOWN_TRANSACTION w_NO_SUCH_OBJECT w_FAILED w_TOO_LARGE w_ALL k_ALL W x0 h0 n0 O0 hc197.symm) X199 hx hby hZ hown (own_w hw 11 rfl) (own_w hw 12 rfl) (own_w hw 13 rfl) (own_w hw 14 rfl) (by decide) (by rw [hml]; rfl) [(.int x0)] [(.ref w_HANDLED)] pd_0 rfl at_20 rfl e199 rfl rfl rfl (by decide) (by decide) (by decide) (by decide) ?_
      rintro _ T200 L200 X200 ⟨rfl, N200, e200⟩
      have N200 := Fr.app N199 N200
      show Go p e below _ (T200.setTop (mkF m 23 _ [(.ref w_HANDLED), (.ref w_HANDLED)]))
      refine own_acmp 26 true X200 hx hby at_23 rfl rfl (by decide) (by decide) (decide_eq_true (congrArg Value.ref rfl)) ?_
      refine own_aload 28 X200 hx hby at_26 rfl rfl rfl ?_
      refine own_iload_n 29 X200 hx hby at_28 rfl rfl ?_
      refine own_callS (W := 1) 32 (rm2_6 l Z a0 hw [] w_HANDLED w_UNKNOWN_TRANSACTION w_NO_SUCH_OBJECT w_FAILED w_TOO_LARGE w_ALL k_ALL W (5 : Int32) h0 n0 O0 (by decide) (by decide) (by decide) (by decide) (by decide)) X200 hx hby hZ hown (own_w hw 11 rfl) (own_w hw 12 rfl) (own_w hw 13 rfl) (own_w hw 14 rfl) (by decide) (by rw [hml]; rfl) [(.int (5 : Int32))] [.null] pd_0 rfl at_29 rfl e200 rfl rfl rfl (by decide) (by decide) (by decide) (by decide) ?_
      rintro _ T201 L201 X201 ⟨rfl, N201, e201⟩
      have N201 := Fr.app N200 N201
      show Go p e below _ (T201.setTop (mkF m 32 _ [.null, .null]))
      refine own_acmp 35 true X201 hx hby at_32 rfl rfl (by decide) (by decide) (decide_eq_true rfl) ?_
      refine own_iconst 36 (1 : Int32) X201 hx hby at_35 rfl (by decide) ?_
      refine own_goto 40 X201 hx hby at_36 (by decide) (by decide) ?_
      exact own_ret (Q := own_Q1 n0) X201 hx hby hret hlk at_40 rfl (Or.inl ⟨rfl, by simp, _, rfl⟩) (by decide) (by decide) ⟨rfl, N201⟩
    by_cases hc202 : (1 : Int32) = x0
    · refine own_callS (W := 0) 11 (rm1_2 l Z a0 hw [] w_HANDLED w_UNKNOWN_TRANSACTION w_NO_SUCH_OBJECT w_FAILED w_TOO_LARGE w_ALL k_ALL W x0 h0 n0 O0 hc197 hc202) X0 hx hby hZ hown (own_w hw 0 rfl) (own_w hw 1 rfl) (own_w hw 2 rfl) (own_w hw 3 rfl) (by decide) (by rw [hml]; rfl) [(.int x0)] [] pd_0 rfl at_8 rfl e0 rfl rfl rfl (by decide) (by decide) (by decide) (by decide) ?_
      rintro _ T203 L203 X203 ⟨rfl, N203, e203⟩
      have N203 := Fr.app N0 N203
      show Go p e below _ (T203.setTop (mkF m 11 _ [(.ref w_UNKNOWN_TRANSACTION)]))
      refine own_astore_n 12 #[oI x0, oI x1, oI (5 : Int32), oA w_UNKNOWN_TRANSACTION, oU] X203 hx hby at_11 rfl rfl rfl ?_
      refine own_iload_n 13 X203 hx hby at_12 rfl rfl ?_
      refine own_callS (W := 0) 16 (rm1_6 l Z a0 hw [] w_HANDLED w_UNKNOWN_TRANSACTION w_NO_SUCH_OBJECT w_FAILED w_TOO_LARGE w_ALL k_ALL W (5 : Int32) h0 n0 O0 (by decide) (by decide) (by decide) (by decide) (by decide)) X203 hx hby hZ hown (own_w hw 0 rfl) (own_w hw 1 rfl) (own_w hw 2 rfl) (own_w hw 3 rfl) (by decide) (by rw [hml]; rfl) [(.int (5 : Int32))] [] pd_0 rfl at_13 rfl e203 rfl rfl rfl (by decide) (by decide) (by decide) (by decide) ?_
      rintro _ T204 L204 X204 ⟨rfl, N204, e204⟩
      have N204 := Fr.app N203 N204
      show Go p e below _ (T204.setTop (mkF m 16 _ [.null]))
      refine own_astore 18 #[oI x0, oI x1, oI (5 : Int32), oA w_UNKNOWN_TRANSACTION, oN] X204 hx hby at_16 rfl rfl rfl ?_
      refine own_aload_n 19 X204 hx hby at_18 rfl rfl rfl ?_
      refine own_iload_n 20 X204 hx hby at_19 rfl rfl ?_
      refine own_callS (W := 1) 23 (rm2_2 l Z a0 hw [] w_HANDLED w_UNKNOWN_TRANSACTION w_NO_SUCH_OBJECT w_FAILED w_TOO_LARGE w_ALL k_ALL W x0 h0 n0 O0 (fun q => hc197 q.symm) hc202.symm) X204 hx hby hZ hown (own_w hw 11 rfl) (own_w hw 12 rfl) (own_w hw 13 rfl) (own_w hw 14 rfl) (by decide) (by rw [hml]; rfl) [(.int x0)] [(.ref w_UNKNOWN_TRANSACTION)] pd_0 rfl at_20 rfl e204 rfl rfl rfl (by decide) (by decide) (by decide) (by decide) ?_
      rintro _ T205 L205 X205 ⟨rfl, N205, e205⟩
      have N205 := Fr.app N204 N205
      show Go p e below _ (T205.setTop (mkF m 23 _ [(.ref w_UNKNOWN_TRANSACTION), (.ref w_UNKNOWN_TRANSACTION)]))
      refine own_acmp 26 true X205 hx hby at_23 rfl rfl (by decide) (by decide) (decide_eq_true (congrArg Value.ref rfl)) ?_
      refine own_aload 28 X205 hx hby at_26 rfl rfl rfl ?_
      refine own_iload_n 29 X205 hx hby at_28 rfl rfl ?_
      refine own_callS (W := 1) 32 (rm2_6 l Z a0 hw [] w_HANDLED w_UNKNOWN_TRANSACTION w_NO_SUCH_OBJECT w_FAILED w_TOO_LARGE w_ALL k_ALL W (5 : Int32) h0 n0 O0 (by decide) (by decide) (by decide) (by decide) (by decide)) X205 hx hby hZ hown (own_w hw 11 rfl) (own_w hw 12 rfl) (own_w hw 13 rfl) (own_w hw 14 rfl) (by decide) (by rw [hml]; rfl) [(.int (5 : Int32))] [.null] pd_0 rfl at_29 rfl e205 rfl rfl rfl (by decide) (by decide) (by decide) (by decide) ?_
      rintro _ T206 L206 X206 ⟨rfl, N206, e206⟩
      have N206 := Fr.app N205 N206
      show Go p e below _ (T206.setTop (mkF m 32 _ [.null, .null]))
      refine own_acmp 35 true X206 hx hby at_32 rfl rfl (by decide) (by decide) (decide_eq_true rfl) ?_
      refine own_iconst 36 (1 : Int32) X206 hx hby at_35 rfl (by decide) ?_
      refine own_goto 40 X206 hx hby at_36 (by decide) (by decide) ?_
      exact own_ret (Q := own_Q1 n0) X206 hx hby hret hlk at_40 rfl (Or.inl ⟨rfl, by simp, _, rfl⟩) (by decide) (by decide) ⟨rfl, N206⟩
    by_cases hc207 : (2 : Int32) = x0
    · refine own_callS (W := 0) 11 (rm1_3 l Z a0 hw [] w_HANDLED w_UNKNOWN_TRANSACTION w_NO_SUCH_OBJECT w_FAILED w_TOO_LARGE w_ALL k_ALL W x0 h0 n0 O0 hc197 hc202 hc207) X0 hx hby hZ hown (own_w hw 0 rfl) (own_w hw 1 rfl) (own_w hw 2 rfl) (own_w hw 3 rfl) (by decide) (by rw [hml]; rfl) [(.int x0)] [] pd_0 rfl at_8 rfl e0 rfl rfl rfl (by decide) (by decide) (by decide) (by decide) ?_
      rintro _ T208 L208 X208 ⟨rfl, N208, e208⟩
      have N208 := Fr.app N0 N208
      show Go p e below _ (T208.setTop (mkF m 11 _ [(.ref w_NO_SUCH_OBJECT)]))
      refine own_astore_n 12 #[oI x0, oI x1, oI (5 : Int32), oA w_NO_SUCH_OBJECT, oU] X208 hx hby at_11 rfl rfl rfl ?_
      refine own_iload_n 13 X208 hx hby at_12 rfl rfl ?_
      refine own_callS (W := 0) 16 (rm1_6 l Z a0 hw [] w_HANDLED w_UNKNOWN_TRANSACTION w_NO_SUCH_OBJECT w_FAILED w_TOO_LARGE w_ALL k_ALL W (5 : Int32) h0 n0 O0 (by decide) (by decide) (by decide) (by decide) (by decide)) X208 hx hby hZ hown (own_w hw 0 rfl) (own_w hw 1 rfl) (own_w hw 2 rfl) (own_w hw 3 rfl) (by decide) (by rw [hml]; rfl) [(.int (5 : Int32))] [] pd_0 rfl at_13 rfl e208 rfl rfl rfl (by decide) (by decide) (by decide) (by decide) ?_
      rintro _ T209 L209 X209 ⟨rfl, N209, e209⟩
      have N209 := Fr.app N208 N209
      show Go p e below _ (T209.setTop (mkF m 16 _ [.null]))
      refine own_astore 18 #[oI x0, oI x1, oI (5 : Int32), oA w_NO_SUCH_OBJECT, oN] X209 hx hby at_16 rfl rfl rfl ?_
      refine own_aload_n 19 X209 hx hby at_18 rfl rfl rfl ?_
      refine own_iload_n 20 X209 hx hby at_19 rfl rfl ?_
      refine own_callS (W := 1) 23 (rm2_3 l Z a0 hw [] w_HANDLED w_UNKNOWN_TRANSACTION w_NO_SUCH_OBJECT w_FAILED w_TOO_LARGE w_ALL k_ALL W x0 h0 n0 O0 (fun q => hc197 q.symm) (fun q => hc202 q.symm) hc207.symm) X209 hx hby hZ hown (own_w hw 11 rfl) (own_w hw 12 rfl) (own_w hw 13 rfl) (own_w hw 14 rfl) (by decide) (by rw [hml]; rfl) [(.int x0)] [(.ref w_NO_SUCH_OBJECT)] pd_0 rfl at_20 rfl e209 rfl rfl rfl (by decide) (by decide) (by decide) (by decide) ?_
      rintro _ T210 L210 X210 ⟨rfl, N210, e210⟩
      have N210 := Fr.app N209 N210
      show Go p e below _ (T210.setTop (mkF m 23 _ [(.ref w_NO_SUCH_OBJECT), (.ref w_NO_SUCH_OBJECT)]))
      refine own_acmp 26 true X210 hx hby at_23 rfl rfl (by decide) (by decide) (decide_eq_true (congrArg Value.ref rfl)) ?_
      refine own_aload 28 X210 hx hby at_26 rfl rfl rfl ?_
      refine own_iload_n 29 X210 hx hby at_28 rfl rfl ?_
      refine own_callS (W := 1) 32 (rm2_6 l Z a0 hw [] w_HANDLED w_UNKNOWN_TRANSACTION w_NO_SUCH_OBJECT w_FAILED w_TOO_LARGE w_ALL k_ALL W (5 : Int32) h0 n0 O0 (by decide) (by decide) (by decide) (by decide) (by decide)) X210 hx hby hZ hown (own_w hw 11 rfl) (own_w hw 12 rfl) (own_w hw 13 rfl) (own_w hw 14 rfl) (by decide) (by rw [hml]; rfl) [(.int (5 : Int32))] [.null] pd_0 rfl at_29 rfl e210 rfl rfl rfl (by decide) (by decide) (by decide) (by decide) ?_
      rintro _ T211 L211 X211 ⟨rfl, N211, e211⟩
      have N211 := Fr.app N210 N211
      show Go p e below _ (T211.setTop (mkF m 32 _ [.null, .null]))
      refine own_acmp 35 true X211 hx hby at_32 rfl rfl (by decide) (by decide) (decide_eq_true rfl) ?_
      refine own_iconst 36 (1 : Int32) X211 hx hby at_35 rfl (by decide) ?_
      refine own_goto 40 X211 hx hby at_36 (by decide) (by decide) ?_
      exact own_ret (Q := own_Q1 n0) X211 hx hby hret hlk at_40 rfl (Or.inl ⟨rfl, by simp, _, rfl⟩) (by decide) (by decide) ⟨rfl, N211⟩
    by_cases hc212 : (3 : Int32) = x0
    · refine own_callS (W := 0) 11 (rm1_4 l Z a0 hw [] w_HANDLED w_UNKNOWN_TRANSACTION w_NO_SUCH_OBJECT w_FAILED w_TOO_LARGE w_ALL k_ALL W x0 h0 n0 O0 hc197 hc202 hc207 hc212) X0 hx hby hZ hown (own_w hw 0 rfl) (own_w hw 1 rfl) (own_w hw 2 rfl) (own_w hw 3 rfl) (by decide) (by rw [hml]; rfl) [(.int x0)] [] pd_0 rfl at_8 rfl e0 rfl rfl rfl (by decide) (by decide) (by decide) (by decide) ?_
      rintro _ T213 L213 X213 ⟨rfl, N213, e213⟩
      have N213 := Fr.app N0 N213
      show Go p e below _ (T213.setTop (mkF m 11 _ [(.ref w_FAILED)]))
      refine own_astore_n 12 #[oI x0, oI x1, oI (5 : Int32), oA w_FAILED, oU] X213 hx hby at_11 rfl rfl rfl ?_
      refine own_iload_n 13 X213 hx hby at_12 rfl rfl ?_
      refine own_callS (W := 0) 16 (rm1_6 l Z a0 hw [] w_HANDLED w_UNKNOWN_TRANSACTION w_NO_SUCH_OBJECT w_FAILED w_TOO_LARGE w_ALL k_ALL W (5 : Int32) h0 n0 O0 (by decide) (by decide) (by decide) (by decide) (by decide)) X213 hx hby hZ hown (own_w hw 0 rfl) (own_w hw 1 rfl) (own_w hw 2 rfl) (own_w hw 3 rfl) (by decide) (by rw [hml]; rfl) [(.int (5 : Int32))] [] pd_0 rfl at_13 rfl e213 rfl rfl rfl (by decide) (by decide) (by decide) (by decide) ?_
      rintro _ T214 L214 X214 ⟨rfl, N214, e214⟩
      have N214 := Fr.app N213 N214
      show Go p e below _ (T214.setTop (mkF m 16 _ [.null]))
      refine own_astore 18 #[oI x0, oI x1, oI (5 : Int32), oA w_FAILED, oN] X214 hx hby at_16 rfl rfl rfl ?_
      refine own_aload_n 19 X214 hx hby at_18 rfl rfl rfl ?_
      refine own_iload_n 20 X214 hx hby at_19 rfl rfl ?_
      refine own_callS (W := 1) 23 (rm2_4 l Z a0 hw [] w_HANDLED w_UNKNOWN_TRANSACTION w_NO_SUCH_OBJECT w_FAILED w_TOO_LARGE w_ALL k_ALL W x0 h0 n0 O0 (fun q => hc197 q.symm) (fun q => hc202 q.symm) (fun q => hc207 q.symm) hc212.symm) X214 hx hby hZ hown (own_w hw 11 rfl) (own_w hw 12 rfl) (own_w hw 13 rfl) (own_w hw 14 rfl) (by decide) (by rw [hml]; rfl) [(.int x0)] [(.ref w_FAILED)] pd_0 rfl at_20 rfl e214 rfl rfl rfl (by decide) (by decide) (by decide) (by decide) ?_
      rintro _ T215 L215 X215 ⟨rfl, N215, e215⟩
      have N215 := Fr.app N214 N215
      show Go p e below _ (T215.setTop (mkF m 23 _ [(.ref w_FAILED), (.ref w_FAILED)]))
      refine own_acmp 26 true X215 hx hby at_23 rfl rfl (by decide) (by decide) (decide_eq_true (congrArg Value.ref rfl)) ?_
      refine own_aload 28 X215 hx hby at_26 rfl rfl rfl ?_
      refine own_iload_n 29 X215 hx hby at_28 rfl rfl ?_
      refine own_callS (W := 1) 32 (rm2_6 l Z a0 hw [] w_HANDLED w_UNKNOWN_TRANSACTION w_NO_SUCH_OBJECT w_FAILED w_TOO_LARGE w_ALL k_ALL W (5 : Int32) h0 n0 O0 (by decide) (by decide) (by decide) (by decide) (by decide)) X215 hx hby hZ hown (own_w hw 11 rfl) (own_w hw 12 rfl) (own_w hw 13 rfl) (own_w hw 14 rfl) (by decide) (by rw [hml]; rfl) [(.int (5 : Int32))] [.null] pd_0 rfl at_29 rfl e215 rfl rfl rfl (by decide) (by decide) (by decide) (by decide) ?_
      rintro _ T216 L216 X216 ⟨rfl, N216, e216⟩
      have N216 := Fr.app N215 N216
      show Go p e below _ (T216.setTop (mkF m 32 _ [.null, .null]))
      refine own_acmp 35 true X216 hx hby at_32 rfl rfl (by decide) (by decide) (decide_eq_true rfl) ?_
      refine own_iconst 36 (1 : Int32) X216 hx hby at_35 rfl (by decide) ?_
      refine own_goto 40 X216 hx hby at_36 (by decide) (by decide) ?_
      exact own_ret (Q := own_Q1 n0) X216 hx hby hret hlk at_40 rfl (Or.inl ⟨rfl, by simp, _, rfl⟩) (by decide) (by decide) ⟨rfl, N216⟩
    by_cases hc217 : (4 : Int32) = x0
    · refine own_callS (W := 0) 11 (rm1_5 l Z a0 hw [] w_HANDLED w_UNKNOWN_TRANSACTION w_NO_SUCH_OBJECT w_FAILED w_TOO_LARGE w_ALL k_ALL W x0 h0 n0 O0 hc197 hc202 hc207 hc212 hc217) X0 hx hby hZ hown (own_w hw 0 rfl) (own_w hw 1 rfl) (own_w hw 2 rfl) (own_w hw 3 rfl) (by decide) (by rw [hml]; rfl) [(.int x0)] [] pd_0 rfl at_8 rfl e0 rfl rfl rfl (by decide) (by decide) (by decide) (by decide) ?_
      rintro _ T218 L218 X218 ⟨rfl, N218, e218⟩
      have N218 := Fr.app N0 N218
      show Go p e below _ (T218.setTop (mkF m 11 _ [(.ref w_TOO_LARGE)]))
      refine own_astore_n 12 #[oI x0, oI x1, oI (5 : Int32), oA w_TOO_LARGE, oU] X218 hx hby at_11 rfl rfl rfl ?_
      refine own_iload_n 13 X218 hx hby at_12 rfl rfl ?_
      refine own_callS (W := 0) 16 (rm1_6 l Z a0 hw [] w_HANDLED w_UNKNOWN_TRANSACTION w_NO_SUCH_OBJECT w_FAILED w_TOO_LARGE w_ALL k_ALL W (5 : Int32) h0 n0 O0 (by decide) (by decide) (by decide) (by decide) (by decide)) X218 hx hby hZ hown (own_w hw 0 rfl) (own_w hw 1 rfl) (own_w hw 2 rfl) (own_w hw 3 rfl) (by decide) (by rw [hml]; rfl) [(.int (5 : Int32))] [] pd_0 rfl at_13 rfl e218 rfl rfl rfl (by decide) (by decide) (by decide) (by decide) ?_
      rintro _ T219 L219 X219 ⟨rfl, N219, e219⟩
      have N219 := Fr.app N218 N219
      show Go p e below _ (T219.setTop (mkF m 16 _ [.null]))
      refine own_astore 18 #[oI x0, oI x1, oI (5 : Int32), oA w_TOO_LARGE, oN] X219 hx hby at_16 rfl rfl rfl ?_
      refine own_aload_n 19 X219 hx hby at_18 rfl rfl rfl ?_
      refine own_iload_n 20 X219 hx hby at_19 rfl rfl ?_
      refine own_callS (W := 1) 23 (rm2_5 l Z a0 hw [] w_HANDLED w_UNKNOWN_TRANSACTION w_NO_SUCH_OBJECT w_FAILED w_TOO_LARGE w_ALL k_ALL W x0 h0 n0 O0 (fun q => hc197 q.symm) (fun q => hc202 q.symm) (fun q => hc207 q.symm) (fun q => hc212 q.symm) hc217.symm) X219 hx hby hZ hown (own_w hw 11 rfl) (own_w hw 12 rfl) (own_w hw 13 rfl) (own_w hw 14 rfl) (by decide) (by rw [hml]; rfl) [(.int x0)] [(.ref w_TOO_LARGE)] pd_0 rfl at_20 rfl e219 rfl rfl rfl (by decide) (by decide) (by decide) (by decide) ?_
      rintro _ T220 L220 X220 ⟨rfl, N220, e220⟩
      have N220 := Fr.app N219 N220
      show Go p e below _ (T220.setTop (mkF m 23 _ [(.ref w_TOO_LARGE), (.ref w_TOO_LARGE)]))
      refine own_acmp 26 true X220 hx hby at_23 rfl rfl (by decide) (by decide) (decide_eq_true (congrArg Value.ref rfl)) ?_
      refine own_aload 28 X220 hx hby at_26 rfl rfl rfl ?_
      refine own_iload_n 29 X220 hx hby at_28 rfl rfl ?_
      refine own_callS (W := 1) 32 (rm2_6 l Z a0 hw [] w_HANDLED w_UNKNOWN_TRANSACTION w_NO_SUCH_OBJECT w_FAILED w_TOO_LARGE w_ALL k_ALL W (5 : Int32) h0 n0 O0 (by decide) (by decide) (by decide) (by decide) (by decide)) X220 hx hby hZ hown (own_w hw 11 rfl) (own_w hw 12 rfl) (own_w hw 13 rfl) (own_w hw 14 rfl) (by decide) (by rw [hml]; rfl) [(.int (5 : Int32))] [.null] pd_0 rfl at_29 rfl e220 rfl rfl rfl (by decide) (by decide) (by decide) (by decide) ?_
      rintro _ T221 L221 X221 ⟨rfl, N221, e221⟩
      have N221 := Fr.app N220 N221
      show Go p e below _ (T221.setTop (mkF m 32 _ [.null, .null]))
      refine own_acmp 35 true X221 hx hby at_32 rfl rfl (by decide) (by decide) (decide_eq_true rfl) ?_
      refine own_iconst 36 (1 : Int32) X221 hx hby at_35 rfl (by decide) ?_
      refine own_goto 40 X221 hx hby at_36 (by decide) (by decide) ?_
      exact own_ret (Q := own_Q1 n0) X221 hx hby hret hlk at_40 rfl (Or.inl ⟨rfl, by simp, _, rfl⟩) (by decide) (by decide) ⟨rfl, N221⟩
    refine own_callS (W := 0) 11 (rm1_6 l Z a0 hw [] w_HANDLED w_UNKNOWN_TRANSACTION w_NO_SUCH_OBJECT w_FAILED w_TOO_LARGE w_ALL k_ALL W x0 h0 n0 O0 hc197 hc202 hc207 hc212 hc217) X0 hx hby hZ hown (own_w hw 0 rfl) (own_w hw 1 rfl) (own_w hw 2 rfl) (own_w hw 3 rfl) (by decide) (by rw [hml]; rfl) [(.int x0)] [] pd_0 rfl at_8 rfl e0 rfl rfl rfl (by decide) (by decide) (by decide) (by decide) ?_
    rintro _ T222 L222 X222 ⟨rfl, N222, e222⟩
    have N222 := Fr.app N0 N222
    show Go p e below _ (T222.setTop (mkF m 11 _ [.null]))
    refine own_astore_n 12 #[oI x0, oI x1, oI (5 : Int32), oN, oU] X222 hx hby at_11 rfl rfl rfl ?_
    refine own_iload_n 13 X222 hx hby at_12 rfl rfl ?_
    refine own_callS (W := 0) 16 (rm1_6 l Z a0 hw [] w_HANDLED w_UNKNOWN_TRANSACTION w_NO_SUCH_OBJECT w_FAILED w_TOO_LARGE w_ALL k_ALL W (5 : Int32) h0 n0 O0 (by decide) (by decide) (by decide) (by decide) (by decide)) X222 hx hby hZ hown (own_w hw 0 rfl) (own_w hw 1 rfl) (own_w hw 2 rfl) (own_w hw 3 rfl) (by decide) (by rw [hml]; rfl) [(.int (5 : Int32))] [] pd_0 rfl at_13 rfl e222 rfl rfl rfl (by decide) (by decide) (by decide) (by decide) ?_
    rintro _ T223 L223 X223 ⟨rfl, N223, e223⟩
    have N223 := Fr.app N222 N223
    show Go p e below _ (T223.setTop (mkF m 16 _ [.null]))
    refine own_astore 18 #[oI x0, oI x1, oI (5 : Int32), oN, oN] X223 hx hby at_16 rfl rfl rfl ?_
    refine own_aload_n 19 X223 hx hby at_18 rfl rfl rfl ?_
    refine own_iload_n 20 X223 hx hby at_19 rfl rfl ?_
    refine own_callS (W := 1) 23 (rm2_6 l Z a0 hw [] w_HANDLED w_UNKNOWN_TRANSACTION w_NO_SUCH_OBJECT w_FAILED w_TOO_LARGE w_ALL k_ALL W x0 h0 n0 O0 (fun q => hc197 q.symm) (fun q => hc202 q.symm) (fun q => hc207 q.symm) (fun q => hc212 q.symm) (fun q => hc217 q.symm)) X223 hx hby hZ hown (own_w hw 11 rfl) (own_w hw 12 rfl) (own_w hw 13 rfl) (own_w hw 14 rfl) (by decide) (by rw [hml]; rfl) [(.int x0)] [.null] pd_0 rfl at_20 rfl e223 rfl rfl rfl (by decide) (by decide) (by decide) (by decide) ?_
    rintro _ T224 L224 X224 ⟨rfl, N224, e224⟩
    have N224 := Fr.app N223 N224
    show Go p e below _ (T224.setTop (mkF m 23 _ [.null, .null]))
    refine own_acmp 26 true X224 hx hby at_23 rfl rfl (by decide) (by decide) (decide_eq_true rfl) ?_
    refine own_aload 28 X224 hx hby at_26 rfl rfl rfl ?_
    refine own_iload_n 29 X224 hx hby at_28 rfl rfl ?_
    refine own_callS (W := 1) 32 (rm2_6 l Z a0 hw [] w_HANDLED w_UNKNOWN_TRANSACTION w_NO_SUCH_OBJECT w_FAILED w_TOO_LARGE w_ALL k_ALL W (5 : Int32) h0 n0 O0 (by decide) (by decide) (by decide) (by decide) (by decide)) X224 hx hby hZ hown (own_w hw 11 rfl) (own_w hw 12 rfl) (own_w hw 13 rfl) (own_w hw 14 rfl) (by decide) (by rw [hml]; rfl) [(.int (5 : Int32))] [.null] pd_0 rfl at_29 rfl e224 rfl rfl rfl (by decide) (by decide) (by decide) (by decide) ?_
    rintro _ T225 L225 X225 ⟨rfl, N225, e225⟩
    have N225 := Fr.app N224 N225
    show Go p e below _ (T225.setTop (mkF m 32 _ [.null, .null]))
    refine own_acmp 35 true X225 hx hby at_32 rfl rfl (by decide) (by decide) (decide_eq_true rfl) ?_
    refine own_iconst 36 (1 : Int32) X225 hx hby at_35 rfl (by decide) ?_
    refine own_goto 40 X225 hx hby at_36 (by decide) (by decide) ?_
    exact own_ret (Q := own_Q1 n0) X225 hx hby hret hlk at_40 rfl (Or.inl ⟨rfl, by simp, _, rfl⟩) (by decide) (by decide) ⟨rfl, N225⟩
  · refine own_iand 4 (7 : Int32) X0 hx hby at_3 rfl hv1 ?_
    refine own_iconst 5 (1 : Int32) X0 hx hby at_4 rfl (by decide) ?_
    refine own_isub 6 (6 : Int32) X0 hx hby at_5 rfl (by decide) ?_
    refine own_istore_n 7 #[oI x0, oI x1, oI (6 : Int32), oU, oU] X0 hx hby at_6 rfl rfl ?_
    refine own_iload_n 8 X0 hx hby at_7 rfl rfl ?_
    by_cases hc226 : (0 : Int32) = x0
    · refine own_callS (W := 0) 11 (rm1_1 l Z a0 hw [] w_HANDLED w_UNKNOWN_TRANSACTION w_NO_SUCH_OBJECT w_FAILED w_TOO_LARGE w_ALL k_ALL W x0 h0 n0 O0 hc226) X0 hx hby hZ hown (own_w hw 0 rfl) (own_w hw 1 rfl) (own_w hw 2 rfl) (own_w hw 3 rfl) (by decide) (by rw [hml]; rfl) [(.int x0)] [] pd_0 rfl at_8 rfl e0 rfl rfl rfl (by decide) (by decide) (by decide) (by decide) ?_
      rintro _ T227 L227 X227 ⟨rfl, N227, e227⟩
      have N227 := Fr.app N0 N227
      show Go p e below _ (T227.setTop (mkF m 11 _ [(.ref w_HANDLED)]))
      refine own_astore_n 12 #[oI x0, oI x1, oI (6 : Int32), oA w_HANDLED, oU] X227 hx hby at_11 rfl rfl rfl ?_
      refine own_iload_n 13 X227 hx hby at_12 rfl rfl ?_
      refine own_callS (W := 0) 16 (rm1_6 l Z a0 hw [] w_HANDLED w_UNKNOWN_TRANSACTION w_NO_SUCH_OBJECT w_FAILED w_TOO_LARGE w_ALL k_ALL W (6 : Int32) h0 n0 O0 (by decide) (by decide) (by decide) (by decide) (by decide)) X227 hx hby hZ hown (own_w hw 0 rfl) (own_w hw 1 rfl) (own_w hw 2 rfl) (own_w hw 3 rfl) (by decide) (by rw [hml]; rfl) [(.int (6 : Int32))] [] pd_0 rfl at_13 rfl e227 rfl rfl rfl (by decide) (by decide) (by decide) (by decide) ?_
      rintro _ T228 L228 X228 ⟨rfl, N228, e228⟩
      have N228 := Fr.app N227 N228
      show Go p e below _ (T228.setTop (mkF m 16 _ [.null]))
      refine own_astore 18 #[oI x0, oI x1, oI (6 : Int32), oA w_HANDLED, oN] X228 hx hby at_16 rfl rfl rfl ?_
      refine own_aload_n 19 X228 hx hby at_18 rfl rfl rfl ?_
      refine own_iload_n 20 X228 hx hby at_19 rfl rfl ?_
      refine own_callS (W := 1) 23 (rm2_1 l Z a0 hw [] w_HANDLED w_UNKNOWN_TRANSACTION w_NO_SUCH_OBJECT w_FAILED w_TOO_LARGE w_ALL k_ALL W x0 h0 n0 O0 hc226.symm) X228 hx hby hZ hown (own_w hw 11 rfl) (own_w hw 12 rfl) (own_w hw 13 rfl) (own_w hw 14 rfl) (by decide) (by rw [hml]; rfl) [(.int x0)] [(.ref w_HANDLED)] pd_0 rfl at_20 rfl e228 rfl rfl rfl (by decide) (by decide) (by decide) (by decide) ?_
      rintro _ T229 L229 X229 ⟨rfl, N229, e229⟩
      have N229 := Fr.app N228 N229
      show Go p e below _ (T229.setTop (mkF m 23 _ [(.ref w_HANDLED), (.ref w_HANDLED)]))
      refine own_acmp 26 true X229 hx hby at_23 rfl rfl (by decide) (by decide) (decide_eq_true (congrArg Value.ref rfl)) ?_
      refine own_aload 28 X229 hx hby at_26 rfl rfl rfl ?_
      refine own_iload_n 29 X229 hx hby at_28 rfl rfl ?_
      refine own_callS (W := 1) 32 (rm2_6 l Z a0 hw [] w_HANDLED w_UNKNOWN_TRANSACTION w_NO_SUCH_OBJECT w_FAILED w_TOO_LARGE w_ALL k_ALL W (6 : Int32) h0 n0 O0 (by decide) (by decide) (by decide) (by decide) (by decide)) X229 hx hby hZ hown (own_w hw 11 rfl) (own_w hw 12 rfl) (own_w hw 13 rfl) (own_w hw 14 rfl) (by decide) (by rw [hml]; rfl) [(.int (6 : Int32))] [.null] pd_0 rfl at_29 rfl e229 rfl rfl rfl (by decide) (by decide) (by decide) (by decide) ?_
      rintro _ T230 L230 X230 ⟨rfl, N230, e230⟩
      have N230 := Fr.app N229 N230
      show Go p e below _ (T230.setTop (mkF m 32 _ [.null, .null]))
      refine own_acmp 35 true X230 hx hby at_32 rfl rfl (by decide) (by decide) (decide_eq_true rfl) ?_
      refine own_iconst 36 (1 : Int32) X230 hx hby at_35 rfl (by decide) ?_
      refine own_goto 40 X230 hx hby at_36 (by decide) (by decide) ?_
      exact own_ret (Q := own_Q1 n0) X230 hx hby hret hlk at_40 rfl (Or.inl ⟨rfl, by simp, _, rfl⟩) (by decide) (by decide) ⟨rfl, N230⟩
    by_cases hc231 : (1 : Int32) = x0
    · refine own_callS (W := 0) 11 (rm1_2 l Z a0 hw [] w_HANDLED w_UNKNOWN_TRANSACTION w_NO_SUCH_OBJECT w_FAILED w_TOO_LARGE w_ALL k_ALL W x0 h0 n0 O0 hc226 hc231) X0 hx hby hZ hown (own_w hw 0 rfl) (own_w hw 1 rfl) (own_w hw 2 rfl) (own_w hw 3 rfl) (by decide) (by rw [hml]; rfl) [(.int x0)] [] pd_0 rfl at_8 rfl e0 rfl rfl rfl (by decide) (by decide) (by decide) (by decide) ?_
      rintro _ T232 L232 X232 ⟨rfl, N232, e232⟩
      have N232 := Fr.app N0 N232
      show Go p e below _ (T232.setTop (mkF m 11 _ [(.ref w_UNKNOWN_TRANSACTION)]))
      refine own_astore_n 12 #[oI x0, oI x1, oI (6 : Int32), oA w_UNKNOWN_TRANSACTION, oU] X232 hx hby at_11 rfl rfl rfl ?_
      refine own_iload_n 13 X232 hx hby at_12 rfl rfl ?_
      refine own_callS (W := 0) 16 (rm1_6 l Z a0 hw [] w_HANDLED w_UNKNOWN_TRANSACTION w_NO_SUCH_OBJECT w_FAILED w_TOO_LARGE w_ALL k_ALL W (6 : Int32) h0 n0 O0 (by decide) (by decide) (by decide) (by decide) (by decide)) X232 hx hby hZ hown (own_w hw 0 rfl) (own_w hw 1 rfl) (own_w hw 2 rfl) (own_w hw 3 rfl) (by decide) (by rw [hml]; rfl) [(.int (6 : Int32))] [] pd_0 rfl at_13 rfl e232 rfl rfl rfl (by decide) (by decide) (by decide) (by decide) ?_
      rintro _ T233 L233 X233 ⟨rfl, N233, e233⟩
      have N233 := Fr.app N232 N233
      show Go p e below _ (T233.setTop (mkF m 16 _ [.null]))
      refine own_astore 18 #[oI x0, oI x1, oI (6 : Int32), oA w_UNKNOWN_TRANSACTION, oN] X233 hx hby at_16 rfl rfl rfl ?_
      refine own_aload_n 19 X233 hx hby at_18 rfl rfl rfl ?_
      refine own_iload_n 20 X233 hx hby at_19 rfl rfl ?_
      refine own_callS (W := 1) 23 (rm2_2 l Z a0 hw [] w_HANDLED w_UNKNOWN_TRANSACTION w_NO_SUCH_OBJECT w_FAILED w_TOO_LARGE w_ALL k_ALL W x0 h0 n0 O0 (fun q => hc226 q.symm) hc231.symm) X233 hx hby hZ hown (own_w hw 11 rfl) (own_w hw 12 rfl) (own_w hw 13 rfl) (own_w hw 14 rfl) (by decide) (by rw [hml]; rfl) [(.int x0)] [(.ref w_UNKNOWN_TRANSACTION)] pd_0 rfl at_20 rfl e233 rfl rfl rfl (by decide) (by decide) (by decide) (by decide) ?_
      rintro _ T234 L234 X234 ⟨rfl, N234, e234⟩
      have N234 := Fr.app N233 N234
      show Go p e below _ (T234.setTop (mkF m 23 _ [(.ref w_UNKNOWN_TRANSACTION), (.ref w_UNKNOWN_TRANSACTION)]))
      refine own_acmp 26 true X234 hx hby at_23 rfl rfl (by decide) (by decide) (decide_eq_true (congrArg Value.ref rfl)) ?_
      refine own_aload 28 X234 hx hby at_26 rfl rfl rfl ?_
      refine own_iload_n 29 X234 hx hby at_28 rfl rfl ?_
      refine own_callS (W := 1) 32 (rm2_6 l Z a0 hw [] w_HANDLED w_UNKNOWN_TRANSACTION w_NO_SUCH_OBJECT w_FAILED w_TOO_LARGE w_ALL k_ALL W (6 : Int32) h0 n0 O0 (by decide) (by decide) (by decide) (by decide) (by decide)) X234 hx hby hZ hown (own_w hw 11 rfl) (own_w hw 12 rfl) (own_w hw 13 rfl) (own_w hw 14 rfl) (by decide) (by rw [hml]; rfl) [(.int (6 : Int32))] [.null] pd_0 rfl at_29 rfl e234 rfl rfl rfl (by decide) (by decide) (by decide) (by decide) ?_
      rintro _ T235 L235 X235 ⟨rfl, N235, e235⟩
      have N235 := Fr.app N234 N235
      show Go p e below _ (T235.setTop (mkF m 32 _ [.null, .null]))
      refine own_acmp 35 true X235 hx hby at_32 rfl rfl (by decide) (by decide) (decide_eq_true rfl) ?_
      refine own_iconst 36 (1 : Int32) X235 hx hby at_35 rfl (by decide) ?_
      refine own_goto 40 X235 hx hby at_36 (by decide) (by decide) ?_
      exact own_ret (Q := own_Q1 n0) X235 hx hby hret hlk at_40 rfl (Or.inl ⟨rfl, by simp, _, rfl⟩) (by decide) (by decide) ⟨rfl, N235⟩
    by_cases hc236 : (2 : Int32) = x0
    · refine own_callS (W := 0) 11 (rm1_3 l Z a0 hw [] w_HANDLED w_UNKNOWN_TRANSACTION w_NO_SUCH_OBJECT w_FAILED w_TOO_LARGE w_ALL k_ALL W x0 h0 n0 O0 hc226 hc231 hc236) X0 hx hby hZ hown (own_w hw 0 rfl) (own_w hw 1 rfl) (own_w hw 2 rfl) (own_w hw 3 rfl) (by decide) (by rw [hml]; rfl) [(.int x0)] [] pd_0 rfl at_8 rfl e0 rfl rfl rfl (by decide) (by decide) (by decide) (by decide) ?_
      rintro _ T237 L237 X237 ⟨rfl, N237, e237⟩
      have N237 := Fr.app N0 N237
      show Go p e below _ (T237.setTop (mkF m 11 _ [(.ref w_NO_SUCH_OBJECT)]))
      refine own_astore_n 12 #[oI x0, oI x1, oI (6 : Int32), oA w_NO_SUCH_OBJECT, oU] X237 hx hby at_11 rfl rfl rfl ?_
      refine own_iload_n 13 X237 hx hby at_12 rfl rfl ?_
      refine own_callS (W := 0) 16 (rm1_6 l Z a0 hw [] w_HANDLED w_UNKNOWN_TRANSACTION w_NO_SUCH_OBJECT w_FAILED w_TOO_LARGE w_ALL k_ALL W (6 : Int32) h0 n0 O0 (by decide) (by decide) (by decide) (by decide) (by decide)) X237 hx hby hZ hown (own_w hw 0 rfl) (own_w hw 1 rfl) (own_w hw 2 rfl) (own_w hw 3 rfl) (by decide) (by rw [hml]; rfl) [(.int (6 : Int32))] [] pd_0 rfl at_13 rfl e237 rfl rfl rfl (by decide) (by decide) (by decide) (by decide) ?_
      rintro _ T238 L238 X238 ⟨rfl, N238, e238⟩
      have N238 := Fr.app N237 N238
      show Go p e below _ (T238.setTop (mkF m 16 _ [.null]))
      refine own_astore 18 #[oI x0, oI x1, oI (6 : Int32), oA w_NO_SUCH_OBJECT, oN] X238 hx hby at_16 rfl rfl rfl ?_
      refine own_aload_n 19 X238 hx hby at_18 rfl rfl rfl ?_
      refine own_iload_n 20 X238 hx hby at_19 rfl rfl ?_
      refine own_callS (W := 1) 23 (rm2_3 l Z a0 hw [] w_HANDLED w_UNKNOWN_TRANSACTION w_NO_SUCH_OBJECT w_FAILED w_TOO_LARGE w_ALL k_ALL W x0 h0 n0 O0 (fun q => hc226 q.symm) (fun q => hc231 q.symm) hc236.symm) X238 hx hby hZ hown (own_w hw 11 rfl) (own_w hw 12 rfl) (own_w hw 13 rfl) (own_w hw 14 rfl) (by decide) (by rw [hml]; rfl) [(.int x0)] [(.ref w_NO_SUCH_OBJECT)] pd_0 rfl at_20 rfl e238 rfl rfl rfl (by decide) (by decide) (by decide) (by decide) ?_
      rintro _ T239 L239 X239 ⟨rfl, N239, e239⟩
      have N239 := Fr.app N238 N239
      show Go p e below _ (T239.setTop (mkF m 23 _ [(.ref w_NO_SUCH_OBJECT), (.ref w_NO_SUCH_OBJECT)]))
      refine own_acmp 26 true X239 hx hby at_23 rfl rfl (by decide) (by decide) (decide_eq_true (congrArg Value.ref rfl)) ?_
      refine own_aload 28 X239 hx hby at_26 rfl rfl rfl ?_
      refine own_iload_n 29 X239 hx hby at_28 rfl rfl ?_
      refine own_callS (W := 1) 32 (rm2_6 l Z a0 hw [] w_HANDLED w_UNKNOWN_TRANSACTION w_NO_SUCH_OBJECT w_FAILED w_TOO_LARGE w_ALL k_ALL W (6 : Int32) h0 n0 O0 (by decide) (by decide) (by decide) (by decide) (by decide)) X239 hx hby hZ hown (own_w hw 11 rfl) (own_w hw 12 rfl) (own_w hw 13 rfl) (own_w hw 14 rfl) (by decide) (by rw [hml]; rfl) [(.int (6 : Int32))] [.null] pd_0 rfl at_29 rfl e239 rfl rfl rfl (by decide) (by decide) (by decide) (by decide) ?_
      rintro _ T240 L240 X240 ⟨rfl, N240, e240⟩
      have N240 := Fr.app N239 N240
      show Go p e below _ (T240.setTop (mkF m 32 _ [.null, .null]))
      refine own_acmp 35 true X240 hx hby at_32 rfl rfl (by decide) (by decide) (decide_eq_true rfl) ?_
      refine own_iconst 36 (1 : Int32) X240 hx hby at_35 rfl (by decide) ?_
      refine own_goto 40 X240 hx hby at_36 (by decide) (by decide) ?_
      exact own_ret (Q := own_Q1 n0) X240 hx hby hret hlk at_40 rfl (Or.inl ⟨rfl, by simp, _, rfl⟩) (by decide) (by decide) ⟨rfl, N240⟩
    by_cases hc241 : (3 : Int32) = x0
    · refine own_callS (W := 0) 11 (rm1_4 l Z a0 hw [] w_HANDLED w_UNKNOWN_TRANSACTION w_NO_SUCH_OBJECT w_FAILED w_TOO_LARGE w_ALL k_ALL W x0 h0 n0 O0 hc226 hc231 hc236 hc241) X0 hx hby hZ hown (own_w hw 0 rfl) (own_w hw 1 rfl) (own_w hw 2 rfl) (own_w hw 3 rfl) (by decide) (by rw [hml]; rfl) [(.int x0)] [] pd_0 rfl at_8 rfl e0 rfl rfl rfl (by decide) (by decide) (by decide) (by decide) ?_
      rintro _ T242 L242 X242 ⟨rfl, N242, e242⟩
      have N242 := Fr.app N0 N242
      show Go p e below _ (T242.setTop (mkF m 11 _ [(.ref w_FAILED)]))
      refine own_astore_n 12 #[oI x0, oI x1, oI (6 : Int32), oA w_FAILED, oU] X242 hx hby at_11 rfl rfl rfl ?_
      refine own_iload_n 13 X242 hx hby at_12 rfl rfl ?_
      refine own_callS (W := 0) 16 (rm1_6 l Z a0 hw [] w_HANDLED w_UNKNOWN_TRANSACTION w_NO_SUCH_OBJECT w_FAILED w_TOO_LARGE w_ALL k_ALL W (6 : Int32) h0 n0 O0 (by decide) (by decide) (by decide) (by decide) (by decide)) X242 hx hby hZ hown (own_w hw 0 rfl) (own_w hw 1 rfl) (own_w hw 2 rfl) (own_w hw 3 rfl) (by decide) (by rw [hml]; rfl) [(.int (6 : Int32))] [] pd_0 rfl at_13 rfl e242 rfl rfl rfl (by decide) (by decide) (by decide) (by decide) ?_
      rintro _ T243 L243 X243 ⟨rfl, N243, e243⟩
      have N243 := Fr.app N242 N243
      show Go p e below _ (T243.setTop (mkF m 16 _ [.null]))
      refine own_astore 18 #[oI x0, oI x1, oI (6 : Int32), oA w_FAILED, oN] X243 hx hby at_16 rfl rfl rfl ?_
      refine own_aload_n 19 X243 hx hby at_18 rfl rfl rfl ?_
      refine own_iload_n 20 X243 hx hby at_19 rfl rfl ?_
      refine own_callS (W := 1) 23 (rm2_4 l Z a0 hw [] w_HANDLED w_UNKNOWN_TRANSACTION w_NO_SUCH_OBJECT w_FAILED w_TOO_LARGE w_ALL k_ALL W x0 h0 n0 O0 (fun q => hc226 q.symm) (fun q => hc231 q.symm) (fun q => hc236 q.symm) hc241.symm) X243 hx hby hZ hown (own_w hw 11 rfl) (own_w hw 12 rfl) (own_w hw 13 rfl) (own_w hw 14 rfl) (by decide) (by rw [hml]; rfl) [(.int x0)] [(.ref w_FAILED)] pd_0 rfl at_20 rfl e243 rfl rfl rfl (by decide) (by decide) (by decide) (by decide) ?_
      rintro _ T244 L244 X244 ⟨rfl, N244, e244⟩
      have N244 := Fr.app N243 N244
      show Go p e below _ (T244.setTop (mkF m 23 _ [(.ref w_FAILED), (.ref w_FAILED)]))
      refine own_acmp 26 true X244 hx hby at_23 rfl rfl (by decide) (by decide) (decide_eq_true (congrArg Value.ref rfl)) ?_
      refine own_aload 28 X244 hx hby at_26 rfl rfl rfl ?_
      refine own_iload_n 29 X244 hx hby at_28 rfl rfl ?_
      refine own_callS (W := 1) 32 (rm2_6 l Z a0 hw [] w_HANDLED w_UNKNOWN_TRANSACTION w_NO_SUCH_OBJECT w_FAILED w_TOO_LARGE w_ALL k_ALL W (6 : Int32) h0 n0 O0 (by decide) (by decide) (by decide) (by decide) (by decide)) X244 hx hby hZ hown (own_w hw 11 rfl) (own_w hw 12 rfl) (own_w hw 13 rfl) (own_w hw 14 rfl) (by decide) (by rw [hml]; rfl) [(.int (6 : Int32))] [.null] pd_0 rfl at_29 rfl e244 rfl rfl rfl (by decide) (by decide) (by decide) (by decide) ?_
      rintro _ T245 L245 X245 ⟨rfl, N245, e245⟩
      have N245 := Fr.app N244 N245
      show Go p e below _ (T245.setTop (mkF m 32 _ [.null, .null]))
      refine own_acmp 35 true X245 hx hby at_32 rfl rfl (by decide) (by decide) (decide_eq_true rfl) ?_
      refine own_iconst 36 (1 : Int32) X245 hx hby at_35 rfl (by decide) ?_
      refine own_goto 40 X245 hx hby at_36 (by decide) (by decide) ?_
      exact own_ret (Q := own_Q1 n0) X245 hx hby hret hlk at_40 rfl (Or.inl ⟨rfl, by simp, _, rfl⟩) (by decide) (by decide) ⟨rfl, N245⟩
    by_cases hc246 : (4 : Int32) = x0
    · refine own_callS (W := 0) 11 (rm1_5 l Z a0 hw [] w_HANDLED w_UNKNOWN_TRANSACTION w_NO_SUCH_OBJECT w_FAILED w_TOO_LARGE w_ALL k_ALL W x0 h0 n0 O0 hc226 hc231 hc236 hc241 hc246) X0 hx hby hZ hown (own_w hw 0 rfl) (own_w hw 1 rfl) (own_w hw 2 rfl) (own_w hw 3 rfl) (by decide) (by rw [hml]; rfl) [(.int x0)] [] pd_0 rfl at_8 rfl e0 rfl rfl rfl (by decide) (by decide) (by decide) (by decide) ?_
      rintro _ T247 L247 X247 ⟨rfl, N247, e247⟩
      have N247 := Fr.app N0 N247
      show Go p e below _ (T247.setTop (mkF m 11 _ [(.ref w_TOO_LARGE)]))
      refine own_astore_n 12 #[oI x0, oI x1, oI (6 : Int32), oA w_TOO_LARGE, oU] X247 hx hby at_11 rfl rfl rfl ?_
      refine own_iload_n 13 X247 hx hby at_12 rfl rfl ?_
      refine own_callS (W := 0) 16 (rm1_6 l Z a0 hw [] w_HANDLED w_UNKNOWN_TRANSACTION w_NO_SUCH_OBJECT w_FAILED w_TOO_LARGE w_ALL k_ALL W (6 : Int32) h0 n0 O0 (by decide) (by decide) (by decide) (by decide) (by decide)) X247 hx hby hZ hown (own_w hw 0 rfl) (own_w hw 1 rfl) (own_w hw 2 rfl) (own_w hw 3 rfl) (by decide) (by rw [hml]; rfl) [(.int (6 : Int32))] [] pd_0 rfl at_13 rfl e247 rfl rfl rfl (by decide) (by decide) (by decide) (by decide) ?_
      rintro _ T248 L248 X248 ⟨rfl, N248, e248⟩
      have N248 := Fr.app N247 N248
      show Go p e below _ (T248.setTop (mkF m 16 _ [.null]))
      refine own_astore 18 #[oI x0, oI x1, oI (6 : Int32), oA w_TOO_LARGE, oN] X248 hx hby at_16 rfl rfl rfl ?_
      refine own_aload_n 19 X248 hx hby at_18 rfl rfl rfl ?_
      refine own_iload_n 20 X248 hx hby at_19 rfl rfl ?_
      refine own_callS (W := 1) 23 (rm2_5 l Z a0 hw [] w_HANDLED w_UNKNOWN_TRANSACTION w_NO_SUCH_OBJECT w_FAILED w_TOO_LARGE w_ALL k_ALL W x0 h0 n0 O0 (fun q => hc226 q.symm) (fun q => hc231 q.symm) (fun q => hc236 q.symm) (fun q => hc241 q.symm) hc246.symm) X248 hx hby hZ hown (own_w hw 11 rfl) (own_w hw 12 rfl) (own_w hw 13 rfl) (own_w hw 14 rfl) (by decide) (by rw [hml]; rfl) [(.int x0)] [(.ref w_TOO_LARGE)] pd_0 rfl at_20 rfl e248 rfl rfl rfl (by decide) (by decide) (by decide) (by decide) ?_
      rintro _ T249 L249 X249 ⟨rfl, N249, e249⟩
      have N249 := Fr.app N248 N249
      show Go p e below _ (T249.setTop (mkF m 23 _ [(.ref w_TOO_LARGE), (.ref w_TOO_LARGE)]))
      refine own_acmp 26 true X249 hx hby at_23 rfl rfl (by decide) (by decide) (decide_eq_true (congrArg Value.ref rfl)) ?_
      refine own_aload 28 X249 hx hby at_26 rfl rfl rfl ?_
      refine own_iload_n 29 X249 hx hby at_28 rfl rfl ?_
      refine own_callS (W := 1) 32 (rm2_6 l Z a0 hw [] w_HANDLED w_UNKNOWN_TRANSACTION w_NO_SUCH_OBJECT w_FAILED w_TOO_LARGE w_ALL k_ALL W (6 : Int32) h0 n0 O0 (by decide) (by decide) (by decide) (by decide) (by decide)) X249 hx hby hZ hown (own_w hw 11 rfl) (own_w hw 12 rfl) (own_w hw 13 rfl) (own_w hw 14 rfl) (by decide) (by rw [hml]; rfl) [(.int (6 : Int32))] [.null] pd_0 rfl at_29 rfl e249 rfl rfl rfl (by decide) (by decide) (by decide) (by decide) ?_
      rintro _ T250 L250 X250 ⟨rfl, N250, e250⟩
      have N250 := Fr.app N249 N250
      show Go p e below _ (T250.setTop (mkF m 32 _ [.null, .null]))
      refine own_acmp 35 true X250 hx hby at_32 rfl rfl (by decide) (by decide) (decide_eq_true rfl) ?_
      refine own_iconst 36 (1 : Int32) X250 hx hby at_35 rfl (by decide) ?_
      refine own_goto 40 X250 hx hby at_36 (by decide) (by decide) ?_
      exact own_ret (Q := own_Q1 n0) X250 hx hby hret hlk at_40 rfl (Or.inl ⟨rfl, by simp, _, rfl⟩) (by decide) (by decide) ⟨rfl, N250⟩
    refine own_callS (W := 0) 11 (rm1_6 l Z a0 hw [] w_HANDLED w_UNKNOWN_TRANSACTION w_NO_SUCH_OBJECT w_FAILED w_TOO_LARGE w_ALL k_ALL W x0 h0 n0 O0 hc226 hc231 hc236 hc241 hc246) X0 hx hby hZ hown (own_w hw 0 rfl) (own_w hw 1 rfl) (own_w hw 2 rfl) (own_w hw 3 rfl) (by decide) (by rw [hml]; rfl) [(.int x0)] [] pd_0 rfl at_8 rfl e0 rfl rfl rfl (by decide) (by decide) (by decide) (by decide) ?_
    rintro _ T251 L251 X251 ⟨rfl, N251, e251⟩
    have N251 := Fr.app N0 N251
    show Go p e below _ (T251.setTop (mkF m 11 _ [.null]))
    refine own_astore_n 12 #[oI x0, oI x1, oI (6 : Int32), oN, oU] X251 hx hby at_11 rfl rfl rfl ?_
    refine own_iload_n 13 X251 hx hby at_12 rfl rfl ?_
    refine own_callS (W := 0) 16 (rm1_6 l Z a0 hw [] w_HANDLED w_UNKNOWN_TRANSACTION w_NO_SUCH_OBJECT w_FAILED w_TOO_LARGE w_ALL k_ALL W (6 : Int32) h0 n0 O0 (by decide) (by decide) (by decide) (by decide) (by decide)) X251 hx hby hZ hown (own_w hw 0 rfl) (own_w hw 1 rfl) (own_w hw 2 rfl) (own_w hw 3 rfl) (by decide) (by rw [hml]; rfl) [(.int (6 : Int32))] [] pd_0 rfl at_13 rfl e251 rfl rfl rfl (by decide) (by decide) (by decide) (by decide) ?_
    rintro _ T252 L252 X252 ⟨rfl, N252, e252⟩
    have N252 := Fr.app N251 N252
    show Go p e below _ (T252.setTop (mkF m 16 _ [.null]))
    refine own_astore 18 #[oI x0, oI x1, oI (6 : Int32), oN, oN] X252 hx hby at_16 rfl rfl rfl ?_
    refine own_aload_n 19 X252 hx hby at_18 rfl rfl rfl ?_
    refine own_iload_n 20 X252 hx hby at_19 rfl rfl ?_
    refine own_callS (W := 1) 23 (rm2_6 l Z a0 hw [] w_HANDLED w_UNKNOWN_TRANSACTION w_NO_SUCH_OBJECT w_FAILED w_TOO_LARGE w_ALL k_ALL W x0 h0 n0 O0 (fun q => hc226 q.symm) (fun q => hc231 q.symm) (fun q => hc236 q.symm) (fun q => hc241 q.symm) (fun q => hc246 q.symm)) X252 hx hby hZ hown (own_w hw 11 rfl) (own_w hw 12 rfl) (own_w hw 13 rfl) (own_w hw 14 rfl) (by decide) (by rw [hml]; rfl) [(.int x0)] [.null] pd_0 rfl at_20 rfl e252 rfl rfl rfl (by decide) (by decide) (by decide) (by decide) ?_
    rintro _ T253 L253 X253 ⟨rfl, N253, e253⟩
    have N253 := Fr.app N252 N253
    show Go p e below _ (T253.setTop (mkF m 23 _ [.null, .null]))
    refine own_acmp 26 true X253 hx hby at_23 rfl rfl (by decide) (by decide) (decide_eq_true rfl) ?_
    refine own_aload 28 X253 hx hby at_26 rfl rfl rfl ?_
    refine own_iload_n 29 X253 hx hby at_28 rfl rfl ?_
    refine own_callS (W := 1) 32 (rm2_6 l Z a0 hw [] w_HANDLED w_UNKNOWN_TRANSACTION w_NO_SUCH_OBJECT w_FAILED w_TOO_LARGE w_ALL k_ALL W (6 : Int32) h0 n0 O0 (by decide) (by decide) (by decide) (by decide) (by decide)) X253 hx hby hZ hown (own_w hw 11 rfl) (own_w hw 12 rfl) (own_w hw 13 rfl) (own_w hw 14 rfl) (by decide) (by rw [hml]; rfl) [(.int (6 : Int32))] [.null] pd_0 rfl at_29 rfl e253 rfl rfl rfl (by decide) (by decide) (by decide) (by decide) ?_
    rintro _ T254 L254 X254 ⟨rfl, N254, e254⟩
    have N254 := Fr.app N253 N254
    show Go p e below _ (T254.setTop (mkF m 32 _ [.null, .null]))
    refine own_acmp 35 true X254 hx hby at_32 rfl rfl (by decide) (by decide) (decide_eq_true rfl) ?_
    refine own_iconst 36 (1 : Int32) X254 hx hby at_35 rfl (by decide) ?_
    refine own_goto 40 X254 hx hby at_36 (by decide) (by decide) ?_
    exact own_ret (Q := own_Q1 n0) X254 hx hby hret hlk at_40 rfl (Or.inl ⟨rfl, by simp, _, rfl⟩) (by decide) (by decide) ⟨rfl, N254⟩
set_option maxRecDepth 65536 in
set_option maxHeartbeats 40000000 in
theorem comes_1 {Post : Tables → Env → Array Value → State → Outcome → State → Prop} (hpost : ∀ tb e args s v u, (limb_1_1.after args s (.returned v) u = true ∧ limb_1_2.after args s (.returned v) u = true) → FrameEnd s (.returned v) u (Jvm.fieldLocs frame_1_writes args s ++ Jvm.arrayLocs frame_1_arrays args s ++ Jvm.staticLocs frame_1_statics s) 0 0 → Post tb e args s (.returned v) u) :
    ArmFor flags0 classFile x code maxLocals ret World_1 tables_1 room_1 Calls_1 rest_1 Pre_1 Post := by
  intro l hfl _ _ p e ha hc hk s m args below hf hA hF happ hP
  obtain ⟨hcalls, hrest, hpre⟩ := hP
  obtain ⟨-, -, -, hnamed, -, -, -, hat⟩ := (Spec.applies_iff hf).mp happ
  obtain ⟨hg, hn⟩ := and_e (Cond.before_iff.mp (show (Jvm.Cond.and given_1 narrow_1).before args s = true from hpre))
  obtain ⟨ga0, gb0⟩ := and_e hg
  obtain ⟨ga1, ga2⟩ := and_e gb0
  obtain ⟨u0, u1, rfl⟩ : ∃ u0 u1 : Value, args = #[u0, u1] := by
    have hs : args.size = 2 := by simpa [Cond.value, given_1] using ga0
    obtain ⟨L⟩ := args
    match L, hs with
    | [u0, u1], _ => exact ⟨u0, u1, rfl⟩
  have hw := fun d (hd : d ∈ tables_1) => atoms_spec (ws := Jvm.Cond.code x code maxLocals ret :: tables_1) hat d (List.mem_cons_of_mem _ hd)
  have hfit : Fit s := fun {y c} hc i hi => by
    obtain ⟨ha, rfl⟩ := Array.getElem?_eq_some_iff.mp hc
    have q := List.all_eq_true.mp ((Array.all_eq_true_iff_forall_mem.mp hF) _ (Array.getElem_mem ha)) i (List.mem_range.mpr hi)
    simpa [Array.getElem?_eq_getElem hi] using q
  obtain ⟨i0, ei0⟩ := is_v ga1
  obtain rfl : u0 = (.int i0) := Option.some.inj ei0
  obtain ⟨i1, ei1⟩ := is_v ga2
  obtain rfl : u1 = (.int i1) := Option.some.inj ei1
  obtain ⟨na0, nb0⟩ := and_e hn
  obtain ⟨na1, nb1⟩ := and_e nb0
  obtain ⟨na2, nb2⟩ := and_e nb1
  obtain ⟨na3, nb3⟩ := and_e nb2
  obtain ⟨na4, nb4⟩ := and_e nb3
  obtain ⟨na5, nb5⟩ := and_e nb4
  obtain ⟨na6, nb6⟩ := and_e nb5
  obtain ⟨na7, nb7⟩ := and_e nb6
  obtain ⟨na8, nb8⟩ := and_e nb7
  obtain ⟨na9, nb9⟩ := and_e nb8
  obtain ⟨na10, nb10⟩ := and_e nb9
  obtain ⟨na11, nb11⟩ := and_e nb10
  obtain ⟨na12, nb12⟩ := and_e nb11
  obtain ⟨na13, nb13⟩ := and_e nb12
  obtain ⟨na14, nb14⟩ := and_e nb13
  obtain ⟨na15, na16⟩ := and_e nb14
  obtain ⟨w_HANDLED, v_w_HANDLED⟩ := exa_v na2
  have S_w_HANDLED := Sta.start v_w_HANDLED (Or.inr ⟨(own_w hw 2 rfl), (own_w hw 6 rfl)⟩)
  have E_w_HANDLED := Exa.start v_w_HANDLED na2
  obtain ⟨w_UNKNOWN_TRANSACTION, v_w_UNKNOWN_TRANSACTION⟩ := exa_v na5
  have S_w_UNKNOWN_TRANSACTION := Sta.start v_w_UNKNOWN_TRANSACTION (Or.inr ⟨(own_w hw 2 rfl), (own_w hw 9 rfl)⟩)
  have E_w_UNKNOWN_TRANSACTION := Exa.start v_w_UNKNOWN_TRANSACTION na5
  obtain ⟨w_NO_SUCH_OBJECT, v_w_NO_SUCH_OBJECT⟩ := exa_v na8
  have S_w_NO_SUCH_OBJECT := Sta.start v_w_NO_SUCH_OBJECT (Or.inr ⟨(own_w hw 2 rfl), (own_w hw 10 rfl)⟩)
  have E_w_NO_SUCH_OBJECT := Exa.start v_w_NO_SUCH_OBJECT na8
  obtain ⟨w_FAILED, v_w_FAILED⟩ := exa_v na11
  have S_w_FAILED := Sta.start v_w_FAILED (Or.inr ⟨(own_w hw 2 rfl), (own_w hw 17 rfl)⟩)
  have E_w_FAILED := Exa.start v_w_FAILED na11
  obtain ⟨w_TOO_LARGE, v_w_TOO_LARGE⟩ := exa_v na14
  have S_w_TOO_LARGE := Sta.start v_w_TOO_LARGE (Or.inr ⟨(own_w hw 2 rfl), (own_w hw 18 rfl)⟩)
  have E_w_TOO_LARGE := Exa.start v_w_TOO_LARGE na14
  have F_code_w_HANDLED := own_fld na4 v_w_HANDLED
  have F_code_w_UNKNOWN_TRANSACTION := own_fld na7 v_w_UNKNOWN_TRANSACTION
  have F_code_w_NO_SUCH_OBJECT := own_fld na10 v_w_NO_SUCH_OBJECT
  have F_code_w_FAILED := own_fld na13 v_w_FAILED
  have F_code_w_TOO_LARGE := own_fld na16 v_w_TOO_LARGE
  obtain ⟨w_ALL, v_w_ALL⟩ := arr_v na0
  have S_w_ALL := Sta.start v_w_ALL (Or.inr ⟨(own_w hw 2 rfl), (own_w hw 5 rfl)⟩)
  obtain ⟨cl_w_ALL, A_w_ALL⟩ := Arr.start v_w_ALL na0
  obtain ⟨q_w_ALL, l_w_ALL⟩ := own_len_at (eqv_i (Term.int_eval _) na1) v_w_ALL (A_w_ALL.fin (Vm.Alike.refl _))
  have V_w_ALL : Arv s s.heap w_ALL _ (.object "com/example/hop1/hop1/protocol/ReplyStatus") (5 : Int32) [(.ref w_HANDLED), (.ref w_UNKNOWN_TRANSACTION), (.ref w_NO_SUCH_OBJECT), (.ref w_FAILED), (.ref w_TOO_LARGE)] .null := Arv.start hfit A_w_ALL q_w_ALL l_w_ALL (by decide) rfl ⟨(elem_in (own_eqvR v_w_HANDLED na3) v_w_ALL (Term.int_eval _) A_w_ALL.1).2, (elem_in (own_eqvR v_w_UNKNOWN_TRANSACTION na6) v_w_ALL (Term.int_eval _) A_w_ALL.1).2, (elem_in (own_eqvR v_w_NO_SUCH_OBJECT na9) v_w_ALL (Term.int_eval _) A_w_ALL.1).2, (elem_in (own_eqvR v_w_FAILED na12) v_w_ALL (Term.int_eval _) A_w_ALL.1).2, (elem_in (own_eqvR v_w_TOO_LARGE na15) v_w_ALL (Term.int_eval _) A_w_ALL.1).2, trivial⟩
  obtain ⟨n, o, h1, h2, h3, _, L, rfl, ⟨rfl, N⟩, hq⟩ := rm0 l s _ hw tables_1 w_HANDLED w_UNKNOWN_TRANSACTION w_NO_SUCH_OBJECT w_FAILED w_TOO_LARGE w_ALL _ ⟨S_w_HANDLED, E_w_HANDLED, S_w_UNKNOWN_TRANSACTION, E_w_UNKNOWN_TRANSACTION, S_w_NO_SUCH_OBJECT, E_w_NO_SUCH_OBJECT, S_w_FAILED, E_w_FAILED, S_w_TOO_LARGE, E_w_TOO_LARGE, S_w_ALL, F_code_w_HANDLED, F_code_w_UNKNOWN_TRANSACTION, F_code_w_NO_SUCH_OBJECT, F_code_w_FAILED, F_code_w_TOO_LARGE, V_w_ALL⟩ i0 i1 s.heap s.heap.size (Old.start s) p e ha hc hk s m _ below hf ((Spec.applies_iff_loose hf).mp happ).1 ⟨rfl, State.Warmed39.refl s, rfl⟩ trivial
  refine ⟨n, _, h1, h2, h3, hpost _ _ _ _ _ _ ⟨Cond.after_iff.mpr rfl, Cond.after_iff.mpr (eq_i res_at (Term.int_eval (1)) rfl)⟩ ⟨hq.1, hq.2.1, (hq.2.2.sift fun y hy => Or.inr (N y hy)).mono (by decide) (by decide)⟩⟩
theorem main_1_1 : Claimed_1_1 := comes_1 fun _ _ _ _ _ _ h hF => ⟨h.1, hF⟩
theorem main_1_2 : Claimed_1_2 := comes_1 fun _ _ _ _ _ _ h hF => ⟨h.2, hF⟩
end Jvm.Pilot.@@N@@
namespace Jvm.Pilot.@@N@@
open Jvm Jvm.ClassFile Sem Op Lib Jvm.Free Jvm.Stand Jvm.Pilot.@@N@@.Jvm.D
/-! MADE BY PROGRAM (witnessworld.py) out of the Statement's table words and the real class files: 13 classes; the members and pool entries that the words name. The judged class is class 1, her method 2. -/
namespace start1
open Jvm.ClassFile
def u (s : String) : CpInfo := .utf8 (stringToUtf16 s)
/-- a pool by its gaps: so many unusable entries, then the entry; so many at the end -/
def gap : Nat → List CpInfo → List CpInfo
  | 0, r => r
  | n + 1, r => .unusable :: gap n r
def poolList (es : List (Nat × CpInfo)) (last : Nat) : List CpInfo := es.foldr (fun e r => gap e.1 (e.2 :: r)) (gap last [])
def pool (es : List (Nat × CpInfo)) (last : Nat) : Array CpInfo := ⟨poolList es last⟩
def fileOf (pool : Array CpInfo) (this : Nat) (attrs : Array Attribute := #[]) (ms : Array MethodInfo := #[]) (fl : Nat := 33) (sup : Nat := 0) (ifs : Array Nat := #[]) (fds : Array FieldInfo := #[]) : ClassFile where
  minorVersion := 0
  majorVersion := 65
  constantPool := pool
  accessFlags := fl
  thisClass := this
  superClass := sup
  interfaces := ifs
  fields := fds
  methods := ms
  attributes := attrs
def plain (name : String) (sup : Option ClassId) : Class where
  name := name
  kind := .ordinary
  loader := none
  accessFlags := 33
  super := sup
  interfaces := #[]
  cf := none
  fields := #[]
  methods := #[]
  instanceTypes := #[]
  staticTypes := #[]
  resolved := #[]
  callSites := []
  init := .initialized
  statics := none
  mirror := none

def pool0 : Array CpInfo := pool [(5, u "<init>"), (0, u "()V"), (1, .class_ 10), (1, u "java/lang/Object")] 113

def k0m0 : Method := { name := "<init>", desc := "()V", sig := { parameters := [], returnType := none }, accessFlags := 1, code := none }
/-- java/lang/Object -/
def k0 : Class := { plain "java/lang/Object" none with
  accessFlags := 33
  interfaces := #[]
  cf := some (fileOf pool0 8 #[] #[{ accessFlags := 1, nameIndex := 5, descriptorIndex := 6, attributes := #[] }] 33 0 #[] #[])
  fields := #[]
  methods := #[k0m0]
  instanceTypes := #[]
  staticTypes := #[]
  resolved := Array.replicate 124 none
  statics := none }

def pool1 : Array CpInfo := pool [(2, .class_ 4), (1, u "java/lang/Object"), (0, u "<init>"), (0, u "()V"), (0, .fieldref 8 9), (0, .class_ 10), (0, .nameAndType 11 12), (0, u "com/example/hop1/hop1/protocol/ReplyStatus"), (0, u "HANDLED"), (0, u "Lcom/example/hop1/hop1/protocol/ReplyStatus;"), (0, .fieldref 8 14), (0, .nameAndType 15 12), (0, u "UNKNOWN_TRANSACTION"), (0, .fieldref 8 17), (0, .nameAndType 18 12), (0, u "NO_SUCH_OBJECT"), (0, .fieldref 8 20), (0, .nameAndType 21 12), (0, u "FAILED"), (0, .fieldref 8 23), (0, .nameAndType 24 12), (0, u "TOO_LARGE"), (0, .methodref 8 26), (0, .nameAndType 27 28), (0, u "of"), (0, u "(I)Lcom/example/hop1/hop1/protocol/ReplyStatus;"), (0, .methodref 30 31), (0, .class_ 32), (0, .nameAndType 33 28), (0, u "com/example/hop1/hop1/protocol/ReplyStatusOfPinLaw"), (0, u "expected"), (3, u "law"), (0, u "(II)Z")] 2

def k1m0 : Method := { name := "<init>", desc := "()V", sig := { parameters := [], returnType := none }, accessFlags := 2, code := none }
def k1c1 : Code := { maxStack := 2, maxLocals := 1, code := method_2_code, exceptionTable := #[], attributes := #[] }
def k1m1 : Method := { name := "expected", desc := "(I)Lcom/example/hop1/hop1/protocol/ReplyStatus;", sig := { parameters := [.int], returnType := some (.object "com/example/hop1/hop1/protocol/ReplyStatus") }, accessFlags := 10, code := some k1c1 }
def k1c2 : Code := { maxStack := 2, maxLocals := 5, code := code, exceptionTable := #[], attributes := #[] }
def k1m2 : Method := { name := "law", desc := "(II)Z", sig := { parameters := [.int, .int], returnType := some .boolean }, accessFlags := 9, code := some k1c2 }
/-- com/example/hop1/hop1/protocol/ReplyStatusOfPinLaw -/
def k1 : Class := { plain "com/example/hop1/hop1/protocol/ReplyStatusOfPinLaw" (some 0) with
  accessFlags := 49
  interfaces := #[]
  cf := some (fileOf pool1 30 #[] #[{ accessFlags := 2, nameIndex := 5, descriptorIndex := 6, attributes := #[] }, { accessFlags := 10, nameIndex := 33, descriptorIndex := 28, attributes := #[] }, { accessFlags := 9, nameIndex := 37, descriptorIndex := 38, attributes := #[] }] 49 2 #[] #[])
  fields := #[]
  methods := #[k1m0, k1m1, k1m2]
  instanceTypes := #[]
  staticTypes := #[]
  resolved := Array.replicate 41 none
  statics := none }

def pool2 : Array CpInfo := pool [(1, .class_ 2), (0, u "java/lang/constant/Constable"), (0, .class_ 4), (0, u "java/lang/Object")] 6

/-- java/lang/constant/Constable -/
def k2 : Class := { plain "java/lang/constant/Constable" (some 0) with
  accessFlags := 1537
  interfaces := #[]
  cf := some (fileOf pool2 1 #[] #[] 1537 3 #[] #[])
  fields := #[]
  methods := #[]
  instanceTypes := #[]
  staticTypes := #[]
  resolved := Array.replicate 11 none
  statics := none }

def pool3 : Array CpInfo := pool [(1, .class_ 2), (0, u "java/lang/Comparable"), (0, .class_ 4), (0, u "java/lang/Object")] 7

/-- java/lang/Comparable -/
def k3 : Class := { plain "java/lang/Comparable" (some 0) with
  accessFlags := 1537
  interfaces := #[]
  cf := some (fileOf pool3 1 #[] #[] 1537 3 #[] #[])
  fields := #[]
  methods := #[]
  instanceTypes := #[]
  staticTypes := #[]
  resolved := Array.replicate 12 none
  statics := none }

def pool4 : Array CpInfo := pool [(1, .class_ 2), (0, u "java/io/Serializable"), (0, .class_ 4), (0, u "java/lang/Object")] 2

/-- java/io/Serializable -/
def k4 : Class := { plain "java/io/Serializable" (some 0) with
  accessFlags := 1537
  interfaces := #[]
  cf := some (fileOf pool4 1 #[] #[] 1537 3 #[] #[])
  fields := #[]
  methods := #[]
  instanceTypes := #[]
  staticTypes := #[]
  resolved := Array.replicate 7 none
  statics := none }

def pool5 : Array CpInfo := pool [(2, .class_ 4), (1, u "java/lang/Enum"), (0, u "name"), (0, u "Ljava/lang/String;"), (2, u "ordinal"), (0, u "I"), (1, .class_ 14), (1, u "java/lang/Object"), (4, u "hash"), (86, .class_ 108), (1, u "java/lang/Enum$EnumDesc"), (2, .class_ 112), (0, u "java/lang/constant/Constable"), (0, .class_ 114), (0, u "java/lang/Comparable"), (0, .class_ 116), (0, u "java/io/Serializable")] 87

/-- java/lang/Enum -/
def k5 : Class := { plain "java/lang/Enum" (some 0) with
  accessFlags := 1057
  interfaces := #[2, 3, 4]
  cf := some (fileOf pool5 2 #[.nestMembers #[106]] #[] 1057 12 #[111, 113, 115] #[{ accessFlags := 18, nameIndex := 5, descriptorIndex := 6, attributes := #[] }, { accessFlags := 18, nameIndex := 9, descriptorIndex := 10, attributes := #[] }, { accessFlags := 2, nameIndex := 19, descriptorIndex := 10, attributes := #[] }])
  fields := #[{ name := "name", type := (.object "java/lang/String"), accessFlags := 18, slot := 0, constantValue := 0 }, { name := "ordinal", type := .int, accessFlags := 18, slot := 1, constantValue := 0 }, { name := "hash", type := .int, accessFlags := 2, slot := 2, constantValue := 0 }]
  methods := #[]
  instanceTypes := #[(.object "java/lang/String"), .int, .int]
  staticTypes := #[]
  resolved := Array.replicate 204 none
  statics := none }

def pool6 : Array CpInfo := pool [(1, .class_ 2), (0, u "com/example/hop1/hop1/protocol/ReplyStatus"), (2, u "HANDLED"), (0, u "Lcom/example/hop1/hop1/protocol/ReplyStatus;"), (2, u "UNKNOWN_TRANSACTION"), (2, u "NO_SUCH_OBJECT"), (2, u "FAILED"), (2, u "TOO_LARGE"), (2, u "$VALUES"), (0, u "[Lcom/example/hop1/hop1/protocol/ReplyStatus;"), (6, .class_ 31), (1, u "java/lang/Enum"), (6, .fieldref 1 39), (0, .nameAndType 40 41), (0, u "code"), (0, u "I"), (0, .fieldref 1 43), (0, .nameAndType 44 22), (0, u "ALL"), (22, u "of"), (0, u "(I)Lcom/example/hop1/hop1/protocol/ReplyStatus;")] 6

def k6c0 : Code := { maxStack := 2, maxLocals := 5, code := prog_123_method_5_code, exceptionTable := #[], attributes := #[] }
def k6m0 : Method := { name := "of", desc := "(I)Lcom/example/hop1/hop1/protocol/ReplyStatus;", sig := { parameters := [.int], returnType := some (.object "com/example/hop1/hop1/protocol/ReplyStatus") }, accessFlags := 9, code := some k6c0 }
/-- com/example/hop1/hop1/protocol/ReplyStatus -/
def k6 : Class := { plain "com/example/hop1/hop1/protocol/ReplyStatus" (some 5) with
  accessFlags := 16433
  interfaces := #[]
  cf := some (fileOf pool6 1 #[] #[{ accessFlags := 9, nameIndex := 67, descriptorIndex := 68, attributes := #[] }] 16433 29 #[] #[{ accessFlags := 16409, nameIndex := 5, descriptorIndex := 6, attributes := #[] }, { accessFlags := 16409, nameIndex := 9, descriptorIndex := 6, attributes := #[] }, { accessFlags := 16409, nameIndex := 12, descriptorIndex := 6, attributes := #[] }, { accessFlags := 16409, nameIndex := 15, descriptorIndex := 6, attributes := #[] }, { accessFlags := 16409, nameIndex := 18, descriptorIndex := 6, attributes := #[] }, { accessFlags := 26, nameIndex := 44, descriptorIndex := 22, attributes := #[] }, { accessFlags := 18, nameIndex := 40, descriptorIndex := 41, attributes := #[] }, { accessFlags := 4122, nameIndex := 21, descriptorIndex := 22, attributes := #[] }])
  fields := #[{ name := "HANDLED", type := (.object "com/example/hop1/hop1/protocol/ReplyStatus"), accessFlags := 16409, slot := 0, constantValue := 0 }, { name := "UNKNOWN_TRANSACTION", type := (.object "com/example/hop1/hop1/protocol/ReplyStatus"), accessFlags := 16409, slot := 1, constantValue := 0 }, { name := "NO_SUCH_OBJECT", type := (.object "com/example/hop1/hop1/protocol/ReplyStatus"), accessFlags := 16409, slot := 2, constantValue := 0 }, { name := "FAILED", type := (.object "com/example/hop1/hop1/protocol/ReplyStatus"), accessFlags := 16409, slot := 3, constantValue := 0 }, { name := "TOO_LARGE", type := (.object "com/example/hop1/hop1/protocol/ReplyStatus"), accessFlags := 16409, slot := 4, constantValue := 0 }, { name := "ALL", type := (.array (.object "com/example/hop1/hop1/protocol/ReplyStatus")), accessFlags := 26, slot := 5, constantValue := 0 }, { name := "code", type := .int, accessFlags := 18, slot := 3, constantValue := 0 }, { name := "$VALUES", type := (.array (.object "com/example/hop1/hop1/protocol/ReplyStatus")), accessFlags := 4122, slot := 6, constantValue := 0 }]
  methods := #[k6m0]
  instanceTypes := #[(.object "java/lang/String"), .int, .int, .int]
  staticTypes := #[(.object "com/example/hop1/hop1/protocol/ReplyStatus"), (.object "com/example/hop1/hop1/protocol/ReplyStatus"), (.object "com/example/hop1/hop1/protocol/ReplyStatus"), (.object "com/example/hop1/hop1/protocol/ReplyStatus"), (.object "com/example/hop1/hop1/protocol/ReplyStatus"), (.array (.object "com/example/hop1/hop1/protocol/ReplyStatus")), (.array (.object "com/example/hop1/hop1/protocol/ReplyStatus"))]
  resolved := Array.replicate 75 none
  statics := some 0 }

def pool7 : Array CpInfo := pool [(1, u "java/lang/Cloneable"), (0, .class_ 1), (0, u "java/lang/Object"), (0, .class_ 3)] 3

/-- java/lang/Cloneable -/
def k7 : Class := { plain "java/lang/Cloneable" (some 0) with
  accessFlags := 1537
  interfaces := #[]
  cf := some (fileOf pool7 2 #[] #[] 1537 4 #[] #[])
  fields := #[]
  methods := #[]
  instanceTypes := #[]
  staticTypes := #[]
  resolved := Array.replicate 8 none
  statics := none }

/-- the primitive byte -/
def k8 : Class := { plain "byte" none with kind := .primitive 'B', accessFlags := 0x411 }
/-- [B -/
def k9 : Class := { plain "[B" (some 0) with kind := .array 8 .byte, interfaces := #[7, 4], accessFlags := 1041 }

/-- the primitive int -/
def k10 : Class := { plain "int" none with kind := .primitive 'I', accessFlags := 0x411 }
/-- [I -/
def k11 : Class := { plain "[I" (some 0) with kind := .array 10 .int, interfaces := #[7, 4], accessFlags := 1041 }

/-- [Lcom/example/hop1/hop1/protocol/ReplyStatus; -/
def k12 : Class := { plain "[Lcom/example/hop1/hop1/protocol/ReplyStatus;" (some 0) with kind := .array 6 (.object "com/example/hop1/hop1/protocol/ReplyStatus"), interfaces := #[7, 4], accessFlags := 1041 }

def heap : Heap := #[{ cls := 6, slots := #[.ref 2, .ref 3, .ref 4, .ref 5, .ref 6, .ref 1, .null], vm := .statics 6 },
  { cls := 12, slots := #[.ref 2, .ref 3, .ref 4, .ref 5, .ref 6], vm := .none },
  { cls := 6, slots := #[.null, .int 0, .int 0, .int 0], vm := .none },
  { cls := 6, slots := #[.null, .int 0, .int 0, .int 1], vm := .none },
  { cls := 6, slots := #[.null, .int 0, .int 0, .int 2], vm := .none },
  { cls := 6, slots := #[.null, .int 0, .int 0, .int 3], vm := .none },
  { cls := 6, slots := #[.null, .int 0, .int 0, .int 4], vm := .none }]
def classes : Array Class := #[k0, k1, k2, k3, k4, k5, k6, k7, k8, k9, k10, k11, k12]
def interned : List (Array UInt16 × Addr) := []
def slotsUsed : Nat := 32
def theMethod : MethodId := ⟨1, 2⟩
def args0 : Array Value := #[.int 5, .int 5]
def aboutOver (below : List Frame) : State where
  vm := { classes := classes, interned := interned.toArray }
  heap := heap
  slotsUsed := slotsUsed
  threads := #[{ frames := .invoking theMethod args0 :: below }]
def below0 : List Frame := [.native { method := ⟨0, 0⟩, args := #[] }]
def about1 : State := aboutOver below0
def p0 : Program := .bare "" "" ""
def e0 : Env := launch0.env 0 0 0
theorem w_frames : about1.frames = Frame.invoking theMethod args0 :: below0 := rfl
set_option maxRecDepth 65536 in
theorem w_args : argsFit about1.vm theMethod args0 = true := by decide +kernel
set_option maxRecDepth 65536 in
theorem w_heap : heapFits about1 = true := by decide +kernel
set_option maxRecDepth 65536 in
theorem w_runnable : about1.curStatus? = some .runnable := by decide +kernel
set_option maxRecDepth 65536 in
theorem w_alone : about1.alone = true := by decide +kernel
set_option maxRecDepth 65536 in
theorem w_named : about1.methodNamed? x = some theMethod := by decide +kernel
set_option maxRecDepth 65536 in
theorem w_hears : about1.hears theMethod below0 = true := by decide +kernel
set_option maxRecDepth 65536 in
theorem w_ripe : about1.ripe theMethod args0 below0 = true := by decide +kernel
theorem w_running : about1.status = .running := rfl
set_option maxRecDepth 65536 in
theorem w_room : about1.hasRoom e0.platform room_1 = true :=
  launch0.hasRoom_least _ room_1 (by decide +kernel) (by decide +kernel) (by decide +kernel) (by decide +kernel) (by decide +kernel) (by decide +kernel)
theorem allAtoms_all (ts : List Jvm.Cond) (a : Array Jvm.Value) (st : Jvm.State) : (allAtoms ts).before a st = ts.all (fun c => c.before a st) := by
  induction ts with
  | nil => rfl
  | cons c t ih =>
    show (Jvm.Cond.and c (allAtoms t)).before a st = _
    rw [Jvm.Cond.before_and, ih, List.all_cons]
def words1 : List Jvm.Cond := Jvm.Cond.code x code maxLocals ret :: tables_1
/-- a 'code' word, met by the world's own term for the bytes: nothing is compared byte by byte -/
theorem code_word {y : MethodName} {bytes : ByteArray} {mx : Nat} {rt : Option FieldType} {a : Array Value} {s : State} {m : MethodId} {meth : Method} {c : Code} (h1 : s.methodNamed? y = some m) (h2 : s.vm.method? m = some meth) (h3 : meth.code = some c) (h4 : c.code = bytes)
    (h5 : (c.maxLocals == mx && c.exceptionTable.isEmpty && decide (c.maxStack ≤ mostOperands) && decide (meth.sig.returnType = rt) && !meth.locks && decide (parseMethodDescriptor y.desc = some meth.sig)) = true) : (Jvm.Cond.code y bytes mx rt).before a s = true := by
  simp only [Bool.and_eq_true, beq_iff_eq, Bool.not_eq_true', decide_eq_true_eq] at h5
  obtain ⟨⟨⟨⟨⟨g1, g2⟩, g3⟩, g4⟩, g5⟩, g6⟩ := h5
  simp [Cond.before, Cond.holds, Cond.value, h1, h2, h3, h4, g1, g2, g3, g4, g5, g6]
def isCode : Jvm.Cond → Bool
  | .code _ _ _ _ => true
  | _ => false
theorem all_split {L : List Jvm.Cond} {P : Jvm.Cond → Bool} (h1 : L.all (fun c => isCode c || P c) = true) (h2 : ∀ c ∈ L.filter isCode, P c = true) : L.all P = true := by
  refine List.all_eq_true.mpr fun c hc => ?_
  have h := List.all_eq_true.mp h1 c hc
  rcases Bool.eq_false_or_eq_true (isCode c) with hi | hi
  · exact h2 c (List.mem_filter.mpr ⟨hc, hi⟩)
  · simpa [hi] using h
set_option maxRecDepth 65536 in
theorem w_c0 : (Jvm.Cond.code x code maxLocals ret).before args0 about1 = true := code_word (m := ⟨1, 2⟩) (meth := k1m2) (c := k1c2) (by decide +kernel) rfl rfl rfl (by decide +kernel)
set_option maxRecDepth 65536 in
theorem w_c1 : (Jvm.Cond.code ({ cls := "com/example/hop1/hop1/protocol/ReplyStatus", name := "of", desc := "(I)Lcom/example/hop1/hop1/protocol/ReplyStatus;" } : Jvm.MethodName) prog_123_method_5_code (5 : Nat) (Option.some (Jvm.ClassFile.FieldType.object "com/example/hop1/hop1/protocol/ReplyStatus"))).before args0 about1 = true := code_word (m := ⟨6, 0⟩) (meth := k6m0) (c := k6c0) (by decide +kernel) rfl rfl rfl (by decide +kernel)
set_option maxRecDepth 65536 in
theorem w_c2 : (Jvm.Cond.code ({ cls := "com/example/hop1/hop1/protocol/ReplyStatusOfPinLaw", name := "expected", desc := "(I)Lcom/example/hop1/hop1/protocol/ReplyStatus;" } : Jvm.MethodName) method_2_code (1 : Nat) (Option.some (Jvm.ClassFile.FieldType.object "com/example/hop1/hop1/protocol/ReplyStatus"))).before args0 about1 = true := code_word (m := ⟨1, 1⟩) (meth := k1m1) (c := k1c1) (by decide +kernel) rfl rfl rfl (by decide +kernel)
def codes1 : List Jvm.Cond := [Jvm.Cond.code x code maxLocals ret, Jvm.Cond.code ({ cls := "com/example/hop1/hop1/protocol/ReplyStatus", name := "of", desc := "(I)Lcom/example/hop1/hop1/protocol/ReplyStatus;" } : Jvm.MethodName) prog_123_method_5_code (5 : Nat) (Option.some (Jvm.ClassFile.FieldType.object "com/example/hop1/hop1/protocol/ReplyStatus")), Jvm.Cond.code ({ cls := "com/example/hop1/hop1/protocol/ReplyStatusOfPinLaw", name := "expected", desc := "(I)Lcom/example/hop1/hop1/protocol/ReplyStatus;" } : Jvm.MethodName) method_2_code (1 : Nat) (Option.some (Jvm.ClassFile.FieldType.object "com/example/hop1/hop1/protocol/ReplyStatus"))]
set_option maxRecDepth 65536 in
theorem codes_eq : words1.filter isCode = codes1 := rfl
theorem w_codes : ∀ c ∈ words1.filter isCode, c.before args0 about1 = true := by
  rw [codes_eq]
  intro c hc
  simp only [codes1, List.mem_cons, List.not_mem_nil, or_false] at hc
  rcases hc with rfl | rfl | rfl
  · exact w_c0
  · exact w_c1
  · exact w_c2
set_option maxRecDepth 65536 in
theorem w_t1 : words1.all (fun c => isCode c || c.before args0 about1) = true := by decide +kernel
theorem w_tables : (allAtoms (Jvm.Cond.code x code maxLocals ret :: tables_1)).before args0 about1 = true := by
  rw [allAtoms_all]
  show words1.all (fun c => c.before args0 about1) = true
  refine all_split ?_ w_codes
  rw [w_t1]
set_option maxRecDepth 65536 in
theorem w_case : (Jvm.Cond.and given_1 narrow_1).before args0 about1 = true := by decide +kernel
theorem w_applies : (headSpec (Jvm.Cond.code x code maxLocals ret :: tables_1) room_1).applies x e0.platform about1 = true :=
  (Spec.applies_iff w_frames).mpr ⟨w_running, w_runnable, w_alone, w_named, w_hears, w_ripe, w_room, w_tables⟩
theorem atStart : AtStart classFile x code maxLocals ret World_1 tables_1 room_1 Calls_1 rest_1 Pre_1 launch0 p0 e0 about1 theMethod args0 below0 :=
  ⟨lists_1, trivial, launch0.admits_env _ _ _, launch0.least_env, fairChoices_fair.cas, fairChoices_fair.clock, w_frames, w_args, w_heap, w_applies, trivial, trivial, w_case⟩
end start1
theorem witness_1 : WitnessClaimed_1 := ⟨start1.p0, start1.e0, start1.about1, start1.theMethod, start1.args0, start1.below0, start1.atStart⟩
end Jvm.Pilot.@@N@@
