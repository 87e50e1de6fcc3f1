import JvmDerived
import JvmDerived.Pilot.@@N@@Statement
import JvmDerived.Pilot.@@N@@Code
set_option linter.unusedVariables false
set_option linter.unusedSimpArgs false
namespace Jvm.RoadKit
open Sem ClassFile Op Lib Jvm.Stand Jvm.Free Jvm.LawKit
theorem own_getDI (L : List Int32) (i : Nat) (d : Int32) : (L.map Value.int).getD i (.int d) = .int (L.getD i d) := by simp [List.getD, List.getElem?_map]
theorem own_getDJ (L : List Int64) (i : Nat) (d : Int64) : (L.map Value.long).getD i (.long d) = .long (L.getD i d) := by simp [List.getD, List.getElem?_map]
theorem own_getDD (L : List UInt64) (i : Nat) (d : UInt64) : (L.map Value.double).getD i (.double d) = .double (L.getD i d) := by simp [List.getD, List.getElem?_map]
end Jvm.RoadKit
@@BLOCK:NumsL.lean.txt@@
namespace Jvm.OwnSt
open Sem ClassFile Op Lib Jvm.Free Jvm.Stand Jvm.RoadKit
abbrev lv (x : Int64) : Slot := .val (.long x)
abbrev dv (x : UInt64) : Slot := .val (.double x)
def Gd (tb : Tables) (T : State) (m : MethodId) (c : Code) (below : List Frame) (code : ByteArray) : Prop := At T m c below ∧ tb.exec = Jvm.exec ∧ c.code = code
theorem gd {p : Program} {l : Launch} {e : Env} {R : Room} {s : State} {m : MethodId} {args : Array Value} {below : List Frame} {meth : Method} {c : Code} {T : State} {locs : List Loc} {cells slots : Nat} {code : ByteArray} (X : Stand p l e R s m args below meth c T locs cells slots) (hx : p.tables.exec = Jvm.exec) (hby : c.code = code) : Gd p.tables T m c below code := ⟨X.here, hx, hby⟩
section Steps
variable {tb : Tables} [Ours tb] {e : Env} {below : List Frame} {T target : State} {m : MethodId} {c : Code} {pc : Nat} {L L' : Array Slot} {S : List Value} {code : ByteArray}
theorem miload (pc' : Nat) (G : Gd tb T m c below code) {k : Nat} {v : Int32} (hd : decode code pc = .ok (.iload k, 2)) (hl : L[k]? = some (.val (.int v))) (hp : pc + 2 = pc') (hr : Steps tb e below (T.setTop (mkF m pc' L (.int v :: S))) target) : Steps tb e below (T.setTop (mkF m pc L S)) target := by
  subst hp; exact XS.iload G.1 G.2.1 rfl (hb G.2.2 hd) hl hr
theorem miloadN (pc' : Nat) (G : Gd tb T m c below code) {k : Fin 4} {v : Int32} (hd : decode code pc = .ok (.iload_n k, 1)) (hl : L[k.val]? = some (.val (.int v))) (hp : pc + 1 = pc') (hr : Steps tb e below (T.setTop (mkF m pc' L (.int v :: S))) target) : Steps tb e below (T.setTop (mkF m pc L S)) target := by
  subst hp; exact XS.iloadN G.1 G.2.1 rfl (hb G.2.2 hd) hl hr
theorem mistore (pc' : Nat) (G : Gd tb T m c below code) {k : Nat} {x : Int32} (hd : decode code pc = .ok (.istore k, 2)) (L' : Array Slot) (hl : storeLocals L k (.int x) = some L') (hp : pc + 2 = pc') (hr : Steps tb e below (T.setTop (mkF m pc' L' S)) target) : Steps tb e below (T.setTop (mkF m pc L (.int x :: S))) target := by
  subst hp; exact XS.istore G.1 G.2.1 rfl (hb G.2.2 hd) rfl hl hr
theorem mistoreN (pc' : Nat) (G : Gd tb T m c below code) {k : Fin 4} {x : Int32} (hd : decode code pc = .ok (.istore_n k, 1)) (L' : Array Slot) (hl : storeLocals L k.val (.int x) = some L') (hp : pc + 1 = pc') (hr : Steps tb e below (T.setTop (mkF m pc' L' S)) target) : Steps tb e below (T.setTop (mkF m pc L (.int x :: S))) target := by
  subst hp; exact XS.istoreN G.1 G.2.1 rfl (hb G.2.2 hd) rfl hl hr
theorem mlload (pc' : Nat) (G : Gd tb T m c below code) {k : Nat} {v : Int64} (hd : decode code pc = .ok (.lload k, 2)) (hl : L[k]? = some (.val (.long v))) (hp : pc + 2 = pc') (hr : Steps tb e below (T.setTop (mkF m pc' L (.long v :: S))) target) : Steps tb e below (T.setTop (mkF m pc L S)) target := by
  subst hp; exact XS.lload G.1 G.2.1 rfl (hb G.2.2 hd) hl hr
theorem mlloadN (pc' : Nat) (G : Gd tb T m c below code) {k : Fin 4} {v : Int64} (hd : decode code pc = .ok (.lload_n k, 1)) (hl : L[k.val]? = some (.val (.long v))) (hp : pc + 1 = pc') (hr : Steps tb e below (T.setTop (mkF m pc' L (.long v :: S))) target) : Steps tb e below (T.setTop (mkF m pc L S)) target := by
  subst hp; exact XS.lloadN G.1 G.2.1 rfl (hb G.2.2 hd) hl hr
theorem mlstore (pc' : Nat) (G : Gd tb T m c below code) {k : Nat} {x : Int64} (hd : decode code pc = .ok (.lstore k, 2)) (L' : Array Slot) (hl : storeLocals L k (.long x) = some L') (hp : pc + 2 = pc') (hr : Steps tb e below (T.setTop (mkF m pc' L' S)) target) : Steps tb e below (T.setTop (mkF m pc L (.long x :: S))) target := by
  subst hp; exact XS.lstore G.1 G.2.1 rfl (hb G.2.2 hd) rfl hl hr
theorem mlstoreN (pc' : Nat) (G : Gd tb T m c below code) {k : Fin 4} {x : Int64} (hd : decode code pc = .ok (.lstore_n k, 1)) (L' : Array Slot) (hl : storeLocals L k.val (.long x) = some L') (hp : pc + 1 = pc') (hr : Steps tb e below (T.setTop (mkF m pc' L' S)) target) : Steps tb e below (T.setTop (mkF m pc L (.long x :: S))) target := by
  subst hp; exact XS.lstoreN G.1 G.2.1 rfl (hb G.2.2 hd) rfl hl hr
theorem mdload (pc' : Nat) (G : Gd tb T m c below code) {k : Nat} {v : UInt64} (hd : decode code pc = .ok (.dload k, 2)) (hl : L[k]? = some (.val (.double v))) (hp : pc + 2 = pc') (hr : Steps tb e below (T.setTop (mkF m pc' L (.double v :: S))) target) : Steps tb e below (T.setTop (mkF m pc L S)) target := by
  subst hp; exact XS.dload G.1 G.2.1 rfl (hb G.2.2 hd) hl hr
theorem mdloadN (pc' : Nat) (G : Gd tb T m c below code) {k : Fin 4} {v : UInt64} (hd : decode code pc = .ok (.dload_n k, 1)) (hl : L[k.val]? = some (.val (.double v))) (hp : pc + 1 = pc') (hr : Steps tb e below (T.setTop (mkF m pc' L (.double v :: S))) target) : Steps tb e below (T.setTop (mkF m pc L S)) target := by
  subst hp; exact XS.dloadN G.1 G.2.1 rfl (hb G.2.2 hd) hl hr
theorem mdstore (pc' : Nat) (G : Gd tb T m c below code) {k : Nat} {x : UInt64} (hd : decode code pc = .ok (.dstore k, 2)) (L' : Array Slot) (hl : storeLocals L k (.double x) = some L') (hp : pc + 2 = pc') (hr : Steps tb e below (T.setTop (mkF m pc' L' S)) target) : Steps tb e below (T.setTop (mkF m pc L (.double x :: S))) target := by
  subst hp; exact XS.dstore G.1 G.2.1 rfl (hb G.2.2 hd) rfl hl hr
theorem mdstoreN (pc' : Nat) (G : Gd tb T m c below code) {k : Fin 4} {x : UInt64} (hd : decode code pc = .ok (.dstore_n k, 1)) (L' : Array Slot) (hl : storeLocals L k.val (.double x) = some L') (hp : pc + 1 = pc') (hr : Steps tb e below (T.setTop (mkF m pc' L' S)) target) : Steps tb e below (T.setTop (mkF m pc L (.double x :: S))) target := by
  subst hp; exact XS.dstoreN G.1 G.2.1 rfl (hb G.2.2 hd) rfl hl hr
theorem maload (pc' : Nat) (G : Gd tb T m c below code) {k : Nat} {v : Value} (hd : decode code pc = .ok (.aload k, 2)) (hl : L[k]? = some (.val v)) (hv : v.isRef = true) (hp : pc + 2 = pc') (hr : Steps tb e below (T.setTop (mkF m pc' L (v :: S))) target) : Steps tb e below (T.setTop (mkF m pc L S)) target := by
  subst hp; exact XS.aload G.1 G.2.1 rfl (hb G.2.2 hd) hl hv hr
theorem maloadN (pc' : Nat) (G : Gd tb T m c below code) {k : Fin 4} {v : Value} (hd : decode code pc = .ok (.aload_n k, 1)) (hl : L[k.val]? = some (.val v)) (hv : v.isRef = true) (hp : pc + 1 = pc') (hr : Steps tb e below (T.setTop (mkF m pc' L (v :: S))) target) : Steps tb e below (T.setTop (mkF m pc L S)) target := by
  subst hp; exact XS.aloadN G.1 G.2.1 rfl (hb G.2.2 hd) hl hv hr
theorem mastore (pc' : Nat) (G : Gd tb T m c below code) {k : Nat} {x : Value} (hd : decode code pc = .ok (.astore k, 2)) (hv : x.isRef = true) (L' : Array Slot) (hl : storeLocals L k x = some L') (hp : pc + 2 = pc') (hr : Steps tb e below (T.setTop (mkF m pc' L' S)) target) : Steps tb e below (T.setTop (mkF m pc L (x :: S))) target := by
  subst hp; exact XS.astore G.1 G.2.1 rfl (hb G.2.2 hd) rfl hv hl hr
theorem mastoreN (pc' : Nat) (G : Gd tb T m c below code) {k : Fin 4} {x : Value} (hd : decode code pc = .ok (.astore_n k, 1)) (hv : x.isRef = true) (L' : Array Slot) (hl : storeLocals L k.val x = some L') (hp : pc + 1 = pc') (hr : Steps tb e below (T.setTop (mkF m pc' L' S)) target) : Steps tb e below (T.setTop (mkF m pc L (x :: S))) target := by
  subst hp; exact XS.astoreN G.1 G.2.1 rfl (hb G.2.2 hd) rfl hv hl hr
theorem miconst (pc' : Nat) (G : Gd tb T m c below code) {i : Int} {v : Int32} (hd : decode code pc = .ok (.iconst i, 1)) (hv : Int32.ofInt i = v) (hp : pc + 1 = pc') (hr : Steps tb e below (T.setTop (mkF m pc' L (.int v :: S))) target) : Steps tb e below (T.setTop (mkF m pc L S)) target := by
  subst hp; subst hv; exact XS.iconst G.1 G.2.1 rfl (hb G.2.2 hd) hr
theorem mbipush (pc' : Nat) (G : Gd tb T m c below code) {i : Int} {v : Int32} (hd : decode code pc = .ok (.bipush i, 2)) (hv : (Int8.ofInt i).toInt32 = v) (hp : pc + 2 = pc') (hr : Steps tb e below (T.setTop (mkF m pc' L (.int v :: S))) target) : Steps tb e below (T.setTop (mkF m pc L S)) target := by
  subst hp; subst hv; exact XS.bipush G.1 G.2.1 rfl (hb G.2.2 hd) hr
theorem msipush (pc' : Nat) (G : Gd tb T m c below code) {i : Int} {v : Int32} (hd : decode code pc = .ok (.sipush i, 3)) (hv : (Int16.ofInt i).toInt32 = v) (hp : pc + 3 = pc') (hr : Steps tb e below (T.setTop (mkF m pc' L (.int v :: S))) target) : Steps tb e below (T.setTop (mkF m pc L S)) target := by
  subst hp; subst hv; exact XS.sipush G.1 G.2.1 rfl (hb G.2.2 hd) hr
theorem mlconst (pc' : Nat) (G : Gd tb T m c below code) {k : Fin 2} {v : Int64} (hd : decode code pc = .ok (.lconst k, 1)) (hv : Int64.ofNat k = v) (hp : pc + 1 = pc') (hr : Steps tb e below (T.setTop (mkF m pc' L (.long v :: S))) target) : Steps tb e below (T.setTop (mkF m pc L S)) target := by
  subst hp; subst hv; exact XS.lconst G.1 G.2.1 rfl (hb G.2.2 hd) hr
theorem mdconst0 (pc' : Nat) (G : Gd tb T m c below code) {v : UInt64} (hd : decode code pc = .ok (.dconst 0, 1)) (hv : FP.dconst0 = v) (hp : pc + 1 = pc') (hr : Steps tb e below (T.setTop (mkF m pc' L (.double v :: S))) target) : Steps tb e below (T.setTop (mkF m pc L S)) target := by
  subst hp; exact XS.dconst0 G.1 G.2.1 rfl (hb G.2.2 hd) hv hr
theorem mdconst1 (pc' : Nat) (G : Gd tb T m c below code) {v : UInt64} (hd : decode code pc = .ok (.dconst 1, 1)) (hv : FP.dconst1 = v) (hp : pc + 1 = pc') (hr : Steps tb e below (T.setTop (mkF m pc' L (.double v :: S))) target) : Steps tb e below (T.setTop (mkF m pc L S)) target := by
  subst hp; exact XS.dconst1 G.1 G.2.1 rfl (hb G.2.2 hd) hv hr
theorem maconst_null (pc' : Nat) (G : Gd tb T m c below code)  (hd : decode code pc = .ok (.aconst_null, 1)) (hp : pc + 1 = pc') (hr : Steps tb e below (T.setTop (mkF m pc' L (.null :: S))) target) : Steps tb e below (T.setTop (mkF m pc L S)) target := by
  subst hp; exact XS.aconstNull G.1 G.2.1 rfl (hb G.2.2 hd)  hr
theorem miadd (pc' : Nat) (G : Gd tb T m c below code) {x : Int32} {y : Int32} {v : Int32} (hd : decode code pc = .ok (.iadd, 1)) (hv : x + y = v) (hp : pc + 1 = pc') (hr : Steps tb e below (T.setTop (mkF m pc' L (.int v :: S))) target) : Steps tb e below (T.setTop (mkF m pc L (.int y :: .int x :: S))) target := by
  subst hp; subst hv; exact XS.iadd G.1 G.2.1 rfl (hb G.2.2 hd) rfl  hr
theorem misub (pc' : Nat) (G : Gd tb T m c below code) {x : Int32} {y : Int32} {v : Int32} (hd : decode code pc = .ok (.isub, 1)) (hv : x - y = v) (hp : pc + 1 = pc') (hr : Steps tb e below (T.setTop (mkF m pc' L (.int v :: S))) target) : Steps tb e below (T.setTop (mkF m pc L (.int y :: .int x :: S))) target := by
  subst hp; subst hv; exact XS.isub G.1 G.2.1 rfl (hb G.2.2 hd) rfl  hr
theorem mimul (pc' : Nat) (G : Gd tb T m c below code) {x : Int32} {y : Int32} {v : Int32} (hd : decode code pc = .ok (.imul, 1)) (hv : x * y = v) (hp : pc + 1 = pc') (hr : Steps tb e below (T.setTop (mkF m pc' L (.int v :: S))) target) : Steps tb e below (T.setTop (mkF m pc L (.int y :: .int x :: S))) target := by
  subst hp; subst hv; exact XS.imul G.1 G.2.1 rfl (hb G.2.2 hd) rfl  hr
theorem miand (pc' : Nat) (G : Gd tb T m c below code) {x : Int32} {y : Int32} {v : Int32} (hd : decode code pc = .ok (.iand, 1)) (hv : x &&& y = v) (hp : pc + 1 = pc') (hr : Steps tb e below (T.setTop (mkF m pc' L (.int v :: S))) target) : Steps tb e below (T.setTop (mkF m pc L (.int y :: .int x :: S))) target := by
  subst hp; subst hv; exact XS.iand G.1 G.2.1 rfl (hb G.2.2 hd) rfl  hr
theorem mior (pc' : Nat) (G : Gd tb T m c below code) {x : Int32} {y : Int32} {v : Int32} (hd : decode code pc = .ok (.ior, 1)) (hv : x ||| y = v) (hp : pc + 1 = pc') (hr : Steps tb e below (T.setTop (mkF m pc' L (.int v :: S))) target) : Steps tb e below (T.setTop (mkF m pc L (.int y :: .int x :: S))) target := by
  subst hp; subst hv; exact XS.ior G.1 G.2.1 rfl (hb G.2.2 hd) rfl  hr
theorem mixor (pc' : Nat) (G : Gd tb T m c below code) {x : Int32} {y : Int32} {v : Int32} (hd : decode code pc = .ok (.ixor, 1)) (hv : x ^^^ y = v) (hp : pc + 1 = pc') (hr : Steps tb e below (T.setTop (mkF m pc' L (.int v :: S))) target) : Steps tb e below (T.setTop (mkF m pc L (.int y :: .int x :: S))) target := by
  subst hp; subst hv; exact XS.ixor G.1 G.2.1 rfl (hb G.2.2 hd) rfl  hr
theorem midiv (pc' : Nat) (G : Gd tb T m c below code) {x : Int32} {y : Int32} {v : Int32} (hd : decode code pc = .ok (.idiv, 1)) (hz : y ≠ 0) (hv : x / y = v) (hp : pc + 1 = pc') (hr : Steps tb e below (T.setTop (mkF m pc' L (.int v :: S))) target) : Steps tb e below (T.setTop (mkF m pc L (.int y :: .int x :: S))) target := by
  subst hp; subst hv; exact XS.idiv G.1 G.2.1 rfl (hb G.2.2 hd) rfl hz hr
theorem mladd (pc' : Nat) (G : Gd tb T m c below code) {x : Int64} {y : Int64} {v : Int64} (hd : decode code pc = .ok (.ladd, 1)) (hv : x + y = v) (hp : pc + 1 = pc') (hr : Steps tb e below (T.setTop (mkF m pc' L (.long v :: S))) target) : Steps tb e below (T.setTop (mkF m pc L (.long y :: .long x :: S))) target := by
  subst hp; subst hv; exact XS.ladd G.1 G.2.1 rfl (hb G.2.2 hd) rfl  hr
theorem mlsub (pc' : Nat) (G : Gd tb T m c below code) {x : Int64} {y : Int64} {v : Int64} (hd : decode code pc = .ok (.lsub, 1)) (hv : x - y = v) (hp : pc + 1 = pc') (hr : Steps tb e below (T.setTop (mkF m pc' L (.long v :: S))) target) : Steps tb e below (T.setTop (mkF m pc L (.long y :: .long x :: S))) target := by
  subst hp; subst hv; exact XS.lsub G.1 G.2.1 rfl (hb G.2.2 hd) rfl  hr
theorem mlmul (pc' : Nat) (G : Gd tb T m c below code) {x : Int64} {y : Int64} {v : Int64} (hd : decode code pc = .ok (.lmul, 1)) (hv : x * y = v) (hp : pc + 1 = pc') (hr : Steps tb e below (T.setTop (mkF m pc' L (.long v :: S))) target) : Steps tb e below (T.setTop (mkF m pc L (.long y :: .long x :: S))) target := by
  subst hp; subst hv; exact XS.lmul G.1 G.2.1 rfl (hb G.2.2 hd) rfl  hr
theorem mland (pc' : Nat) (G : Gd tb T m c below code) {x : Int64} {y : Int64} {v : Int64} (hd : decode code pc = .ok (.land, 1)) (hv : x &&& y = v) (hp : pc + 1 = pc') (hr : Steps tb e below (T.setTop (mkF m pc' L (.long v :: S))) target) : Steps tb e below (T.setTop (mkF m pc L (.long y :: .long x :: S))) target := by
  subst hp; subst hv; exact XS.land G.1 G.2.1 rfl (hb G.2.2 hd) rfl  hr
theorem mlor (pc' : Nat) (G : Gd tb T m c below code) {x : Int64} {y : Int64} {v : Int64} (hd : decode code pc = .ok (.lor, 1)) (hv : x ||| y = v) (hp : pc + 1 = pc') (hr : Steps tb e below (T.setTop (mkF m pc' L (.long v :: S))) target) : Steps tb e below (T.setTop (mkF m pc L (.long y :: .long x :: S))) target := by
  subst hp; subst hv; exact XS.lor G.1 G.2.1 rfl (hb G.2.2 hd) rfl  hr
theorem mlxor (pc' : Nat) (G : Gd tb T m c below code) {x : Int64} {y : Int64} {v : Int64} (hd : decode code pc = .ok (.lxor, 1)) (hv : x ^^^ y = v) (hp : pc + 1 = pc') (hr : Steps tb e below (T.setTop (mkF m pc' L (.long v :: S))) target) : Steps tb e below (T.setTop (mkF m pc L (.long y :: .long x :: S))) target := by
  subst hp; subst hv; exact XS.lxor G.1 G.2.1 rfl (hb G.2.2 hd) rfl  hr
theorem mldiv (pc' : Nat) (G : Gd tb T m c below code) {x : Int64} {y : Int64} {v : Int64} (hd : decode code pc = .ok (.ldiv, 1)) (hz : y ≠ 0) (hv : x / y = v) (hp : pc + 1 = pc') (hr : Steps tb e below (T.setTop (mkF m pc' L (.long v :: S))) target) : Steps tb e below (T.setTop (mkF m pc L (.long y :: .long x :: S))) target := by
  subst hp; subst hv; exact XS.ldiv G.1 G.2.1 rfl (hb G.2.2 hd) rfl hz hr
theorem mlrem (pc' : Nat) (G : Gd tb T m c below code) {x : Int64} {y : Int64} {v : Int64} (hd : decode code pc = .ok (.lrem, 1)) (hz : y ≠ 0) (hv : x - (x / y) * y = v) (hp : pc + 1 = pc') (hr : Steps tb e below (T.setTop (mkF m pc' L (.long v :: S))) target) : Steps tb e below (T.setTop (mkF m pc L (.long y :: .long x :: S))) target := by
  subst hp; subst hv; exact XS.lrem G.1 G.2.1 rfl (hb G.2.2 hd) rfl hz hr
theorem mirem (pc' : Nat) (G : Gd tb T m c below code) {x : Int32} {y : Int32} {v : Int32} (hd : decode code pc = .ok (.irem, 1)) (hz : y ≠ 0) (hv : x - (x / y) * y = v) (hp : pc + 1 = pc') (hr : Steps tb e below (T.setTop (mkF m pc' L (.int v :: S))) target) : Steps tb e below (T.setTop (mkF m pc L (.int y :: .int x :: S))) target := by
  subst hp; subst hv; exact XS.irem G.1 G.2.1 rfl (hb G.2.2 hd) rfl hz hr
theorem mishl (pc' : Nat) (G : Gd tb T m c below code) {x : Int32} {y : Int32} {v : Int32} (hd : decode code pc = .ok (.ishl, 1)) (hv : x <<< (y &&& 31) = v) (hp : pc + 1 = pc') (hr : Steps tb e below (T.setTop (mkF m pc' L (.int v :: S))) target) : Steps tb e below (T.setTop (mkF m pc L (.int y :: .int x :: S))) target := by
  subst hp; subst hv; exact XS.ishl G.1 G.2.1 rfl (hb G.2.2 hd) rfl  hr
theorem mishr (pc' : Nat) (G : Gd tb T m c below code) {x : Int32} {y : Int32} {v : Int32} (hd : decode code pc = .ok (.ishr, 1)) (hv : x >>> (y &&& 31) = v) (hp : pc + 1 = pc') (hr : Steps tb e below (T.setTop (mkF m pc' L (.int v :: S))) target) : Steps tb e below (T.setTop (mkF m pc L (.int y :: .int x :: S))) target := by
  subst hp; subst hv; exact XS.ishr G.1 G.2.1 rfl (hb G.2.2 hd) rfl  hr
theorem miushr (pc' : Nat) (G : Gd tb T m c below code) {x : Int32} {y : Int32} {v : Int32} (hd : decode code pc = .ok (.iushr, 1)) (hv : (x.toUInt32 >>> (y &&& 31).toUInt32).toInt32 = v) (hp : pc + 1 = pc') (hr : Steps tb e below (T.setTop (mkF m pc' L (.int v :: S))) target) : Steps tb e below (T.setTop (mkF m pc L (.int y :: .int x :: S))) target := by
  subst hp; subst hv; exact XS.iushr G.1 G.2.1 rfl (hb G.2.2 hd) rfl  hr
theorem mlshl (pc' : Nat) (G : Gd tb T m c below code) {x : Int64} {y : Int32} {v : Int64} (hd : decode code pc = .ok (.lshl, 1)) (hv : x <<< (y &&& 0x3f).toInt64 = v) (hp : pc + 1 = pc') (hr : Steps tb e below (T.setTop (mkF m pc' L (.long v :: S))) target) : Steps tb e below (T.setTop (mkF m pc L (.int y :: .long x :: S))) target := by
  subst hp; subst hv; exact XS.lshl G.1 G.2.1 rfl (hb G.2.2 hd) rfl  hr
theorem mlshr (pc' : Nat) (G : Gd tb T m c below code) {x : Int64} {y : Int32} {v : Int64} (hd : decode code pc = .ok (.lshr, 1)) (hv : x >>> (y &&& 0x3f).toInt64 = v) (hp : pc + 1 = pc') (hr : Steps tb e below (T.setTop (mkF m pc' L (.long v :: S))) target) : Steps tb e below (T.setTop (mkF m pc L (.int y :: .long x :: S))) target := by
  subst hp; subst hv; exact XS.lshr G.1 G.2.1 rfl (hb G.2.2 hd) rfl  hr
theorem mlushr (pc' : Nat) (G : Gd tb T m c below code) {x : Int64} {y : Int32} {v : Int64} (hd : decode code pc = .ok (.lushr, 1)) (hv : (x.toUInt64 >>> (y &&& 0x3f).toInt64.toUInt64).toInt64 = v) (hp : pc + 1 = pc') (hr : Steps tb e below (T.setTop (mkF m pc' L (.long v :: S))) target) : Steps tb e below (T.setTop (mkF m pc L (.int y :: .long x :: S))) target := by
  subst hp; subst hv; exact XS.lushr G.1 G.2.1 rfl (hb G.2.2 hd) rfl  hr
theorem mineg (pc' : Nat) (G : Gd tb T m c below code) {x : Int32} (hd : decode code pc = .ok (.ineg, 1)) (hp : pc + 1 = pc') (hr : Steps tb e below (T.setTop (mkF m pc' L (.int (-x) :: S))) target) : Steps tb e below (T.setTop (mkF m pc L (.int x :: S))) target := by
  subst hp; exact XS.ineg G.1 G.2.1 rfl (hb G.2.2 hd) rfl hr
theorem mlneg (pc' : Nat) (G : Gd tb T m c below code) {x : Int64} (hd : decode code pc = .ok (.lneg, 1)) (hp : pc + 1 = pc') (hr : Steps tb e below (T.setTop (mkF m pc' L (.long (-x) :: S))) target) : Steps tb e below (T.setTop (mkF m pc L (.long x :: S))) target := by
  subst hp; exact XS.lneg G.1 G.2.1 rfl (hb G.2.2 hd) rfl hr
theorem mi2l (pc' : Nat) (G : Gd tb T m c below code) {x : Int32} (hd : decode code pc = .ok (.i2l, 1)) (hp : pc + 1 = pc') (hr : Steps tb e below (T.setTop (mkF m pc' L (.long (x.toInt64) :: S))) target) : Steps tb e below (T.setTop (mkF m pc L (.int x :: S))) target := by
  subst hp; exact XS.i2l G.1 G.2.1 rfl (hb G.2.2 hd) rfl hr
theorem ml2i (pc' : Nat) (G : Gd tb T m c below code) {x : Int64} (hd : decode code pc = .ok (.l2i, 1)) (hp : pc + 1 = pc') (hr : Steps tb e below (T.setTop (mkF m pc' L (.int (x.toInt32) :: S))) target) : Steps tb e below (T.setTop (mkF m pc L (.long x :: S))) target := by
  subst hp; exact XS.l2i G.1 G.2.1 rfl (hb G.2.2 hd) rfl hr
theorem mi2d (pc' : Nat) (G : Gd tb T m c below code) {x : Int32} (hd : decode code pc = .ok (.i2d, 1)) (hp : pc + 1 = pc') (hr : Steps tb e below (T.setTop (mkF m pc' L (.double (FP.i2d x) :: S))) target) : Steps tb e below (T.setTop (mkF m pc L (.int x :: S))) target := by
  subst hp; exact XS.i2dS G.1 G.2.1 rfl (hb G.2.2 hd) rfl rfl hr
theorem ml2d (pc' : Nat) (G : Gd tb T m c below code) {x : Int64} (hd : decode code pc = .ok (.l2d, 1)) (hp : pc + 1 = pc') (hr : Steps tb e below (T.setTop (mkF m pc' L (.double (FP.l2d x) :: S))) target) : Steps tb e below (T.setTop (mkF m pc L (.long x :: S))) target := by
  subst hp; exact XS.l2dS G.1 G.2.1 rfl (hb G.2.2 hd) rfl rfl hr
theorem mdneg (pc' : Nat) (G : Gd tb T m c below code) {x : UInt64} (hd : decode code pc = .ok (.dneg, 1)) (hp : pc + 1 = pc') (hr : Steps tb e below (T.setTop (mkF m pc' L (.double (FP.dneg x) :: S))) target) : Steps tb e below (T.setTop (mkF m pc L (.double x :: S))) target := by
  subst hp; exact XS.dnegS G.1 G.2.1 rfl (hb G.2.2 hd) rfl rfl hr
theorem md2i (pc' : Nat) (G : Gd tb T m c below code) {x : UInt64} (hd : decode code pc = .ok (.d2i, 1)) (hp : pc + 1 = pc') (hr : Steps tb e below (T.setTop (mkF m pc' L (.int (FP.d2i x) :: S))) target) : Steps tb e below (T.setTop (mkF m pc L (.double x :: S))) target := by
  subst hp; exact XS.d2iS G.1 G.2.1 rfl (hb G.2.2 hd) rfl rfl hr
theorem md2l (pc' : Nat) (G : Gd tb T m c below code) {x : UInt64} (hd : decode code pc = .ok (.d2l, 1)) (hp : pc + 1 = pc') (hr : Steps tb e below (T.setTop (mkF m pc' L (.long (FP.d2l x) :: S))) target) : Steps tb e below (T.setTop (mkF m pc L (.double x :: S))) target := by
  subst hp; exact XS.d2lS G.1 G.2.1 rfl (hb G.2.2 hd) rfl rfl hr
theorem mdadd (pc' : Nat) (G : Gd tb T m c below code) {x y : UInt64} (hd : decode code pc = .ok (.dadd, 1)) (hn : Jvm.Free.Fl.NoNaN64 (FP.dadd x y)) (hp : pc + 1 = pc') (hr : Steps tb e below (T.setTop (mkF m pc' L (.double (FP.dadd x y) :: S))) target) : Steps tb e below (T.setTop (mkF m pc L (.double y :: .double x :: S))) target := by
  subst hp; exact XS.daddS G.1 G.2.1 rfl (hb G.2.2 hd) rfl hn rfl hr
theorem mdsub (pc' : Nat) (G : Gd tb T m c below code) {x y : UInt64} (hd : decode code pc = .ok (.dsub, 1)) (hn : Jvm.Free.Fl.NoNaN64 (FP.dsub x y)) (hp : pc + 1 = pc') (hr : Steps tb e below (T.setTop (mkF m pc' L (.double (FP.dsub x y) :: S))) target) : Steps tb e below (T.setTop (mkF m pc L (.double y :: .double x :: S))) target := by
  subst hp; exact XS.dsubS G.1 G.2.1 rfl (hb G.2.2 hd) rfl hn rfl hr
theorem mdmul (pc' : Nat) (G : Gd tb T m c below code) {x y : UInt64} (hd : decode code pc = .ok (.dmul, 1)) (hn : Jvm.Free.Fl.NoNaN64 (FP.dmul x y)) (hp : pc + 1 = pc') (hr : Steps tb e below (T.setTop (mkF m pc' L (.double (FP.dmul x y) :: S))) target) : Steps tb e below (T.setTop (mkF m pc L (.double y :: .double x :: S))) target := by
  subst hp; exact XS.dmulS G.1 G.2.1 rfl (hb G.2.2 hd) rfl hn rfl hr
theorem mddiv (pc' : Nat) (G : Gd tb T m c below code) {x y : UInt64} (hd : decode code pc = .ok (.ddiv, 1)) (hn : Jvm.Free.Fl.NoNaN64 (FP.ddiv x y)) (hp : pc + 1 = pc') (hr : Steps tb e below (T.setTop (mkF m pc' L (.double (FP.ddiv x y) :: S))) target) : Steps tb e below (T.setTop (mkF m pc L (.double y :: .double x :: S))) target := by
  subst hp; exact XS.ddivS G.1 G.2.1 rfl (hb G.2.2 hd) rfl hn rfl hr
theorem mdcmp (pc' : Nat) (G : Gd tb T m c below code) {o : CmpOp} {x y : UInt64} (hd : decode code pc = .ok (.dcmp o, 1)) (hp : pc + 1 = pc') (hr : Steps tb e below (T.setTop (mkF m pc' L (.int (cmpValue (FP.dcmp x y) o) :: S))) target) : Steps tb e below (T.setTop (mkF m pc L (.double y :: .double x :: S))) target := by
  subst hp; exact XS.dcmpS G.1 G.2.1 rfl (hb G.2.2 hd) rfl rfl hr
theorem mlcmp (pc' : Nat) (G : Gd tb T m c below code) {x y : Int64} (hd : decode code pc = .ok (.lcmp, 1)) (hp : pc + 1 = pc') (hr : Steps tb e below (T.setTop (mkF m pc' L (.int (lcmpW x y) :: S))) target) : Steps tb e below (T.setTop (mkF m pc L (.long y :: .long x :: S))) target := by
  subst hp; exact XS.lcmp G.1 G.2.1 rfl (hb G.2.2 hd) rfl hr
theorem mdup (pc' : Nat) (G : Gd tb T m c below code) {x : Value} (hd : decode code pc = .ok (.dup, 1)) (hc : x.category = 1) (hp : pc + 1 = pc') (hr : Steps tb e below (T.setTop (mkF m pc' L (x :: x :: S))) target) : Steps tb e below (T.setTop (mkF m pc L (x :: S))) target := by
  subst hp; exact XS.dup G.1 G.2.1 rfl (hb G.2.2 hd) rfl hc hr
theorem mpop (pc' : Nat) (G : Gd tb T m c below code) {x : Value} (hd : decode code pc = .ok (.pop, 1)) (hc : x.category = 1) (hp : pc + 1 = pc') (hr : Steps tb e below (T.setTop (mkF m pc' L S)) target) : Steps tb e below (T.setTop (mkF m pc L (x :: S))) target := by
  subst hp; exact XS.pop G.1 G.2.1 rfl (hb G.2.2 hd) rfl hc hr
theorem mdup2 (pc' : Nat) (G : Gd tb T m c below code) {x y : Value} (hd : decode code pc = .ok (.dup2, 1)) (hc : x.category = 1) (hc' : y.category = 1) (hp : pc + 1 = pc') (hr : Steps tb e below (T.setTop (mkF m pc' L (x :: y :: x :: y :: S))) target) : Steps tb e below (T.setTop (mkF m pc L (x :: y :: S))) target := by
  subst hp; exact Jvm.Free.XT.dup2 G.1 G.2.1 rfl (hb G.2.2 hd) rfl hc hc' hr
theorem mdup_x1 (pc' : Nat) (G : Gd tb T m c below code) {x y : Value} (hd : decode code pc = .ok (.dup_x1, 1)) (hc : x.category = 1) (hc' : y.category = 1) (hp : pc + 1 = pc') (hr : Steps tb e below (T.setTop (mkF m pc' L (x :: y :: x :: S))) target) : Steps tb e below (T.setTop (mkF m pc L (x :: y :: S))) target := by
  subst hp; exact XS.dupX1 G.1 G.2.1 rfl (hb G.2.2 hd) rfl hc hc' hr
theorem miinc (pc' : Nat) (G : Gd tb T m c below code) {k : Nat} {i : Int} {x : Int32} (hd : decode code pc = .ok (.iinc k i, 3)) (hl : L[k]? = some (.val (.int x))) (L' : Array Slot) (hl' : storeLocals L k (.int (x + Int32.ofInt i)) = some L') (hp : pc + 3 = pc') (hr : Steps tb e below (T.setTop (mkF m pc' L' S)) target) : Steps tb e below (T.setTop (mkF m pc L S)) target := by
  subst hp; exact XS.iinc G.1 G.2.1 rfl (hb G.2.2 hd) hl hl' hr
theorem mgoto (pc' : Nat) (G : Gd tb T m c below code) {o : Int} (hd : decode code pc = .ok (.goto o, 3)) (ho : 0 ≤ (pc : Int) + o) (hp : ((pc : Int) + o).toNat = pc') (hr : Steps tb e below (T.setTop (mkF m pc' L S)) target) : Steps tb e below (T.setTop (mkF m pc L S)) target := XS.goto G.1 G.2.1 rfl rfl (hb G.2.2 hd) ho hp hr
theorem mifYes (pc' : Nat) (G : Gd tb T m c below code) {cd : ClassFile.Cond} {o : Int} {x : Int32} (hd : decode code pc = .ok (.ifCond cd o, 3)) (hc : ifCond.holds cd x = true) (ho : 0 ≤ (pc : Int) + o) (hp : ((pc : Int) + o).toNat = pc') (hr : Steps tb e below (T.setTop (mkF m pc' L S)) target) : Steps tb e below (T.setTop (mkF m pc L (.int x :: S))) target := XS.ifYes G.1 G.2.1 rfl rfl (hb G.2.2 hd) rfl hc ho hp hr
theorem mifNo (pc' : Nat) (G : Gd tb T m c below code) {cd : ClassFile.Cond} {o : Int} {x : Int32} (hd : decode code pc = .ok (.ifCond cd o, 3)) (hc : ifCond.holds cd x = false) (hp : pc + 3 = pc') (hr : Steps tb e below (T.setTop (mkF m pc' L S)) target) : Steps tb e below (T.setTop (mkF m pc L (.int x :: S))) target := by
  subst hp; exact XS.ifNo G.1 G.2.1 rfl (hb G.2.2 hd) rfl hc hr
theorem micmpYes (pc' : Nat) (G : Gd tb T m c below code) {cd : ClassFile.Cond} {o : Int} {x y : Int32} (hd : decode code pc = .ok (.if_icmp cd o, 3)) (hc : if_icmp.holds cd x y = true) (ho : 0 ≤ (pc : Int) + o) (hp : ((pc : Int) + o).toNat = pc') (hr : Steps tb e below (T.setTop (mkF m pc' L S)) target) : Steps tb e below (T.setTop (mkF m pc L (.int y :: .int x :: S))) target := XS.icmpYes G.1 G.2.1 rfl rfl (hb G.2.2 hd) rfl hc ho hp hr
theorem micmpNo (pc' : Nat) (G : Gd tb T m c below code) {cd : ClassFile.Cond} {o : Int} {x y : Int32} (hd : decode code pc = .ok (.if_icmp cd o, 3)) (hc : if_icmp.holds cd x y = false) (hp : pc + 3 = pc') (hr : Steps tb e below (T.setTop (mkF m pc' L S)) target) : Steps tb e below (T.setTop (mkF m pc L (.int y :: .int x :: S))) target := by
  subst hp; exact XS.icmpNo G.1 G.2.1 rfl (hb G.2.2 hd) rfl hc hr
end Steps
section Arrays
variable {p : Program} {l : Launch} {e : Env} {R : Room} {s : State} {m : MethodId} {args : Array Value} {below : List Frame} {meth : Method} {c : Code} {T : State} {locs : List Loc} {cells slots : Nat} {Z : State} {h : Heap} {a : Addr} {k : ClassId} {z j : Int32} {vs : List Value} {dv : Value} {pc : Nat} {L : Array Slot} {S : List Value} {code : ByteArray} {target : State}
theorem wd {ws : List Cond} {a0 : Array Value} (hw : ∀ d ∈ ws, d.before a0 Z = true) (i : Nat) {d : Cond} (q : ws[i]? = some d) : d.before a0 Z = true := hw d (List.mem_of_getElem? q)
theorem miaload (pc' : Nat) (X : Stand p l e R s m args below meth c T locs cells slots) (hx : p.tables.exec = Jvm.exec) (hby : c.code = code) (hZ : Z.Warmed39 s.vm) (eT : T.heap = h) (F : Arv Z h a k .int z vs dv) {v : Int32} (hd : decode code pc = .ok (.iaload, 1)) (hin : ¬ j < 0 ∧ j < z) (hv : vs.getD j.toNatClampNeg dv = .int v) (hp : pc + 1 = pc') (hr : Steps p.tables e below (T.setTop (mkF m pc' L (.int v :: S))) target) : Steps p.tables e below (T.setTop (mkF m pc L (.int j :: .ref a :: S))) target := by
  subst hp
  obtain ⟨cl, A, -, q2, q3, H, -⟩ := F
  have hb' := inb_of q2 hin
  exact X.iaload hx (j := j) (v := .int v) (by rw [eT]; exact A.1) (State.isArrayOf_alike hZ.alike A.2.1) A.2.2 hb' (H.at hb' hv) (g := mkF m pc L (.int j :: .ref a :: S)) rfl rfl (hb hby hd) _ hr
theorem own_stI (X : Stand p l e R s m args below meth c T locs cells slots) (hx : p.tables.exec = Jvm.exec) (hby : c.code = code) (hZ : Z.Warmed39 s.vm) (eT : T.heap = h) (F : Arv Z h a k .int z vs dv) {v : Int32} (hd : decode code pc = .ok (.iastore, 1)) (hin : ¬ j < 0 ∧ j < z) (i : Nat) (hj : j.toNatClampNeg = i) (hi : i < vs.length) (L : Array Slot) (S : List Value) (pc' : Nat) (hp : pc + 1 = pc') :
    ∃ T' h', Stand p l e R s m args below meth c T' (locs ++ [⟨a, j.toNatClampNeg⟩]) cells slots ∧ T'.heap = h' ∧ Wr h h' a j.toNatClampNeg (.int v) ∧ Arv Z h' a k .int z (vs.set i (.int v)) dv ∧ ∀ target, Steps p.tables e below (T'.setTop (mkF m pc' L S)) target → Steps p.tables e below (T.setTop (mkF m pc L (.int v :: .int j :: .ref a :: S))) target := by
  subst hp
  obtain ⟨cl, A, q1, q2, q3, H, G⟩ := F
  obtain ⟨T', h', X', e', W, st⟩ := Jvm.RoadKit.stI X hx hZ eT A (j := j) (inb_of q2 hin) (g := mkF m pc L (.int v :: .int j :: .ref a :: S)) rfl rfl (hb hby hd)
  exact ⟨T', h', X', e', W, Arv.set A q1 q2 q3 H G rfl W i hj hi, st⟩
theorem mlaload (pc' : Nat) (X : Stand p l e R s m args below meth c T locs cells slots) (hx : p.tables.exec = Jvm.exec) (hby : c.code = code) (hZ : Z.Warmed39 s.vm) (eT : T.heap = h) (F : Arv Z h a k .long z vs dv) {v : Int64} (hd : decode code pc = .ok (.laload, 1)) (hin : ¬ j < 0 ∧ j < z) (hv : vs.getD j.toNatClampNeg dv = .long v) (hp : pc + 1 = pc') (hr : Steps p.tables e below (T.setTop (mkF m pc' L (.long v :: S))) target) : Steps p.tables e below (T.setTop (mkF m pc L (.int j :: .ref a :: S))) target := by
  subst hp
  obtain ⟨cl, A, -, q2, q3, H, -⟩ := F
  have hb' := inb_of q2 hin
  exact X.laload hx (j := j) (v := .long v) (by rw [eT]; exact A.1) (State.isArrayOf_alike hZ.alike A.2.1) A.2.2 hb' (H.at hb' hv) (g := mkF m pc L (.int j :: .ref a :: S)) rfl rfl (hb hby hd) _ hr
theorem own_stJ (X : Stand p l e R s m args below meth c T locs cells slots) (hx : p.tables.exec = Jvm.exec) (hby : c.code = code) (hZ : Z.Warmed39 s.vm) (eT : T.heap = h) (F : Arv Z h a k .long z vs dv) {v : Int64} (hd : decode code pc = .ok (.lastore, 1)) (hin : ¬ j < 0 ∧ j < z) (i : Nat) (hj : j.toNatClampNeg = i) (hi : i < vs.length) (L : Array Slot) (S : List Value) (pc' : Nat) (hp : pc + 1 = pc') :
    ∃ T' h', Stand p l e R s m args below meth c T' (locs ++ [⟨a, j.toNatClampNeg⟩]) cells slots ∧ T'.heap = h' ∧ Wr h h' a j.toNatClampNeg (.long v) ∧ Arv Z h' a k .long z (vs.set i (.long v)) dv ∧ ∀ target, Steps p.tables e below (T'.setTop (mkF m pc' L S)) target → Steps p.tables e below (T.setTop (mkF m pc L (.long v :: .int j :: .ref a :: S))) target := by
  subst hp
  obtain ⟨cl, A, q1, q2, q3, H, G⟩ := F
  obtain ⟨T', h', X', e', W, st⟩ := Jvm.RoadKit.stJ X hx hZ eT A (j := j) (inb_of q2 hin) (g := mkF m pc L (.long v :: .int j :: .ref a :: S)) rfl rfl (hb hby hd)
  exact ⟨T', h', X', e', W, Arv.set A q1 q2 q3 H G rfl W i hj hi, st⟩
theorem mdaload (pc' : Nat) (X : Stand p l e R s m args below meth c T locs cells slots) (hx : p.tables.exec = Jvm.exec) (hby : c.code = code) (hZ : Z.Warmed39 s.vm) (eT : T.heap = h) (F : Arv Z h a k .double z vs dv) {v : UInt64} (hd : decode code pc = .ok (.daload, 1)) (hin : ¬ j < 0 ∧ j < z) (hv : vs.getD j.toNatClampNeg dv = .double v) (hp : pc + 1 = pc') (hr : Steps p.tables e below (T.setTop (mkF m pc' L (.double v :: S))) target) : Steps p.tables e below (T.setTop (mkF m pc L (.int j :: .ref a :: S))) target := by
  subst hp
  obtain ⟨cl, A, -, q2, q3, H, -⟩ := F
  have hb' := inb_of q2 hin
  exact X.daload hx (j := j) (v := .double v) (by rw [eT]; exact A.1) (State.isArrayOf_alike hZ.alike A.2.1) A.2.2 hb' (H.at hb' hv) (g := mkF m pc L (.int j :: .ref a :: S)) rfl rfl (hb hby hd) _ hr
theorem own_stD (X : Stand p l e R s m args below meth c T locs cells slots) (hx : p.tables.exec = Jvm.exec) (hby : c.code = code) (hZ : Z.Warmed39 s.vm) (eT : T.heap = h) (F : Arv Z h a k .double z vs dv) {v : UInt64} (hd : decode code pc = .ok (.dastore, 1)) (hin : ¬ j < 0 ∧ j < z) (i : Nat) (hj : j.toNatClampNeg = i) (hi : i < vs.length) (L : Array Slot) (S : List Value) (pc' : Nat) (hp : pc + 1 = pc') :
    ∃ T' h', Stand p l e R s m args below meth c T' (locs ++ [⟨a, j.toNatClampNeg⟩]) cells slots ∧ T'.heap = h' ∧ Wr h h' a j.toNatClampNeg (.double v) ∧ Arv Z h' a k .double z (vs.set i (.double v)) dv ∧ ∀ target, Steps p.tables e below (T'.setTop (mkF m pc' L S)) target → Steps p.tables e below (T.setTop (mkF m pc L (.double v :: .int j :: .ref a :: S))) target := by
  subst hp
  obtain ⟨cl, A, q1, q2, q3, H, G⟩ := F
  obtain ⟨T', h', X', e', W, st⟩ := Jvm.RoadKit.stD X hx hZ eT A (j := j) (inb_of q2 hin) (g := mkF m pc L (.double v :: .int j :: .ref a :: S)) rfl rfl (hb hby hd)
  exact ⟨T', h', X', e', W, Arv.set A q1 q2 q3 H G rfl W i hj hi, st⟩
theorem mlen {ty : FieldType} (pc' : Nat) (X : Stand p l e R s m args below meth c T locs cells slots) (hx : p.tables.exec = Jvm.exec) (hby : c.code = code) (hZ : Z.Warmed39 s.vm) (eT : T.heap = h) (F : Arv Z h a k ty z vs dv) (hd : decode code pc = .ok (.arraylength, 1)) (hp : pc + 1 = pc') (hr : Steps p.tables e below (T.setTop (mkF m pc' L (.int z :: S))) target) : Steps p.tables e below (T.setTop (mkF m pc L (.ref a :: S))) target := by
  subst hp
  obtain ⟨cl, A, -, q2, q3, -, -⟩ := F
  refine X.arraylength hx (by rw [eT]; exact A.1) (State.isArrayOf_alike hZ.alike A.2.1) (g := mkF m pc L (.ref a :: S)) rfl rfl (hb hby hd) _ ?_
  rw [len_of q2 q3]
  exact hr
end Arrays
end Jvm.OwnSt
namespace Jvm.OwnFl
open Jvm.FP Jvm.FP.Core Jvm.Free.Fl Jvm.Op
/-- a double's value, in units of 2^-1074 -/
def zv (a : UInt64) : Int := zval b64 (val64 a)
theorem vv_ddiv (a b : UInt64) : val64 (FP.ddiv a b) = quotient b64 (val64 a) (val64 b) := val64_ddiv a b
theorem vv_dmul (a b : UInt64) : val64 (FP.dmul a b) = round b64 (exactProduct (val64 a) (val64 b)) := val64_dmul a b
theorem vv_dadd (a b : UInt64) : val64 (FP.dadd a b) = round b64 (exactSum (val64 a) (val64 b)) := val64_dadd a b
theorem vv_dsub (a b : UInt64) : val64 (FP.dsub a b) = round b64 (exactSum (val64 a) (negate (val64 b))) := val64_dsub a b
/-- one, in these units -/
def ONE : Int := (one64 : Int)
theorem one_pos : 0 < ONE := Int.natCast_pos.mpr one64_pos
theorem qm : b64.qmin = -1074 := qmin_b64
theorem one_qm : (2 : Nat) ^ (-b64.qmin).toNat = one64 := pow_qmin64
theorem own_quot (f : Fmt) (s t : Bool) (c d : Nat) (q r : Int) : quotient f (.fin s c q) (.fin t d r) = if d = 0 then (if c = 0 then .nan else .inf (s != t)) else roundRatio f (s != t) c d (q - r) := rfl
theorem own_inU (c : Nat) (q e : Int) : inUnits c q e = c * 2 ^ (q - e).toNat := rfl
theorem pow3 {a b c d : Nat} (x : Nat) (h : a + b = c + d) : x * 2 ^ a * 2 ^ b = x * 2 ^ c * 2 ^ d := by
  rw [Nat.mul_assoc, ← Nat.pow_add, h, Nat.pow_add, ← Nat.mul_assoc]
section Mag
variable {s t : Bool} {c d : Nat} {q r : Int} {V : Datum}
theorem scale_quot (h1 : b64.qmin ≤ q) (h2 : b64.qmin ≤ r) :
    c * 2 ^ (q - r - min b64.qmin (q - r)).toNat * 2 ^ (r - b64.qmin).toNat = c * 2 ^ (q - b64.qmin).toNat * one64 * 2 ^ (b64.qmin - min b64.qmin (q - r)).toNat := by
  rw [← one_qm]
  have e : (q - r - min b64.qmin (q - r)).toNat + (r - b64.qmin).toNat = ((q - b64.qmin).toNat + (-b64.qmin).toNat) + (b64.qmin - min b64.qmin (q - r)).toNat := by
    have := qm; omega
  rw [Nat.mul_assoc, ← Nat.pow_add, e, Nat.pow_add, Nat.pow_add]
  simp only [Nat.mul_assoc]
theorem quot_mag_le (hx : FP.Core.fits b64 (.fin s c q)) (hy : FP.Core.fits b64 (.fin t d r)) (hd : d ≠ 0) (hV : FP.Core.fits b64 V) (hn : V ≠ .nan)
    (h : inUnits c q b64.qmin * one64 ≤ zmag b64 V * inUnits d r b64.qmin) : zmag b64 (roundRatio b64 (s != t) c d (q - r)) ≤ zmag b64 V := by
  refine zmag_roundRatio_le good_b64 (e0 := min b64.qmin (q - r)) (Nat.pos_of_ne_zero hd) hV hn (by omega) (by omega) ?_
  have h1 := hx.2.1
  have h2 := hy.2.1
  have hP := Nat.two_pow_pos (r - b64.qmin).toNat
  refine Nat.le_of_mul_le_mul_right (c := 2 ^ (r - b64.qmin).toNat) ?_ hP
  rw [own_inU] at h ⊢
  rw [own_inU] at h
  rw [scale_quot h1 h2]
  have := Nat.mul_le_mul_right (2 ^ (b64.qmin - min b64.qmin (q - r)).toNat) h
  refine Nat.le_trans this (Nat.le_of_eq ?_)
  simp only [Nat.mul_assoc, Nat.mul_left_comm, Nat.mul_comm]
theorem quot_mag_ge (hx : FP.Core.fits b64 (.fin s c q)) (hy : FP.Core.fits b64 (.fin t d r)) (hd : d ≠ 0) (hV : FP.Core.fits b64 V)
    (h : zmag b64 V * inUnits d r b64.qmin ≤ inUnits c q b64.qmin * one64) : zmag b64 V ≤ zmag b64 (roundRatio b64 (s != t) c d (q - r)) := by
  refine zmag_roundRatio_ge good_b64 (e0 := min b64.qmin (q - r)) (Nat.pos_of_ne_zero hd) hV (by omega) (by omega) ?_
  have h1 := hx.2.1
  have h2 := hy.2.1
  have hP := Nat.two_pow_pos (r - b64.qmin).toNat
  refine Nat.le_of_mul_le_mul_right (c := 2 ^ (r - b64.qmin).toNat) ?_ hP
  rw [own_inU] at h ⊢
  rw [own_inU] at h
  rw [scale_quot h1 h2]
  have := Nat.mul_le_mul_right (2 ^ (b64.qmin - min b64.qmin (q - r)).toNat) h
  refine Nat.le_trans (Nat.le_of_eq ?_) this
  simp only [Nat.mul_assoc, Nat.mul_left_comm, Nat.mul_comm]
end Mag
theorem fin_at {a : UInt64} (h : DFin a) : ∃ s c q, val64 a = .fin s c q ∧ FP.Core.fits b64 (.fin s c q) ∧ zv a = signed s (inUnits c q b64.qmin) := by
  obtain ⟨s, c, q, e⟩ := h
  have f := val64_fits a
  rw [e] at f
  exact ⟨s, c, q, e, f, by unfold zv; rw [e]; rfl⟩
theorem units_zero {d : Nat} {r : Int} : inUnits d r b64.qmin = 0 ↔ d = 0 := by
  rw [own_inU]
  have hP := Nat.two_pow_pos (r - b64.qmin).toNat
  constructor
  · intro h
    rcases Nat.mul_eq_zero.mp h with h | h
    · exact h
    · omega
  · rintro rfl; simp
theorem div_core {a b V : UInt64} (ha : DFin a) (hb : DFin b) (hz : zv b ≠ 0) (hV : val64 V ≠ .nan) :
    ∃ (U A D W : Nat) (s t w : Bool) (M : Nat), ONE = (U : Int) ∧ zv a = signed s A ∧ zv b = signed t D ∧ 0 < D ∧ zv V = signed w W ∧ val64 (FP.ddiv a b) ≠ .nan ∧ zv (FP.ddiv a b) = signed (s != t) M ∧ (A * U ≤ W * D → M ≤ W) ∧ (W * D ≤ A * U → W ≤ M) := by
  obtain ⟨s, c, q, e1, f1, z1⟩ := fin_at ha
  obtain ⟨t, d, r, e2, f2, z2⟩ := fin_at hb
  have hd : d ≠ 0 := by
    rintro rfl
    apply hz; rw [z2, units_zero.mpr rfl]; exact signed_zero t
  have e3 : val64 (FP.ddiv a b) = roundRatio b64 (s != t) c d (q - r) := by
    rw [vv_ddiv, e1, e2, own_quot, if_neg hd]
  have fV := val64_fits V
  refine ⟨one64, _, _, zmag b64 (val64 V), s, t, sgn (val64 V), zmag b64 (roundRatio b64 (s != t) c d (q - r)), rfl, z1, z2, ?_, rfl, ?_, ?_, quot_mag_le f1 f2 hd fV hV, quot_mag_ge f1 f2 hd fV⟩
  · exact Nat.pos_of_ne_zero fun h => hd (units_zero.mp h)
  · rw [e3]; exact roundRatio_ne_nan _ _ _ _ _
  · unfold zv; rw [e3]; unfold zval; rw [sgn_roundRatio]
theorem sg_t (n : Nat) : signed true n = -(n : Int) := rfl
theorem sg_f (n : Nat) : signed false n = (n : Int) := rfl
theorem div_le_pos {a b V : UInt64} (ha : DFin a) (hb : DFin b) (hz : 0 < zv b) (hV : val64 V ≠ .nan) (h : zv a * ONE ≤ zv V * zv b) : zv (FP.ddiv a b) ≤ zv V := by
  obtain ⟨U, A, D, W, s, t, w, M, e0, e1, e2, hD, e3, -, e4, l1, l2⟩ := div_core ha hb (by omega) hV
  rw [e1, e2, e3] at h
  rw [e2] at hz
  rw [e3, e4]
  obtain rfl : t = false := by cases t <;> simp only [sg_t, sg_f] at hz <;> first | rfl | omega
  rw [sg_f, e0, ← signed_mul, ← signed_mul] at h
  have hz2 : W * D = 0 → W = 0 := fun x => (Nat.mul_eq_zero.mp x).elim id (fun y => by omega)
  generalize A * U = P at *
  generalize W * D = R at *
  cases s <;> cases w <;> simp only [sg_t, sg_f, Bool.bne_false, bne_self_eq_false] at h ⊢
  · have := l1 (by omega); omega
  · have := l1 (by omega); have := hz2 (by omega); omega
  · omega
  · have := l2 (by omega); omega
theorem div_ge_pos {a b V : UInt64} (ha : DFin a) (hb : DFin b) (hz : 0 < zv b) (hV : val64 V ≠ .nan) (h : zv V * zv b ≤ zv a * ONE) : zv V ≤ zv (FP.ddiv a b) := by
  obtain ⟨U, A, D, W, s, t, w, M, e0, e1, e2, hD, e3, -, e4, l1, l2⟩ := div_core ha hb (by omega) hV
  rw [e1, e2, e3] at h
  rw [e2] at hz
  rw [e3, e4]
  obtain rfl : t = false := by cases t <;> simp only [sg_t, sg_f] at hz <;> first | rfl | omega
  rw [sg_f, e0, ← signed_mul, ← signed_mul] at h
  have hz2 : W * D = 0 → W = 0 := fun x => (Nat.mul_eq_zero.mp x).elim id (fun y => by omega)
  generalize A * U = P at *
  generalize W * D = R at *
  cases s <;> cases w <;> simp only [sg_t, sg_f, Bool.bne_false, bne_self_eq_false] at h ⊢
  · have := l2 (by omega); omega
  · omega
  · have := l1 (by omega); have := hz2 (by omega); omega
  · have := l1 (by omega); omega
theorem div_le_neg {a b V : UInt64} (ha : DFin a) (hb : DFin b) (hz : zv b < 0) (hV : val64 V ≠ .nan) (h : zv V * zv b ≤ zv a * ONE) : zv (FP.ddiv a b) ≤ zv V := by
  obtain ⟨U, A, D, W, s, t, w, M, e0, e1, e2, hD, e3, -, e4, l1, l2⟩ := div_core ha hb (by omega) hV
  rw [e1, e2, e3] at h
  rw [e2] at hz
  rw [e3, e4]
  obtain rfl : t = true := by cases t <;> simp only [sg_t, sg_f] at hz <;> first | rfl | omega
  rw [sg_t, Int.mul_neg, e0, ← signed_mul, ← signed_mul] at h
  have hz2 : W * D = 0 → W = 0 := fun x => (Nat.mul_eq_zero.mp x).elim id (fun y => by omega)
  generalize A * U = P at *
  generalize W * D = R at *
  cases s <;> cases w <;> simp only [sg_t, sg_f, Bool.bne_true, Bool.not_true, Bool.not_false] at h ⊢
  · omega
  · have := l2 (by omega); omega
  · have := l1 (by omega); omega
  · have := l1 (by omega); have := hz2 (by omega); omega
theorem div_ge_neg {a b V : UInt64} (ha : DFin a) (hb : DFin b) (hz : zv b < 0) (hV : val64 V ≠ .nan) (h : zv a * ONE ≤ zv V * zv b) : zv V ≤ zv (FP.ddiv a b) := by
  obtain ⟨U, A, D, W, s, t, w, M, e0, e1, e2, hD, e3, -, e4, l1, l2⟩ := div_core ha hb (by omega) hV
  rw [e1, e2, e3] at h
  rw [e2] at hz
  rw [e3, e4]
  obtain rfl : t = true := by cases t <;> simp only [sg_t, sg_f] at hz <;> first | rfl | omega
  rw [sg_t, Int.mul_neg, e0, ← signed_mul, ← signed_mul] at h
  have hz2 : W * D = 0 → W = 0 := fun x => (Nat.mul_eq_zero.mp x).elim id (fun y => by omega)
  generalize A * U = P at *
  generalize W * D = R at *
  cases s <;> cases w <;> simp only [sg_t, sg_f, Bool.bne_true, Bool.not_true, Bool.not_false] at h ⊢
  · have := l1 (by omega); have := hz2 (by omega); omega
  · have := l1 (by omega); omega
  · have := l2 (by omega); omega
  · omega
theorem div_nan {a b : UInt64} (ha : DFin a) (hb : DFin b) (hz : zv b ≠ 0) : val64 (FP.ddiv a b) ≠ .nan := by
  obtain ⟨U, A, D, W, s, t, w, M, -, -, -, -, -, h, -⟩ := div_core (V := a) ha hb hz ha.ne_nan
  exact h
theorem no_of {x : UInt64} (h : val64 x ≠ .nan) : NoNaN64 x := noNaN64_no.mpr ((notNaN_iff x).mpr h)
theorem of_no {x : UInt64} (h : NoNaN64 x) : val64 x ≠ .nan := (notNaN_iff x).mp (noNaN64_no.mp h)
theorem fin_no {x : UInt64} (h : DFin x) : NoNaN64 x := no_of h.ne_nan
/-- as great as a finite one: finite -/
theorem fin_of_eq {a V : UInt64} (hn : val64 a ≠ .nan) (hV : DFin V) (h : zv a = zv V) : DFin a := by
  cases e : val64 a with
  | nan => exact absurd e hn
  | fin s c q => exact ⟨s, c, q, e⟩
  | inf s =>
    exfalso
    have h1 := hV.zval_lt
    have h2 : (zv a).natAbs = b64.tails * 2 ^ (b64.exps - 2) := by unfold zv; rw [e]; exact natAbs_signed _ _
    have h3 : (zv V).natAbs = zmag b64 (val64 V) := natAbs_signed _ _
    rw [h] at h2
    omega
theorem fin_of_le {a V W : UInt64} (hn : val64 a ≠ .nan) (hV : DFin V) (hW : DFin W) (h : zv V ≤ zv a) (h' : zv a ≤ zv W) : DFin a := by
  cases e : val64 a with
  | nan => exact absurd e hn
  | fin s c q => exact ⟨s, c, q, e⟩
  | inf s =>
    exfalso
    have h1 := hV.zval_lt
    have h1' := hW.zval_lt
    have h2 : (zv a).natAbs = b64.tails * 2 ^ (b64.exps - 2) := by unfold zv; rw [e]; exact natAbs_signed _ _
    have h3 : (zv V).natAbs = zmag b64 (val64 V) := natAbs_signed _ _
    have h3' : (zv W).natAbs = zmag b64 (val64 W) := natAbs_signed _ _
    omega
/-! a finite double of a known value -/
def Dy (a : UInt64) (x : Int) : Prop := DFin a ∧ zv a = x
def Rep (x : Int) : Prop := ∃ V, Dy V x
theorem Dy.rep {a : UInt64} {x : Int} (h : Dy a x) : Rep x := ⟨a, h⟩
theorem Dy.no {a : UInt64} {x : Int} (h : Dy a x) : NoNaN64 a := fin_no h.1
theorem Dy.nn {a : UInt64} {x : Int} (h : Dy a x) : val64 a ≠ .nan := h.1.ne_nan
theorem dy_div {a b : UInt64} {x y z : Int} (ha : Dy a x) (hb : Dy b y) (hy : y ≠ 0) (hz : Rep z) (h : z * y = x * ONE) : Dy (FP.ddiv a b) z := by
  obtain ⟨V, fV, rfl⟩ := hz
  obtain ⟨fa, rfl⟩ := ha
  obtain ⟨fb, rfl⟩ := hb
  have hn := div_nan fa fb hy
  have e : zv (FP.ddiv a b) = zv V := by
    rcases Int.lt_or_gt_of_ne hy with q | q
    · exact Int.le_antisymm (div_le_neg fa fb q fV.ne_nan (Int.le_of_eq h)) (div_ge_neg fa fb q fV.ne_nan (Int.le_of_eq h.symm))
    · exact Int.le_antisymm (div_le_pos fa fb q fV.ne_nan (Int.le_of_eq h.symm)) (div_ge_pos fa fb q fV.ne_nan (Int.le_of_eq h))
  exact ⟨fin_of_eq hn fV e, e⟩
theorem mul_le {a b V : UInt64} (ha : DFin a) (hb : DFin b) (hV : val64 V ≠ .nan) (h : zv a * zv b ≤ zv V * ONE) : zv (FP.dmul a b) ≤ zv V := by
  obtain ⟨s, c, q, e1, f1, z1⟩ := fin_at ha
  obtain ⟨t, d, r, e2, f2, z2⟩ := fin_at hb
  obtain ⟨p1, p2, p3⟩ := product_units f1 f2
  unfold zv
  rw [vv_dmul, e1, e2, p1]
  refine zval_round_le good_b64 (val64_fits V) hV (e0 := 2 * b64.qmin) (by have := qm; omega) p2 ?_
  rw [p3, signed_xor, show (b64.qmin - 2 * b64.qmin).toNat = (-b64.qmin).toNat by omega, one_qm]
  rw [z1, z2] at h
  exact h
theorem mul_ge {a b V : UInt64} (ha : DFin a) (hb : DFin b) (hV : val64 V ≠ .nan) (h : zv V * ONE ≤ zv a * zv b) : zv V ≤ zv (FP.dmul a b) := by
  obtain ⟨s, c, q, e1, f1, z1⟩ := fin_at ha
  obtain ⟨t, d, r, e2, f2, z2⟩ := fin_at hb
  obtain ⟨p1, p2, p3⟩ := product_units f1 f2
  unfold zv
  rw [vv_dmul, e1, e2, p1]
  refine zval_round_ge good_b64 (val64_fits V) hV (e0 := 2 * b64.qmin) (by have := qm; omega) p2 ?_
  rw [p3, signed_xor, show (b64.qmin - 2 * b64.qmin).toNat = (-b64.qmin).toNat by omega, one_qm]
  rw [z1, z2] at h
  exact h
theorem mul_nan {a b : UInt64} (ha : DFin a) (hb : DFin b) : val64 (FP.dmul a b) ≠ .nan := (notNaN_iff _).mp (dmul_out ha hb)
theorem dy_mul {a b : UInt64} {x y z : Int} (ha : Dy a x) (hb : Dy b y) (hz : Rep z) (h : z * ONE = x * y) : Dy (FP.dmul a b) z := by
  obtain ⟨V, fV, rfl⟩ := hz
  obtain ⟨fa, rfl⟩ := ha
  obtain ⟨fb, rfl⟩ := hb
  have e : zv (FP.dmul a b) = zv V := Int.le_antisymm (mul_le fa fb fV.ne_nan (Int.le_of_eq h.symm)) (mul_ge fa fb fV.ne_nan (Int.le_of_eq h))
  exact ⟨fin_of_eq (mul_nan fa fb) fV e, e⟩
theorem add_le {a b V : UInt64} (ha : DFin a) (hb : DFin b) (hV : val64 V ≠ .nan) (h : zv a + zv b ≤ zv V) : zv (FP.dadd a b) ≤ zv V := by
  unfold zv
  rw [vv_dadd]
  exact sum_le good_b64 ha hb (val64_fits a) (val64_fits b) (val64_fits V) hV h
theorem add_ge {a b V : UInt64} (ha : DFin a) (hb : DFin b) (hV : val64 V ≠ .nan) (h : zv V ≤ zv a + zv b) : zv V ≤ zv (FP.dadd a b) := by
  unfold zv
  rw [vv_dadd]
  exact sum_ge good_b64 ha hb (val64_fits a) (val64_fits b) (val64_fits V) hV h
theorem add_nan {a b : UInt64} (ha : DFin a) (hb : DFin b) : val64 (FP.dadd a b) ≠ .nan := (notNaN_iff _).mp (dadd_out ha.notNaN hb)
theorem dy_add {a b : UInt64} {x y : Int} (ha : Dy a x) (hb : Dy b y) (hz : Rep (x + y)) : Dy (FP.dadd a b) (x + y) := by
  obtain ⟨V, fV, e0⟩ := hz
  obtain ⟨fa, rfl⟩ := ha
  obtain ⟨fb, rfl⟩ := hb
  have e : zv (FP.dadd a b) = zv V := Int.le_antisymm (add_le fa fb fV.ne_nan (Int.le_of_eq e0.symm)) (add_ge fa fb fV.ne_nan (Int.le_of_eq e0))
  exact ⟨fin_of_eq (add_nan fa fb) fV e, e.trans e0⟩
theorem neg_fin {b : UInt64} (hb : DFin b) : ∃ s c q, negate (val64 b) = .fin s c q := by
  obtain ⟨s, c, q, e⟩ := hb
  exact ⟨!s, c, q, by rw [e]; rfl⟩
theorem sub_le {a b V : UInt64} (ha : DFin a) (hb : DFin b) (hV : val64 V ≠ .nan) (h : zv a - zv b ≤ zv V) : zv (FP.dsub a b) ≤ zv V := by
  unfold zv
  rw [vv_dsub]
  refine sum_le good_b64 ha (neg_fin hb) (val64_fits a) (negate_fits (val64_fits b)) (val64_fits V) hV ?_
  rw [zval_negate]; unfold zv at h; omega
theorem sub_ge {a b V : UInt64} (ha : DFin a) (hb : DFin b) (hV : val64 V ≠ .nan) (h : zv V ≤ zv a - zv b) : zv V ≤ zv (FP.dsub a b) := by
  unfold zv
  rw [vv_dsub]
  refine sum_ge good_b64 ha (neg_fin hb) (val64_fits a) (negate_fits (val64_fits b)) (val64_fits V) hV ?_
  rw [zval_negate]; unfold zv at h; omega
theorem sub_nan {a b : UInt64} (ha : DFin a) (hb : DFin b) : val64 (FP.dsub a b) ≠ .nan := (notNaN_iff _).mp (dsub_out ha.notNaN hb)
theorem dy_sub {a b : UInt64} {x y : Int} (ha : Dy a x) (hb : Dy b y) (hz : Rep (x - y)) : Dy (FP.dsub a b) (x - y) := by
  obtain ⟨V, fV, e0⟩ := hz
  obtain ⟨fa, rfl⟩ := ha
  obtain ⟨fb, rfl⟩ := hb
  have e : zv (FP.dsub a b) = zv V := Int.le_antisymm (sub_le fa fb fV.ne_nan (Int.le_of_eq e0.symm)) (sub_ge fa fb fV.ne_nan (Int.le_of_eq e0))
  exact ⟨fin_of_eq (sub_nan fa fb) fV e, e.trans e0⟩
theorem dy_i2d (n : Int32) : Dy (FP.i2d n) (n.toInt * ONE) := ⟨Core.i2d_fin n, DInt_zval (i2d_int n)⟩
theorem dy_l2d {n : Int64} (h : n.toInt.natAbs ≤ 2 ^ 53) : Dy (FP.l2d n) (n.toInt * ONE) := ⟨Core.l2d_fin n, DInt_zval (l2d_int h)⟩
theorem rep_nat (s : Bool) (n j : Nat) (hn : n < 2 ^ 53) (hj : j ≤ 1074) : Rep (signed s (n * 2 ^ (1074 - j))) := by
  obtain ⟨c, q, h1, h2⟩ := round_exact good_b64 s (c := n) (q := -(j : Int)) hn (by rw [qm]; omega) (by rw [show b64.qmax = 971 by decide +kernel]; omega)
  have e : val64 (of64 (round b64 (.fin s n (-(j : Int))))) = .fin s c q := by rw [val64_of64 (round_fits good_b64 _), h1]
  refine ⟨of64 (round b64 (.fin s n (-(j : Int)))), ⟨s, c, q, e⟩, ?_⟩
  unfold zv; rw [e]
  show signed s (inUnits c q b64.qmin) = _
  rw [h2, own_inU, qm, show (-(j : Int) - -1074).toNat = 1074 - j by omega]
/-- n / 2^j is a double -/
theorem rep_int (n : Int) (j : Nat) (hn : n.natAbs < 2 ^ 53) (hj : j ≤ 1074) : Rep (n * ((2 ^ (1074 - j) : Nat) : Int)) := by
  have h := rep_nat (decide (n < 0)) n.natAbs j hn hj
  rw [signed_mul] at h
  have e : signed (decide (n < 0)) n.natAbs = n := by
    by_cases q : n < 0
    · simp only [q, decide_true, sg_t]; omega
    · simp only [q, decide_false, sg_f]; omega
  rwa [e] at h
theorem rep_whole (n : Int) (hn : n.natAbs < 2 ^ 53) : Rep (n * ONE) := rep_int n 0 hn (by decide)
theorem cv {a b : UInt64} (ha : val64 a ≠ .nan) (hb : val64 b ≠ .nan) (o : ClassFile.CmpOp) : cmpValue (FP.dcmp a b) o = if zv a < zv b then -1 else if zv a = zv b then 0 else 1 := by
  rw [show FP.dcmp a b = some (compare (zv a) (zv b)) from dcmp_zval ha hb, compare_ite]
  by_cases h1 : zv a < zv b
  · rw [if_pos h1, if_pos h1]; rfl
  · rw [if_neg h1, if_neg h1]
    by_cases h2 : zv a = zv b
    · rw [if_pos h2, if_pos h2]; rfl
    · rw [if_neg h2, if_neg h2]; rfl
theorem cv_lt {a b : UInt64} (ha : val64 a ≠ .nan) (hb : val64 b ≠ .nan) (o : ClassFile.CmpOp) : cmpValue (FP.dcmp a b) o < 0 ↔ zv a < zv b := by
  rw [cv ha hb]
  by_cases h1 : zv a < zv b
  · rw [if_pos h1]; exact ⟨fun _ => h1, fun _ => by decide⟩
  · by_cases h2 : zv a = zv b
    · rw [if_neg h1, if_pos h2]; exact ⟨fun h => absurd h (by decide), fun h => absurd h h1⟩
    · rw [if_neg h1, if_neg h2]; exact ⟨fun h => absurd h (by decide), fun h => absurd h h1⟩
theorem cv_gt {a b : UInt64} (ha : val64 a ≠ .nan) (hb : val64 b ≠ .nan) (o : ClassFile.CmpOp) : 0 < cmpValue (FP.dcmp a b) o ↔ zv b < zv a := by
  rw [cv ha hb]
  by_cases h1 : zv a < zv b
  · rw [if_pos h1]; exact ⟨fun h => absurd h (by decide), fun h => by omega⟩
  · by_cases h2 : zv a = zv b
    · rw [if_neg h1, if_pos h2]; exact ⟨fun h => absurd h (by decide), fun h => by omega⟩
    · rw [if_neg h1, if_neg h2]; exact ⟨fun _ => by omega, fun _ => by decide⟩
theorem cv_eq {a b : UInt64} (ha : val64 a ≠ .nan) (hb : val64 b ≠ .nan) (o : ClassFile.CmpOp) : cmpValue (FP.dcmp a b) o = 0 ↔ zv a = zv b := by
  rw [cv ha hb]
  by_cases h1 : zv a < zv b
  · rw [if_pos h1]; exact ⟨fun h => absurd h (by decide), fun h => by omega⟩
  · by_cases h2 : zv a = zv b
    · rw [if_neg h1, if_pos h2]; exact ⟨fun _ => h2, fun _ => rfl⟩
    · rw [if_neg h1, if_neg h2]; exact ⟨fun h => absurd h (by decide), fun h => absurd h h2⟩
theorem dy_zero : Dy 0 0 := ⟨⟨_, _, _, val64_zero⟩, zval64_zero⟩
theorem dy_lit (a : UInt64) (x : Int) (h1 : a.toNat % 2 ^ 63 < 9218868437227405312) (h2 : zval b64 (val64 a) = x) : Dy a x := ⟨(fin_bits a).mpr h1, h2⟩
theorem dy_one : Dy 4607182418800017408 ONE := dy_lit _ _ (by decide) (by have := DInt_zval dint_one; rw [Int.one_mul] at this; exact this)
/-- two quotients of one ratio are one double -/
theorem div_congr {a b a' b' : UInt64} (ha : DFin a) (hb : DFin b) (ha' : DFin a') (hb' : DFin b') (h0 : 0 ≤ zv a) (h0' : 0 ≤ zv a') (hz : 0 < zv b) (hz' : 0 < zv b') (h : zv a * zv b' = zv a' * zv b) : zv (FP.ddiv a b) = zv (FP.ddiv a' b') := by
  obtain ⟨s, c, q, e1, f1, z1⟩ := fin_at ha
  obtain ⟨t, d, r, e2, f2, z2⟩ := fin_at hb
  obtain ⟨s', c', q', e1', f1', z1'⟩ := fin_at ha'
  obtain ⟨t', d', r', e2', f2', z2'⟩ := fin_at hb'
  rw [z1] at h0; rw [z1'] at h0'; rw [z2] at hz; rw [z2'] at hz'
  rw [z1, z1', z2, z2'] at h
  obtain rfl : t = false := by cases t <;> simp only [sg_t, sg_f] at hz <;> first | rfl | omega
  obtain rfl : t' = false := by cases t' <;> simp only [sg_t, sg_f] at hz' <;> first | rfl | omega
  have k1 : signed s (inUnits c q b64.qmin) = (inUnits c q b64.qmin : Int) := by cases s <;> simp only [sg_t, sg_f] at h0 ⊢; omega
  have k2 : signed s' (inUnits c' q' b64.qmin) = (inUnits c' q' b64.qmin : Int) := by cases s' <;> simp only [sg_t, sg_f] at h0' ⊢; omega
  rw [k1, k2, sg_f, sg_f] at h
  have hN : inUnits c q b64.qmin * inUnits d' r' b64.qmin = inUnits c' q' b64.qmin * inUnits d r b64.qmin := by exact_mod_cast h
  have hd : d ≠ 0 := fun x => by rw [x, units_zero.mpr rfl] at hz; simp [sg_f] at hz
  have hd' : d' ≠ 0 := fun x => by rw [x, units_zero.mpr rfl] at hz'; simp [sg_f] at hz'
  have g1 := f1.2.1; have g2 := f2.2.1; have g3 := f1'.2.1; have g4 := f2'.2.1
  have key : zmag b64 (roundRatio b64 (s != false) c d (q - r)) = zmag b64 (roundRatio b64 (s' != false) c' d' (q' - r')) := by
    have E : roundRatio b64 false c d (q - r) = roundRatio b64 false c' d' (q' - r') := by
      refine roundRatio_congr (Nat.pos_of_ne_zero hd) (Nat.pos_of_ne_zero hd') ?_
      simp only [own_inU] at hN
      generalize b64.qmin = Q at *
      have a1 : c * 2 ^ (q - Q).toNat * (d' * 2 ^ (r' - Q).toNat) = c * d' * 2 ^ ((q - Q).toNat + (r' - Q).toNat) := by rw [Nat.pow_add]; simp only [Nat.mul_assoc, Nat.mul_left_comm, Nat.mul_comm]
      have a2 : c' * 2 ^ (q' - Q).toNat * (d * 2 ^ (r - Q).toNat) = c' * d * 2 ^ ((q' - Q).toNat + (r - Q).toNat) := by rw [Nat.pow_add]; simp only [Nat.mul_assoc, Nat.mul_left_comm, Nat.mul_comm]
      rw [a1, a2] at hN
      by_cases hle : (q - r) ≤ (q' - r')
      · have x1 : (q - r - (q' - r')).toNat = 0 := by omega
        rw [x1, Nat.pow_zero, Nat.mul_one]
        have x2 : (q' - Q).toNat + (r - Q).toNat = (q' - r' - (q - r)).toNat + ((q - Q).toNat + (r' - Q).toNat) := by omega
        rw [x2, Nat.pow_add 2 (q' - r' - (q - r)).toNat, ← Nat.mul_assoc] at hN
        exact Nat.eq_of_mul_eq_mul_right (Nat.two_pow_pos _) hN
      · have x1 : (q' - r' - (q - r)).toNat = 0 := by omega
        rw [x1, Nat.pow_zero, Nat.mul_one]
        have x2 : (q - Q).toNat + (r' - Q).toNat = (q - r - (q' - r')).toNat + ((q' - Q).toNat + (r - Q).toNat) := by omega
        rw [x2, Nat.pow_add 2 (q - r - (q' - r')).toNat, ← Nat.mul_assoc] at hN
        exact Nat.eq_of_mul_eq_mul_right (Nat.two_pow_pos _) hN
    have neg : ∀ (u : Bool) (A B : Nat) (x : Int), zmag b64 (roundRatio b64 u A B x) = zmag b64 (roundRatio b64 false A B x) := fun u A B x => by
      cases u
      · rfl
      · have := negate_roundRatio b64 false A B x
        rw [Bool.not_false] at this
        rw [← this]
        cases roundRatio b64 false A B x <;> rfl
    rw [neg, E, ← neg (s' != false)]
  have zd : zv (FP.ddiv a b) = signed (s != false) (zmag b64 (roundRatio b64 (s != false) c d (q - r))) := by
    unfold zv; rw [vv_ddiv, e1, e2, own_quot, if_neg hd]; unfold zval; rw [sgn_roundRatio]
  have zd' : zv (FP.ddiv a' b') = signed (s' != false) (zmag b64 (roundRatio b64 (s' != false) c' d' (q' - r'))) := by
    unfold zv; rw [vv_ddiv, e1', e2', own_quot, if_neg hd']; unfold zval; rw [sgn_roundRatio]
  have ge1 : 0 ≤ zv (FP.ddiv a b) := by
    have := div_ge_pos ha hb (by rw [z2, sg_f]; rw [sg_f] at hz; exact hz) (V := 0) dy_zero.nn (by rw [dy_zero.2, Int.zero_mul, z1, k1]; exact Int.mul_nonneg (by omega) (by have := one_pos; omega))
    rw [dy_zero.2] at this; exact this
  have ge2 : 0 ≤ zv (FP.ddiv a' b') := by
    have := div_ge_pos ha' hb' (by rw [z2', sg_f]; rw [sg_f] at hz'; exact hz') (V := 0) dy_zero.nn (by rw [dy_zero.2, Int.zero_mul, z1', k2]; exact Int.mul_nonneg (by omega) (by have := one_pos; omega))
    rw [dy_zero.2] at this; exact this
  rw [zd] at ge1 ⊢; rw [zd'] at ge2 ⊢
  rw [key] at ge1 ⊢
  generalize zmag b64 (roundRatio b64 (s' != false) c' d' (q' - r')) = M at *
  cases s <;> cases s' <;> simp only [sg_t, sg_f, Bool.bne_false, bne_self_eq_false] at ge1 ge2 ⊢ <;> omega
theorem one_le {x y : Int} : x * ONE ≤ y * ONE ↔ x ≤ y := ⟨fun h => Int.le_of_mul_le_mul_right h one_pos, fun h => Int.mul_le_mul_of_nonneg_right h (Int.le_of_lt one_pos)⟩
theorem one_lt {x y : Int} : x * ONE < y * ONE ↔ x < y := ⟨fun h => Int.lt_of_mul_lt_mul_right h (Int.le_of_lt one_pos), fun h => Int.mul_lt_mul_of_pos_right h one_pos⟩
theorem one_eq {x y : Int} : x * ONE = y * ONE ↔ x = y := ⟨fun h => Int.le_antisymm (one_le.mp (Int.le_of_eq h)) (one_le.mp (Int.le_of_eq h.symm)), fun h => h ▸ rfl⟩
theorem mul_bd {a b : Int} {A B : Nat} (ha : a.natAbs ≤ A) (hb : b.natAbs ≤ B) : (a * b).natAbs ≤ A * B := by rw [Int.natAbs_mul]; exact Nat.mul_le_mul ha hb
/-- comparison of two doubles that are whole numbers -/
theorem cw_lt {a b : UInt64} {x y : Int} (ha : Dy a (x * ONE)) (hb : Dy b (y * ONE)) (o : ClassFile.CmpOp) : cmpValue (FP.dcmp a b) o < 0 ↔ x < y := by rw [cv_lt ha.nn hb.nn, ha.2, hb.2, one_lt]
theorem cw_gt {a b : UInt64} {x y : Int} (ha : Dy a (x * ONE)) (hb : Dy b (y * ONE)) (o : ClassFile.CmpOp) : 0 < cmpValue (FP.dcmp a b) o ↔ y < x := by rw [cv_gt ha.nn hb.nn, ha.2, hb.2, one_lt]
theorem cw_eq {a b : UInt64} {x y : Int} (ha : Dy a (x * ONE)) (hb : Dy b (y * ONE)) (o : ClassFile.CmpOp) : cmpValue (FP.dcmp a b) o = 0 ↔ x = y := by rw [cv_eq ha.nn hb.nn, ha.2, hb.2, one_eq]
theorem dy_zero' : Dy 0 (0 * ONE) := by rw [Int.zero_mul]; exact dy_zero
theorem dw_add {a b : UInt64} {x y : Int} (ha : Dy a (x * ONE)) (hb : Dy b (y * ONE)) (h : (x + y).natAbs < 2 ^ 53) : Dy (FP.dadd a b) ((x + y) * ONE) := by
  have := dy_add ha hb (by rw [← Int.add_mul]; exact rep_whole _ h)
  rwa [← Int.add_mul] at this
theorem dw_sub {a b : UInt64} {x y : Int} (ha : Dy a (x * ONE)) (hb : Dy b (y * ONE)) (h : (x - y).natAbs < 2 ^ 53) : Dy (FP.dsub a b) ((x - y) * ONE) := by
  have := dy_sub ha hb (by rw [← Int.sub_mul]; exact rep_whole _ h)
  rwa [← Int.sub_mul] at this
theorem dw_mul {a b : UInt64} {x y : Int} (ha : Dy a (x * ONE)) (hb : Dy b (y * ONE)) (h : (x * y).natAbs < 2 ^ 53) : Dy (FP.dmul a b) ((x * y) * ONE) :=
  dy_mul ha hb (rep_whole _ h) (by simp only [Int.mul_assoc, Int.mul_left_comm, Int.mul_comm])
/-- twice a double that isn't too great is a double -/
theorem rep_dbl {a : UInt64} (h : DFin a) (hs : zmag b64 (val64 a) < 2 ^ 2000) : Rep (zv a + zv a) := by
  obtain ⟨s, c, q, e, f, z⟩ := fin_at h
  have hz : zmag b64 (val64 a) = inUnits c q b64.qmin := by rw [e]; rfl
  rw [hz, own_inU] at hs
  by_cases hc : c = 0
  · subst hc
    refine ⟨0, ⟨_, _, _, val64_zero⟩, ?_⟩
    rw [z, own_inU, Nat.zero_mul, signed_zero]; exact zval64_zero
  have hq : q + 1 ≤ b64.qmax := by
    rw [show b64.qmax = 971 by decide +kernel]
    refine Int.not_lt.mp fun r => ?_
    have k : 2 ^ 2000 ≤ 2 ^ (q - b64.qmin).toNat := Nat.pow_le_pow_right (by decide) (by rw [qm]; omega)
    have : 2 ^ (q - b64.qmin).toNat ≤ c * 2 ^ (q - b64.qmin).toNat := Nat.le_mul_of_pos_left _ (Nat.pos_of_ne_zero hc)
    omega
  have f2 := f.2.1
  obtain ⟨c', q', h1, h2⟩ := round_exact good_b64 s (c := c) (q := q + 1) f.1 (by omega) hq
  have e' : val64 (of64 (round b64 (.fin s c (q + 1)))) = .fin s c' q' := by rw [val64_of64 (round_fits good_b64 _), h1]
  refine ⟨of64 (round b64 (.fin s c (q + 1))), ⟨s, c', q', e'⟩, ?_⟩
  unfold zv; rw [e', e]
  show signed s (inUnits c' q' b64.qmin) = signed s (inUnits c q b64.qmin) + signed s (inUnits c q b64.qmin)
  rw [h2, own_inU, own_inU, show (q + 1 - b64.qmin).toNat = (q - b64.qmin).toNat + 1 by omega, Nat.pow_succ]
  generalize 2 ^ (q - b64.qmin).toNat = P
  have : c * (P * 2) = c * P + c * P := by rw [← Nat.mul_assoc, Nat.mul_two]
  rw [this]
  cases s
  · simp only [sg_f]; omega
  · simp only [sg_t]; omega
theorem l2d_small (n : Int64) : zmag b64 (val64 (FP.l2d n)) < 2 ^ 2000 := by
  have h := Core.l2d_mag n
  obtain ⟨s, c, q, e, k⟩ := mag_bits h (by decide)
  rw [e]
  show inUnits c q b64.qmin < _
  rw [own_inU]
  refine Nat.lt_of_lt_of_le k ?_
  rw [← Nat.pow_add]
  exact Nat.pow_le_pow_right (by decide) (by decide)
/-- a finite double's test of being finite -/
theorem mask_fin {a : UInt64} (h : DFin a) (o : ClassFile.CmpOp) : ¬ (0 < cmpValue (FP.dcmp (a &&& 0x7fffffffffffffff) 9218868437227405311) o) := by
  have q := (le_max h.notNaN).mpr h
  intro r
  rcases q with q | q
  · rw [show FP.dcmp (a &&& 0x7fffffffffffffff) 9218868437227405311 = some .lt from q] at r; cases o <;> exact absurd r (by decide)
  · rw [show FP.dcmp (a &&& 0x7fffffffffffffff) 9218868437227405311 = some .eq from q] at r; cases o <;> exact absurd r (by decide)
end Jvm.OwnFl
namespace Jvm.Pilot.@@N@@
open Jvm Jvm.ClassFile Sem Op Lib Jvm.Free Jvm.Stand Jvm.LawKit Jvm.RoadKit Jvm.OwnSt Bundle Jvm.Pilot.@@N@@.Jvm.D
def own_fitA (x y : Int64) : Prop := -9223372036854775808 ≤ x.toInt + y.toInt ∧ x.toInt + y.toInt < 9223372036854775808
def own_fitS (x y : Int64) : Prop := -9223372036854775808 ≤ x.toInt - y.toInt ∧ x.toInt - y.toInt < 9223372036854775808
/-- |x| is n * 2^60 at the most -/
def own_Bn (x : Int64) (n : Int) : Prop := -(n * 1152921504606846976) ≤ x.toInt ∧ x.toInt ≤ n * 1152921504606846976
def own_BL (L : List Int64) : Prop := ∀ x ∈ L, own_Bn x 1
theorem own_b0 : own_Bn (0 : Int64) 0 := by unfold own_Bn; decide
theorem own_b01 : own_Bn (0 : Int64) 1 := by unfold own_Bn; decide
theorem own_bl0 : own_BL [] := fun _ h => nomatch h
theorem own_blS {x : Int64} {L : List Int64} (h : own_Bn x 1) (r : own_BL L) : own_BL (x :: L) := fun y q => (List.mem_cons.mp q).elim (fun z => z ▸ h) (r y)
theorem own_fA {x y : Int64} {a b : Int} (h1 : own_Bn x a) (h2 : own_Bn y b) (h : a + b ≤ 7) : own_fitA x y := by
  obtain ⟨h1, h1'⟩ := h1; obtain ⟨h2, h2'⟩ := h2
  constructor <;> omega
theorem own_fS {x y : Int64} {a b : Int} (h1 : own_Bn x a) (h2 : own_Bn y b) (h : a + b ≤ 7) : own_fitS x y := by
  obtain ⟨h1, h1'⟩ := h1; obtain ⟨h2, h2'⟩ := h2
  constructor <;> omega
theorem own_tA {x y : Int64} (h : own_fitA x y) : (x + y).toInt = x.toInt + y.toInt := Jvm.Kit.i64_add h.1 h.2
theorem own_tS {x y : Int64} (h : own_fitS x y) : (x - y).toInt = x.toInt - y.toInt := Jvm.Kit.i64_sub h.1 h.2
theorem own_sgn (x : Int64) : lcmpW x 0 < 0 ↔ x.toInt < 0 := by rw [lw_lt, Int64.lt_iff_toInt_lt]; rfl
theorem own_okA {x y : Int64} (h : own_fitA x y) : ¬ (lcmpW ((x ^^^ (x + y)) &&& (y ^^^ (x + y))) 0 < 0) := by
  rw [lw_lt, Jvm.Free.XT.and_neg64, Jvm.Free.XT.xor_neg64, Jvm.Free.XT.xor_neg64]
  simp only [Jvm.Free.XT.negI64, own_tA h]
  omega
theorem own_okS {x y : Int64} (h : own_fitS x y) : ¬ (lcmpW ((x ^^^ y) &&& (x ^^^ (x - y))) 0 < 0) := by
  rw [lw_lt, Jvm.Free.XT.and_neg64, Jvm.Free.XT.xor_neg64, Jvm.Free.XT.xor_neg64]
  simp only [Jvm.Free.XT.negI64, own_tS h]
  omega
theorem own_mm (a b c d : Int) : min a (min b (min c d)) = min (min a b) (min c d) := by omega
theorem own_mb {a b c d : Int} (ha : 0 ≤ a) (hb : 0 ≤ b) (hc : 0 ≤ c) (hd : 0 ≤ d) : 0 ≤ min (min a b) (min c d) ∧ min (min a b) (min c d) ≤ a := by omega
theorem own_tA' {A B : Int64} {a b : Int} (hA : A.toInt = a) (hB : B.toInt = b) (h1 : -9223372036854775808 ≤ a + b) (h2 : a + b < 9223372036854775808) : (A + B).toInt = a + b := by
  rw [← hA, ← hB] at h1 h2 ⊢; exact Jvm.Kit.i64_add h1 h2
theorem own_tS' {A B : Int64} {a b : Int} (hA : A.toInt = a) (hB : B.toInt = b) (h1 : -9223372036854775808 ≤ a - b) (h2 : a - b < 9223372036854775808) : (A - B).toInt = a - b := by
  rw [← hA, ← hB] at h1 h2 ⊢; exact Jvm.Kit.i64_sub h1 h2
theorem own_tN' {A : Int64} {a : Int} (hA : A.toInt = a) (h1 : -9223372036854775808 < a) : (-A).toInt = -a := by
  rw [← hA] at h1 ⊢; exact Jvm.Kit.i64_neg (by omega)
theorem own_t0 : (0 : Int64).toInt = 0 := rfl
theorem own_mkB {x : Int64} (h1 : -1152921504606846976 ≤ x.toInt) (h2 : x.toInt ≤ 1152921504606846976) : own_Bn x 1 := by
  unfold own_Bn; constructor <;> omega
theorem own_m58 (q x : Int64) (h : x = q &&& (288230376151711743 : Int64)) : 0 ≤ x.toInt ∧ x.toInt < 288230376151711744 := by
  have e : x.toInt = q.toInt % 288230376151711744 := by rw [h]; exact Jvm.Kit.i64_mask q _ (k := 58) (by decide) (by decide)
  omega
theorem own_m31 (q x : Int64) (h : x = q &&& (2147483647 : Int64)) : 0 ≤ x.toInt ∧ x.toInt < 2147483648 := by
  have e : x.toInt = q.toInt % 2147483648 := by rw [h]; exact Jvm.Kit.i64_mask q _ (k := 31) (by decide) (by decide)
  omega
theorem d2_0 : decode jdk_29_method_70_code 0 = .ok (.lload_n 0, 1) := by decide +kernel
theorem d2_1 : decode jdk_29_method_70_code 1 = .ok (.lload_n 2, 1) := by decide +kernel
theorem d2_2 : decode jdk_29_method_70_code 2 = .ok (.lcmp, 1) := by decide +kernel
theorem d2_3 : decode jdk_29_method_70_code 3 = .ok (.ifCond .gt 7, 3) := by decide +kernel
theorem d2_6 : decode jdk_29_method_70_code 6 = .ok (.lload_n 0, 1) := by decide +kernel
theorem d2_7 : decode jdk_29_method_70_code 7 = .ok (.goto 4, 3) := by decide +kernel
theorem d2_10 : decode jdk_29_method_70_code 10 = .ok (.lload_n 2, 1) := by decide +kernel
theorem d2_11 : decode jdk_29_method_70_code 11 = .ok (.lreturn, 1) := by decide +kernel
theorem ef2 (m : MethodId) (q0 : Int64) (q1 : Int64) : entryFrame m #[(.long q0), (.long q1)] 4 = mkF m 0 #[lv q0, .second, lv q1, .second] [] := by first | (simp [entryFrame, mkF, argsToLocals, Value.category]; done) | rfl
abbrev room_of_2 : Room := { frames := 0, cells := 0, slots := 0, locals := 0 }
def rv2 (q0 : Int64) (q1 : Int64) : Int64 := (if (0 : Int32) < (lcmpW q0 q1) then q1 else q0)
def Q2 (Z : State) (q0 : Int64) (q1 : Int64) (h0 : Heap) (n0 : Nat) (v : Option Value) (h : Heap) (L : List Loc) : Prop := v = some (.long (rv2 q0 q1)) ∧ L = [] ∧ h = h0
set_option maxRecDepth 65536 in
set_option maxHeartbeats 40000000 in
theorem rm2 (l : Launch) (Z : State) (a0 : Array Value) (hw : ∀ d ∈ tables_1, d.before a0 Z = true) (ws : List Jvm.Cond) (q0 : Int64) (q1 : Int64)  (h0 : Heap) (n0 : Nat) (Z0 : n0 ≤ h0.size) :
    MetFree l (⟨"java/lang/Math", "min", "(JJ)J"⟩ : MethodName) (head1 (Jvm.Cond.code (⟨"java/lang/Math", "min", "(JJ)J"⟩ : MethodName) jdk_29_method_70_code 4 (some .long) :: ws) (room_of_2)) (fun a U => a = #[(.long q0), (.long q1)] ∧ Z.Warmed39 U.vm ∧ U.heap = h0) (fun _ _ _ _ _ => True) (fun _ U o U' => ∃ v L, o = .returned v ∧ Q2 Z q0 q1 h0 n0 v U'.heap L ∧ FrameEnd U o U' L (room_of_2).cells (room_of_2).slots) := by
  refine MetFree.of_bodySF (Jvm.Free.JP.mathPlain rfl (by decide +kernel)) hisR ?_
  intro p e s m args below meth c s₁ Bd hml0 hP hK
  obtain ⟨rfl, hZ, hh⟩ := hP
  have hx := Bd.exec
  have hby := Bd.bytes
  have hml : c.maxLocals = 4 := hml0
  have hown : s.vm.findClass "java/lang/Math" = some m.cls := findClass_of_methodNamed Bd.named
  have hnm := (name_of_methodNamed Bd.named Bd.method).1
  have X0 : Stand p l e (room_of_2) s m #[(.long q0), (.long q1)] below meth c s₁ [] 0 0 := Stand.of_body Bd
  have e0 : s₁.heap = h0 := by rw [← hh, Bd.state]; rfl
  have N0 := Fr.nil n0
  have G0 := gd X0 hx hby
  have pre0 : ∀ t, Steps p.tables e below (s₁.setTop (mkF m 0 #[lv q0, .second, lv q1, .second] [])) t → Steps p.tables e below (s₁.setTop (entryFrame m #[(.long q0), (.long q1)] 4)) t := fun t k => castTop (ef2 m q0 q1) k
  obtain ⟨T2, X2, e2, st2⟩ : ∃ T' : State, Stand p l e (room_of_2) s m #[(.long q0), (.long q1)] below meth c T' [] 0 0 ∧ T'.heap = h0 ∧ ∀ target, Steps p.tables e below (T'.setTop (mkF m 11 #[lv q0, .second, lv q1, .second] [(.long (if (0 : Int32) < (lcmpW q0 q1) then q1 else q0))])) target → Steps p.tables e below (s₁.setTop (mkF m 3 #[lv q0, .second, lv q1, .second] [(.int (lcmpW q0 q1))])) target := by
    by_cases hc3_1 : (0 : Int32) < (lcmpW q0 q1)
    · refine ⟨s₁, X0, e0, fun target kt => ?_⟩
      refine mifYes 10 G0 d2_3 ((if0 _ _).trans (tlt hc3_1).2.2.1) (by decide) rfl ?_
      refine mlloadN 11 G0 d2_10 rfl rfl ?_
      exact castTop (g' := (mkF m 11 #[lv q0, .second, lv q1, .second] [(.long (if (0 : Int32) < (lcmpW q0 q1) then q1 else q0))])) (by simp only [if_pos hc3_1]) kt
    · refine ⟨s₁, X0, e0, fun target kt => ?_⟩
      refine mifNo 6 G0 d2_3 ((if0 _ _).trans (flt hc3_1).2.2.1) rfl ?_
      refine mlloadN 7 G0 d2_6 rfl rfl ?_
      refine mgoto 11 G0 d2_7 (by decide) rfl ?_
      exact castTop (g' := (mkF m 11 #[lv q0, .second, lv q1, .second] [(.long (if (0 : Int32) < (lcmpW q0 q1) then q1 else q0))])) (by simp only [if_neg hc3_1]) kt
  have G2 := gd X2 hx hby
  obtain ⟨fs, hr, hrun, hended, hW, hsame⟩ := X2.leave (v := some (.long (if (0 : Int32) < (lcmpW q0 q1) then q1 else q0))) (fun h => by rw [Bd.returns] at h; cases h)
  refine ⟨_, _, pre0 _ ?_, hrun, hended, _, _, rfl, ?_, ⟨_, rfl⟩, hW, hsame.mono (by decide) (by decide)⟩
  · show Steps p.tables e below (s₁.setTop (mkF m 0 #[lv q0, .second, lv q1, .second] [])) _
    refine mlloadN 1 G0 d2_0 rfl rfl ?_
    refine mlloadN 2 G0 d2_1 rfl rfl ?_
    refine mlcmp 3 G0 d2_2 rfl ?_
    refine st2 _ ?_
    exact retOut X2 hx Bd.returns rfl (Or.inr (Or.inl ⟨rfl, rfl, _, rfl⟩)) (hb hby d2_11) hr
  · show Q2 Z q0 q1 h0 n0 _ T2.heap _
    rw [e2]
    exact ⟨by simp only [rv2], rfl, rfl⟩
theorem d12_0 : decode jdk_29_method_66_code 0 = .ok (.lload_n 0, 1) := by decide +kernel
theorem d12_1 : decode jdk_29_method_66_code 1 = .ok (.lload_n 2, 1) := by decide +kernel
theorem d12_2 : decode jdk_29_method_66_code 2 = .ok (.lcmp, 1) := by decide +kernel
theorem d12_3 : decode jdk_29_method_66_code 3 = .ok (.ifCond .lt 7, 3) := by decide +kernel
theorem d12_6 : decode jdk_29_method_66_code 6 = .ok (.lload_n 0, 1) := by decide +kernel
theorem d12_7 : decode jdk_29_method_66_code 7 = .ok (.goto 4, 3) := by decide +kernel
theorem d12_10 : decode jdk_29_method_66_code 10 = .ok (.lload_n 2, 1) := by decide +kernel
theorem d12_11 : decode jdk_29_method_66_code 11 = .ok (.lreturn, 1) := by decide +kernel
theorem ef12 (m : MethodId) (q0 : Int64) (q1 : Int64) : entryFrame m #[(.long q0), (.long q1)] 4 = mkF m 0 #[lv q0, .second, lv q1, .second] [] := by first | (simp [entryFrame, mkF, argsToLocals, Value.category]; done) | rfl
abbrev room_of_12 : Room := { frames := 0, cells := 0, slots := 0, locals := 0 }
def rv12 (q0 : Int64) (q1 : Int64) : Int64 := (if (lcmpW q0 q1) < (0 : Int32) then q1 else q0)
def Q12 (Z : State) (q0 : Int64) (q1 : Int64) (h0 : Heap) (n0 : Nat) (v : Option Value) (h : Heap) (L : List Loc) : Prop := v = some (.long (rv12 q0 q1)) ∧ L = [] ∧ h = h0
set_option maxRecDepth 65536 in
set_option maxHeartbeats 40000000 in
theorem rm12 (l : Launch) (Z : State) (a0 : Array Value) (hw : ∀ d ∈ tables_1, d.before a0 Z = true) (ws : List Jvm.Cond) (q0 : Int64) (q1 : Int64)  (h0 : Heap) (n0 : Nat) (Z0 : n0 ≤ h0.size) :
    MetFree l (⟨"java/lang/Math", "max", "(JJ)J"⟩ : MethodName) (head1 (Jvm.Cond.code (⟨"java/lang/Math", "max", "(JJ)J"⟩ : MethodName) jdk_29_method_66_code 4 (some .long) :: ws) (room_of_12)) (fun a U => a = #[(.long q0), (.long q1)] ∧ Z.Warmed39 U.vm ∧ U.heap = h0) (fun _ _ _ _ _ => True) (fun _ U o U' => ∃ v L, o = .returned v ∧ Q12 Z q0 q1 h0 n0 v U'.heap L ∧ FrameEnd U o U' L (room_of_12).cells (room_of_12).slots) := by
  refine MetFree.of_bodySF (Jvm.Free.JP.mathPlain rfl (by decide +kernel)) hisR ?_
  intro p e s m args below meth c s₁ Bd hml0 hP hK
  obtain ⟨rfl, hZ, hh⟩ := hP
  have hx := Bd.exec
  have hby := Bd.bytes
  have hml : c.maxLocals = 4 := hml0
  have hown : s.vm.findClass "java/lang/Math" = some m.cls := findClass_of_methodNamed Bd.named
  have hnm := (name_of_methodNamed Bd.named Bd.method).1
  have X0 : Stand p l e (room_of_12) s m #[(.long q0), (.long q1)] below meth c s₁ [] 0 0 := Stand.of_body Bd
  have e0 : s₁.heap = h0 := by rw [← hh, Bd.state]; rfl
  have N0 := Fr.nil n0
  have G0 := gd X0 hx hby
  have pre0 : ∀ t, Steps p.tables e below (s₁.setTop (mkF m 0 #[lv q0, .second, lv q1, .second] [])) t → Steps p.tables e below (s₁.setTop (entryFrame m #[(.long q0), (.long q1)] 4)) t := fun t k => castTop (ef12 m q0 q1) k
  obtain ⟨T2, X2, e2, st2⟩ : ∃ T' : State, Stand p l e (room_of_12) s m #[(.long q0), (.long q1)] below meth c T' [] 0 0 ∧ T'.heap = h0 ∧ ∀ target, Steps p.tables e below (T'.setTop (mkF m 11 #[lv q0, .second, lv q1, .second] [(.long (if (lcmpW q0 q1) < (0 : Int32) then q1 else q0))])) target → Steps p.tables e below (s₁.setTop (mkF m 3 #[lv q0, .second, lv q1, .second] [(.int (lcmpW q0 q1))])) target := by
    by_cases hc3_1 : (lcmpW q0 q1) < (0 : Int32)
    · refine ⟨s₁, X0, e0, fun target kt => ?_⟩
      refine mifYes 10 G0 d12_3 ((if0 _ _).trans (tlt hc3_1).1) (by decide) rfl ?_
      refine mlloadN 11 G0 d12_10 rfl rfl ?_
      exact castTop (g' := (mkF m 11 #[lv q0, .second, lv q1, .second] [(.long (if (lcmpW q0 q1) < (0 : Int32) then q1 else q0))])) (by simp only [if_pos hc3_1]) kt
    · refine ⟨s₁, X0, e0, fun target kt => ?_⟩
      refine mifNo 6 G0 d12_3 ((if0 _ _).trans (flt hc3_1).1) rfl ?_
      refine mlloadN 7 G0 d12_6 rfl rfl ?_
      refine mgoto 11 G0 d12_7 (by decide) rfl ?_
      exact castTop (g' := (mkF m 11 #[lv q0, .second, lv q1, .second] [(.long (if (lcmpW q0 q1) < (0 : Int32) then q1 else q0))])) (by simp only [if_neg hc3_1]) kt
  have G2 := gd X2 hx hby
  obtain ⟨fs, hr, hrun, hended, hW, hsame⟩ := X2.leave (v := some (.long (if (lcmpW q0 q1) < (0 : Int32) then q1 else q0))) (fun h => by rw [Bd.returns] at h; cases h)
  refine ⟨_, _, pre0 _ ?_, hrun, hended, _, _, rfl, ?_, ⟨_, rfl⟩, hW, hsame.mono (by decide) (by decide)⟩
  · show Steps p.tables e below (s₁.setTop (mkF m 0 #[lv q0, .second, lv q1, .second] [])) _
    refine mlloadN 1 G0 d12_0 rfl rfl ?_
    refine mlloadN 2 G0 d12_1 rfl rfl ?_
    refine mlcmp 3 G0 d12_2 rfl ?_
    refine st2 _ ?_
    exact retOut X2 hx Bd.returns rfl (Or.inr (Or.inl ⟨rfl, rfl, _, rfl⟩)) (hb hby d12_11) hr
  · show Q12 Z q0 q1 h0 n0 _ T2.heap _
    rw [e2]
    exact ⟨by simp only [rv12], rfl, rfl⟩
theorem d10_0 : decode jdk_29_method_25_code 0 = .ok (.lload_n 0, 1) := by decide +kernel
theorem d10_1 : decode jdk_29_method_25_code 1 = .ok (.lload_n 2, 1) := by decide +kernel
theorem d10_2 : decode jdk_29_method_25_code 2 = .ok (.ladd, 1) := by decide +kernel
theorem d10_3 : decode jdk_29_method_25_code 3 = .ok (.lstore 4, 2) := by decide +kernel
theorem d10_5 : decode jdk_29_method_25_code 5 = .ok (.lload_n 0, 1) := by decide +kernel
theorem d10_6 : decode jdk_29_method_25_code 6 = .ok (.lload 4, 2) := by decide +kernel
theorem d10_8 : decode jdk_29_method_25_code 8 = .ok (.lxor, 1) := by decide +kernel
theorem d10_9 : decode jdk_29_method_25_code 9 = .ok (.lload_n 2, 1) := by decide +kernel
theorem d10_10 : decode jdk_29_method_25_code 10 = .ok (.lload 4, 2) := by decide +kernel
theorem d10_12 : decode jdk_29_method_25_code 12 = .ok (.lxor, 1) := by decide +kernel
theorem d10_13 : decode jdk_29_method_25_code 13 = .ok (.land, 1) := by decide +kernel
theorem d10_14 : decode jdk_29_method_25_code 14 = .ok (.lconst 0, 1) := by decide +kernel
theorem d10_15 : decode jdk_29_method_25_code 15 = .ok (.lcmp, 1) := by decide +kernel
theorem d10_16 : decode jdk_29_method_25_code 16 = .ok (.ifCond .ge 13, 3) := by decide +kernel
theorem d10_29 : decode jdk_29_method_25_code 29 = .ok (.lload 4, 2) := by decide +kernel
theorem d10_31 : decode jdk_29_method_25_code 31 = .ok (.lreturn, 1) := by decide +kernel
theorem ef10 (m : MethodId) (q0 : Int64) (q1 : Int64) : entryFrame m #[(.long q0), (.long q1)] 6 = mkF m 0 #[lv q0, .second, lv q1, .second, .unset, .unset] [] := by first | (simp [entryFrame, mkF, argsToLocals, Value.category]; done) | rfl
abbrev room_of_10 : Room := { frames := 0, cells := 0, slots := 0, locals := 0 }
def rv10 (q0 : Int64) (q1 : Int64) : Int64 := (q0 + q1)
def Q10 (Z : State) (q0 : Int64) (q1 : Int64) (h0 : Heap) (n0 : Nat) (v : Option Value) (h : Heap) (L : List Loc) : Prop := v = some (.long (rv10 q0 q1)) ∧ L = [] ∧ h = h0
theorem own_rm10_fc16 (q0 : Int64) (q1 : Int64) (hin : own_fitA q0 q1) : ¬ ((lcmpW ((q0 ^^^ (q0 + q1)) &&& (q1 ^^^ (q0 + q1))) (0 : Int64)) < (0 : Int32)) := own_okA hin
set_option maxRecDepth 65536 in
set_option maxHeartbeats 40000000 in
theorem rm10 (l : Launch) (Z : State) (a0 : Array Value) (hw : ∀ d ∈ tables_1, d.before a0 Z = true) (ws : List Jvm.Cond) (q0 : Int64) (q1 : Int64)  (h0 : Heap) (n0 : Nat) (Z0 : n0 ≤ h0.size) (hin : own_fitA q0 q1) :
    MetFree l (⟨"java/lang/Math", "addExact", "(JJ)J"⟩ : MethodName) (head1 (Jvm.Cond.code (⟨"java/lang/Math", "addExact", "(JJ)J"⟩ : MethodName) jdk_29_method_25_code 6 (some .long) :: ws) (room_of_10)) (fun a U => a = #[(.long q0), (.long q1)] ∧ Z.Warmed39 U.vm ∧ U.heap = h0) (fun _ _ _ _ _ => True) (fun _ U o U' => ∃ v L, o = .returned v ∧ Q10 Z q0 q1 h0 n0 v U'.heap L ∧ FrameEnd U o U' L (room_of_10).cells (room_of_10).slots) := by
  refine MetFree.of_bodySF (Jvm.Free.JP.mathPlain rfl (by decide +kernel)) hisR ?_
  intro p e s m args below meth c s₁ Bd hml0 hP hK
  obtain ⟨rfl, hZ, hh⟩ := hP
  have hx := Bd.exec
  have hby := Bd.bytes
  have hml : c.maxLocals = 6 := hml0
  have hown : s.vm.findClass "java/lang/Math" = some m.cls := findClass_of_methodNamed Bd.named
  have hnm := (name_of_methodNamed Bd.named Bd.method).1
  have X0 : Stand p l e (room_of_10) s m #[(.long q0), (.long q1)] below meth c s₁ [] 0 0 := Stand.of_body Bd
  have e0 : s₁.heap = h0 := by rw [← hh, Bd.state]; rfl
  have N0 := Fr.nil n0
  have G0 := gd X0 hx hby
  have pre0 : ∀ t, Steps p.tables e below (s₁.setTop (mkF m 0 #[lv q0, .second, lv q1, .second, .unset, .unset] [])) t → Steps p.tables e below (s₁.setTop (entryFrame m #[(.long q0), (.long q1)] 6)) t := fun t k => castTop (ef10 m q0 q1) k
  obtain ⟨fs, hr, hrun, hended, hW, hsame⟩ := X0.leave (v := some (.long (q0 + q1))) (fun h => by rw [Bd.returns] at h; cases h)
  refine ⟨_, _, pre0 _ ?_, hrun, hended, _, _, rfl, ?_, ⟨_, rfl⟩, hW, hsame.mono (by decide) (by decide)⟩
  · show Steps p.tables e below (s₁.setTop (mkF m 0 #[lv q0, .second, lv q1, .second, .unset, .unset] [])) _
    refine mlloadN 1 G0 d10_0 rfl rfl ?_
    refine mlloadN 2 G0 d10_1 rfl rfl ?_
    refine mladd 3 G0 d10_2 rfl rfl ?_
    refine mlstore 5 G0 d10_3 #[lv q0, .second, lv q1, .second, lv (q0 + q1), .second] rfl rfl ?_
    refine mlloadN 6 G0 d10_5 rfl rfl ?_
    refine mlload 8 G0 d10_6 rfl rfl ?_
    refine mlxor 9 G0 d10_8 rfl rfl ?_
    refine mlloadN 10 G0 d10_9 rfl rfl ?_
    refine mlload 12 G0 d10_10 rfl rfl ?_
    refine mlxor 13 G0 d10_12 rfl rfl ?_
    refine mland 14 G0 d10_13 rfl rfl ?_
    refine mlconst 15 G0 d10_14 (v := (0 : Int64)) rfl rfl ?_
    refine mlcmp 16 G0 d10_15 rfl ?_
    refine mifYes 29 G0 d10_16 ((if0 _ _).trans (flt (own_rm10_fc16 q0 q1 hin)).2.1) (by decide) rfl ?_
    refine mlload 31 G0 d10_29 rfl rfl ?_
    exact retOut X0 hx Bd.returns rfl (Or.inr (Or.inl ⟨rfl, rfl, _, rfl⟩)) (hb hby d10_31) hr
  · show Q10 Z q0 q1 h0 n0 _ s₁.heap _
    rw [e0]
    exact ⟨by simp only [rv10], rfl, rfl⟩
theorem d11_0 : decode jdk_29_method_27_code 0 = .ok (.lload_n 0, 1) := by decide +kernel
theorem d11_1 : decode jdk_29_method_27_code 1 = .ok (.lload_n 2, 1) := by decide +kernel
theorem d11_2 : decode jdk_29_method_27_code 2 = .ok (.lsub, 1) := by decide +kernel
theorem d11_3 : decode jdk_29_method_27_code 3 = .ok (.lstore 4, 2) := by decide +kernel
theorem d11_5 : decode jdk_29_method_27_code 5 = .ok (.lload_n 0, 1) := by decide +kernel
theorem d11_6 : decode jdk_29_method_27_code 6 = .ok (.lload_n 2, 1) := by decide +kernel
theorem d11_7 : decode jdk_29_method_27_code 7 = .ok (.lxor, 1) := by decide +kernel
theorem d11_8 : decode jdk_29_method_27_code 8 = .ok (.lload_n 0, 1) := by decide +kernel
theorem d11_9 : decode jdk_29_method_27_code 9 = .ok (.lload 4, 2) := by decide +kernel
theorem d11_11 : decode jdk_29_method_27_code 11 = .ok (.lxor, 1) := by decide +kernel
theorem d11_12 : decode jdk_29_method_27_code 12 = .ok (.land, 1) := by decide +kernel
theorem d11_13 : decode jdk_29_method_27_code 13 = .ok (.lconst 0, 1) := by decide +kernel
theorem d11_14 : decode jdk_29_method_27_code 14 = .ok (.lcmp, 1) := by decide +kernel
theorem d11_15 : decode jdk_29_method_27_code 15 = .ok (.ifCond .ge 13, 3) := by decide +kernel
theorem d11_28 : decode jdk_29_method_27_code 28 = .ok (.lload 4, 2) := by decide +kernel
theorem d11_30 : decode jdk_29_method_27_code 30 = .ok (.lreturn, 1) := by decide +kernel
theorem ef11 (m : MethodId) (q0 : Int64) (q1 : Int64) : entryFrame m #[(.long q0), (.long q1)] 6 = mkF m 0 #[lv q0, .second, lv q1, .second, .unset, .unset] [] := by first | (simp [entryFrame, mkF, argsToLocals, Value.category]; done) | rfl
abbrev room_of_11 : Room := { frames := 0, cells := 0, slots := 0, locals := 0 }
def rv11 (q0 : Int64) (q1 : Int64) : Int64 := (q0 - q1)
def Q11 (Z : State) (q0 : Int64) (q1 : Int64) (h0 : Heap) (n0 : Nat) (v : Option Value) (h : Heap) (L : List Loc) : Prop := v = some (.long (rv11 q0 q1)) ∧ L = [] ∧ h = h0
theorem own_rm11_fc15 (q0 : Int64) (q1 : Int64) (hin : own_fitS q0 q1) : ¬ ((lcmpW ((q0 ^^^ q1) &&& (q0 ^^^ (q0 - q1))) (0 : Int64)) < (0 : Int32)) := own_okS hin
set_option maxRecDepth 65536 in
set_option maxHeartbeats 40000000 in
theorem rm11 (l : Launch) (Z : State) (a0 : Array Value) (hw : ∀ d ∈ tables_1, d.before a0 Z = true) (ws : List Jvm.Cond) (q0 : Int64) (q1 : Int64)  (h0 : Heap) (n0 : Nat) (Z0 : n0 ≤ h0.size) (hin : own_fitS q0 q1) :
    MetFree l (⟨"java/lang/Math", "subtractExact", "(JJ)J"⟩ : MethodName) (head1 (Jvm.Cond.code (⟨"java/lang/Math", "subtractExact", "(JJ)J"⟩ : MethodName) jdk_29_method_27_code 6 (some .long) :: ws) (room_of_11)) (fun a U => a = #[(.long q0), (.long q1)] ∧ Z.Warmed39 U.vm ∧ U.heap = h0) (fun _ _ _ _ _ => True) (fun _ U o U' => ∃ v L, o = .returned v ∧ Q11 Z q0 q1 h0 n0 v U'.heap L ∧ FrameEnd U o U' L (room_of_11).cells (room_of_11).slots) := by
  refine MetFree.of_bodySF (Jvm.Free.JP.mathPlain rfl (by decide +kernel)) hisR ?_
  intro p e s m args below meth c s₁ Bd hml0 hP hK
  obtain ⟨rfl, hZ, hh⟩ := hP
  have hx := Bd.exec
  have hby := Bd.bytes
  have hml : c.maxLocals = 6 := hml0
  have hown : s.vm.findClass "java/lang/Math" = some m.cls := findClass_of_methodNamed Bd.named
  have hnm := (name_of_methodNamed Bd.named Bd.method).1
  have X0 : Stand p l e (room_of_11) s m #[(.long q0), (.long q1)] below meth c s₁ [] 0 0 := Stand.of_body Bd
  have e0 : s₁.heap = h0 := by rw [← hh, Bd.state]; rfl
  have N0 := Fr.nil n0
  have G0 := gd X0 hx hby
  have pre0 : ∀ t, Steps p.tables e below (s₁.setTop (mkF m 0 #[lv q0, .second, lv q1, .second, .unset, .unset] [])) t → Steps p.tables e below (s₁.setTop (entryFrame m #[(.long q0), (.long q1)] 6)) t := fun t k => castTop (ef11 m q0 q1) k
  obtain ⟨fs, hr, hrun, hended, hW, hsame⟩ := X0.leave (v := some (.long (q0 - q1))) (fun h => by rw [Bd.returns] at h; cases h)
  refine ⟨_, _, pre0 _ ?_, hrun, hended, _, _, rfl, ?_, ⟨_, rfl⟩, hW, hsame.mono (by decide) (by decide)⟩
  · show Steps p.tables e below (s₁.setTop (mkF m 0 #[lv q0, .second, lv q1, .second, .unset, .unset] [])) _
    refine mlloadN 1 G0 d11_0 rfl rfl ?_
    refine mlloadN 2 G0 d11_1 rfl rfl ?_
    refine mlsub 3 G0 d11_2 rfl rfl ?_
    refine mlstore 5 G0 d11_3 #[lv q0, .second, lv q1, .second, lv (q0 - q1), .second] rfl rfl ?_
    refine mlloadN 6 G0 d11_5 rfl rfl ?_
    refine mlloadN 7 G0 d11_6 rfl rfl ?_
    refine mlxor 8 G0 d11_7 rfl rfl ?_
    refine mlloadN 9 G0 d11_8 rfl rfl ?_
    refine mlload 11 G0 d11_9 rfl rfl ?_
    refine mlxor 12 G0 d11_11 rfl rfl ?_
    refine mland 13 G0 d11_12 rfl rfl ?_
    refine mlconst 14 G0 d11_13 (v := (0 : Int64)) rfl rfl ?_
    refine mlcmp 15 G0 d11_14 rfl ?_
    refine mifYes 28 G0 d11_15 ((if0 _ _).trans (flt (own_rm11_fc15 q0 q1 hin)).2.1) (by decide) rfl ?_
    refine mlload 30 G0 d11_28 rfl rfl ?_
    exact retOut X0 hx Bd.returns rfl (Or.inr (Or.inl ⟨rfl, rfl, _, rfl⟩)) (hb hby d11_30) hr
  · show Q11 Z q0 q1 h0 n0 _ s₁.heap _
    rw [e0]
    exact ⟨by simp only [rv11], rfl, rfl⟩
theorem own_bA {x y : Int64} {a b : Int} (h1 : own_Bn x a) (h2 : own_Bn y b) (h : a + b ≤ 7) : own_Bn (rv10 x y) (a + b) := by
  have e := own_tA (own_fA h1 h2 h)
  obtain ⟨h1, h1'⟩ := h1; obtain ⟨h2, h2'⟩ := h2
  unfold rv10 own_Bn
  rw [e]
  constructor <;> omega
theorem own_bS {x y : Int64} {a b : Int} (h1 : own_Bn x a) (h2 : own_Bn y b) (h : a + b ≤ 7) : own_Bn (rv11 x y) (a + b) := by
  have e := own_tS (own_fS h1 h2 h)
  obtain ⟨h1, h1'⟩ := h1; obtain ⟨h2, h2'⟩ := h2
  unfold rv11 own_Bn
  rw [e]
  constructor <;> omega
theorem d8_0 : decode jdk_33_method_49_code 0 = .ok (.iload_n 0, 1) := by decide +kernel
theorem d8_1 : decode jdk_33_method_49_code 1 = .ok (.iload_n 0, 1) := by decide +kernel
theorem d8_2 : decode jdk_33_method_49_code 2 = .ok (.iconst 1, 1) := by decide +kernel
theorem d8_3 : decode jdk_33_method_49_code 3 = .ok (.iushr, 1) := by decide +kernel
theorem d8_4 : decode jdk_33_method_49_code 4 = .ok (.ldc_w 265, 3) := by decide +kernel
theorem d8_7 : decode jdk_33_method_49_code 7 = .ok (.iand, 1) := by decide +kernel
theorem d8_8 : decode jdk_33_method_49_code 8 = .ok (.isub, 1) := by decide +kernel
theorem d8_9 : decode jdk_33_method_49_code 9 = .ok (.istore_n 0, 1) := by decide +kernel
theorem d8_10 : decode jdk_33_method_49_code 10 = .ok (.iload_n 0, 1) := by decide +kernel
theorem d8_11 : decode jdk_33_method_49_code 11 = .ok (.ldc_w 266, 3) := by decide +kernel
theorem d8_14 : decode jdk_33_method_49_code 14 = .ok (.iand, 1) := by decide +kernel
theorem d8_15 : decode jdk_33_method_49_code 15 = .ok (.iload_n 0, 1) := by decide +kernel
theorem d8_16 : decode jdk_33_method_49_code 16 = .ok (.iconst 2, 1) := by decide +kernel
theorem d8_17 : decode jdk_33_method_49_code 17 = .ok (.iushr, 1) := by decide +kernel
theorem d8_18 : decode jdk_33_method_49_code 18 = .ok (.ldc_w 266, 3) := by decide +kernel
theorem d8_21 : decode jdk_33_method_49_code 21 = .ok (.iand, 1) := by decide +kernel
theorem d8_22 : decode jdk_33_method_49_code 22 = .ok (.iadd, 1) := by decide +kernel
theorem d8_23 : decode jdk_33_method_49_code 23 = .ok (.istore_n 0, 1) := by decide +kernel
theorem d8_24 : decode jdk_33_method_49_code 24 = .ok (.iload_n 0, 1) := by decide +kernel
theorem d8_25 : decode jdk_33_method_49_code 25 = .ok (.iload_n 0, 1) := by decide +kernel
theorem d8_26 : decode jdk_33_method_49_code 26 = .ok (.iconst 4, 1) := by decide +kernel
theorem d8_27 : decode jdk_33_method_49_code 27 = .ok (.iushr, 1) := by decide +kernel
theorem d8_28 : decode jdk_33_method_49_code 28 = .ok (.iadd, 1) := by decide +kernel
theorem d8_29 : decode jdk_33_method_49_code 29 = .ok (.ldc_w 267, 3) := by decide +kernel
theorem d8_32 : decode jdk_33_method_49_code 32 = .ok (.iand, 1) := by decide +kernel
theorem d8_33 : decode jdk_33_method_49_code 33 = .ok (.istore_n 0, 1) := by decide +kernel
theorem d8_34 : decode jdk_33_method_49_code 34 = .ok (.iload_n 0, 1) := by decide +kernel
theorem d8_35 : decode jdk_33_method_49_code 35 = .ok (.iload_n 0, 1) := by decide +kernel
theorem d8_36 : decode jdk_33_method_49_code 36 = .ok (.bipush 8, 2) := by decide +kernel
theorem d8_38 : decode jdk_33_method_49_code 38 = .ok (.iushr, 1) := by decide +kernel
theorem d8_39 : decode jdk_33_method_49_code 39 = .ok (.iadd, 1) := by decide +kernel
theorem d8_40 : decode jdk_33_method_49_code 40 = .ok (.istore_n 0, 1) := by decide +kernel
theorem d8_41 : decode jdk_33_method_49_code 41 = .ok (.iload_n 0, 1) := by decide +kernel
theorem d8_42 : decode jdk_33_method_49_code 42 = .ok (.iload_n 0, 1) := by decide +kernel
theorem d8_43 : decode jdk_33_method_49_code 43 = .ok (.bipush 16, 2) := by decide +kernel
theorem d8_45 : decode jdk_33_method_49_code 45 = .ok (.iushr, 1) := by decide +kernel
theorem d8_46 : decode jdk_33_method_49_code 46 = .ok (.iadd, 1) := by decide +kernel
theorem d8_47 : decode jdk_33_method_49_code 47 = .ok (.istore_n 0, 1) := by decide +kernel
theorem d8_48 : decode jdk_33_method_49_code 48 = .ok (.iload_n 0, 1) := by decide +kernel
theorem d8_49 : decode jdk_33_method_49_code 49 = .ok (.bipush 63, 2) := by decide +kernel
theorem d8_51 : decode jdk_33_method_49_code 51 = .ok (.iand, 1) := by decide +kernel
theorem d8_52 : decode jdk_33_method_49_code 52 = .ok (.ireturn, 1) := by decide +kernel
theorem pn_8 : plainName "java/lang/Integer" = true := by first | (simp [plainName, overriddenIn]; done) | decide +kernel
theorem ef8_0 (m : MethodId)  : entryFrame m #[(.int (0 : Int32))] 1 = mkF m 0 #[iv (0 : Int32)] [] := by first | (simp [entryFrame, mkF, argsToLocals, Value.category]; done) | rfl
abbrev room_of_8_0 : Room := { frames := 0, cells := 0, slots := 0, locals := 0 }
def Q8_0 (Z : State)  (h0 : Heap) (n0 : Nat) (v : Option Value) (h : Heap) (L : List Loc) : Prop := v = some (.int (0 : Int32)) ∧ L = [] ∧ h = h0
set_option maxRecDepth 65536 in
set_option maxHeartbeats 40000000 in
theorem rm8_0 (l : Launch) (Z : State) (a0 : Array Value) (hw : ∀ d ∈ tables_1, d.before a0 Z = true) (ws : List Jvm.Cond)   (h0 : Heap) (n0 : Nat) (Z0 : n0 ≤ h0.size) :
    MetFree l (⟨"java/lang/Integer", "bitCount", "(I)I"⟩ : MethodName) (head1 (Jvm.Cond.code (⟨"java/lang/Integer", "bitCount", "(I)I"⟩ : MethodName) jdk_33_method_49_code 1 (some .int) :: ws) (room_of_8_0)) (fun a U => a = #[(.int (0 : Int32))] ∧ Z.Warmed39 U.vm ∧ U.heap = h0) (fun _ _ _ _ _ => True) (fun _ U o U' => ∃ v L, o = .returned v ∧ Q8_0 Z  h0 n0 v U'.heap L ∧ FrameEnd U o U' L (room_of_8_0).cells (room_of_8_0).slots) := by
  refine MetFree.of_bodySF (plainFor_of_name pn_8) hisR ?_
  intro p e s m args below meth c s₁ Bd hml0 hP hK
  obtain ⟨rfl, hZ, hh⟩ := hP
  have hx := Bd.exec
  have hby := Bd.bytes
  have hml : c.maxLocals = 1 := hml0
  have hown : s.vm.findClass "java/lang/Integer" = some m.cls := findClass_of_methodNamed Bd.named
  have hnm := (name_of_methodNamed Bd.named Bd.method).1
  have X0 : Stand p l e (room_of_8_0) s m #[(.int (0 : Int32))] below meth c s₁ [] 0 0 := Stand.of_body Bd
  have e0 : s₁.heap = h0 := by rw [← hh, Bd.state]; rfl
  have N0 := Fr.nil n0
  have G0 := gd X0 hx hby
  have pre0 : ∀ t, Steps p.tables e below (s₁.setTop (mkF m 0 #[iv (0 : Int32)] [])) t → Steps p.tables e below (s₁.setTop (entryFrame m #[(.int (0 : Int32))] 1)) t := fun t k => castTop (ef8_0 m ) k
  obtain ⟨fs, hr, hrun, hended, hW, hsame⟩ := X0.leave (v := some (.int (0 : Int32))) (fun h => by rw [Bd.returns] at h; cases h)
  refine ⟨_, _, pre0 _ ?_, hrun, hended, _, _, rfl, ?_, ⟨_, rfl⟩, hW, hsame.mono (by decide) (by decide)⟩
  · show Steps p.tables e below (s₁.setTop (mkF m 0 #[iv (0 : Int32)] [])) _
    refine miloadN 1 G0 d8_0 rfl rfl ?_
    refine miloadN 2 G0 d8_1 rfl rfl ?_
    refine miconst 3 G0 d8_2 (v := (1 : Int32)) rfl rfl ?_
    refine miushr 4 G0 d8_3 (v := (0 : Int32)) rfl rfl ?_
    refine X0.ldcwInt hx hown (mvT hZ (wd hw 40 rfl)) (g := (mkF m 4 #[iv (0 : Int32)] [(.int (0 : Int32)), (.int (0 : Int32))])) rfl (hb hby d8_4) _ ?_
    show Steps p.tables e below (s₁.setTop (mkF m 7 #[iv (0 : Int32)] [(.int (1431655765 : Int32)), (.int (0 : Int32)), (.int (0 : Int32))])) _
    refine miand 8 G0 d8_7 (v := (0 : Int32)) rfl rfl ?_
    refine misub 9 G0 d8_8 (v := (0 : Int32)) rfl rfl ?_
    refine mistoreN 10 G0 d8_9 #[iv (0 : Int32)] rfl rfl ?_
    refine miloadN 11 G0 d8_10 rfl rfl ?_
    refine X0.ldcwInt hx hown (mvT hZ (wd hw 41 rfl)) (g := (mkF m 11 #[iv (0 : Int32)] [(.int (0 : Int32))])) rfl (hb hby d8_11) _ ?_
    show Steps p.tables e below (s₁.setTop (mkF m 14 #[iv (0 : Int32)] [(.int (858993459 : Int32)), (.int (0 : Int32))])) _
    refine miand 15 G0 d8_14 (v := (0 : Int32)) rfl rfl ?_
    refine miloadN 16 G0 d8_15 rfl rfl ?_
    refine miconst 17 G0 d8_16 (v := (2 : Int32)) rfl rfl ?_
    refine miushr 18 G0 d8_17 (v := (0 : Int32)) rfl rfl ?_
    refine X0.ldcwInt hx hown (mvT hZ (wd hw 41 rfl)) (g := (mkF m 18 #[iv (0 : Int32)] [(.int (0 : Int32)), (.int (0 : Int32))])) rfl (hb hby d8_18) _ ?_
    show Steps p.tables e below (s₁.setTop (mkF m 21 #[iv (0 : Int32)] [(.int (858993459 : Int32)), (.int (0 : Int32)), (.int (0 : Int32))])) _
    refine miand 22 G0 d8_21 (v := (0 : Int32)) rfl rfl ?_
    refine miadd 23 G0 d8_22 (v := (0 : Int32)) rfl rfl ?_
    refine mistoreN 24 G0 d8_23 #[iv (0 : Int32)] rfl rfl ?_
    refine miloadN 25 G0 d8_24 rfl rfl ?_
    refine miloadN 26 G0 d8_25 rfl rfl ?_
    refine miconst 27 G0 d8_26 (v := (4 : Int32)) rfl rfl ?_
    refine miushr 28 G0 d8_27 (v := (0 : Int32)) rfl rfl ?_
    refine miadd 29 G0 d8_28 (v := (0 : Int32)) rfl rfl ?_
    refine X0.ldcwInt hx hown (mvT hZ (wd hw 42 rfl)) (g := (mkF m 29 #[iv (0 : Int32)] [(.int (0 : Int32))])) rfl (hb hby d8_29) _ ?_
    show Steps p.tables e below (s₁.setTop (mkF m 32 #[iv (0 : Int32)] [(.int (252645135 : Int32)), (.int (0 : Int32))])) _
    refine miand 33 G0 d8_32 (v := (0 : Int32)) rfl rfl ?_
    refine mistoreN 34 G0 d8_33 #[iv (0 : Int32)] rfl rfl ?_
    refine miloadN 35 G0 d8_34 rfl rfl ?_
    refine miloadN 36 G0 d8_35 rfl rfl ?_
    refine mbipush 38 G0 d8_36 (v := (8 : Int32)) rfl rfl ?_
    refine miushr 39 G0 d8_38 (v := (0 : Int32)) rfl rfl ?_
    refine miadd 40 G0 d8_39 (v := (0 : Int32)) rfl rfl ?_
    refine mistoreN 41 G0 d8_40 #[iv (0 : Int32)] rfl rfl ?_
    refine miloadN 42 G0 d8_41 rfl rfl ?_
    refine miloadN 43 G0 d8_42 rfl rfl ?_
    refine mbipush 45 G0 d8_43 (v := (16 : Int32)) rfl rfl ?_
    refine miushr 46 G0 d8_45 (v := (0 : Int32)) rfl rfl ?_
    refine miadd 47 G0 d8_46 (v := (0 : Int32)) rfl rfl ?_
    refine mistoreN 48 G0 d8_47 #[iv (0 : Int32)] rfl rfl ?_
    refine miloadN 49 G0 d8_48 rfl rfl ?_
    refine mbipush 51 G0 d8_49 (v := (63 : Int32)) rfl rfl ?_
    refine miand 52 G0 d8_51 (v := (0 : Int32)) rfl rfl ?_
    exact retOut X0 hx Bd.returns rfl (Or.inl ⟨rfl, Or.inl rfl, _, rfl⟩) (hb hby d8_52) hr
  · show Q8_0 Z h0 n0 _ s₁.heap _
    rw [e0]
    exact ⟨rfl, rfl, rfl⟩
theorem ef8_1 (m : MethodId)  : entryFrame m #[(.int (1 : Int32))] 1 = mkF m 0 #[iv (1 : Int32)] [] := by first | (simp [entryFrame, mkF, argsToLocals, Value.category]; done) | rfl
abbrev room_of_8_1 : Room := { frames := 0, cells := 0, slots := 0, locals := 0 }
def Q8_1 (Z : State)  (h0 : Heap) (n0 : Nat) (v : Option Value) (h : Heap) (L : List Loc) : Prop := v = some (.int (1 : Int32)) ∧ L = [] ∧ h = h0
set_option maxRecDepth 65536 in
set_option maxHeartbeats 40000000 in
theorem rm8_1 (l : Launch) (Z : State) (a0 : Array Value) (hw : ∀ d ∈ tables_1, d.before a0 Z = true) (ws : List Jvm.Cond)   (h0 : Heap) (n0 : Nat) (Z0 : n0 ≤ h0.size) :
    MetFree l (⟨"java/lang/Integer", "bitCount", "(I)I"⟩ : MethodName) (head1 (Jvm.Cond.code (⟨"java/lang/Integer", "bitCount", "(I)I"⟩ : MethodName) jdk_33_method_49_code 1 (some .int) :: ws) (room_of_8_1)) (fun a U => a = #[(.int (1 : Int32))] ∧ Z.Warmed39 U.vm ∧ U.heap = h0) (fun _ _ _ _ _ => True) (fun _ U o U' => ∃ v L, o = .returned v ∧ Q8_1 Z  h0 n0 v U'.heap L ∧ FrameEnd U o U' L (room_of_8_1).cells (room_of_8_1).slots) := by
  refine MetFree.of_bodySF (plainFor_of_name pn_8) hisR ?_
  intro p e s m args below meth c s₁ Bd hml0 hP hK
  obtain ⟨rfl, hZ, hh⟩ := hP
  have hx := Bd.exec
  have hby := Bd.bytes
  have hml : c.maxLocals = 1 := hml0
  have hown : s.vm.findClass "java/lang/Integer" = some m.cls := findClass_of_methodNamed Bd.named
  have hnm := (name_of_methodNamed Bd.named Bd.method).1
  have X0 : Stand p l e (room_of_8_1) s m #[(.int (1 : Int32))] below meth c s₁ [] 0 0 := Stand.of_body Bd
  have e0 : s₁.heap = h0 := by rw [← hh, Bd.state]; rfl
  have N0 := Fr.nil n0
  have G0 := gd X0 hx hby
  have pre0 : ∀ t, Steps p.tables e below (s₁.setTop (mkF m 0 #[iv (1 : Int32)] [])) t → Steps p.tables e below (s₁.setTop (entryFrame m #[(.int (1 : Int32))] 1)) t := fun t k => castTop (ef8_1 m ) k
  obtain ⟨fs, hr, hrun, hended, hW, hsame⟩ := X0.leave (v := some (.int (1 : Int32))) (fun h => by rw [Bd.returns] at h; cases h)
  refine ⟨_, _, pre0 _ ?_, hrun, hended, _, _, rfl, ?_, ⟨_, rfl⟩, hW, hsame.mono (by decide) (by decide)⟩
  · show Steps p.tables e below (s₁.setTop (mkF m 0 #[iv (1 : Int32)] [])) _
    refine miloadN 1 G0 d8_0 rfl rfl ?_
    refine miloadN 2 G0 d8_1 rfl rfl ?_
    refine miconst 3 G0 d8_2 (v := (1 : Int32)) rfl rfl ?_
    refine miushr 4 G0 d8_3 (v := (0 : Int32)) rfl rfl ?_
    refine X0.ldcwInt hx hown (mvT hZ (wd hw 40 rfl)) (g := (mkF m 4 #[iv (1 : Int32)] [(.int (0 : Int32)), (.int (1 : Int32))])) rfl (hb hby d8_4) _ ?_
    show Steps p.tables e below (s₁.setTop (mkF m 7 #[iv (1 : Int32)] [(.int (1431655765 : Int32)), (.int (0 : Int32)), (.int (1 : Int32))])) _
    refine miand 8 G0 d8_7 (v := (0 : Int32)) rfl rfl ?_
    refine misub 9 G0 d8_8 (v := (1 : Int32)) rfl rfl ?_
    refine mistoreN 10 G0 d8_9 #[iv (1 : Int32)] rfl rfl ?_
    refine miloadN 11 G0 d8_10 rfl rfl ?_
    refine X0.ldcwInt hx hown (mvT hZ (wd hw 41 rfl)) (g := (mkF m 11 #[iv (1 : Int32)] [(.int (1 : Int32))])) rfl (hb hby d8_11) _ ?_
    show Steps p.tables e below (s₁.setTop (mkF m 14 #[iv (1 : Int32)] [(.int (858993459 : Int32)), (.int (1 : Int32))])) _
    refine miand 15 G0 d8_14 (v := (1 : Int32)) rfl rfl ?_
    refine miloadN 16 G0 d8_15 rfl rfl ?_
    refine miconst 17 G0 d8_16 (v := (2 : Int32)) rfl rfl ?_
    refine miushr 18 G0 d8_17 (v := (0 : Int32)) rfl rfl ?_
    refine X0.ldcwInt hx hown (mvT hZ (wd hw 41 rfl)) (g := (mkF m 18 #[iv (1 : Int32)] [(.int (0 : Int32)), (.int (1 : Int32))])) rfl (hb hby d8_18) _ ?_
    show Steps p.tables e below (s₁.setTop (mkF m 21 #[iv (1 : Int32)] [(.int (858993459 : Int32)), (.int (0 : Int32)), (.int (1 : Int32))])) _
    refine miand 22 G0 d8_21 (v := (0 : Int32)) rfl rfl ?_
    refine miadd 23 G0 d8_22 (v := (1 : Int32)) rfl rfl ?_
    refine mistoreN 24 G0 d8_23 #[iv (1 : Int32)] rfl rfl ?_
    refine miloadN 25 G0 d8_24 rfl rfl ?_
    refine miloadN 26 G0 d8_25 rfl rfl ?_
    refine miconst 27 G0 d8_26 (v := (4 : Int32)) rfl rfl ?_
    refine miushr 28 G0 d8_27 (v := (0 : Int32)) rfl rfl ?_
    refine miadd 29 G0 d8_28 (v := (1 : Int32)) rfl rfl ?_
    refine X0.ldcwInt hx hown (mvT hZ (wd hw 42 rfl)) (g := (mkF m 29 #[iv (1 : Int32)] [(.int (1 : Int32))])) rfl (hb hby d8_29) _ ?_
    show Steps p.tables e below (s₁.setTop (mkF m 32 #[iv (1 : Int32)] [(.int (252645135 : Int32)), (.int (1 : Int32))])) _
    refine miand 33 G0 d8_32 (v := (1 : Int32)) rfl rfl ?_
    refine mistoreN 34 G0 d8_33 #[iv (1 : Int32)] rfl rfl ?_
    refine miloadN 35 G0 d8_34 rfl rfl ?_
    refine miloadN 36 G0 d8_35 rfl rfl ?_
    refine mbipush 38 G0 d8_36 (v := (8 : Int32)) rfl rfl ?_
    refine miushr 39 G0 d8_38 (v := (0 : Int32)) rfl rfl ?_
    refine miadd 40 G0 d8_39 (v := (1 : Int32)) rfl rfl ?_
    refine mistoreN 41 G0 d8_40 #[iv (1 : Int32)] rfl rfl ?_
    refine miloadN 42 G0 d8_41 rfl rfl ?_
    refine miloadN 43 G0 d8_42 rfl rfl ?_
    refine mbipush 45 G0 d8_43 (v := (16 : Int32)) rfl rfl ?_
    refine miushr 46 G0 d8_45 (v := (0 : Int32)) rfl rfl ?_
    refine miadd 47 G0 d8_46 (v := (1 : Int32)) rfl rfl ?_
    refine mistoreN 48 G0 d8_47 #[iv (1 : Int32)] rfl rfl ?_
    refine miloadN 49 G0 d8_48 rfl rfl ?_
    refine mbipush 51 G0 d8_49 (v := (63 : Int32)) rfl rfl ?_
    refine miand 52 G0 d8_51 (v := (1 : Int32)) rfl rfl ?_
    exact retOut X0 hx Bd.returns rfl (Or.inl ⟨rfl, Or.inl rfl, _, rfl⟩) (hb hby d8_52) hr
  · show Q8_1 Z h0 n0 _ s₁.heap _
    rw [e0]
    exact ⟨rfl, rfl, rfl⟩
theorem ef8_2 (m : MethodId)  : entryFrame m #[(.int (2 : Int32))] 1 = mkF m 0 #[iv (2 : Int32)] [] := by first | (simp [entryFrame, mkF, argsToLocals, Value.category]; done) | rfl
abbrev room_of_8_2 : Room := { frames := 0, cells := 0, slots := 0, locals := 0 }
def Q8_2 (Z : State)  (h0 : Heap) (n0 : Nat) (v : Option Value) (h : Heap) (L : List Loc) : Prop := v = some (.int (1 : Int32)) ∧ L = [] ∧ h = h0
set_option maxRecDepth 65536 in
set_option maxHeartbeats 40000000 in
theorem rm8_2 (l : Launch) (Z : State) (a0 : Array Value) (hw : ∀ d ∈ tables_1, d.before a0 Z = true) (ws : List Jvm.Cond)   (h0 : Heap) (n0 : Nat) (Z0 : n0 ≤ h0.size) :
    MetFree l (⟨"java/lang/Integer", "bitCount", "(I)I"⟩ : MethodName) (head1 (Jvm.Cond.code (⟨"java/lang/Integer", "bitCount", "(I)I"⟩ : MethodName) jdk_33_method_49_code 1 (some .int) :: ws) (room_of_8_2)) (fun a U => a = #[(.int (2 : Int32))] ∧ Z.Warmed39 U.vm ∧ U.heap = h0) (fun _ _ _ _ _ => True) (fun _ U o U' => ∃ v L, o = .returned v ∧ Q8_2 Z  h0 n0 v U'.heap L ∧ FrameEnd U o U' L (room_of_8_2).cells (room_of_8_2).slots) := by
  refine MetFree.of_bodySF (plainFor_of_name pn_8) hisR ?_
  intro p e s m args below meth c s₁ Bd hml0 hP hK
  obtain ⟨rfl, hZ, hh⟩ := hP
  have hx := Bd.exec
  have hby := Bd.bytes
  have hml : c.maxLocals = 1 := hml0
  have hown : s.vm.findClass "java/lang/Integer" = some m.cls := findClass_of_methodNamed Bd.named
  have hnm := (name_of_methodNamed Bd.named Bd.method).1
  have X0 : Stand p l e (room_of_8_2) s m #[(.int (2 : Int32))] below meth c s₁ [] 0 0 := Stand.of_body Bd
  have e0 : s₁.heap = h0 := by rw [← hh, Bd.state]; rfl
  have N0 := Fr.nil n0
  have G0 := gd X0 hx hby
  have pre0 : ∀ t, Steps p.tables e below (s₁.setTop (mkF m 0 #[iv (2 : Int32)] [])) t → Steps p.tables e below (s₁.setTop (entryFrame m #[(.int (2 : Int32))] 1)) t := fun t k => castTop (ef8_2 m ) k
  obtain ⟨fs, hr, hrun, hended, hW, hsame⟩ := X0.leave (v := some (.int (1 : Int32))) (fun h => by rw [Bd.returns] at h; cases h)
  refine ⟨_, _, pre0 _ ?_, hrun, hended, _, _, rfl, ?_, ⟨_, rfl⟩, hW, hsame.mono (by decide) (by decide)⟩
  · show Steps p.tables e below (s₁.setTop (mkF m 0 #[iv (2 : Int32)] [])) _
    refine miloadN 1 G0 d8_0 rfl rfl ?_
    refine miloadN 2 G0 d8_1 rfl rfl ?_
    refine miconst 3 G0 d8_2 (v := (1 : Int32)) rfl rfl ?_
    refine miushr 4 G0 d8_3 (v := (1 : Int32)) rfl rfl ?_
    refine X0.ldcwInt hx hown (mvT hZ (wd hw 40 rfl)) (g := (mkF m 4 #[iv (2 : Int32)] [(.int (1 : Int32)), (.int (2 : Int32))])) rfl (hb hby d8_4) _ ?_
    show Steps p.tables e below (s₁.setTop (mkF m 7 #[iv (2 : Int32)] [(.int (1431655765 : Int32)), (.int (1 : Int32)), (.int (2 : Int32))])) _
    refine miand 8 G0 d8_7 (v := (1 : Int32)) rfl rfl ?_
    refine misub 9 G0 d8_8 (v := (1 : Int32)) rfl rfl ?_
    refine mistoreN 10 G0 d8_9 #[iv (1 : Int32)] rfl rfl ?_
    refine miloadN 11 G0 d8_10 rfl rfl ?_
    refine X0.ldcwInt hx hown (mvT hZ (wd hw 41 rfl)) (g := (mkF m 11 #[iv (1 : Int32)] [(.int (1 : Int32))])) rfl (hb hby d8_11) _ ?_
    show Steps p.tables e below (s₁.setTop (mkF m 14 #[iv (1 : Int32)] [(.int (858993459 : Int32)), (.int (1 : Int32))])) _
    refine miand 15 G0 d8_14 (v := (1 : Int32)) rfl rfl ?_
    refine miloadN 16 G0 d8_15 rfl rfl ?_
    refine miconst 17 G0 d8_16 (v := (2 : Int32)) rfl rfl ?_
    refine miushr 18 G0 d8_17 (v := (0 : Int32)) rfl rfl ?_
    refine X0.ldcwInt hx hown (mvT hZ (wd hw 41 rfl)) (g := (mkF m 18 #[iv (1 : Int32)] [(.int (0 : Int32)), (.int (1 : Int32))])) rfl (hb hby d8_18) _ ?_
    show Steps p.tables e below (s₁.setTop (mkF m 21 #[iv (1 : Int32)] [(.int (858993459 : Int32)), (.int (0 : Int32)), (.int (1 : Int32))])) _
    refine miand 22 G0 d8_21 (v := (0 : Int32)) rfl rfl ?_
    refine miadd 23 G0 d8_22 (v := (1 : Int32)) rfl rfl ?_
    refine mistoreN 24 G0 d8_23 #[iv (1 : Int32)] rfl rfl ?_
    refine miloadN 25 G0 d8_24 rfl rfl ?_
    refine miloadN 26 G0 d8_25 rfl rfl ?_
    refine miconst 27 G0 d8_26 (v := (4 : Int32)) rfl rfl ?_
    refine miushr 28 G0 d8_27 (v := (0 : Int32)) rfl rfl ?_
    refine miadd 29 G0 d8_28 (v := (1 : Int32)) rfl rfl ?_
    refine X0.ldcwInt hx hown (mvT hZ (wd hw 42 rfl)) (g := (mkF m 29 #[iv (1 : Int32)] [(.int (1 : Int32))])) rfl (hb hby d8_29) _ ?_
    show Steps p.tables e below (s₁.setTop (mkF m 32 #[iv (1 : Int32)] [(.int (252645135 : Int32)), (.int (1 : Int32))])) _
    refine miand 33 G0 d8_32 (v := (1 : Int32)) rfl rfl ?_
    refine mistoreN 34 G0 d8_33 #[iv (1 : Int32)] rfl rfl ?_
    refine miloadN 35 G0 d8_34 rfl rfl ?_
    refine miloadN 36 G0 d8_35 rfl rfl ?_
    refine mbipush 38 G0 d8_36 (v := (8 : Int32)) rfl rfl ?_
    refine miushr 39 G0 d8_38 (v := (0 : Int32)) rfl rfl ?_
    refine miadd 40 G0 d8_39 (v := (1 : Int32)) rfl rfl ?_
    refine mistoreN 41 G0 d8_40 #[iv (1 : Int32)] rfl rfl ?_
    refine miloadN 42 G0 d8_41 rfl rfl ?_
    refine miloadN 43 G0 d8_42 rfl rfl ?_
    refine mbipush 45 G0 d8_43 (v := (16 : Int32)) rfl rfl ?_
    refine miushr 46 G0 d8_45 (v := (0 : Int32)) rfl rfl ?_
    refine miadd 47 G0 d8_46 (v := (1 : Int32)) rfl rfl ?_
    refine mistoreN 48 G0 d8_47 #[iv (1 : Int32)] rfl rfl ?_
    refine miloadN 49 G0 d8_48 rfl rfl ?_
    refine mbipush 51 G0 d8_49 (v := (63 : Int32)) rfl rfl ?_
    refine miand 52 G0 d8_51 (v := (1 : Int32)) rfl rfl ?_
    exact retOut X0 hx Bd.returns rfl (Or.inl ⟨rfl, Or.inl rfl, _, rfl⟩) (hb hby d8_52) hr
  · show Q8_2 Z h0 n0 _ s₁.heap _
    rw [e0]
    exact ⟨rfl, rfl, rfl⟩
theorem ef8_3 (m : MethodId)  : entryFrame m #[(.int (3 : Int32))] 1 = mkF m 0 #[iv (3 : Int32)] [] := by first | (simp [entryFrame, mkF, argsToLocals, Value.category]; done) | rfl
abbrev room_of_8_3 : Room := { frames := 0, cells := 0, slots := 0, locals := 0 }
def Q8_3 (Z : State)  (h0 : Heap) (n0 : Nat) (v : Option Value) (h : Heap) (L : List Loc) : Prop := v = some (.int (2 : Int32)) ∧ L = [] ∧ h = h0
set_option maxRecDepth 65536 in
set_option maxHeartbeats 40000000 in
theorem rm8_3 (l : Launch) (Z : State) (a0 : Array Value) (hw : ∀ d ∈ tables_1, d.before a0 Z = true) (ws : List Jvm.Cond)   (h0 : Heap) (n0 : Nat) (Z0 : n0 ≤ h0.size) :
    MetFree l (⟨"java/lang/Integer", "bitCount", "(I)I"⟩ : MethodName) (head1 (Jvm.Cond.code (⟨"java/lang/Integer", "bitCount", "(I)I"⟩ : MethodName) jdk_33_method_49_code 1 (some .int) :: ws) (room_of_8_3)) (fun a U => a = #[(.int (3 : Int32))] ∧ Z.Warmed39 U.vm ∧ U.heap = h0) (fun _ _ _ _ _ => True) (fun _ U o U' => ∃ v L, o = .returned v ∧ Q8_3 Z  h0 n0 v U'.heap L ∧ FrameEnd U o U' L (room_of_8_3).cells (room_of_8_3).slots) := by
  refine MetFree.of_bodySF (plainFor_of_name pn_8) hisR ?_
  intro p e s m args below meth c s₁ Bd hml0 hP hK
  obtain ⟨rfl, hZ, hh⟩ := hP
  have hx := Bd.exec
  have hby := Bd.bytes
  have hml : c.maxLocals = 1 := hml0
  have hown : s.vm.findClass "java/lang/Integer" = some m.cls := findClass_of_methodNamed Bd.named
  have hnm := (name_of_methodNamed Bd.named Bd.method).1
  have X0 : Stand p l e (room_of_8_3) s m #[(.int (3 : Int32))] below meth c s₁ [] 0 0 := Stand.of_body Bd
  have e0 : s₁.heap = h0 := by rw [← hh, Bd.state]; rfl
  have N0 := Fr.nil n0
  have G0 := gd X0 hx hby
  have pre0 : ∀ t, Steps p.tables e below (s₁.setTop (mkF m 0 #[iv (3 : Int32)] [])) t → Steps p.tables e below (s₁.setTop (entryFrame m #[(.int (3 : Int32))] 1)) t := fun t k => castTop (ef8_3 m ) k
  obtain ⟨fs, hr, hrun, hended, hW, hsame⟩ := X0.leave (v := some (.int (2 : Int32))) (fun h => by rw [Bd.returns] at h; cases h)
  refine ⟨_, _, pre0 _ ?_, hrun, hended, _, _, rfl, ?_, ⟨_, rfl⟩, hW, hsame.mono (by decide) (by decide)⟩
  · show Steps p.tables e below (s₁.setTop (mkF m 0 #[iv (3 : Int32)] [])) _
    refine miloadN 1 G0 d8_0 rfl rfl ?_
    refine miloadN 2 G0 d8_1 rfl rfl ?_
    refine miconst 3 G0 d8_2 (v := (1 : Int32)) rfl rfl ?_
    refine miushr 4 G0 d8_3 (v := (1 : Int32)) rfl rfl ?_
    refine X0.ldcwInt hx hown (mvT hZ (wd hw 40 rfl)) (g := (mkF m 4 #[iv (3 : Int32)] [(.int (1 : Int32)), (.int (3 : Int32))])) rfl (hb hby d8_4) _ ?_
    show Steps p.tables e below (s₁.setTop (mkF m 7 #[iv (3 : Int32)] [(.int (1431655765 : Int32)), (.int (1 : Int32)), (.int (3 : Int32))])) _
    refine miand 8 G0 d8_7 (v := (1 : Int32)) rfl rfl ?_
    refine misub 9 G0 d8_8 (v := (2 : Int32)) rfl rfl ?_
    refine mistoreN 10 G0 d8_9 #[iv (2 : Int32)] rfl rfl ?_
    refine miloadN 11 G0 d8_10 rfl rfl ?_
    refine X0.ldcwInt hx hown (mvT hZ (wd hw 41 rfl)) (g := (mkF m 11 #[iv (2 : Int32)] [(.int (2 : Int32))])) rfl (hb hby d8_11) _ ?_
    show Steps p.tables e below (s₁.setTop (mkF m 14 #[iv (2 : Int32)] [(.int (858993459 : Int32)), (.int (2 : Int32))])) _
    refine miand 15 G0 d8_14 (v := (2 : Int32)) rfl rfl ?_
    refine miloadN 16 G0 d8_15 rfl rfl ?_
    refine miconst 17 G0 d8_16 (v := (2 : Int32)) rfl rfl ?_
    refine miushr 18 G0 d8_17 (v := (0 : Int32)) rfl rfl ?_
    refine X0.ldcwInt hx hown (mvT hZ (wd hw 41 rfl)) (g := (mkF m 18 #[iv (2 : Int32)] [(.int (0 : Int32)), (.int (2 : Int32))])) rfl (hb hby d8_18) _ ?_
    show Steps p.tables e below (s₁.setTop (mkF m 21 #[iv (2 : Int32)] [(.int (858993459 : Int32)), (.int (0 : Int32)), (.int (2 : Int32))])) _
    refine miand 22 G0 d8_21 (v := (0 : Int32)) rfl rfl ?_
    refine miadd 23 G0 d8_22 (v := (2 : Int32)) rfl rfl ?_
    refine mistoreN 24 G0 d8_23 #[iv (2 : Int32)] rfl rfl ?_
    refine miloadN 25 G0 d8_24 rfl rfl ?_
    refine miloadN 26 G0 d8_25 rfl rfl ?_
    refine miconst 27 G0 d8_26 (v := (4 : Int32)) rfl rfl ?_
    refine miushr 28 G0 d8_27 (v := (0 : Int32)) rfl rfl ?_
    refine miadd 29 G0 d8_28 (v := (2 : Int32)) rfl rfl ?_
    refine X0.ldcwInt hx hown (mvT hZ (wd hw 42 rfl)) (g := (mkF m 29 #[iv (2 : Int32)] [(.int (2 : Int32))])) rfl (hb hby d8_29) _ ?_
    show Steps p.tables e below (s₁.setTop (mkF m 32 #[iv (2 : Int32)] [(.int (252645135 : Int32)), (.int (2 : Int32))])) _
    refine miand 33 G0 d8_32 (v := (2 : Int32)) rfl rfl ?_
    refine mistoreN 34 G0 d8_33 #[iv (2 : Int32)] rfl rfl ?_
    refine miloadN 35 G0 d8_34 rfl rfl ?_
    refine miloadN 36 G0 d8_35 rfl rfl ?_
    refine mbipush 38 G0 d8_36 (v := (8 : Int32)) rfl rfl ?_
    refine miushr 39 G0 d8_38 (v := (0 : Int32)) rfl rfl ?_
    refine miadd 40 G0 d8_39 (v := (2 : Int32)) rfl rfl ?_
    refine mistoreN 41 G0 d8_40 #[iv (2 : Int32)] rfl rfl ?_
    refine miloadN 42 G0 d8_41 rfl rfl ?_
    refine miloadN 43 G0 d8_42 rfl rfl ?_
    refine mbipush 45 G0 d8_43 (v := (16 : Int32)) rfl rfl ?_
    refine miushr 46 G0 d8_45 (v := (0 : Int32)) rfl rfl ?_
    refine miadd 47 G0 d8_46 (v := (2 : Int32)) rfl rfl ?_
    refine mistoreN 48 G0 d8_47 #[iv (2 : Int32)] rfl rfl ?_
    refine miloadN 49 G0 d8_48 rfl rfl ?_
    refine mbipush 51 G0 d8_49 (v := (63 : Int32)) rfl rfl ?_
    refine miand 52 G0 d8_51 (v := (2 : Int32)) rfl rfl ?_
    exact retOut X0 hx Bd.returns rfl (Or.inl ⟨rfl, Or.inl rfl, _, rfl⟩) (hb hby d8_52) hr
  · show Q8_3 Z h0 n0 _ s₁.heap _
    rw [e0]
    exact ⟨rfl, rfl, rfl⟩
theorem ef8_4 (m : MethodId)  : entryFrame m #[(.int (4 : Int32))] 1 = mkF m 0 #[iv (4 : Int32)] [] := by first | (simp [entryFrame, mkF, argsToLocals, Value.category]; done) | rfl
abbrev room_of_8_4 : Room := { frames := 0, cells := 0, slots := 0, locals := 0 }
def Q8_4 (Z : State)  (h0 : Heap) (n0 : Nat) (v : Option Value) (h : Heap) (L : List Loc) : Prop := v = some (.int (1 : Int32)) ∧ L = [] ∧ h = h0
set_option maxRecDepth 65536 in
set_option maxHeartbeats 40000000 in
theorem rm8_4 (l : Launch) (Z : State) (a0 : Array Value) (hw : ∀ d ∈ tables_1, d.before a0 Z = true) (ws : List Jvm.Cond)   (h0 : Heap) (n0 : Nat) (Z0 : n0 ≤ h0.size) :
    MetFree l (⟨"java/lang/Integer", "bitCount", "(I)I"⟩ : MethodName) (head1 (Jvm.Cond.code (⟨"java/lang/Integer", "bitCount", "(I)I"⟩ : MethodName) jdk_33_method_49_code 1 (some .int) :: ws) (room_of_8_4)) (fun a U => a = #[(.int (4 : Int32))] ∧ Z.Warmed39 U.vm ∧ U.heap = h0) (fun _ _ _ _ _ => True) (fun _ U o U' => ∃ v L, o = .returned v ∧ Q8_4 Z  h0 n0 v U'.heap L ∧ FrameEnd U o U' L (room_of_8_4).cells (room_of_8_4).slots) := by
  refine MetFree.of_bodySF (plainFor_of_name pn_8) hisR ?_
  intro p e s m args below meth c s₁ Bd hml0 hP hK
  obtain ⟨rfl, hZ, hh⟩ := hP
  have hx := Bd.exec
  have hby := Bd.bytes
  have hml : c.maxLocals = 1 := hml0
  have hown : s.vm.findClass "java/lang/Integer" = some m.cls := findClass_of_methodNamed Bd.named
  have hnm := (name_of_methodNamed Bd.named Bd.method).1
  have X0 : Stand p l e (room_of_8_4) s m #[(.int (4 : Int32))] below meth c s₁ [] 0 0 := Stand.of_body Bd
  have e0 : s₁.heap = h0 := by rw [← hh, Bd.state]; rfl
  have N0 := Fr.nil n0
  have G0 := gd X0 hx hby
  have pre0 : ∀ t, Steps p.tables e below (s₁.setTop (mkF m 0 #[iv (4 : Int32)] [])) t → Steps p.tables e below (s₁.setTop (entryFrame m #[(.int (4 : Int32))] 1)) t := fun t k => castTop (ef8_4 m ) k
  obtain ⟨fs, hr, hrun, hended, hW, hsame⟩ := X0.leave (v := some (.int (1 : Int32))) (fun h => by rw [Bd.returns] at h; cases h)
  refine ⟨_, _, pre0 _ ?_, hrun, hended, _, _, rfl, ?_, ⟨_, rfl⟩, hW, hsame.mono (by decide) (by decide)⟩
  · show Steps p.tables e below (s₁.setTop (mkF m 0 #[iv (4 : Int32)] [])) _
    refine miloadN 1 G0 d8_0 rfl rfl ?_
    refine miloadN 2 G0 d8_1 rfl rfl ?_
    refine miconst 3 G0 d8_2 (v := (1 : Int32)) rfl rfl ?_
    refine miushr 4 G0 d8_3 (v := (2 : Int32)) rfl rfl ?_
    refine X0.ldcwInt hx hown (mvT hZ (wd hw 40 rfl)) (g := (mkF m 4 #[iv (4 : Int32)] [(.int (2 : Int32)), (.int (4 : Int32))])) rfl (hb hby d8_4) _ ?_
    show Steps p.tables e below (s₁.setTop (mkF m 7 #[iv (4 : Int32)] [(.int (1431655765 : Int32)), (.int (2 : Int32)), (.int (4 : Int32))])) _
    refine miand 8 G0 d8_7 (v := (0 : Int32)) rfl rfl ?_
    refine misub 9 G0 d8_8 (v := (4 : Int32)) rfl rfl ?_
    refine mistoreN 10 G0 d8_9 #[iv (4 : Int32)] rfl rfl ?_
    refine miloadN 11 G0 d8_10 rfl rfl ?_
    refine X0.ldcwInt hx hown (mvT hZ (wd hw 41 rfl)) (g := (mkF m 11 #[iv (4 : Int32)] [(.int (4 : Int32))])) rfl (hb hby d8_11) _ ?_
    show Steps p.tables e below (s₁.setTop (mkF m 14 #[iv (4 : Int32)] [(.int (858993459 : Int32)), (.int (4 : Int32))])) _
    refine miand 15 G0 d8_14 (v := (0 : Int32)) rfl rfl ?_
    refine miloadN 16 G0 d8_15 rfl rfl ?_
    refine miconst 17 G0 d8_16 (v := (2 : Int32)) rfl rfl ?_
    refine miushr 18 G0 d8_17 (v := (1 : Int32)) rfl rfl ?_
    refine X0.ldcwInt hx hown (mvT hZ (wd hw 41 rfl)) (g := (mkF m 18 #[iv (4 : Int32)] [(.int (1 : Int32)), (.int (0 : Int32))])) rfl (hb hby d8_18) _ ?_
    show Steps p.tables e below (s₁.setTop (mkF m 21 #[iv (4 : Int32)] [(.int (858993459 : Int32)), (.int (1 : Int32)), (.int (0 : Int32))])) _
    refine miand 22 G0 d8_21 (v := (1 : Int32)) rfl rfl ?_
    refine miadd 23 G0 d8_22 (v := (1 : Int32)) rfl rfl ?_
    refine mistoreN 24 G0 d8_23 #[iv (1 : Int32)] rfl rfl ?_
    refine miloadN 25 G0 d8_24 rfl rfl ?_
    refine miloadN 26 G0 d8_25 rfl rfl ?_
    refine miconst 27 G0 d8_26 (v := (4 : Int32)) rfl rfl ?_
    refine miushr 28 G0 d8_27 (v := (0 : Int32)) rfl rfl ?_
    refine miadd 29 G0 d8_28 (v := (1 : Int32)) rfl rfl ?_
    refine X0.ldcwInt hx hown (mvT hZ (wd hw 42 rfl)) (g := (mkF m 29 #[iv (1 : Int32)] [(.int (1 : Int32))])) rfl (hb hby d8_29) _ ?_
    show Steps p.tables e below (s₁.setTop (mkF m 32 #[iv (1 : Int32)] [(.int (252645135 : Int32)), (.int (1 : Int32))])) _
    refine miand 33 G0 d8_32 (v := (1 : Int32)) rfl rfl ?_
    refine mistoreN 34 G0 d8_33 #[iv (1 : Int32)] rfl rfl ?_
    refine miloadN 35 G0 d8_34 rfl rfl ?_
    refine miloadN 36 G0 d8_35 rfl rfl ?_
    refine mbipush 38 G0 d8_36 (v := (8 : Int32)) rfl rfl ?_
    refine miushr 39 G0 d8_38 (v := (0 : Int32)) rfl rfl ?_
    refine miadd 40 G0 d8_39 (v := (1 : Int32)) rfl rfl ?_
    refine mistoreN 41 G0 d8_40 #[iv (1 : Int32)] rfl rfl ?_
    refine miloadN 42 G0 d8_41 rfl rfl ?_
    refine miloadN 43 G0 d8_42 rfl rfl ?_
    refine mbipush 45 G0 d8_43 (v := (16 : Int32)) rfl rfl ?_
    refine miushr 46 G0 d8_45 (v := (0 : Int32)) rfl rfl ?_
    refine miadd 47 G0 d8_46 (v := (1 : Int32)) rfl rfl ?_
    refine mistoreN 48 G0 d8_47 #[iv (1 : Int32)] rfl rfl ?_
    refine miloadN 49 G0 d8_48 rfl rfl ?_
    refine mbipush 51 G0 d8_49 (v := (63 : Int32)) rfl rfl ?_
    refine miand 52 G0 d8_51 (v := (1 : Int32)) rfl rfl ?_
    exact retOut X0 hx Bd.returns rfl (Or.inl ⟨rfl, Or.inl rfl, _, rfl⟩) (hb hby d8_52) hr
  · show Q8_4 Z h0 n0 _ s₁.heap _
    rw [e0]
    exact ⟨rfl, rfl, rfl⟩
theorem ef8_5 (m : MethodId)  : entryFrame m #[(.int (5 : Int32))] 1 = mkF m 0 #[iv (5 : Int32)] [] := by first | (simp [entryFrame, mkF, argsToLocals, Value.category]; done) | rfl
abbrev room_of_8_5 : Room := { frames := 0, cells := 0, slots := 0, locals := 0 }
def Q8_5 (Z : State)  (h0 : Heap) (n0 : Nat) (v : Option Value) (h : Heap) (L : List Loc) : Prop := v = some (.int (2 : Int32)) ∧ L = [] ∧ h = h0
set_option maxRecDepth 65536 in
set_option maxHeartbeats 40000000 in
theorem rm8_5 (l : Launch) (Z : State) (a0 : Array Value) (hw : ∀ d ∈ tables_1, d.before a0 Z = true) (ws : List Jvm.Cond)   (h0 : Heap) (n0 : Nat) (Z0 : n0 ≤ h0.size) :
    MetFree l (⟨"java/lang/Integer", "bitCount", "(I)I"⟩ : MethodName) (head1 (Jvm.Cond.code (⟨"java/lang/Integer", "bitCount", "(I)I"⟩ : MethodName) jdk_33_method_49_code 1 (some .int) :: ws) (room_of_8_5)) (fun a U => a = #[(.int (5 : Int32))] ∧ Z.Warmed39 U.vm ∧ U.heap = h0) (fun _ _ _ _ _ => True) (fun _ U o U' => ∃ v L, o = .returned v ∧ Q8_5 Z  h0 n0 v U'.heap L ∧ FrameEnd U o U' L (room_of_8_5).cells (room_of_8_5).slots) := by
  refine MetFree.of_bodySF (plainFor_of_name pn_8) hisR ?_
  intro p e s m args below meth c s₁ Bd hml0 hP hK
  obtain ⟨rfl, hZ, hh⟩ := hP
  have hx := Bd.exec
  have hby := Bd.bytes
  have hml : c.maxLocals = 1 := hml0
  have hown : s.vm.findClass "java/lang/Integer" = some m.cls := findClass_of_methodNamed Bd.named
  have hnm := (name_of_methodNamed Bd.named Bd.method).1
  have X0 : Stand p l e (room_of_8_5) s m #[(.int (5 : Int32))] below meth c s₁ [] 0 0 := Stand.of_body Bd
  have e0 : s₁.heap = h0 := by rw [← hh, Bd.state]; rfl
  have N0 := Fr.nil n0
  have G0 := gd X0 hx hby
  have pre0 : ∀ t, Steps p.tables e below (s₁.setTop (mkF m 0 #[iv (5 : Int32)] [])) t → Steps p.tables e below (s₁.setTop (entryFrame m #[(.int (5 : Int32))] 1)) t := fun t k => castTop (ef8_5 m ) k
  obtain ⟨fs, hr, hrun, hended, hW, hsame⟩ := X0.leave (v := some (.int (2 : Int32))) (fun h => by rw [Bd.returns] at h; cases h)
  refine ⟨_, _, pre0 _ ?_, hrun, hended, _, _, rfl, ?_, ⟨_, rfl⟩, hW, hsame.mono (by decide) (by decide)⟩
  · show Steps p.tables e below (s₁.setTop (mkF m 0 #[iv (5 : Int32)] [])) _
    refine miloadN 1 G0 d8_0 rfl rfl ?_
    refine miloadN 2 G0 d8_1 rfl rfl ?_
    refine miconst 3 G0 d8_2 (v := (1 : Int32)) rfl rfl ?_
    refine miushr 4 G0 d8_3 (v := (2 : Int32)) rfl rfl ?_
    refine X0.ldcwInt hx hown (mvT hZ (wd hw 40 rfl)) (g := (mkF m 4 #[iv (5 : Int32)] [(.int (2 : Int32)), (.int (5 : Int32))])) rfl (hb hby d8_4) _ ?_
    show Steps p.tables e below (s₁.setTop (mkF m 7 #[iv (5 : Int32)] [(.int (1431655765 : Int32)), (.int (2 : Int32)), (.int (5 : Int32))])) _
    refine miand 8 G0 d8_7 (v := (0 : Int32)) rfl rfl ?_
    refine misub 9 G0 d8_8 (v := (5 : Int32)) rfl rfl ?_
    refine mistoreN 10 G0 d8_9 #[iv (5 : Int32)] rfl rfl ?_
    refine miloadN 11 G0 d8_10 rfl rfl ?_
    refine X0.ldcwInt hx hown (mvT hZ (wd hw 41 rfl)) (g := (mkF m 11 #[iv (5 : Int32)] [(.int (5 : Int32))])) rfl (hb hby d8_11) _ ?_
    show Steps p.tables e below (s₁.setTop (mkF m 14 #[iv (5 : Int32)] [(.int (858993459 : Int32)), (.int (5 : Int32))])) _
    refine miand 15 G0 d8_14 (v := (1 : Int32)) rfl rfl ?_
    refine miloadN 16 G0 d8_15 rfl rfl ?_
    refine miconst 17 G0 d8_16 (v := (2 : Int32)) rfl rfl ?_
    refine miushr 18 G0 d8_17 (v := (1 : Int32)) rfl rfl ?_
    refine X0.ldcwInt hx hown (mvT hZ (wd hw 41 rfl)) (g := (mkF m 18 #[iv (5 : Int32)] [(.int (1 : Int32)), (.int (1 : Int32))])) rfl (hb hby d8_18) _ ?_
    show Steps p.tables e below (s₁.setTop (mkF m 21 #[iv (5 : Int32)] [(.int (858993459 : Int32)), (.int (1 : Int32)), (.int (1 : Int32))])) _
    refine miand 22 G0 d8_21 (v := (1 : Int32)) rfl rfl ?_
    refine miadd 23 G0 d8_22 (v := (2 : Int32)) rfl rfl ?_
    refine mistoreN 24 G0 d8_23 #[iv (2 : Int32)] rfl rfl ?_
    refine miloadN 25 G0 d8_24 rfl rfl ?_
    refine miloadN 26 G0 d8_25 rfl rfl ?_
    refine miconst 27 G0 d8_26 (v := (4 : Int32)) rfl rfl ?_
    refine miushr 28 G0 d8_27 (v := (0 : Int32)) rfl rfl ?_
    refine miadd 29 G0 d8_28 (v := (2 : Int32)) rfl rfl ?_
    refine X0.ldcwInt hx hown (mvT hZ (wd hw 42 rfl)) (g := (mkF m 29 #[iv (2 : Int32)] [(.int (2 : Int32))])) rfl (hb hby d8_29) _ ?_
    show Steps p.tables e below (s₁.setTop (mkF m 32 #[iv (2 : Int32)] [(.int (252645135 : Int32)), (.int (2 : Int32))])) _
    refine miand 33 G0 d8_32 (v := (2 : Int32)) rfl rfl ?_
    refine mistoreN 34 G0 d8_33 #[iv (2 : Int32)] rfl rfl ?_
    refine miloadN 35 G0 d8_34 rfl rfl ?_
    refine miloadN 36 G0 d8_35 rfl rfl ?_
    refine mbipush 38 G0 d8_36 (v := (8 : Int32)) rfl rfl ?_
    refine miushr 39 G0 d8_38 (v := (0 : Int32)) rfl rfl ?_
    refine miadd 40 G0 d8_39 (v := (2 : Int32)) rfl rfl ?_
    refine mistoreN 41 G0 d8_40 #[iv (2 : Int32)] rfl rfl ?_
    refine miloadN 42 G0 d8_41 rfl rfl ?_
    refine miloadN 43 G0 d8_42 rfl rfl ?_
    refine mbipush 45 G0 d8_43 (v := (16 : Int32)) rfl rfl ?_
    refine miushr 46 G0 d8_45 (v := (0 : Int32)) rfl rfl ?_
    refine miadd 47 G0 d8_46 (v := (2 : Int32)) rfl rfl ?_
    refine mistoreN 48 G0 d8_47 #[iv (2 : Int32)] rfl rfl ?_
    refine miloadN 49 G0 d8_48 rfl rfl ?_
    refine mbipush 51 G0 d8_49 (v := (63 : Int32)) rfl rfl ?_
    refine miand 52 G0 d8_51 (v := (2 : Int32)) rfl rfl ?_
    exact retOut X0 hx Bd.returns rfl (Or.inl ⟨rfl, Or.inl rfl, _, rfl⟩) (hb hby d8_52) hr
  · show Q8_5 Z h0 n0 _ s₁.heap _
    rw [e0]
    exact ⟨rfl, rfl, rfl⟩
theorem ef8_6 (m : MethodId)  : entryFrame m #[(.int (6 : Int32))] 1 = mkF m 0 #[iv (6 : Int32)] [] := by first | (simp [entryFrame, mkF, argsToLocals, Value.category]; done) | rfl
abbrev room_of_8_6 : Room := { frames := 0, cells := 0, slots := 0, locals := 0 }
def Q8_6 (Z : State)  (h0 : Heap) (n0 : Nat) (v : Option Value) (h : Heap) (L : List Loc) : Prop := v = some (.int (2 : Int32)) ∧ L = [] ∧ h = h0
set_option maxRecDepth 65536 in
set_option maxHeartbeats 40000000 in
theorem rm8_6 (l : Launch) (Z : State) (a0 : Array Value) (hw : ∀ d ∈ tables_1, d.before a0 Z = true) (ws : List Jvm.Cond)   (h0 : Heap) (n0 : Nat) (Z0 : n0 ≤ h0.size) :
    MetFree l (⟨"java/lang/Integer", "bitCount", "(I)I"⟩ : MethodName) (head1 (Jvm.Cond.code (⟨"java/lang/Integer", "bitCount", "(I)I"⟩ : MethodName) jdk_33_method_49_code 1 (some .int) :: ws) (room_of_8_6)) (fun a U => a = #[(.int (6 : Int32))] ∧ Z.Warmed39 U.vm ∧ U.heap = h0) (fun _ _ _ _ _ => True) (fun _ U o U' => ∃ v L, o = .returned v ∧ Q8_6 Z  h0 n0 v U'.heap L ∧ FrameEnd U o U' L (room_of_8_6).cells (room_of_8_6).slots) := by
  refine MetFree.of_bodySF (plainFor_of_name pn_8) hisR ?_
  intro p e s m args below meth c s₁ Bd hml0 hP hK
  obtain ⟨rfl, hZ, hh⟩ := hP
  have hx := Bd.exec
  have hby := Bd.bytes
  have hml : c.maxLocals = 1 := hml0
  have hown : s.vm.findClass "java/lang/Integer" = some m.cls := findClass_of_methodNamed Bd.named
  have hnm := (name_of_methodNamed Bd.named Bd.method).1
  have X0 : Stand p l e (room_of_8_6) s m #[(.int (6 : Int32))] below meth c s₁ [] 0 0 := Stand.of_body Bd
  have e0 : s₁.heap = h0 := by rw [← hh, Bd.state]; rfl
  have N0 := Fr.nil n0
  have G0 := gd X0 hx hby
  have pre0 : ∀ t, Steps p.tables e below (s₁.setTop (mkF m 0 #[iv (6 : Int32)] [])) t → Steps p.tables e below (s₁.setTop (entryFrame m #[(.int (6 : Int32))] 1)) t := fun t k => castTop (ef8_6 m ) k
  obtain ⟨fs, hr, hrun, hended, hW, hsame⟩ := X0.leave (v := some (.int (2 : Int32))) (fun h => by rw [Bd.returns] at h; cases h)
  refine ⟨_, _, pre0 _ ?_, hrun, hended, _, _, rfl, ?_, ⟨_, rfl⟩, hW, hsame.mono (by decide) (by decide)⟩
  · show Steps p.tables e below (s₁.setTop (mkF m 0 #[iv (6 : Int32)] [])) _
    refine miloadN 1 G0 d8_0 rfl rfl ?_
    refine miloadN 2 G0 d8_1 rfl rfl ?_
    refine miconst 3 G0 d8_2 (v := (1 : Int32)) rfl rfl ?_
    refine miushr 4 G0 d8_3 (v := (3 : Int32)) rfl rfl ?_
    refine X0.ldcwInt hx hown (mvT hZ (wd hw 40 rfl)) (g := (mkF m 4 #[iv (6 : Int32)] [(.int (3 : Int32)), (.int (6 : Int32))])) rfl (hb hby d8_4) _ ?_
    show Steps p.tables e below (s₁.setTop (mkF m 7 #[iv (6 : Int32)] [(.int (1431655765 : Int32)), (.int (3 : Int32)), (.int (6 : Int32))])) _
    refine miand 8 G0 d8_7 (v := (1 : Int32)) rfl rfl ?_
    refine misub 9 G0 d8_8 (v := (5 : Int32)) rfl rfl ?_
    refine mistoreN 10 G0 d8_9 #[iv (5 : Int32)] rfl rfl ?_
    refine miloadN 11 G0 d8_10 rfl rfl ?_
    refine X0.ldcwInt hx hown (mvT hZ (wd hw 41 rfl)) (g := (mkF m 11 #[iv (5 : Int32)] [(.int (5 : Int32))])) rfl (hb hby d8_11) _ ?_
    show Steps p.tables e below (s₁.setTop (mkF m 14 #[iv (5 : Int32)] [(.int (858993459 : Int32)), (.int (5 : Int32))])) _
    refine miand 15 G0 d8_14 (v := (1 : Int32)) rfl rfl ?_
    refine miloadN 16 G0 d8_15 rfl rfl ?_
    refine miconst 17 G0 d8_16 (v := (2 : Int32)) rfl rfl ?_
    refine miushr 18 G0 d8_17 (v := (1 : Int32)) rfl rfl ?_
    refine X0.ldcwInt hx hown (mvT hZ (wd hw 41 rfl)) (g := (mkF m 18 #[iv (5 : Int32)] [(.int (1 : Int32)), (.int (1 : Int32))])) rfl (hb hby d8_18) _ ?_
    show Steps p.tables e below (s₁.setTop (mkF m 21 #[iv (5 : Int32)] [(.int (858993459 : Int32)), (.int (1 : Int32)), (.int (1 : Int32))])) _
    refine miand 22 G0 d8_21 (v := (1 : Int32)) rfl rfl ?_
    refine miadd 23 G0 d8_22 (v := (2 : Int32)) rfl rfl ?_
    refine mistoreN 24 G0 d8_23 #[iv (2 : Int32)] rfl rfl ?_
    refine miloadN 25 G0 d8_24 rfl rfl ?_
    refine miloadN 26 G0 d8_25 rfl rfl ?_
    refine miconst 27 G0 d8_26 (v := (4 : Int32)) rfl rfl ?_
    refine miushr 28 G0 d8_27 (v := (0 : Int32)) rfl rfl ?_
    refine miadd 29 G0 d8_28 (v := (2 : Int32)) rfl rfl ?_
    refine X0.ldcwInt hx hown (mvT hZ (wd hw 42 rfl)) (g := (mkF m 29 #[iv (2 : Int32)] [(.int (2 : Int32))])) rfl (hb hby d8_29) _ ?_
    show Steps p.tables e below (s₁.setTop (mkF m 32 #[iv (2 : Int32)] [(.int (252645135 : Int32)), (.int (2 : Int32))])) _
    refine miand 33 G0 d8_32 (v := (2 : Int32)) rfl rfl ?_
    refine mistoreN 34 G0 d8_33 #[iv (2 : Int32)] rfl rfl ?_
    refine miloadN 35 G0 d8_34 rfl rfl ?_
    refine miloadN 36 G0 d8_35 rfl rfl ?_
    refine mbipush 38 G0 d8_36 (v := (8 : Int32)) rfl rfl ?_
    refine miushr 39 G0 d8_38 (v := (0 : Int32)) rfl rfl ?_
    refine miadd 40 G0 d8_39 (v := (2 : Int32)) rfl rfl ?_
    refine mistoreN 41 G0 d8_40 #[iv (2 : Int32)] rfl rfl ?_
    refine miloadN 42 G0 d8_41 rfl rfl ?_
    refine miloadN 43 G0 d8_42 rfl rfl ?_
    refine mbipush 45 G0 d8_43 (v := (16 : Int32)) rfl rfl ?_
    refine miushr 46 G0 d8_45 (v := (0 : Int32)) rfl rfl ?_
    refine miadd 47 G0 d8_46 (v := (2 : Int32)) rfl rfl ?_
    refine mistoreN 48 G0 d8_47 #[iv (2 : Int32)] rfl rfl ?_
    refine miloadN 49 G0 d8_48 rfl rfl ?_
    refine mbipush 51 G0 d8_49 (v := (63 : Int32)) rfl rfl ?_
    refine miand 52 G0 d8_51 (v := (2 : Int32)) rfl rfl ?_
    exact retOut X0 hx Bd.returns rfl (Or.inl ⟨rfl, Or.inl rfl, _, rfl⟩) (hb hby d8_52) hr
  · show Q8_6 Z h0 n0 _ s₁.heap _
    rw [e0]
    exact ⟨rfl, rfl, rfl⟩
theorem ef8_7 (m : MethodId)  : entryFrame m #[(.int (7 : Int32))] 1 = mkF m 0 #[iv (7 : Int32)] [] := by first | (simp [entryFrame, mkF, argsToLocals, Value.category]; done) | rfl
abbrev room_of_8_7 : Room := { frames := 0, cells := 0, slots := 0, locals := 0 }
def Q8_7 (Z : State)  (h0 : Heap) (n0 : Nat) (v : Option Value) (h : Heap) (L : List Loc) : Prop := v = some (.int (3 : Int32)) ∧ L = [] ∧ h = h0
set_option maxRecDepth 65536 in
set_option maxHeartbeats 40000000 in
theorem rm8_7 (l : Launch) (Z : State) (a0 : Array Value) (hw : ∀ d ∈ tables_1, d.before a0 Z = true) (ws : List Jvm.Cond)   (h0 : Heap) (n0 : Nat) (Z0 : n0 ≤ h0.size) :
    MetFree l (⟨"java/lang/Integer", "bitCount", "(I)I"⟩ : MethodName) (head1 (Jvm.Cond.code (⟨"java/lang/Integer", "bitCount", "(I)I"⟩ : MethodName) jdk_33_method_49_code 1 (some .int) :: ws) (room_of_8_7)) (fun a U => a = #[(.int (7 : Int32))] ∧ Z.Warmed39 U.vm ∧ U.heap = h0) (fun _ _ _ _ _ => True) (fun _ U o U' => ∃ v L, o = .returned v ∧ Q8_7 Z  h0 n0 v U'.heap L ∧ FrameEnd U o U' L (room_of_8_7).cells (room_of_8_7).slots) := by
  refine MetFree.of_bodySF (plainFor_of_name pn_8) hisR ?_
  intro p e s m args below meth c s₁ Bd hml0 hP hK
  obtain ⟨rfl, hZ, hh⟩ := hP
  have hx := Bd.exec
  have hby := Bd.bytes
  have hml : c.maxLocals = 1 := hml0
  have hown : s.vm.findClass "java/lang/Integer" = some m.cls := findClass_of_methodNamed Bd.named
  have hnm := (name_of_methodNamed Bd.named Bd.method).1
  have X0 : Stand p l e (room_of_8_7) s m #[(.int (7 : Int32))] below meth c s₁ [] 0 0 := Stand.of_body Bd
  have e0 : s₁.heap = h0 := by rw [← hh, Bd.state]; rfl
  have N0 := Fr.nil n0
  have G0 := gd X0 hx hby
  have pre0 : ∀ t, Steps p.tables e below (s₁.setTop (mkF m 0 #[iv (7 : Int32)] [])) t → Steps p.tables e below (s₁.setTop (entryFrame m #[(.int (7 : Int32))] 1)) t := fun t k => castTop (ef8_7 m ) k
  obtain ⟨fs, hr, hrun, hended, hW, hsame⟩ := X0.leave (v := some (.int (3 : Int32))) (fun h => by rw [Bd.returns] at h; cases h)
  refine ⟨_, _, pre0 _ ?_, hrun, hended, _, _, rfl, ?_, ⟨_, rfl⟩, hW, hsame.mono (by decide) (by decide)⟩
  · show Steps p.tables e below (s₁.setTop (mkF m 0 #[iv (7 : Int32)] [])) _
    refine miloadN 1 G0 d8_0 rfl rfl ?_
    refine miloadN 2 G0 d8_1 rfl rfl ?_
    refine miconst 3 G0 d8_2 (v := (1 : Int32)) rfl rfl ?_
    refine miushr 4 G0 d8_3 (v := (3 : Int32)) rfl rfl ?_
    refine X0.ldcwInt hx hown (mvT hZ (wd hw 40 rfl)) (g := (mkF m 4 #[iv (7 : Int32)] [(.int (3 : Int32)), (.int (7 : Int32))])) rfl (hb hby d8_4) _ ?_
    show Steps p.tables e below (s₁.setTop (mkF m 7 #[iv (7 : Int32)] [(.int (1431655765 : Int32)), (.int (3 : Int32)), (.int (7 : Int32))])) _
    refine miand 8 G0 d8_7 (v := (1 : Int32)) rfl rfl ?_
    refine misub 9 G0 d8_8 (v := (6 : Int32)) rfl rfl ?_
    refine mistoreN 10 G0 d8_9 #[iv (6 : Int32)] rfl rfl ?_
    refine miloadN 11 G0 d8_10 rfl rfl ?_
    refine X0.ldcwInt hx hown (mvT hZ (wd hw 41 rfl)) (g := (mkF m 11 #[iv (6 : Int32)] [(.int (6 : Int32))])) rfl (hb hby d8_11) _ ?_
    show Steps p.tables e below (s₁.setTop (mkF m 14 #[iv (6 : Int32)] [(.int (858993459 : Int32)), (.int (6 : Int32))])) _
    refine miand 15 G0 d8_14 (v := (2 : Int32)) rfl rfl ?_
    refine miloadN 16 G0 d8_15 rfl rfl ?_
    refine miconst 17 G0 d8_16 (v := (2 : Int32)) rfl rfl ?_
    refine miushr 18 G0 d8_17 (v := (1 : Int32)) rfl rfl ?_
    refine X0.ldcwInt hx hown (mvT hZ (wd hw 41 rfl)) (g := (mkF m 18 #[iv (6 : Int32)] [(.int (1 : Int32)), (.int (2 : Int32))])) rfl (hb hby d8_18) _ ?_
    show Steps p.tables e below (s₁.setTop (mkF m 21 #[iv (6 : Int32)] [(.int (858993459 : Int32)), (.int (1 : Int32)), (.int (2 : Int32))])) _
    refine miand 22 G0 d8_21 (v := (1 : Int32)) rfl rfl ?_
    refine miadd 23 G0 d8_22 (v := (3 : Int32)) rfl rfl ?_
    refine mistoreN 24 G0 d8_23 #[iv (3 : Int32)] rfl rfl ?_
    refine miloadN 25 G0 d8_24 rfl rfl ?_
    refine miloadN 26 G0 d8_25 rfl rfl ?_
    refine miconst 27 G0 d8_26 (v := (4 : Int32)) rfl rfl ?_
    refine miushr 28 G0 d8_27 (v := (0 : Int32)) rfl rfl ?_
    refine miadd 29 G0 d8_28 (v := (3 : Int32)) rfl rfl ?_
    refine X0.ldcwInt hx hown (mvT hZ (wd hw 42 rfl)) (g := (mkF m 29 #[iv (3 : Int32)] [(.int (3 : Int32))])) rfl (hb hby d8_29) _ ?_
    show Steps p.tables e below (s₁.setTop (mkF m 32 #[iv (3 : Int32)] [(.int (252645135 : Int32)), (.int (3 : Int32))])) _
    refine miand 33 G0 d8_32 (v := (3 : Int32)) rfl rfl ?_
    refine mistoreN 34 G0 d8_33 #[iv (3 : Int32)] rfl rfl ?_
    refine miloadN 35 G0 d8_34 rfl rfl ?_
    refine miloadN 36 G0 d8_35 rfl rfl ?_
    refine mbipush 38 G0 d8_36 (v := (8 : Int32)) rfl rfl ?_
    refine miushr 39 G0 d8_38 (v := (0 : Int32)) rfl rfl ?_
    refine miadd 40 G0 d8_39 (v := (3 : Int32)) rfl rfl ?_
    refine mistoreN 41 G0 d8_40 #[iv (3 : Int32)] rfl rfl ?_
    refine miloadN 42 G0 d8_41 rfl rfl ?_
    refine miloadN 43 G0 d8_42 rfl rfl ?_
    refine mbipush 45 G0 d8_43 (v := (16 : Int32)) rfl rfl ?_
    refine miushr 46 G0 d8_45 (v := (0 : Int32)) rfl rfl ?_
    refine miadd 47 G0 d8_46 (v := (3 : Int32)) rfl rfl ?_
    refine mistoreN 48 G0 d8_47 #[iv (3 : Int32)] rfl rfl ?_
    refine miloadN 49 G0 d8_48 rfl rfl ?_
    refine mbipush 51 G0 d8_49 (v := (63 : Int32)) rfl rfl ?_
    refine miand 52 G0 d8_51 (v := (3 : Int32)) rfl rfl ?_
    exact retOut X0 hx Bd.returns rfl (Or.inl ⟨rfl, Or.inl rfl, _, rfl⟩) (hb hby d8_52) hr
  · show Q8_7 Z h0 n0 _ s₁.heap _
    rw [e0]
    exact ⟨rfl, rfl, rfl⟩
theorem pd_0 : parseMethodDescriptor "(I)I" = some ⟨[.int], some .int⟩ := by decide +kernel
theorem pd_1 : parseMethodDescriptor "(JJ)J" = some ⟨[.long, .long], some .long⟩ := by decide +kernel
theorem d9_0 : decode prog_7_method_9_code 0 = .ok (.iload_n 0, 1) := by decide +kernel
theorem d9_1 : decode prog_7_method_9_code 1 = .ok (.iload_n 1, 1) := by decide +kernel
theorem d9_2 : decode prog_7_method_9_code 2 = .ok (.iconst (-1), 1) := by decide +kernel
theorem d9_3 : decode prog_7_method_9_code 3 = .ok (.ixor, 1) := by decide +kernel
theorem d9_4 : decode prog_7_method_9_code 4 = .ok (.iand, 1) := by decide +kernel
theorem d9_5 : decode prog_7_method_9_code 5 = .ok (.istore 4, 2) := by decide +kernel
theorem d9_7 : decode prog_7_method_9_code 7 = .ok (.lconst 0, 1) := by decide +kernel
theorem d9_8 : decode prog_7_method_9_code 8 = .ok (.lstore 5, 2) := by decide +kernel
theorem d9_10 : decode prog_7_method_9_code 10 = .ok (.iload 4, 2) := by decide +kernel
theorem d9_12 : decode prog_7_method_9_code 12 = .ok (.iload 4, 2) := by decide +kernel
theorem d9_14 : decode prog_7_method_9_code 14 = .ok (.iconst 1, 1) := by decide +kernel
theorem d9_15 : decode prog_7_method_9_code 15 = .ok (.isub, 1) := by decide +kernel
theorem d9_16 : decode prog_7_method_9_code 16 = .ok (.iand, 1) := by decide +kernel
theorem d9_17 : decode prog_7_method_9_code 17 = .ok (.istore 7, 2) := by decide +kernel
theorem d9_19 : decode prog_7_method_9_code 19 = .ok (.iload_n 1, 1) := by decide +kernel
theorem d9_20 : decode prog_7_method_9_code 20 = .ok (.iload 7, 2) := by decide +kernel
theorem d9_22 : decode prog_7_method_9_code 22 = .ok (.ior, 1) := by decide +kernel
theorem d9_23 : decode prog_7_method_9_code 23 = .ok (.istore 8, 2) := by decide +kernel
theorem d9_25 : decode prog_7_method_9_code 25 = .ok (.iload 7, 2) := by decide +kernel
theorem d9_27 : decode prog_7_method_9_code 27 = .ok (.invokestatic 110, 3) := by decide +kernel
theorem d9_30 : decode prog_7_method_9_code 30 = .ok (.iconst 2, 1) := by decide +kernel
theorem d9_31 : decode prog_7_method_9_code 31 = .ok (.irem, 1) := by decide +kernel
theorem d9_32 : decode prog_7_method_9_code 32 = .ok (.ifCond .ne 15, 3) := by decide +kernel
theorem d9_35 : decode prog_7_method_9_code 35 = .ok (.lload 5, 2) := by decide +kernel
theorem d9_37 : decode prog_7_method_9_code 37 = .ok (.aload_n 3, 1) := by decide +kernel
theorem d9_38 : decode prog_7_method_9_code 38 = .ok (.iload 8, 2) := by decide +kernel
theorem d9_40 : decode prog_7_method_9_code 40 = .ok (.laload, 1) := by decide +kernel
theorem d9_41 : decode prog_7_method_9_code 41 = .ok (.invokestatic 136, 3) := by decide +kernel
theorem d9_44 : decode prog_7_method_9_code 44 = .ok (.goto 12, 3) := by decide +kernel
theorem d9_47 : decode prog_7_method_9_code 47 = .ok (.lload 5, 2) := by decide +kernel
theorem d9_49 : decode prog_7_method_9_code 49 = .ok (.aload_n 2, 1) := by decide +kernel
theorem d9_50 : decode prog_7_method_9_code 50 = .ok (.iload 8, 2) := by decide +kernel
theorem d9_52 : decode prog_7_method_9_code 52 = .ok (.laload, 1) := by decide +kernel
theorem d9_53 : decode prog_7_method_9_code 53 = .ok (.invokestatic 139, 3) := by decide +kernel
theorem d9_56 : decode prog_7_method_9_code 56 = .ok (.lstore 5, 2) := by decide +kernel
theorem d9_58 : decode prog_7_method_9_code 58 = .ok (.iload 7, 2) := by decide +kernel
theorem d9_60 : decode prog_7_method_9_code 60 = .ok (.ifCond .ne 6, 3) := by decide +kernel
theorem d9_63 : decode prog_7_method_9_code 63 = .ok (.goto 15, 3) := by decide +kernel
theorem d9_66 : decode prog_7_method_9_code 66 = .ok (.iload 7, 2) := by decide +kernel
theorem d9_68 : decode prog_7_method_9_code 68 = .ok (.iconst 1, 1) := by decide +kernel
theorem d9_69 : decode prog_7_method_9_code 69 = .ok (.isub, 1) := by decide +kernel
theorem d9_70 : decode prog_7_method_9_code 70 = .ok (.iload 4, 2) := by decide +kernel
theorem d9_72 : decode prog_7_method_9_code 72 = .ok (.iand, 1) := by decide +kernel
theorem d9_73 : decode prog_7_method_9_code 73 = .ok (.istore 7, 2) := by decide +kernel
theorem d9_75 : decode prog_7_method_9_code 75 = .ok (.goto (-56), 3) := by decide +kernel
theorem d9_78 : decode prog_7_method_9_code 78 = .ok (.lload 5, 2) := by decide +kernel
theorem d9_80 : decode prog_7_method_9_code 80 = .ok (.lreturn, 1) := by decide +kernel
theorem pn_9 : plainName "com/example/tempe/tempe/estimate/CountBracket" = true := by first | (simp [plainName, overriddenIn]; done) | decide +kernel
theorem ef9_0 (m : MethodId) (o2 : Addr) (o3 : Addr) : entryFrame m #[(.int (7 : Int32)), (.int (0 : Int32)), (.ref o2), (.ref o3)] 9 = mkF m 0 #[iv (7 : Int32), iv (0 : Int32), rv o2, rv o3, .unset, .unset, .unset, .unset, .unset] [] := by first | (simp [entryFrame, mkF, argsToLocals, Value.category]; done) | rfl
abbrev room_of_9_0 : Room := { frames := 1, cells := 0, slots := 0, locals := 17 }
def rv9_0 (l1_ : Int64) (l2_ : Int64) (l4_ : Int64) (h0_ : Int64) (h3_ : Int64) (h5_ : Int64) (h6_ : Int64) : Int64 := (rv10 (rv11 (rv11 (rv10 (rv11 (rv10 (rv10 (0 : Int64) h6_) h5_) l4_) h3_) l2_) l1_) h0_)
def Q9_0 (Z : State) (o2 : Addr) (o3 : Addr) (l0_ : Int64) (l1_ : Int64) (l2_ : Int64) (l3_ : Int64) (l4_ : Int64) (l5_ : Int64) (l6_ : Int64) (l7_ : Int64) (h0_ : Int64) (h1_ : Int64) (h2_ : Int64) (h3_ : Int64) (h4_ : Int64) (h5_ : Int64) (h6_ : Int64) (h7_ : Int64) (k1 : ClassId) (k2 : ClassId) (h0 : Heap) (n0 : Nat) (v : Option Value) (h : Heap) (L : List Loc) : Prop := v = some (.long (rv9_0 l1_ l2_ l4_ h0_ h3_ h5_ h6_)) ∧ L = [] ∧ h = h0
theorem own_rm9_0_hp_hin_41 (o2 : Addr) (o3 : Addr) (l0_ : Int64) (l1_ : Int64) (l2_ : Int64) (l3_ : Int64) (l4_ : Int64) (l5_ : Int64) (l6_ : Int64) (l7_ : Int64) (h0_ : Int64) (h1_ : Int64) (h2_ : Int64) (h3_ : Int64) (h4_ : Int64) (h5_ : Int64) (h6_ : Int64) (h7_ : Int64) (k1 : ClassId) (k2 : ClassId) (hlq : own_BL [l0_, l1_, l2_, l3_, l4_, l5_, l6_, l7_]) (hhq : own_BL [h0_, h1_, h2_, h3_, h4_, h5_, h6_, h7_]) : own_fitA (0 : Int64) h6_ := own_fA own_b0 (hhq _ (List.mem_of_getElem? (i := 6) rfl)) (by decide)
theorem own_rm9_0_hp_hin_41_1 (o2 : Addr) (o3 : Addr) (l0_ : Int64) (l1_ : Int64) (l2_ : Int64) (l3_ : Int64) (l4_ : Int64) (l5_ : Int64) (l6_ : Int64) (l7_ : Int64) (h0_ : Int64) (h1_ : Int64) (h2_ : Int64) (h3_ : Int64) (h4_ : Int64) (h5_ : Int64) (h6_ : Int64) (h7_ : Int64) (k1 : ClassId) (k2 : ClassId) (hlq : own_BL [l0_, l1_, l2_, l3_, l4_, l5_, l6_, l7_]) (hhq : own_BL [h0_, h1_, h2_, h3_, h4_, h5_, h6_, h7_]) : own_fitA (rv10 (0 : Int64) h6_) h5_ := own_fA (own_bA own_b0 (hhq _ (List.mem_of_getElem? (i := 6) rfl)) (by decide)) (hhq _ (List.mem_of_getElem? (i := 5) rfl)) (by decide)
theorem own_rm9_0_hp_hin_53 (o2 : Addr) (o3 : Addr) (l0_ : Int64) (l1_ : Int64) (l2_ : Int64) (l3_ : Int64) (l4_ : Int64) (l5_ : Int64) (l6_ : Int64) (l7_ : Int64) (h0_ : Int64) (h1_ : Int64) (h2_ : Int64) (h3_ : Int64) (h4_ : Int64) (h5_ : Int64) (h6_ : Int64) (h7_ : Int64) (k1 : ClassId) (k2 : ClassId) (hlq : own_BL [l0_, l1_, l2_, l3_, l4_, l5_, l6_, l7_]) (hhq : own_BL [h0_, h1_, h2_, h3_, h4_, h5_, h6_, h7_]) : own_fitS (rv10 (rv10 (0 : Int64) h6_) h5_) l4_ := own_fS (own_bA (own_bA own_b0 (hhq _ (List.mem_of_getElem? (i := 6) rfl)) (by decide)) (hhq _ (List.mem_of_getElem? (i := 5) rfl)) (by decide)) (hlq _ (List.mem_of_getElem? (i := 4) rfl)) (by decide)
theorem own_rm9_0_hp_hin_41_2 (o2 : Addr) (o3 : Addr) (l0_ : Int64) (l1_ : Int64) (l2_ : Int64) (l3_ : Int64) (l4_ : Int64) (l5_ : Int64) (l6_ : Int64) (l7_ : Int64) (h0_ : Int64) (h1_ : Int64) (h2_ : Int64) (h3_ : Int64) (h4_ : Int64) (h5_ : Int64) (h6_ : Int64) (h7_ : Int64) (k1 : ClassId) (k2 : ClassId) (hlq : own_BL [l0_, l1_, l2_, l3_, l4_, l5_, l6_, l7_]) (hhq : own_BL [h0_, h1_, h2_, h3_, h4_, h5_, h6_, h7_]) : own_fitA (rv11 (rv10 (rv10 (0 : Int64) h6_) h5_) l4_) h3_ := own_fA (own_bS (own_bA (own_bA own_b0 (hhq _ (List.mem_of_getElem? (i := 6) rfl)) (by decide)) (hhq _ (List.mem_of_getElem? (i := 5) rfl)) (by decide)) (hlq _ (List.mem_of_getElem? (i := 4) rfl)) (by decide)) (hhq _ (List.mem_of_getElem? (i := 3) rfl)) (by decide)
theorem own_rm9_0_hp_hin_53_1 (o2 : Addr) (o3 : Addr) (l0_ : Int64) (l1_ : Int64) (l2_ : Int64) (l3_ : Int64) (l4_ : Int64) (l5_ : Int64) (l6_ : Int64) (l7_ : Int64) (h0_ : Int64) (h1_ : Int64) (h2_ : Int64) (h3_ : Int64) (h4_ : Int64) (h5_ : Int64) (h6_ : Int64) (h7_ : Int64) (k1 : ClassId) (k2 : ClassId) (hlq : own_BL [l0_, l1_, l2_, l3_, l4_, l5_, l6_, l7_]) (hhq : own_BL [h0_, h1_, h2_, h3_, h4_, h5_, h6_, h7_]) : own_fitS (rv10 (rv11 (rv10 (rv10 (0 : Int64) h6_) h5_) l4_) h3_) l2_ := own_fS (own_bA (own_bS (own_bA (own_bA own_b0 (hhq _ (List.mem_of_getElem? (i := 6) rfl)) (by decide)) (hhq _ (List.mem_of_getElem? (i := 5) rfl)) (by decide)) (hlq _ (List.mem_of_getElem? (i := 4) rfl)) (by decide)) (hhq _ (List.mem_of_getElem? (i := 3) rfl)) (by decide)) (hlq _ (List.mem_of_getElem? (i := 2) rfl)) (by decide)
theorem own_rm9_0_hp_hin_53_2 (o2 : Addr) (o3 : Addr) (l0_ : Int64) (l1_ : Int64) (l2_ : Int64) (l3_ : Int64) (l4_ : Int64) (l5_ : Int64) (l6_ : Int64) (l7_ : Int64) (h0_ : Int64) (h1_ : Int64) (h2_ : Int64) (h3_ : Int64) (h4_ : Int64) (h5_ : Int64) (h6_ : Int64) (h7_ : Int64) (k1 : ClassId) (k2 : ClassId) (hlq : own_BL [l0_, l1_, l2_, l3_, l4_, l5_, l6_, l7_]) (hhq : own_BL [h0_, h1_, h2_, h3_, h4_, h5_, h6_, h7_]) : own_fitS (rv11 (rv10 (rv11 (rv10 (rv10 (0 : Int64) h6_) h5_) l4_) h3_) l2_) l1_ := own_fS (own_bS (own_bA (own_bS (own_bA (own_bA own_b0 (hhq _ (List.mem_of_getElem? (i := 6) rfl)) (by decide)) (hhq _ (List.mem_of_getElem? (i := 5) rfl)) (by decide)) (hlq _ (List.mem_of_getElem? (i := 4) rfl)) (by decide)) (hhq _ (List.mem_of_getElem? (i := 3) rfl)) (by decide)) (hlq _ (List.mem_of_getElem? (i := 2) rfl)) (by decide)) (hlq _ (List.mem_of_getElem? (i := 1) rfl)) (by decide)
theorem own_rm9_0_hp_hin_41_3 (o2 : Addr) (o3 : Addr) (l0_ : Int64) (l1_ : Int64) (l2_ : Int64) (l3_ : Int64) (l4_ : Int64) (l5_ : Int64) (l6_ : Int64) (l7_ : Int64) (h0_ : Int64) (h1_ : Int64) (h2_ : Int64) (h3_ : Int64) (h4_ : Int64) (h5_ : Int64) (h6_ : Int64) (h7_ : Int64) (k1 : ClassId) (k2 : ClassId) (hlq : own_BL [l0_, l1_, l2_, l3_, l4_, l5_, l6_, l7_]) (hhq : own_BL [h0_, h1_, h2_, h3_, h4_, h5_, h6_, h7_]) : own_fitA (rv11 (rv11 (rv10 (rv11 (rv10 (rv10 (0 : Int64) h6_) h5_) l4_) h3_) l2_) l1_) h0_ := own_fA (own_bS (own_bS (own_bA (own_bS (own_bA (own_bA own_b0 (hhq _ (List.mem_of_getElem? (i := 6) rfl)) (by decide)) (hhq _ (List.mem_of_getElem? (i := 5) rfl)) (by decide)) (hlq _ (List.mem_of_getElem? (i := 4) rfl)) (by decide)) (hhq _ (List.mem_of_getElem? (i := 3) rfl)) (by decide)) (hlq _ (List.mem_of_getElem? (i := 2) rfl)) (by decide)) (hlq _ (List.mem_of_getElem? (i := 1) rfl)) (by decide)) (hhq _ (List.mem_of_getElem? (i := 0) rfl)) (by decide)
set_option maxRecDepth 65536 in
set_option maxHeartbeats 40000000 in
theorem rm9_0 (l : Launch) (Z : State) (a0 : Array Value) (hw : ∀ d ∈ tables_1, d.before a0 Z = true) (ws : List Jvm.Cond) (o2 : Addr) (o3 : Addr) {l0_ : Int64} {l1_ : Int64} {l2_ : Int64} {l3_ : Int64} {l4_ : Int64} {l5_ : Int64} {l6_ : Int64} {l7_ : Int64} {h0_ : Int64} {h1_ : Int64} {h2_ : Int64} {h3_ : Int64} {h4_ : Int64} {h5_ : Int64} {h6_ : Int64} {h7_ : Int64} {k1 : ClassId} {k2 : ClassId} (h0 : Heap) (n0 : Nat) (Z0 : n0 ≤ h0.size) (hlq : own_BL [l0_, l1_, l2_, l3_, l4_, l5_, l6_, l7_]) (hhq : own_BL [h0_, h1_, h2_, h3_, h4_, h5_, h6_, h7_]) (V_o2 : Arv Z h0 o2 k1 .long (8 : Int32) [(.long l0_), (.long l1_), (.long l2_), (.long l3_), (.long l4_), (.long l5_), (.long l6_), (.long l7_)] (.long (0 : Int64))) (V_o3 : Arv Z h0 o3 k2 .long (8 : Int32) [(.long h0_), (.long h1_), (.long h2_), (.long h3_), (.long h4_), (.long h5_), (.long h6_), (.long h7_)] (.long (0 : Int64))) :
    MetFree l (⟨"com/example/tempe/tempe/estimate/CountBracket", "highestRest", "(II[J[J)J"⟩ : MethodName) (head1 (Jvm.Cond.code (⟨"com/example/tempe/tempe/estimate/CountBracket", "highestRest", "(II[J[J)J"⟩ : MethodName) prog_7_method_9_code 9 (some .long) :: ws) (room_of_9_0)) (fun a U => a = #[(.int (7 : Int32)), (.int (0 : Int32)), (.ref o2), (.ref o3)] ∧ Z.Warmed39 U.vm ∧ U.heap = h0) (fun _ _ _ _ _ => True) (fun _ U o U' => ∃ v L, o = .returned v ∧ Q9_0 Z o2 o3 l0_ l1_ l2_ l3_ l4_ l5_ l6_ l7_ h0_ h1_ h2_ h3_ h4_ h5_ h6_ h7_ k1 k2 h0 n0 v U'.heap L ∧ FrameEnd U o U' L (room_of_9_0).cells (room_of_9_0).slots) := by
  refine MetFree.of_bodySF (plainFor_of_name pn_9) hisR ?_
  intro p e s m args below meth c s₁ Bd hml0 hP hK
  obtain ⟨rfl, hZ, hh⟩ := hP
  have hx := Bd.exec
  have hby := Bd.bytes
  have hml : c.maxLocals = 9 := hml0
  have hown : s.vm.findClass "com/example/tempe/tempe/estimate/CountBracket" = some m.cls := findClass_of_methodNamed Bd.named
  have hnm := (name_of_methodNamed Bd.named Bd.method).1
  have X0 : Stand p l e (room_of_9_0) s m #[(.int (7 : Int32)), (.int (0 : Int32)), (.ref o2), (.ref o3)] below meth c s₁ [] 0 0 := Stand.of_body Bd
  have e0 : s₁.heap = h0 := by rw [← hh, Bd.state]; rfl
  have N0 := Fr.nil n0
  have G0 := gd X0 hx hby
  have pre0 : ∀ t, Steps p.tables e below (s₁.setTop (mkF m 0 #[iv (7 : Int32), iv (0 : Int32), rv o2, rv o3, .unset, .unset, .unset, .unset, .unset] [])) t → Steps p.tables e below (s₁.setTop (entryFrame m #[(.int (7 : Int32)), (.int (0 : Int32)), (.ref o2), (.ref o3)] 9)) t := fun t k => castTop (ef9_0 m o2 o3) k
  obtain ⟨_, _, ⟨T1, L1, k1, n1⟩, -, X1, ⟨Lc1, hQ1, l1, y1, z1⟩, st1⟩ := Jvm.LawKit.callS X0 hx (y := (⟨"java/lang/Integer", "bitCount", "(I)I"⟩ : MethodName)) hown (mvT hZ (wd hw 36 rfl)) (mvT hZ (wd hw 37 rfl)) (mvT hZ (wd hw 38 rfl)) (mvT hZ (wd hw 39 rfl)) (by decide) (backOf (W := 0) (rm8_6 l Z a0 hw []  h0 n0 Z0 ) hZ (wd hw 39 rfl) (wd hw 38 rfl) (by decide) (by decide)) (g := (mkF m 27 #[iv (7 : Int32), iv (0 : Int32), rv o2, rv o3, iv (7 : Int32), lv (0 : Int64), .second, iv (6 : Int32), iv (6 : Int32)] [(.int (6 : Int32))])) rfl (by rw [hml]; rfl) (argsL := [(.int (6 : Int32))]) (rest := []) (lenOf pd_0 rfl) rfl (by show 2 * 0 + _ ≤ _; exact Nat.le_of_eq rfl) (hb hby d9_27) (fun _ _ => ⟨rfl, e0, (by decide : 0 + 0 ≤ _), (by decide : 0 + 0 ≤ _)⟩)
  dsimp only [Pt.U, Pt.locs, Pt.cells, Pt.slots] at X1 l1 y1 z1 st1 hQ1
  replace l1 : ([] ++ Lc1) = L1 := l1.symm
  subst l1 y1 z1
  obtain ⟨rfl, rfl, e1⟩ := hQ1
  simp only [List.append_nil, Nat.add_zero] at X1
  have G1 := gd X1 hx hby
  obtain ⟨_, _, ⟨T2, L2, k2, n2⟩, -, X2, ⟨Lc2, hQ2, l2, y2, z2⟩, st2⟩ := Jvm.LawKit.callS X1 hx (y := (⟨"java/lang/Math", "addExact", "(JJ)J"⟩ : MethodName)) hown (mvT hZ (wd hw 47 rfl)) (mvT hZ (wd hw 48 rfl)) (mvT hZ (wd hw 9 rfl)) (mvT hZ (wd hw 49 rfl)) (by decide) (backOf (W := 0) (rm10 l Z a0 hw [] (0 : Int64) h6_ h0 n0 Z0 (own_rm9_0_hp_hin_41 o2 o3 l0_ l1_ l2_ l3_ l4_ l5_ l6_ l7_ h0_ h1_ h2_ h3_ h4_ h5_ h6_ h7_ k1 k2 hlq hhq)) hZ (wd hw 49 rfl) (wd hw 9 rfl) (by decide) (by decide)) (g := (mkF m 41 #[iv (7 : Int32), iv (0 : Int32), rv o2, rv o3, iv (7 : Int32), lv (0 : Int64), .second, iv (6 : Int32), iv (6 : Int32)] [(.long h6_), (.long (0 : Int64))])) rfl (by rw [hml]; rfl) (argsL := [(.long (0 : Int64)), (.long h6_)]) (rest := []) (lenOf pd_1 rfl) rfl (by show 2 * 0 + _ ≤ _; exact Nat.le_of_eq rfl) (hb hby d9_41) (fun _ _ => ⟨rfl, e1, (by decide : 0 + 0 ≤ _), (by decide : 0 + 0 ≤ _)⟩)
  dsimp only [Pt.U, Pt.locs, Pt.cells, Pt.slots] at X2 l2 y2 z2 st2 hQ2
  replace l2 : ([] ++ Lc2) = L2 := l2.symm
  subst l2 y2 z2
  obtain ⟨rfl, rfl, e2⟩ := hQ2
  simp only [List.append_nil, Nat.add_zero] at X2
  have G2 := gd X2 hx hby
  obtain ⟨_, _, ⟨T3, L3, k3, n3⟩, -, X3, ⟨Lc3, hQ3, l3, y3, z3⟩, st3⟩ := Jvm.LawKit.callS X2 hx (y := (⟨"java/lang/Integer", "bitCount", "(I)I"⟩ : MethodName)) hown (mvT hZ (wd hw 36 rfl)) (mvT hZ (wd hw 37 rfl)) (mvT hZ (wd hw 38 rfl)) (mvT hZ (wd hw 39 rfl)) (by decide) (backOf (W := 0) (rm8_5 l Z a0 hw []  h0 n0 Z0 ) hZ (wd hw 39 rfl) (wd hw 38 rfl) (by decide) (by decide)) (g := (mkF m 27 #[iv (7 : Int32), iv (0 : Int32), rv o2, rv o3, iv (7 : Int32), lv (rv10 (0 : Int64) h6_), .second, iv (5 : Int32), iv (5 : Int32)] [(.int (5 : Int32))])) rfl (by rw [hml]; rfl) (argsL := [(.int (5 : Int32))]) (rest := []) (lenOf pd_0 rfl) rfl (by show 2 * 0 + _ ≤ _; exact Nat.le_of_eq rfl) (hb hby d9_27) (fun _ _ => ⟨rfl, e2, (by decide : 0 + 0 ≤ _), (by decide : 0 + 0 ≤ _)⟩)
  dsimp only [Pt.U, Pt.locs, Pt.cells, Pt.slots] at X3 l3 y3 z3 st3 hQ3
  replace l3 : ([] ++ Lc3) = L3 := l3.symm
  subst l3 y3 z3
  obtain ⟨rfl, rfl, e3⟩ := hQ3
  simp only [List.append_nil, Nat.add_zero] at X3
  have G3 := gd X3 hx hby
  obtain ⟨_, _, ⟨T4, L4, k4, n4⟩, -, X4, ⟨Lc4, hQ4, l4, y4, z4⟩, st4⟩ := Jvm.LawKit.callS X3 hx (y := (⟨"java/lang/Math", "addExact", "(JJ)J"⟩ : MethodName)) hown (mvT hZ (wd hw 47 rfl)) (mvT hZ (wd hw 48 rfl)) (mvT hZ (wd hw 9 rfl)) (mvT hZ (wd hw 49 rfl)) (by decide) (backOf (W := 0) (rm10 l Z a0 hw [] ((rv10 (0 : Int64) h6_)) h5_ h0 n0 Z0 (own_rm9_0_hp_hin_41_1 o2 o3 l0_ l1_ l2_ l3_ l4_ l5_ l6_ l7_ h0_ h1_ h2_ h3_ h4_ h5_ h6_ h7_ k1 k2 hlq hhq)) hZ (wd hw 49 rfl) (wd hw 9 rfl) (by decide) (by decide)) (g := (mkF m 41 #[iv (7 : Int32), iv (0 : Int32), rv o2, rv o3, iv (7 : Int32), lv (rv10 (0 : Int64) h6_), .second, iv (5 : Int32), iv (5 : Int32)] [(.long h5_), (.long (rv10 (0 : Int64) h6_))])) rfl (by rw [hml]; rfl) (argsL := [(.long (rv10 (0 : Int64) h6_)), (.long h5_)]) (rest := []) (lenOf pd_1 rfl) rfl (by show 2 * 0 + _ ≤ _; exact Nat.le_of_eq rfl) (hb hby d9_41) (fun _ _ => ⟨rfl, e3, (by decide : 0 + 0 ≤ _), (by decide : 0 + 0 ≤ _)⟩)
  dsimp only [Pt.U, Pt.locs, Pt.cells, Pt.slots] at X4 l4 y4 z4 st4 hQ4
  replace l4 : ([] ++ Lc4) = L4 := l4.symm
  subst l4 y4 z4
  obtain ⟨rfl, rfl, e4⟩ := hQ4
  simp only [List.append_nil, Nat.add_zero] at X4
  have G4 := gd X4 hx hby
  obtain ⟨_, _, ⟨T5, L5, k5, n5⟩, -, X5, ⟨Lc5, hQ5, l5, y5, z5⟩, st5⟩ := Jvm.LawKit.callS X4 hx (y := (⟨"java/lang/Integer", "bitCount", "(I)I"⟩ : MethodName)) hown (mvT hZ (wd hw 36 rfl)) (mvT hZ (wd hw 37 rfl)) (mvT hZ (wd hw 38 rfl)) (mvT hZ (wd hw 39 rfl)) (by decide) (backOf (W := 0) (rm8_4 l Z a0 hw []  h0 n0 Z0 ) hZ (wd hw 39 rfl) (wd hw 38 rfl) (by decide) (by decide)) (g := (mkF m 27 #[iv (7 : Int32), iv (0 : Int32), rv o2, rv o3, iv (7 : Int32), lv (rv10 (rv10 (0 : Int64) h6_) h5_), .second, iv (4 : Int32), iv (4 : Int32)] [(.int (4 : Int32))])) rfl (by rw [hml]; rfl) (argsL := [(.int (4 : Int32))]) (rest := []) (lenOf pd_0 rfl) rfl (by show 2 * 0 + _ ≤ _; exact Nat.le_of_eq rfl) (hb hby d9_27) (fun _ _ => ⟨rfl, e4, (by decide : 0 + 0 ≤ _), (by decide : 0 + 0 ≤ _)⟩)
  dsimp only [Pt.U, Pt.locs, Pt.cells, Pt.slots] at X5 l5 y5 z5 st5 hQ5
  replace l5 : ([] ++ Lc5) = L5 := l5.symm
  subst l5 y5 z5
  obtain ⟨rfl, rfl, e5⟩ := hQ5
  simp only [List.append_nil, Nat.add_zero] at X5
  have G5 := gd X5 hx hby
  obtain ⟨_, _, ⟨T6, L6, k6, n6⟩, -, X6, ⟨Lc6, hQ6, l6, y6, z6⟩, st6⟩ := Jvm.LawKit.callS X5 hx (y := (⟨"java/lang/Math", "subtractExact", "(JJ)J"⟩ : MethodName)) hown (mvT hZ (wd hw 51 rfl)) (mvT hZ (wd hw 52 rfl)) (mvT hZ (wd hw 9 rfl)) (mvT hZ (wd hw 53 rfl)) (by decide) (backOf (W := 0) (rm11 l Z a0 hw [] ((rv10 (rv10 (0 : Int64) h6_) h5_)) l4_ h0 n0 Z0 (own_rm9_0_hp_hin_53 o2 o3 l0_ l1_ l2_ l3_ l4_ l5_ l6_ l7_ h0_ h1_ h2_ h3_ h4_ h5_ h6_ h7_ k1 k2 hlq hhq)) hZ (wd hw 53 rfl) (wd hw 9 rfl) (by decide) (by decide)) (g := (mkF m 53 #[iv (7 : Int32), iv (0 : Int32), rv o2, rv o3, iv (7 : Int32), lv (rv10 (rv10 (0 : Int64) h6_) h5_), .second, iv (4 : Int32), iv (4 : Int32)] [(.long l4_), (.long (rv10 (rv10 (0 : Int64) h6_) h5_))])) rfl (by rw [hml]; rfl) (argsL := [(.long (rv10 (rv10 (0 : Int64) h6_) h5_)), (.long l4_)]) (rest := []) (lenOf pd_1 rfl) rfl (by show 2 * 0 + _ ≤ _; exact Nat.le_of_eq rfl) (hb hby d9_53) (fun _ _ => ⟨rfl, e5, (by decide : 0 + 0 ≤ _), (by decide : 0 + 0 ≤ _)⟩)
  dsimp only [Pt.U, Pt.locs, Pt.cells, Pt.slots] at X6 l6 y6 z6 st6 hQ6
  replace l6 : ([] ++ Lc6) = L6 := l6.symm
  subst l6 y6 z6
  obtain ⟨rfl, rfl, e6⟩ := hQ6
  simp only [List.append_nil, Nat.add_zero] at X6
  have G6 := gd X6 hx hby
  obtain ⟨_, _, ⟨T7, L7, k7, n7⟩, -, X7, ⟨Lc7, hQ7, l7, y7, z7⟩, st7⟩ := Jvm.LawKit.callS X6 hx (y := (⟨"java/lang/Integer", "bitCount", "(I)I"⟩ : MethodName)) hown (mvT hZ (wd hw 36 rfl)) (mvT hZ (wd hw 37 rfl)) (mvT hZ (wd hw 38 rfl)) (mvT hZ (wd hw 39 rfl)) (by decide) (backOf (W := 0) (rm8_3 l Z a0 hw []  h0 n0 Z0 ) hZ (wd hw 39 rfl) (wd hw 38 rfl) (by decide) (by decide)) (g := (mkF m 27 #[iv (7 : Int32), iv (0 : Int32), rv o2, rv o3, iv (7 : Int32), lv (rv11 (rv10 (rv10 (0 : Int64) h6_) h5_) l4_), .second, iv (3 : Int32), iv (3 : Int32)] [(.int (3 : Int32))])) rfl (by rw [hml]; rfl) (argsL := [(.int (3 : Int32))]) (rest := []) (lenOf pd_0 rfl) rfl (by show 2 * 0 + _ ≤ _; exact Nat.le_of_eq rfl) (hb hby d9_27) (fun _ _ => ⟨rfl, e6, (by decide : 0 + 0 ≤ _), (by decide : 0 + 0 ≤ _)⟩)
  dsimp only [Pt.U, Pt.locs, Pt.cells, Pt.slots] at X7 l7 y7 z7 st7 hQ7
  replace l7 : ([] ++ Lc7) = L7 := l7.symm
  subst l7 y7 z7
  obtain ⟨rfl, rfl, e7⟩ := hQ7
  simp only [List.append_nil, Nat.add_zero] at X7
  have G7 := gd X7 hx hby
  obtain ⟨_, _, ⟨T8, L8, k8, n8⟩, -, X8, ⟨Lc8, hQ8, l8, y8, z8⟩, st8⟩ := Jvm.LawKit.callS X7 hx (y := (⟨"java/lang/Math", "addExact", "(JJ)J"⟩ : MethodName)) hown (mvT hZ (wd hw 47 rfl)) (mvT hZ (wd hw 48 rfl)) (mvT hZ (wd hw 9 rfl)) (mvT hZ (wd hw 49 rfl)) (by decide) (backOf (W := 0) (rm10 l Z a0 hw [] ((rv11 (rv10 (rv10 (0 : Int64) h6_) h5_) l4_)) h3_ h0 n0 Z0 (own_rm9_0_hp_hin_41_2 o2 o3 l0_ l1_ l2_ l3_ l4_ l5_ l6_ l7_ h0_ h1_ h2_ h3_ h4_ h5_ h6_ h7_ k1 k2 hlq hhq)) hZ (wd hw 49 rfl) (wd hw 9 rfl) (by decide) (by decide)) (g := (mkF m 41 #[iv (7 : Int32), iv (0 : Int32), rv o2, rv o3, iv (7 : Int32), lv (rv11 (rv10 (rv10 (0 : Int64) h6_) h5_) l4_), .second, iv (3 : Int32), iv (3 : Int32)] [(.long h3_), (.long (rv11 (rv10 (rv10 (0 : Int64) h6_) h5_) l4_))])) rfl (by rw [hml]; rfl) (argsL := [(.long (rv11 (rv10 (rv10 (0 : Int64) h6_) h5_) l4_)), (.long h3_)]) (rest := []) (lenOf pd_1 rfl) rfl (by show 2 * 0 + _ ≤ _; exact Nat.le_of_eq rfl) (hb hby d9_41) (fun _ _ => ⟨rfl, e7, (by decide : 0 + 0 ≤ _), (by decide : 0 + 0 ≤ _)⟩)
  dsimp only [Pt.U, Pt.locs, Pt.cells, Pt.slots] at X8 l8 y8 z8 st8 hQ8
  replace l8 : ([] ++ Lc8) = L8 := l8.symm
  subst l8 y8 z8
  obtain ⟨rfl, rfl, e8⟩ := hQ8
  simp only [List.append_nil, Nat.add_zero] at X8
  have G8 := gd X8 hx hby
  obtain ⟨_, _, ⟨T9, L9, k9, n9⟩, -, X9, ⟨Lc9, hQ9, l9, y9, z9⟩, st9⟩ := Jvm.LawKit.callS X8 hx (y := (⟨"java/lang/Integer", "bitCount", "(I)I"⟩ : MethodName)) hown (mvT hZ (wd hw 36 rfl)) (mvT hZ (wd hw 37 rfl)) (mvT hZ (wd hw 38 rfl)) (mvT hZ (wd hw 39 rfl)) (by decide) (backOf (W := 0) (rm8_2 l Z a0 hw []  h0 n0 Z0 ) hZ (wd hw 39 rfl) (wd hw 38 rfl) (by decide) (by decide)) (g := (mkF m 27 #[iv (7 : Int32), iv (0 : Int32), rv o2, rv o3, iv (7 : Int32), lv (rv10 (rv11 (rv10 (rv10 (0 : Int64) h6_) h5_) l4_) h3_), .second, iv (2 : Int32), iv (2 : Int32)] [(.int (2 : Int32))])) rfl (by rw [hml]; rfl) (argsL := [(.int (2 : Int32))]) (rest := []) (lenOf pd_0 rfl) rfl (by show 2 * 0 + _ ≤ _; exact Nat.le_of_eq rfl) (hb hby d9_27) (fun _ _ => ⟨rfl, e8, (by decide : 0 + 0 ≤ _), (by decide : 0 + 0 ≤ _)⟩)
  dsimp only [Pt.U, Pt.locs, Pt.cells, Pt.slots] at X9 l9 y9 z9 st9 hQ9
  replace l9 : ([] ++ Lc9) = L9 := l9.symm
  subst l9 y9 z9
  obtain ⟨rfl, rfl, e9⟩ := hQ9
  simp only [List.append_nil, Nat.add_zero] at X9
  have G9 := gd X9 hx hby
  obtain ⟨_, _, ⟨T10, L10, k10, n10⟩, -, X10, ⟨Lc10, hQ10, l10, y10, z10⟩, st10⟩ := Jvm.LawKit.callS X9 hx (y := (⟨"java/lang/Math", "subtractExact", "(JJ)J"⟩ : MethodName)) hown (mvT hZ (wd hw 51 rfl)) (mvT hZ (wd hw 52 rfl)) (mvT hZ (wd hw 9 rfl)) (mvT hZ (wd hw 53 rfl)) (by decide) (backOf (W := 0) (rm11 l Z a0 hw [] ((rv10 (rv11 (rv10 (rv10 (0 : Int64) h6_) h5_) l4_) h3_)) l2_ h0 n0 Z0 (own_rm9_0_hp_hin_53_1 o2 o3 l0_ l1_ l2_ l3_ l4_ l5_ l6_ l7_ h0_ h1_ h2_ h3_ h4_ h5_ h6_ h7_ k1 k2 hlq hhq)) hZ (wd hw 53 rfl) (wd hw 9 rfl) (by decide) (by decide)) (g := (mkF m 53 #[iv (7 : Int32), iv (0 : Int32), rv o2, rv o3, iv (7 : Int32), lv (rv10 (rv11 (rv10 (rv10 (0 : Int64) h6_) h5_) l4_) h3_), .second, iv (2 : Int32), iv (2 : Int32)] [(.long l2_), (.long (rv10 (rv11 (rv10 (rv10 (0 : Int64) h6_) h5_) l4_) h3_))])) rfl (by rw [hml]; rfl) (argsL := [(.long (rv10 (rv11 (rv10 (rv10 (0 : Int64) h6_) h5_) l4_) h3_)), (.long l2_)]) (rest := []) (lenOf pd_1 rfl) rfl (by show 2 * 0 + _ ≤ _; exact Nat.le_of_eq rfl) (hb hby d9_53) (fun _ _ => ⟨rfl, e9, (by decide : 0 + 0 ≤ _), (by decide : 0 + 0 ≤ _)⟩)
  dsimp only [Pt.U, Pt.locs, Pt.cells, Pt.slots] at X10 l10 y10 z10 st10 hQ10
  replace l10 : ([] ++ Lc10) = L10 := l10.symm
  subst l10 y10 z10
  obtain ⟨rfl, rfl, e10⟩ := hQ10
  simp only [List.append_nil, Nat.add_zero] at X10
  have G10 := gd X10 hx hby
  obtain ⟨_, _, ⟨T11, L11, k11, n11⟩, -, X11, ⟨Lc11, hQ11, l11, y11, z11⟩, st11⟩ := Jvm.LawKit.callS X10 hx (y := (⟨"java/lang/Integer", "bitCount", "(I)I"⟩ : MethodName)) hown (mvT hZ (wd hw 36 rfl)) (mvT hZ (wd hw 37 rfl)) (mvT hZ (wd hw 38 rfl)) (mvT hZ (wd hw 39 rfl)) (by decide) (backOf (W := 0) (rm8_1 l Z a0 hw []  h0 n0 Z0 ) hZ (wd hw 39 rfl) (wd hw 38 rfl) (by decide) (by decide)) (g := (mkF m 27 #[iv (7 : Int32), iv (0 : Int32), rv o2, rv o3, iv (7 : Int32), lv (rv11 (rv10 (rv11 (rv10 (rv10 (0 : Int64) h6_) h5_) l4_) h3_) l2_), .second, iv (1 : Int32), iv (1 : Int32)] [(.int (1 : Int32))])) rfl (by rw [hml]; rfl) (argsL := [(.int (1 : Int32))]) (rest := []) (lenOf pd_0 rfl) rfl (by show 2 * 0 + _ ≤ _; exact Nat.le_of_eq rfl) (hb hby d9_27) (fun _ _ => ⟨rfl, e10, (by decide : 0 + 0 ≤ _), (by decide : 0 + 0 ≤ _)⟩)
  dsimp only [Pt.U, Pt.locs, Pt.cells, Pt.slots] at X11 l11 y11 z11 st11 hQ11
  replace l11 : ([] ++ Lc11) = L11 := l11.symm
  subst l11 y11 z11
  obtain ⟨rfl, rfl, e11⟩ := hQ11
  simp only [List.append_nil, Nat.add_zero] at X11
  have G11 := gd X11 hx hby
  obtain ⟨_, _, ⟨T12, L12, k12, n12⟩, -, X12, ⟨Lc12, hQ12, l12, y12, z12⟩, st12⟩ := Jvm.LawKit.callS X11 hx (y := (⟨"java/lang/Math", "subtractExact", "(JJ)J"⟩ : MethodName)) hown (mvT hZ (wd hw 51 rfl)) (mvT hZ (wd hw 52 rfl)) (mvT hZ (wd hw 9 rfl)) (mvT hZ (wd hw 53 rfl)) (by decide) (backOf (W := 0) (rm11 l Z a0 hw [] ((rv11 (rv10 (rv11 (rv10 (rv10 (0 : Int64) h6_) h5_) l4_) h3_) l2_)) l1_ h0 n0 Z0 (own_rm9_0_hp_hin_53_2 o2 o3 l0_ l1_ l2_ l3_ l4_ l5_ l6_ l7_ h0_ h1_ h2_ h3_ h4_ h5_ h6_ h7_ k1 k2 hlq hhq)) hZ (wd hw 53 rfl) (wd hw 9 rfl) (by decide) (by decide)) (g := (mkF m 53 #[iv (7 : Int32), iv (0 : Int32), rv o2, rv o3, iv (7 : Int32), lv (rv11 (rv10 (rv11 (rv10 (rv10 (0 : Int64) h6_) h5_) l4_) h3_) l2_), .second, iv (1 : Int32), iv (1 : Int32)] [(.long l1_), (.long (rv11 (rv10 (rv11 (rv10 (rv10 (0 : Int64) h6_) h5_) l4_) h3_) l2_))])) rfl (by rw [hml]; rfl) (argsL := [(.long (rv11 (rv10 (rv11 (rv10 (rv10 (0 : Int64) h6_) h5_) l4_) h3_) l2_)), (.long l1_)]) (rest := []) (lenOf pd_1 rfl) rfl (by show 2 * 0 + _ ≤ _; exact Nat.le_of_eq rfl) (hb hby d9_53) (fun _ _ => ⟨rfl, e11, (by decide : 0 + 0 ≤ _), (by decide : 0 + 0 ≤ _)⟩)
  dsimp only [Pt.U, Pt.locs, Pt.cells, Pt.slots] at X12 l12 y12 z12 st12 hQ12
  replace l12 : ([] ++ Lc12) = L12 := l12.symm
  subst l12 y12 z12
  obtain ⟨rfl, rfl, e12⟩ := hQ12
  simp only [List.append_nil, Nat.add_zero] at X12
  have G12 := gd X12 hx hby
  obtain ⟨_, _, ⟨T13, L13, k13, n13⟩, -, X13, ⟨Lc13, hQ13, l13, y13, z13⟩, st13⟩ := Jvm.LawKit.callS X12 hx (y := (⟨"java/lang/Integer", "bitCount", "(I)I"⟩ : MethodName)) hown (mvT hZ (wd hw 36 rfl)) (mvT hZ (wd hw 37 rfl)) (mvT hZ (wd hw 38 rfl)) (mvT hZ (wd hw 39 rfl)) (by decide) (backOf (W := 0) (rm8_0 l Z a0 hw []  h0 n0 Z0 ) hZ (wd hw 39 rfl) (wd hw 38 rfl) (by decide) (by decide)) (g := (mkF m 27 #[iv (7 : Int32), iv (0 : Int32), rv o2, rv o3, iv (7 : Int32), lv (rv11 (rv11 (rv10 (rv11 (rv10 (rv10 (0 : Int64) h6_) h5_) l4_) h3_) l2_) l1_), .second, iv (0 : Int32), iv (0 : Int32)] [(.int (0 : Int32))])) rfl (by rw [hml]; rfl) (argsL := [(.int (0 : Int32))]) (rest := []) (lenOf pd_0 rfl) rfl (by show 2 * 0 + _ ≤ _; exact Nat.le_of_eq rfl) (hb hby d9_27) (fun _ _ => ⟨rfl, e12, (by decide : 0 + 0 ≤ _), (by decide : 0 + 0 ≤ _)⟩)
  dsimp only [Pt.U, Pt.locs, Pt.cells, Pt.slots] at X13 l13 y13 z13 st13 hQ13
  replace l13 : ([] ++ Lc13) = L13 := l13.symm
  subst l13 y13 z13
  obtain ⟨rfl, rfl, e13⟩ := hQ13
  simp only [List.append_nil, Nat.add_zero] at X13
  have G13 := gd X13 hx hby
  obtain ⟨_, _, ⟨T14, L14, k14, n14⟩, -, X14, ⟨Lc14, hQ14, l14, y14, z14⟩, st14⟩ := Jvm.LawKit.callS X13 hx (y := (⟨"java/lang/Math", "addExact", "(JJ)J"⟩ : MethodName)) hown (mvT hZ (wd hw 47 rfl)) (mvT hZ (wd hw 48 rfl)) (mvT hZ (wd hw 9 rfl)) (mvT hZ (wd hw 49 rfl)) (by decide) (backOf (W := 0) (rm10 l Z a0 hw [] ((rv11 (rv11 (rv10 (rv11 (rv10 (rv10 (0 : Int64) h6_) h5_) l4_) h3_) l2_) l1_)) h0_ h0 n0 Z0 (own_rm9_0_hp_hin_41_3 o2 o3 l0_ l1_ l2_ l3_ l4_ l5_ l6_ l7_ h0_ h1_ h2_ h3_ h4_ h5_ h6_ h7_ k1 k2 hlq hhq)) hZ (wd hw 49 rfl) (wd hw 9 rfl) (by decide) (by decide)) (g := (mkF m 41 #[iv (7 : Int32), iv (0 : Int32), rv o2, rv o3, iv (7 : Int32), lv (rv11 (rv11 (rv10 (rv11 (rv10 (rv10 (0 : Int64) h6_) h5_) l4_) h3_) l2_) l1_), .second, iv (0 : Int32), iv (0 : Int32)] [(.long h0_), (.long (rv11 (rv11 (rv10 (rv11 (rv10 (rv10 (0 : Int64) h6_) h5_) l4_) h3_) l2_) l1_))])) rfl (by rw [hml]; rfl) (argsL := [(.long (rv11 (rv11 (rv10 (rv11 (rv10 (rv10 (0 : Int64) h6_) h5_) l4_) h3_) l2_) l1_)), (.long h0_)]) (rest := []) (lenOf pd_1 rfl) rfl (by show 2 * 0 + _ ≤ _; exact Nat.le_of_eq rfl) (hb hby d9_41) (fun _ _ => ⟨rfl, e13, (by decide : 0 + 0 ≤ _), (by decide : 0 + 0 ≤ _)⟩)
  dsimp only [Pt.U, Pt.locs, Pt.cells, Pt.slots] at X14 l14 y14 z14 st14 hQ14
  replace l14 : ([] ++ Lc14) = L14 := l14.symm
  subst l14 y14 z14
  obtain ⟨rfl, rfl, e14⟩ := hQ14
  simp only [List.append_nil, Nat.add_zero] at X14
  have G14 := gd X14 hx hby
  obtain ⟨fs, hr, hrun, hended, hW, hsame⟩ := X14.leave (v := some (.long (rv10 (rv11 (rv11 (rv10 (rv11 (rv10 (rv10 (0 : Int64) h6_) h5_) l4_) h3_) l2_) l1_) h0_))) (fun h => by rw [Bd.returns] at h; cases h)
  refine ⟨_, _, pre0 _ ?_, hrun, hended, _, _, rfl, ?_, ⟨_, rfl⟩, hW, hsame.mono (by decide) (by decide)⟩
  · show Steps p.tables e below (s₁.setTop (mkF m 0 #[iv (7 : Int32), iv (0 : Int32), rv o2, rv o3, .unset, .unset, .unset, .unset, .unset] [])) _
    refine miloadN 1 G0 d9_0 rfl rfl ?_
    refine miloadN 2 G0 d9_1 rfl rfl ?_
    refine miconst 3 G0 d9_2 (v := (-1 : Int32)) rfl rfl ?_
    refine mixor 4 G0 d9_3 (v := (-1 : Int32)) rfl rfl ?_
    refine miand 5 G0 d9_4 (v := (7 : Int32)) rfl rfl ?_
    refine mistore 7 G0 d9_5 #[iv (7 : Int32), iv (0 : Int32), rv o2, rv o3, iv (7 : Int32), .unset, .unset, .unset, .unset] rfl rfl ?_
    refine mlconst 8 G0 d9_7 (v := (0 : Int64)) rfl rfl ?_
    refine mlstore 10 G0 d9_8 #[iv (7 : Int32), iv (0 : Int32), rv o2, rv o3, iv (7 : Int32), lv (0 : Int64), .second, .unset, .unset] rfl rfl ?_
    refine miload 12 G0 d9_10 rfl rfl ?_
    refine miload 14 G0 d9_12 rfl rfl ?_
    refine miconst 15 G0 d9_14 (v := (1 : Int32)) rfl rfl ?_
    refine misub 16 G0 d9_15 (v := (6 : Int32)) rfl rfl ?_
    refine miand 17 G0 d9_16 (v := (6 : Int32)) rfl rfl ?_
    refine mistore 19 G0 d9_17 #[iv (7 : Int32), iv (0 : Int32), rv o2, rv o3, iv (7 : Int32), lv (0 : Int64), .second, iv (6 : Int32), .unset] rfl rfl ?_
    refine miloadN 20 G0 d9_19 rfl rfl ?_
    refine miload 22 G0 d9_20 rfl rfl ?_
    refine mior 23 G0 d9_22 (v := (6 : Int32)) rfl rfl ?_
    refine mistore 25 G0 d9_23 #[iv (7 : Int32), iv (0 : Int32), rv o2, rv o3, iv (7 : Int32), lv (0 : Int64), .second, iv (6 : Int32), iv (6 : Int32)] rfl rfl ?_
    refine miload 27 G0 d9_25 rfl rfl ?_
    refine st1 _ ?_
    show Steps p.tables e below (T1.setTop (mkF m 30 #[iv (7 : Int32), iv (0 : Int32), rv o2, rv o3, iv (7 : Int32), lv (0 : Int64), .second, iv (6 : Int32), iv (6 : Int32)] [(.int (2 : Int32))])) _
    refine miconst 31 G1 d9_30 (v := (2 : Int32)) rfl rfl ?_
    refine mirem 32 G1 d9_31 (by decide) (v := (0 : Int32)) rfl rfl ?_
    refine mifNo 35 G1 d9_32 ((if0 _ _).trans (teq (by decide : (0 : Int32) = (0 : Int32))).2) rfl ?_
    refine mlload 37 G1 d9_35 rfl rfl ?_
    refine maloadN 38 G1 d9_37 rfl rfl rfl ?_
    refine miload 40 G1 d9_38 rfl rfl ?_
    refine mlaload 41 X1 hx hby hZ e1 V_o3 (v := h6_) d9_40 ⟨by decide, by decide⟩ rfl rfl ?_
    refine st2 _ ?_
    show Steps p.tables e below (T2.setTop (mkF m 44 #[iv (7 : Int32), iv (0 : Int32), rv o2, rv o3, iv (7 : Int32), lv (0 : Int64), .second, iv (6 : Int32), iv (6 : Int32)] [(.long (rv10 (0 : Int64) h6_))])) _
    refine mgoto 56 G2 d9_44 (by decide) rfl ?_
    refine mlstore 58 G2 d9_56 #[iv (7 : Int32), iv (0 : Int32), rv o2, rv o3, iv (7 : Int32), lv (rv10 (0 : Int64) h6_), .second, iv (6 : Int32), iv (6 : Int32)] rfl rfl ?_
    refine miload 60 G2 d9_58 rfl rfl ?_
    refine mifYes 66 G2 d9_60 ((if0 _ _).trans (feq (by decide : ¬ ((6 : Int32) = (0 : Int32)))).2) (by decide) rfl ?_
    refine miload 68 G2 d9_66 rfl rfl ?_
    refine miconst 69 G2 d9_68 (v := (1 : Int32)) rfl rfl ?_
    refine misub 70 G2 d9_69 (v := (5 : Int32)) rfl rfl ?_
    refine miload 72 G2 d9_70 rfl rfl ?_
    refine miand 73 G2 d9_72 (v := (5 : Int32)) rfl rfl ?_
    refine mistore 75 G2 d9_73 #[iv (7 : Int32), iv (0 : Int32), rv o2, rv o3, iv (7 : Int32), lv (rv10 (0 : Int64) h6_), .second, iv (5 : Int32), iv (6 : Int32)] rfl rfl ?_
    refine mgoto 19 G2 d9_75 (by decide) rfl ?_
    refine miloadN 20 G2 d9_19 rfl rfl ?_
    refine miload 22 G2 d9_20 rfl rfl ?_
    refine mior 23 G2 d9_22 (v := (5 : Int32)) rfl rfl ?_
    refine mistore 25 G2 d9_23 #[iv (7 : Int32), iv (0 : Int32), rv o2, rv o3, iv (7 : Int32), lv (rv10 (0 : Int64) h6_), .second, iv (5 : Int32), iv (5 : Int32)] rfl rfl ?_
    refine miload 27 G2 d9_25 rfl rfl ?_
    refine st3 _ ?_
    show Steps p.tables e below (T3.setTop (mkF m 30 #[iv (7 : Int32), iv (0 : Int32), rv o2, rv o3, iv (7 : Int32), lv (rv10 (0 : Int64) h6_), .second, iv (5 : Int32), iv (5 : Int32)] [(.int (2 : Int32))])) _
    refine miconst 31 G3 d9_30 (v := (2 : Int32)) rfl rfl ?_
    refine mirem 32 G3 d9_31 (by decide) (v := (0 : Int32)) rfl rfl ?_
    refine mifNo 35 G3 d9_32 ((if0 _ _).trans (teq (by decide : (0 : Int32) = (0 : Int32))).2) rfl ?_
    refine mlload 37 G3 d9_35 rfl rfl ?_
    refine maloadN 38 G3 d9_37 rfl rfl rfl ?_
    refine miload 40 G3 d9_38 rfl rfl ?_
    refine mlaload 41 X3 hx hby hZ e3 V_o3 (v := h5_) d9_40 ⟨by decide, by decide⟩ rfl rfl ?_
    refine st4 _ ?_
    show Steps p.tables e below (T4.setTop (mkF m 44 #[iv (7 : Int32), iv (0 : Int32), rv o2, rv o3, iv (7 : Int32), lv (rv10 (0 : Int64) h6_), .second, iv (5 : Int32), iv (5 : Int32)] [(.long (rv10 (rv10 (0 : Int64) h6_) h5_))])) _
    refine mgoto 56 G4 d9_44 (by decide) rfl ?_
    refine mlstore 58 G4 d9_56 #[iv (7 : Int32), iv (0 : Int32), rv o2, rv o3, iv (7 : Int32), lv (rv10 (rv10 (0 : Int64) h6_) h5_), .second, iv (5 : Int32), iv (5 : Int32)] rfl rfl ?_
    refine miload 60 G4 d9_58 rfl rfl ?_
    refine mifYes 66 G4 d9_60 ((if0 _ _).trans (feq (by decide : ¬ ((5 : Int32) = (0 : Int32)))).2) (by decide) rfl ?_
    refine miload 68 G4 d9_66 rfl rfl ?_
    refine miconst 69 G4 d9_68 (v := (1 : Int32)) rfl rfl ?_
    refine misub 70 G4 d9_69 (v := (4 : Int32)) rfl rfl ?_
    refine miload 72 G4 d9_70 rfl rfl ?_
    refine miand 73 G4 d9_72 (v := (4 : Int32)) rfl rfl ?_
    refine mistore 75 G4 d9_73 #[iv (7 : Int32), iv (0 : Int32), rv o2, rv o3, iv (7 : Int32), lv (rv10 (rv10 (0 : Int64) h6_) h5_), .second, iv (4 : Int32), iv (5 : Int32)] rfl rfl ?_
    refine mgoto 19 G4 d9_75 (by decide) rfl ?_
    refine miloadN 20 G4 d9_19 rfl rfl ?_
    refine miload 22 G4 d9_20 rfl rfl ?_
    refine mior 23 G4 d9_22 (v := (4 : Int32)) rfl rfl ?_
    refine mistore 25 G4 d9_23 #[iv (7 : Int32), iv (0 : Int32), rv o2, rv o3, iv (7 : Int32), lv (rv10 (rv10 (0 : Int64) h6_) h5_), .second, iv (4 : Int32), iv (4 : Int32)] rfl rfl ?_
    refine miload 27 G4 d9_25 rfl rfl ?_
    refine st5 _ ?_
    show Steps p.tables e below (T5.setTop (mkF m 30 #[iv (7 : Int32), iv (0 : Int32), rv o2, rv o3, iv (7 : Int32), lv (rv10 (rv10 (0 : Int64) h6_) h5_), .second, iv (4 : Int32), iv (4 : Int32)] [(.int (1 : Int32))])) _
    refine miconst 31 G5 d9_30 (v := (2 : Int32)) rfl rfl ?_
    refine mirem 32 G5 d9_31 (by decide) (v := (1 : Int32)) rfl rfl ?_
    refine mifYes 47 G5 d9_32 ((if0 _ _).trans (feq (by decide : ¬ ((1 : Int32) = (0 : Int32)))).2) (by decide) rfl ?_
    refine mlload 49 G5 d9_47 rfl rfl ?_
    refine maloadN 50 G5 d9_49 rfl rfl rfl ?_
    refine miload 52 G5 d9_50 rfl rfl ?_
    refine mlaload 53 X5 hx hby hZ e5 V_o2 (v := l4_) d9_52 ⟨by decide, by decide⟩ rfl rfl ?_
    refine st6 _ ?_
    show Steps p.tables e below (T6.setTop (mkF m 56 #[iv (7 : Int32), iv (0 : Int32), rv o2, rv o3, iv (7 : Int32), lv (rv10 (rv10 (0 : Int64) h6_) h5_), .second, iv (4 : Int32), iv (4 : Int32)] [(.long (rv11 (rv10 (rv10 (0 : Int64) h6_) h5_) l4_))])) _
    refine mlstore 58 G6 d9_56 #[iv (7 : Int32), iv (0 : Int32), rv o2, rv o3, iv (7 : Int32), lv (rv11 (rv10 (rv10 (0 : Int64) h6_) h5_) l4_), .second, iv (4 : Int32), iv (4 : Int32)] rfl rfl ?_
    refine miload 60 G6 d9_58 rfl rfl ?_
    refine mifYes 66 G6 d9_60 ((if0 _ _).trans (feq (by decide : ¬ ((4 : Int32) = (0 : Int32)))).2) (by decide) rfl ?_
    refine miload 68 G6 d9_66 rfl rfl ?_
    refine miconst 69 G6 d9_68 (v := (1 : Int32)) rfl rfl ?_
    refine misub 70 G6 d9_69 (v := (3 : Int32)) rfl rfl ?_
    refine miload 72 G6 d9_70 rfl rfl ?_
    refine miand 73 G6 d9_72 (v := (3 : Int32)) rfl rfl ?_
    refine mistore 75 G6 d9_73 #[iv (7 : Int32), iv (0 : Int32), rv o2, rv o3, iv (7 : Int32), lv (rv11 (rv10 (rv10 (0 : Int64) h6_) h5_) l4_), .second, iv (3 : Int32), iv (4 : Int32)] rfl rfl ?_
    refine mgoto 19 G6 d9_75 (by decide) rfl ?_
    refine miloadN 20 G6 d9_19 rfl rfl ?_
    refine miload 22 G6 d9_20 rfl rfl ?_
    refine mior 23 G6 d9_22 (v := (3 : Int32)) rfl rfl ?_
    refine mistore 25 G6 d9_23 #[iv (7 : Int32), iv (0 : Int32), rv o2, rv o3, iv (7 : Int32), lv (rv11 (rv10 (rv10 (0 : Int64) h6_) h5_) l4_), .second, iv (3 : Int32), iv (3 : Int32)] rfl rfl ?_
    refine miload 27 G6 d9_25 rfl rfl ?_
    refine st7 _ ?_
    show Steps p.tables e below (T7.setTop (mkF m 30 #[iv (7 : Int32), iv (0 : Int32), rv o2, rv o3, iv (7 : Int32), lv (rv11 (rv10 (rv10 (0 : Int64) h6_) h5_) l4_), .second, iv (3 : Int32), iv (3 : Int32)] [(.int (2 : Int32))])) _
    refine miconst 31 G7 d9_30 (v := (2 : Int32)) rfl rfl ?_
    refine mirem 32 G7 d9_31 (by decide) (v := (0 : Int32)) rfl rfl ?_
    refine mifNo 35 G7 d9_32 ((if0 _ _).trans (teq (by decide : (0 : Int32) = (0 : Int32))).2) rfl ?_
    refine mlload 37 G7 d9_35 rfl rfl ?_
    refine maloadN 38 G7 d9_37 rfl rfl rfl ?_
    refine miload 40 G7 d9_38 rfl rfl ?_
    refine mlaload 41 X7 hx hby hZ e7 V_o3 (v := h3_) d9_40 ⟨by decide, by decide⟩ rfl rfl ?_
    refine st8 _ ?_
    show Steps p.tables e below (T8.setTop (mkF m 44 #[iv (7 : Int32), iv (0 : Int32), rv o2, rv o3, iv (7 : Int32), lv (rv11 (rv10 (rv10 (0 : Int64) h6_) h5_) l4_), .second, iv (3 : Int32), iv (3 : Int32)] [(.long (rv10 (rv11 (rv10 (rv10 (0 : Int64) h6_) h5_) l4_) h3_))])) _
    refine mgoto 56 G8 d9_44 (by decide) rfl ?_
    refine mlstore 58 G8 d9_56 #[iv (7 : Int32), iv (0 : Int32), rv o2, rv o3, iv (7 : Int32), lv (rv10 (rv11 (rv10 (rv10 (0 : Int64) h6_) h5_) l4_) h3_), .second, iv (3 : Int32), iv (3 : Int32)] rfl rfl ?_
    refine miload 60 G8 d9_58 rfl rfl ?_
    refine mifYes 66 G8 d9_60 ((if0 _ _).trans (feq (by decide : ¬ ((3 : Int32) = (0 : Int32)))).2) (by decide) rfl ?_
    refine miload 68 G8 d9_66 rfl rfl ?_
    refine miconst 69 G8 d9_68 (v := (1 : Int32)) rfl rfl ?_
    refine misub 70 G8 d9_69 (v := (2 : Int32)) rfl rfl ?_
    refine miload 72 G8 d9_70 rfl rfl ?_
    refine miand 73 G8 d9_72 (v := (2 : Int32)) rfl rfl ?_
    refine mistore 75 G8 d9_73 #[iv (7 : Int32), iv (0 : Int32), rv o2, rv o3, iv (7 : Int32), lv (rv10 (rv11 (rv10 (rv10 (0 : Int64) h6_) h5_) l4_) h3_), .second, iv (2 : Int32), iv (3 : Int32)] rfl rfl ?_
    refine mgoto 19 G8 d9_75 (by decide) rfl ?_
    refine miloadN 20 G8 d9_19 rfl rfl ?_
    refine miload 22 G8 d9_20 rfl rfl ?_
    refine mior 23 G8 d9_22 (v := (2 : Int32)) rfl rfl ?_
    refine mistore 25 G8 d9_23 #[iv (7 : Int32), iv (0 : Int32), rv o2, rv o3, iv (7 : Int32), lv (rv10 (rv11 (rv10 (rv10 (0 : Int64) h6_) h5_) l4_) h3_), .second, iv (2 : Int32), iv (2 : Int32)] rfl rfl ?_
    refine miload 27 G8 d9_25 rfl rfl ?_
    refine st9 _ ?_
    show Steps p.tables e below (T9.setTop (mkF m 30 #[iv (7 : Int32), iv (0 : Int32), rv o2, rv o3, iv (7 : Int32), lv (rv10 (rv11 (rv10 (rv10 (0 : Int64) h6_) h5_) l4_) h3_), .second, iv (2 : Int32), iv (2 : Int32)] [(.int (1 : Int32))])) _
    refine miconst 31 G9 d9_30 (v := (2 : Int32)) rfl rfl ?_
    refine mirem 32 G9 d9_31 (by decide) (v := (1 : Int32)) rfl rfl ?_
    refine mifYes 47 G9 d9_32 ((if0 _ _).trans (feq (by decide : ¬ ((1 : Int32) = (0 : Int32)))).2) (by decide) rfl ?_
    refine mlload 49 G9 d9_47 rfl rfl ?_
    refine maloadN 50 G9 d9_49 rfl rfl rfl ?_
    refine miload 52 G9 d9_50 rfl rfl ?_
    refine mlaload 53 X9 hx hby hZ e9 V_o2 (v := l2_) d9_52 ⟨by decide, by decide⟩ rfl rfl ?_
    refine st10 _ ?_
    show Steps p.tables e below (T10.setTop (mkF m 56 #[iv (7 : Int32), iv (0 : Int32), rv o2, rv o3, iv (7 : Int32), lv (rv10 (rv11 (rv10 (rv10 (0 : Int64) h6_) h5_) l4_) h3_), .second, iv (2 : Int32), iv (2 : Int32)] [(.long (rv11 (rv10 (rv11 (rv10 (rv10 (0 : Int64) h6_) h5_) l4_) h3_) l2_))])) _
    refine mlstore 58 G10 d9_56 #[iv (7 : Int32), iv (0 : Int32), rv o2, rv o3, iv (7 : Int32), lv (rv11 (rv10 (rv11 (rv10 (rv10 (0 : Int64) h6_) h5_) l4_) h3_) l2_), .second, iv (2 : Int32), iv (2 : Int32)] rfl rfl ?_
    refine miload 60 G10 d9_58 rfl rfl ?_
    refine mifYes 66 G10 d9_60 ((if0 _ _).trans (feq (by decide : ¬ ((2 : Int32) = (0 : Int32)))).2) (by decide) rfl ?_
    refine miload 68 G10 d9_66 rfl rfl ?_
    refine miconst 69 G10 d9_68 (v := (1 : Int32)) rfl rfl ?_
    refine misub 70 G10 d9_69 (v := (1 : Int32)) rfl rfl ?_
    refine miload 72 G10 d9_70 rfl rfl ?_
    refine miand 73 G10 d9_72 (v := (1 : Int32)) rfl rfl ?_
    refine mistore 75 G10 d9_73 #[iv (7 : Int32), iv (0 : Int32), rv o2, rv o3, iv (7 : Int32), lv (rv11 (rv10 (rv11 (rv10 (rv10 (0 : Int64) h6_) h5_) l4_) h3_) l2_), .second, iv (1 : Int32), iv (2 : Int32)] rfl rfl ?_
    refine mgoto 19 G10 d9_75 (by decide) rfl ?_
    refine miloadN 20 G10 d9_19 rfl rfl ?_
    refine miload 22 G10 d9_20 rfl rfl ?_
    refine mior 23 G10 d9_22 (v := (1 : Int32)) rfl rfl ?_
    refine mistore 25 G10 d9_23 #[iv (7 : Int32), iv (0 : Int32), rv o2, rv o3, iv (7 : Int32), lv (rv11 (rv10 (rv11 (rv10 (rv10 (0 : Int64) h6_) h5_) l4_) h3_) l2_), .second, iv (1 : Int32), iv (1 : Int32)] rfl rfl ?_
    refine miload 27 G10 d9_25 rfl rfl ?_
    refine st11 _ ?_
    show Steps p.tables e below (T11.setTop (mkF m 30 #[iv (7 : Int32), iv (0 : Int32), rv o2, rv o3, iv (7 : Int32), lv (rv11 (rv10 (rv11 (rv10 (rv10 (0 : Int64) h6_) h5_) l4_) h3_) l2_), .second, iv (1 : Int32), iv (1 : Int32)] [(.int (1 : Int32))])) _
    refine miconst 31 G11 d9_30 (v := (2 : Int32)) rfl rfl ?_
    refine mirem 32 G11 d9_31 (by decide) (v := (1 : Int32)) rfl rfl ?_
    refine mifYes 47 G11 d9_32 ((if0 _ _).trans (feq (by decide : ¬ ((1 : Int32) = (0 : Int32)))).2) (by decide) rfl ?_
    refine mlload 49 G11 d9_47 rfl rfl ?_
    refine maloadN 50 G11 d9_49 rfl rfl rfl ?_
    refine miload 52 G11 d9_50 rfl rfl ?_
    refine mlaload 53 X11 hx hby hZ e11 V_o2 (v := l1_) d9_52 ⟨by decide, by decide⟩ rfl rfl ?_
    refine st12 _ ?_
    show Steps p.tables e below (T12.setTop (mkF m 56 #[iv (7 : Int32), iv (0 : Int32), rv o2, rv o3, iv (7 : Int32), lv (rv11 (rv10 (rv11 (rv10 (rv10 (0 : Int64) h6_) h5_) l4_) h3_) l2_), .second, iv (1 : Int32), iv (1 : Int32)] [(.long (rv11 (rv11 (rv10 (rv11 (rv10 (rv10 (0 : Int64) h6_) h5_) l4_) h3_) l2_) l1_))])) _
    refine mlstore 58 G12 d9_56 #[iv (7 : Int32), iv (0 : Int32), rv o2, rv o3, iv (7 : Int32), lv (rv11 (rv11 (rv10 (rv11 (rv10 (rv10 (0 : Int64) h6_) h5_) l4_) h3_) l2_) l1_), .second, iv (1 : Int32), iv (1 : Int32)] rfl rfl ?_
    refine miload 60 G12 d9_58 rfl rfl ?_
    refine mifYes 66 G12 d9_60 ((if0 _ _).trans (feq (by decide : ¬ ((1 : Int32) = (0 : Int32)))).2) (by decide) rfl ?_
    refine miload 68 G12 d9_66 rfl rfl ?_
    refine miconst 69 G12 d9_68 (v := (1 : Int32)) rfl rfl ?_
    refine misub 70 G12 d9_69 (v := (0 : Int32)) rfl rfl ?_
    refine miload 72 G12 d9_70 rfl rfl ?_
    refine miand 73 G12 d9_72 (v := (0 : Int32)) rfl rfl ?_
    refine mistore 75 G12 d9_73 #[iv (7 : Int32), iv (0 : Int32), rv o2, rv o3, iv (7 : Int32), lv (rv11 (rv11 (rv10 (rv11 (rv10 (rv10 (0 : Int64) h6_) h5_) l4_) h3_) l2_) l1_), .second, iv (0 : Int32), iv (1 : Int32)] rfl rfl ?_
    refine mgoto 19 G12 d9_75 (by decide) rfl ?_
    refine miloadN 20 G12 d9_19 rfl rfl ?_
    refine miload 22 G12 d9_20 rfl rfl ?_
    refine mior 23 G12 d9_22 (v := (0 : Int32)) rfl rfl ?_
    refine mistore 25 G12 d9_23 #[iv (7 : Int32), iv (0 : Int32), rv o2, rv o3, iv (7 : Int32), lv (rv11 (rv11 (rv10 (rv11 (rv10 (rv10 (0 : Int64) h6_) h5_) l4_) h3_) l2_) l1_), .second, iv (0 : Int32), iv (0 : Int32)] rfl rfl ?_
    refine miload 27 G12 d9_25 rfl rfl ?_
    refine st13 _ ?_
    show Steps p.tables e below (T13.setTop (mkF m 30 #[iv (7 : Int32), iv (0 : Int32), rv o2, rv o3, iv (7 : Int32), lv (rv11 (rv11 (rv10 (rv11 (rv10 (rv10 (0 : Int64) h6_) h5_) l4_) h3_) l2_) l1_), .second, iv (0 : Int32), iv (0 : Int32)] [(.int (0 : Int32))])) _
    refine miconst 31 G13 d9_30 (v := (2 : Int32)) rfl rfl ?_
    refine mirem 32 G13 d9_31 (by decide) (v := (0 : Int32)) rfl rfl ?_
    refine mifNo 35 G13 d9_32 ((if0 _ _).trans (teq (by decide : (0 : Int32) = (0 : Int32))).2) rfl ?_
    refine mlload 37 G13 d9_35 rfl rfl ?_
    refine maloadN 38 G13 d9_37 rfl rfl rfl ?_
    refine miload 40 G13 d9_38 rfl rfl ?_
    refine mlaload 41 X13 hx hby hZ e13 V_o3 (v := h0_) d9_40 ⟨by decide, by decide⟩ rfl rfl ?_
    refine st14 _ ?_
    show Steps p.tables e below (T14.setTop (mkF m 44 #[iv (7 : Int32), iv (0 : Int32), rv o2, rv o3, iv (7 : Int32), lv (rv11 (rv11 (rv10 (rv11 (rv10 (rv10 (0 : Int64) h6_) h5_) l4_) h3_) l2_) l1_), .second, iv (0 : Int32), iv (0 : Int32)] [(.long (rv10 (rv11 (rv11 (rv10 (rv11 (rv10 (rv10 (0 : Int64) h6_) h5_) l4_) h3_) l2_) l1_) h0_))])) _
    refine mgoto 56 G14 d9_44 (by decide) rfl ?_
    refine mlstore 58 G14 d9_56 #[iv (7 : Int32), iv (0 : Int32), rv o2, rv o3, iv (7 : Int32), lv (rv10 (rv11 (rv11 (rv10 (rv11 (rv10 (rv10 (0 : Int64) h6_) h5_) l4_) h3_) l2_) l1_) h0_), .second, iv (0 : Int32), iv (0 : Int32)] rfl rfl ?_
    refine miload 60 G14 d9_58 rfl rfl ?_
    refine mifNo 63 G14 d9_60 ((if0 _ _).trans (teq (by decide : (0 : Int32) = (0 : Int32))).2) rfl ?_
    refine mgoto 78 G14 d9_63 (by decide) rfl ?_
    refine mlload 80 G14 d9_78 rfl rfl ?_
    exact retOut X14 hx Bd.returns rfl (Or.inr (Or.inl ⟨rfl, rfl, _, rfl⟩)) (hb hby d9_80) hr
  · show Q9_0 Z o2 o3 l0_ l1_ l2_ l3_ l4_ l5_ l6_ l7_ h0_ h1_ h2_ h3_ h4_ h5_ h6_ h7_ k1 k2 h0 n0 _ T14.heap _
    rw [e14]
    exact ⟨by simp only [rv9_0], rfl, rfl⟩
theorem ef9_1 (m : MethodId) (o2 : Addr) (o3 : Addr) : entryFrame m #[(.int (7 : Int32)), (.int (1 : Int32)), (.ref o2), (.ref o3)] 9 = mkF m 0 #[iv (7 : Int32), iv (1 : Int32), rv o2, rv o3, .unset, .unset, .unset, .unset, .unset] [] := by first | (simp [entryFrame, mkF, argsToLocals, Value.category]; done) | rfl
abbrev room_of_9_1 : Room := { frames := 1, cells := 0, slots := 0, locals := 17 }
def rv9_1 (l3_ : Int64) (l5_ : Int64) (h1_ : Int64) : Int64 := (rv10 (rv11 (rv11 (0 : Int64) l5_) l3_) h1_)
def Q9_1 (Z : State) (o2 : Addr) (o3 : Addr) (l0_ : Int64) (l1_ : Int64) (l2_ : Int64) (l3_ : Int64) (l4_ : Int64) (l5_ : Int64) (l6_ : Int64) (l7_ : Int64) (h0_ : Int64) (h1_ : Int64) (h2_ : Int64) (h3_ : Int64) (h4_ : Int64) (h5_ : Int64) (h6_ : Int64) (h7_ : Int64) (k1 : ClassId) (k2 : ClassId) (h0 : Heap) (n0 : Nat) (v : Option Value) (h : Heap) (L : List Loc) : Prop := v = some (.long (rv9_1 l3_ l5_ h1_)) ∧ L = [] ∧ h = h0
theorem own_rm9_1_hp_hin_53 (o2 : Addr) (o3 : Addr) (l0_ : Int64) (l1_ : Int64) (l2_ : Int64) (l3_ : Int64) (l4_ : Int64) (l5_ : Int64) (l6_ : Int64) (l7_ : Int64) (h0_ : Int64) (h1_ : Int64) (h2_ : Int64) (h3_ : Int64) (h4_ : Int64) (h5_ : Int64) (h6_ : Int64) (h7_ : Int64) (k1 : ClassId) (k2 : ClassId) (hlq : own_BL [l0_, l1_, l2_, l3_, l4_, l5_, l6_, l7_]) (hhq : own_BL [h0_, h1_, h2_, h3_, h4_, h5_, h6_, h7_]) : own_fitS (0 : Int64) l5_ := own_fS own_b0 (hlq _ (List.mem_of_getElem? (i := 5) rfl)) (by decide)
theorem own_rm9_1_hp_hin_53_1 (o2 : Addr) (o3 : Addr) (l0_ : Int64) (l1_ : Int64) (l2_ : Int64) (l3_ : Int64) (l4_ : Int64) (l5_ : Int64) (l6_ : Int64) (l7_ : Int64) (h0_ : Int64) (h1_ : Int64) (h2_ : Int64) (h3_ : Int64) (h4_ : Int64) (h5_ : Int64) (h6_ : Int64) (h7_ : Int64) (k1 : ClassId) (k2 : ClassId) (hlq : own_BL [l0_, l1_, l2_, l3_, l4_, l5_, l6_, l7_]) (hhq : own_BL [h0_, h1_, h2_, h3_, h4_, h5_, h6_, h7_]) : own_fitS (rv11 (0 : Int64) l5_) l3_ := own_fS (own_bS own_b0 (hlq _ (List.mem_of_getElem? (i := 5) rfl)) (by decide)) (hlq _ (List.mem_of_getElem? (i := 3) rfl)) (by decide)
theorem own_rm9_1_hp_hin_41 (o2 : Addr) (o3 : Addr) (l0_ : Int64) (l1_ : Int64) (l2_ : Int64) (l3_ : Int64) (l4_ : Int64) (l5_ : Int64) (l6_ : Int64) (l7_ : Int64) (h0_ : Int64) (h1_ : Int64) (h2_ : Int64) (h3_ : Int64) (h4_ : Int64) (h5_ : Int64) (h6_ : Int64) (h7_ : Int64) (k1 : ClassId) (k2 : ClassId) (hlq : own_BL [l0_, l1_, l2_, l3_, l4_, l5_, l6_, l7_]) (hhq : own_BL [h0_, h1_, h2_, h3_, h4_, h5_, h6_, h7_]) : own_fitA (rv11 (rv11 (0 : Int64) l5_) l3_) h1_ := own_fA (own_bS (own_bS own_b0 (hlq _ (List.mem_of_getElem? (i := 5) rfl)) (by decide)) (hlq _ (List.mem_of_getElem? (i := 3) rfl)) (by decide)) (hhq _ (List.mem_of_getElem? (i := 1) rfl)) (by decide)
set_option maxRecDepth 65536 in
set_option maxHeartbeats 40000000 in
theorem rm9_1 (l : Launch) (Z : State) (a0 : Array Value) (hw : ∀ d ∈ tables_1, d.before a0 Z = true) (ws : List Jvm.Cond) (o2 : Addr) (o3 : Addr) {l0_ : Int64} {l1_ : Int64} {l2_ : Int64} {l3_ : Int64} {l4_ : Int64} {l5_ : Int64} {l6_ : Int64} {l7_ : Int64} {h0_ : Int64} {h1_ : Int64} {h2_ : Int64} {h3_ : Int64} {h4_ : Int64} {h5_ : Int64} {h6_ : Int64} {h7_ : Int64} {k1 : ClassId} {k2 : ClassId} (h0 : Heap) (n0 : Nat) (Z0 : n0 ≤ h0.size) (hlq : own_BL [l0_, l1_, l2_, l3_, l4_, l5_, l6_, l7_]) (hhq : own_BL [h0_, h1_, h2_, h3_, h4_, h5_, h6_, h7_]) (V_o2 : Arv Z h0 o2 k1 .long (8 : Int32) [(.long l0_), (.long l1_), (.long l2_), (.long l3_), (.long l4_), (.long l5_), (.long l6_), (.long l7_)] (.long (0 : Int64))) (V_o3 : Arv Z h0 o3 k2 .long (8 : Int32) [(.long h0_), (.long h1_), (.long h2_), (.long h3_), (.long h4_), (.long h5_), (.long h6_), (.long h7_)] (.long (0 : Int64))) :
    MetFree l (⟨"com/example/tempe/tempe/estimate/CountBracket", "highestRest", "(II[J[J)J"⟩ : MethodName) (head1 (Jvm.Cond.code (⟨"com/example/tempe/tempe/estimate/CountBracket", "highestRest", "(II[J[J)J"⟩ : MethodName) prog_7_method_9_code 9 (some .long) :: ws) (room_of_9_1)) (fun a U => a = #[(.int (7 : Int32)), (.int (1 : Int32)), (.ref o2), (.ref o3)] ∧ Z.Warmed39 U.vm ∧ U.heap = h0) (fun _ _ _ _ _ => True) (fun _ U o U' => ∃ v L, o = .returned v ∧ Q9_1 Z o2 o3 l0_ l1_ l2_ l3_ l4_ l5_ l6_ l7_ h0_ h1_ h2_ h3_ h4_ h5_ h6_ h7_ k1 k2 h0 n0 v U'.heap L ∧ FrameEnd U o U' L (room_of_9_1).cells (room_of_9_1).slots) := by
  refine MetFree.of_bodySF (plainFor_of_name pn_9) hisR ?_
  intro p e s m args below meth c s₁ Bd hml0 hP hK
  obtain ⟨rfl, hZ, hh⟩ := hP
  have hx := Bd.exec
  have hby := Bd.bytes
  have hml : c.maxLocals = 9 := hml0
  have hown : s.vm.findClass "com/example/tempe/tempe/estimate/CountBracket" = some m.cls := findClass_of_methodNamed Bd.named
  have hnm := (name_of_methodNamed Bd.named Bd.method).1
  have X0 : Stand p l e (room_of_9_1) s m #[(.int (7 : Int32)), (.int (1 : Int32)), (.ref o2), (.ref o3)] below meth c s₁ [] 0 0 := Stand.of_body Bd
  have e0 : s₁.heap = h0 := by rw [← hh, Bd.state]; rfl
  have N0 := Fr.nil n0
  have G0 := gd X0 hx hby
  have pre0 : ∀ t, Steps p.tables e below (s₁.setTop (mkF m 0 #[iv (7 : Int32), iv (1 : Int32), rv o2, rv o3, .unset, .unset, .unset, .unset, .unset] [])) t → Steps p.tables e below (s₁.setTop (entryFrame m #[(.int (7 : Int32)), (.int (1 : Int32)), (.ref o2), (.ref o3)] 9)) t := fun t k => castTop (ef9_1 m o2 o3) k
  obtain ⟨_, _, ⟨T1, L1, k1, n1⟩, -, X1, ⟨Lc1, hQ1, l1, y1, z1⟩, st1⟩ := Jvm.LawKit.callS X0 hx (y := (⟨"java/lang/Integer", "bitCount", "(I)I"⟩ : MethodName)) hown (mvT hZ (wd hw 36 rfl)) (mvT hZ (wd hw 37 rfl)) (mvT hZ (wd hw 38 rfl)) (mvT hZ (wd hw 39 rfl)) (by decide) (backOf (W := 0) (rm8_4 l Z a0 hw []  h0 n0 Z0 ) hZ (wd hw 39 rfl) (wd hw 38 rfl) (by decide) (by decide)) (g := (mkF m 27 #[iv (7 : Int32), iv (1 : Int32), rv o2, rv o3, iv (6 : Int32), lv (0 : Int64), .second, iv (4 : Int32), iv (5 : Int32)] [(.int (4 : Int32))])) rfl (by rw [hml]; rfl) (argsL := [(.int (4 : Int32))]) (rest := []) (lenOf pd_0 rfl) rfl (by show 2 * 0 + _ ≤ _; exact Nat.le_of_eq rfl) (hb hby d9_27) (fun _ _ => ⟨rfl, e0, (by decide : 0 + 0 ≤ _), (by decide : 0 + 0 ≤ _)⟩)
  dsimp only [Pt.U, Pt.locs, Pt.cells, Pt.slots] at X1 l1 y1 z1 st1 hQ1
  replace l1 : ([] ++ Lc1) = L1 := l1.symm
  subst l1 y1 z1
  obtain ⟨rfl, rfl, e1⟩ := hQ1
  simp only [List.append_nil, Nat.add_zero] at X1
  have G1 := gd X1 hx hby
  obtain ⟨_, _, ⟨T2, L2, k2, n2⟩, -, X2, ⟨Lc2, hQ2, l2, y2, z2⟩, st2⟩ := Jvm.LawKit.callS X1 hx (y := (⟨"java/lang/Math", "subtractExact", "(JJ)J"⟩ : MethodName)) hown (mvT hZ (wd hw 51 rfl)) (mvT hZ (wd hw 52 rfl)) (mvT hZ (wd hw 9 rfl)) (mvT hZ (wd hw 53 rfl)) (by decide) (backOf (W := 0) (rm11 l Z a0 hw [] (0 : Int64) l5_ h0 n0 Z0 (own_rm9_1_hp_hin_53 o2 o3 l0_ l1_ l2_ l3_ l4_ l5_ l6_ l7_ h0_ h1_ h2_ h3_ h4_ h5_ h6_ h7_ k1 k2 hlq hhq)) hZ (wd hw 53 rfl) (wd hw 9 rfl) (by decide) (by decide)) (g := (mkF m 53 #[iv (7 : Int32), iv (1 : Int32), rv o2, rv o3, iv (6 : Int32), lv (0 : Int64), .second, iv (4 : Int32), iv (5 : Int32)] [(.long l5_), (.long (0 : Int64))])) rfl (by rw [hml]; rfl) (argsL := [(.long (0 : Int64)), (.long l5_)]) (rest := []) (lenOf pd_1 rfl) rfl (by show 2 * 0 + _ ≤ _; exact Nat.le_of_eq rfl) (hb hby d9_53) (fun _ _ => ⟨rfl, e1, (by decide : 0 + 0 ≤ _), (by decide : 0 + 0 ≤ _)⟩)
  dsimp only [Pt.U, Pt.locs, Pt.cells, Pt.slots] at X2 l2 y2 z2 st2 hQ2
  replace l2 : ([] ++ Lc2) = L2 := l2.symm
  subst l2 y2 z2
  obtain ⟨rfl, rfl, e2⟩ := hQ2
  simp only [List.append_nil, Nat.add_zero] at X2
  have G2 := gd X2 hx hby
  obtain ⟨_, _, ⟨T3, L3, k3, n3⟩, -, X3, ⟨Lc3, hQ3, l3, y3, z3⟩, st3⟩ := Jvm.LawKit.callS X2 hx (y := (⟨"java/lang/Integer", "bitCount", "(I)I"⟩ : MethodName)) hown (mvT hZ (wd hw 36 rfl)) (mvT hZ (wd hw 37 rfl)) (mvT hZ (wd hw 38 rfl)) (mvT hZ (wd hw 39 rfl)) (by decide) (backOf (W := 0) (rm8_2 l Z a0 hw []  h0 n0 Z0 ) hZ (wd hw 39 rfl) (wd hw 38 rfl) (by decide) (by decide)) (g := (mkF m 27 #[iv (7 : Int32), iv (1 : Int32), rv o2, rv o3, iv (6 : Int32), lv (rv11 (0 : Int64) l5_), .second, iv (2 : Int32), iv (3 : Int32)] [(.int (2 : Int32))])) rfl (by rw [hml]; rfl) (argsL := [(.int (2 : Int32))]) (rest := []) (lenOf pd_0 rfl) rfl (by show 2 * 0 + _ ≤ _; exact Nat.le_of_eq rfl) (hb hby d9_27) (fun _ _ => ⟨rfl, e2, (by decide : 0 + 0 ≤ _), (by decide : 0 + 0 ≤ _)⟩)
  dsimp only [Pt.U, Pt.locs, Pt.cells, Pt.slots] at X3 l3 y3 z3 st3 hQ3
  replace l3 : ([] ++ Lc3) = L3 := l3.symm
  subst l3 y3 z3
  obtain ⟨rfl, rfl, e3⟩ := hQ3
  simp only [List.append_nil, Nat.add_zero] at X3
  have G3 := gd X3 hx hby
  obtain ⟨_, _, ⟨T4, L4, k4, n4⟩, -, X4, ⟨Lc4, hQ4, l4, y4, z4⟩, st4⟩ := Jvm.LawKit.callS X3 hx (y := (⟨"java/lang/Math", "subtractExact", "(JJ)J"⟩ : MethodName)) hown (mvT hZ (wd hw 51 rfl)) (mvT hZ (wd hw 52 rfl)) (mvT hZ (wd hw 9 rfl)) (mvT hZ (wd hw 53 rfl)) (by decide) (backOf (W := 0) (rm11 l Z a0 hw [] ((rv11 (0 : Int64) l5_)) l3_ h0 n0 Z0 (own_rm9_1_hp_hin_53_1 o2 o3 l0_ l1_ l2_ l3_ l4_ l5_ l6_ l7_ h0_ h1_ h2_ h3_ h4_ h5_ h6_ h7_ k1 k2 hlq hhq)) hZ (wd hw 53 rfl) (wd hw 9 rfl) (by decide) (by decide)) (g := (mkF m 53 #[iv (7 : Int32), iv (1 : Int32), rv o2, rv o3, iv (6 : Int32), lv (rv11 (0 : Int64) l5_), .second, iv (2 : Int32), iv (3 : Int32)] [(.long l3_), (.long (rv11 (0 : Int64) l5_))])) rfl (by rw [hml]; rfl) (argsL := [(.long (rv11 (0 : Int64) l5_)), (.long l3_)]) (rest := []) (lenOf pd_1 rfl) rfl (by show 2 * 0 + _ ≤ _; exact Nat.le_of_eq rfl) (hb hby d9_53) (fun _ _ => ⟨rfl, e3, (by decide : 0 + 0 ≤ _), (by decide : 0 + 0 ≤ _)⟩)
  dsimp only [Pt.U, Pt.locs, Pt.cells, Pt.slots] at X4 l4 y4 z4 st4 hQ4
  replace l4 : ([] ++ Lc4) = L4 := l4.symm
  subst l4 y4 z4
  obtain ⟨rfl, rfl, e4⟩ := hQ4
  simp only [List.append_nil, Nat.add_zero] at X4
  have G4 := gd X4 hx hby
  obtain ⟨_, _, ⟨T5, L5, k5, n5⟩, -, X5, ⟨Lc5, hQ5, l5, y5, z5⟩, st5⟩ := Jvm.LawKit.callS X4 hx (y := (⟨"java/lang/Integer", "bitCount", "(I)I"⟩ : MethodName)) hown (mvT hZ (wd hw 36 rfl)) (mvT hZ (wd hw 37 rfl)) (mvT hZ (wd hw 38 rfl)) (mvT hZ (wd hw 39 rfl)) (by decide) (backOf (W := 0) (rm8_0 l Z a0 hw []  h0 n0 Z0 ) hZ (wd hw 39 rfl) (wd hw 38 rfl) (by decide) (by decide)) (g := (mkF m 27 #[iv (7 : Int32), iv (1 : Int32), rv o2, rv o3, iv (6 : Int32), lv (rv11 (rv11 (0 : Int64) l5_) l3_), .second, iv (0 : Int32), iv (1 : Int32)] [(.int (0 : Int32))])) rfl (by rw [hml]; rfl) (argsL := [(.int (0 : Int32))]) (rest := []) (lenOf pd_0 rfl) rfl (by show 2 * 0 + _ ≤ _; exact Nat.le_of_eq rfl) (hb hby d9_27) (fun _ _ => ⟨rfl, e4, (by decide : 0 + 0 ≤ _), (by decide : 0 + 0 ≤ _)⟩)
  dsimp only [Pt.U, Pt.locs, Pt.cells, Pt.slots] at X5 l5 y5 z5 st5 hQ5
  replace l5 : ([] ++ Lc5) = L5 := l5.symm
  subst l5 y5 z5
  obtain ⟨rfl, rfl, e5⟩ := hQ5
  simp only [List.append_nil, Nat.add_zero] at X5
  have G5 := gd X5 hx hby
  obtain ⟨_, _, ⟨T6, L6, k6, n6⟩, -, X6, ⟨Lc6, hQ6, l6, y6, z6⟩, st6⟩ := Jvm.LawKit.callS X5 hx (y := (⟨"java/lang/Math", "addExact", "(JJ)J"⟩ : MethodName)) hown (mvT hZ (wd hw 47 rfl)) (mvT hZ (wd hw 48 rfl)) (mvT hZ (wd hw 9 rfl)) (mvT hZ (wd hw 49 rfl)) (by decide) (backOf (W := 0) (rm10 l Z a0 hw [] ((rv11 (rv11 (0 : Int64) l5_) l3_)) h1_ h0 n0 Z0 (own_rm9_1_hp_hin_41 o2 o3 l0_ l1_ l2_ l3_ l4_ l5_ l6_ l7_ h0_ h1_ h2_ h3_ h4_ h5_ h6_ h7_ k1 k2 hlq hhq)) hZ (wd hw 49 rfl) (wd hw 9 rfl) (by decide) (by decide)) (g := (mkF m 41 #[iv (7 : Int32), iv (1 : Int32), rv o2, rv o3, iv (6 : Int32), lv (rv11 (rv11 (0 : Int64) l5_) l3_), .second, iv (0 : Int32), iv (1 : Int32)] [(.long h1_), (.long (rv11 (rv11 (0 : Int64) l5_) l3_))])) rfl (by rw [hml]; rfl) (argsL := [(.long (rv11 (rv11 (0 : Int64) l5_) l3_)), (.long h1_)]) (rest := []) (lenOf pd_1 rfl) rfl (by show 2 * 0 + _ ≤ _; exact Nat.le_of_eq rfl) (hb hby d9_41) (fun _ _ => ⟨rfl, e5, (by decide : 0 + 0 ≤ _), (by decide : 0 + 0 ≤ _)⟩)
  dsimp only [Pt.U, Pt.locs, Pt.cells, Pt.slots] at X6 l6 y6 z6 st6 hQ6
  replace l6 : ([] ++ Lc6) = L6 := l6.symm
  subst l6 y6 z6
  obtain ⟨rfl, rfl, e6⟩ := hQ6
  simp only [List.append_nil, Nat.add_zero] at X6
  have G6 := gd X6 hx hby
  obtain ⟨fs, hr, hrun, hended, hW, hsame⟩ := X6.leave (v := some (.long (rv10 (rv11 (rv11 (0 : Int64) l5_) l3_) h1_))) (fun h => by rw [Bd.returns] at h; cases h)
  refine ⟨_, _, pre0 _ ?_, hrun, hended, _, _, rfl, ?_, ⟨_, rfl⟩, hW, hsame.mono (by decide) (by decide)⟩
  · show Steps p.tables e below (s₁.setTop (mkF m 0 #[iv (7 : Int32), iv (1 : Int32), rv o2, rv o3, .unset, .unset, .unset, .unset, .unset] [])) _
    refine miloadN 1 G0 d9_0 rfl rfl ?_
    refine miloadN 2 G0 d9_1 rfl rfl ?_
    refine miconst 3 G0 d9_2 (v := (-1 : Int32)) rfl rfl ?_
    refine mixor 4 G0 d9_3 (v := (-2 : Int32)) rfl rfl ?_
    refine miand 5 G0 d9_4 (v := (6 : Int32)) rfl rfl ?_
    refine mistore 7 G0 d9_5 #[iv (7 : Int32), iv (1 : Int32), rv o2, rv o3, iv (6 : Int32), .unset, .unset, .unset, .unset] rfl rfl ?_
    refine mlconst 8 G0 d9_7 (v := (0 : Int64)) rfl rfl ?_
    refine mlstore 10 G0 d9_8 #[iv (7 : Int32), iv (1 : Int32), rv o2, rv o3, iv (6 : Int32), lv (0 : Int64), .second, .unset, .unset] rfl rfl ?_
    refine miload 12 G0 d9_10 rfl rfl ?_
    refine miload 14 G0 d9_12 rfl rfl ?_
    refine miconst 15 G0 d9_14 (v := (1 : Int32)) rfl rfl ?_
    refine misub 16 G0 d9_15 (v := (5 : Int32)) rfl rfl ?_
    refine miand 17 G0 d9_16 (v := (4 : Int32)) rfl rfl ?_
    refine mistore 19 G0 d9_17 #[iv (7 : Int32), iv (1 : Int32), rv o2, rv o3, iv (6 : Int32), lv (0 : Int64), .second, iv (4 : Int32), .unset] rfl rfl ?_
    refine miloadN 20 G0 d9_19 rfl rfl ?_
    refine miload 22 G0 d9_20 rfl rfl ?_
    refine mior 23 G0 d9_22 (v := (5 : Int32)) rfl rfl ?_
    refine mistore 25 G0 d9_23 #[iv (7 : Int32), iv (1 : Int32), rv o2, rv o3, iv (6 : Int32), lv (0 : Int64), .second, iv (4 : Int32), iv (5 : Int32)] rfl rfl ?_
    refine miload 27 G0 d9_25 rfl rfl ?_
    refine st1 _ ?_
    show Steps p.tables e below (T1.setTop (mkF m 30 #[iv (7 : Int32), iv (1 : Int32), rv o2, rv o3, iv (6 : Int32), lv (0 : Int64), .second, iv (4 : Int32), iv (5 : Int32)] [(.int (1 : Int32))])) _
    refine miconst 31 G1 d9_30 (v := (2 : Int32)) rfl rfl ?_
    refine mirem 32 G1 d9_31 (by decide) (v := (1 : Int32)) rfl rfl ?_
    refine mifYes 47 G1 d9_32 ((if0 _ _).trans (feq (by decide : ¬ ((1 : Int32) = (0 : Int32)))).2) (by decide) rfl ?_
    refine mlload 49 G1 d9_47 rfl rfl ?_
    refine maloadN 50 G1 d9_49 rfl rfl rfl ?_
    refine miload 52 G1 d9_50 rfl rfl ?_
    refine mlaload 53 X1 hx hby hZ e1 V_o2 (v := l5_) d9_52 ⟨by decide, by decide⟩ rfl rfl ?_
    refine st2 _ ?_
    show Steps p.tables e below (T2.setTop (mkF m 56 #[iv (7 : Int32), iv (1 : Int32), rv o2, rv o3, iv (6 : Int32), lv (0 : Int64), .second, iv (4 : Int32), iv (5 : Int32)] [(.long (rv11 (0 : Int64) l5_))])) _
    refine mlstore 58 G2 d9_56 #[iv (7 : Int32), iv (1 : Int32), rv o2, rv o3, iv (6 : Int32), lv (rv11 (0 : Int64) l5_), .second, iv (4 : Int32), iv (5 : Int32)] rfl rfl ?_
    refine miload 60 G2 d9_58 rfl rfl ?_
    refine mifYes 66 G2 d9_60 ((if0 _ _).trans (feq (by decide : ¬ ((4 : Int32) = (0 : Int32)))).2) (by decide) rfl ?_
    refine miload 68 G2 d9_66 rfl rfl ?_
    refine miconst 69 G2 d9_68 (v := (1 : Int32)) rfl rfl ?_
    refine misub 70 G2 d9_69 (v := (3 : Int32)) rfl rfl ?_
    refine miload 72 G2 d9_70 rfl rfl ?_
    refine miand 73 G2 d9_72 (v := (2 : Int32)) rfl rfl ?_
    refine mistore 75 G2 d9_73 #[iv (7 : Int32), iv (1 : Int32), rv o2, rv o3, iv (6 : Int32), lv (rv11 (0 : Int64) l5_), .second, iv (2 : Int32), iv (5 : Int32)] rfl rfl ?_
    refine mgoto 19 G2 d9_75 (by decide) rfl ?_
    refine miloadN 20 G2 d9_19 rfl rfl ?_
    refine miload 22 G2 d9_20 rfl rfl ?_
    refine mior 23 G2 d9_22 (v := (3 : Int32)) rfl rfl ?_
    refine mistore 25 G2 d9_23 #[iv (7 : Int32), iv (1 : Int32), rv o2, rv o3, iv (6 : Int32), lv (rv11 (0 : Int64) l5_), .second, iv (2 : Int32), iv (3 : Int32)] rfl rfl ?_
    refine miload 27 G2 d9_25 rfl rfl ?_
    refine st3 _ ?_
    show Steps p.tables e below (T3.setTop (mkF m 30 #[iv (7 : Int32), iv (1 : Int32), rv o2, rv o3, iv (6 : Int32), lv (rv11 (0 : Int64) l5_), .second, iv (2 : Int32), iv (3 : Int32)] [(.int (1 : Int32))])) _
    refine miconst 31 G3 d9_30 (v := (2 : Int32)) rfl rfl ?_
    refine mirem 32 G3 d9_31 (by decide) (v := (1 : Int32)) rfl rfl ?_
    refine mifYes 47 G3 d9_32 ((if0 _ _).trans (feq (by decide : ¬ ((1 : Int32) = (0 : Int32)))).2) (by decide) rfl ?_
    refine mlload 49 G3 d9_47 rfl rfl ?_
    refine maloadN 50 G3 d9_49 rfl rfl rfl ?_
    refine miload 52 G3 d9_50 rfl rfl ?_
    refine mlaload 53 X3 hx hby hZ e3 V_o2 (v := l3_) d9_52 ⟨by decide, by decide⟩ rfl rfl ?_
    refine st4 _ ?_
    show Steps p.tables e below (T4.setTop (mkF m 56 #[iv (7 : Int32), iv (1 : Int32), rv o2, rv o3, iv (6 : Int32), lv (rv11 (0 : Int64) l5_), .second, iv (2 : Int32), iv (3 : Int32)] [(.long (rv11 (rv11 (0 : Int64) l5_) l3_))])) _
    refine mlstore 58 G4 d9_56 #[iv (7 : Int32), iv (1 : Int32), rv o2, rv o3, iv (6 : Int32), lv (rv11 (rv11 (0 : Int64) l5_) l3_), .second, iv (2 : Int32), iv (3 : Int32)] rfl rfl ?_
    refine miload 60 G4 d9_58 rfl rfl ?_
    refine mifYes 66 G4 d9_60 ((if0 _ _).trans (feq (by decide : ¬ ((2 : Int32) = (0 : Int32)))).2) (by decide) rfl ?_
    refine miload 68 G4 d9_66 rfl rfl ?_
    refine miconst 69 G4 d9_68 (v := (1 : Int32)) rfl rfl ?_
    refine misub 70 G4 d9_69 (v := (1 : Int32)) rfl rfl ?_
    refine miload 72 G4 d9_70 rfl rfl ?_
    refine miand 73 G4 d9_72 (v := (0 : Int32)) rfl rfl ?_
    refine mistore 75 G4 d9_73 #[iv (7 : Int32), iv (1 : Int32), rv o2, rv o3, iv (6 : Int32), lv (rv11 (rv11 (0 : Int64) l5_) l3_), .second, iv (0 : Int32), iv (3 : Int32)] rfl rfl ?_
    refine mgoto 19 G4 d9_75 (by decide) rfl ?_
    refine miloadN 20 G4 d9_19 rfl rfl ?_
    refine miload 22 G4 d9_20 rfl rfl ?_
    refine mior 23 G4 d9_22 (v := (1 : Int32)) rfl rfl ?_
    refine mistore 25 G4 d9_23 #[iv (7 : Int32), iv (1 : Int32), rv o2, rv o3, iv (6 : Int32), lv (rv11 (rv11 (0 : Int64) l5_) l3_), .second, iv (0 : Int32), iv (1 : Int32)] rfl rfl ?_
    refine miload 27 G4 d9_25 rfl rfl ?_
    refine st5 _ ?_
    show Steps p.tables e below (T5.setTop (mkF m 30 #[iv (7 : Int32), iv (1 : Int32), rv o2, rv o3, iv (6 : Int32), lv (rv11 (rv11 (0 : Int64) l5_) l3_), .second, iv (0 : Int32), iv (1 : Int32)] [(.int (0 : Int32))])) _
    refine miconst 31 G5 d9_30 (v := (2 : Int32)) rfl rfl ?_
    refine mirem 32 G5 d9_31 (by decide) (v := (0 : Int32)) rfl rfl ?_
    refine mifNo 35 G5 d9_32 ((if0 _ _).trans (teq (by decide : (0 : Int32) = (0 : Int32))).2) rfl ?_
    refine mlload 37 G5 d9_35 rfl rfl ?_
    refine maloadN 38 G5 d9_37 rfl rfl rfl ?_
    refine miload 40 G5 d9_38 rfl rfl ?_
    refine mlaload 41 X5 hx hby hZ e5 V_o3 (v := h1_) d9_40 ⟨by decide, by decide⟩ rfl rfl ?_
    refine st6 _ ?_
    show Steps p.tables e below (T6.setTop (mkF m 44 #[iv (7 : Int32), iv (1 : Int32), rv o2, rv o3, iv (6 : Int32), lv (rv11 (rv11 (0 : Int64) l5_) l3_), .second, iv (0 : Int32), iv (1 : Int32)] [(.long (rv10 (rv11 (rv11 (0 : Int64) l5_) l3_) h1_))])) _
    refine mgoto 56 G6 d9_44 (by decide) rfl ?_
    refine mlstore 58 G6 d9_56 #[iv (7 : Int32), iv (1 : Int32), rv o2, rv o3, iv (6 : Int32), lv (rv10 (rv11 (rv11 (0 : Int64) l5_) l3_) h1_), .second, iv (0 : Int32), iv (1 : Int32)] rfl rfl ?_
    refine miload 60 G6 d9_58 rfl rfl ?_
    refine mifNo 63 G6 d9_60 ((if0 _ _).trans (teq (by decide : (0 : Int32) = (0 : Int32))).2) rfl ?_
    refine mgoto 78 G6 d9_63 (by decide) rfl ?_
    refine mlload 80 G6 d9_78 rfl rfl ?_
    exact retOut X6 hx Bd.returns rfl (Or.inr (Or.inl ⟨rfl, rfl, _, rfl⟩)) (hb hby d9_80) hr
  · show Q9_1 Z o2 o3 l0_ l1_ l2_ l3_ l4_ l5_ l6_ l7_ h0_ h1_ h2_ h3_ h4_ h5_ h6_ h7_ k1 k2 h0 n0 _ T6.heap _
    rw [e6]
    exact ⟨by simp only [rv9_1], rfl, rfl⟩
theorem ef9_2 (m : MethodId) (o2 : Addr) (o3 : Addr) : entryFrame m #[(.int (7 : Int32)), (.int (2 : Int32)), (.ref o2), (.ref o3)] 9 = mkF m 0 #[iv (7 : Int32), iv (2 : Int32), rv o2, rv o3, .unset, .unset, .unset, .unset, .unset] [] := by first | (simp [entryFrame, mkF, argsToLocals, Value.category]; done) | rfl
abbrev room_of_9_2 : Room := { frames := 1, cells := 0, slots := 0, locals := 17 }
def rv9_2 (l3_ : Int64) (l6_ : Int64) (h2_ : Int64) : Int64 := (rv10 (rv11 (rv11 (0 : Int64) l6_) l3_) h2_)
def Q9_2 (Z : State) (o2 : Addr) (o3 : Addr) (l0_ : Int64) (l1_ : Int64) (l2_ : Int64) (l3_ : Int64) (l4_ : Int64) (l5_ : Int64) (l6_ : Int64) (l7_ : Int64) (h0_ : Int64) (h1_ : Int64) (h2_ : Int64) (h3_ : Int64) (h4_ : Int64) (h5_ : Int64) (h6_ : Int64) (h7_ : Int64) (k1 : ClassId) (k2 : ClassId) (h0 : Heap) (n0 : Nat) (v : Option Value) (h : Heap) (L : List Loc) : Prop := v = some (.long (rv9_2 l3_ l6_ h2_)) ∧ L = [] ∧ h = h0
theorem own_rm9_2_hp_hin_53 (o2 : Addr) (o3 : Addr) (l0_ : Int64) (l1_ : Int64) (l2_ : Int64) (l3_ : Int64) (l4_ : Int64) (l5_ : Int64) (l6_ : Int64) (l7_ : Int64) (h0_ : Int64) (h1_ : Int64) (h2_ : Int64) (h3_ : Int64) (h4_ : Int64) (h5_ : Int64) (h6_ : Int64) (h7_ : Int64) (k1 : ClassId) (k2 : ClassId) (hlq : own_BL [l0_, l1_, l2_, l3_, l4_, l5_, l6_, l7_]) (hhq : own_BL [h0_, h1_, h2_, h3_, h4_, h5_, h6_, h7_]) : own_fitS (0 : Int64) l6_ := own_fS own_b0 (hlq _ (List.mem_of_getElem? (i := 6) rfl)) (by decide)
theorem own_rm9_2_hp_hin_53_1 (o2 : Addr) (o3 : Addr) (l0_ : Int64) (l1_ : Int64) (l2_ : Int64) (l3_ : Int64) (l4_ : Int64) (l5_ : Int64) (l6_ : Int64) (l7_ : Int64) (h0_ : Int64) (h1_ : Int64) (h2_ : Int64) (h3_ : Int64) (h4_ : Int64) (h5_ : Int64) (h6_ : Int64) (h7_ : Int64) (k1 : ClassId) (k2 : ClassId) (hlq : own_BL [l0_, l1_, l2_, l3_, l4_, l5_, l6_, l7_]) (hhq : own_BL [h0_, h1_, h2_, h3_, h4_, h5_, h6_, h7_]) : own_fitS (rv11 (0 : Int64) l6_) l3_ := own_fS (own_bS own_b0 (hlq _ (List.mem_of_getElem? (i := 6) rfl)) (by decide)) (hlq _ (List.mem_of_getElem? (i := 3) rfl)) (by decide)
theorem own_rm9_2_hp_hin_41 (o2 : Addr) (o3 : Addr) (l0_ : Int64) (l1_ : Int64) (l2_ : Int64) (l3_ : Int64) (l4_ : Int64) (l5_ : Int64) (l6_ : Int64) (l7_ : Int64) (h0_ : Int64) (h1_ : Int64) (h2_ : Int64) (h3_ : Int64) (h4_ : Int64) (h5_ : Int64) (h6_ : Int64) (h7_ : Int64) (k1 : ClassId) (k2 : ClassId) (hlq : own_BL [l0_, l1_, l2_, l3_, l4_, l5_, l6_, l7_]) (hhq : own_BL [h0_, h1_, h2_, h3_, h4_, h5_, h6_, h7_]) : own_fitA (rv11 (rv11 (0 : Int64) l6_) l3_) h2_ := own_fA (own_bS (own_bS own_b0 (hlq _ (List.mem_of_getElem? (i := 6) rfl)) (by decide)) (hlq _ (List.mem_of_getElem? (i := 3) rfl)) (by decide)) (hhq _ (List.mem_of_getElem? (i := 2) rfl)) (by decide)
set_option maxRecDepth 65536 in
set_option maxHeartbeats 40000000 in
theorem rm9_2 (l : Launch) (Z : State) (a0 : Array Value) (hw : ∀ d ∈ tables_1, d.before a0 Z = true) (ws : List Jvm.Cond) (o2 : Addr) (o3 : Addr) {l0_ : Int64} {l1_ : Int64} {l2_ : Int64} {l3_ : Int64} {l4_ : Int64} {l5_ : Int64} {l6_ : Int64} {l7_ : Int64} {h0_ : Int64} {h1_ : Int64} {h2_ : Int64} {h3_ : Int64} {h4_ : Int64} {h5_ : Int64} {h6_ : Int64} {h7_ : Int64} {k1 : ClassId} {k2 : ClassId} (h0 : Heap) (n0 : Nat) (Z0 : n0 ≤ h0.size) (hlq : own_BL [l0_, l1_, l2_, l3_, l4_, l5_, l6_, l7_]) (hhq : own_BL [h0_, h1_, h2_, h3_, h4_, h5_, h6_, h7_]) (V_o2 : Arv Z h0 o2 k1 .long (8 : Int32) [(.long l0_), (.long l1_), (.long l2_), (.long l3_), (.long l4_), (.long l5_), (.long l6_), (.long l7_)] (.long (0 : Int64))) (V_o3 : Arv Z h0 o3 k2 .long (8 : Int32) [(.long h0_), (.long h1_), (.long h2_), (.long h3_), (.long h4_), (.long h5_), (.long h6_), (.long h7_)] (.long (0 : Int64))) :
    MetFree l (⟨"com/example/tempe/tempe/estimate/CountBracket", "highestRest", "(II[J[J)J"⟩ : MethodName) (head1 (Jvm.Cond.code (⟨"com/example/tempe/tempe/estimate/CountBracket", "highestRest", "(II[J[J)J"⟩ : MethodName) prog_7_method_9_code 9 (some .long) :: ws) (room_of_9_2)) (fun a U => a = #[(.int (7 : Int32)), (.int (2 : Int32)), (.ref o2), (.ref o3)] ∧ Z.Warmed39 U.vm ∧ U.heap = h0) (fun _ _ _ _ _ => True) (fun _ U o U' => ∃ v L, o = .returned v ∧ Q9_2 Z o2 o3 l0_ l1_ l2_ l3_ l4_ l5_ l6_ l7_ h0_ h1_ h2_ h3_ h4_ h5_ h6_ h7_ k1 k2 h0 n0 v U'.heap L ∧ FrameEnd U o U' L (room_of_9_2).cells (room_of_9_2).slots) := by
  refine MetFree.of_bodySF (plainFor_of_name pn_9) hisR ?_
  intro p e s m args below meth c s₁ Bd hml0 hP hK
  obtain ⟨rfl, hZ, hh⟩ := hP
  have hx := Bd.exec
  have hby := Bd.bytes
  have hml : c.maxLocals = 9 := hml0
  have hown : s.vm.findClass "com/example/tempe/tempe/estimate/CountBracket" = some m.cls := findClass_of_methodNamed Bd.named
  have hnm := (name_of_methodNamed Bd.named Bd.method).1
  have X0 : Stand p l e (room_of_9_2) s m #[(.int (7 : Int32)), (.int (2 : Int32)), (.ref o2), (.ref o3)] below meth c s₁ [] 0 0 := Stand.of_body Bd
  have e0 : s₁.heap = h0 := by rw [← hh, Bd.state]; rfl
  have N0 := Fr.nil n0
  have G0 := gd X0 hx hby
  have pre0 : ∀ t, Steps p.tables e below (s₁.setTop (mkF m 0 #[iv (7 : Int32), iv (2 : Int32), rv o2, rv o3, .unset, .unset, .unset, .unset, .unset] [])) t → Steps p.tables e below (s₁.setTop (entryFrame m #[(.int (7 : Int32)), (.int (2 : Int32)), (.ref o2), (.ref o3)] 9)) t := fun t k => castTop (ef9_2 m o2 o3) k
  obtain ⟨_, _, ⟨T1, L1, k1, n1⟩, -, X1, ⟨Lc1, hQ1, l1, y1, z1⟩, st1⟩ := Jvm.LawKit.callS X0 hx (y := (⟨"java/lang/Integer", "bitCount", "(I)I"⟩ : MethodName)) hown (mvT hZ (wd hw 36 rfl)) (mvT hZ (wd hw 37 rfl)) (mvT hZ (wd hw 38 rfl)) (mvT hZ (wd hw 39 rfl)) (by decide) (backOf (W := 0) (rm8_4 l Z a0 hw []  h0 n0 Z0 ) hZ (wd hw 39 rfl) (wd hw 38 rfl) (by decide) (by decide)) (g := (mkF m 27 #[iv (7 : Int32), iv (2 : Int32), rv o2, rv o3, iv (5 : Int32), lv (0 : Int64), .second, iv (4 : Int32), iv (6 : Int32)] [(.int (4 : Int32))])) rfl (by rw [hml]; rfl) (argsL := [(.int (4 : Int32))]) (rest := []) (lenOf pd_0 rfl) rfl (by show 2 * 0 + _ ≤ _; exact Nat.le_of_eq rfl) (hb hby d9_27) (fun _ _ => ⟨rfl, e0, (by decide : 0 + 0 ≤ _), (by decide : 0 + 0 ≤ _)⟩)
  dsimp only [Pt.U, Pt.locs, Pt.cells, Pt.slots] at X1 l1 y1 z1 st1 hQ1
  replace l1 : ([] ++ Lc1) = L1 := l1.symm
  subst l1 y1 z1
  obtain ⟨rfl, rfl, e1⟩ := hQ1
  simp only [List.append_nil, Nat.add_zero] at X1
  have G1 := gd X1 hx hby
  obtain ⟨_, _, ⟨T2, L2, k2, n2⟩, -, X2, ⟨Lc2, hQ2, l2, y2, z2⟩, st2⟩ := Jvm.LawKit.callS X1 hx (y := (⟨"java/lang/Math", "subtractExact", "(JJ)J"⟩ : MethodName)) hown (mvT hZ (wd hw 51 rfl)) (mvT hZ (wd hw 52 rfl)) (mvT hZ (wd hw 9 rfl)) (mvT hZ (wd hw 53 rfl)) (by decide) (backOf (W := 0) (rm11 l Z a0 hw [] (0 : Int64) l6_ h0 n0 Z0 (own_rm9_2_hp_hin_53 o2 o3 l0_ l1_ l2_ l3_ l4_ l5_ l6_ l7_ h0_ h1_ h2_ h3_ h4_ h5_ h6_ h7_ k1 k2 hlq hhq)) hZ (wd hw 53 rfl) (wd hw 9 rfl) (by decide) (by decide)) (g := (mkF m 53 #[iv (7 : Int32), iv (2 : Int32), rv o2, rv o3, iv (5 : Int32), lv (0 : Int64), .second, iv (4 : Int32), iv (6 : Int32)] [(.long l6_), (.long (0 : Int64))])) rfl (by rw [hml]; rfl) (argsL := [(.long (0 : Int64)), (.long l6_)]) (rest := []) (lenOf pd_1 rfl) rfl (by show 2 * 0 + _ ≤ _; exact Nat.le_of_eq rfl) (hb hby d9_53) (fun _ _ => ⟨rfl, e1, (by decide : 0 + 0 ≤ _), (by decide : 0 + 0 ≤ _)⟩)
  dsimp only [Pt.U, Pt.locs, Pt.cells, Pt.slots] at X2 l2 y2 z2 st2 hQ2
  replace l2 : ([] ++ Lc2) = L2 := l2.symm
  subst l2 y2 z2
  obtain ⟨rfl, rfl, e2⟩ := hQ2
  simp only [List.append_nil, Nat.add_zero] at X2
  have G2 := gd X2 hx hby
  obtain ⟨_, _, ⟨T3, L3, k3, n3⟩, -, X3, ⟨Lc3, hQ3, l3, y3, z3⟩, st3⟩ := Jvm.LawKit.callS X2 hx (y := (⟨"java/lang/Integer", "bitCount", "(I)I"⟩ : MethodName)) hown (mvT hZ (wd hw 36 rfl)) (mvT hZ (wd hw 37 rfl)) (mvT hZ (wd hw 38 rfl)) (mvT hZ (wd hw 39 rfl)) (by decide) (backOf (W := 0) (rm8_1 l Z a0 hw []  h0 n0 Z0 ) hZ (wd hw 39 rfl) (wd hw 38 rfl) (by decide) (by decide)) (g := (mkF m 27 #[iv (7 : Int32), iv (2 : Int32), rv o2, rv o3, iv (5 : Int32), lv (rv11 (0 : Int64) l6_), .second, iv (1 : Int32), iv (3 : Int32)] [(.int (1 : Int32))])) rfl (by rw [hml]; rfl) (argsL := [(.int (1 : Int32))]) (rest := []) (lenOf pd_0 rfl) rfl (by show 2 * 0 + _ ≤ _; exact Nat.le_of_eq rfl) (hb hby d9_27) (fun _ _ => ⟨rfl, e2, (by decide : 0 + 0 ≤ _), (by decide : 0 + 0 ≤ _)⟩)
  dsimp only [Pt.U, Pt.locs, Pt.cells, Pt.slots] at X3 l3 y3 z3 st3 hQ3
  replace l3 : ([] ++ Lc3) = L3 := l3.symm
  subst l3 y3 z3
  obtain ⟨rfl, rfl, e3⟩ := hQ3
  simp only [List.append_nil, Nat.add_zero] at X3
  have G3 := gd X3 hx hby
  obtain ⟨_, _, ⟨T4, L4, k4, n4⟩, -, X4, ⟨Lc4, hQ4, l4, y4, z4⟩, st4⟩ := Jvm.LawKit.callS X3 hx (y := (⟨"java/lang/Math", "subtractExact", "(JJ)J"⟩ : MethodName)) hown (mvT hZ (wd hw 51 rfl)) (mvT hZ (wd hw 52 rfl)) (mvT hZ (wd hw 9 rfl)) (mvT hZ (wd hw 53 rfl)) (by decide) (backOf (W := 0) (rm11 l Z a0 hw [] ((rv11 (0 : Int64) l6_)) l3_ h0 n0 Z0 (own_rm9_2_hp_hin_53_1 o2 o3 l0_ l1_ l2_ l3_ l4_ l5_ l6_ l7_ h0_ h1_ h2_ h3_ h4_ h5_ h6_ h7_ k1 k2 hlq hhq)) hZ (wd hw 53 rfl) (wd hw 9 rfl) (by decide) (by decide)) (g := (mkF m 53 #[iv (7 : Int32), iv (2 : Int32), rv o2, rv o3, iv (5 : Int32), lv (rv11 (0 : Int64) l6_), .second, iv (1 : Int32), iv (3 : Int32)] [(.long l3_), (.long (rv11 (0 : Int64) l6_))])) rfl (by rw [hml]; rfl) (argsL := [(.long (rv11 (0 : Int64) l6_)), (.long l3_)]) (rest := []) (lenOf pd_1 rfl) rfl (by show 2 * 0 + _ ≤ _; exact Nat.le_of_eq rfl) (hb hby d9_53) (fun _ _ => ⟨rfl, e3, (by decide : 0 + 0 ≤ _), (by decide : 0 + 0 ≤ _)⟩)
  dsimp only [Pt.U, Pt.locs, Pt.cells, Pt.slots] at X4 l4 y4 z4 st4 hQ4
  replace l4 : ([] ++ Lc4) = L4 := l4.symm
  subst l4 y4 z4
  obtain ⟨rfl, rfl, e4⟩ := hQ4
  simp only [List.append_nil, Nat.add_zero] at X4
  have G4 := gd X4 hx hby
  obtain ⟨_, _, ⟨T5, L5, k5, n5⟩, -, X5, ⟨Lc5, hQ5, l5, y5, z5⟩, st5⟩ := Jvm.LawKit.callS X4 hx (y := (⟨"java/lang/Integer", "bitCount", "(I)I"⟩ : MethodName)) hown (mvT hZ (wd hw 36 rfl)) (mvT hZ (wd hw 37 rfl)) (mvT hZ (wd hw 38 rfl)) (mvT hZ (wd hw 39 rfl)) (by decide) (backOf (W := 0) (rm8_0 l Z a0 hw []  h0 n0 Z0 ) hZ (wd hw 39 rfl) (wd hw 38 rfl) (by decide) (by decide)) (g := (mkF m 27 #[iv (7 : Int32), iv (2 : Int32), rv o2, rv o3, iv (5 : Int32), lv (rv11 (rv11 (0 : Int64) l6_) l3_), .second, iv (0 : Int32), iv (2 : Int32)] [(.int (0 : Int32))])) rfl (by rw [hml]; rfl) (argsL := [(.int (0 : Int32))]) (rest := []) (lenOf pd_0 rfl) rfl (by show 2 * 0 + _ ≤ _; exact Nat.le_of_eq rfl) (hb hby d9_27) (fun _ _ => ⟨rfl, e4, (by decide : 0 + 0 ≤ _), (by decide : 0 + 0 ≤ _)⟩)
  dsimp only [Pt.U, Pt.locs, Pt.cells, Pt.slots] at X5 l5 y5 z5 st5 hQ5
  replace l5 : ([] ++ Lc5) = L5 := l5.symm
  subst l5 y5 z5
  obtain ⟨rfl, rfl, e5⟩ := hQ5
  simp only [List.append_nil, Nat.add_zero] at X5
  have G5 := gd X5 hx hby
  obtain ⟨_, _, ⟨T6, L6, k6, n6⟩, -, X6, ⟨Lc6, hQ6, l6, y6, z6⟩, st6⟩ := Jvm.LawKit.callS X5 hx (y := (⟨"java/lang/Math", "addExact", "(JJ)J"⟩ : MethodName)) hown (mvT hZ (wd hw 47 rfl)) (mvT hZ (wd hw 48 rfl)) (mvT hZ (wd hw 9 rfl)) (mvT hZ (wd hw 49 rfl)) (by decide) (backOf (W := 0) (rm10 l Z a0 hw [] ((rv11 (rv11 (0 : Int64) l6_) l3_)) h2_ h0 n0 Z0 (own_rm9_2_hp_hin_41 o2 o3 l0_ l1_ l2_ l3_ l4_ l5_ l6_ l7_ h0_ h1_ h2_ h3_ h4_ h5_ h6_ h7_ k1 k2 hlq hhq)) hZ (wd hw 49 rfl) (wd hw 9 rfl) (by decide) (by decide)) (g := (mkF m 41 #[iv (7 : Int32), iv (2 : Int32), rv o2, rv o3, iv (5 : Int32), lv (rv11 (rv11 (0 : Int64) l6_) l3_), .second, iv (0 : Int32), iv (2 : Int32)] [(.long h2_), (.long (rv11 (rv11 (0 : Int64) l6_) l3_))])) rfl (by rw [hml]; rfl) (argsL := [(.long (rv11 (rv11 (0 : Int64) l6_) l3_)), (.long h2_)]) (rest := []) (lenOf pd_1 rfl) rfl (by show 2 * 0 + _ ≤ _; exact Nat.le_of_eq rfl) (hb hby d9_41) (fun _ _ => ⟨rfl, e5, (by decide : 0 + 0 ≤ _), (by decide : 0 + 0 ≤ _)⟩)
  dsimp only [Pt.U, Pt.locs, Pt.cells, Pt.slots] at X6 l6 y6 z6 st6 hQ6
  replace l6 : ([] ++ Lc6) = L6 := l6.symm
  subst l6 y6 z6
  obtain ⟨rfl, rfl, e6⟩ := hQ6
  simp only [List.append_nil, Nat.add_zero] at X6
  have G6 := gd X6 hx hby
  obtain ⟨fs, hr, hrun, hended, hW, hsame⟩ := X6.leave (v := some (.long (rv10 (rv11 (rv11 (0 : Int64) l6_) l3_) h2_))) (fun h => by rw [Bd.returns] at h; cases h)
  refine ⟨_, _, pre0 _ ?_, hrun, hended, _, _, rfl, ?_, ⟨_, rfl⟩, hW, hsame.mono (by decide) (by decide)⟩
  · show Steps p.tables e below (s₁.setTop (mkF m 0 #[iv (7 : Int32), iv (2 : Int32), rv o2, rv o3, .unset, .unset, .unset, .unset, .unset] [])) _
    refine miloadN 1 G0 d9_0 rfl rfl ?_
    refine miloadN 2 G0 d9_1 rfl rfl ?_
    refine miconst 3 G0 d9_2 (v := (-1 : Int32)) rfl rfl ?_
    refine mixor 4 G0 d9_3 (v := (-3 : Int32)) rfl rfl ?_
    refine miand 5 G0 d9_4 (v := (5 : Int32)) rfl rfl ?_
    refine mistore 7 G0 d9_5 #[iv (7 : Int32), iv (2 : Int32), rv o2, rv o3, iv (5 : Int32), .unset, .unset, .unset, .unset] rfl rfl ?_
    refine mlconst 8 G0 d9_7 (v := (0 : Int64)) rfl rfl ?_
    refine mlstore 10 G0 d9_8 #[iv (7 : Int32), iv (2 : Int32), rv o2, rv o3, iv (5 : Int32), lv (0 : Int64), .second, .unset, .unset] rfl rfl ?_
    refine miload 12 G0 d9_10 rfl rfl ?_
    refine miload 14 G0 d9_12 rfl rfl ?_
    refine miconst 15 G0 d9_14 (v := (1 : Int32)) rfl rfl ?_
    refine misub 16 G0 d9_15 (v := (4 : Int32)) rfl rfl ?_
    refine miand 17 G0 d9_16 (v := (4 : Int32)) rfl rfl ?_
    refine mistore 19 G0 d9_17 #[iv (7 : Int32), iv (2 : Int32), rv o2, rv o3, iv (5 : Int32), lv (0 : Int64), .second, iv (4 : Int32), .unset] rfl rfl ?_
    refine miloadN 20 G0 d9_19 rfl rfl ?_
    refine miload 22 G0 d9_20 rfl rfl ?_
    refine mior 23 G0 d9_22 (v := (6 : Int32)) rfl rfl ?_
    refine mistore 25 G0 d9_23 #[iv (7 : Int32), iv (2 : Int32), rv o2, rv o3, iv (5 : Int32), lv (0 : Int64), .second, iv (4 : Int32), iv (6 : Int32)] rfl rfl ?_
    refine miload 27 G0 d9_25 rfl rfl ?_
    refine st1 _ ?_
    show Steps p.tables e below (T1.setTop (mkF m 30 #[iv (7 : Int32), iv (2 : Int32), rv o2, rv o3, iv (5 : Int32), lv (0 : Int64), .second, iv (4 : Int32), iv (6 : Int32)] [(.int (1 : Int32))])) _
    refine miconst 31 G1 d9_30 (v := (2 : Int32)) rfl rfl ?_
    refine mirem 32 G1 d9_31 (by decide) (v := (1 : Int32)) rfl rfl ?_
    refine mifYes 47 G1 d9_32 ((if0 _ _).trans (feq (by decide : ¬ ((1 : Int32) = (0 : Int32)))).2) (by decide) rfl ?_
    refine mlload 49 G1 d9_47 rfl rfl ?_
    refine maloadN 50 G1 d9_49 rfl rfl rfl ?_
    refine miload 52 G1 d9_50 rfl rfl ?_
    refine mlaload 53 X1 hx hby hZ e1 V_o2 (v := l6_) d9_52 ⟨by decide, by decide⟩ rfl rfl ?_
    refine st2 _ ?_
    show Steps p.tables e below (T2.setTop (mkF m 56 #[iv (7 : Int32), iv (2 : Int32), rv o2, rv o3, iv (5 : Int32), lv (0 : Int64), .second, iv (4 : Int32), iv (6 : Int32)] [(.long (rv11 (0 : Int64) l6_))])) _
    refine mlstore 58 G2 d9_56 #[iv (7 : Int32), iv (2 : Int32), rv o2, rv o3, iv (5 : Int32), lv (rv11 (0 : Int64) l6_), .second, iv (4 : Int32), iv (6 : Int32)] rfl rfl ?_
    refine miload 60 G2 d9_58 rfl rfl ?_
    refine mifYes 66 G2 d9_60 ((if0 _ _).trans (feq (by decide : ¬ ((4 : Int32) = (0 : Int32)))).2) (by decide) rfl ?_
    refine miload 68 G2 d9_66 rfl rfl ?_
    refine miconst 69 G2 d9_68 (v := (1 : Int32)) rfl rfl ?_
    refine misub 70 G2 d9_69 (v := (3 : Int32)) rfl rfl ?_
    refine miload 72 G2 d9_70 rfl rfl ?_
    refine miand 73 G2 d9_72 (v := (1 : Int32)) rfl rfl ?_
    refine mistore 75 G2 d9_73 #[iv (7 : Int32), iv (2 : Int32), rv o2, rv o3, iv (5 : Int32), lv (rv11 (0 : Int64) l6_), .second, iv (1 : Int32), iv (6 : Int32)] rfl rfl ?_
    refine mgoto 19 G2 d9_75 (by decide) rfl ?_
    refine miloadN 20 G2 d9_19 rfl rfl ?_
    refine miload 22 G2 d9_20 rfl rfl ?_
    refine mior 23 G2 d9_22 (v := (3 : Int32)) rfl rfl ?_
    refine mistore 25 G2 d9_23 #[iv (7 : Int32), iv (2 : Int32), rv o2, rv o3, iv (5 : Int32), lv (rv11 (0 : Int64) l6_), .second, iv (1 : Int32), iv (3 : Int32)] rfl rfl ?_
    refine miload 27 G2 d9_25 rfl rfl ?_
    refine st3 _ ?_
    show Steps p.tables e below (T3.setTop (mkF m 30 #[iv (7 : Int32), iv (2 : Int32), rv o2, rv o3, iv (5 : Int32), lv (rv11 (0 : Int64) l6_), .second, iv (1 : Int32), iv (3 : Int32)] [(.int (1 : Int32))])) _
    refine miconst 31 G3 d9_30 (v := (2 : Int32)) rfl rfl ?_
    refine mirem 32 G3 d9_31 (by decide) (v := (1 : Int32)) rfl rfl ?_
    refine mifYes 47 G3 d9_32 ((if0 _ _).trans (feq (by decide : ¬ ((1 : Int32) = (0 : Int32)))).2) (by decide) rfl ?_
    refine mlload 49 G3 d9_47 rfl rfl ?_
    refine maloadN 50 G3 d9_49 rfl rfl rfl ?_
    refine miload 52 G3 d9_50 rfl rfl ?_
    refine mlaload 53 X3 hx hby hZ e3 V_o2 (v := l3_) d9_52 ⟨by decide, by decide⟩ rfl rfl ?_
    refine st4 _ ?_
    show Steps p.tables e below (T4.setTop (mkF m 56 #[iv (7 : Int32), iv (2 : Int32), rv o2, rv o3, iv (5 : Int32), lv (rv11 (0 : Int64) l6_), .second, iv (1 : Int32), iv (3 : Int32)] [(.long (rv11 (rv11 (0 : Int64) l6_) l3_))])) _
    refine mlstore 58 G4 d9_56 #[iv (7 : Int32), iv (2 : Int32), rv o2, rv o3, iv (5 : Int32), lv (rv11 (rv11 (0 : Int64) l6_) l3_), .second, iv (1 : Int32), iv (3 : Int32)] rfl rfl ?_
    refine miload 60 G4 d9_58 rfl rfl ?_
    refine mifYes 66 G4 d9_60 ((if0 _ _).trans (feq (by decide : ¬ ((1 : Int32) = (0 : Int32)))).2) (by decide) rfl ?_
    refine miload 68 G4 d9_66 rfl rfl ?_
    refine miconst 69 G4 d9_68 (v := (1 : Int32)) rfl rfl ?_
    refine misub 70 G4 d9_69 (v := (0 : Int32)) rfl rfl ?_
    refine miload 72 G4 d9_70 rfl rfl ?_
    refine miand 73 G4 d9_72 (v := (0 : Int32)) rfl rfl ?_
    refine mistore 75 G4 d9_73 #[iv (7 : Int32), iv (2 : Int32), rv o2, rv o3, iv (5 : Int32), lv (rv11 (rv11 (0 : Int64) l6_) l3_), .second, iv (0 : Int32), iv (3 : Int32)] rfl rfl ?_
    refine mgoto 19 G4 d9_75 (by decide) rfl ?_
    refine miloadN 20 G4 d9_19 rfl rfl ?_
    refine miload 22 G4 d9_20 rfl rfl ?_
    refine mior 23 G4 d9_22 (v := (2 : Int32)) rfl rfl ?_
    refine mistore 25 G4 d9_23 #[iv (7 : Int32), iv (2 : Int32), rv o2, rv o3, iv (5 : Int32), lv (rv11 (rv11 (0 : Int64) l6_) l3_), .second, iv (0 : Int32), iv (2 : Int32)] rfl rfl ?_
    refine miload 27 G4 d9_25 rfl rfl ?_
    refine st5 _ ?_
    show Steps p.tables e below (T5.setTop (mkF m 30 #[iv (7 : Int32), iv (2 : Int32), rv o2, rv o3, iv (5 : Int32), lv (rv11 (rv11 (0 : Int64) l6_) l3_), .second, iv (0 : Int32), iv (2 : Int32)] [(.int (0 : Int32))])) _
    refine miconst 31 G5 d9_30 (v := (2 : Int32)) rfl rfl ?_
    refine mirem 32 G5 d9_31 (by decide) (v := (0 : Int32)) rfl rfl ?_
    refine mifNo 35 G5 d9_32 ((if0 _ _).trans (teq (by decide : (0 : Int32) = (0 : Int32))).2) rfl ?_
    refine mlload 37 G5 d9_35 rfl rfl ?_
    refine maloadN 38 G5 d9_37 rfl rfl rfl ?_
    refine miload 40 G5 d9_38 rfl rfl ?_
    refine mlaload 41 X5 hx hby hZ e5 V_o3 (v := h2_) d9_40 ⟨by decide, by decide⟩ rfl rfl ?_
    refine st6 _ ?_
    show Steps p.tables e below (T6.setTop (mkF m 44 #[iv (7 : Int32), iv (2 : Int32), rv o2, rv o3, iv (5 : Int32), lv (rv11 (rv11 (0 : Int64) l6_) l3_), .second, iv (0 : Int32), iv (2 : Int32)] [(.long (rv10 (rv11 (rv11 (0 : Int64) l6_) l3_) h2_))])) _
    refine mgoto 56 G6 d9_44 (by decide) rfl ?_
    refine mlstore 58 G6 d9_56 #[iv (7 : Int32), iv (2 : Int32), rv o2, rv o3, iv (5 : Int32), lv (rv10 (rv11 (rv11 (0 : Int64) l6_) l3_) h2_), .second, iv (0 : Int32), iv (2 : Int32)] rfl rfl ?_
    refine miload 60 G6 d9_58 rfl rfl ?_
    refine mifNo 63 G6 d9_60 ((if0 _ _).trans (teq (by decide : (0 : Int32) = (0 : Int32))).2) rfl ?_
    refine mgoto 78 G6 d9_63 (by decide) rfl ?_
    refine mlload 80 G6 d9_78 rfl rfl ?_
    exact retOut X6 hx Bd.returns rfl (Or.inr (Or.inl ⟨rfl, rfl, _, rfl⟩)) (hb hby d9_80) hr
  · show Q9_2 Z o2 o3 l0_ l1_ l2_ l3_ l4_ l5_ l6_ l7_ h0_ h1_ h2_ h3_ h4_ h5_ h6_ h7_ k1 k2 h0 n0 _ T6.heap _
    rw [e6]
    exact ⟨by simp only [rv9_2], rfl, rfl⟩
theorem ef9_3 (m : MethodId) (o2 : Addr) (o3 : Addr) : entryFrame m #[(.int (7 : Int32)), (.int (3 : Int32)), (.ref o2), (.ref o3)] 9 = mkF m 0 #[iv (7 : Int32), iv (3 : Int32), rv o2, rv o3, .unset, .unset, .unset, .unset, .unset] [] := by first | (simp [entryFrame, mkF, argsToLocals, Value.category]; done) | rfl
abbrev room_of_9_3 : Room := { frames := 1, cells := 0, slots := 0, locals := 17 }
def rv9_3 (h3_ : Int64) : Int64 := (rv10 (0 : Int64) h3_)
def Q9_3 (Z : State) (o2 : Addr) (o3 : Addr) (l0_ : Int64) (l1_ : Int64) (l2_ : Int64) (l3_ : Int64) (l4_ : Int64) (l5_ : Int64) (l6_ : Int64) (l7_ : Int64) (h0_ : Int64) (h1_ : Int64) (h2_ : Int64) (h3_ : Int64) (h4_ : Int64) (h5_ : Int64) (h6_ : Int64) (h7_ : Int64) (k1 : ClassId) (k2 : ClassId) (h0 : Heap) (n0 : Nat) (v : Option Value) (h : Heap) (L : List Loc) : Prop := v = some (.long (rv9_3 h3_)) ∧ L = [] ∧ h = h0
theorem own_rm9_3_hp_hin_41 (o2 : Addr) (o3 : Addr) (l0_ : Int64) (l1_ : Int64) (l2_ : Int64) (l3_ : Int64) (l4_ : Int64) (l5_ : Int64) (l6_ : Int64) (l7_ : Int64) (h0_ : Int64) (h1_ : Int64) (h2_ : Int64) (h3_ : Int64) (h4_ : Int64) (h5_ : Int64) (h6_ : Int64) (h7_ : Int64) (k1 : ClassId) (k2 : ClassId) (hlq : own_BL [l0_, l1_, l2_, l3_, l4_, l5_, l6_, l7_]) (hhq : own_BL [h0_, h1_, h2_, h3_, h4_, h5_, h6_, h7_]) : own_fitA (0 : Int64) h3_ := own_fA own_b0 (hhq _ (List.mem_of_getElem? (i := 3) rfl)) (by decide)
set_option maxRecDepth 65536 in
set_option maxHeartbeats 40000000 in
theorem rm9_3 (l : Launch) (Z : State) (a0 : Array Value) (hw : ∀ d ∈ tables_1, d.before a0 Z = true) (ws : List Jvm.Cond) (o2 : Addr) (o3 : Addr) {l0_ : Int64} {l1_ : Int64} {l2_ : Int64} {l3_ : Int64} {l4_ : Int64} {l5_ : Int64} {l6_ : Int64} {l7_ : Int64} {h0_ : Int64} {h1_ : Int64} {h2_ : Int64} {h3_ : Int64} {h4_ : Int64} {h5_ : Int64} {h6_ : Int64} {h7_ : Int64} {k1 : ClassId} {k2 : ClassId} (h0 : Heap) (n0 : Nat) (Z0 : n0 ≤ h0.size) (hlq : own_BL [l0_, l1_, l2_, l3_, l4_, l5_, l6_, l7_]) (hhq : own_BL [h0_, h1_, h2_, h3_, h4_, h5_, h6_, h7_]) (V_o2 : Arv Z h0 o2 k1 .long (8 : Int32) [(.long l0_), (.long l1_), (.long l2_), (.long l3_), (.long l4_), (.long l5_), (.long l6_), (.long l7_)] (.long (0 : Int64))) (V_o3 : Arv Z h0 o3 k2 .long (8 : Int32) [(.long h0_), (.long h1_), (.long h2_), (.long h3_), (.long h4_), (.long h5_), (.long h6_), (.long h7_)] (.long (0 : Int64))) :
    MetFree l (⟨"com/example/tempe/tempe/estimate/CountBracket", "highestRest", "(II[J[J)J"⟩ : MethodName) (head1 (Jvm.Cond.code (⟨"com/example/tempe/tempe/estimate/CountBracket", "highestRest", "(II[J[J)J"⟩ : MethodName) prog_7_method_9_code 9 (some .long) :: ws) (room_of_9_3)) (fun a U => a = #[(.int (7 : Int32)), (.int (3 : Int32)), (.ref o2), (.ref o3)] ∧ Z.Warmed39 U.vm ∧ U.heap = h0) (fun _ _ _ _ _ => True) (fun _ U o U' => ∃ v L, o = .returned v ∧ Q9_3 Z o2 o3 l0_ l1_ l2_ l3_ l4_ l5_ l6_ l7_ h0_ h1_ h2_ h3_ h4_ h5_ h6_ h7_ k1 k2 h0 n0 v U'.heap L ∧ FrameEnd U o U' L (room_of_9_3).cells (room_of_9_3).slots) := by
  refine MetFree.of_bodySF (plainFor_of_name pn_9) hisR ?_
  intro p e s m args below meth c s₁ Bd hml0 hP hK
  obtain ⟨rfl, hZ, hh⟩ := hP
  have hx := Bd.exec
  have hby := Bd.bytes
  have hml : c.maxLocals = 9 := hml0
  have hown : s.vm.findClass "com/example/tempe/tempe/estimate/CountBracket" = some m.cls := findClass_of_methodNamed Bd.named
  have hnm := (name_of_methodNamed Bd.named Bd.method).1
  have X0 : Stand p l e (room_of_9_3) s m #[(.int (7 : Int32)), (.int (3 : Int32)), (.ref o2), (.ref o3)] below meth c s₁ [] 0 0 := Stand.of_body Bd
  have e0 : s₁.heap = h0 := by rw [← hh, Bd.state]; rfl
  have N0 := Fr.nil n0
  have G0 := gd X0 hx hby
  have pre0 : ∀ t, Steps p.tables e below (s₁.setTop (mkF m 0 #[iv (7 : Int32), iv (3 : Int32), rv o2, rv o3, .unset, .unset, .unset, .unset, .unset] [])) t → Steps p.tables e below (s₁.setTop (entryFrame m #[(.int (7 : Int32)), (.int (3 : Int32)), (.ref o2), (.ref o3)] 9)) t := fun t k => castTop (ef9_3 m o2 o3) k
  obtain ⟨_, _, ⟨T1, L1, k1, n1⟩, -, X1, ⟨Lc1, hQ1, l1, y1, z1⟩, st1⟩ := Jvm.LawKit.callS X0 hx (y := (⟨"java/lang/Integer", "bitCount", "(I)I"⟩ : MethodName)) hown (mvT hZ (wd hw 36 rfl)) (mvT hZ (wd hw 37 rfl)) (mvT hZ (wd hw 38 rfl)) (mvT hZ (wd hw 39 rfl)) (by decide) (backOf (W := 0) (rm8_0 l Z a0 hw []  h0 n0 Z0 ) hZ (wd hw 39 rfl) (wd hw 38 rfl) (by decide) (by decide)) (g := (mkF m 27 #[iv (7 : Int32), iv (3 : Int32), rv o2, rv o3, iv (4 : Int32), lv (0 : Int64), .second, iv (0 : Int32), iv (3 : Int32)] [(.int (0 : Int32))])) rfl (by rw [hml]; rfl) (argsL := [(.int (0 : Int32))]) (rest := []) (lenOf pd_0 rfl) rfl (by show 2 * 0 + _ ≤ _; exact Nat.le_of_eq rfl) (hb hby d9_27) (fun _ _ => ⟨rfl, e0, (by decide : 0 + 0 ≤ _), (by decide : 0 + 0 ≤ _)⟩)
  dsimp only [Pt.U, Pt.locs, Pt.cells, Pt.slots] at X1 l1 y1 z1 st1 hQ1
  replace l1 : ([] ++ Lc1) = L1 := l1.symm
  subst l1 y1 z1
  obtain ⟨rfl, rfl, e1⟩ := hQ1
  simp only [List.append_nil, Nat.add_zero] at X1
  have G1 := gd X1 hx hby
  obtain ⟨_, _, ⟨T2, L2, k2, n2⟩, -, X2, ⟨Lc2, hQ2, l2, y2, z2⟩, st2⟩ := Jvm.LawKit.callS X1 hx (y := (⟨"java/lang/Math", "addExact", "(JJ)J"⟩ : MethodName)) hown (mvT hZ (wd hw 47 rfl)) (mvT hZ (wd hw 48 rfl)) (mvT hZ (wd hw 9 rfl)) (mvT hZ (wd hw 49 rfl)) (by decide) (backOf (W := 0) (rm10 l Z a0 hw [] (0 : Int64) h3_ h0 n0 Z0 (own_rm9_3_hp_hin_41 o2 o3 l0_ l1_ l2_ l3_ l4_ l5_ l6_ l7_ h0_ h1_ h2_ h3_ h4_ h5_ h6_ h7_ k1 k2 hlq hhq)) hZ (wd hw 49 rfl) (wd hw 9 rfl) (by decide) (by decide)) (g := (mkF m 41 #[iv (7 : Int32), iv (3 : Int32), rv o2, rv o3, iv (4 : Int32), lv (0 : Int64), .second, iv (0 : Int32), iv (3 : Int32)] [(.long h3_), (.long (0 : Int64))])) rfl (by rw [hml]; rfl) (argsL := [(.long (0 : Int64)), (.long h3_)]) (rest := []) (lenOf pd_1 rfl) rfl (by show 2 * 0 + _ ≤ _; exact Nat.le_of_eq rfl) (hb hby d9_41) (fun _ _ => ⟨rfl, e1, (by decide : 0 + 0 ≤ _), (by decide : 0 + 0 ≤ _)⟩)
  dsimp only [Pt.U, Pt.locs, Pt.cells, Pt.slots] at X2 l2 y2 z2 st2 hQ2
  replace l2 : ([] ++ Lc2) = L2 := l2.symm
  subst l2 y2 z2
  obtain ⟨rfl, rfl, e2⟩ := hQ2
  simp only [List.append_nil, Nat.add_zero] at X2
  have G2 := gd X2 hx hby
  obtain ⟨fs, hr, hrun, hended, hW, hsame⟩ := X2.leave (v := some (.long (rv10 (0 : Int64) h3_))) (fun h => by rw [Bd.returns] at h; cases h)
  refine ⟨_, _, pre0 _ ?_, hrun, hended, _, _, rfl, ?_, ⟨_, rfl⟩, hW, hsame.mono (by decide) (by decide)⟩
  · show Steps p.tables e below (s₁.setTop (mkF m 0 #[iv (7 : Int32), iv (3 : Int32), rv o2, rv o3, .unset, .unset, .unset, .unset, .unset] [])) _
    refine miloadN 1 G0 d9_0 rfl rfl ?_
    refine miloadN 2 G0 d9_1 rfl rfl ?_
    refine miconst 3 G0 d9_2 (v := (-1 : Int32)) rfl rfl ?_
    refine mixor 4 G0 d9_3 (v := (-4 : Int32)) rfl rfl ?_
    refine miand 5 G0 d9_4 (v := (4 : Int32)) rfl rfl ?_
    refine mistore 7 G0 d9_5 #[iv (7 : Int32), iv (3 : Int32), rv o2, rv o3, iv (4 : Int32), .unset, .unset, .unset, .unset] rfl rfl ?_
    refine mlconst 8 G0 d9_7 (v := (0 : Int64)) rfl rfl ?_
    refine mlstore 10 G0 d9_8 #[iv (7 : Int32), iv (3 : Int32), rv o2, rv o3, iv (4 : Int32), lv (0 : Int64), .second, .unset, .unset] rfl rfl ?_
    refine miload 12 G0 d9_10 rfl rfl ?_
    refine miload 14 G0 d9_12 rfl rfl ?_
    refine miconst 15 G0 d9_14 (v := (1 : Int32)) rfl rfl ?_
    refine misub 16 G0 d9_15 (v := (3 : Int32)) rfl rfl ?_
    refine miand 17 G0 d9_16 (v := (0 : Int32)) rfl rfl ?_
    refine mistore 19 G0 d9_17 #[iv (7 : Int32), iv (3 : Int32), rv o2, rv o3, iv (4 : Int32), lv (0 : Int64), .second, iv (0 : Int32), .unset] rfl rfl ?_
    refine miloadN 20 G0 d9_19 rfl rfl ?_
    refine miload 22 G0 d9_20 rfl rfl ?_
    refine mior 23 G0 d9_22 (v := (3 : Int32)) rfl rfl ?_
    refine mistore 25 G0 d9_23 #[iv (7 : Int32), iv (3 : Int32), rv o2, rv o3, iv (4 : Int32), lv (0 : Int64), .second, iv (0 : Int32), iv (3 : Int32)] rfl rfl ?_
    refine miload 27 G0 d9_25 rfl rfl ?_
    refine st1 _ ?_
    show Steps p.tables e below (T1.setTop (mkF m 30 #[iv (7 : Int32), iv (3 : Int32), rv o2, rv o3, iv (4 : Int32), lv (0 : Int64), .second, iv (0 : Int32), iv (3 : Int32)] [(.int (0 : Int32))])) _
    refine miconst 31 G1 d9_30 (v := (2 : Int32)) rfl rfl ?_
    refine mirem 32 G1 d9_31 (by decide) (v := (0 : Int32)) rfl rfl ?_
    refine mifNo 35 G1 d9_32 ((if0 _ _).trans (teq (by decide : (0 : Int32) = (0 : Int32))).2) rfl ?_
    refine mlload 37 G1 d9_35 rfl rfl ?_
    refine maloadN 38 G1 d9_37 rfl rfl rfl ?_
    refine miload 40 G1 d9_38 rfl rfl ?_
    refine mlaload 41 X1 hx hby hZ e1 V_o3 (v := h3_) d9_40 ⟨by decide, by decide⟩ rfl rfl ?_
    refine st2 _ ?_
    show Steps p.tables e below (T2.setTop (mkF m 44 #[iv (7 : Int32), iv (3 : Int32), rv o2, rv o3, iv (4 : Int32), lv (0 : Int64), .second, iv (0 : Int32), iv (3 : Int32)] [(.long (rv10 (0 : Int64) h3_))])) _
    refine mgoto 56 G2 d9_44 (by decide) rfl ?_
    refine mlstore 58 G2 d9_56 #[iv (7 : Int32), iv (3 : Int32), rv o2, rv o3, iv (4 : Int32), lv (rv10 (0 : Int64) h3_), .second, iv (0 : Int32), iv (3 : Int32)] rfl rfl ?_
    refine miload 60 G2 d9_58 rfl rfl ?_
    refine mifNo 63 G2 d9_60 ((if0 _ _).trans (teq (by decide : (0 : Int32) = (0 : Int32))).2) rfl ?_
    refine mgoto 78 G2 d9_63 (by decide) rfl ?_
    refine mlload 80 G2 d9_78 rfl rfl ?_
    exact retOut X2 hx Bd.returns rfl (Or.inr (Or.inl ⟨rfl, rfl, _, rfl⟩)) (hb hby d9_80) hr
  · show Q9_3 Z o2 o3 l0_ l1_ l2_ l3_ l4_ l5_ l6_ l7_ h0_ h1_ h2_ h3_ h4_ h5_ h6_ h7_ k1 k2 h0 n0 _ T2.heap _
    rw [e2]
    exact ⟨by simp only [rv9_3], rfl, rfl⟩
theorem ef9_4 (m : MethodId) (o2 : Addr) (o3 : Addr) : entryFrame m #[(.int (7 : Int32)), (.int (4 : Int32)), (.ref o2), (.ref o3)] 9 = mkF m 0 #[iv (7 : Int32), iv (4 : Int32), rv o2, rv o3, .unset, .unset, .unset, .unset, .unset] [] := by first | (simp [entryFrame, mkF, argsToLocals, Value.category]; done) | rfl
abbrev room_of_9_4 : Room := { frames := 1, cells := 0, slots := 0, locals := 17 }
def rv9_4 (l5_ : Int64) (l6_ : Int64) (h4_ : Int64) : Int64 := (rv10 (rv11 (rv11 (0 : Int64) l6_) l5_) h4_)
def Q9_4 (Z : State) (o2 : Addr) (o3 : Addr) (l0_ : Int64) (l1_ : Int64) (l2_ : Int64) (l3_ : Int64) (l4_ : Int64) (l5_ : Int64) (l6_ : Int64) (l7_ : Int64) (h0_ : Int64) (h1_ : Int64) (h2_ : Int64) (h3_ : Int64) (h4_ : Int64) (h5_ : Int64) (h6_ : Int64) (h7_ : Int64) (k1 : ClassId) (k2 : ClassId) (h0 : Heap) (n0 : Nat) (v : Option Value) (h : Heap) (L : List Loc) : Prop := v = some (.long (rv9_4 l5_ l6_ h4_)) ∧ L = [] ∧ h = h0
theorem own_rm9_4_hp_hin_53 (o2 : Addr) (o3 : Addr) (l0_ : Int64) (l1_ : Int64) (l2_ : Int64) (l3_ : Int64) (l4_ : Int64) (l5_ : Int64) (l6_ : Int64) (l7_ : Int64) (h0_ : Int64) (h1_ : Int64) (h2_ : Int64) (h3_ : Int64) (h4_ : Int64) (h5_ : Int64) (h6_ : Int64) (h7_ : Int64) (k1 : ClassId) (k2 : ClassId) (hlq : own_BL [l0_, l1_, l2_, l3_, l4_, l5_, l6_, l7_]) (hhq : own_BL [h0_, h1_, h2_, h3_, h4_, h5_, h6_, h7_]) : own_fitS (0 : Int64) l6_ := own_fS own_b0 (hlq _ (List.mem_of_getElem? (i := 6) rfl)) (by decide)
theorem own_rm9_4_hp_hin_53_1 (o2 : Addr) (o3 : Addr) (l0_ : Int64) (l1_ : Int64) (l2_ : Int64) (l3_ : Int64) (l4_ : Int64) (l5_ : Int64) (l6_ : Int64) (l7_ : Int64) (h0_ : Int64) (h1_ : Int64) (h2_ : Int64) (h3_ : Int64) (h4_ : Int64) (h5_ : Int64) (h6_ : Int64) (h7_ : Int64) (k1 : ClassId) (k2 : ClassId) (hlq : own_BL [l0_, l1_, l2_, l3_, l4_, l5_, l6_, l7_]) (hhq : own_BL [h0_, h1_, h2_, h3_, h4_, h5_, h6_, h7_]) : own_fitS (rv11 (0 : Int64) l6_) l5_ := own_fS (own_bS own_b0 (hlq _ (List.mem_of_getElem? (i := 6) rfl)) (by decide)) (hlq _ (List.mem_of_getElem? (i := 5) rfl)) (by decide)
theorem own_rm9_4_hp_hin_41 (o2 : Addr) (o3 : Addr) (l0_ : Int64) (l1_ : Int64) (l2_ : Int64) (l3_ : Int64) (l4_ : Int64) (l5_ : Int64) (l6_ : Int64) (l7_ : Int64) (h0_ : Int64) (h1_ : Int64) (h2_ : Int64) (h3_ : Int64) (h4_ : Int64) (h5_ : Int64) (h6_ : Int64) (h7_ : Int64) (k1 : ClassId) (k2 : ClassId) (hlq : own_BL [l0_, l1_, l2_, l3_, l4_, l5_, l6_, l7_]) (hhq : own_BL [h0_, h1_, h2_, h3_, h4_, h5_, h6_, h7_]) : own_fitA (rv11 (rv11 (0 : Int64) l6_) l5_) h4_ := own_fA (own_bS (own_bS own_b0 (hlq _ (List.mem_of_getElem? (i := 6) rfl)) (by decide)) (hlq _ (List.mem_of_getElem? (i := 5) rfl)) (by decide)) (hhq _ (List.mem_of_getElem? (i := 4) rfl)) (by decide)
set_option maxRecDepth 65536 in
set_option maxHeartbeats 40000000 in
theorem rm9_4 (l : Launch) (Z : State) (a0 : Array Value) (hw : ∀ d ∈ tables_1, d.before a0 Z = true) (ws : List Jvm.Cond) (o2 : Addr) (o3 : Addr) {l0_ : Int64} {l1_ : Int64} {l2_ : Int64} {l3_ : Int64} {l4_ : Int64} {l5_ : Int64} {l6_ : Int64} {l7_ : Int64} {h0_ : Int64} {h1_ : Int64} {h2_ : Int64} {h3_ : Int64} {h4_ : Int64} {h5_ : Int64} {h6_ : Int64} {h7_ : Int64} {k1 : ClassId} {k2 : ClassId} (h0 : Heap) (n0 : Nat) (Z0 : n0 ≤ h0.size) (hlq : own_BL [l0_, l1_, l2_, l3_, l4_, l5_, l6_, l7_]) (hhq : own_BL [h0_, h1_, h2_, h3_, h4_, h5_, h6_, h7_]) (V_o2 : Arv Z h0 o2 k1 .long (8 : Int32) [(.long l0_), (.long l1_), (.long l2_), (.long l3_), (.long l4_), (.long l5_), (.long l6_), (.long l7_)] (.long (0 : Int64))) (V_o3 : Arv Z h0 o3 k2 .long (8 : Int32) [(.long h0_), (.long h1_), (.long h2_), (.long h3_), (.long h4_), (.long h5_), (.long h6_), (.long h7_)] (.long (0 : Int64))) :
    MetFree l (⟨"com/example/tempe/tempe/estimate/CountBracket", "highestRest", "(II[J[J)J"⟩ : MethodName) (head1 (Jvm.Cond.code (⟨"com/example/tempe/tempe/estimate/CountBracket", "highestRest", "(II[J[J)J"⟩ : MethodName) prog_7_method_9_code 9 (some .long) :: ws) (room_of_9_4)) (fun a U => a = #[(.int (7 : Int32)), (.int (4 : Int32)), (.ref o2), (.ref o3)] ∧ Z.Warmed39 U.vm ∧ U.heap = h0) (fun _ _ _ _ _ => True) (fun _ U o U' => ∃ v L, o = .returned v ∧ Q9_4 Z o2 o3 l0_ l1_ l2_ l3_ l4_ l5_ l6_ l7_ h0_ h1_ h2_ h3_ h4_ h5_ h6_ h7_ k1 k2 h0 n0 v U'.heap L ∧ FrameEnd U o U' L (room_of_9_4).cells (room_of_9_4).slots) := by
  refine MetFree.of_bodySF (plainFor_of_name pn_9) hisR ?_
  intro p e s m args below meth c s₁ Bd hml0 hP hK
  obtain ⟨rfl, hZ, hh⟩ := hP
  have hx := Bd.exec
  have hby := Bd.bytes
  have hml : c.maxLocals = 9 := hml0
  have hown : s.vm.findClass "com/example/tempe/tempe/estimate/CountBracket" = some m.cls := findClass_of_methodNamed Bd.named
  have hnm := (name_of_methodNamed Bd.named Bd.method).1
  have X0 : Stand p l e (room_of_9_4) s m #[(.int (7 : Int32)), (.int (4 : Int32)), (.ref o2), (.ref o3)] below meth c s₁ [] 0 0 := Stand.of_body Bd
  have e0 : s₁.heap = h0 := by rw [← hh, Bd.state]; rfl
  have N0 := Fr.nil n0
  have G0 := gd X0 hx hby
  have pre0 : ∀ t, Steps p.tables e below (s₁.setTop (mkF m 0 #[iv (7 : Int32), iv (4 : Int32), rv o2, rv o3, .unset, .unset, .unset, .unset, .unset] [])) t → Steps p.tables e below (s₁.setTop (entryFrame m #[(.int (7 : Int32)), (.int (4 : Int32)), (.ref o2), (.ref o3)] 9)) t := fun t k => castTop (ef9_4 m o2 o3) k
  obtain ⟨_, _, ⟨T1, L1, k1, n1⟩, -, X1, ⟨Lc1, hQ1, l1, y1, z1⟩, st1⟩ := Jvm.LawKit.callS X0 hx (y := (⟨"java/lang/Integer", "bitCount", "(I)I"⟩ : MethodName)) hown (mvT hZ (wd hw 36 rfl)) (mvT hZ (wd hw 37 rfl)) (mvT hZ (wd hw 38 rfl)) (mvT hZ (wd hw 39 rfl)) (by decide) (backOf (W := 0) (rm8_2 l Z a0 hw []  h0 n0 Z0 ) hZ (wd hw 39 rfl) (wd hw 38 rfl) (by decide) (by decide)) (g := (mkF m 27 #[iv (7 : Int32), iv (4 : Int32), rv o2, rv o3, iv (3 : Int32), lv (0 : Int64), .second, iv (2 : Int32), iv (6 : Int32)] [(.int (2 : Int32))])) rfl (by rw [hml]; rfl) (argsL := [(.int (2 : Int32))]) (rest := []) (lenOf pd_0 rfl) rfl (by show 2 * 0 + _ ≤ _; exact Nat.le_of_eq rfl) (hb hby d9_27) (fun _ _ => ⟨rfl, e0, (by decide : 0 + 0 ≤ _), (by decide : 0 + 0 ≤ _)⟩)
  dsimp only [Pt.U, Pt.locs, Pt.cells, Pt.slots] at X1 l1 y1 z1 st1 hQ1
  replace l1 : ([] ++ Lc1) = L1 := l1.symm
  subst l1 y1 z1
  obtain ⟨rfl, rfl, e1⟩ := hQ1
  simp only [List.append_nil, Nat.add_zero] at X1
  have G1 := gd X1 hx hby
  obtain ⟨_, _, ⟨T2, L2, k2, n2⟩, -, X2, ⟨Lc2, hQ2, l2, y2, z2⟩, st2⟩ := Jvm.LawKit.callS X1 hx (y := (⟨"java/lang/Math", "subtractExact", "(JJ)J"⟩ : MethodName)) hown (mvT hZ (wd hw 51 rfl)) (mvT hZ (wd hw 52 rfl)) (mvT hZ (wd hw 9 rfl)) (mvT hZ (wd hw 53 rfl)) (by decide) (backOf (W := 0) (rm11 l Z a0 hw [] (0 : Int64) l6_ h0 n0 Z0 (own_rm9_4_hp_hin_53 o2 o3 l0_ l1_ l2_ l3_ l4_ l5_ l6_ l7_ h0_ h1_ h2_ h3_ h4_ h5_ h6_ h7_ k1 k2 hlq hhq)) hZ (wd hw 53 rfl) (wd hw 9 rfl) (by decide) (by decide)) (g := (mkF m 53 #[iv (7 : Int32), iv (4 : Int32), rv o2, rv o3, iv (3 : Int32), lv (0 : Int64), .second, iv (2 : Int32), iv (6 : Int32)] [(.long l6_), (.long (0 : Int64))])) rfl (by rw [hml]; rfl) (argsL := [(.long (0 : Int64)), (.long l6_)]) (rest := []) (lenOf pd_1 rfl) rfl (by show 2 * 0 + _ ≤ _; exact Nat.le_of_eq rfl) (hb hby d9_53) (fun _ _ => ⟨rfl, e1, (by decide : 0 + 0 ≤ _), (by decide : 0 + 0 ≤ _)⟩)
  dsimp only [Pt.U, Pt.locs, Pt.cells, Pt.slots] at X2 l2 y2 z2 st2 hQ2
  replace l2 : ([] ++ Lc2) = L2 := l2.symm
  subst l2 y2 z2
  obtain ⟨rfl, rfl, e2⟩ := hQ2
  simp only [List.append_nil, Nat.add_zero] at X2
  have G2 := gd X2 hx hby
  obtain ⟨_, _, ⟨T3, L3, k3, n3⟩, -, X3, ⟨Lc3, hQ3, l3, y3, z3⟩, st3⟩ := Jvm.LawKit.callS X2 hx (y := (⟨"java/lang/Integer", "bitCount", "(I)I"⟩ : MethodName)) hown (mvT hZ (wd hw 36 rfl)) (mvT hZ (wd hw 37 rfl)) (mvT hZ (wd hw 38 rfl)) (mvT hZ (wd hw 39 rfl)) (by decide) (backOf (W := 0) (rm8_1 l Z a0 hw []  h0 n0 Z0 ) hZ (wd hw 39 rfl) (wd hw 38 rfl) (by decide) (by decide)) (g := (mkF m 27 #[iv (7 : Int32), iv (4 : Int32), rv o2, rv o3, iv (3 : Int32), lv (rv11 (0 : Int64) l6_), .second, iv (1 : Int32), iv (5 : Int32)] [(.int (1 : Int32))])) rfl (by rw [hml]; rfl) (argsL := [(.int (1 : Int32))]) (rest := []) (lenOf pd_0 rfl) rfl (by show 2 * 0 + _ ≤ _; exact Nat.le_of_eq rfl) (hb hby d9_27) (fun _ _ => ⟨rfl, e2, (by decide : 0 + 0 ≤ _), (by decide : 0 + 0 ≤ _)⟩)
  dsimp only [Pt.U, Pt.locs, Pt.cells, Pt.slots] at X3 l3 y3 z3 st3 hQ3
  replace l3 : ([] ++ Lc3) = L3 := l3.symm
  subst l3 y3 z3
  obtain ⟨rfl, rfl, e3⟩ := hQ3
  simp only [List.append_nil, Nat.add_zero] at X3
  have G3 := gd X3 hx hby
  obtain ⟨_, _, ⟨T4, L4, k4, n4⟩, -, X4, ⟨Lc4, hQ4, l4, y4, z4⟩, st4⟩ := Jvm.LawKit.callS X3 hx (y := (⟨"java/lang/Math", "subtractExact", "(JJ)J"⟩ : MethodName)) hown (mvT hZ (wd hw 51 rfl)) (mvT hZ (wd hw 52 rfl)) (mvT hZ (wd hw 9 rfl)) (mvT hZ (wd hw 53 rfl)) (by decide) (backOf (W := 0) (rm11 l Z a0 hw [] ((rv11 (0 : Int64) l6_)) l5_ h0 n0 Z0 (own_rm9_4_hp_hin_53_1 o2 o3 l0_ l1_ l2_ l3_ l4_ l5_ l6_ l7_ h0_ h1_ h2_ h3_ h4_ h5_ h6_ h7_ k1 k2 hlq hhq)) hZ (wd hw 53 rfl) (wd hw 9 rfl) (by decide) (by decide)) (g := (mkF m 53 #[iv (7 : Int32), iv (4 : Int32), rv o2, rv o3, iv (3 : Int32), lv (rv11 (0 : Int64) l6_), .second, iv (1 : Int32), iv (5 : Int32)] [(.long l5_), (.long (rv11 (0 : Int64) l6_))])) rfl (by rw [hml]; rfl) (argsL := [(.long (rv11 (0 : Int64) l6_)), (.long l5_)]) (rest := []) (lenOf pd_1 rfl) rfl (by show 2 * 0 + _ ≤ _; exact Nat.le_of_eq rfl) (hb hby d9_53) (fun _ _ => ⟨rfl, e3, (by decide : 0 + 0 ≤ _), (by decide : 0 + 0 ≤ _)⟩)
  dsimp only [Pt.U, Pt.locs, Pt.cells, Pt.slots] at X4 l4 y4 z4 st4 hQ4
  replace l4 : ([] ++ Lc4) = L4 := l4.symm
  subst l4 y4 z4
  obtain ⟨rfl, rfl, e4⟩ := hQ4
  simp only [List.append_nil, Nat.add_zero] at X4
  have G4 := gd X4 hx hby
  obtain ⟨_, _, ⟨T5, L5, k5, n5⟩, -, X5, ⟨Lc5, hQ5, l5, y5, z5⟩, st5⟩ := Jvm.LawKit.callS X4 hx (y := (⟨"java/lang/Integer", "bitCount", "(I)I"⟩ : MethodName)) hown (mvT hZ (wd hw 36 rfl)) (mvT hZ (wd hw 37 rfl)) (mvT hZ (wd hw 38 rfl)) (mvT hZ (wd hw 39 rfl)) (by decide) (backOf (W := 0) (rm8_0 l Z a0 hw []  h0 n0 Z0 ) hZ (wd hw 39 rfl) (wd hw 38 rfl) (by decide) (by decide)) (g := (mkF m 27 #[iv (7 : Int32), iv (4 : Int32), rv o2, rv o3, iv (3 : Int32), lv (rv11 (rv11 (0 : Int64) l6_) l5_), .second, iv (0 : Int32), iv (4 : Int32)] [(.int (0 : Int32))])) rfl (by rw [hml]; rfl) (argsL := [(.int (0 : Int32))]) (rest := []) (lenOf pd_0 rfl) rfl (by show 2 * 0 + _ ≤ _; exact Nat.le_of_eq rfl) (hb hby d9_27) (fun _ _ => ⟨rfl, e4, (by decide : 0 + 0 ≤ _), (by decide : 0 + 0 ≤ _)⟩)
  dsimp only [Pt.U, Pt.locs, Pt.cells, Pt.slots] at X5 l5 y5 z5 st5 hQ5
  replace l5 : ([] ++ Lc5) = L5 := l5.symm
  subst l5 y5 z5
  obtain ⟨rfl, rfl, e5⟩ := hQ5
  simp only [List.append_nil, Nat.add_zero] at X5
  have G5 := gd X5 hx hby
  obtain ⟨_, _, ⟨T6, L6, k6, n6⟩, -, X6, ⟨Lc6, hQ6, l6, y6, z6⟩, st6⟩ := Jvm.LawKit.callS X5 hx (y := (⟨"java/lang/Math", "addExact", "(JJ)J"⟩ : MethodName)) hown (mvT hZ (wd hw 47 rfl)) (mvT hZ (wd hw 48 rfl)) (mvT hZ (wd hw 9 rfl)) (mvT hZ (wd hw 49 rfl)) (by decide) (backOf (W := 0) (rm10 l Z a0 hw [] ((rv11 (rv11 (0 : Int64) l6_) l5_)) h4_ h0 n0 Z0 (own_rm9_4_hp_hin_41 o2 o3 l0_ l1_ l2_ l3_ l4_ l5_ l6_ l7_ h0_ h1_ h2_ h3_ h4_ h5_ h6_ h7_ k1 k2 hlq hhq)) hZ (wd hw 49 rfl) (wd hw 9 rfl) (by decide) (by decide)) (g := (mkF m 41 #[iv (7 : Int32), iv (4 : Int32), rv o2, rv o3, iv (3 : Int32), lv (rv11 (rv11 (0 : Int64) l6_) l5_), .second, iv (0 : Int32), iv (4 : Int32)] [(.long h4_), (.long (rv11 (rv11 (0 : Int64) l6_) l5_))])) rfl (by rw [hml]; rfl) (argsL := [(.long (rv11 (rv11 (0 : Int64) l6_) l5_)), (.long h4_)]) (rest := []) (lenOf pd_1 rfl) rfl (by show 2 * 0 + _ ≤ _; exact Nat.le_of_eq rfl) (hb hby d9_41) (fun _ _ => ⟨rfl, e5, (by decide : 0 + 0 ≤ _), (by decide : 0 + 0 ≤ _)⟩)
  dsimp only [Pt.U, Pt.locs, Pt.cells, Pt.slots] at X6 l6 y6 z6 st6 hQ6
  replace l6 : ([] ++ Lc6) = L6 := l6.symm
  subst l6 y6 z6
  obtain ⟨rfl, rfl, e6⟩ := hQ6
  simp only [List.append_nil, Nat.add_zero] at X6
  have G6 := gd X6 hx hby
  obtain ⟨fs, hr, hrun, hended, hW, hsame⟩ := X6.leave (v := some (.long (rv10 (rv11 (rv11 (0 : Int64) l6_) l5_) h4_))) (fun h => by rw [Bd.returns] at h; cases h)
  refine ⟨_, _, pre0 _ ?_, hrun, hended, _, _, rfl, ?_, ⟨_, rfl⟩, hW, hsame.mono (by decide) (by decide)⟩
  · show Steps p.tables e below (s₁.setTop (mkF m 0 #[iv (7 : Int32), iv (4 : Int32), rv o2, rv o3, .unset, .unset, .unset, .unset, .unset] [])) _
    refine miloadN 1 G0 d9_0 rfl rfl ?_
    refine miloadN 2 G0 d9_1 rfl rfl ?_
    refine miconst 3 G0 d9_2 (v := (-1 : Int32)) rfl rfl ?_
    refine mixor 4 G0 d9_3 (v := (-5 : Int32)) rfl rfl ?_
    refine miand 5 G0 d9_4 (v := (3 : Int32)) rfl rfl ?_
    refine mistore 7 G0 d9_5 #[iv (7 : Int32), iv (4 : Int32), rv o2, rv o3, iv (3 : Int32), .unset, .unset, .unset, .unset] rfl rfl ?_
    refine mlconst 8 G0 d9_7 (v := (0 : Int64)) rfl rfl ?_
    refine mlstore 10 G0 d9_8 #[iv (7 : Int32), iv (4 : Int32), rv o2, rv o3, iv (3 : Int32), lv (0 : Int64), .second, .unset, .unset] rfl rfl ?_
    refine miload 12 G0 d9_10 rfl rfl ?_
    refine miload 14 G0 d9_12 rfl rfl ?_
    refine miconst 15 G0 d9_14 (v := (1 : Int32)) rfl rfl ?_
    refine misub 16 G0 d9_15 (v := (2 : Int32)) rfl rfl ?_
    refine miand 17 G0 d9_16 (v := (2 : Int32)) rfl rfl ?_
    refine mistore 19 G0 d9_17 #[iv (7 : Int32), iv (4 : Int32), rv o2, rv o3, iv (3 : Int32), lv (0 : Int64), .second, iv (2 : Int32), .unset] rfl rfl ?_
    refine miloadN 20 G0 d9_19 rfl rfl ?_
    refine miload 22 G0 d9_20 rfl rfl ?_
    refine mior 23 G0 d9_22 (v := (6 : Int32)) rfl rfl ?_
    refine mistore 25 G0 d9_23 #[iv (7 : Int32), iv (4 : Int32), rv o2, rv o3, iv (3 : Int32), lv (0 : Int64), .second, iv (2 : Int32), iv (6 : Int32)] rfl rfl ?_
    refine miload 27 G0 d9_25 rfl rfl ?_
    refine st1 _ ?_
    show Steps p.tables e below (T1.setTop (mkF m 30 #[iv (7 : Int32), iv (4 : Int32), rv o2, rv o3, iv (3 : Int32), lv (0 : Int64), .second, iv (2 : Int32), iv (6 : Int32)] [(.int (1 : Int32))])) _
    refine miconst 31 G1 d9_30 (v := (2 : Int32)) rfl rfl ?_
    refine mirem 32 G1 d9_31 (by decide) (v := (1 : Int32)) rfl rfl ?_
    refine mifYes 47 G1 d9_32 ((if0 _ _).trans (feq (by decide : ¬ ((1 : Int32) = (0 : Int32)))).2) (by decide) rfl ?_
    refine mlload 49 G1 d9_47 rfl rfl ?_
    refine maloadN 50 G1 d9_49 rfl rfl rfl ?_
    refine miload 52 G1 d9_50 rfl rfl ?_
    refine mlaload 53 X1 hx hby hZ e1 V_o2 (v := l6_) d9_52 ⟨by decide, by decide⟩ rfl rfl ?_
    refine st2 _ ?_
    show Steps p.tables e below (T2.setTop (mkF m 56 #[iv (7 : Int32), iv (4 : Int32), rv o2, rv o3, iv (3 : Int32), lv (0 : Int64), .second, iv (2 : Int32), iv (6 : Int32)] [(.long (rv11 (0 : Int64) l6_))])) _
    refine mlstore 58 G2 d9_56 #[iv (7 : Int32), iv (4 : Int32), rv o2, rv o3, iv (3 : Int32), lv (rv11 (0 : Int64) l6_), .second, iv (2 : Int32), iv (6 : Int32)] rfl rfl ?_
    refine miload 60 G2 d9_58 rfl rfl ?_
    refine mifYes 66 G2 d9_60 ((if0 _ _).trans (feq (by decide : ¬ ((2 : Int32) = (0 : Int32)))).2) (by decide) rfl ?_
    refine miload 68 G2 d9_66 rfl rfl ?_
    refine miconst 69 G2 d9_68 (v := (1 : Int32)) rfl rfl ?_
    refine misub 70 G2 d9_69 (v := (1 : Int32)) rfl rfl ?_
    refine miload 72 G2 d9_70 rfl rfl ?_
    refine miand 73 G2 d9_72 (v := (1 : Int32)) rfl rfl ?_
    refine mistore 75 G2 d9_73 #[iv (7 : Int32), iv (4 : Int32), rv o2, rv o3, iv (3 : Int32), lv (rv11 (0 : Int64) l6_), .second, iv (1 : Int32), iv (6 : Int32)] rfl rfl ?_
    refine mgoto 19 G2 d9_75 (by decide) rfl ?_
    refine miloadN 20 G2 d9_19 rfl rfl ?_
    refine miload 22 G2 d9_20 rfl rfl ?_
    refine mior 23 G2 d9_22 (v := (5 : Int32)) rfl rfl ?_
    refine mistore 25 G2 d9_23 #[iv (7 : Int32), iv (4 : Int32), rv o2, rv o3, iv (3 : Int32), lv (rv11 (0 : Int64) l6_), .second, iv (1 : Int32), iv (5 : Int32)] rfl rfl ?_
    refine miload 27 G2 d9_25 rfl rfl ?_
    refine st3 _ ?_
    show Steps p.tables e below (T3.setTop (mkF m 30 #[iv (7 : Int32), iv (4 : Int32), rv o2, rv o3, iv (3 : Int32), lv (rv11 (0 : Int64) l6_), .second, iv (1 : Int32), iv (5 : Int32)] [(.int (1 : Int32))])) _
    refine miconst 31 G3 d9_30 (v := (2 : Int32)) rfl rfl ?_
    refine mirem 32 G3 d9_31 (by decide) (v := (1 : Int32)) rfl rfl ?_
    refine mifYes 47 G3 d9_32 ((if0 _ _).trans (feq (by decide : ¬ ((1 : Int32) = (0 : Int32)))).2) (by decide) rfl ?_
    refine mlload 49 G3 d9_47 rfl rfl ?_
    refine maloadN 50 G3 d9_49 rfl rfl rfl ?_
    refine miload 52 G3 d9_50 rfl rfl ?_
    refine mlaload 53 X3 hx hby hZ e3 V_o2 (v := l5_) d9_52 ⟨by decide, by decide⟩ rfl rfl ?_
    refine st4 _ ?_
    show Steps p.tables e below (T4.setTop (mkF m 56 #[iv (7 : Int32), iv (4 : Int32), rv o2, rv o3, iv (3 : Int32), lv (rv11 (0 : Int64) l6_), .second, iv (1 : Int32), iv (5 : Int32)] [(.long (rv11 (rv11 (0 : Int64) l6_) l5_))])) _
    refine mlstore 58 G4 d9_56 #[iv (7 : Int32), iv (4 : Int32), rv o2, rv o3, iv (3 : Int32), lv (rv11 (rv11 (0 : Int64) l6_) l5_), .second, iv (1 : Int32), iv (5 : Int32)] rfl rfl ?_
    refine miload 60 G4 d9_58 rfl rfl ?_
    refine mifYes 66 G4 d9_60 ((if0 _ _).trans (feq (by decide : ¬ ((1 : Int32) = (0 : Int32)))).2) (by decide) rfl ?_
    refine miload 68 G4 d9_66 rfl rfl ?_
    refine miconst 69 G4 d9_68 (v := (1 : Int32)) rfl rfl ?_
    refine misub 70 G4 d9_69 (v := (0 : Int32)) rfl rfl ?_
    refine miload 72 G4 d9_70 rfl rfl ?_
    refine miand 73 G4 d9_72 (v := (0 : Int32)) rfl rfl ?_
    refine mistore 75 G4 d9_73 #[iv (7 : Int32), iv (4 : Int32), rv o2, rv o3, iv (3 : Int32), lv (rv11 (rv11 (0 : Int64) l6_) l5_), .second, iv (0 : Int32), iv (5 : Int32)] rfl rfl ?_
    refine mgoto 19 G4 d9_75 (by decide) rfl ?_
    refine miloadN 20 G4 d9_19 rfl rfl ?_
    refine miload 22 G4 d9_20 rfl rfl ?_
    refine mior 23 G4 d9_22 (v := (4 : Int32)) rfl rfl ?_
    refine mistore 25 G4 d9_23 #[iv (7 : Int32), iv (4 : Int32), rv o2, rv o3, iv (3 : Int32), lv (rv11 (rv11 (0 : Int64) l6_) l5_), .second, iv (0 : Int32), iv (4 : Int32)] rfl rfl ?_
    refine miload 27 G4 d9_25 rfl rfl ?_
    refine st5 _ ?_
    show Steps p.tables e below (T5.setTop (mkF m 30 #[iv (7 : Int32), iv (4 : Int32), rv o2, rv o3, iv (3 : Int32), lv (rv11 (rv11 (0 : Int64) l6_) l5_), .second, iv (0 : Int32), iv (4 : Int32)] [(.int (0 : Int32))])) _
    refine miconst 31 G5 d9_30 (v := (2 : Int32)) rfl rfl ?_
    refine mirem 32 G5 d9_31 (by decide) (v := (0 : Int32)) rfl rfl ?_
    refine mifNo 35 G5 d9_32 ((if0 _ _).trans (teq (by decide : (0 : Int32) = (0 : Int32))).2) rfl ?_
    refine mlload 37 G5 d9_35 rfl rfl ?_
    refine maloadN 38 G5 d9_37 rfl rfl rfl ?_
    refine miload 40 G5 d9_38 rfl rfl ?_
    refine mlaload 41 X5 hx hby hZ e5 V_o3 (v := h4_) d9_40 ⟨by decide, by decide⟩ rfl rfl ?_
    refine st6 _ ?_
    show Steps p.tables e below (T6.setTop (mkF m 44 #[iv (7 : Int32), iv (4 : Int32), rv o2, rv o3, iv (3 : Int32), lv (rv11 (rv11 (0 : Int64) l6_) l5_), .second, iv (0 : Int32), iv (4 : Int32)] [(.long (rv10 (rv11 (rv11 (0 : Int64) l6_) l5_) h4_))])) _
    refine mgoto 56 G6 d9_44 (by decide) rfl ?_
    refine mlstore 58 G6 d9_56 #[iv (7 : Int32), iv (4 : Int32), rv o2, rv o3, iv (3 : Int32), lv (rv10 (rv11 (rv11 (0 : Int64) l6_) l5_) h4_), .second, iv (0 : Int32), iv (4 : Int32)] rfl rfl ?_
    refine miload 60 G6 d9_58 rfl rfl ?_
    refine mifNo 63 G6 d9_60 ((if0 _ _).trans (teq (by decide : (0 : Int32) = (0 : Int32))).2) rfl ?_
    refine mgoto 78 G6 d9_63 (by decide) rfl ?_
    refine mlload 80 G6 d9_78 rfl rfl ?_
    exact retOut X6 hx Bd.returns rfl (Or.inr (Or.inl ⟨rfl, rfl, _, rfl⟩)) (hb hby d9_80) hr
  · show Q9_4 Z o2 o3 l0_ l1_ l2_ l3_ l4_ l5_ l6_ l7_ h0_ h1_ h2_ h3_ h4_ h5_ h6_ h7_ k1 k2 h0 n0 _ T6.heap _
    rw [e6]
    exact ⟨by simp only [rv9_4], rfl, rfl⟩
theorem ef9_5 (m : MethodId) (o2 : Addr) (o3 : Addr) : entryFrame m #[(.int (7 : Int32)), (.int (5 : Int32)), (.ref o2), (.ref o3)] 9 = mkF m 0 #[iv (7 : Int32), iv (5 : Int32), rv o2, rv o3, .unset, .unset, .unset, .unset, .unset] [] := by first | (simp [entryFrame, mkF, argsToLocals, Value.category]; done) | rfl
abbrev room_of_9_5 : Room := { frames := 1, cells := 0, slots := 0, locals := 17 }
def rv9_5 (h5_ : Int64) : Int64 := (rv10 (0 : Int64) h5_)
def Q9_5 (Z : State) (o2 : Addr) (o3 : Addr) (l0_ : Int64) (l1_ : Int64) (l2_ : Int64) (l3_ : Int64) (l4_ : Int64) (l5_ : Int64) (l6_ : Int64) (l7_ : Int64) (h0_ : Int64) (h1_ : Int64) (h2_ : Int64) (h3_ : Int64) (h4_ : Int64) (h5_ : Int64) (h6_ : Int64) (h7_ : Int64) (k1 : ClassId) (k2 : ClassId) (h0 : Heap) (n0 : Nat) (v : Option Value) (h : Heap) (L : List Loc) : Prop := v = some (.long (rv9_5 h5_)) ∧ L = [] ∧ h = h0
theorem own_rm9_5_hp_hin_41 (o2 : Addr) (o3 : Addr) (l0_ : Int64) (l1_ : Int64) (l2_ : Int64) (l3_ : Int64) (l4_ : Int64) (l5_ : Int64) (l6_ : Int64) (l7_ : Int64) (h0_ : Int64) (h1_ : Int64) (h2_ : Int64) (h3_ : Int64) (h4_ : Int64) (h5_ : Int64) (h6_ : Int64) (h7_ : Int64) (k1 : ClassId) (k2 : ClassId) (hlq : own_BL [l0_, l1_, l2_, l3_, l4_, l5_, l6_, l7_]) (hhq : own_BL [h0_, h1_, h2_, h3_, h4_, h5_, h6_, h7_]) : own_fitA (0 : Int64) h5_ := own_fA own_b0 (hhq _ (List.mem_of_getElem? (i := 5) rfl)) (by decide)
set_option maxRecDepth 65536 in
set_option maxHeartbeats 40000000 in
theorem rm9_5 (l : Launch) (Z : State) (a0 : Array Value) (hw : ∀ d ∈ tables_1, d.before a0 Z = true) (ws : List Jvm.Cond) (o2 : Addr) (o3 : Addr) {l0_ : Int64} {l1_ : Int64} {l2_ : Int64} {l3_ : Int64} {l4_ : Int64} {l5_ : Int64} {l6_ : Int64} {l7_ : Int64} {h0_ : Int64} {h1_ : Int64} {h2_ : Int64} {h3_ : Int64} {h4_ : Int64} {h5_ : Int64} {h6_ : Int64} {h7_ : Int64} {k1 : ClassId} {k2 : ClassId} (h0 : Heap) (n0 : Nat) (Z0 : n0 ≤ h0.size) (hlq : own_BL [l0_, l1_, l2_, l3_, l4_, l5_, l6_, l7_]) (hhq : own_BL [h0_, h1_, h2_, h3_, h4_, h5_, h6_, h7_]) (V_o2 : Arv Z h0 o2 k1 .long (8 : Int32) [(.long l0_), (.long l1_), (.long l2_), (.long l3_), (.long l4_), (.long l5_), (.long l6_), (.long l7_)] (.long (0 : Int64))) (V_o3 : Arv Z h0 o3 k2 .long (8 : Int32) [(.long h0_), (.long h1_), (.long h2_), (.long h3_), (.long h4_), (.long h5_), (.long h6_), (.long h7_)] (.long (0 : Int64))) :
    MetFree l (⟨"com/example/tempe/tempe/estimate/CountBracket", "highestRest", "(II[J[J)J"⟩ : MethodName) (head1 (Jvm.Cond.code (⟨"com/example/tempe/tempe/estimate/CountBracket", "highestRest", "(II[J[J)J"⟩ : MethodName) prog_7_method_9_code 9 (some .long) :: ws) (room_of_9_5)) (fun a U => a = #[(.int (7 : Int32)), (.int (5 : Int32)), (.ref o2), (.ref o3)] ∧ Z.Warmed39 U.vm ∧ U.heap = h0) (fun _ _ _ _ _ => True) (fun _ U o U' => ∃ v L, o = .returned v ∧ Q9_5 Z o2 o3 l0_ l1_ l2_ l3_ l4_ l5_ l6_ l7_ h0_ h1_ h2_ h3_ h4_ h5_ h6_ h7_ k1 k2 h0 n0 v U'.heap L ∧ FrameEnd U o U' L (room_of_9_5).cells (room_of_9_5).slots) := by
  refine MetFree.of_bodySF (plainFor_of_name pn_9) hisR ?_
  intro p e s m args below meth c s₁ Bd hml0 hP hK
  obtain ⟨rfl, hZ, hh⟩ := hP
  have hx := Bd.exec
  have hby := Bd.bytes
  have hml : c.maxLocals = 9 := hml0
  have hown : s.vm.findClass "com/example/tempe/tempe/estimate/CountBracket" = some m.cls := findClass_of_methodNamed Bd.named
  have hnm := (name_of_methodNamed Bd.named Bd.method).1
  have X0 : Stand p l e (room_of_9_5) s m #[(.int (7 : Int32)), (.int (5 : Int32)), (.ref o2), (.ref o3)] below meth c s₁ [] 0 0 := Stand.of_body Bd
  have e0 : s₁.heap = h0 := by rw [← hh, Bd.state]; rfl
  have N0 := Fr.nil n0
  have G0 := gd X0 hx hby
  have pre0 : ∀ t, Steps p.tables e below (s₁.setTop (mkF m 0 #[iv (7 : Int32), iv (5 : Int32), rv o2, rv o3, .unset, .unset, .unset, .unset, .unset] [])) t → Steps p.tables e below (s₁.setTop (entryFrame m #[(.int (7 : Int32)), (.int (5 : Int32)), (.ref o2), (.ref o3)] 9)) t := fun t k => castTop (ef9_5 m o2 o3) k
  obtain ⟨_, _, ⟨T1, L1, k1, n1⟩, -, X1, ⟨Lc1, hQ1, l1, y1, z1⟩, st1⟩ := Jvm.LawKit.callS X0 hx (y := (⟨"java/lang/Integer", "bitCount", "(I)I"⟩ : MethodName)) hown (mvT hZ (wd hw 36 rfl)) (mvT hZ (wd hw 37 rfl)) (mvT hZ (wd hw 38 rfl)) (mvT hZ (wd hw 39 rfl)) (by decide) (backOf (W := 0) (rm8_0 l Z a0 hw []  h0 n0 Z0 ) hZ (wd hw 39 rfl) (wd hw 38 rfl) (by decide) (by decide)) (g := (mkF m 27 #[iv (7 : Int32), iv (5 : Int32), rv o2, rv o3, iv (2 : Int32), lv (0 : Int64), .second, iv (0 : Int32), iv (5 : Int32)] [(.int (0 : Int32))])) rfl (by rw [hml]; rfl) (argsL := [(.int (0 : Int32))]) (rest := []) (lenOf pd_0 rfl) rfl (by show 2 * 0 + _ ≤ _; exact Nat.le_of_eq rfl) (hb hby d9_27) (fun _ _ => ⟨rfl, e0, (by decide : 0 + 0 ≤ _), (by decide : 0 + 0 ≤ _)⟩)
  dsimp only [Pt.U, Pt.locs, Pt.cells, Pt.slots] at X1 l1 y1 z1 st1 hQ1
  replace l1 : ([] ++ Lc1) = L1 := l1.symm
  subst l1 y1 z1
  obtain ⟨rfl, rfl, e1⟩ := hQ1
  simp only [List.append_nil, Nat.add_zero] at X1
  have G1 := gd X1 hx hby
  obtain ⟨_, _, ⟨T2, L2, k2, n2⟩, -, X2, ⟨Lc2, hQ2, l2, y2, z2⟩, st2⟩ := Jvm.LawKit.callS X1 hx (y := (⟨"java/lang/Math", "addExact", "(JJ)J"⟩ : MethodName)) hown (mvT hZ (wd hw 47 rfl)) (mvT hZ (wd hw 48 rfl)) (mvT hZ (wd hw 9 rfl)) (mvT hZ (wd hw 49 rfl)) (by decide) (backOf (W := 0) (rm10 l Z a0 hw [] (0 : Int64) h5_ h0 n0 Z0 (own_rm9_5_hp_hin_41 o2 o3 l0_ l1_ l2_ l3_ l4_ l5_ l6_ l7_ h0_ h1_ h2_ h3_ h4_ h5_ h6_ h7_ k1 k2 hlq hhq)) hZ (wd hw 49 rfl) (wd hw 9 rfl) (by decide) (by decide)) (g := (mkF m 41 #[iv (7 : Int32), iv (5 : Int32), rv o2, rv o3, iv (2 : Int32), lv (0 : Int64), .second, iv (0 : Int32), iv (5 : Int32)] [(.long h5_), (.long (0 : Int64))])) rfl (by rw [hml]; rfl) (argsL := [(.long (0 : Int64)), (.long h5_)]) (rest := []) (lenOf pd_1 rfl) rfl (by show 2 * 0 + _ ≤ _; exact Nat.le_of_eq rfl) (hb hby d9_41) (fun _ _ => ⟨rfl, e1, (by decide : 0 + 0 ≤ _), (by decide : 0 + 0 ≤ _)⟩)
  dsimp only [Pt.U, Pt.locs, Pt.cells, Pt.slots] at X2 l2 y2 z2 st2 hQ2
  replace l2 : ([] ++ Lc2) = L2 := l2.symm
  subst l2 y2 z2
  obtain ⟨rfl, rfl, e2⟩ := hQ2
  simp only [List.append_nil, Nat.add_zero] at X2
  have G2 := gd X2 hx hby
  obtain ⟨fs, hr, hrun, hended, hW, hsame⟩ := X2.leave (v := some (.long (rv10 (0 : Int64) h5_))) (fun h => by rw [Bd.returns] at h; cases h)
  refine ⟨_, _, pre0 _ ?_, hrun, hended, _, _, rfl, ?_, ⟨_, rfl⟩, hW, hsame.mono (by decide) (by decide)⟩
  · show Steps p.tables e below (s₁.setTop (mkF m 0 #[iv (7 : Int32), iv (5 : Int32), rv o2, rv o3, .unset, .unset, .unset, .unset, .unset] [])) _
    refine miloadN 1 G0 d9_0 rfl rfl ?_
    refine miloadN 2 G0 d9_1 rfl rfl ?_
    refine miconst 3 G0 d9_2 (v := (-1 : Int32)) rfl rfl ?_
    refine mixor 4 G0 d9_3 (v := (-6 : Int32)) rfl rfl ?_
    refine miand 5 G0 d9_4 (v := (2 : Int32)) rfl rfl ?_
    refine mistore 7 G0 d9_5 #[iv (7 : Int32), iv (5 : Int32), rv o2, rv o3, iv (2 : Int32), .unset, .unset, .unset, .unset] rfl rfl ?_
    refine mlconst 8 G0 d9_7 (v := (0 : Int64)) rfl rfl ?_
    refine mlstore 10 G0 d9_8 #[iv (7 : Int32), iv (5 : Int32), rv o2, rv o3, iv (2 : Int32), lv (0 : Int64), .second, .unset, .unset] rfl rfl ?_
    refine miload 12 G0 d9_10 rfl rfl ?_
    refine miload 14 G0 d9_12 rfl rfl ?_
    refine miconst 15 G0 d9_14 (v := (1 : Int32)) rfl rfl ?_
    refine misub 16 G0 d9_15 (v := (1 : Int32)) rfl rfl ?_
    refine miand 17 G0 d9_16 (v := (0 : Int32)) rfl rfl ?_
    refine mistore 19 G0 d9_17 #[iv (7 : Int32), iv (5 : Int32), rv o2, rv o3, iv (2 : Int32), lv (0 : Int64), .second, iv (0 : Int32), .unset] rfl rfl ?_
    refine miloadN 20 G0 d9_19 rfl rfl ?_
    refine miload 22 G0 d9_20 rfl rfl ?_
    refine mior 23 G0 d9_22 (v := (5 : Int32)) rfl rfl ?_
    refine mistore 25 G0 d9_23 #[iv (7 : Int32), iv (5 : Int32), rv o2, rv o3, iv (2 : Int32), lv (0 : Int64), .second, iv (0 : Int32), iv (5 : Int32)] rfl rfl ?_
    refine miload 27 G0 d9_25 rfl rfl ?_
    refine st1 _ ?_
    show Steps p.tables e below (T1.setTop (mkF m 30 #[iv (7 : Int32), iv (5 : Int32), rv o2, rv o3, iv (2 : Int32), lv (0 : Int64), .second, iv (0 : Int32), iv (5 : Int32)] [(.int (0 : Int32))])) _
    refine miconst 31 G1 d9_30 (v := (2 : Int32)) rfl rfl ?_
    refine mirem 32 G1 d9_31 (by decide) (v := (0 : Int32)) rfl rfl ?_
    refine mifNo 35 G1 d9_32 ((if0 _ _).trans (teq (by decide : (0 : Int32) = (0 : Int32))).2) rfl ?_
    refine mlload 37 G1 d9_35 rfl rfl ?_
    refine maloadN 38 G1 d9_37 rfl rfl rfl ?_
    refine miload 40 G1 d9_38 rfl rfl ?_
    refine mlaload 41 X1 hx hby hZ e1 V_o3 (v := h5_) d9_40 ⟨by decide, by decide⟩ rfl rfl ?_
    refine st2 _ ?_
    show Steps p.tables e below (T2.setTop (mkF m 44 #[iv (7 : Int32), iv (5 : Int32), rv o2, rv o3, iv (2 : Int32), lv (0 : Int64), .second, iv (0 : Int32), iv (5 : Int32)] [(.long (rv10 (0 : Int64) h5_))])) _
    refine mgoto 56 G2 d9_44 (by decide) rfl ?_
    refine mlstore 58 G2 d9_56 #[iv (7 : Int32), iv (5 : Int32), rv o2, rv o3, iv (2 : Int32), lv (rv10 (0 : Int64) h5_), .second, iv (0 : Int32), iv (5 : Int32)] rfl rfl ?_
    refine miload 60 G2 d9_58 rfl rfl ?_
    refine mifNo 63 G2 d9_60 ((if0 _ _).trans (teq (by decide : (0 : Int32) = (0 : Int32))).2) rfl ?_
    refine mgoto 78 G2 d9_63 (by decide) rfl ?_
    refine mlload 80 G2 d9_78 rfl rfl ?_
    exact retOut X2 hx Bd.returns rfl (Or.inr (Or.inl ⟨rfl, rfl, _, rfl⟩)) (hb hby d9_80) hr
  · show Q9_5 Z o2 o3 l0_ l1_ l2_ l3_ l4_ l5_ l6_ l7_ h0_ h1_ h2_ h3_ h4_ h5_ h6_ h7_ k1 k2 h0 n0 _ T2.heap _
    rw [e2]
    exact ⟨by simp only [rv9_5], rfl, rfl⟩
theorem ef9_6 (m : MethodId) (o2 : Addr) (o3 : Addr) : entryFrame m #[(.int (7 : Int32)), (.int (6 : Int32)), (.ref o2), (.ref o3)] 9 = mkF m 0 #[iv (7 : Int32), iv (6 : Int32), rv o2, rv o3, .unset, .unset, .unset, .unset, .unset] [] := by first | (simp [entryFrame, mkF, argsToLocals, Value.category]; done) | rfl
abbrev room_of_9_6 : Room := { frames := 1, cells := 0, slots := 0, locals := 17 }
def rv9_6 (h6_ : Int64) : Int64 := (rv10 (0 : Int64) h6_)
def Q9_6 (Z : State) (o2 : Addr) (o3 : Addr) (l0_ : Int64) (l1_ : Int64) (l2_ : Int64) (l3_ : Int64) (l4_ : Int64) (l5_ : Int64) (l6_ : Int64) (l7_ : Int64) (h0_ : Int64) (h1_ : Int64) (h2_ : Int64) (h3_ : Int64) (h4_ : Int64) (h5_ : Int64) (h6_ : Int64) (h7_ : Int64) (k1 : ClassId) (k2 : ClassId) (h0 : Heap) (n0 : Nat) (v : Option Value) (h : Heap) (L : List Loc) : Prop := v = some (.long (rv9_6 h6_)) ∧ L = [] ∧ h = h0
theorem own_rm9_6_hp_hin_41 (o2 : Addr) (o3 : Addr) (l0_ : Int64) (l1_ : Int64) (l2_ : Int64) (l3_ : Int64) (l4_ : Int64) (l5_ : Int64) (l6_ : Int64) (l7_ : Int64) (h0_ : Int64) (h1_ : Int64) (h2_ : Int64) (h3_ : Int64) (h4_ : Int64) (h5_ : Int64) (h6_ : Int64) (h7_ : Int64) (k1 : ClassId) (k2 : ClassId) (hlq : own_BL [l0_, l1_, l2_, l3_, l4_, l5_, l6_, l7_]) (hhq : own_BL [h0_, h1_, h2_, h3_, h4_, h5_, h6_, h7_]) : own_fitA (0 : Int64) h6_ := own_fA own_b0 (hhq _ (List.mem_of_getElem? (i := 6) rfl)) (by decide)
set_option maxRecDepth 65536 in
set_option maxHeartbeats 40000000 in
theorem rm9_6 (l : Launch) (Z : State) (a0 : Array Value) (hw : ∀ d ∈ tables_1, d.before a0 Z = true) (ws : List Jvm.Cond) (o2 : Addr) (o3 : Addr) {l0_ : Int64} {l1_ : Int64} {l2_ : Int64} {l3_ : Int64} {l4_ : Int64} {l5_ : Int64} {l6_ : Int64} {l7_ : Int64} {h0_ : Int64} {h1_ : Int64} {h2_ : Int64} {h3_ : Int64} {h4_ : Int64} {h5_ : Int64} {h6_ : Int64} {h7_ : Int64} {k1 : ClassId} {k2 : ClassId} (h0 : Heap) (n0 : Nat) (Z0 : n0 ≤ h0.size) (hlq : own_BL [l0_, l1_, l2_, l3_, l4_, l5_, l6_, l7_]) (hhq : own_BL [h0_, h1_, h2_, h3_, h4_, h5_, h6_, h7_]) (V_o2 : Arv Z h0 o2 k1 .long (8 : Int32) [(.long l0_), (.long l1_), (.long l2_), (.long l3_), (.long l4_), (.long l5_), (.long l6_), (.long l7_)] (.long (0 : Int64))) (V_o3 : Arv Z h0 o3 k2 .long (8 : Int32) [(.long h0_), (.long h1_), (.long h2_), (.long h3_), (.long h4_), (.long h5_), (.long h6_), (.long h7_)] (.long (0 : Int64))) :
    MetFree l (⟨"com/example/tempe/tempe/estimate/CountBracket", "highestRest", "(II[J[J)J"⟩ : MethodName) (head1 (Jvm.Cond.code (⟨"com/example/tempe/tempe/estimate/CountBracket", "highestRest", "(II[J[J)J"⟩ : MethodName) prog_7_method_9_code 9 (some .long) :: ws) (room_of_9_6)) (fun a U => a = #[(.int (7 : Int32)), (.int (6 : Int32)), (.ref o2), (.ref o3)] ∧ Z.Warmed39 U.vm ∧ U.heap = h0) (fun _ _ _ _ _ => True) (fun _ U o U' => ∃ v L, o = .returned v ∧ Q9_6 Z o2 o3 l0_ l1_ l2_ l3_ l4_ l5_ l6_ l7_ h0_ h1_ h2_ h3_ h4_ h5_ h6_ h7_ k1 k2 h0 n0 v U'.heap L ∧ FrameEnd U o U' L (room_of_9_6).cells (room_of_9_6).slots) := by
  refine MetFree.of_bodySF (plainFor_of_name pn_9) hisR ?_
  intro p e s m args below meth c s₁ Bd hml0 hP hK
  obtain ⟨rfl, hZ, hh⟩ := hP
  have hx := Bd.exec
  have hby := Bd.bytes
  have hml : c.maxLocals = 9 := hml0
  have hown : s.vm.findClass "com/example/tempe/tempe/estimate/CountBracket" = some m.cls := findClass_of_methodNamed Bd.named
  have hnm := (name_of_methodNamed Bd.named Bd.method).1
  have X0 : Stand p l e (room_of_9_6) s m #[(.int (7 : Int32)), (.int (6 : Int32)), (.ref o2), (.ref o3)] below meth c s₁ [] 0 0 := Stand.of_body Bd
  have e0 : s₁.heap = h0 := by rw [← hh, Bd.state]; rfl
  have N0 := Fr.nil n0
  have G0 := gd X0 hx hby
  have pre0 : ∀ t, Steps p.tables e below (s₁.setTop (mkF m 0 #[iv (7 : Int32), iv (6 : Int32), rv o2, rv o3, .unset, .unset, .unset, .unset, .unset] [])) t → Steps p.tables e below (s₁.setTop (entryFrame m #[(.int (7 : Int32)), (.int (6 : Int32)), (.ref o2), (.ref o3)] 9)) t := fun t k => castTop (ef9_6 m o2 o3) k
  obtain ⟨_, _, ⟨T1, L1, k1, n1⟩, -, X1, ⟨Lc1, hQ1, l1, y1, z1⟩, st1⟩ := Jvm.LawKit.callS X0 hx (y := (⟨"java/lang/Integer", "bitCount", "(I)I"⟩ : MethodName)) hown (mvT hZ (wd hw 36 rfl)) (mvT hZ (wd hw 37 rfl)) (mvT hZ (wd hw 38 rfl)) (mvT hZ (wd hw 39 rfl)) (by decide) (backOf (W := 0) (rm8_0 l Z a0 hw []  h0 n0 Z0 ) hZ (wd hw 39 rfl) (wd hw 38 rfl) (by decide) (by decide)) (g := (mkF m 27 #[iv (7 : Int32), iv (6 : Int32), rv o2, rv o3, iv (1 : Int32), lv (0 : Int64), .second, iv (0 : Int32), iv (6 : Int32)] [(.int (0 : Int32))])) rfl (by rw [hml]; rfl) (argsL := [(.int (0 : Int32))]) (rest := []) (lenOf pd_0 rfl) rfl (by show 2 * 0 + _ ≤ _; exact Nat.le_of_eq rfl) (hb hby d9_27) (fun _ _ => ⟨rfl, e0, (by decide : 0 + 0 ≤ _), (by decide : 0 + 0 ≤ _)⟩)
  dsimp only [Pt.U, Pt.locs, Pt.cells, Pt.slots] at X1 l1 y1 z1 st1 hQ1
  replace l1 : ([] ++ Lc1) = L1 := l1.symm
  subst l1 y1 z1
  obtain ⟨rfl, rfl, e1⟩ := hQ1
  simp only [List.append_nil, Nat.add_zero] at X1
  have G1 := gd X1 hx hby
  obtain ⟨_, _, ⟨T2, L2, k2, n2⟩, -, X2, ⟨Lc2, hQ2, l2, y2, z2⟩, st2⟩ := Jvm.LawKit.callS X1 hx (y := (⟨"java/lang/Math", "addExact", "(JJ)J"⟩ : MethodName)) hown (mvT hZ (wd hw 47 rfl)) (mvT hZ (wd hw 48 rfl)) (mvT hZ (wd hw 9 rfl)) (mvT hZ (wd hw 49 rfl)) (by decide) (backOf (W := 0) (rm10 l Z a0 hw [] (0 : Int64) h6_ h0 n0 Z0 (own_rm9_6_hp_hin_41 o2 o3 l0_ l1_ l2_ l3_ l4_ l5_ l6_ l7_ h0_ h1_ h2_ h3_ h4_ h5_ h6_ h7_ k1 k2 hlq hhq)) hZ (wd hw 49 rfl) (wd hw 9 rfl) (by decide) (by decide)) (g := (mkF m 41 #[iv (7 : Int32), iv (6 : Int32), rv o2, rv o3, iv (1 : Int32), lv (0 : Int64), .second, iv (0 : Int32), iv (6 : Int32)] [(.long h6_), (.long (0 : Int64))])) rfl (by rw [hml]; rfl) (argsL := [(.long (0 : Int64)), (.long h6_)]) (rest := []) (lenOf pd_1 rfl) rfl (by show 2 * 0 + _ ≤ _; exact Nat.le_of_eq rfl) (hb hby d9_41) (fun _ _ => ⟨rfl, e1, (by decide : 0 + 0 ≤ _), (by decide : 0 + 0 ≤ _)⟩)
  dsimp only [Pt.U, Pt.locs, Pt.cells, Pt.slots] at X2 l2 y2 z2 st2 hQ2
  replace l2 : ([] ++ Lc2) = L2 := l2.symm
  subst l2 y2 z2
  obtain ⟨rfl, rfl, e2⟩ := hQ2
  simp only [List.append_nil, Nat.add_zero] at X2
  have G2 := gd X2 hx hby
  obtain ⟨fs, hr, hrun, hended, hW, hsame⟩ := X2.leave (v := some (.long (rv10 (0 : Int64) h6_))) (fun h => by rw [Bd.returns] at h; cases h)
  refine ⟨_, _, pre0 _ ?_, hrun, hended, _, _, rfl, ?_, ⟨_, rfl⟩, hW, hsame.mono (by decide) (by decide)⟩
  · show Steps p.tables e below (s₁.setTop (mkF m 0 #[iv (7 : Int32), iv (6 : Int32), rv o2, rv o3, .unset, .unset, .unset, .unset, .unset] [])) _
    refine miloadN 1 G0 d9_0 rfl rfl ?_
    refine miloadN 2 G0 d9_1 rfl rfl ?_
    refine miconst 3 G0 d9_2 (v := (-1 : Int32)) rfl rfl ?_
    refine mixor 4 G0 d9_3 (v := (-7 : Int32)) rfl rfl ?_
    refine miand 5 G0 d9_4 (v := (1 : Int32)) rfl rfl ?_
    refine mistore 7 G0 d9_5 #[iv (7 : Int32), iv (6 : Int32), rv o2, rv o3, iv (1 : Int32), .unset, .unset, .unset, .unset] rfl rfl ?_
    refine mlconst 8 G0 d9_7 (v := (0 : Int64)) rfl rfl ?_
    refine mlstore 10 G0 d9_8 #[iv (7 : Int32), iv (6 : Int32), rv o2, rv o3, iv (1 : Int32), lv (0 : Int64), .second, .unset, .unset] rfl rfl ?_
    refine miload 12 G0 d9_10 rfl rfl ?_
    refine miload 14 G0 d9_12 rfl rfl ?_
    refine miconst 15 G0 d9_14 (v := (1 : Int32)) rfl rfl ?_
    refine misub 16 G0 d9_15 (v := (0 : Int32)) rfl rfl ?_
    refine miand 17 G0 d9_16 (v := (0 : Int32)) rfl rfl ?_
    refine mistore 19 G0 d9_17 #[iv (7 : Int32), iv (6 : Int32), rv o2, rv o3, iv (1 : Int32), lv (0 : Int64), .second, iv (0 : Int32), .unset] rfl rfl ?_
    refine miloadN 20 G0 d9_19 rfl rfl ?_
    refine miload 22 G0 d9_20 rfl rfl ?_
    refine mior 23 G0 d9_22 (v := (6 : Int32)) rfl rfl ?_
    refine mistore 25 G0 d9_23 #[iv (7 : Int32), iv (6 : Int32), rv o2, rv o3, iv (1 : Int32), lv (0 : Int64), .second, iv (0 : Int32), iv (6 : Int32)] rfl rfl ?_
    refine miload 27 G0 d9_25 rfl rfl ?_
    refine st1 _ ?_
    show Steps p.tables e below (T1.setTop (mkF m 30 #[iv (7 : Int32), iv (6 : Int32), rv o2, rv o3, iv (1 : Int32), lv (0 : Int64), .second, iv (0 : Int32), iv (6 : Int32)] [(.int (0 : Int32))])) _
    refine miconst 31 G1 d9_30 (v := (2 : Int32)) rfl rfl ?_
    refine mirem 32 G1 d9_31 (by decide) (v := (0 : Int32)) rfl rfl ?_
    refine mifNo 35 G1 d9_32 ((if0 _ _).trans (teq (by decide : (0 : Int32) = (0 : Int32))).2) rfl ?_
    refine mlload 37 G1 d9_35 rfl rfl ?_
    refine maloadN 38 G1 d9_37 rfl rfl rfl ?_
    refine miload 40 G1 d9_38 rfl rfl ?_
    refine mlaload 41 X1 hx hby hZ e1 V_o3 (v := h6_) d9_40 ⟨by decide, by decide⟩ rfl rfl ?_
    refine st2 _ ?_
    show Steps p.tables e below (T2.setTop (mkF m 44 #[iv (7 : Int32), iv (6 : Int32), rv o2, rv o3, iv (1 : Int32), lv (0 : Int64), .second, iv (0 : Int32), iv (6 : Int32)] [(.long (rv10 (0 : Int64) h6_))])) _
    refine mgoto 56 G2 d9_44 (by decide) rfl ?_
    refine mlstore 58 G2 d9_56 #[iv (7 : Int32), iv (6 : Int32), rv o2, rv o3, iv (1 : Int32), lv (rv10 (0 : Int64) h6_), .second, iv (0 : Int32), iv (6 : Int32)] rfl rfl ?_
    refine miload 60 G2 d9_58 rfl rfl ?_
    refine mifNo 63 G2 d9_60 ((if0 _ _).trans (teq (by decide : (0 : Int32) = (0 : Int32))).2) rfl ?_
    refine mgoto 78 G2 d9_63 (by decide) rfl ?_
    refine mlload 80 G2 d9_78 rfl rfl ?_
    exact retOut X2 hx Bd.returns rfl (Or.inr (Or.inl ⟨rfl, rfl, _, rfl⟩)) (hb hby d9_80) hr
  · show Q9_6 Z o2 o3 l0_ l1_ l2_ l3_ l4_ l5_ l6_ l7_ h0_ h1_ h2_ h3_ h4_ h5_ h6_ h7_ k1 k2 h0 n0 _ T2.heap _
    rw [e2]
    exact ⟨by simp only [rv9_6], rfl, rfl⟩
theorem d6_0 : decode prog_9_method_3_code 0 = .ok (.aload_n 0, 1) := by decide +kernel
theorem d6_1 : decode prog_9_method_3_code 1 = .ok (.iconst 1, 1) := by decide +kernel
theorem d6_2 : decode prog_9_method_3_code 2 = .ok (.iload_n 1, 1) := by decide +kernel
theorem d6_3 : decode prog_9_method_3_code 3 = .ok (.ishl, 1) := by decide +kernel
theorem d6_4 : decode prog_9_method_3_code 4 = .ok (.iconst 1, 1) := by decide +kernel
theorem d6_5 : decode prog_9_method_3_code 5 = .ok (.iload_n 2, 1) := by decide +kernel
theorem d6_6 : decode prog_9_method_3_code 6 = .ok (.ishl, 1) := by decide +kernel
theorem d6_7 : decode prog_9_method_3_code 7 = .ok (.ior, 1) := by decide +kernel
theorem d6_8 : decode prog_9_method_3_code 8 = .ok (.laload, 1) := by decide +kernel
theorem d6_9 : decode prog_9_method_3_code 9 = .ok (.lstore_n 3, 1) := by decide +kernel
theorem d6_10 : decode prog_9_method_3_code 10 = .ok (.aload_n 0, 1) := by decide +kernel
theorem d6_11 : decode prog_9_method_3_code 11 = .ok (.iconst 1, 1) := by decide +kernel
theorem d6_12 : decode prog_9_method_3_code 12 = .ok (.iload_n 1, 1) := by decide +kernel
theorem d6_13 : decode prog_9_method_3_code 13 = .ok (.ishl, 1) := by decide +kernel
theorem d6_14 : decode prog_9_method_3_code 14 = .ok (.laload, 1) := by decide +kernel
theorem d6_15 : decode prog_9_method_3_code 15 = .ok (.lload_n 3, 1) := by decide +kernel
theorem d6_16 : decode prog_9_method_3_code 16 = .ok (.lsub, 1) := by decide +kernel
theorem d6_17 : decode prog_9_method_3_code 17 = .ok (.lstore 5, 2) := by decide +kernel
theorem d6_19 : decode prog_9_method_3_code 19 = .ok (.aload_n 0, 1) := by decide +kernel
theorem d6_20 : decode prog_9_method_3_code 20 = .ok (.iconst 1, 1) := by decide +kernel
theorem d6_21 : decode prog_9_method_3_code 21 = .ok (.iload_n 2, 1) := by decide +kernel
theorem d6_22 : decode prog_9_method_3_code 22 = .ok (.ishl, 1) := by decide +kernel
theorem d6_23 : decode prog_9_method_3_code 23 = .ok (.laload, 1) := by decide +kernel
theorem d6_24 : decode prog_9_method_3_code 24 = .ok (.lload_n 3, 1) := by decide +kernel
theorem d6_25 : decode prog_9_method_3_code 25 = .ok (.lsub, 1) := by decide +kernel
theorem d6_26 : decode prog_9_method_3_code 26 = .ok (.lstore 7, 2) := by decide +kernel
theorem d6_28 : decode prog_9_method_3_code 28 = .ok (.aload_n 0, 1) := by decide +kernel
theorem d6_29 : decode prog_9_method_3_code 29 = .ok (.iconst 0, 1) := by decide +kernel
theorem d6_30 : decode prog_9_method_3_code 30 = .ok (.laload, 1) := by decide +kernel
theorem d6_31 : decode prog_9_method_3_code 31 = .ok (.aload_n 0, 1) := by decide +kernel
theorem d6_32 : decode prog_9_method_3_code 32 = .ok (.iconst 1, 1) := by decide +kernel
theorem d6_33 : decode prog_9_method_3_code 33 = .ok (.iload_n 1, 1) := by decide +kernel
theorem d6_34 : decode prog_9_method_3_code 34 = .ok (.ishl, 1) := by decide +kernel
theorem d6_35 : decode prog_9_method_3_code 35 = .ok (.laload, 1) := by decide +kernel
theorem d6_36 : decode prog_9_method_3_code 36 = .ok (.lsub, 1) := by decide +kernel
theorem d6_37 : decode prog_9_method_3_code 37 = .ok (.lload 7, 2) := by decide +kernel
theorem d6_39 : decode prog_9_method_3_code 39 = .ok (.lsub, 1) := by decide +kernel
theorem d6_40 : decode prog_9_method_3_code 40 = .ok (.lstore 9, 2) := by decide +kernel
theorem d6_42 : decode prog_9_method_3_code 42 = .ok (.lload_n 3, 1) := by decide +kernel
theorem d6_43 : decode prog_9_method_3_code 43 = .ok (.lconst 0, 1) := by decide +kernel
theorem d6_44 : decode prog_9_method_3_code 44 = .ok (.lcmp, 1) := by decide +kernel
theorem d6_45 : decode prog_9_method_3_code 45 = .ok (.ifCond .lt 24, 3) := by decide +kernel
theorem d6_48 : decode prog_9_method_3_code 48 = .ok (.lload 5, 2) := by decide +kernel
theorem d6_50 : decode prog_9_method_3_code 50 = .ok (.lconst 0, 1) := by decide +kernel
theorem d6_51 : decode prog_9_method_3_code 51 = .ok (.lcmp, 1) := by decide +kernel
theorem d6_52 : decode prog_9_method_3_code 52 = .ok (.ifCond .lt 17, 3) := by decide +kernel
theorem d6_55 : decode prog_9_method_3_code 55 = .ok (.lload 7, 2) := by decide +kernel
theorem d6_57 : decode prog_9_method_3_code 57 = .ok (.lconst 0, 1) := by decide +kernel
theorem d6_58 : decode prog_9_method_3_code 58 = .ok (.lcmp, 1) := by decide +kernel
theorem d6_59 : decode prog_9_method_3_code 59 = .ok (.ifCond .lt 10, 3) := by decide +kernel
theorem d6_62 : decode prog_9_method_3_code 62 = .ok (.lload 9, 2) := by decide +kernel
theorem d6_64 : decode prog_9_method_3_code 64 = .ok (.lconst 0, 1) := by decide +kernel
theorem d6_65 : decode prog_9_method_3_code 65 = .ok (.lcmp, 1) := by decide +kernel
theorem d6_66 : decode prog_9_method_3_code 66 = .ok (.ifCond .ge 21, 3) := by decide +kernel
theorem d6_87 : decode prog_9_method_3_code 87 = .ok (.iconst 4, 1) := by decide +kernel
theorem d6_88 : decode prog_9_method_3_code 88 = .ok (.newarray .long, 2) := by decide +kernel
theorem d6_90 : decode prog_9_method_3_code 90 = .ok (.dup, 1) := by decide +kernel
theorem d6_91 : decode prog_9_method_3_code 91 = .ok (.iconst 0, 1) := by decide +kernel
theorem d6_92 : decode prog_9_method_3_code 92 = .ok (.lload 9, 2) := by decide +kernel
theorem d6_94 : decode prog_9_method_3_code 94 = .ok (.lastore, 1) := by decide +kernel
theorem d6_95 : decode prog_9_method_3_code 95 = .ok (.dup, 1) := by decide +kernel
theorem d6_96 : decode prog_9_method_3_code 96 = .ok (.iconst 1, 1) := by decide +kernel
theorem d6_97 : decode prog_9_method_3_code 97 = .ok (.lload 7, 2) := by decide +kernel
theorem d6_99 : decode prog_9_method_3_code 99 = .ok (.lastore, 1) := by decide +kernel
theorem d6_100 : decode prog_9_method_3_code 100 = .ok (.dup, 1) := by decide +kernel
theorem d6_101 : decode prog_9_method_3_code 101 = .ok (.iconst 2, 1) := by decide +kernel
theorem d6_102 : decode prog_9_method_3_code 102 = .ok (.lload 5, 2) := by decide +kernel
theorem d6_104 : decode prog_9_method_3_code 104 = .ok (.lastore, 1) := by decide +kernel
theorem d6_105 : decode prog_9_method_3_code 105 = .ok (.dup, 1) := by decide +kernel
theorem d6_106 : decode prog_9_method_3_code 106 = .ok (.iconst 3, 1) := by decide +kernel
theorem d6_107 : decode prog_9_method_3_code 107 = .ok (.lload_n 3, 1) := by decide +kernel
theorem d6_108 : decode prog_9_method_3_code 108 = .ok (.lastore, 1) := by decide +kernel
theorem d6_109 : decode prog_9_method_3_code 109 = .ok (.areturn, 1) := by decide +kernel
theorem pn_6 : plainName "com/example/tempe/tempe/estimate/Fit" = true := by first | (simp [plainName, overriddenIn]; done) | decide +kernel
theorem ef6_01_4 (m : MethodId) (o0 : Addr) : entryFrame m #[(.ref o0), (.int (0 : Int32)), (.int (1 : Int32))] 11 = mkF m 0 #[rv o0, iv (0 : Int32), iv (1 : Int32), .unset, .unset, .unset, .unset, .unset, .unset, .unset, .unset] [] := by first | (simp [entryFrame, mkF, argsToLocals, Value.category]; done) | rfl
abbrev room_of_6_01_4 : Room := { frames := 0, cells := 1, slots := 4, locals := 0 }
def Q6_01_4 (Z : State) (o0 : Addr) (k1 : ClassId) (c0_ : Int64) (c1_ : Int64) (c2_ : Int64) (c3_ : Int64) (h0 : Heap) (n0 : Nat) (v : Option Value) (h : Heap) (L : List Loc) : Prop := ∃ (b : Addr) (k : ClassId), v = some (.ref b) ∧ n0 ≤ b ∧ h0.size ≤ b ∧ Fr n0 L ∧ Keep h0 h [] ∧ Arv Z h b k .long (4 : Int32) [(.long ((c0_ - c1_) - (c2_ - c3_))), (.long (c2_ - c3_)), (.long (c1_ - c3_)), (.long c3_)] (.long (0 : Int64))
set_option maxRecDepth 65536 in
set_option maxHeartbeats 40000000 in
theorem rm6_01_4 (l : Launch) (Z : State) (a0 : Array Value) (hw : ∀ d ∈ tables_1, d.before a0 Z = true) (ws : List Jvm.Cond) (o0 : Addr) {k1 : ClassId} {c0_ : Int64} {c1_ : Int64} {c2_ : Int64} {c3_ : Int64} (h0 : Heap) (n0 : Nat) (Z0 : n0 ≤ h0.size) (V_o0 : Arv Z h0 o0 k1 .long (4 : Int32) [(.long c0_), (.long c1_), (.long c2_), (.long c3_)] (.long (0 : Int64))) (hf45 : ¬ ((lcmpW c3_ (0 : Int64)) < (0 : Int32))) (hf52 : ¬ ((lcmpW (c1_ - c3_) (0 : Int64)) < (0 : Int32))) (hf59 : ¬ ((lcmpW (c2_ - c3_) (0 : Int64)) < (0 : Int32))) (hf66 : ¬ ((lcmpW ((c0_ - c1_) - (c2_ - c3_)) (0 : Int64)) < (0 : Int32))) :
    MetFree l (⟨"com/example/tempe/tempe/estimate/Fit", "pairGroups", "([JII)[J"⟩ : MethodName) (head1 (Jvm.Cond.code (⟨"com/example/tempe/tempe/estimate/Fit", "pairGroups", "([JII)[J"⟩ : MethodName) prog_9_method_3_code 11 (some (.array .long)) :: ws) (room_of_6_01_4)) (fun a U => a = #[(.ref o0), (.int (0 : Int32)), (.int (1 : Int32))] ∧ Z.Warmed39 U.vm ∧ U.heap = h0) (fun _ _ _ _ _ => True) (fun _ U o U' => ∃ v L, o = .returned v ∧ Q6_01_4 Z o0 k1 c0_ c1_ c2_ c3_ h0 n0 v U'.heap L ∧ FrameEnd U o U' L (room_of_6_01_4).cells (room_of_6_01_4).slots) := by
  refine MetFree.of_bodySF (plainFor_of_name pn_6) hisR ?_
  intro p e s m args below meth c s₁ Bd hml0 hP hK
  obtain ⟨rfl, hZ, hh⟩ := hP
  have hx := Bd.exec
  have hby := Bd.bytes
  have hml : c.maxLocals = 11 := hml0
  have hown : s.vm.findClass "com/example/tempe/tempe/estimate/Fit" = some m.cls := findClass_of_methodNamed Bd.named
  have hnm := (name_of_methodNamed Bd.named Bd.method).1
  have X0 : Stand p l e (room_of_6_01_4) s m #[(.ref o0), (.int (0 : Int32)), (.int (1 : Int32))] below meth c s₁ [] 0 0 := Stand.of_body Bd
  have e0 : s₁.heap = h0 := by rw [← hh, Bd.state]; rfl
  have N0 := Fr.nil n0
  have G0 := gd X0 hx hby
  have pre0 : ∀ t, Steps p.tables e below (s₁.setTop (mkF m 0 #[rv o0, iv (0 : Int32), iv (1 : Int32), .unset, .unset, .unset, .unset, .unset, .unset, .unset, .unset] [])) t → Steps p.tables e below (s₁.setTop (entryFrame m #[(.ref o0), (.int (0 : Int32)), (.int (1 : Int32))] 11)) t := fun t k => castTop (ef6_01_4 m o0) k
  obtain ⟨T1, h1, k1, X1, e1, E1, A1, st1⟩ := newP X0 hx hZ (wd hw 6 rfl) e0 (g := (mkF m 88 #[rv o0, iv (0 : Int32), iv (1 : Int32), lv c3_, .second, lv (c1_ - c3_), .second, lv (c2_ - c3_), .second, lv ((c0_ - c1_) - (c2_ - c3_)), .second] [(.int (4 : Int32))])) rfl (hb hby d6_88) rfl (by decide) (cap := 4) (by decide) (by decide) (by decide) (by decide)
  have G1 := gd X1 hx hby
  obtain ⟨b1, g1⟩ : ∃ z, z = h0.size := ⟨_, rfl⟩
  rw [← g1] at A1 st1
  have ne_o0_b1 : o0 ≠ b1 := Nat.ne_of_lt (Nat.lt_of_lt_of_le V_o0.lt (Nat.le_of_eq g1.symm))
  have g_b1 : n0 ≤ b1 := Nat.le_trans Z0 (Nat.le_of_eq g1.symm)
  have sz_b1 : h0.size ≤ b1 := Nat.le_trans (Keep.refl h0 []).1 (Nat.le_of_eq g1.symm)
  have f2 := V_o0.ext E1
  have Z1 := Nat.le_trans Z0 E1.1
  have K1 : Keep h0 h1 [] := (Keep.refl h0 []).ext E1
  have V_b1 : Arv Z h1 b1 k1 .long (4 : Int32) [(.long (0 : Int64)), (.long (0 : Int64)), (.long (0 : Int64)), (.long (0 : Int64))] (.long (0 : Int64)) := (Arv.new A1 (by decide)).pad (pad_rep [] (.long (0 : Int64)) 4)
  obtain ⟨T3, h3, X3, e3, W3, Vs3, st3⟩ := own_stJ X1 hx hby hZ e1 V_b1 (j := (0 : Int32)) (v := ((c0_ - c1_) - (c2_ - c3_))) d6_94 ⟨by decide, by decide⟩ 0 rfl (Nat.le_of_ble_eq_true rfl) #[rv o0, iv (0 : Int32), iv (1 : Int32), lv c3_, .second, lv (c1_ - c3_), .second, lv (c2_ - c3_), .second, lv ((c0_ - c1_) - (c2_ - c3_)), .second] [(.ref b1)] 95 rfl
  have G3 := gd X3 hx hby
  have N3 := Fr.snoc X3 N0 g_b1
  have f4 := f2.other W3 ne_o0_b1
  have Z3 := Nat.le_trans Z1 (Keep.of_wr W3).1
  have K3 : Keep h0 h3 [] := K1.wr W3 (Or.inr sz_b1)
  have V3 : Arv Z h3 b1 k1 .long (4 : Int32) [(.long ((c0_ - c1_) - (c2_ - c3_))), (.long (0 : Int64)), (.long (0 : Int64)), (.long (0 : Int64))] (.long (0 : Int64)) := Vs3
  obtain ⟨T9, h9, X9, e9, W9, Vs9, st9⟩ := own_stJ X3 hx hby hZ e3 V3 (j := (1 : Int32)) (v := (c2_ - c3_)) d6_99 ⟨by decide, by decide⟩ 1 rfl (Nat.le_of_ble_eq_true rfl) #[rv o0, iv (0 : Int32), iv (1 : Int32), lv c3_, .second, lv (c1_ - c3_), .second, lv (c2_ - c3_), .second, lv ((c0_ - c1_) - (c2_ - c3_)), .second] [(.ref b1)] 100 rfl
  have G9 := gd X9 hx hby
  have N9 := Fr.snoc X9 N3 g_b1
  have f10 := f4.other W9 ne_o0_b1
  have Z9 := Nat.le_trans Z3 (Keep.of_wr W9).1
  have K9 : Keep h0 h9 [] := K3.wr W9 (Or.inr sz_b1)
  have V9 : Arv Z h9 b1 k1 .long (4 : Int32) [(.long ((c0_ - c1_) - (c2_ - c3_))), (.long (c2_ - c3_)), (.long (0 : Int64)), (.long (0 : Int64))] (.long (0 : Int64)) := Vs9
  obtain ⟨T15, h15, X15, e15, W15, Vs15, st15⟩ := own_stJ X9 hx hby hZ e9 V9 (j := (2 : Int32)) (v := (c1_ - c3_)) d6_104 ⟨by decide, by decide⟩ 2 rfl (Nat.le_of_ble_eq_true rfl) #[rv o0, iv (0 : Int32), iv (1 : Int32), lv c3_, .second, lv (c1_ - c3_), .second, lv (c2_ - c3_), .second, lv ((c0_ - c1_) - (c2_ - c3_)), .second] [(.ref b1)] 105 rfl
  have G15 := gd X15 hx hby
  have N15 := Fr.snoc X15 N9 g_b1
  have f16 := f10.other W15 ne_o0_b1
  have Z15 := Nat.le_trans Z9 (Keep.of_wr W15).1
  have K15 : Keep h0 h15 [] := K9.wr W15 (Or.inr sz_b1)
  have V15 : Arv Z h15 b1 k1 .long (4 : Int32) [(.long ((c0_ - c1_) - (c2_ - c3_))), (.long (c2_ - c3_)), (.long (c1_ - c3_)), (.long (0 : Int64))] (.long (0 : Int64)) := Vs15
  obtain ⟨T21, h21, X21, e21, W21, Vs21, st21⟩ := own_stJ X15 hx hby hZ e15 V15 (j := (3 : Int32)) (v := c3_) d6_108 ⟨by decide, by decide⟩ 3 rfl (Nat.le_of_ble_eq_true rfl) #[rv o0, iv (0 : Int32), iv (1 : Int32), lv c3_, .second, lv (c1_ - c3_), .second, lv (c2_ - c3_), .second, lv ((c0_ - c1_) - (c2_ - c3_)), .second] [(.ref b1)] 109 rfl
  have G21 := gd X21 hx hby
  have N21 := Fr.snoc X21 N15 g_b1
  have f22 := f16.other W21 ne_o0_b1
  have Z21 := Nat.le_trans Z15 (Keep.of_wr W21).1
  have K21 : Keep h0 h21 [] := K15.wr W21 (Or.inr sz_b1)
  have V21 : Arv Z h21 b1 k1 .long (4 : Int32) [(.long ((c0_ - c1_) - (c2_ - c3_))), (.long (c2_ - c3_)), (.long (c1_ - c3_)), (.long c3_)] (.long (0 : Int64)) := Vs21
  obtain ⟨fs, hr, hrun, hended, hW, hsame⟩ := X21.leave (v := some (.ref b1)) (fun h => by rw [Bd.returns] at h; cases h)
  refine ⟨_, _, pre0 _ ?_, hrun, hended, _, _, rfl, ?_, ⟨_, rfl⟩, hW, hsame.mono (by decide) (by decide)⟩
  · show Steps p.tables e below (s₁.setTop (mkF m 0 #[rv o0, iv (0 : Int32), iv (1 : Int32), .unset, .unset, .unset, .unset, .unset, .unset, .unset, .unset] [])) _
    refine maloadN 1 G0 d6_0 rfl rfl rfl ?_
    refine miconst 2 G0 d6_1 (v := (1 : Int32)) rfl rfl ?_
    refine miloadN 3 G0 d6_2 rfl rfl ?_
    refine mishl 4 G0 d6_3 (v := (1 : Int32)) rfl rfl ?_
    refine miconst 5 G0 d6_4 (v := (1 : Int32)) rfl rfl ?_
    refine miloadN 6 G0 d6_5 rfl rfl ?_
    refine mishl 7 G0 d6_6 (v := (2 : Int32)) rfl rfl ?_
    refine mior 8 G0 d6_7 (v := (3 : Int32)) rfl rfl ?_
    refine mlaload 9 X0 hx hby hZ e0 V_o0 (v := c3_) d6_8 ⟨by decide, by decide⟩ rfl rfl ?_
    refine mlstoreN 10 G0 d6_9 #[rv o0, iv (0 : Int32), iv (1 : Int32), lv c3_, .second, .unset, .unset, .unset, .unset, .unset, .unset] rfl rfl ?_
    refine maloadN 11 G0 d6_10 rfl rfl rfl ?_
    refine miconst 12 G0 d6_11 (v := (1 : Int32)) rfl rfl ?_
    refine miloadN 13 G0 d6_12 rfl rfl ?_
    refine mishl 14 G0 d6_13 (v := (1 : Int32)) rfl rfl ?_
    refine mlaload 15 X0 hx hby hZ e0 V_o0 (v := c1_) d6_14 ⟨by decide, by decide⟩ rfl rfl ?_
    refine mlloadN 16 G0 d6_15 rfl rfl ?_
    refine mlsub 17 G0 d6_16 rfl rfl ?_
    refine mlstore 19 G0 d6_17 #[rv o0, iv (0 : Int32), iv (1 : Int32), lv c3_, .second, lv (c1_ - c3_), .second, .unset, .unset, .unset, .unset] rfl rfl ?_
    refine maloadN 20 G0 d6_19 rfl rfl rfl ?_
    refine miconst 21 G0 d6_20 (v := (1 : Int32)) rfl rfl ?_
    refine miloadN 22 G0 d6_21 rfl rfl ?_
    refine mishl 23 G0 d6_22 (v := (2 : Int32)) rfl rfl ?_
    refine mlaload 24 X0 hx hby hZ e0 V_o0 (v := c2_) d6_23 ⟨by decide, by decide⟩ rfl rfl ?_
    refine mlloadN 25 G0 d6_24 rfl rfl ?_
    refine mlsub 26 G0 d6_25 rfl rfl ?_
    refine mlstore 28 G0 d6_26 #[rv o0, iv (0 : Int32), iv (1 : Int32), lv c3_, .second, lv (c1_ - c3_), .second, lv (c2_ - c3_), .second, .unset, .unset] rfl rfl ?_
    refine maloadN 29 G0 d6_28 rfl rfl rfl ?_
    refine miconst 30 G0 d6_29 (v := (0 : Int32)) rfl rfl ?_
    refine mlaload 31 X0 hx hby hZ e0 V_o0 (v := c0_) d6_30 ⟨by decide, by decide⟩ rfl rfl ?_
    refine maloadN 32 G0 d6_31 rfl rfl rfl ?_
    refine miconst 33 G0 d6_32 (v := (1 : Int32)) rfl rfl ?_
    refine miloadN 34 G0 d6_33 rfl rfl ?_
    refine mishl 35 G0 d6_34 (v := (1 : Int32)) rfl rfl ?_
    refine mlaload 36 X0 hx hby hZ e0 V_o0 (v := c1_) d6_35 ⟨by decide, by decide⟩ rfl rfl ?_
    refine mlsub 37 G0 d6_36 rfl rfl ?_
    refine mlload 39 G0 d6_37 rfl rfl ?_
    refine mlsub 40 G0 d6_39 rfl rfl ?_
    refine mlstore 42 G0 d6_40 #[rv o0, iv (0 : Int32), iv (1 : Int32), lv c3_, .second, lv (c1_ - c3_), .second, lv (c2_ - c3_), .second, lv ((c0_ - c1_) - (c2_ - c3_)), .second] rfl rfl ?_
    refine mlloadN 43 G0 d6_42 rfl rfl ?_
    refine mlconst 44 G0 d6_43 (v := (0 : Int64)) rfl rfl ?_
    refine mlcmp 45 G0 d6_44 rfl ?_
    refine mifNo 48 G0 d6_45 ((if0 _ _).trans (flt (hf45)).1) rfl ?_
    refine mlload 50 G0 d6_48 rfl rfl ?_
    refine mlconst 51 G0 d6_50 (v := (0 : Int64)) rfl rfl ?_
    refine mlcmp 52 G0 d6_51 rfl ?_
    refine mifNo 55 G0 d6_52 ((if0 _ _).trans (flt (hf52)).1) rfl ?_
    refine mlload 57 G0 d6_55 rfl rfl ?_
    refine mlconst 58 G0 d6_57 (v := (0 : Int64)) rfl rfl ?_
    refine mlcmp 59 G0 d6_58 rfl ?_
    refine mifNo 62 G0 d6_59 ((if0 _ _).trans (flt (hf59)).1) rfl ?_
    refine mlload 64 G0 d6_62 rfl rfl ?_
    refine mlconst 65 G0 d6_64 (v := (0 : Int64)) rfl rfl ?_
    refine mlcmp 66 G0 d6_65 rfl ?_
    refine mifYes 87 G0 d6_66 ((if0 _ _).trans (flt (hf66)).2.1) (by decide) rfl ?_
    refine miconst 88 G0 d6_87 (v := (4 : Int32)) rfl rfl ?_
    refine st1 _ ?_
    show Steps p.tables e below (T1.setTop (mkF m 90 #[rv o0, iv (0 : Int32), iv (1 : Int32), lv c3_, .second, lv (c1_ - c3_), .second, lv (c2_ - c3_), .second, lv ((c0_ - c1_) - (c2_ - c3_)), .second] [(.ref b1)])) _
    refine mdup 91 G1 d6_90 rfl rfl ?_
    refine miconst 92 G1 d6_91 (v := (0 : Int32)) rfl rfl ?_
    refine mlload 94 G1 d6_92 rfl rfl ?_
    refine st3 _ ?_
    refine mdup 96 G3 d6_95 rfl rfl ?_
    refine miconst 97 G3 d6_96 (v := (1 : Int32)) rfl rfl ?_
    refine mlload 99 G3 d6_97 rfl rfl ?_
    refine st9 _ ?_
    refine mdup 101 G9 d6_100 rfl rfl ?_
    refine miconst 102 G9 d6_101 (v := (2 : Int32)) rfl rfl ?_
    refine mlload 104 G9 d6_102 rfl rfl ?_
    refine st15 _ ?_
    refine mdup 106 G15 d6_105 rfl rfl ?_
    refine miconst 107 G15 d6_106 (v := (3 : Int32)) rfl rfl ?_
    refine mlloadN 108 G15 d6_107 rfl rfl ?_
    refine st21 _ ?_
    exact retOut X21 hx Bd.returns rfl (Or.inr (Or.inr (Or.inr (Or.inr ⟨rfl, rfl, rfl⟩)))) (hb hby d6_109) hr
  · show Q6_01_4 Z o0 k1 c0_ c1_ c2_ c3_ h0 n0 _ T21.heap _
    rw [e21]
    exact ⟨b1, k1, rfl, g_b1, sz_b1, N21, K21, V21⟩
theorem pd_2 : parseMethodDescriptor "([JII)[J" = some ⟨[(.array .long), .int, .int], some (.array .long)⟩ := by decide +kernel
theorem d5_0 : decode prog_9_method_2_code 0 = .ok (.iconst 0, 1) := by decide +kernel
theorem d5_1 : decode prog_9_method_2_code 1 = .ok (.istore_n 2, 1) := by decide +kernel
theorem d5_2 : decode prog_9_method_2_code 2 = .ok (.iload_n 2, 1) := by decide +kernel
theorem d5_3 : decode prog_9_method_2_code 3 = .ok (.iload_n 0, 1) := by decide +kernel
theorem d5_4 : decode prog_9_method_2_code 4 = .ok (.if_icmp .ge 31, 3) := by decide +kernel
theorem d5_7 : decode prog_9_method_2_code 7 = .ok (.iload_n 2, 1) := by decide +kernel
theorem d5_8 : decode prog_9_method_2_code 8 = .ok (.iconst 1, 1) := by decide +kernel
theorem d5_9 : decode prog_9_method_2_code 9 = .ok (.iadd, 1) := by decide +kernel
theorem d5_10 : decode prog_9_method_2_code 10 = .ok (.istore_n 3, 1) := by decide +kernel
theorem d5_11 : decode prog_9_method_2_code 11 = .ok (.iload_n 3, 1) := by decide +kernel
theorem d5_12 : decode prog_9_method_2_code 12 = .ok (.iload_n 0, 1) := by decide +kernel
theorem d5_13 : decode prog_9_method_2_code 13 = .ok (.if_icmp .ge 16, 3) := by decide +kernel
theorem d5_16 : decode prog_9_method_2_code 16 = .ok (.aload_n 1, 1) := by decide +kernel
theorem d5_17 : decode prog_9_method_2_code 17 = .ok (.iload_n 2, 1) := by decide +kernel
theorem d5_18 : decode prog_9_method_2_code 18 = .ok (.iload_n 3, 1) := by decide +kernel
theorem d5_19 : decode prog_9_method_2_code 19 = .ok (.invokestatic 57, 3) := by decide +kernel
theorem d5_22 : decode prog_9_method_2_code 22 = .ok (.pop, 1) := by decide +kernel
theorem d5_23 : decode prog_9_method_2_code 23 = .ok (.iinc 3 1, 3) := by decide +kernel
theorem d5_26 : decode prog_9_method_2_code 26 = .ok (.goto (-15), 3) := by decide +kernel
theorem d5_29 : decode prog_9_method_2_code 29 = .ok (.iinc 2 1, 3) := by decide +kernel
theorem d5_32 : decode prog_9_method_2_code 32 = .ok (.goto (-30), 3) := by decide +kernel
theorem d5_35 : decode prog_9_method_2_code 35 = .ok (.return_, 1) := by decide +kernel
theorem pn_5 : plainName "com/example/tempe/tempe/estimate/Fit" = true := by first | (simp [plainName, overriddenIn]; done) | decide +kernel
theorem ef5_2 (m : MethodId) (o1 : Addr) : entryFrame m #[(.int (2 : Int32)), (.ref o1)] 4 = mkF m 0 #[iv (2 : Int32), rv o1, .unset, .unset] [] := by first | (simp [entryFrame, mkF, argsToLocals, Value.category]; done) | rfl
abbrev room_of_5_2 : Room := { frames := 1, cells := 1, slots := 4, locals := 22 }
def Q5_2 (Z : State) (o1 : Addr) (k1 : ClassId) (c0_ : Int64) (c1_ : Int64) (c2_ : Int64) (c3_ : Int64) (h0 : Heap) (n0 : Nat) (v : Option Value) (h : Heap) (L : List Loc) : Prop := v = none ∧ Fr n0 L ∧ Keep h0 h []
set_option maxRecDepth 65536 in
set_option maxHeartbeats 40000000 in
theorem rm5_2 (l : Launch) (Z : State) (a0 : Array Value) (hw : ∀ d ∈ tables_1, d.before a0 Z = true) (ws : List Jvm.Cond) (o1 : Addr) {k1 : ClassId} {c0_ : Int64} {c1_ : Int64} {c2_ : Int64} {c3_ : Int64} (h0 : Heap) (n0 : Nat) (Z0 : n0 ≤ h0.size) (V_o1 : Arv Z h0 o1 k1 .long (4 : Int32) [(.long c0_), (.long c1_), (.long c2_), (.long c3_)] (.long (0 : Int64))) (hp_hf45_19 : ¬ ((lcmpW c3_ (0 : Int64)) < (0 : Int32))) (hp_hf52_19 : ¬ ((lcmpW (c1_ - c3_) (0 : Int64)) < (0 : Int32))) (hp_hf59_19 : ¬ ((lcmpW (c2_ - c3_) (0 : Int64)) < (0 : Int32))) (hp_hf66_19 : ¬ ((lcmpW ((c0_ - c1_) - (c2_ - c3_)) (0 : Int64)) < (0 : Int32))) :
    MetFree l (⟨"com/example/tempe/tempe/estimate/Fit", "checkPairs", "(I[J)V"⟩ : MethodName) (head1 (Jvm.Cond.code (⟨"com/example/tempe/tempe/estimate/Fit", "checkPairs", "(I[J)V"⟩ : MethodName) prog_9_method_2_code 4 none :: ws) (room_of_5_2)) (fun a U => a = #[(.int (2 : Int32)), (.ref o1)] ∧ Z.Warmed39 U.vm ∧ U.heap = h0) (fun _ _ _ _ _ => True) (fun _ U o U' => ∃ v L, o = .returned v ∧ Q5_2 Z o1 k1 c0_ c1_ c2_ c3_ h0 n0 v U'.heap L ∧ FrameEnd U o U' L (room_of_5_2).cells (room_of_5_2).slots) := by
  refine MetFree.of_bodySF (plainFor_of_name pn_5) hisR ?_
  intro p e s m args below meth c s₁ Bd hml0 hP hK
  obtain ⟨rfl, hZ, hh⟩ := hP
  have hx := Bd.exec
  have hby := Bd.bytes
  have hml : c.maxLocals = 4 := hml0
  have hown : s.vm.findClass "com/example/tempe/tempe/estimate/Fit" = some m.cls := findClass_of_methodNamed Bd.named
  have hnm := (name_of_methodNamed Bd.named Bd.method).1
  have X0 : Stand p l e (room_of_5_2) s m #[(.int (2 : Int32)), (.ref o1)] below meth c s₁ [] 0 0 := Stand.of_body Bd
  have e0 : s₁.heap = h0 := by rw [← hh, Bd.state]; rfl
  have N0 := Fr.nil n0
  have G0 := gd X0 hx hby
  have pre0 : ∀ t, Steps p.tables e below (s₁.setTop (mkF m 0 #[iv (2 : Int32), rv o1, .unset, .unset] [])) t → Steps p.tables e below (s₁.setTop (entryFrame m #[(.int (2 : Int32)), (.ref o1)] 4)) t := fun t k => castTop (ef5_2 m o1) k
  obtain ⟨_, _, ⟨T1, L1, k1, n1⟩, -, X1, ⟨Lc1, hQ1, l1, y1, z1⟩, st1⟩ := Jvm.LawKit.callS X0 hx (y := (⟨"com/example/tempe/tempe/estimate/Fit", "pairGroups", "([JII)[J"⟩ : MethodName)) hown (mvT hZ (wd hw 30 rfl)) (mvT hZ (wd hw 31 rfl)) (mvT hZ (wd hw 28 rfl)) (mvT hZ (wd hw 32 rfl)) (by decide) (backOf (W := 0) (rm6_01_4 l Z a0 hw [] o1 h0 n0 Z0 V_o1 (hp_hf45_19) (hp_hf52_19) (hp_hf59_19) (hp_hf66_19)) hZ (wd hw 32 rfl) (wd hw 28 rfl) (by decide) (by decide)) (g := (mkF m 19 #[iv (2 : Int32), rv o1, iv (0 : Int32), iv (1 : Int32)] [(.int (1 : Int32)), (.int (0 : Int32)), (.ref o1)])) rfl (by rw [hml]; rfl) (argsL := [(.ref o1), (.int (0 : Int32)), (.int (1 : Int32))]) (rest := []) (lenOf pd_2 rfl) rfl (by show 2 * 0 + _ ≤ _; exact Nat.le_of_eq rfl) (hb hby d5_19) (fun _ _ => ⟨rfl, e0, (by decide : 0 + 1 ≤ _), (by decide : 0 + 4 ≤ _)⟩)
  dsimp only [Pt.U, Pt.locs, Pt.cells, Pt.slots] at X1 l1 y1 z1 st1 hQ1
  replace l1 : ([] ++ Lc1) = L1 := l1.symm
  subst l1 y1 z1
  obtain ⟨b1, k1, rfl, g_b1, sz1, Nq1, K1, V_b1⟩ := hQ1
  have ne_o1_b1 : o1 ≠ b1 := Nat.ne_of_lt (Nat.lt_of_lt_of_le V_o1.lt sz1)
  have sz_b1 : h0.size ≤ b1 := Nat.le_trans (Keep.refl h0 []).1 sz1
  have N1 := Fr.app N0 Nq1
  have f2 := V_o1.keep K1 nin0
  have Z1k := Nat.le_trans Z0 K1.1
  have K1k : Keep h0 T1.heap [] := (Keep.refl h0 []).trans K1 all0
  have G1 := gd X1 hx hby
  obtain ⟨fs, hr, hrun, hended, hW, hsame⟩ := X1.leave (v := none) (fun _ => rfl)
  refine ⟨_, _, pre0 _ ?_, hrun, hended, _, _, rfl, ?_, ⟨_, rfl⟩, hW, hsame.mono (by decide) (by decide)⟩
  · show Steps p.tables e below (s₁.setTop (mkF m 0 #[iv (2 : Int32), rv o1, .unset, .unset] [])) _
    refine miconst 1 G0 d5_0 (v := (0 : Int32)) rfl rfl ?_
    refine mistoreN 2 G0 d5_1 #[iv (2 : Int32), rv o1, iv (0 : Int32), .unset] rfl rfl ?_
    refine miloadN 3 G0 d5_2 rfl rfl ?_
    refine miloadN 4 G0 d5_3 rfl rfl ?_
    refine micmpNo 7 G0 d5_4 (tlt (by decide : (0 : Int32) < (2 : Int32))).2.1 rfl ?_
    refine miloadN 8 G0 d5_7 rfl rfl ?_
    refine miconst 9 G0 d5_8 (v := (1 : Int32)) rfl rfl ?_
    refine miadd 10 G0 d5_9 (v := (1 : Int32)) rfl rfl ?_
    refine mistoreN 11 G0 d5_10 #[iv (2 : Int32), rv o1, iv (0 : Int32), iv (1 : Int32)] rfl rfl ?_
    refine miloadN 12 G0 d5_11 rfl rfl ?_
    refine miloadN 13 G0 d5_12 rfl rfl ?_
    refine micmpNo 16 G0 d5_13 (tlt (by decide : (1 : Int32) < (2 : Int32))).2.1 rfl ?_
    refine maloadN 17 G0 d5_16 rfl rfl rfl ?_
    refine miloadN 18 G0 d5_17 rfl rfl ?_
    refine miloadN 19 G0 d5_18 rfl rfl ?_
    refine st1 _ ?_
    show Steps p.tables e below (T1.setTop (mkF m 22 #[iv (2 : Int32), rv o1, iv (0 : Int32), iv (1 : Int32)] [(.ref b1)])) _
    refine mpop 23 G1 d5_22 rfl rfl ?_
    refine miinc 26 G1 d5_23 rfl #[iv (2 : Int32), rv o1, iv (0 : Int32), iv (2 : Int32)] rfl rfl ?_
    refine mgoto 11 G1 d5_26 (by decide) rfl ?_
    refine miloadN 12 G1 d5_11 rfl rfl ?_
    refine miloadN 13 G1 d5_12 rfl rfl ?_
    refine micmpYes 29 G1 d5_13 (flt (by decide : ¬ ((2 : Int32) < (2 : Int32)))).2.1 (by decide) rfl ?_
    refine miinc 32 G1 d5_29 rfl #[iv (2 : Int32), rv o1, iv (1 : Int32), iv (2 : Int32)] rfl rfl ?_
    refine mgoto 2 G1 d5_32 (by decide) rfl ?_
    refine miloadN 3 G1 d5_2 rfl rfl ?_
    refine miloadN 4 G1 d5_3 rfl rfl ?_
    refine micmpNo 7 G1 d5_4 (tlt (by decide : (1 : Int32) < (2 : Int32))).2.1 rfl ?_
    refine miloadN 8 G1 d5_7 rfl rfl ?_
    refine miconst 9 G1 d5_8 (v := (1 : Int32)) rfl rfl ?_
    refine miadd 10 G1 d5_9 (v := (2 : Int32)) rfl rfl ?_
    refine mistoreN 11 G1 d5_10 #[iv (2 : Int32), rv o1, iv (1 : Int32), iv (2 : Int32)] rfl rfl ?_
    refine miloadN 12 G1 d5_11 rfl rfl ?_
    refine miloadN 13 G1 d5_12 rfl rfl ?_
    refine micmpYes 29 G1 d5_13 (flt (by decide : ¬ ((2 : Int32) < (2 : Int32)))).2.1 (by decide) rfl ?_
    refine miinc 32 G1 d5_29 rfl #[iv (2 : Int32), rv o1, iv (2 : Int32), iv (2 : Int32)] rfl rfl ?_
    refine mgoto 2 G1 d5_32 (by decide) rfl ?_
    refine miloadN 3 G1 d5_2 rfl rfl ?_
    refine miloadN 4 G1 d5_3 rfl rfl ?_
    refine micmpYes 35 G1 d5_4 (flt (by decide : ¬ ((2 : Int32) < (2 : Int32)))).2.1 (by decide) rfl ?_
    exact X1.returnOut hx Bd.returns (hb hby d5_35) hr
  · show Q5_2 Z o1 k1 c0_ c1_ c2_ c3_ h0 n0 _ T1.heap _
    exact ⟨rfl, N1, K1k⟩
theorem d7_0 : decode prog_7_method_8_code 0 = .ok (.iconst 1, 1) := by decide +kernel
theorem d7_1 : decode prog_7_method_8_code 1 = .ok (.iload_n 0, 1) := by decide +kernel
theorem d7_2 : decode prog_7_method_8_code 2 = .ok (.ishl, 1) := by decide +kernel
theorem d7_3 : decode prog_7_method_8_code 3 = .ok (.istore_n 2, 1) := by decide +kernel
theorem d7_4 : decode prog_7_method_8_code 4 = .ok (.iload_n 2, 1) := by decide +kernel
theorem d7_5 : decode prog_7_method_8_code 5 = .ok (.newarray .long, 2) := by decide +kernel
theorem d7_7 : decode prog_7_method_8_code 7 = .ok (.astore_n 3, 1) := by decide +kernel
theorem d7_8 : decode prog_7_method_8_code 8 = .ok (.iload_n 2, 1) := by decide +kernel
theorem d7_9 : decode prog_7_method_8_code 9 = .ok (.newarray .long, 2) := by decide +kernel
theorem d7_11 : decode prog_7_method_8_code 11 = .ok (.astore 4, 2) := by decide +kernel
theorem d7_13 : decode prog_7_method_8_code 13 = .ok (.iconst 0, 1) := by decide +kernel
theorem d7_14 : decode prog_7_method_8_code 14 = .ok (.istore 5, 2) := by decide +kernel
theorem d7_16 : decode prog_7_method_8_code 16 = .ok (.iload 5, 2) := by decide +kernel
theorem d7_18 : decode prog_7_method_8_code 18 = .ok (.iload_n 2, 1) := by decide +kernel
theorem d7_19 : decode prog_7_method_8_code 19 = .ok (.if_icmp .ge 160, 3) := by decide +kernel
theorem d7_22 : decode prog_7_method_8_code 22 = .ok (.iload 5, 2) := by decide +kernel
theorem d7_24 : decode prog_7_method_8_code 24 = .ok (.invokestatic 110, 3) := by decide +kernel
theorem d7_27 : decode prog_7_method_8_code 27 = .ok (.iconst 2, 1) := by decide +kernel
theorem d7_28 : decode prog_7_method_8_code 28 = .ok (.if_icmp .gt 23, 3) := by decide +kernel
theorem d7_31 : decode prog_7_method_8_code 31 = .ok (.aload_n 3, 1) := by decide +kernel
theorem d7_32 : decode prog_7_method_8_code 32 = .ok (.iload 5, 2) := by decide +kernel
theorem d7_34 : decode prog_7_method_8_code 34 = .ok (.aload_n 1, 1) := by decide +kernel
theorem d7_35 : decode prog_7_method_8_code 35 = .ok (.iload 5, 2) := by decide +kernel
theorem d7_37 : decode prog_7_method_8_code 37 = .ok (.laload, 1) := by decide +kernel
theorem d7_38 : decode prog_7_method_8_code 38 = .ok (.lastore, 1) := by decide +kernel
theorem d7_39 : decode prog_7_method_8_code 39 = .ok (.aload 4, 2) := by decide +kernel
theorem d7_41 : decode prog_7_method_8_code 41 = .ok (.iload 5, 2) := by decide +kernel
theorem d7_43 : decode prog_7_method_8_code 43 = .ok (.aload_n 1, 1) := by decide +kernel
theorem d7_44 : decode prog_7_method_8_code 44 = .ok (.iload 5, 2) := by decide +kernel
theorem d7_46 : decode prog_7_method_8_code 46 = .ok (.laload, 1) := by decide +kernel
theorem d7_47 : decode prog_7_method_8_code 47 = .ok (.lastore, 1) := by decide +kernel
theorem d7_48 : decode prog_7_method_8_code 48 = .ok (.goto 125, 3) := by decide +kernel
theorem d7_173 : decode prog_7_method_8_code 173 = .ok (.iinc 5 1, 3) := by decide +kernel
theorem d7_176 : decode prog_7_method_8_code 176 = .ok (.goto (-160), 3) := by decide +kernel
theorem d7_179 : decode prog_7_method_8_code 179 = .ok (.iconst 2, 1) := by decide +kernel
theorem d7_180 : decode prog_7_method_8_code 180 = .ok (.newarray .long, 2) := by decide +kernel
theorem d7_182 : decode prog_7_method_8_code 182 = .ok (.dup, 1) := by decide +kernel
theorem d7_183 : decode prog_7_method_8_code 183 = .ok (.iconst 0, 1) := by decide +kernel
theorem d7_184 : decode prog_7_method_8_code 184 = .ok (.aload_n 3, 1) := by decide +kernel
theorem d7_185 : decode prog_7_method_8_code 185 = .ok (.iload_n 2, 1) := by decide +kernel
theorem d7_186 : decode prog_7_method_8_code 186 = .ok (.iconst 1, 1) := by decide +kernel
theorem d7_187 : decode prog_7_method_8_code 187 = .ok (.isub, 1) := by decide +kernel
theorem d7_188 : decode prog_7_method_8_code 188 = .ok (.laload, 1) := by decide +kernel
theorem d7_189 : decode prog_7_method_8_code 189 = .ok (.lastore, 1) := by decide +kernel
theorem d7_190 : decode prog_7_method_8_code 190 = .ok (.dup, 1) := by decide +kernel
theorem d7_191 : decode prog_7_method_8_code 191 = .ok (.iconst 1, 1) := by decide +kernel
theorem d7_192 : decode prog_7_method_8_code 192 = .ok (.aload 4, 2) := by decide +kernel
theorem d7_194 : decode prog_7_method_8_code 194 = .ok (.iload_n 2, 1) := by decide +kernel
theorem d7_195 : decode prog_7_method_8_code 195 = .ok (.iconst 1, 1) := by decide +kernel
theorem d7_196 : decode prog_7_method_8_code 196 = .ok (.isub, 1) := by decide +kernel
theorem d7_197 : decode prog_7_method_8_code 197 = .ok (.laload, 1) := by decide +kernel
theorem d7_198 : decode prog_7_method_8_code 198 = .ok (.lastore, 1) := by decide +kernel
theorem d7_199 : decode prog_7_method_8_code 199 = .ok (.areturn, 1) := by decide +kernel
theorem pn_7 : plainName "com/example/tempe/tempe/estimate/CountBracket" = true := by first | (simp [plainName, overriddenIn]; done) | decide +kernel
theorem ef7_2 (m : MethodId) (o1 : Addr) : entryFrame m #[(.int (2 : Int32)), (.ref o1)] 13 = mkF m 0 #[iv (2 : Int32), rv o1, .unset, .unset, .unset, .unset, .unset, .unset, .unset, .unset, .unset, .unset, .unset] [] := by first | (simp [entryFrame, mkF, argsToLocals, Value.category]; done) | rfl
abbrev room_of_7_2 : Room := { frames := 1, cells := 3, slots := 10, locals := 12 }
def Q7_2 (Z : State) (o1 : Addr) (c0_ : Int64) (c1_ : Int64) (c2_ : Int64) (c3_ : Int64) (k1 : ClassId) (h0 : Heap) (n0 : Nat) (v : Option Value) (h : Heap) (L : List Loc) : Prop := ∃ (b : Addr) (k : ClassId), v = some (.ref b) ∧ n0 ≤ b ∧ h0.size ≤ b ∧ Fr n0 L ∧ Keep h0 h [] ∧ Arv Z h b k .long (2 : Int32) [(.long c3_), (.long c3_)] (.long (0 : Int64))
set_option maxRecDepth 65536 in
set_option maxHeartbeats 40000000 in
theorem rm7_2 (l : Launch) (Z : State) (a0 : Array Value) (hw : ∀ d ∈ tables_1, d.before a0 Z = true) (ws : List Jvm.Cond) (o1 : Addr) {c0_ : Int64} {c1_ : Int64} {c2_ : Int64} {c3_ : Int64} {k1 : ClassId} (h0 : Heap) (n0 : Nat) (Z0 : n0 ≤ h0.size) (hcq : own_BL [c0_, c1_, c2_, c3_]) (V_o1 : Arv Z h0 o1 k1 .long (4 : Int32) [(.long c0_), (.long c1_), (.long c2_), (.long c3_)] (.long (0 : Int64))) :
    MetFree l (⟨"com/example/tempe/tempe/estimate/CountBracket", "range", "(I[J)[J"⟩ : MethodName) (head1 (Jvm.Cond.codeWith (⟨"com/example/tempe/tempe/estimate/CountBracket", "range", "(I[J)[J"⟩ : MethodName) prog_7_method_8_code 13 (some (.array .long)) [((68 : Nat), (117 : Nat), (120 : Nat), (129 : Nat))] :: ws) (room_of_7_2)) (fun a U => a = #[(.int (2 : Int32)), (.ref o1)] ∧ Z.Warmed39 U.vm ∧ U.heap = h0) (fun _ _ _ _ _ => True) (fun _ U o U' => ∃ v L, o = .returned v ∧ Q7_2 Z o1 c0_ c1_ c2_ c3_ k1 h0 n0 v U'.heap L ∧ FrameEnd U o U' L (room_of_7_2).cells (room_of_7_2).slots) := by
  refine MetFree.of_bodySF (plainFor_of_name pn_7) hisWith ?_
  intro p e s m args below meth c s₁ Bd hml0 hP hK
  obtain ⟨rfl, hZ, hh⟩ := hP
  have hx := Bd.exec
  have hby := Bd.bytes
  have hml : c.maxLocals = 13 := hml0
  have hown : s.vm.findClass "com/example/tempe/tempe/estimate/CountBracket" = some m.cls := findClass_of_methodNamed Bd.named
  have hnm := (name_of_methodNamed Bd.named Bd.method).1
  have X0 : Stand p l e (room_of_7_2) s m #[(.int (2 : Int32)), (.ref o1)] below meth c s₁ [] 0 0 := Stand.of_body Bd
  have e0 : s₁.heap = h0 := by rw [← hh, Bd.state]; rfl
  have N0 := Fr.nil n0
  have G0 := gd X0 hx hby
  have pre0 : ∀ t, Steps p.tables e below (s₁.setTop (mkF m 0 #[iv (2 : Int32), rv o1, .unset, .unset, .unset, .unset, .unset, .unset, .unset, .unset, .unset, .unset, .unset] [])) t → Steps p.tables e below (s₁.setTop (entryFrame m #[(.int (2 : Int32)), (.ref o1)] 13)) t := fun t k => castTop (ef7_2 m o1) k
  obtain ⟨T1, h1, k1, X1, e1, E1, A1, st1⟩ := newP X0 hx hZ (wd hw 6 rfl) e0 (g := (mkF m 5 #[iv (2 : Int32), rv o1, iv (4 : Int32), .unset, .unset, .unset, .unset, .unset, .unset, .unset, .unset, .unset, .unset] [(.int (4 : Int32))])) rfl (hb hby d7_5) rfl (by decide) (cap := 4) (by decide) (by decide) (by decide) (by decide)
  have G1 := gd X1 hx hby
  obtain ⟨b1, g1⟩ : ∃ z, z = h0.size := ⟨_, rfl⟩
  rw [← g1] at A1 st1
  have ne_o1_b1 : o1 ≠ b1 := Nat.ne_of_lt (Nat.lt_of_lt_of_le V_o1.lt (Nat.le_of_eq g1.symm))
  have g_b1 : n0 ≤ b1 := Nat.le_trans Z0 (Nat.le_of_eq g1.symm)
  have sz_b1 : h0.size ≤ b1 := Nat.le_trans (Keep.refl h0 []).1 (Nat.le_of_eq g1.symm)
  have f2 := V_o1.ext E1
  have Z1 := Nat.le_trans Z0 E1.1
  have K1 : Keep h0 h1 [] := (Keep.refl h0 []).ext E1
  have V_b1 : Arv Z h1 b1 k1 .long (4 : Int32) [(.long (0 : Int64)), (.long (0 : Int64)), (.long (0 : Int64)), (.long (0 : Int64))] (.long (0 : Int64)) := (Arv.new A1 (by decide)).pad (pad_rep [] (.long (0 : Int64)) 4)
  obtain ⟨T3, h3, k3, X3, e3, E3, A3, st3⟩ := newP X1 hx hZ (wd hw 6 rfl) e1 (g := (mkF m 9 #[iv (2 : Int32), rv o1, iv (4 : Int32), rv b1, .unset, .unset, .unset, .unset, .unset, .unset, .unset, .unset, .unset] [(.int (4 : Int32))])) rfl (hb hby d7_9) rfl (by decide) (cap := 4) (by decide) (by decide) (by decide) (by decide)
  have G3 := gd X3 hx hby
  obtain ⟨b3, g3⟩ : ∃ z, z = h1.size := ⟨_, rfl⟩
  rw [← g3] at A3 st3
  have ne_o1_b3 : o1 ≠ b3 := Nat.ne_of_lt (Nat.lt_of_lt_of_le f2.lt (Nat.le_of_eq g3.symm))
  have ne_b1_b3 : b1 ≠ b3 := Nat.ne_of_lt (Nat.lt_of_lt_of_le V_b1.lt (Nat.le_of_eq g3.symm))
  have g_b3 : n0 ≤ b3 := Nat.le_trans Z1 (Nat.le_of_eq g3.symm)
  have sz_b3 : h0.size ≤ b3 := Nat.le_trans K1.1 (Nat.le_of_eq g3.symm)
  have f4 := f2.ext E3
  have f5 := V_b1.ext E3
  have Z3 := Nat.le_trans Z1 E3.1
  have K3 : Keep h0 h3 [] := K1.ext E3
  have V_b3 : Arv Z h3 b3 k3 .long (4 : Int32) [(.long (0 : Int64)), (.long (0 : Int64)), (.long (0 : Int64)), (.long (0 : Int64))] (.long (0 : Int64)) := (Arv.new A3 (by decide)).pad (pad_rep [] (.long (0 : Int64)) 4)
  obtain ⟨_, _, ⟨T6, L6, k6, n6⟩, -, X6, ⟨Lc6, hQ6, l6, y6, z6⟩, st6⟩ := Jvm.LawKit.callS X3 hx (y := (⟨"java/lang/Integer", "bitCount", "(I)I"⟩ : MethodName)) hown (mvT hZ (wd hw 36 rfl)) (mvT hZ (wd hw 37 rfl)) (mvT hZ (wd hw 38 rfl)) (mvT hZ (wd hw 39 rfl)) (by decide) (backOf (W := 0) (rm8_0 l Z a0 hw []  h3 n0 Z3 ) hZ (wd hw 39 rfl) (wd hw 38 rfl) (by decide) (by decide)) (g := (mkF m 24 #[iv (2 : Int32), rv o1, iv (4 : Int32), rv b1, rv b3, iv (0 : Int32), .unset, .unset, .unset, .unset, .unset, .unset, .unset] [(.int (0 : Int32))])) rfl (by rw [hml]; rfl) (argsL := [(.int (0 : Int32))]) (rest := []) (lenOf pd_0 rfl) rfl (by show 2 * 0 + _ ≤ _; exact Nat.le_of_eq rfl) (hb hby d7_24) (fun _ _ => ⟨rfl, e3, (by decide : 2 + 0 ≤ _), (by decide : 8 + 0 ≤ _)⟩)
  dsimp only [Pt.U, Pt.locs, Pt.cells, Pt.slots] at X6 l6 y6 z6 st6 hQ6
  replace l6 : ([] ++ Lc6) = L6 := l6.symm
  subst l6 y6 z6
  obtain ⟨rfl, rfl, e6⟩ := hQ6
  simp only [List.append_nil, Nat.add_zero] at X6
  have G6 := gd X6 hx hby
  obtain ⟨T7, h7, X7, e7, W7, Vs7, st7⟩ := own_stJ X6 hx hby hZ e6 f5 (j := (0 : Int32)) (v := c0_) d7_38 ⟨by decide, by decide⟩ 0 rfl (Nat.le_of_ble_eq_true rfl) #[iv (2 : Int32), rv o1, iv (4 : Int32), rv b1, rv b3, iv (0 : Int32), .unset, .unset, .unset, .unset, .unset, .unset, .unset] [] 39 rfl
  have G7 := gd X7 hx hby
  have N7 := Fr.snoc X7 N0 g_b1
  have f8 := f4.other W7 ne_o1_b1
  have f17 := V_b3.other W7 (Ne.symm ne_b1_b3)
  have Z7 := Nat.le_trans Z3 (Keep.of_wr W7).1
  have K7 : Keep h0 h7 [] := K3.wr W7 (Or.inr sz_b1)
  have V7 : Arv Z h7 b1 k1 .long (4 : Int32) [(.long c0_), (.long (0 : Int64)), (.long (0 : Int64)), (.long (0 : Int64))] (.long (0 : Int64)) := Vs7
  obtain ⟨T18, h18, X18, e18, W18, Vs18, st18⟩ := own_stJ X7 hx hby hZ e7 f17 (j := (0 : Int32)) (v := c0_) d7_47 ⟨by decide, by decide⟩ 0 rfl (Nat.le_of_ble_eq_true rfl) #[iv (2 : Int32), rv o1, iv (4 : Int32), rv b1, rv b3, iv (0 : Int32), .unset, .unset, .unset, .unset, .unset, .unset, .unset] [] 48 rfl
  have G18 := gd X18 hx hby
  have N18 := Fr.snoc X18 N7 g_b3
  have f19 := f8.other W18 ne_o1_b3
  have f23 := V7.other W18 ne_b1_b3
  have Z18 := Nat.le_trans Z7 (Keep.of_wr W18).1
  have K18 : Keep h0 h18 [] := K7.wr W18 (Or.inr sz_b3)
  have V18 : Arv Z h18 b3 k3 .long (4 : Int32) [(.long c0_), (.long (0 : Int64)), (.long (0 : Int64)), (.long (0 : Int64))] (.long (0 : Int64)) := Vs18
  obtain ⟨_, _, ⟨T29, L29, k29, n29⟩, -, X29, ⟨Lc29, hQ29, l29, y29, z29⟩, st29⟩ := Jvm.LawKit.callS X18 hx (y := (⟨"java/lang/Integer", "bitCount", "(I)I"⟩ : MethodName)) hown (mvT hZ (wd hw 36 rfl)) (mvT hZ (wd hw 37 rfl)) (mvT hZ (wd hw 38 rfl)) (mvT hZ (wd hw 39 rfl)) (by decide) (backOf (W := 0) (rm8_1 l Z a0 hw []  h18 n0 Z18 ) hZ (wd hw 39 rfl) (wd hw 38 rfl) (by decide) (by decide)) (g := (mkF m 24 #[iv (2 : Int32), rv o1, iv (4 : Int32), rv b1, rv b3, iv (1 : Int32), .unset, .unset, .unset, .unset, .unset, .unset, .unset] [(.int (1 : Int32))])) rfl (by rw [hml]; rfl) (argsL := [(.int (1 : Int32))]) (rest := []) (lenOf pd_0 rfl) rfl (by show 2 * 0 + _ ≤ _; exact Nat.le_of_eq rfl) (hb hby d7_24) (fun _ _ => ⟨rfl, e18, (by decide : 2 + 0 ≤ _), (by decide : 8 + 0 ≤ _)⟩)
  dsimp only [Pt.U, Pt.locs, Pt.cells, Pt.slots] at X29 l29 y29 z29 st29 hQ29
  replace l29 : ((([] ++ [⟨b1, ((0 : Int32)).toNatClampNeg⟩]) ++ [⟨b3, ((0 : Int32)).toNatClampNeg⟩]) ++ Lc29) = L29 := l29.symm
  subst l29 y29 z29
  obtain ⟨rfl, rfl, e29⟩ := hQ29
  simp only [List.append_nil, Nat.add_zero] at X29
  have G29 := gd X29 hx hby
  obtain ⟨T30, h30, X30, e30, W30, Vs30, st30⟩ := own_stJ X29 hx hby hZ e29 f23 (j := (1 : Int32)) (v := c1_) d7_38 ⟨by decide, by decide⟩ 1 rfl (Nat.le_of_ble_eq_true rfl) #[iv (2 : Int32), rv o1, iv (4 : Int32), rv b1, rv b3, iv (1 : Int32), .unset, .unset, .unset, .unset, .unset, .unset, .unset] [] 39 rfl
  have G30 := gd X30 hx hby
  have N30 := Fr.snoc X30 N18 g_b1
  have f31 := f19.other W30 ne_o1_b1
  have f40 := V18.other W30 (Ne.symm ne_b1_b3)
  have Z30 := Nat.le_trans Z18 (Keep.of_wr W30).1
  have K30 : Keep h0 h30 [] := K18.wr W30 (Or.inr sz_b1)
  have V30 : Arv Z h30 b1 k1 .long (4 : Int32) [(.long c0_), (.long c1_), (.long (0 : Int64)), (.long (0 : Int64))] (.long (0 : Int64)) := Vs30
  obtain ⟨T41, h41, X41, e41, W41, Vs41, st41⟩ := own_stJ X30 hx hby hZ e30 f40 (j := (1 : Int32)) (v := c1_) d7_47 ⟨by decide, by decide⟩ 1 rfl (Nat.le_of_ble_eq_true rfl) #[iv (2 : Int32), rv o1, iv (4 : Int32), rv b1, rv b3, iv (1 : Int32), .unset, .unset, .unset, .unset, .unset, .unset, .unset] [] 48 rfl
  have G41 := gd X41 hx hby
  have N41 := Fr.snoc X41 N30 g_b3
  have f42 := f31.other W41 ne_o1_b3
  have f46 := V30.other W41 ne_b1_b3
  have Z41 := Nat.le_trans Z30 (Keep.of_wr W41).1
  have K41 : Keep h0 h41 [] := K30.wr W41 (Or.inr sz_b3)
  have V41 : Arv Z h41 b3 k3 .long (4 : Int32) [(.long c0_), (.long c1_), (.long (0 : Int64)), (.long (0 : Int64))] (.long (0 : Int64)) := Vs41
  obtain ⟨_, _, ⟨T52, L52, k52, n52⟩, -, X52, ⟨Lc52, hQ52, l52, y52, z52⟩, st52⟩ := Jvm.LawKit.callS X41 hx (y := (⟨"java/lang/Integer", "bitCount", "(I)I"⟩ : MethodName)) hown (mvT hZ (wd hw 36 rfl)) (mvT hZ (wd hw 37 rfl)) (mvT hZ (wd hw 38 rfl)) (mvT hZ (wd hw 39 rfl)) (by decide) (backOf (W := 0) (rm8_2 l Z a0 hw []  h41 n0 Z41 ) hZ (wd hw 39 rfl) (wd hw 38 rfl) (by decide) (by decide)) (g := (mkF m 24 #[iv (2 : Int32), rv o1, iv (4 : Int32), rv b1, rv b3, iv (2 : Int32), .unset, .unset, .unset, .unset, .unset, .unset, .unset] [(.int (2 : Int32))])) rfl (by rw [hml]; rfl) (argsL := [(.int (2 : Int32))]) (rest := []) (lenOf pd_0 rfl) rfl (by show 2 * 0 + _ ≤ _; exact Nat.le_of_eq rfl) (hb hby d7_24) (fun _ _ => ⟨rfl, e41, (by decide : 2 + 0 ≤ _), (by decide : 8 + 0 ≤ _)⟩)
  dsimp only [Pt.U, Pt.locs, Pt.cells, Pt.slots] at X52 l52 y52 z52 st52 hQ52
  replace l52 : ((((([] ++ [⟨b1, ((0 : Int32)).toNatClampNeg⟩]) ++ [⟨b3, ((0 : Int32)).toNatClampNeg⟩]) ++ [⟨b1, ((1 : Int32)).toNatClampNeg⟩]) ++ [⟨b3, ((1 : Int32)).toNatClampNeg⟩]) ++ Lc52) = L52 := l52.symm
  subst l52 y52 z52
  obtain ⟨rfl, rfl, e52⟩ := hQ52
  simp only [List.append_nil, Nat.add_zero] at X52
  have G52 := gd X52 hx hby
  obtain ⟨T53, h53, X53, e53, W53, Vs53, st53⟩ := own_stJ X52 hx hby hZ e52 f46 (j := (2 : Int32)) (v := c2_) d7_38 ⟨by decide, by decide⟩ 2 rfl (Nat.le_of_ble_eq_true rfl) #[iv (2 : Int32), rv o1, iv (4 : Int32), rv b1, rv b3, iv (2 : Int32), .unset, .unset, .unset, .unset, .unset, .unset, .unset] [] 39 rfl
  have G53 := gd X53 hx hby
  have N53 := Fr.snoc X53 N41 g_b1
  have f54 := f42.other W53 ne_o1_b1
  have f63 := V41.other W53 (Ne.symm ne_b1_b3)
  have Z53 := Nat.le_trans Z41 (Keep.of_wr W53).1
  have K53 : Keep h0 h53 [] := K41.wr W53 (Or.inr sz_b1)
  have V53 : Arv Z h53 b1 k1 .long (4 : Int32) [(.long c0_), (.long c1_), (.long c2_), (.long (0 : Int64))] (.long (0 : Int64)) := Vs53
  obtain ⟨T64, h64, X64, e64, W64, Vs64, st64⟩ := own_stJ X53 hx hby hZ e53 f63 (j := (2 : Int32)) (v := c2_) d7_47 ⟨by decide, by decide⟩ 2 rfl (Nat.le_of_ble_eq_true rfl) #[iv (2 : Int32), rv o1, iv (4 : Int32), rv b1, rv b3, iv (2 : Int32), .unset, .unset, .unset, .unset, .unset, .unset, .unset] [] 48 rfl
  have G64 := gd X64 hx hby
  have N64 := Fr.snoc X64 N53 g_b3
  have f65 := f54.other W64 ne_o1_b3
  have f69 := V53.other W64 ne_b1_b3
  have Z64 := Nat.le_trans Z53 (Keep.of_wr W64).1
  have K64 : Keep h0 h64 [] := K53.wr W64 (Or.inr sz_b3)
  have V64 : Arv Z h64 b3 k3 .long (4 : Int32) [(.long c0_), (.long c1_), (.long c2_), (.long (0 : Int64))] (.long (0 : Int64)) := Vs64
  obtain ⟨_, _, ⟨T75, L75, k75, n75⟩, -, X75, ⟨Lc75, hQ75, l75, y75, z75⟩, st75⟩ := Jvm.LawKit.callS X64 hx (y := (⟨"java/lang/Integer", "bitCount", "(I)I"⟩ : MethodName)) hown (mvT hZ (wd hw 36 rfl)) (mvT hZ (wd hw 37 rfl)) (mvT hZ (wd hw 38 rfl)) (mvT hZ (wd hw 39 rfl)) (by decide) (backOf (W := 0) (rm8_3 l Z a0 hw []  h64 n0 Z64 ) hZ (wd hw 39 rfl) (wd hw 38 rfl) (by decide) (by decide)) (g := (mkF m 24 #[iv (2 : Int32), rv o1, iv (4 : Int32), rv b1, rv b3, iv (3 : Int32), .unset, .unset, .unset, .unset, .unset, .unset, .unset] [(.int (3 : Int32))])) rfl (by rw [hml]; rfl) (argsL := [(.int (3 : Int32))]) (rest := []) (lenOf pd_0 rfl) rfl (by show 2 * 0 + _ ≤ _; exact Nat.le_of_eq rfl) (hb hby d7_24) (fun _ _ => ⟨rfl, e64, (by decide : 2 + 0 ≤ _), (by decide : 8 + 0 ≤ _)⟩)
  dsimp only [Pt.U, Pt.locs, Pt.cells, Pt.slots] at X75 l75 y75 z75 st75 hQ75
  replace l75 : ((((((([] ++ [⟨b1, ((0 : Int32)).toNatClampNeg⟩]) ++ [⟨b3, ((0 : Int32)).toNatClampNeg⟩]) ++ [⟨b1, ((1 : Int32)).toNatClampNeg⟩]) ++ [⟨b3, ((1 : Int32)).toNatClampNeg⟩]) ++ [⟨b1, ((2 : Int32)).toNatClampNeg⟩]) ++ [⟨b3, ((2 : Int32)).toNatClampNeg⟩]) ++ Lc75) = L75 := l75.symm
  subst l75 y75 z75
  obtain ⟨rfl, rfl, e75⟩ := hQ75
  simp only [List.append_nil, Nat.add_zero] at X75
  have G75 := gd X75 hx hby
  obtain ⟨T76, h76, X76, e76, W76, Vs76, st76⟩ := own_stJ X75 hx hby hZ e75 f69 (j := (3 : Int32)) (v := c3_) d7_38 ⟨by decide, by decide⟩ 3 rfl (Nat.le_of_ble_eq_true rfl) #[iv (2 : Int32), rv o1, iv (4 : Int32), rv b1, rv b3, iv (3 : Int32), .unset, .unset, .unset, .unset, .unset, .unset, .unset] [] 39 rfl
  have G76 := gd X76 hx hby
  have N76 := Fr.snoc X76 N64 g_b1
  have f77 := f65.other W76 ne_o1_b1
  have f86 := V64.other W76 (Ne.symm ne_b1_b3)
  have Z76 := Nat.le_trans Z64 (Keep.of_wr W76).1
  have K76 : Keep h0 h76 [] := K64.wr W76 (Or.inr sz_b1)
  have V76 : Arv Z h76 b1 k1 .long (4 : Int32) [(.long c0_), (.long c1_), (.long c2_), (.long c3_)] (.long (0 : Int64)) := Vs76
  obtain ⟨T87, h87, X87, e87, W87, Vs87, st87⟩ := own_stJ X76 hx hby hZ e76 f86 (j := (3 : Int32)) (v := c3_) d7_47 ⟨by decide, by decide⟩ 3 rfl (Nat.le_of_ble_eq_true rfl) #[iv (2 : Int32), rv o1, iv (4 : Int32), rv b1, rv b3, iv (3 : Int32), .unset, .unset, .unset, .unset, .unset, .unset, .unset] [] 48 rfl
  have G87 := gd X87 hx hby
  have N87 := Fr.snoc X87 N76 g_b3
  have f88 := f77.other W87 ne_o1_b3
  have f92 := V76.other W87 ne_b1_b3
  have Z87 := Nat.le_trans Z76 (Keep.of_wr W87).1
  have K87 : Keep h0 h87 [] := K76.wr W87 (Or.inr sz_b3)
  have V87 : Arv Z h87 b3 k3 .long (4 : Int32) [(.long c0_), (.long c1_), (.long c2_), (.long c3_)] (.long (0 : Int64)) := Vs87
  obtain ⟨T98, h98, k98, X98, e98, E98, A98, st98⟩ := newP X87 hx hZ (wd hw 6 rfl) e87 (g := (mkF m 180 #[iv (2 : Int32), rv o1, iv (4 : Int32), rv b1, rv b3, iv (4 : Int32), .unset, .unset, .unset, .unset, .unset, .unset, .unset] [(.int (2 : Int32))])) rfl (hb hby d7_180) rfl (by decide) (cap := 2) (by decide) (by decide) (by decide) (by decide)
  have G98 := gd X98 hx hby
  obtain ⟨b98, g98⟩ : ∃ z, z = h87.size := ⟨_, rfl⟩
  rw [← g98] at A98 st98
  have ne_o1_b98 : o1 ≠ b98 := Nat.ne_of_lt (Nat.lt_of_lt_of_le f88.lt (Nat.le_of_eq g98.symm))
  have ne_b1_b98 : b1 ≠ b98 := Nat.ne_of_lt (Nat.lt_of_lt_of_le f92.lt (Nat.le_of_eq g98.symm))
  have ne_b3_b98 : b3 ≠ b98 := Nat.ne_of_lt (Nat.lt_of_lt_of_le V87.lt (Nat.le_of_eq g98.symm))
  have g_b98 : n0 ≤ b98 := Nat.le_trans Z87 (Nat.le_of_eq g98.symm)
  have sz_b98 : h0.size ≤ b98 := Nat.le_trans K87.1 (Nat.le_of_eq g98.symm)
  have f99 := f88.ext E98
  have f100 := f92.ext E98
  have f101 := V87.ext E98
  have Z98 := Nat.le_trans Z87 E98.1
  have K98 : Keep h0 h98 [] := K87.ext E98
  have V_b98 : Arv Z h98 b98 k98 .long (2 : Int32) [(.long (0 : Int64)), (.long (0 : Int64))] (.long (0 : Int64)) := (Arv.new A98 (by decide)).pad (pad_rep [] (.long (0 : Int64)) 2)
  obtain ⟨T102, h102, X102, e102, W102, Vs102, st102⟩ := own_stJ X98 hx hby hZ e98 V_b98 (j := (0 : Int32)) (v := c3_) d7_189 ⟨by decide, by decide⟩ 0 rfl (Nat.le_of_ble_eq_true rfl) #[iv (2 : Int32), rv o1, iv (4 : Int32), rv b1, rv b3, iv (4 : Int32), .unset, .unset, .unset, .unset, .unset, .unset, .unset] [(.ref b98)] 190 rfl
  have G102 := gd X102 hx hby
  have N102 := Fr.snoc X102 N87 g_b98
  have f103 := f99.other W102 ne_o1_b98
  have f107 := f100.other W102 ne_b1_b98
  have f112 := f101.other W102 ne_b3_b98
  have Z102 := Nat.le_trans Z98 (Keep.of_wr W102).1
  have K102 : Keep h0 h102 [] := K98.wr W102 (Or.inr sz_b98)
  have V102 : Arv Z h102 b98 k98 .long (2 : Int32) [(.long c3_), (.long (0 : Int64))] (.long (0 : Int64)) := Vs102
  obtain ⟨T119, h119, X119, e119, W119, Vs119, st119⟩ := own_stJ X102 hx hby hZ e102 V102 (j := (1 : Int32)) (v := c3_) d7_198 ⟨by decide, by decide⟩ 1 rfl (Nat.le_of_ble_eq_true rfl) #[iv (2 : Int32), rv o1, iv (4 : Int32), rv b1, rv b3, iv (4 : Int32), .unset, .unset, .unset, .unset, .unset, .unset, .unset] [(.ref b98)] 199 rfl
  have G119 := gd X119 hx hby
  have N119 := Fr.snoc X119 N102 g_b98
  have f120 := f103.other W119 ne_o1_b98
  have f124 := f107.other W119 ne_b1_b98
  have f129 := f112.other W119 ne_b3_b98
  have Z119 := Nat.le_trans Z102 (Keep.of_wr W119).1
  have K119 : Keep h0 h119 [] := K102.wr W119 (Or.inr sz_b98)
  have V119 : Arv Z h119 b98 k98 .long (2 : Int32) [(.long c3_), (.long c3_)] (.long (0 : Int64)) := Vs119
  obtain ⟨fs, hr, hrun, hended, hW, hsame⟩ := X119.leave (v := some (.ref b98)) (fun h => by rw [Bd.returns] at h; cases h)
  refine ⟨_, _, pre0 _ ?_, hrun, hended, _, _, rfl, ?_, ⟨_, rfl⟩, hW, hsame.mono (by decide) (by decide)⟩
  · show Steps p.tables e below (s₁.setTop (mkF m 0 #[iv (2 : Int32), rv o1, .unset, .unset, .unset, .unset, .unset, .unset, .unset, .unset, .unset, .unset, .unset] [])) _
    refine miconst 1 G0 d7_0 (v := (1 : Int32)) rfl rfl ?_
    refine miloadN 2 G0 d7_1 rfl rfl ?_
    refine mishl 3 G0 d7_2 (v := (4 : Int32)) rfl rfl ?_
    refine mistoreN 4 G0 d7_3 #[iv (2 : Int32), rv o1, iv (4 : Int32), .unset, .unset, .unset, .unset, .unset, .unset, .unset, .unset, .unset, .unset] rfl rfl ?_
    refine miloadN 5 G0 d7_4 rfl rfl ?_
    refine st1 _ ?_
    show Steps p.tables e below (T1.setTop (mkF m 7 #[iv (2 : Int32), rv o1, iv (4 : Int32), .unset, .unset, .unset, .unset, .unset, .unset, .unset, .unset, .unset, .unset] [(.ref b1)])) _
    refine mastoreN 8 G1 d7_7 rfl #[iv (2 : Int32), rv o1, iv (4 : Int32), rv b1, .unset, .unset, .unset, .unset, .unset, .unset, .unset, .unset, .unset] rfl rfl ?_
    refine miloadN 9 G1 d7_8 rfl rfl ?_
    refine st3 _ ?_
    show Steps p.tables e below (T3.setTop (mkF m 11 #[iv (2 : Int32), rv o1, iv (4 : Int32), rv b1, .unset, .unset, .unset, .unset, .unset, .unset, .unset, .unset, .unset] [(.ref b3)])) _
    refine mastore 13 G3 d7_11 rfl #[iv (2 : Int32), rv o1, iv (4 : Int32), rv b1, rv b3, .unset, .unset, .unset, .unset, .unset, .unset, .unset, .unset] rfl rfl ?_
    refine miconst 14 G3 d7_13 (v := (0 : Int32)) rfl rfl ?_
    refine mistore 16 G3 d7_14 #[iv (2 : Int32), rv o1, iv (4 : Int32), rv b1, rv b3, iv (0 : Int32), .unset, .unset, .unset, .unset, .unset, .unset, .unset] rfl rfl ?_
    refine miload 18 G3 d7_16 rfl rfl ?_
    refine miloadN 19 G3 d7_18 rfl rfl ?_
    refine micmpNo 22 G3 d7_19 (tlt (by decide : (0 : Int32) < (4 : Int32))).2.1 rfl ?_
    refine miload 24 G3 d7_22 rfl rfl ?_
    refine st6 _ ?_
    show Steps p.tables e below (T6.setTop (mkF m 27 #[iv (2 : Int32), rv o1, iv (4 : Int32), rv b1, rv b3, iv (0 : Int32), .unset, .unset, .unset, .unset, .unset, .unset, .unset] [(.int (0 : Int32))])) _
    refine miconst 28 G6 d7_27 (v := (2 : Int32)) rfl rfl ?_
    refine micmpNo 31 G6 d7_28 (flt (by decide : ¬ ((2 : Int32) < (0 : Int32)))).2.2.1 rfl ?_
    refine maloadN 32 G6 d7_31 rfl rfl rfl ?_
    refine miload 34 G6 d7_32 rfl rfl ?_
    refine maloadN 35 G6 d7_34 rfl rfl rfl ?_
    refine miload 37 G6 d7_35 rfl rfl ?_
    refine mlaload 38 X6 hx hby hZ e6 f4 (v := c0_) d7_37 ⟨by decide, by decide⟩ rfl rfl ?_
    refine st7 _ ?_
    refine maload 41 G7 d7_39 rfl rfl rfl ?_
    refine miload 43 G7 d7_41 rfl rfl ?_
    refine maloadN 44 G7 d7_43 rfl rfl rfl ?_
    refine miload 46 G7 d7_44 rfl rfl ?_
    refine mlaload 47 X7 hx hby hZ e7 f8 (v := c0_) d7_46 ⟨by decide, by decide⟩ rfl rfl ?_
    refine st18 _ ?_
    refine mgoto 173 G18 d7_48 (by decide) rfl ?_
    refine miinc 176 G18 d7_173 rfl #[iv (2 : Int32), rv o1, iv (4 : Int32), rv b1, rv b3, iv (1 : Int32), .unset, .unset, .unset, .unset, .unset, .unset, .unset] rfl rfl ?_
    refine mgoto 16 G18 d7_176 (by decide) rfl ?_
    refine miload 18 G18 d7_16 rfl rfl ?_
    refine miloadN 19 G18 d7_18 rfl rfl ?_
    refine micmpNo 22 G18 d7_19 (tlt (by decide : (1 : Int32) < (4 : Int32))).2.1 rfl ?_
    refine miload 24 G18 d7_22 rfl rfl ?_
    refine st29 _ ?_
    show Steps p.tables e below (T29.setTop (mkF m 27 #[iv (2 : Int32), rv o1, iv (4 : Int32), rv b1, rv b3, iv (1 : Int32), .unset, .unset, .unset, .unset, .unset, .unset, .unset] [(.int (1 : Int32))])) _
    refine miconst 28 G29 d7_27 (v := (2 : Int32)) rfl rfl ?_
    refine micmpNo 31 G29 d7_28 (flt (by decide : ¬ ((2 : Int32) < (1 : Int32)))).2.2.1 rfl ?_
    refine maloadN 32 G29 d7_31 rfl rfl rfl ?_
    refine miload 34 G29 d7_32 rfl rfl ?_
    refine maloadN 35 G29 d7_34 rfl rfl rfl ?_
    refine miload 37 G29 d7_35 rfl rfl ?_
    refine mlaload 38 X29 hx hby hZ e29 f19 (v := c1_) d7_37 ⟨by decide, by decide⟩ rfl rfl ?_
    refine st30 _ ?_
    refine maload 41 G30 d7_39 rfl rfl rfl ?_
    refine miload 43 G30 d7_41 rfl rfl ?_
    refine maloadN 44 G30 d7_43 rfl rfl rfl ?_
    refine miload 46 G30 d7_44 rfl rfl ?_
    refine mlaload 47 X30 hx hby hZ e30 f31 (v := c1_) d7_46 ⟨by decide, by decide⟩ rfl rfl ?_
    refine st41 _ ?_
    refine mgoto 173 G41 d7_48 (by decide) rfl ?_
    refine miinc 176 G41 d7_173 rfl #[iv (2 : Int32), rv o1, iv (4 : Int32), rv b1, rv b3, iv (2 : Int32), .unset, .unset, .unset, .unset, .unset, .unset, .unset] rfl rfl ?_
    refine mgoto 16 G41 d7_176 (by decide) rfl ?_
    refine miload 18 G41 d7_16 rfl rfl ?_
    refine miloadN 19 G41 d7_18 rfl rfl ?_
    refine micmpNo 22 G41 d7_19 (tlt (by decide : (2 : Int32) < (4 : Int32))).2.1 rfl ?_
    refine miload 24 G41 d7_22 rfl rfl ?_
    refine st52 _ ?_
    show Steps p.tables e below (T52.setTop (mkF m 27 #[iv (2 : Int32), rv o1, iv (4 : Int32), rv b1, rv b3, iv (2 : Int32), .unset, .unset, .unset, .unset, .unset, .unset, .unset] [(.int (1 : Int32))])) _
    refine miconst 28 G52 d7_27 (v := (2 : Int32)) rfl rfl ?_
    refine micmpNo 31 G52 d7_28 (flt (by decide : ¬ ((2 : Int32) < (1 : Int32)))).2.2.1 rfl ?_
    refine maloadN 32 G52 d7_31 rfl rfl rfl ?_
    refine miload 34 G52 d7_32 rfl rfl ?_
    refine maloadN 35 G52 d7_34 rfl rfl rfl ?_
    refine miload 37 G52 d7_35 rfl rfl ?_
    refine mlaload 38 X52 hx hby hZ e52 f42 (v := c2_) d7_37 ⟨by decide, by decide⟩ rfl rfl ?_
    refine st53 _ ?_
    refine maload 41 G53 d7_39 rfl rfl rfl ?_
    refine miload 43 G53 d7_41 rfl rfl ?_
    refine maloadN 44 G53 d7_43 rfl rfl rfl ?_
    refine miload 46 G53 d7_44 rfl rfl ?_
    refine mlaload 47 X53 hx hby hZ e53 f54 (v := c2_) d7_46 ⟨by decide, by decide⟩ rfl rfl ?_
    refine st64 _ ?_
    refine mgoto 173 G64 d7_48 (by decide) rfl ?_
    refine miinc 176 G64 d7_173 rfl #[iv (2 : Int32), rv o1, iv (4 : Int32), rv b1, rv b3, iv (3 : Int32), .unset, .unset, .unset, .unset, .unset, .unset, .unset] rfl rfl ?_
    refine mgoto 16 G64 d7_176 (by decide) rfl ?_
    refine miload 18 G64 d7_16 rfl rfl ?_
    refine miloadN 19 G64 d7_18 rfl rfl ?_
    refine micmpNo 22 G64 d7_19 (tlt (by decide : (3 : Int32) < (4 : Int32))).2.1 rfl ?_
    refine miload 24 G64 d7_22 rfl rfl ?_
    refine st75 _ ?_
    show Steps p.tables e below (T75.setTop (mkF m 27 #[iv (2 : Int32), rv o1, iv (4 : Int32), rv b1, rv b3, iv (3 : Int32), .unset, .unset, .unset, .unset, .unset, .unset, .unset] [(.int (2 : Int32))])) _
    refine miconst 28 G75 d7_27 (v := (2 : Int32)) rfl rfl ?_
    refine micmpNo 31 G75 d7_28 (flt (by decide : ¬ ((2 : Int32) < (2 : Int32)))).2.2.1 rfl ?_
    refine maloadN 32 G75 d7_31 rfl rfl rfl ?_
    refine miload 34 G75 d7_32 rfl rfl ?_
    refine maloadN 35 G75 d7_34 rfl rfl rfl ?_
    refine miload 37 G75 d7_35 rfl rfl ?_
    refine mlaload 38 X75 hx hby hZ e75 f65 (v := c3_) d7_37 ⟨by decide, by decide⟩ rfl rfl ?_
    refine st76 _ ?_
    refine maload 41 G76 d7_39 rfl rfl rfl ?_
    refine miload 43 G76 d7_41 rfl rfl ?_
    refine maloadN 44 G76 d7_43 rfl rfl rfl ?_
    refine miload 46 G76 d7_44 rfl rfl ?_
    refine mlaload 47 X76 hx hby hZ e76 f77 (v := c3_) d7_46 ⟨by decide, by decide⟩ rfl rfl ?_
    refine st87 _ ?_
    refine mgoto 173 G87 d7_48 (by decide) rfl ?_
    refine miinc 176 G87 d7_173 rfl #[iv (2 : Int32), rv o1, iv (4 : Int32), rv b1, rv b3, iv (4 : Int32), .unset, .unset, .unset, .unset, .unset, .unset, .unset] rfl rfl ?_
    refine mgoto 16 G87 d7_176 (by decide) rfl ?_
    refine miload 18 G87 d7_16 rfl rfl ?_
    refine miloadN 19 G87 d7_18 rfl rfl ?_
    refine micmpYes 179 G87 d7_19 (flt (by decide : ¬ ((4 : Int32) < (4 : Int32)))).2.1 (by decide) rfl ?_
    refine miconst 180 G87 d7_179 (v := (2 : Int32)) rfl rfl ?_
    refine st98 _ ?_
    show Steps p.tables e below (T98.setTop (mkF m 182 #[iv (2 : Int32), rv o1, iv (4 : Int32), rv b1, rv b3, iv (4 : Int32), .unset, .unset, .unset, .unset, .unset, .unset, .unset] [(.ref b98)])) _
    refine mdup 183 G98 d7_182 rfl rfl ?_
    refine miconst 184 G98 d7_183 (v := (0 : Int32)) rfl rfl ?_
    refine maloadN 185 G98 d7_184 rfl rfl rfl ?_
    refine miloadN 186 G98 d7_185 rfl rfl ?_
    refine miconst 187 G98 d7_186 (v := (1 : Int32)) rfl rfl ?_
    refine misub 188 G98 d7_187 (v := (3 : Int32)) rfl rfl ?_
    refine mlaload 189 X98 hx hby hZ e98 f100 (v := c3_) d7_188 ⟨by decide, by decide⟩ rfl rfl ?_
    refine st102 _ ?_
    refine mdup 191 G102 d7_190 rfl rfl ?_
    refine miconst 192 G102 d7_191 (v := (1 : Int32)) rfl rfl ?_
    refine maload 194 G102 d7_192 rfl rfl rfl ?_
    refine miloadN 195 G102 d7_194 rfl rfl ?_
    refine miconst 196 G102 d7_195 (v := (1 : Int32)) rfl rfl ?_
    refine misub 197 G102 d7_196 (v := (3 : Int32)) rfl rfl ?_
    refine mlaload 198 X102 hx hby hZ e102 f112 (v := c3_) d7_197 ⟨by decide, by decide⟩ rfl rfl ?_
    refine st119 _ ?_
    exact retOut X119 hx Bd.returns rfl (Or.inr (Or.inr (Or.inr (Or.inr ⟨rfl, rfl, rfl⟩)))) (hb hby d7_199) hr
  · show Q7_2 Z o1 c0_ c1_ c2_ c3_ k1 h0 n0 _ T119.heap _
    rw [e119]
    exact ⟨b98, k98, rfl, g_b98, sz_b98, N119, K119, V119⟩
theorem pd_3 : parseMethodDescriptor "(I[J)V" = some ⟨[.int, (.array .long)], none⟩ := by decide +kernel
theorem pd_4 : parseMethodDescriptor "(I[J)[J" = some ⟨[.int, (.array .long)], some (.array .long)⟩ := by decide +kernel
theorem d3_0 : decode prog_7_method_1_code 0 = .ok (.aload_n 0, 1) := by decide +kernel
theorem d3_1 : decode prog_7_method_1_code 1 = .ok (.invokespecial 1, 3) := by decide +kernel
theorem d3_4 : decode prog_7_method_1_code 4 = .ok (.aload_n 0, 1) := by decide +kernel
theorem d3_5 : decode prog_7_method_1_code 5 = .ok (.iload_n 1, 1) := by decide +kernel
theorem d3_6 : decode prog_7_method_1_code 6 = .ok (.putfield 7, 3) := by decide +kernel
theorem d3_9 : decode prog_7_method_1_code 9 = .ok (.aload_n 0, 1) := by decide +kernel
theorem d3_10 : decode prog_7_method_1_code 10 = .ok (.aload_n 2, 1) := by decide +kernel
theorem d3_11 : decode prog_7_method_1_code 11 = .ok (.putfield 13, 3) := by decide +kernel
theorem d3_14 : decode prog_7_method_1_code 14 = .ok (.aload_n 0, 1) := by decide +kernel
theorem d3_15 : decode prog_7_method_1_code 15 = .ok (.aload_n 2, 1) := by decide +kernel
theorem d3_16 : decode prog_7_method_1_code 16 = .ok (.iconst 0, 1) := by decide +kernel
theorem d3_17 : decode prog_7_method_1_code 17 = .ok (.laload, 1) := by decide +kernel
theorem d3_18 : decode prog_7_method_1_code 18 = .ok (.putfield 17, 3) := by decide +kernel
theorem d3_21 : decode prog_7_method_1_code 21 = .ok (.iload_n 1, 1) := by decide +kernel
theorem d3_22 : decode prog_7_method_1_code 22 = .ok (.aload_n 2, 1) := by decide +kernel
theorem d3_23 : decode prog_7_method_1_code 23 = .ok (.invokestatic 21, 3) := by decide +kernel
theorem d3_26 : decode prog_7_method_1_code 26 = .ok (.iload_n 1, 1) := by decide +kernel
theorem d3_27 : decode prog_7_method_1_code 27 = .ok (.aload_n 2, 1) := by decide +kernel
theorem d3_28 : decode prog_7_method_1_code 28 = .ok (.invokestatic 27, 3) := by decide +kernel
theorem d3_31 : decode prog_7_method_1_code 31 = .ok (.astore_n 3, 1) := by decide +kernel
theorem d3_32 : decode prog_7_method_1_code 32 = .ok (.aload_n 0, 1) := by decide +kernel
theorem d3_33 : decode prog_7_method_1_code 33 = .ok (.aload_n 3, 1) := by decide +kernel
theorem d3_34 : decode prog_7_method_1_code 34 = .ok (.iconst 0, 1) := by decide +kernel
theorem d3_35 : decode prog_7_method_1_code 35 = .ok (.laload, 1) := by decide +kernel
theorem d3_36 : decode prog_7_method_1_code 36 = .ok (.l2d, 1) := by decide +kernel
theorem d3_37 : decode prog_7_method_1_code 37 = .ok (.putfield 31, 3) := by decide +kernel
theorem d3_40 : decode prog_7_method_1_code 40 = .ok (.aload_n 0, 1) := by decide +kernel
theorem d3_41 : decode prog_7_method_1_code 41 = .ok (.aload_n 3, 1) := by decide +kernel
theorem d3_42 : decode prog_7_method_1_code 42 = .ok (.iconst 1, 1) := by decide +kernel
theorem d3_43 : decode prog_7_method_1_code 43 = .ok (.laload, 1) := by decide +kernel
theorem d3_44 : decode prog_7_method_1_code 44 = .ok (.l2d, 1) := by decide +kernel
theorem d3_45 : decode prog_7_method_1_code 45 = .ok (.putfield 35, 3) := by decide +kernel
theorem d3_48 : decode prog_7_method_1_code 48 = .ok (.return_, 1) := by decide +kernel
theorem pn_3 : plainName "com/example/tempe/tempe/estimate/CountBracket" = true := by first | (simp [plainName, overriddenIn]; done) | decide +kernel
theorem ef3_2 (m : MethodId) (o0 : Addr) (o2 : Addr) : entryFrame m #[(.ref o0), (.int (2 : Int32)), (.ref o2)] 4 = mkF m 0 #[rv o0, iv (2 : Int32), rv o2, .unset] [] := by first | (simp [entryFrame, mkF, argsToLocals, Value.category]; done) | rfl
abbrev room_of_3_2 : Room := { frames := 2, cells := 4, slots := 14, locals := 37 }
def Q3_2 (Z : State) (o0 : Addr) (o2 : Addr) (k1 : ClassId) (c0_ : Int64) (c1_ : Int64) (c2_ : Int64) (c3_ : Int64) (h0 : Heap) (n0 : Nat) (v : Option Value) (h : Heap) (L : List Loc) : Prop := v = none ∧ Fr n0 L ∧ Keep h0 h [o0] ∧ Exa Z h o0 "com/example/tempe/tempe/estimate/CountBracket" ∧ Fld Z h o0 "com/example/tempe/tempe/estimate/CountBracket" "words" "I" (.int (2 : Int32)) ∧ Fld Z h o0 "com/example/tempe/tempe/estimate/CountBracket" "counts" "[J" (.ref o2) ∧ Fld Z h o0 "com/example/tempe/tempe/estimate/CountBracket" "documents" "J" (.long c0_) ∧ Fld Z h o0 "com/example/tempe/tempe/estimate/CountBracket" "lower" "D" (.double (FP.l2d c3_)) ∧ Fld Z h o0 "com/example/tempe/tempe/estimate/CountBracket" "upper" "D" (.double (FP.l2d c3_)) ∧ Fld Z h o0 "com/example/tempe/tempe/estimate/CountBracket" "closed" "Z" (.int (0 : Int32))
set_option maxRecDepth 65536 in
set_option maxHeartbeats 40000000 in
theorem rm3_2 (l : Launch) (Z : State) (a0 : Array Value) (hw : ∀ d ∈ tables_1, d.before a0 Z = true) (ws : List Jvm.Cond) (o0 : Addr) (o2 : Addr) {k1 : ClassId} {c0_ : Int64} {c1_ : Int64} {c2_ : Int64} {c3_ : Int64} (h0 : Heap) (n0 : Nat) (Z0 : n0 ≤ h0.size) (E_o0 : Exa Z h0 o0 "com/example/tempe/tempe/estimate/CountBracket") (g_o0 : n0 ≤ o0) (F_words_o0 : Fld Z h0 o0 "com/example/tempe/tempe/estimate/CountBracket" "words" "I" (.int (0 : Int32))) (F_counts_o0 : Fld Z h0 o0 "com/example/tempe/tempe/estimate/CountBracket" "counts" "[J" .null) (F_documents_o0 : Fld Z h0 o0 "com/example/tempe/tempe/estimate/CountBracket" "documents" "J" (.long (0 : Int64))) (F_lower_o0 : Fld Z h0 o0 "com/example/tempe/tempe/estimate/CountBracket" "lower" "D" (.double (0 : UInt64))) (F_upper_o0 : Fld Z h0 o0 "com/example/tempe/tempe/estimate/CountBracket" "upper" "D" (.double (0 : UInt64))) (F_closed_o0 : Fld Z h0 o0 "com/example/tempe/tempe/estimate/CountBracket" "closed" "Z" (.int (0 : Int32))) (ne_o0_o2 : o0 ≠ o2) (V_o2 : Arv Z h0 o2 k1 .long (4 : Int32) [(.long c0_), (.long c1_), (.long c2_), (.long c3_)] (.long (0 : Int64))) (hp_hp_hf45_19_23 : ¬ ((lcmpW c3_ (0 : Int64)) < (0 : Int32))) (hp_hp_hf52_19_23 : ¬ ((lcmpW (c1_ - c3_) (0 : Int64)) < (0 : Int32))) (hp_hp_hf59_19_23 : ¬ ((lcmpW (c2_ - c3_) (0 : Int64)) < (0 : Int32))) (hp_hp_hf66_19_23 : ¬ ((lcmpW ((c0_ - c1_) - (c2_ - c3_)) (0 : Int64)) < (0 : Int32))) (hp_hcq_28 : own_BL [c0_, c1_, c2_, c3_]) :
    MetFree l (⟨"com/example/tempe/tempe/estimate/CountBracket", "<init>", "(I[J)V"⟩ : MethodName) (head1 (Jvm.Cond.code (⟨"com/example/tempe/tempe/estimate/CountBracket", "<init>", "(I[J)V"⟩ : MethodName) prog_7_method_1_code 4 none :: ws) (room_of_3_2)) (fun a U => a = #[(.ref o0), (.int (2 : Int32)), (.ref o2)] ∧ Z.Warmed39 U.vm ∧ U.heap = h0) (fun _ _ _ _ _ => True) (fun _ U o U' => ∃ v L, o = .returned v ∧ Q3_2 Z o0 o2 k1 c0_ c1_ c2_ c3_ h0 n0 v U'.heap L ∧ FrameEnd U o U' L (room_of_3_2).cells (room_of_3_2).slots) := by
  refine MetFree.of_bodySF (plainFor_of_name pn_3) hisR ?_
  intro p e s m args below meth c s₁ Bd hml0 hP hK
  obtain ⟨rfl, hZ, hh⟩ := hP
  have hx := Bd.exec
  have hby := Bd.bytes
  have hml : c.maxLocals = 4 := hml0
  have hown : s.vm.findClass "com/example/tempe/tempe/estimate/CountBracket" = some m.cls := findClass_of_methodNamed Bd.named
  have hnm := (name_of_methodNamed Bd.named Bd.method).1
  have X0 : Stand p l e (room_of_3_2) s m #[(.ref o0), (.int (2 : Int32)), (.ref o2)] below meth c s₁ [] 0 0 := Stand.of_body Bd
  have e0 : s₁.heap = h0 := by rw [← hh, Bd.state]; rfl
  have N0 := Fr.nil n0
  have G0 := gd X0 hx hby
  have pre0 : ∀ t, Steps p.tables e below (s₁.setTop (mkF m 0 #[rv o0, iv (2 : Int32), rv o2, .unset] [])) t → Steps p.tables e below (s₁.setTop (entryFrame m #[(.ref o0), (.int (2 : Int32)), (.ref o2)] 4)) t := fun t k => castTop (ef3_2 m o0 o2) k
  obtain ⟨T1, X1, e1, st1⟩ := initO X0 hx hZ hown (wd hw 17 rfl) (wd hw 18 rfl) (wd hw 19 rfl) e0 (g := (mkF m 1 #[rv o0, iv (2 : Int32), rv o2, .unset] [(.ref o0)])) rfl (by rw [hml]; rfl) rfl (hb hby d3_1) (by decide) (W := 0) (by show 2 * 0 + _ ≤ _; exact Nat.le_of_eq rfl) (by decide)
  have G1 := gd X1 hx hby
  obtain ⟨T2, h2, X2, e2, W2, st2⟩ := putF X1 hx hZ hown (host := "") (Or.inl (wd hw 20 rfl)) Via.refl e1 F_words_o0 E_o0 (Or.inr ⟨(wd hw 21 rfl), rfl, hnm⟩) (wd hw 12 rfl) (ty := .int) (by decide) rfl rfl (g := (mkF m 6 #[rv o0, iv (2 : Int32), rv o2, .unset] [(.int (2 : Int32)), (.ref o0)])) rfl rfl (hb hby d3_6)
  have G2 := gd X2 hx hby
  have N2 := Fr.snoc X2 N0 g_o0
  have f3 := E_o0.wr W2
  have f6 := F_counts_o0.other W2 (Or.inr (slot_ne (Or.inr (wd hw 23 rfl)) (Or.inr (wd hw 21 rfl)) (by decide) (t := (.array .long)) (t' := .int) (by decide) (by decide)))
  have f7 := F_documents_o0.other W2 (Or.inr (slot_ne (Or.inr (wd hw 25 rfl)) (Or.inr (wd hw 21 rfl)) (by decide) (t := .long) (t' := .int) (by decide) (by decide)))
  have f8 := F_lower_o0.other W2 (Or.inr (slot_ne (Or.inl (wd hw 58 rfl)) (Or.inr (wd hw 21 rfl)) (by decide) (t := .double) (t' := .int) (by decide) (by decide)))
  have f9 := F_upper_o0.other W2 (Or.inr (slot_ne (Or.inl (wd hw 60 rfl)) (Or.inr (wd hw 21 rfl)) (by decide) (t := .double) (t' := .int) (by decide) (by decide)))
  have f10 := F_closed_o0.other W2 (Or.inr (slot_ne (Or.inl (wd hw 67 rfl)) (Or.inr (wd hw 21 rfl)) (by decide) (t := .boolean) (t' := .int) (by decide) (by decide)))
  have f12 := V_o2.other W2 (Ne.symm ne_o0_o2)
  have Z2 := Nat.le_trans Z0 (Keep.of_wr W2).1
  have K2 : Keep h0 h2 [o0] := (Keep.refl h0 [o0]).wr W2 (Or.inl (List.mem_of_getElem? (i := 0) rfl))
  have Fw2 := F_words_o0.same W2
  obtain ⟨T13, h13, X13, e13, W13, st13⟩ := putF X2 hx hZ hown (host := "") (Or.inl (wd hw 22 rfl)) Via.refl e2 f6 f3 (Or.inr ⟨(wd hw 23 rfl), rfl, hnm⟩) (wd hw 12 rfl) (ty := (.array .long)) (by decide) rfl rfl (g := (mkF m 11 #[rv o0, iv (2 : Int32), rv o2, .unset] [(.ref o2), (.ref o0)])) rfl rfl (hb hby d3_11)
  have G13 := gd X13 hx hby
  have N13 := Fr.snoc X13 N2 g_o0
  have f14 := f3.wr W13
  have f16 := Fw2.other W13 (Or.inr (slot_ne (Or.inr (wd hw 21 rfl)) (Or.inr (wd hw 23 rfl)) (by decide) (t := .int) (t' := (.array .long)) (by decide) (by decide)))
  have f18 := f7.other W13 (Or.inr (slot_ne (Or.inr (wd hw 25 rfl)) (Or.inr (wd hw 23 rfl)) (by decide) (t := .long) (t' := (.array .long)) (by decide) (by decide)))
  have f19 := f8.other W13 (Or.inr (slot_ne (Or.inl (wd hw 58 rfl)) (Or.inr (wd hw 23 rfl)) (by decide) (t := .double) (t' := (.array .long)) (by decide) (by decide)))
  have f20 := f9.other W13 (Or.inr (slot_ne (Or.inl (wd hw 60 rfl)) (Or.inr (wd hw 23 rfl)) (by decide) (t := .double) (t' := (.array .long)) (by decide) (by decide)))
  have f21 := f10.other W13 (Or.inr (slot_ne (Or.inl (wd hw 67 rfl)) (Or.inr (wd hw 23 rfl)) (by decide) (t := .boolean) (t' := (.array .long)) (by decide) (by decide)))
  have f23 := f12.other W13 (Ne.symm ne_o0_o2)
  have Z13 := Nat.le_trans Z2 (Keep.of_wr W13).1
  have K13 : Keep h0 h13 [o0] := K2.wr W13 (Or.inl (List.mem_of_getElem? (i := 0) rfl))
  have Fw13 := f6.same W13
  obtain ⟨T24, h24, X24, e24, W24, st24⟩ := putF X13 hx hZ hown (host := "") (Or.inl (wd hw 24 rfl)) Via.refl e13 f18 f14 (Or.inr ⟨(wd hw 25 rfl), rfl, hnm⟩) (wd hw 12 rfl) (ty := .long) (by decide) rfl rfl (g := (mkF m 18 #[rv o0, iv (2 : Int32), rv o2, .unset] [(.long c0_), (.ref o0)])) rfl rfl (hb hby d3_18)
  have G24 := gd X24 hx hby
  have N24 := Fr.snoc X24 N13 g_o0
  have f25 := f14.wr W24
  have f27 := f16.other W24 (Or.inr (slot_ne (Or.inr (wd hw 21 rfl)) (Or.inr (wd hw 25 rfl)) (by decide) (t := .int) (t' := .long) (by decide) (by decide)))
  have f28 := Fw13.other W24 (Or.inr (slot_ne (Or.inr (wd hw 23 rfl)) (Or.inr (wd hw 25 rfl)) (by decide) (t := (.array .long)) (t' := .long) (by decide) (by decide)))
  have f30 := f19.other W24 (Or.inr (slot_ne (Or.inl (wd hw 58 rfl)) (Or.inr (wd hw 25 rfl)) (by decide) (t := .double) (t' := .long) (by decide) (by decide)))
  have f31 := f20.other W24 (Or.inr (slot_ne (Or.inl (wd hw 60 rfl)) (Or.inr (wd hw 25 rfl)) (by decide) (t := .double) (t' := .long) (by decide) (by decide)))
  have f32 := f21.other W24 (Or.inr (slot_ne (Or.inl (wd hw 67 rfl)) (Or.inr (wd hw 25 rfl)) (by decide) (t := .boolean) (t' := .long) (by decide) (by decide)))
  have f34 := f23.other W24 (Ne.symm ne_o0_o2)
  have Z24 := Nat.le_trans Z13 (Keep.of_wr W24).1
  have K24 : Keep h0 h24 [o0] := K13.wr W24 (Or.inl (List.mem_of_getElem? (i := 0) rfl))
  have Fw24 := f18.same W24
  obtain ⟨_, _, ⟨T35, L35, k35, n35⟩, -, X35, ⟨Lc35, hQ35, l35, y35, z35⟩, st35⟩ := Jvm.LawKit.callS X24 hx (y := (⟨"com/example/tempe/tempe/estimate/Fit", "checkPairs", "(I[J)V"⟩ : MethodName)) hown (mvT hZ (wd hw 26 rfl)) (mvT hZ (wd hw 27 rfl)) (mvT hZ (wd hw 28 rfl)) (mvT hZ (wd hw 29 rfl)) (by decide) (backOf (W := 0) (rm5_2 l Z a0 hw [] o2 h24 n0 Z24 f34 (hp_hp_hf45_19_23) (hp_hp_hf52_19_23) (hp_hp_hf59_19_23) (hp_hp_hf66_19_23)) hZ (wd hw 29 rfl) (wd hw 28 rfl) (by decide) (by decide)) (g := (mkF m 23 #[rv o0, iv (2 : Int32), rv o2, .unset] [(.ref o2), (.int (2 : Int32))])) rfl (by rw [hml]; rfl) (argsL := [(.int (2 : Int32)), (.ref o2)]) (rest := []) (lenOf pd_3 rfl) rfl (by show 2 * 0 + _ ≤ _; exact Nat.le_of_eq rfl) (hb hby d3_23) (fun _ _ => ⟨rfl, e24, (by decide : 0 + 1 ≤ _), (by decide : 0 + 4 ≤ _)⟩)
  dsimp only [Pt.U, Pt.locs, Pt.cells, Pt.slots] at X35 l35 y35 z35 st35 hQ35
  replace l35 : (((([] ++ [⟨o0, Jvm.RoadKit.slotOf Z "com/example/tempe/tempe/estimate/CountBracket" "words" "I"⟩]) ++ [⟨o0, Jvm.RoadKit.slotOf Z "com/example/tempe/tempe/estimate/CountBracket" "counts" "[J"⟩]) ++ [⟨o0, Jvm.RoadKit.slotOf Z "com/example/tempe/tempe/estimate/CountBracket" "documents" "J"⟩]) ++ Lc35) = L35 := l35.symm
  subst l35 y35 z35
  obtain ⟨rfl, Nq35, K35⟩ := hQ35
  have N35 := Fr.app N24 Nq35
  have f36 := f25.keep K35
  have f38 := f27.keep K35 nin0
  have f39 := f28.keep K35 nin0
  have f40 := Fw24.keep K35 nin0
  have f41 := f30.keep K35 nin0
  have f42 := f31.keep K35 nin0
  have f43 := f32.keep K35 nin0
  have f45 := f34.keep K35 nin0
  have Z35k := Nat.le_trans Z24 K35.1
  have K35k : Keep h0 T35.heap [o0] := K24.trans K35 all0
  have G35 := gd X35 hx hby
  obtain ⟨_, _, ⟨T46, L46, k46, n46⟩, -, X46, ⟨Lc46, hQ46, l46, y46, z46⟩, st46⟩ := callSH X35 hx (y := (⟨"com/example/tempe/tempe/estimate/CountBracket", "range", "(I[J)[J"⟩ : MethodName)) hown (mvT hZ (wd hw 33 rfl)) (mvT hZ (wd hw 34 rfl)) (mvT hZ (wd hw 13 rfl)) (mvT hZ (wd hw 35 rfl)) (by decide) (backOfWith (W := 0) (rm7_2 l Z a0 hw [] o2 T35.heap n0 Z35k (hp_hcq_28) f45) hZ (wd hw 35 rfl) (wd hw 13 rfl) (by decide) (by decide)) (g := (mkF m 28 #[rv o0, iv (2 : Int32), rv o2, .unset] [(.ref o2), (.int (2 : Int32))])) rfl (by rw [hml]; rfl) (argsL := [(.int (2 : Int32)), (.ref o2)]) (rest := []) (lenOf pd_4 rfl) rfl (by show 2 * 0 + _ ≤ _; exact Nat.le_of_eq rfl) (hb hby d3_28) (fun _ _ => ⟨rfl, rfl, (by decide : 1 + 3 ≤ _), (by decide : 4 + 10 ≤ _)⟩)
  dsimp only [Pt.U, Pt.locs, Pt.cells, Pt.slots] at X46 l46 y46 z46 st46 hQ46
  replace l46 : ((((([] ++ [⟨o0, Jvm.RoadKit.slotOf Z "com/example/tempe/tempe/estimate/CountBracket" "words" "I"⟩]) ++ [⟨o0, Jvm.RoadKit.slotOf Z "com/example/tempe/tempe/estimate/CountBracket" "counts" "[J"⟩]) ++ [⟨o0, Jvm.RoadKit.slotOf Z "com/example/tempe/tempe/estimate/CountBracket" "documents" "J"⟩]) ++ Lc35) ++ Lc46) = L46 := l46.symm
  subst l46 y46 z46
  obtain ⟨b46, k46, rfl, g_b46, sz46, Nq46, K46, V_b46⟩ := hQ46
  have ne_o0_b46 : o0 ≠ b46 := Nat.ne_of_lt (Nat.lt_of_lt_of_le f36.lt sz46)
  have ne_o2_b46 : o2 ≠ b46 := Nat.ne_of_lt (Nat.lt_of_lt_of_le f45.lt sz46)
  have sz_b46 : h0.size ≤ b46 := Nat.le_trans K35k.1 sz46
  have N46 := Fr.app N35 Nq46
  have f47 := f36.keep K46
  have f49 := f38.keep K46 nin0
  have f50 := f39.keep K46 nin0
  have f51 := f40.keep K46 nin0
  have f52 := f41.keep K46 nin0
  have f53 := f42.keep K46 nin0
  have f54 := f43.keep K46 nin0
  have f56 := f45.keep K46 nin0
  have Z46k := Nat.le_trans Z35k K46.1
  have K46k : Keep h0 T46.heap [o0] := K35k.trans K46 all0
  have G46 := gd X46 hx hby
  obtain ⟨T61, h61, X61, e61, W61, st61⟩ := putF X46 hx hZ hown (host := "") (Or.inl (wd hw 57 rfl)) Via.refl rfl f52 f47 (Or.inl (wd hw 58 rfl)) (wd hw 12 rfl) (ty := .double) (by decide) rfl rfl (g := (mkF m 37 #[rv o0, iv (2 : Int32), rv o2, rv b46] [(.double (FP.l2d c3_)), (.ref o0)])) rfl rfl (hb hby d3_37)
  have G61 := gd X61 hx hby
  have N61 := Fr.snoc X61 N46 g_o0
  have f62 := f47.wr W61
  have f64 := f49.other W61 (Or.inr (slot_ne (Or.inr (wd hw 21 rfl)) (Or.inl (wd hw 58 rfl)) (by decide) (t := .int) (t' := .double) (by decide) (by decide)))
  have f65 := f50.other W61 (Or.inr (slot_ne (Or.inr (wd hw 23 rfl)) (Or.inl (wd hw 58 rfl)) (by decide) (t := (.array .long)) (t' := .double) (by decide) (by decide)))
  have f66 := f51.other W61 (Or.inr (slot_ne (Or.inr (wd hw 25 rfl)) (Or.inl (wd hw 58 rfl)) (by decide) (t := .long) (t' := .double) (by decide) (by decide)))
  have f68 := f53.other W61 (Or.inr (slot_ne (Or.inl (wd hw 60 rfl)) (Or.inl (wd hw 58 rfl)) (by decide) (t := .double) (t' := .double) (by decide) (by decide)))
  have f69 := f54.other W61 (Or.inr (slot_ne (Or.inl (wd hw 67 rfl)) (Or.inl (wd hw 58 rfl)) (by decide) (t := .boolean) (t' := .double) (by decide) (by decide)))
  have f71 := f56.other W61 (Ne.symm ne_o0_o2)
  have f76 := V_b46.other W61 (Ne.symm ne_o0_b46)
  have Z61 := Nat.le_trans Z46k (Keep.of_wr W61).1
  have K61 : Keep h0 h61 [o0] := K46k.wr W61 (Or.inl (List.mem_of_getElem? (i := 0) rfl))
  have Fw61 := f52.same W61
  obtain ⟨T77, h77, X77, e77, W77, st77⟩ := putF X61 hx hZ hown (host := "") (Or.inl (wd hw 59 rfl)) Via.refl e61 f68 f62 (Or.inl (wd hw 60 rfl)) (wd hw 12 rfl) (ty := .double) (by decide) rfl rfl (g := (mkF m 45 #[rv o0, iv (2 : Int32), rv o2, rv b46] [(.double (FP.l2d c3_)), (.ref o0)])) rfl rfl (hb hby d3_45)
  have G77 := gd X77 hx hby
  have N77 := Fr.snoc X77 N61 g_o0
  have f78 := f62.wr W77
  have f80 := f64.other W77 (Or.inr (slot_ne (Or.inr (wd hw 21 rfl)) (Or.inl (wd hw 60 rfl)) (by decide) (t := .int) (t' := .double) (by decide) (by decide)))
  have f81 := f65.other W77 (Or.inr (slot_ne (Or.inr (wd hw 23 rfl)) (Or.inl (wd hw 60 rfl)) (by decide) (t := (.array .long)) (t' := .double) (by decide) (by decide)))
  have f82 := f66.other W77 (Or.inr (slot_ne (Or.inr (wd hw 25 rfl)) (Or.inl (wd hw 60 rfl)) (by decide) (t := .long) (t' := .double) (by decide) (by decide)))
  have f83 := Fw61.other W77 (Or.inr (slot_ne (Or.inl (wd hw 58 rfl)) (Or.inl (wd hw 60 rfl)) (by decide) (t := .double) (t' := .double) (by decide) (by decide)))
  have f85 := f69.other W77 (Or.inr (slot_ne (Or.inl (wd hw 67 rfl)) (Or.inl (wd hw 60 rfl)) (by decide) (t := .boolean) (t' := .double) (by decide) (by decide)))
  have f87 := f71.other W77 (Ne.symm ne_o0_o2)
  have f92 := f76.other W77 (Ne.symm ne_o0_b46)
  have Z77 := Nat.le_trans Z61 (Keep.of_wr W77).1
  have K77 : Keep h0 h77 [o0] := K61.wr W77 (Or.inl (List.mem_of_getElem? (i := 0) rfl))
  have Fw77 := f68.same W77
  obtain ⟨fs, hr, hrun, hended, hW, hsame⟩ := X77.leave (v := none) (fun _ => rfl)
  refine ⟨_, _, pre0 _ ?_, hrun, hended, _, _, rfl, ?_, ⟨_, rfl⟩, hW, hsame.mono (by decide) (by decide)⟩
  · show Steps p.tables e below (s₁.setTop (mkF m 0 #[rv o0, iv (2 : Int32), rv o2, .unset] [])) _
    refine maloadN 1 G0 d3_0 rfl rfl rfl ?_
    refine st1 _ ?_
    show Steps p.tables e below (T1.setTop (mkF m 4 #[rv o0, iv (2 : Int32), rv o2, .unset] [])) _
    refine maloadN 5 G1 d3_4 rfl rfl rfl ?_
    refine miloadN 6 G1 d3_5 rfl rfl ?_
    refine st2 _ ?_
    show Steps p.tables e below (T2.setTop (mkF m 9 #[rv o0, iv (2 : Int32), rv o2, .unset] [])) _
    refine maloadN 10 G2 d3_9 rfl rfl rfl ?_
    refine maloadN 11 G2 d3_10 rfl rfl rfl ?_
    refine st13 _ ?_
    show Steps p.tables e below (T13.setTop (mkF m 14 #[rv o0, iv (2 : Int32), rv o2, .unset] [])) _
    refine maloadN 15 G13 d3_14 rfl rfl rfl ?_
    refine maloadN 16 G13 d3_15 rfl rfl rfl ?_
    refine miconst 17 G13 d3_16 (v := (0 : Int32)) rfl rfl ?_
    refine mlaload 18 X13 hx hby hZ e13 f23 (v := c0_) d3_17 ⟨by decide, by decide⟩ rfl rfl ?_
    refine st24 _ ?_
    show Steps p.tables e below (T24.setTop (mkF m 21 #[rv o0, iv (2 : Int32), rv o2, .unset] [])) _
    refine miloadN 22 G24 d3_21 rfl rfl ?_
    refine maloadN 23 G24 d3_22 rfl rfl rfl ?_
    refine st35 _ ?_
    show Steps p.tables e below (T35.setTop (mkF m 26 #[rv o0, iv (2 : Int32), rv o2, .unset] [])) _
    refine miloadN 27 G35 d3_26 rfl rfl ?_
    refine maloadN 28 G35 d3_27 rfl rfl rfl ?_
    refine st46 _ ?_
    show Steps p.tables e below (T46.setTop (mkF m 31 #[rv o0, iv (2 : Int32), rv o2, .unset] [(.ref b46)])) _
    refine mastoreN 32 G46 d3_31 rfl #[rv o0, iv (2 : Int32), rv o2, rv b46] rfl rfl ?_
    refine maloadN 33 G46 d3_32 rfl rfl rfl ?_
    refine maloadN 34 G46 d3_33 rfl rfl rfl ?_
    refine miconst 35 G46 d3_34 (v := (0 : Int32)) rfl rfl ?_
    refine mlaload 36 X46 hx hby hZ rfl V_b46 (v := c3_) d3_35 ⟨by decide, by decide⟩ rfl rfl ?_
    refine ml2d 37 G46 d3_36 rfl ?_
    refine st61 _ ?_
    show Steps p.tables e below (T61.setTop (mkF m 40 #[rv o0, iv (2 : Int32), rv o2, rv b46] [])) _
    refine maloadN 41 G61 d3_40 rfl rfl rfl ?_
    refine maloadN 42 G61 d3_41 rfl rfl rfl ?_
    refine miconst 43 G61 d3_42 (v := (1 : Int32)) rfl rfl ?_
    refine mlaload 44 X61 hx hby hZ e61 f76 (v := c3_) d3_43 ⟨by decide, by decide⟩ rfl rfl ?_
    refine ml2d 45 G61 d3_44 rfl ?_
    refine st77 _ ?_
    show Steps p.tables e below (T77.setTop (mkF m 48 #[rv o0, iv (2 : Int32), rv o2, rv b46] [])) _
    exact X77.returnOut hx Bd.returns (hb hby d3_48) hr
  · show Q3_2 Z o0 o2 k1 c0_ c1_ c2_ c3_ h0 n0 _ T77.heap _
    rw [e77]
    exact ⟨rfl, N77, K77, f78, f80, f81, f82, f83, Fw77, f85⟩
theorem ef6_01_8 (m : MethodId) (o0 : Addr) : entryFrame m #[(.ref o0), (.int (0 : Int32)), (.int (1 : Int32))] 11 = mkF m 0 #[rv o0, iv (0 : Int32), iv (1 : Int32), .unset, .unset, .unset, .unset, .unset, .unset, .unset, .unset] [] := by first | (simp [entryFrame, mkF, argsToLocals, Value.category]; done) | rfl
abbrev room_of_6_01_8 : Room := { frames := 0, cells := 1, slots := 4, locals := 0 }
def Q6_01_8 (Z : State) (o0 : Addr) (k1 : ClassId) (c0_ : Int64) (c1_ : Int64) (c2_ : Int64) (c3_ : Int64) (c4_ : Int64) (c5_ : Int64) (c6_ : Int64) (c7_ : Int64) (h0 : Heap) (n0 : Nat) (v : Option Value) (h : Heap) (L : List Loc) : Prop := ∃ (b : Addr) (k : ClassId), v = some (.ref b) ∧ n0 ≤ b ∧ h0.size ≤ b ∧ Fr n0 L ∧ Keep h0 h [] ∧ Arv Z h b k .long (4 : Int32) [(.long ((c0_ - c1_) - (c2_ - c3_))), (.long (c2_ - c3_)), (.long (c1_ - c3_)), (.long c3_)] (.long (0 : Int64))
set_option maxRecDepth 65536 in
set_option maxHeartbeats 40000000 in
theorem rm6_01_8 (l : Launch) (Z : State) (a0 : Array Value) (hw : ∀ d ∈ tables_1, d.before a0 Z = true) (ws : List Jvm.Cond) (o0 : Addr) {k1 : ClassId} {c0_ : Int64} {c1_ : Int64} {c2_ : Int64} {c3_ : Int64} {c4_ : Int64} {c5_ : Int64} {c6_ : Int64} {c7_ : Int64} (h0 : Heap) (n0 : Nat) (Z0 : n0 ≤ h0.size) (V_o0 : Arv Z h0 o0 k1 .long (8 : Int32) [(.long c0_), (.long c1_), (.long c2_), (.long c3_), (.long c4_), (.long c5_), (.long c6_), (.long c7_)] (.long (0 : Int64))) (hf45 : ¬ ((lcmpW c3_ (0 : Int64)) < (0 : Int32))) (hf52 : ¬ ((lcmpW (c1_ - c3_) (0 : Int64)) < (0 : Int32))) (hf59 : ¬ ((lcmpW (c2_ - c3_) (0 : Int64)) < (0 : Int32))) (hf66 : ¬ ((lcmpW ((c0_ - c1_) - (c2_ - c3_)) (0 : Int64)) < (0 : Int32))) :
    MetFree l (⟨"com/example/tempe/tempe/estimate/Fit", "pairGroups", "([JII)[J"⟩ : MethodName) (head1 (Jvm.Cond.code (⟨"com/example/tempe/tempe/estimate/Fit", "pairGroups", "([JII)[J"⟩ : MethodName) prog_9_method_3_code 11 (some (.array .long)) :: ws) (room_of_6_01_8)) (fun a U => a = #[(.ref o0), (.int (0 : Int32)), (.int (1 : Int32))] ∧ Z.Warmed39 U.vm ∧ U.heap = h0) (fun _ _ _ _ _ => True) (fun _ U o U' => ∃ v L, o = .returned v ∧ Q6_01_8 Z o0 k1 c0_ c1_ c2_ c3_ c4_ c5_ c6_ c7_ h0 n0 v U'.heap L ∧ FrameEnd U o U' L (room_of_6_01_8).cells (room_of_6_01_8).slots) := by
  refine MetFree.of_bodySF (plainFor_of_name pn_6) hisR ?_
  intro p e s m args below meth c s₁ Bd hml0 hP hK
  obtain ⟨rfl, hZ, hh⟩ := hP
  have hx := Bd.exec
  have hby := Bd.bytes
  have hml : c.maxLocals = 11 := hml0
  have hown : s.vm.findClass "com/example/tempe/tempe/estimate/Fit" = some m.cls := findClass_of_methodNamed Bd.named
  have hnm := (name_of_methodNamed Bd.named Bd.method).1
  have X0 : Stand p l e (room_of_6_01_8) s m #[(.ref o0), (.int (0 : Int32)), (.int (1 : Int32))] below meth c s₁ [] 0 0 := Stand.of_body Bd
  have e0 : s₁.heap = h0 := by rw [← hh, Bd.state]; rfl
  have N0 := Fr.nil n0
  have G0 := gd X0 hx hby
  have pre0 : ∀ t, Steps p.tables e below (s₁.setTop (mkF m 0 #[rv o0, iv (0 : Int32), iv (1 : Int32), .unset, .unset, .unset, .unset, .unset, .unset, .unset, .unset] [])) t → Steps p.tables e below (s₁.setTop (entryFrame m #[(.ref o0), (.int (0 : Int32)), (.int (1 : Int32))] 11)) t := fun t k => castTop (ef6_01_8 m o0) k
  obtain ⟨T1, h1, k1, X1, e1, E1, A1, st1⟩ := newP X0 hx hZ (wd hw 6 rfl) e0 (g := (mkF m 88 #[rv o0, iv (0 : Int32), iv (1 : Int32), lv c3_, .second, lv (c1_ - c3_), .second, lv (c2_ - c3_), .second, lv ((c0_ - c1_) - (c2_ - c3_)), .second] [(.int (4 : Int32))])) rfl (hb hby d6_88) rfl (by decide) (cap := 4) (by decide) (by decide) (by decide) (by decide)
  have G1 := gd X1 hx hby
  obtain ⟨b1, g1⟩ : ∃ z, z = h0.size := ⟨_, rfl⟩
  rw [← g1] at A1 st1
  have ne_o0_b1 : o0 ≠ b1 := Nat.ne_of_lt (Nat.lt_of_lt_of_le V_o0.lt (Nat.le_of_eq g1.symm))
  have g_b1 : n0 ≤ b1 := Nat.le_trans Z0 (Nat.le_of_eq g1.symm)
  have sz_b1 : h0.size ≤ b1 := Nat.le_trans (Keep.refl h0 []).1 (Nat.le_of_eq g1.symm)
  have f2 := V_o0.ext E1
  have Z1 := Nat.le_trans Z0 E1.1
  have K1 : Keep h0 h1 [] := (Keep.refl h0 []).ext E1
  have V_b1 : Arv Z h1 b1 k1 .long (4 : Int32) [(.long (0 : Int64)), (.long (0 : Int64)), (.long (0 : Int64)), (.long (0 : Int64))] (.long (0 : Int64)) := (Arv.new A1 (by decide)).pad (pad_rep [] (.long (0 : Int64)) 4)
  obtain ⟨T3, h3, X3, e3, W3, Vs3, st3⟩ := own_stJ X1 hx hby hZ e1 V_b1 (j := (0 : Int32)) (v := ((c0_ - c1_) - (c2_ - c3_))) d6_94 ⟨by decide, by decide⟩ 0 rfl (Nat.le_of_ble_eq_true rfl) #[rv o0, iv (0 : Int32), iv (1 : Int32), lv c3_, .second, lv (c1_ - c3_), .second, lv (c2_ - c3_), .second, lv ((c0_ - c1_) - (c2_ - c3_)), .second] [(.ref b1)] 95 rfl
  have G3 := gd X3 hx hby
  have N3 := Fr.snoc X3 N0 g_b1
  have f4 := f2.other W3 ne_o0_b1
  have Z3 := Nat.le_trans Z1 (Keep.of_wr W3).1
  have K3 : Keep h0 h3 [] := K1.wr W3 (Or.inr sz_b1)
  have V3 : Arv Z h3 b1 k1 .long (4 : Int32) [(.long ((c0_ - c1_) - (c2_ - c3_))), (.long (0 : Int64)), (.long (0 : Int64)), (.long (0 : Int64))] (.long (0 : Int64)) := Vs3
  obtain ⟨T9, h9, X9, e9, W9, Vs9, st9⟩ := own_stJ X3 hx hby hZ e3 V3 (j := (1 : Int32)) (v := (c2_ - c3_)) d6_99 ⟨by decide, by decide⟩ 1 rfl (Nat.le_of_ble_eq_true rfl) #[rv o0, iv (0 : Int32), iv (1 : Int32), lv c3_, .second, lv (c1_ - c3_), .second, lv (c2_ - c3_), .second, lv ((c0_ - c1_) - (c2_ - c3_)), .second] [(.ref b1)] 100 rfl
  have G9 := gd X9 hx hby
  have N9 := Fr.snoc X9 N3 g_b1
  have f10 := f4.other W9 ne_o0_b1
  have Z9 := Nat.le_trans Z3 (Keep.of_wr W9).1
  have K9 : Keep h0 h9 [] := K3.wr W9 (Or.inr sz_b1)
  have V9 : Arv Z h9 b1 k1 .long (4 : Int32) [(.long ((c0_ - c1_) - (c2_ - c3_))), (.long (c2_ - c3_)), (.long (0 : Int64)), (.long (0 : Int64))] (.long (0 : Int64)) := Vs9
  obtain ⟨T15, h15, X15, e15, W15, Vs15, st15⟩ := own_stJ X9 hx hby hZ e9 V9 (j := (2 : Int32)) (v := (c1_ - c3_)) d6_104 ⟨by decide, by decide⟩ 2 rfl (Nat.le_of_ble_eq_true rfl) #[rv o0, iv (0 : Int32), iv (1 : Int32), lv c3_, .second, lv (c1_ - c3_), .second, lv (c2_ - c3_), .second, lv ((c0_ - c1_) - (c2_ - c3_)), .second] [(.ref b1)] 105 rfl
  have G15 := gd X15 hx hby
  have N15 := Fr.snoc X15 N9 g_b1
  have f16 := f10.other W15 ne_o0_b1
  have Z15 := Nat.le_trans Z9 (Keep.of_wr W15).1
  have K15 : Keep h0 h15 [] := K9.wr W15 (Or.inr sz_b1)
  have V15 : Arv Z h15 b1 k1 .long (4 : Int32) [(.long ((c0_ - c1_) - (c2_ - c3_))), (.long (c2_ - c3_)), (.long (c1_ - c3_)), (.long (0 : Int64))] (.long (0 : Int64)) := Vs15
  obtain ⟨T21, h21, X21, e21, W21, Vs21, st21⟩ := own_stJ X15 hx hby hZ e15 V15 (j := (3 : Int32)) (v := c3_) d6_108 ⟨by decide, by decide⟩ 3 rfl (Nat.le_of_ble_eq_true rfl) #[rv o0, iv (0 : Int32), iv (1 : Int32), lv c3_, .second, lv (c1_ - c3_), .second, lv (c2_ - c3_), .second, lv ((c0_ - c1_) - (c2_ - c3_)), .second] [(.ref b1)] 109 rfl
  have G21 := gd X21 hx hby
  have N21 := Fr.snoc X21 N15 g_b1
  have f22 := f16.other W21 ne_o0_b1
  have Z21 := Nat.le_trans Z15 (Keep.of_wr W21).1
  have K21 : Keep h0 h21 [] := K15.wr W21 (Or.inr sz_b1)
  have V21 : Arv Z h21 b1 k1 .long (4 : Int32) [(.long ((c0_ - c1_) - (c2_ - c3_))), (.long (c2_ - c3_)), (.long (c1_ - c3_)), (.long c3_)] (.long (0 : Int64)) := Vs21
  obtain ⟨fs, hr, hrun, hended, hW, hsame⟩ := X21.leave (v := some (.ref b1)) (fun h => by rw [Bd.returns] at h; cases h)
  refine ⟨_, _, pre0 _ ?_, hrun, hended, _, _, rfl, ?_, ⟨_, rfl⟩, hW, hsame.mono (by decide) (by decide)⟩
  · show Steps p.tables e below (s₁.setTop (mkF m 0 #[rv o0, iv (0 : Int32), iv (1 : Int32), .unset, .unset, .unset, .unset, .unset, .unset, .unset, .unset] [])) _
    refine maloadN 1 G0 d6_0 rfl rfl rfl ?_
    refine miconst 2 G0 d6_1 (v := (1 : Int32)) rfl rfl ?_
    refine miloadN 3 G0 d6_2 rfl rfl ?_
    refine mishl 4 G0 d6_3 (v := (1 : Int32)) rfl rfl ?_
    refine miconst 5 G0 d6_4 (v := (1 : Int32)) rfl rfl ?_
    refine miloadN 6 G0 d6_5 rfl rfl ?_
    refine mishl 7 G0 d6_6 (v := (2 : Int32)) rfl rfl ?_
    refine mior 8 G0 d6_7 (v := (3 : Int32)) rfl rfl ?_
    refine mlaload 9 X0 hx hby hZ e0 V_o0 (v := c3_) d6_8 ⟨by decide, by decide⟩ rfl rfl ?_
    refine mlstoreN 10 G0 d6_9 #[rv o0, iv (0 : Int32), iv (1 : Int32), lv c3_, .second, .unset, .unset, .unset, .unset, .unset, .unset] rfl rfl ?_
    refine maloadN 11 G0 d6_10 rfl rfl rfl ?_
    refine miconst 12 G0 d6_11 (v := (1 : Int32)) rfl rfl ?_
    refine miloadN 13 G0 d6_12 rfl rfl ?_
    refine mishl 14 G0 d6_13 (v := (1 : Int32)) rfl rfl ?_
    refine mlaload 15 X0 hx hby hZ e0 V_o0 (v := c1_) d6_14 ⟨by decide, by decide⟩ rfl rfl ?_
    refine mlloadN 16 G0 d6_15 rfl rfl ?_
    refine mlsub 17 G0 d6_16 rfl rfl ?_
    refine mlstore 19 G0 d6_17 #[rv o0, iv (0 : Int32), iv (1 : Int32), lv c3_, .second, lv (c1_ - c3_), .second, .unset, .unset, .unset, .unset] rfl rfl ?_
    refine maloadN 20 G0 d6_19 rfl rfl rfl ?_
    refine miconst 21 G0 d6_20 (v := (1 : Int32)) rfl rfl ?_
    refine miloadN 22 G0 d6_21 rfl rfl ?_
    refine mishl 23 G0 d6_22 (v := (2 : Int32)) rfl rfl ?_
    refine mlaload 24 X0 hx hby hZ e0 V_o0 (v := c2_) d6_23 ⟨by decide, by decide⟩ rfl rfl ?_
    refine mlloadN 25 G0 d6_24 rfl rfl ?_
    refine mlsub 26 G0 d6_25 rfl rfl ?_
    refine mlstore 28 G0 d6_26 #[rv o0, iv (0 : Int32), iv (1 : Int32), lv c3_, .second, lv (c1_ - c3_), .second, lv (c2_ - c3_), .second, .unset, .unset] rfl rfl ?_
    refine maloadN 29 G0 d6_28 rfl rfl rfl ?_
    refine miconst 30 G0 d6_29 (v := (0 : Int32)) rfl rfl ?_
    refine mlaload 31 X0 hx hby hZ e0 V_o0 (v := c0_) d6_30 ⟨by decide, by decide⟩ rfl rfl ?_
    refine maloadN 32 G0 d6_31 rfl rfl rfl ?_
    refine miconst 33 G0 d6_32 (v := (1 : Int32)) rfl rfl ?_
    refine miloadN 34 G0 d6_33 rfl rfl ?_
    refine mishl 35 G0 d6_34 (v := (1 : Int32)) rfl rfl ?_
    refine mlaload 36 X0 hx hby hZ e0 V_o0 (v := c1_) d6_35 ⟨by decide, by decide⟩ rfl rfl ?_
    refine mlsub 37 G0 d6_36 rfl rfl ?_
    refine mlload 39 G0 d6_37 rfl rfl ?_
    refine mlsub 40 G0 d6_39 rfl rfl ?_
    refine mlstore 42 G0 d6_40 #[rv o0, iv (0 : Int32), iv (1 : Int32), lv c3_, .second, lv (c1_ - c3_), .second, lv (c2_ - c3_), .second, lv ((c0_ - c1_) - (c2_ - c3_)), .second] rfl rfl ?_
    refine mlloadN 43 G0 d6_42 rfl rfl ?_
    refine mlconst 44 G0 d6_43 (v := (0 : Int64)) rfl rfl ?_
    refine mlcmp 45 G0 d6_44 rfl ?_
    refine mifNo 48 G0 d6_45 ((if0 _ _).trans (flt (hf45)).1) rfl ?_
    refine mlload 50 G0 d6_48 rfl rfl ?_
    refine mlconst 51 G0 d6_50 (v := (0 : Int64)) rfl rfl ?_
    refine mlcmp 52 G0 d6_51 rfl ?_
    refine mifNo 55 G0 d6_52 ((if0 _ _).trans (flt (hf52)).1) rfl ?_
    refine mlload 57 G0 d6_55 rfl rfl ?_
    refine mlconst 58 G0 d6_57 (v := (0 : Int64)) rfl rfl ?_
    refine mlcmp 59 G0 d6_58 rfl ?_
    refine mifNo 62 G0 d6_59 ((if0 _ _).trans (flt (hf59)).1) rfl ?_
    refine mlload 64 G0 d6_62 rfl rfl ?_
    refine mlconst 65 G0 d6_64 (v := (0 : Int64)) rfl rfl ?_
    refine mlcmp 66 G0 d6_65 rfl ?_
    refine mifYes 87 G0 d6_66 ((if0 _ _).trans (flt (hf66)).2.1) (by decide) rfl ?_
    refine miconst 88 G0 d6_87 (v := (4 : Int32)) rfl rfl ?_
    refine st1 _ ?_
    show Steps p.tables e below (T1.setTop (mkF m 90 #[rv o0, iv (0 : Int32), iv (1 : Int32), lv c3_, .second, lv (c1_ - c3_), .second, lv (c2_ - c3_), .second, lv ((c0_ - c1_) - (c2_ - c3_)), .second] [(.ref b1)])) _
    refine mdup 91 G1 d6_90 rfl rfl ?_
    refine miconst 92 G1 d6_91 (v := (0 : Int32)) rfl rfl ?_
    refine mlload 94 G1 d6_92 rfl rfl ?_
    refine st3 _ ?_
    refine mdup 96 G3 d6_95 rfl rfl ?_
    refine miconst 97 G3 d6_96 (v := (1 : Int32)) rfl rfl ?_
    refine mlload 99 G3 d6_97 rfl rfl ?_
    refine st9 _ ?_
    refine mdup 101 G9 d6_100 rfl rfl ?_
    refine miconst 102 G9 d6_101 (v := (2 : Int32)) rfl rfl ?_
    refine mlload 104 G9 d6_102 rfl rfl ?_
    refine st15 _ ?_
    refine mdup 106 G15 d6_105 rfl rfl ?_
    refine miconst 107 G15 d6_106 (v := (3 : Int32)) rfl rfl ?_
    refine mlloadN 108 G15 d6_107 rfl rfl ?_
    refine st21 _ ?_
    exact retOut X21 hx Bd.returns rfl (Or.inr (Or.inr (Or.inr (Or.inr ⟨rfl, rfl, rfl⟩)))) (hb hby d6_109) hr
  · show Q6_01_8 Z o0 k1 c0_ c1_ c2_ c3_ c4_ c5_ c6_ c7_ h0 n0 _ T21.heap _
    rw [e21]
    exact ⟨b1, k1, rfl, g_b1, sz_b1, N21, K21, V21⟩
theorem ef6_02_8 (m : MethodId) (o0 : Addr) : entryFrame m #[(.ref o0), (.int (0 : Int32)), (.int (2 : Int32))] 11 = mkF m 0 #[rv o0, iv (0 : Int32), iv (2 : Int32), .unset, .unset, .unset, .unset, .unset, .unset, .unset, .unset] [] := by first | (simp [entryFrame, mkF, argsToLocals, Value.category]; done) | rfl
abbrev room_of_6_02_8 : Room := { frames := 0, cells := 1, slots := 4, locals := 0 }
def Q6_02_8 (Z : State) (o0 : Addr) (k1 : ClassId) (c0_ : Int64) (c1_ : Int64) (c2_ : Int64) (c3_ : Int64) (c4_ : Int64) (c5_ : Int64) (c6_ : Int64) (c7_ : Int64) (h0 : Heap) (n0 : Nat) (v : Option Value) (h : Heap) (L : List Loc) : Prop := ∃ (b : Addr) (k : ClassId), v = some (.ref b) ∧ n0 ≤ b ∧ h0.size ≤ b ∧ Fr n0 L ∧ Keep h0 h [] ∧ Arv Z h b k .long (4 : Int32) [(.long ((c0_ - c1_) - (c4_ - c5_))), (.long (c4_ - c5_)), (.long (c1_ - c5_)), (.long c5_)] (.long (0 : Int64))
set_option maxRecDepth 65536 in
set_option maxHeartbeats 40000000 in
theorem rm6_02_8 (l : Launch) (Z : State) (a0 : Array Value) (hw : ∀ d ∈ tables_1, d.before a0 Z = true) (ws : List Jvm.Cond) (o0 : Addr) {k1 : ClassId} {c0_ : Int64} {c1_ : Int64} {c2_ : Int64} {c3_ : Int64} {c4_ : Int64} {c5_ : Int64} {c6_ : Int64} {c7_ : Int64} (h0 : Heap) (n0 : Nat) (Z0 : n0 ≤ h0.size) (V_o0 : Arv Z h0 o0 k1 .long (8 : Int32) [(.long c0_), (.long c1_), (.long c2_), (.long c3_), (.long c4_), (.long c5_), (.long c6_), (.long c7_)] (.long (0 : Int64))) (hf45 : ¬ ((lcmpW c5_ (0 : Int64)) < (0 : Int32))) (hf52 : ¬ ((lcmpW (c1_ - c5_) (0 : Int64)) < (0 : Int32))) (hf59 : ¬ ((lcmpW (c4_ - c5_) (0 : Int64)) < (0 : Int32))) (hf66 : ¬ ((lcmpW ((c0_ - c1_) - (c4_ - c5_)) (0 : Int64)) < (0 : Int32))) :
    MetFree l (⟨"com/example/tempe/tempe/estimate/Fit", "pairGroups", "([JII)[J"⟩ : MethodName) (head1 (Jvm.Cond.code (⟨"com/example/tempe/tempe/estimate/Fit", "pairGroups", "([JII)[J"⟩ : MethodName) prog_9_method_3_code 11 (some (.array .long)) :: ws) (room_of_6_02_8)) (fun a U => a = #[(.ref o0), (.int (0 : Int32)), (.int (2 : Int32))] ∧ Z.Warmed39 U.vm ∧ U.heap = h0) (fun _ _ _ _ _ => True) (fun _ U o U' => ∃ v L, o = .returned v ∧ Q6_02_8 Z o0 k1 c0_ c1_ c2_ c3_ c4_ c5_ c6_ c7_ h0 n0 v U'.heap L ∧ FrameEnd U o U' L (room_of_6_02_8).cells (room_of_6_02_8).slots) := by
  refine MetFree.of_bodySF (plainFor_of_name pn_6) hisR ?_
  intro p e s m args below meth c s₁ Bd hml0 hP hK
  obtain ⟨rfl, hZ, hh⟩ := hP
  have hx := Bd.exec
  have hby := Bd.bytes
  have hml : c.maxLocals = 11 := hml0
  have hown : s.vm.findClass "com/example/tempe/tempe/estimate/Fit" = some m.cls := findClass_of_methodNamed Bd.named
  have hnm := (name_of_methodNamed Bd.named Bd.method).1
  have X0 : Stand p l e (room_of_6_02_8) s m #[(.ref o0), (.int (0 : Int32)), (.int (2 : Int32))] below meth c s₁ [] 0 0 := Stand.of_body Bd
  have e0 : s₁.heap = h0 := by rw [← hh, Bd.state]; rfl
  have N0 := Fr.nil n0
  have G0 := gd X0 hx hby
  have pre0 : ∀ t, Steps p.tables e below (s₁.setTop (mkF m 0 #[rv o0, iv (0 : Int32), iv (2 : Int32), .unset, .unset, .unset, .unset, .unset, .unset, .unset, .unset] [])) t → Steps p.tables e below (s₁.setTop (entryFrame m #[(.ref o0), (.int (0 : Int32)), (.int (2 : Int32))] 11)) t := fun t k => castTop (ef6_02_8 m o0) k
  obtain ⟨T1, h1, k1, X1, e1, E1, A1, st1⟩ := newP X0 hx hZ (wd hw 6 rfl) e0 (g := (mkF m 88 #[rv o0, iv (0 : Int32), iv (2 : Int32), lv c5_, .second, lv (c1_ - c5_), .second, lv (c4_ - c5_), .second, lv ((c0_ - c1_) - (c4_ - c5_)), .second] [(.int (4 : Int32))])) rfl (hb hby d6_88) rfl (by decide) (cap := 4) (by decide) (by decide) (by decide) (by decide)
  have G1 := gd X1 hx hby
  obtain ⟨b1, g1⟩ : ∃ z, z = h0.size := ⟨_, rfl⟩
  rw [← g1] at A1 st1
  have ne_o0_b1 : o0 ≠ b1 := Nat.ne_of_lt (Nat.lt_of_lt_of_le V_o0.lt (Nat.le_of_eq g1.symm))
  have g_b1 : n0 ≤ b1 := Nat.le_trans Z0 (Nat.le_of_eq g1.symm)
  have sz_b1 : h0.size ≤ b1 := Nat.le_trans (Keep.refl h0 []).1 (Nat.le_of_eq g1.symm)
  have f2 := V_o0.ext E1
  have Z1 := Nat.le_trans Z0 E1.1
  have K1 : Keep h0 h1 [] := (Keep.refl h0 []).ext E1
  have V_b1 : Arv Z h1 b1 k1 .long (4 : Int32) [(.long (0 : Int64)), (.long (0 : Int64)), (.long (0 : Int64)), (.long (0 : Int64))] (.long (0 : Int64)) := (Arv.new A1 (by decide)).pad (pad_rep [] (.long (0 : Int64)) 4)
  obtain ⟨T3, h3, X3, e3, W3, Vs3, st3⟩ := own_stJ X1 hx hby hZ e1 V_b1 (j := (0 : Int32)) (v := ((c0_ - c1_) - (c4_ - c5_))) d6_94 ⟨by decide, by decide⟩ 0 rfl (Nat.le_of_ble_eq_true rfl) #[rv o0, iv (0 : Int32), iv (2 : Int32), lv c5_, .second, lv (c1_ - c5_), .second, lv (c4_ - c5_), .second, lv ((c0_ - c1_) - (c4_ - c5_)), .second] [(.ref b1)] 95 rfl
  have G3 := gd X3 hx hby
  have N3 := Fr.snoc X3 N0 g_b1
  have f4 := f2.other W3 ne_o0_b1
  have Z3 := Nat.le_trans Z1 (Keep.of_wr W3).1
  have K3 : Keep h0 h3 [] := K1.wr W3 (Or.inr sz_b1)
  have V3 : Arv Z h3 b1 k1 .long (4 : Int32) [(.long ((c0_ - c1_) - (c4_ - c5_))), (.long (0 : Int64)), (.long (0 : Int64)), (.long (0 : Int64))] (.long (0 : Int64)) := Vs3
  obtain ⟨T9, h9, X9, e9, W9, Vs9, st9⟩ := own_stJ X3 hx hby hZ e3 V3 (j := (1 : Int32)) (v := (c4_ - c5_)) d6_99 ⟨by decide, by decide⟩ 1 rfl (Nat.le_of_ble_eq_true rfl) #[rv o0, iv (0 : Int32), iv (2 : Int32), lv c5_, .second, lv (c1_ - c5_), .second, lv (c4_ - c5_), .second, lv ((c0_ - c1_) - (c4_ - c5_)), .second] [(.ref b1)] 100 rfl
  have G9 := gd X9 hx hby
  have N9 := Fr.snoc X9 N3 g_b1
  have f10 := f4.other W9 ne_o0_b1
  have Z9 := Nat.le_trans Z3 (Keep.of_wr W9).1
  have K9 : Keep h0 h9 [] := K3.wr W9 (Or.inr sz_b1)
  have V9 : Arv Z h9 b1 k1 .long (4 : Int32) [(.long ((c0_ - c1_) - (c4_ - c5_))), (.long (c4_ - c5_)), (.long (0 : Int64)), (.long (0 : Int64))] (.long (0 : Int64)) := Vs9
  obtain ⟨T15, h15, X15, e15, W15, Vs15, st15⟩ := own_stJ X9 hx hby hZ e9 V9 (j := (2 : Int32)) (v := (c1_ - c5_)) d6_104 ⟨by decide, by decide⟩ 2 rfl (Nat.le_of_ble_eq_true rfl) #[rv o0, iv (0 : Int32), iv (2 : Int32), lv c5_, .second, lv (c1_ - c5_), .second, lv (c4_ - c5_), .second, lv ((c0_ - c1_) - (c4_ - c5_)), .second] [(.ref b1)] 105 rfl
  have G15 := gd X15 hx hby
  have N15 := Fr.snoc X15 N9 g_b1
  have f16 := f10.other W15 ne_o0_b1
  have Z15 := Nat.le_trans Z9 (Keep.of_wr W15).1
  have K15 : Keep h0 h15 [] := K9.wr W15 (Or.inr sz_b1)
  have V15 : Arv Z h15 b1 k1 .long (4 : Int32) [(.long ((c0_ - c1_) - (c4_ - c5_))), (.long (c4_ - c5_)), (.long (c1_ - c5_)), (.long (0 : Int64))] (.long (0 : Int64)) := Vs15
  obtain ⟨T21, h21, X21, e21, W21, Vs21, st21⟩ := own_stJ X15 hx hby hZ e15 V15 (j := (3 : Int32)) (v := c5_) d6_108 ⟨by decide, by decide⟩ 3 rfl (Nat.le_of_ble_eq_true rfl) #[rv o0, iv (0 : Int32), iv (2 : Int32), lv c5_, .second, lv (c1_ - c5_), .second, lv (c4_ - c5_), .second, lv ((c0_ - c1_) - (c4_ - c5_)), .second] [(.ref b1)] 109 rfl
  have G21 := gd X21 hx hby
  have N21 := Fr.snoc X21 N15 g_b1
  have f22 := f16.other W21 ne_o0_b1
  have Z21 := Nat.le_trans Z15 (Keep.of_wr W21).1
  have K21 : Keep h0 h21 [] := K15.wr W21 (Or.inr sz_b1)
  have V21 : Arv Z h21 b1 k1 .long (4 : Int32) [(.long ((c0_ - c1_) - (c4_ - c5_))), (.long (c4_ - c5_)), (.long (c1_ - c5_)), (.long c5_)] (.long (0 : Int64)) := Vs21
  obtain ⟨fs, hr, hrun, hended, hW, hsame⟩ := X21.leave (v := some (.ref b1)) (fun h => by rw [Bd.returns] at h; cases h)
  refine ⟨_, _, pre0 _ ?_, hrun, hended, _, _, rfl, ?_, ⟨_, rfl⟩, hW, hsame.mono (by decide) (by decide)⟩
  · show Steps p.tables e below (s₁.setTop (mkF m 0 #[rv o0, iv (0 : Int32), iv (2 : Int32), .unset, .unset, .unset, .unset, .unset, .unset, .unset, .unset] [])) _
    refine maloadN 1 G0 d6_0 rfl rfl rfl ?_
    refine miconst 2 G0 d6_1 (v := (1 : Int32)) rfl rfl ?_
    refine miloadN 3 G0 d6_2 rfl rfl ?_
    refine mishl 4 G0 d6_3 (v := (1 : Int32)) rfl rfl ?_
    refine miconst 5 G0 d6_4 (v := (1 : Int32)) rfl rfl ?_
    refine miloadN 6 G0 d6_5 rfl rfl ?_
    refine mishl 7 G0 d6_6 (v := (4 : Int32)) rfl rfl ?_
    refine mior 8 G0 d6_7 (v := (5 : Int32)) rfl rfl ?_
    refine mlaload 9 X0 hx hby hZ e0 V_o0 (v := c5_) d6_8 ⟨by decide, by decide⟩ rfl rfl ?_
    refine mlstoreN 10 G0 d6_9 #[rv o0, iv (0 : Int32), iv (2 : Int32), lv c5_, .second, .unset, .unset, .unset, .unset, .unset, .unset] rfl rfl ?_
    refine maloadN 11 G0 d6_10 rfl rfl rfl ?_
    refine miconst 12 G0 d6_11 (v := (1 : Int32)) rfl rfl ?_
    refine miloadN 13 G0 d6_12 rfl rfl ?_
    refine mishl 14 G0 d6_13 (v := (1 : Int32)) rfl rfl ?_
    refine mlaload 15 X0 hx hby hZ e0 V_o0 (v := c1_) d6_14 ⟨by decide, by decide⟩ rfl rfl ?_
    refine mlloadN 16 G0 d6_15 rfl rfl ?_
    refine mlsub 17 G0 d6_16 rfl rfl ?_
    refine mlstore 19 G0 d6_17 #[rv o0, iv (0 : Int32), iv (2 : Int32), lv c5_, .second, lv (c1_ - c5_), .second, .unset, .unset, .unset, .unset] rfl rfl ?_
    refine maloadN 20 G0 d6_19 rfl rfl rfl ?_
    refine miconst 21 G0 d6_20 (v := (1 : Int32)) rfl rfl ?_
    refine miloadN 22 G0 d6_21 rfl rfl ?_
    refine mishl 23 G0 d6_22 (v := (4 : Int32)) rfl rfl ?_
    refine mlaload 24 X0 hx hby hZ e0 V_o0 (v := c4_) d6_23 ⟨by decide, by decide⟩ rfl rfl ?_
    refine mlloadN 25 G0 d6_24 rfl rfl ?_
    refine mlsub 26 G0 d6_25 rfl rfl ?_
    refine mlstore 28 G0 d6_26 #[rv o0, iv (0 : Int32), iv (2 : Int32), lv c5_, .second, lv (c1_ - c5_), .second, lv (c4_ - c5_), .second, .unset, .unset] rfl rfl ?_
    refine maloadN 29 G0 d6_28 rfl rfl rfl ?_
    refine miconst 30 G0 d6_29 (v := (0 : Int32)) rfl rfl ?_
    refine mlaload 31 X0 hx hby hZ e0 V_o0 (v := c0_) d6_30 ⟨by decide, by decide⟩ rfl rfl ?_
    refine maloadN 32 G0 d6_31 rfl rfl rfl ?_
    refine miconst 33 G0 d6_32 (v := (1 : Int32)) rfl rfl ?_
    refine miloadN 34 G0 d6_33 rfl rfl ?_
    refine mishl 35 G0 d6_34 (v := (1 : Int32)) rfl rfl ?_
    refine mlaload 36 X0 hx hby hZ e0 V_o0 (v := c1_) d6_35 ⟨by decide, by decide⟩ rfl rfl ?_
    refine mlsub 37 G0 d6_36 rfl rfl ?_
    refine mlload 39 G0 d6_37 rfl rfl ?_
    refine mlsub 40 G0 d6_39 rfl rfl ?_
    refine mlstore 42 G0 d6_40 #[rv o0, iv (0 : Int32), iv (2 : Int32), lv c5_, .second, lv (c1_ - c5_), .second, lv (c4_ - c5_), .second, lv ((c0_ - c1_) - (c4_ - c5_)), .second] rfl rfl ?_
    refine mlloadN 43 G0 d6_42 rfl rfl ?_
    refine mlconst 44 G0 d6_43 (v := (0 : Int64)) rfl rfl ?_
    refine mlcmp 45 G0 d6_44 rfl ?_
    refine mifNo 48 G0 d6_45 ((if0 _ _).trans (flt (hf45)).1) rfl ?_
    refine mlload 50 G0 d6_48 rfl rfl ?_
    refine mlconst 51 G0 d6_50 (v := (0 : Int64)) rfl rfl ?_
    refine mlcmp 52 G0 d6_51 rfl ?_
    refine mifNo 55 G0 d6_52 ((if0 _ _).trans (flt (hf52)).1) rfl ?_
    refine mlload 57 G0 d6_55 rfl rfl ?_
    refine mlconst 58 G0 d6_57 (v := (0 : Int64)) rfl rfl ?_
    refine mlcmp 59 G0 d6_58 rfl ?_
    refine mifNo 62 G0 d6_59 ((if0 _ _).trans (flt (hf59)).1) rfl ?_
    refine mlload 64 G0 d6_62 rfl rfl ?_
    refine mlconst 65 G0 d6_64 (v := (0 : Int64)) rfl rfl ?_
    refine mlcmp 66 G0 d6_65 rfl ?_
    refine mifYes 87 G0 d6_66 ((if0 _ _).trans (flt (hf66)).2.1) (by decide) rfl ?_
    refine miconst 88 G0 d6_87 (v := (4 : Int32)) rfl rfl ?_
    refine st1 _ ?_
    show Steps p.tables e below (T1.setTop (mkF m 90 #[rv o0, iv (0 : Int32), iv (2 : Int32), lv c5_, .second, lv (c1_ - c5_), .second, lv (c4_ - c5_), .second, lv ((c0_ - c1_) - (c4_ - c5_)), .second] [(.ref b1)])) _
    refine mdup 91 G1 d6_90 rfl rfl ?_
    refine miconst 92 G1 d6_91 (v := (0 : Int32)) rfl rfl ?_
    refine mlload 94 G1 d6_92 rfl rfl ?_
    refine st3 _ ?_
    refine mdup 96 G3 d6_95 rfl rfl ?_
    refine miconst 97 G3 d6_96 (v := (1 : Int32)) rfl rfl ?_
    refine mlload 99 G3 d6_97 rfl rfl ?_
    refine st9 _ ?_
    refine mdup 101 G9 d6_100 rfl rfl ?_
    refine miconst 102 G9 d6_101 (v := (2 : Int32)) rfl rfl ?_
    refine mlload 104 G9 d6_102 rfl rfl ?_
    refine st15 _ ?_
    refine mdup 106 G15 d6_105 rfl rfl ?_
    refine miconst 107 G15 d6_106 (v := (3 : Int32)) rfl rfl ?_
    refine mlloadN 108 G15 d6_107 rfl rfl ?_
    refine st21 _ ?_
    exact retOut X21 hx Bd.returns rfl (Or.inr (Or.inr (Or.inr (Or.inr ⟨rfl, rfl, rfl⟩)))) (hb hby d6_109) hr
  · show Q6_02_8 Z o0 k1 c0_ c1_ c2_ c3_ c4_ c5_ c6_ c7_ h0 n0 _ T21.heap _
    rw [e21]
    exact ⟨b1, k1, rfl, g_b1, sz_b1, N21, K21, V21⟩
theorem ef6_12_8 (m : MethodId) (o0 : Addr) : entryFrame m #[(.ref o0), (.int (1 : Int32)), (.int (2 : Int32))] 11 = mkF m 0 #[rv o0, iv (1 : Int32), iv (2 : Int32), .unset, .unset, .unset, .unset, .unset, .unset, .unset, .unset] [] := by first | (simp [entryFrame, mkF, argsToLocals, Value.category]; done) | rfl
abbrev room_of_6_12_8 : Room := { frames := 0, cells := 1, slots := 4, locals := 0 }
def Q6_12_8 (Z : State) (o0 : Addr) (k1 : ClassId) (c0_ : Int64) (c1_ : Int64) (c2_ : Int64) (c3_ : Int64) (c4_ : Int64) (c5_ : Int64) (c6_ : Int64) (c7_ : Int64) (h0 : Heap) (n0 : Nat) (v : Option Value) (h : Heap) (L : List Loc) : Prop := ∃ (b : Addr) (k : ClassId), v = some (.ref b) ∧ n0 ≤ b ∧ h0.size ≤ b ∧ Fr n0 L ∧ Keep h0 h [] ∧ Arv Z h b k .long (4 : Int32) [(.long ((c0_ - c2_) - (c4_ - c6_))), (.long (c4_ - c6_)), (.long (c2_ - c6_)), (.long c6_)] (.long (0 : Int64))
set_option maxRecDepth 65536 in
set_option maxHeartbeats 40000000 in
theorem rm6_12_8 (l : Launch) (Z : State) (a0 : Array Value) (hw : ∀ d ∈ tables_1, d.before a0 Z = true) (ws : List Jvm.Cond) (o0 : Addr) {k1 : ClassId} {c0_ : Int64} {c1_ : Int64} {c2_ : Int64} {c3_ : Int64} {c4_ : Int64} {c5_ : Int64} {c6_ : Int64} {c7_ : Int64} (h0 : Heap) (n0 : Nat) (Z0 : n0 ≤ h0.size) (V_o0 : Arv Z h0 o0 k1 .long (8 : Int32) [(.long c0_), (.long c1_), (.long c2_), (.long c3_), (.long c4_), (.long c5_), (.long c6_), (.long c7_)] (.long (0 : Int64))) (hf45 : ¬ ((lcmpW c6_ (0 : Int64)) < (0 : Int32))) (hf52 : ¬ ((lcmpW (c2_ - c6_) (0 : Int64)) < (0 : Int32))) (hf59 : ¬ ((lcmpW (c4_ - c6_) (0 : Int64)) < (0 : Int32))) (hf66 : ¬ ((lcmpW ((c0_ - c2_) - (c4_ - c6_)) (0 : Int64)) < (0 : Int32))) :
    MetFree l (⟨"com/example/tempe/tempe/estimate/Fit", "pairGroups", "([JII)[J"⟩ : MethodName) (head1 (Jvm.Cond.code (⟨"com/example/tempe/tempe/estimate/Fit", "pairGroups", "([JII)[J"⟩ : MethodName) prog_9_method_3_code 11 (some (.array .long)) :: ws) (room_of_6_12_8)) (fun a U => a = #[(.ref o0), (.int (1 : Int32)), (.int (2 : Int32))] ∧ Z.Warmed39 U.vm ∧ U.heap = h0) (fun _ _ _ _ _ => True) (fun _ U o U' => ∃ v L, o = .returned v ∧ Q6_12_8 Z o0 k1 c0_ c1_ c2_ c3_ c4_ c5_ c6_ c7_ h0 n0 v U'.heap L ∧ FrameEnd U o U' L (room_of_6_12_8).cells (room_of_6_12_8).slots) := by
  refine MetFree.of_bodySF (plainFor_of_name pn_6) hisR ?_
  intro p e s m args below meth c s₁ Bd hml0 hP hK
  obtain ⟨rfl, hZ, hh⟩ := hP
  have hx := Bd.exec
  have hby := Bd.bytes
  have hml : c.maxLocals = 11 := hml0
  have hown : s.vm.findClass "com/example/tempe/tempe/estimate/Fit" = some m.cls := findClass_of_methodNamed Bd.named
  have hnm := (name_of_methodNamed Bd.named Bd.method).1
  have X0 : Stand p l e (room_of_6_12_8) s m #[(.ref o0), (.int (1 : Int32)), (.int (2 : Int32))] below meth c s₁ [] 0 0 := Stand.of_body Bd
  have e0 : s₁.heap = h0 := by rw [← hh, Bd.state]; rfl
  have N0 := Fr.nil n0
  have G0 := gd X0 hx hby
  have pre0 : ∀ t, Steps p.tables e below (s₁.setTop (mkF m 0 #[rv o0, iv (1 : Int32), iv (2 : Int32), .unset, .unset, .unset, .unset, .unset, .unset, .unset, .unset] [])) t → Steps p.tables e below (s₁.setTop (entryFrame m #[(.ref o0), (.int (1 : Int32)), (.int (2 : Int32))] 11)) t := fun t k => castTop (ef6_12_8 m o0) k
  obtain ⟨T1, h1, k1, X1, e1, E1, A1, st1⟩ := newP X0 hx hZ (wd hw 6 rfl) e0 (g := (mkF m 88 #[rv o0, iv (1 : Int32), iv (2 : Int32), lv c6_, .second, lv (c2_ - c6_), .second, lv (c4_ - c6_), .second, lv ((c0_ - c2_) - (c4_ - c6_)), .second] [(.int (4 : Int32))])) rfl (hb hby d6_88) rfl (by decide) (cap := 4) (by decide) (by decide) (by decide) (by decide)
  have G1 := gd X1 hx hby
  obtain ⟨b1, g1⟩ : ∃ z, z = h0.size := ⟨_, rfl⟩
  rw [← g1] at A1 st1
  have ne_o0_b1 : o0 ≠ b1 := Nat.ne_of_lt (Nat.lt_of_lt_of_le V_o0.lt (Nat.le_of_eq g1.symm))
  have g_b1 : n0 ≤ b1 := Nat.le_trans Z0 (Nat.le_of_eq g1.symm)
  have sz_b1 : h0.size ≤ b1 := Nat.le_trans (Keep.refl h0 []).1 (Nat.le_of_eq g1.symm)
  have f2 := V_o0.ext E1
  have Z1 := Nat.le_trans Z0 E1.1
  have K1 : Keep h0 h1 [] := (Keep.refl h0 []).ext E1
  have V_b1 : Arv Z h1 b1 k1 .long (4 : Int32) [(.long (0 : Int64)), (.long (0 : Int64)), (.long (0 : Int64)), (.long (0 : Int64))] (.long (0 : Int64)) := (Arv.new A1 (by decide)).pad (pad_rep [] (.long (0 : Int64)) 4)
  obtain ⟨T3, h3, X3, e3, W3, Vs3, st3⟩ := own_stJ X1 hx hby hZ e1 V_b1 (j := (0 : Int32)) (v := ((c0_ - c2_) - (c4_ - c6_))) d6_94 ⟨by decide, by decide⟩ 0 rfl (Nat.le_of_ble_eq_true rfl) #[rv o0, iv (1 : Int32), iv (2 : Int32), lv c6_, .second, lv (c2_ - c6_), .second, lv (c4_ - c6_), .second, lv ((c0_ - c2_) - (c4_ - c6_)), .second] [(.ref b1)] 95 rfl
  have G3 := gd X3 hx hby
  have N3 := Fr.snoc X3 N0 g_b1
  have f4 := f2.other W3 ne_o0_b1
  have Z3 := Nat.le_trans Z1 (Keep.of_wr W3).1
  have K3 : Keep h0 h3 [] := K1.wr W3 (Or.inr sz_b1)
  have V3 : Arv Z h3 b1 k1 .long (4 : Int32) [(.long ((c0_ - c2_) - (c4_ - c6_))), (.long (0 : Int64)), (.long (0 : Int64)), (.long (0 : Int64))] (.long (0 : Int64)) := Vs3
  obtain ⟨T9, h9, X9, e9, W9, Vs9, st9⟩ := own_stJ X3 hx hby hZ e3 V3 (j := (1 : Int32)) (v := (c4_ - c6_)) d6_99 ⟨by decide, by decide⟩ 1 rfl (Nat.le_of_ble_eq_true rfl) #[rv o0, iv (1 : Int32), iv (2 : Int32), lv c6_, .second, lv (c2_ - c6_), .second, lv (c4_ - c6_), .second, lv ((c0_ - c2_) - (c4_ - c6_)), .second] [(.ref b1)] 100 rfl
  have G9 := gd X9 hx hby
  have N9 := Fr.snoc X9 N3 g_b1
  have f10 := f4.other W9 ne_o0_b1
  have Z9 := Nat.le_trans Z3 (Keep.of_wr W9).1
  have K9 : Keep h0 h9 [] := K3.wr W9 (Or.inr sz_b1)
  have V9 : Arv Z h9 b1 k1 .long (4 : Int32) [(.long ((c0_ - c2_) - (c4_ - c6_))), (.long (c4_ - c6_)), (.long (0 : Int64)), (.long (0 : Int64))] (.long (0 : Int64)) := Vs9
  obtain ⟨T15, h15, X15, e15, W15, Vs15, st15⟩ := own_stJ X9 hx hby hZ e9 V9 (j := (2 : Int32)) (v := (c2_ - c6_)) d6_104 ⟨by decide, by decide⟩ 2 rfl (Nat.le_of_ble_eq_true rfl) #[rv o0, iv (1 : Int32), iv (2 : Int32), lv c6_, .second, lv (c2_ - c6_), .second, lv (c4_ - c6_), .second, lv ((c0_ - c2_) - (c4_ - c6_)), .second] [(.ref b1)] 105 rfl
  have G15 := gd X15 hx hby
  have N15 := Fr.snoc X15 N9 g_b1
  have f16 := f10.other W15 ne_o0_b1
  have Z15 := Nat.le_trans Z9 (Keep.of_wr W15).1
  have K15 : Keep h0 h15 [] := K9.wr W15 (Or.inr sz_b1)
  have V15 : Arv Z h15 b1 k1 .long (4 : Int32) [(.long ((c0_ - c2_) - (c4_ - c6_))), (.long (c4_ - c6_)), (.long (c2_ - c6_)), (.long (0 : Int64))] (.long (0 : Int64)) := Vs15
  obtain ⟨T21, h21, X21, e21, W21, Vs21, st21⟩ := own_stJ X15 hx hby hZ e15 V15 (j := (3 : Int32)) (v := c6_) d6_108 ⟨by decide, by decide⟩ 3 rfl (Nat.le_of_ble_eq_true rfl) #[rv o0, iv (1 : Int32), iv (2 : Int32), lv c6_, .second, lv (c2_ - c6_), .second, lv (c4_ - c6_), .second, lv ((c0_ - c2_) - (c4_ - c6_)), .second] [(.ref b1)] 109 rfl
  have G21 := gd X21 hx hby
  have N21 := Fr.snoc X21 N15 g_b1
  have f22 := f16.other W21 ne_o0_b1
  have Z21 := Nat.le_trans Z15 (Keep.of_wr W21).1
  have K21 : Keep h0 h21 [] := K15.wr W21 (Or.inr sz_b1)
  have V21 : Arv Z h21 b1 k1 .long (4 : Int32) [(.long ((c0_ - c2_) - (c4_ - c6_))), (.long (c4_ - c6_)), (.long (c2_ - c6_)), (.long c6_)] (.long (0 : Int64)) := Vs21
  obtain ⟨fs, hr, hrun, hended, hW, hsame⟩ := X21.leave (v := some (.ref b1)) (fun h => by rw [Bd.returns] at h; cases h)
  refine ⟨_, _, pre0 _ ?_, hrun, hended, _, _, rfl, ?_, ⟨_, rfl⟩, hW, hsame.mono (by decide) (by decide)⟩
  · show Steps p.tables e below (s₁.setTop (mkF m 0 #[rv o0, iv (1 : Int32), iv (2 : Int32), .unset, .unset, .unset, .unset, .unset, .unset, .unset, .unset] [])) _
    refine maloadN 1 G0 d6_0 rfl rfl rfl ?_
    refine miconst 2 G0 d6_1 (v := (1 : Int32)) rfl rfl ?_
    refine miloadN 3 G0 d6_2 rfl rfl ?_
    refine mishl 4 G0 d6_3 (v := (2 : Int32)) rfl rfl ?_
    refine miconst 5 G0 d6_4 (v := (1 : Int32)) rfl rfl ?_
    refine miloadN 6 G0 d6_5 rfl rfl ?_
    refine mishl 7 G0 d6_6 (v := (4 : Int32)) rfl rfl ?_
    refine mior 8 G0 d6_7 (v := (6 : Int32)) rfl rfl ?_
    refine mlaload 9 X0 hx hby hZ e0 V_o0 (v := c6_) d6_8 ⟨by decide, by decide⟩ rfl rfl ?_
    refine mlstoreN 10 G0 d6_9 #[rv o0, iv (1 : Int32), iv (2 : Int32), lv c6_, .second, .unset, .unset, .unset, .unset, .unset, .unset] rfl rfl ?_
    refine maloadN 11 G0 d6_10 rfl rfl rfl ?_
    refine miconst 12 G0 d6_11 (v := (1 : Int32)) rfl rfl ?_
    refine miloadN 13 G0 d6_12 rfl rfl ?_
    refine mishl 14 G0 d6_13 (v := (2 : Int32)) rfl rfl ?_
    refine mlaload 15 X0 hx hby hZ e0 V_o0 (v := c2_) d6_14 ⟨by decide, by decide⟩ rfl rfl ?_
    refine mlloadN 16 G0 d6_15 rfl rfl ?_
    refine mlsub 17 G0 d6_16 rfl rfl ?_
    refine mlstore 19 G0 d6_17 #[rv o0, iv (1 : Int32), iv (2 : Int32), lv c6_, .second, lv (c2_ - c6_), .second, .unset, .unset, .unset, .unset] rfl rfl ?_
    refine maloadN 20 G0 d6_19 rfl rfl rfl ?_
    refine miconst 21 G0 d6_20 (v := (1 : Int32)) rfl rfl ?_
    refine miloadN 22 G0 d6_21 rfl rfl ?_
    refine mishl 23 G0 d6_22 (v := (4 : Int32)) rfl rfl ?_
    refine mlaload 24 X0 hx hby hZ e0 V_o0 (v := c4_) d6_23 ⟨by decide, by decide⟩ rfl rfl ?_
    refine mlloadN 25 G0 d6_24 rfl rfl ?_
    refine mlsub 26 G0 d6_25 rfl rfl ?_
    refine mlstore 28 G0 d6_26 #[rv o0, iv (1 : Int32), iv (2 : Int32), lv c6_, .second, lv (c2_ - c6_), .second, lv (c4_ - c6_), .second, .unset, .unset] rfl rfl ?_
    refine maloadN 29 G0 d6_28 rfl rfl rfl ?_
    refine miconst 30 G0 d6_29 (v := (0 : Int32)) rfl rfl ?_
    refine mlaload 31 X0 hx hby hZ e0 V_o0 (v := c0_) d6_30 ⟨by decide, by decide⟩ rfl rfl ?_
    refine maloadN 32 G0 d6_31 rfl rfl rfl ?_
    refine miconst 33 G0 d6_32 (v := (1 : Int32)) rfl rfl ?_
    refine miloadN 34 G0 d6_33 rfl rfl ?_
    refine mishl 35 G0 d6_34 (v := (2 : Int32)) rfl rfl ?_
    refine mlaload 36 X0 hx hby hZ e0 V_o0 (v := c2_) d6_35 ⟨by decide, by decide⟩ rfl rfl ?_
    refine mlsub 37 G0 d6_36 rfl rfl ?_
    refine mlload 39 G0 d6_37 rfl rfl ?_
    refine mlsub 40 G0 d6_39 rfl rfl ?_
    refine mlstore 42 G0 d6_40 #[rv o0, iv (1 : Int32), iv (2 : Int32), lv c6_, .second, lv (c2_ - c6_), .second, lv (c4_ - c6_), .second, lv ((c0_ - c2_) - (c4_ - c6_)), .second] rfl rfl ?_
    refine mlloadN 43 G0 d6_42 rfl rfl ?_
    refine mlconst 44 G0 d6_43 (v := (0 : Int64)) rfl rfl ?_
    refine mlcmp 45 G0 d6_44 rfl ?_
    refine mifNo 48 G0 d6_45 ((if0 _ _).trans (flt (hf45)).1) rfl ?_
    refine mlload 50 G0 d6_48 rfl rfl ?_
    refine mlconst 51 G0 d6_50 (v := (0 : Int64)) rfl rfl ?_
    refine mlcmp 52 G0 d6_51 rfl ?_
    refine mifNo 55 G0 d6_52 ((if0 _ _).trans (flt (hf52)).1) rfl ?_
    refine mlload 57 G0 d6_55 rfl rfl ?_
    refine mlconst 58 G0 d6_57 (v := (0 : Int64)) rfl rfl ?_
    refine mlcmp 59 G0 d6_58 rfl ?_
    refine mifNo 62 G0 d6_59 ((if0 _ _).trans (flt (hf59)).1) rfl ?_
    refine mlload 64 G0 d6_62 rfl rfl ?_
    refine mlconst 65 G0 d6_64 (v := (0 : Int64)) rfl rfl ?_
    refine mlcmp 66 G0 d6_65 rfl ?_
    refine mifYes 87 G0 d6_66 ((if0 _ _).trans (flt (hf66)).2.1) (by decide) rfl ?_
    refine miconst 88 G0 d6_87 (v := (4 : Int32)) rfl rfl ?_
    refine st1 _ ?_
    show Steps p.tables e below (T1.setTop (mkF m 90 #[rv o0, iv (1 : Int32), iv (2 : Int32), lv c6_, .second, lv (c2_ - c6_), .second, lv (c4_ - c6_), .second, lv ((c0_ - c2_) - (c4_ - c6_)), .second] [(.ref b1)])) _
    refine mdup 91 G1 d6_90 rfl rfl ?_
    refine miconst 92 G1 d6_91 (v := (0 : Int32)) rfl rfl ?_
    refine mlload 94 G1 d6_92 rfl rfl ?_
    refine st3 _ ?_
    refine mdup 96 G3 d6_95 rfl rfl ?_
    refine miconst 97 G3 d6_96 (v := (1 : Int32)) rfl rfl ?_
    refine mlload 99 G3 d6_97 rfl rfl ?_
    refine st9 _ ?_
    refine mdup 101 G9 d6_100 rfl rfl ?_
    refine miconst 102 G9 d6_101 (v := (2 : Int32)) rfl rfl ?_
    refine mlload 104 G9 d6_102 rfl rfl ?_
    refine st15 _ ?_
    refine mdup 106 G15 d6_105 rfl rfl ?_
    refine miconst 107 G15 d6_106 (v := (3 : Int32)) rfl rfl ?_
    refine mlloadN 108 G15 d6_107 rfl rfl ?_
    refine st21 _ ?_
    exact retOut X21 hx Bd.returns rfl (Or.inr (Or.inr (Or.inr (Or.inr ⟨rfl, rfl, rfl⟩)))) (hb hby d6_109) hr
  · show Q6_12_8 Z o0 k1 c0_ c1_ c2_ c3_ c4_ c5_ c6_ c7_ h0 n0 _ T21.heap _
    rw [e21]
    exact ⟨b1, k1, rfl, g_b1, sz_b1, N21, K21, V21⟩
theorem ef5_3 (m : MethodId) (o1 : Addr) : entryFrame m #[(.int (3 : Int32)), (.ref o1)] 4 = mkF m 0 #[iv (3 : Int32), rv o1, .unset, .unset] [] := by first | (simp [entryFrame, mkF, argsToLocals, Value.category]; done) | rfl
abbrev room_of_5_3 : Room := { frames := 1, cells := 3, slots := 12, locals := 22 }
def Q5_3 (Z : State) (o1 : Addr) (k1 : ClassId) (c0_ : Int64) (c1_ : Int64) (c2_ : Int64) (c3_ : Int64) (c4_ : Int64) (c5_ : Int64) (c6_ : Int64) (c7_ : Int64) (h0 : Heap) (n0 : Nat) (v : Option Value) (h : Heap) (L : List Loc) : Prop := v = none ∧ Fr n0 L ∧ Keep h0 h []
set_option maxRecDepth 65536 in
set_option maxHeartbeats 40000000 in
theorem rm5_3 (l : Launch) (Z : State) (a0 : Array Value) (hw : ∀ d ∈ tables_1, d.before a0 Z = true) (ws : List Jvm.Cond) (o1 : Addr) {k1 : ClassId} {c0_ : Int64} {c1_ : Int64} {c2_ : Int64} {c3_ : Int64} {c4_ : Int64} {c5_ : Int64} {c6_ : Int64} {c7_ : Int64} (h0 : Heap) (n0 : Nat) (Z0 : n0 ≤ h0.size) (V_o1 : Arv Z h0 o1 k1 .long (8 : Int32) [(.long c0_), (.long c1_), (.long c2_), (.long c3_), (.long c4_), (.long c5_), (.long c6_), (.long c7_)] (.long (0 : Int64))) (hp_hf45_19 : ¬ ((lcmpW c3_ (0 : Int64)) < (0 : Int32))) (hp_hf52_19 : ¬ ((lcmpW (c1_ - c3_) (0 : Int64)) < (0 : Int32))) (hp_hf59_19 : ¬ ((lcmpW (c2_ - c3_) (0 : Int64)) < (0 : Int32))) (hp_hf66_19 : ¬ ((lcmpW ((c0_ - c1_) - (c2_ - c3_)) (0 : Int64)) < (0 : Int32))) (hp_hf45_19' : ¬ ((lcmpW c5_ (0 : Int64)) < (0 : Int32))) (hp_hf52_19' : ¬ ((lcmpW (c1_ - c5_) (0 : Int64)) < (0 : Int32))) (hp_hf59_19' : ¬ ((lcmpW (c4_ - c5_) (0 : Int64)) < (0 : Int32))) (hp_hf66_19' : ¬ ((lcmpW ((c0_ - c1_) - (c4_ - c5_)) (0 : Int64)) < (0 : Int32))) (hp_hf45_19'' : ¬ ((lcmpW c6_ (0 : Int64)) < (0 : Int32))) (hp_hf52_19'' : ¬ ((lcmpW (c2_ - c6_) (0 : Int64)) < (0 : Int32))) (hp_hf59_19'' : ¬ ((lcmpW (c4_ - c6_) (0 : Int64)) < (0 : Int32))) (hp_hf66_19'' : ¬ ((lcmpW ((c0_ - c2_) - (c4_ - c6_)) (0 : Int64)) < (0 : Int32))) :
    MetFree l (⟨"com/example/tempe/tempe/estimate/Fit", "checkPairs", "(I[J)V"⟩ : MethodName) (head1 (Jvm.Cond.code (⟨"com/example/tempe/tempe/estimate/Fit", "checkPairs", "(I[J)V"⟩ : MethodName) prog_9_method_2_code 4 none :: ws) (room_of_5_3)) (fun a U => a = #[(.int (3 : Int32)), (.ref o1)] ∧ Z.Warmed39 U.vm ∧ U.heap = h0) (fun _ _ _ _ _ => True) (fun _ U o U' => ∃ v L, o = .returned v ∧ Q5_3 Z o1 k1 c0_ c1_ c2_ c3_ c4_ c5_ c6_ c7_ h0 n0 v U'.heap L ∧ FrameEnd U o U' L (room_of_5_3).cells (room_of_5_3).slots) := by
  refine MetFree.of_bodySF (plainFor_of_name pn_5) hisR ?_
  intro p e s m args below meth c s₁ Bd hml0 hP hK
  obtain ⟨rfl, hZ, hh⟩ := hP
  have hx := Bd.exec
  have hby := Bd.bytes
  have hml : c.maxLocals = 4 := hml0
  have hown : s.vm.findClass "com/example/tempe/tempe/estimate/Fit" = some m.cls := findClass_of_methodNamed Bd.named
  have hnm := (name_of_methodNamed Bd.named Bd.method).1
  have X0 : Stand p l e (room_of_5_3) s m #[(.int (3 : Int32)), (.ref o1)] below meth c s₁ [] 0 0 := Stand.of_body Bd
  have e0 : s₁.heap = h0 := by rw [← hh, Bd.state]; rfl
  have N0 := Fr.nil n0
  have G0 := gd X0 hx hby
  have pre0 : ∀ t, Steps p.tables e below (s₁.setTop (mkF m 0 #[iv (3 : Int32), rv o1, .unset, .unset] [])) t → Steps p.tables e below (s₁.setTop (entryFrame m #[(.int (3 : Int32)), (.ref o1)] 4)) t := fun t k => castTop (ef5_3 m o1) k
  obtain ⟨_, _, ⟨T1, L1, k1, n1⟩, -, X1, ⟨Lc1, hQ1, l1, y1, z1⟩, st1⟩ := Jvm.LawKit.callS X0 hx (y := (⟨"com/example/tempe/tempe/estimate/Fit", "pairGroups", "([JII)[J"⟩ : MethodName)) hown (mvT hZ (wd hw 30 rfl)) (mvT hZ (wd hw 31 rfl)) (mvT hZ (wd hw 28 rfl)) (mvT hZ (wd hw 32 rfl)) (by decide) (backOf (W := 0) (rm6_01_8 l Z a0 hw [] o1 h0 n0 Z0 V_o1 (hp_hf45_19) (hp_hf52_19) (hp_hf59_19) (hp_hf66_19)) hZ (wd hw 32 rfl) (wd hw 28 rfl) (by decide) (by decide)) (g := (mkF m 19 #[iv (3 : Int32), rv o1, iv (0 : Int32), iv (1 : Int32)] [(.int (1 : Int32)), (.int (0 : Int32)), (.ref o1)])) rfl (by rw [hml]; rfl) (argsL := [(.ref o1), (.int (0 : Int32)), (.int (1 : Int32))]) (rest := []) (lenOf pd_2 rfl) rfl (by show 2 * 0 + _ ≤ _; exact Nat.le_of_eq rfl) (hb hby d5_19) (fun _ _ => ⟨rfl, e0, (by decide : 0 + 1 ≤ _), (by decide : 0 + 4 ≤ _)⟩)
  dsimp only [Pt.U, Pt.locs, Pt.cells, Pt.slots] at X1 l1 y1 z1 st1 hQ1
  replace l1 : ([] ++ Lc1) = L1 := l1.symm
  subst l1 y1 z1
  obtain ⟨b1, k1, rfl, g_b1, sz1, Nq1, K1, V_b1⟩ := hQ1
  have ne_o1_b1 : o1 ≠ b1 := Nat.ne_of_lt (Nat.lt_of_lt_of_le V_o1.lt sz1)
  have sz_b1 : h0.size ≤ b1 := Nat.le_trans (Keep.refl h0 []).1 sz1
  have N1 := Fr.app N0 Nq1
  have f2 := V_o1.keep K1 nin0
  have Z1k := Nat.le_trans Z0 K1.1
  have K1k : Keep h0 T1.heap [] := (Keep.refl h0 []).trans K1 all0
  have G1 := gd X1 hx hby
  obtain ⟨_, _, ⟨T6, L6, k6, n6⟩, -, X6, ⟨Lc6, hQ6, l6, y6, z6⟩, st6⟩ := Jvm.LawKit.callS X1 hx (y := (⟨"com/example/tempe/tempe/estimate/Fit", "pairGroups", "([JII)[J"⟩ : MethodName)) hown (mvT hZ (wd hw 30 rfl)) (mvT hZ (wd hw 31 rfl)) (mvT hZ (wd hw 28 rfl)) (mvT hZ (wd hw 32 rfl)) (by decide) (backOf (W := 0) (rm6_02_8 l Z a0 hw [] o1 T1.heap n0 Z1k f2 (hp_hf45_19') (hp_hf52_19') (hp_hf59_19') (hp_hf66_19')) hZ (wd hw 32 rfl) (wd hw 28 rfl) (by decide) (by decide)) (g := (mkF m 19 #[iv (3 : Int32), rv o1, iv (0 : Int32), iv (2 : Int32)] [(.int (2 : Int32)), (.int (0 : Int32)), (.ref o1)])) rfl (by rw [hml]; rfl) (argsL := [(.ref o1), (.int (0 : Int32)), (.int (2 : Int32))]) (rest := []) (lenOf pd_2 rfl) rfl (by show 2 * 0 + _ ≤ _; exact Nat.le_of_eq rfl) (hb hby d5_19) (fun _ _ => ⟨rfl, rfl, (by decide : 1 + 1 ≤ _), (by decide : 4 + 4 ≤ _)⟩)
  dsimp only [Pt.U, Pt.locs, Pt.cells, Pt.slots] at X6 l6 y6 z6 st6 hQ6
  replace l6 : (([] ++ Lc1) ++ Lc6) = L6 := l6.symm
  subst l6 y6 z6
  obtain ⟨b6, k6, rfl, g_b6, sz6, Nq6, K6, V_b6⟩ := hQ6
  have ne_o1_b6 : o1 ≠ b6 := Nat.ne_of_lt (Nat.lt_of_lt_of_le f2.lt sz6)
  have ne_b1_b6 : b1 ≠ b6 := Nat.ne_of_lt (Nat.lt_of_lt_of_le V_b1.lt sz6)
  have sz_b6 : h0.size ≤ b6 := Nat.le_trans K1k.1 sz6
  have N6 := Fr.app N1 Nq6
  have f7 := f2.keep K6 nin0
  have f11 := V_b1.keep K6 nin0
  have Z6k := Nat.le_trans Z1k K6.1
  have K6k : Keep h0 T6.heap [] := K1k.trans K6 all0
  have G6 := gd X6 hx hby
  obtain ⟨_, _, ⟨T16, L16, k16, n16⟩, -, X16, ⟨Lc16, hQ16, l16, y16, z16⟩, st16⟩ := Jvm.LawKit.callS X6 hx (y := (⟨"com/example/tempe/tempe/estimate/Fit", "pairGroups", "([JII)[J"⟩ : MethodName)) hown (mvT hZ (wd hw 30 rfl)) (mvT hZ (wd hw 31 rfl)) (mvT hZ (wd hw 28 rfl)) (mvT hZ (wd hw 32 rfl)) (by decide) (backOf (W := 0) (rm6_12_8 l Z a0 hw [] o1 T6.heap n0 Z6k f7 (hp_hf45_19'') (hp_hf52_19'') (hp_hf59_19'') (hp_hf66_19'')) hZ (wd hw 32 rfl) (wd hw 28 rfl) (by decide) (by decide)) (g := (mkF m 19 #[iv (3 : Int32), rv o1, iv (1 : Int32), iv (2 : Int32)] [(.int (2 : Int32)), (.int (1 : Int32)), (.ref o1)])) rfl (by rw [hml]; rfl) (argsL := [(.ref o1), (.int (1 : Int32)), (.int (2 : Int32))]) (rest := []) (lenOf pd_2 rfl) rfl (by show 2 * 0 + _ ≤ _; exact Nat.le_of_eq rfl) (hb hby d5_19) (fun _ _ => ⟨rfl, rfl, (by decide : 2 + 1 ≤ _), (by decide : 8 + 4 ≤ _)⟩)
  dsimp only [Pt.U, Pt.locs, Pt.cells, Pt.slots] at X16 l16 y16 z16 st16 hQ16
  replace l16 : ((([] ++ Lc1) ++ Lc6) ++ Lc16) = L16 := l16.symm
  subst l16 y16 z16
  obtain ⟨b16, k16, rfl, g_b16, sz16, Nq16, K16, V_b16⟩ := hQ16
  have ne_o1_b16 : o1 ≠ b16 := Nat.ne_of_lt (Nat.lt_of_lt_of_le f7.lt sz16)
  have ne_b1_b16 : b1 ≠ b16 := Nat.ne_of_lt (Nat.lt_of_lt_of_le f11.lt sz16)
  have ne_b6_b16 : b6 ≠ b16 := Nat.ne_of_lt (Nat.lt_of_lt_of_le V_b6.lt sz16)
  have sz_b16 : h0.size ≤ b16 := Nat.le_trans K6k.1 sz16
  have N16 := Fr.app N6 Nq16
  have f17 := f7.keep K16 nin0
  have f21 := f11.keep K16 nin0
  have f26 := V_b6.keep K16 nin0
  have Z16k := Nat.le_trans Z6k K16.1
  have K16k : Keep h0 T16.heap [] := K6k.trans K16 all0
  have G16 := gd X16 hx hby
  obtain ⟨fs, hr, hrun, hended, hW, hsame⟩ := X16.leave (v := none) (fun _ => rfl)
  refine ⟨_, _, pre0 _ ?_, hrun, hended, _, _, rfl, ?_, ⟨_, rfl⟩, hW, hsame.mono (by decide) (by decide)⟩
  · show Steps p.tables e below (s₁.setTop (mkF m 0 #[iv (3 : Int32), rv o1, .unset, .unset] [])) _
    refine miconst 1 G0 d5_0 (v := (0 : Int32)) rfl rfl ?_
    refine mistoreN 2 G0 d5_1 #[iv (3 : Int32), rv o1, iv (0 : Int32), .unset] rfl rfl ?_
    refine miloadN 3 G0 d5_2 rfl rfl ?_
    refine miloadN 4 G0 d5_3 rfl rfl ?_
    refine micmpNo 7 G0 d5_4 (tlt (by decide : (0 : Int32) < (3 : Int32))).2.1 rfl ?_
    refine miloadN 8 G0 d5_7 rfl rfl ?_
    refine miconst 9 G0 d5_8 (v := (1 : Int32)) rfl rfl ?_
    refine miadd 10 G0 d5_9 (v := (1 : Int32)) rfl rfl ?_
    refine mistoreN 11 G0 d5_10 #[iv (3 : Int32), rv o1, iv (0 : Int32), iv (1 : Int32)] rfl rfl ?_
    refine miloadN 12 G0 d5_11 rfl rfl ?_
    refine miloadN 13 G0 d5_12 rfl rfl ?_
    refine micmpNo 16 G0 d5_13 (tlt (by decide : (1 : Int32) < (3 : Int32))).2.1 rfl ?_
    refine maloadN 17 G0 d5_16 rfl rfl rfl ?_
    refine miloadN 18 G0 d5_17 rfl rfl ?_
    refine miloadN 19 G0 d5_18 rfl rfl ?_
    refine st1 _ ?_
    show Steps p.tables e below (T1.setTop (mkF m 22 #[iv (3 : Int32), rv o1, iv (0 : Int32), iv (1 : Int32)] [(.ref b1)])) _
    refine mpop 23 G1 d5_22 rfl rfl ?_
    refine miinc 26 G1 d5_23 rfl #[iv (3 : Int32), rv o1, iv (0 : Int32), iv (2 : Int32)] rfl rfl ?_
    refine mgoto 11 G1 d5_26 (by decide) rfl ?_
    refine miloadN 12 G1 d5_11 rfl rfl ?_
    refine miloadN 13 G1 d5_12 rfl rfl ?_
    refine micmpNo 16 G1 d5_13 (tlt (by decide : (2 : Int32) < (3 : Int32))).2.1 rfl ?_
    refine maloadN 17 G1 d5_16 rfl rfl rfl ?_
    refine miloadN 18 G1 d5_17 rfl rfl ?_
    refine miloadN 19 G1 d5_18 rfl rfl ?_
    refine st6 _ ?_
    show Steps p.tables e below (T6.setTop (mkF m 22 #[iv (3 : Int32), rv o1, iv (0 : Int32), iv (2 : Int32)] [(.ref b6)])) _
    refine mpop 23 G6 d5_22 rfl rfl ?_
    refine miinc 26 G6 d5_23 rfl #[iv (3 : Int32), rv o1, iv (0 : Int32), iv (3 : Int32)] rfl rfl ?_
    refine mgoto 11 G6 d5_26 (by decide) rfl ?_
    refine miloadN 12 G6 d5_11 rfl rfl ?_
    refine miloadN 13 G6 d5_12 rfl rfl ?_
    refine micmpYes 29 G6 d5_13 (flt (by decide : ¬ ((3 : Int32) < (3 : Int32)))).2.1 (by decide) rfl ?_
    refine miinc 32 G6 d5_29 rfl #[iv (3 : Int32), rv o1, iv (1 : Int32), iv (3 : Int32)] rfl rfl ?_
    refine mgoto 2 G6 d5_32 (by decide) rfl ?_
    refine miloadN 3 G6 d5_2 rfl rfl ?_
    refine miloadN 4 G6 d5_3 rfl rfl ?_
    refine micmpNo 7 G6 d5_4 (tlt (by decide : (1 : Int32) < (3 : Int32))).2.1 rfl ?_
    refine miloadN 8 G6 d5_7 rfl rfl ?_
    refine miconst 9 G6 d5_8 (v := (1 : Int32)) rfl rfl ?_
    refine miadd 10 G6 d5_9 (v := (2 : Int32)) rfl rfl ?_
    refine mistoreN 11 G6 d5_10 #[iv (3 : Int32), rv o1, iv (1 : Int32), iv (2 : Int32)] rfl rfl ?_
    refine miloadN 12 G6 d5_11 rfl rfl ?_
    refine miloadN 13 G6 d5_12 rfl rfl ?_
    refine micmpNo 16 G6 d5_13 (tlt (by decide : (2 : Int32) < (3 : Int32))).2.1 rfl ?_
    refine maloadN 17 G6 d5_16 rfl rfl rfl ?_
    refine miloadN 18 G6 d5_17 rfl rfl ?_
    refine miloadN 19 G6 d5_18 rfl rfl ?_
    refine st16 _ ?_
    show Steps p.tables e below (T16.setTop (mkF m 22 #[iv (3 : Int32), rv o1, iv (1 : Int32), iv (2 : Int32)] [(.ref b16)])) _
    refine mpop 23 G16 d5_22 rfl rfl ?_
    refine miinc 26 G16 d5_23 rfl #[iv (3 : Int32), rv o1, iv (1 : Int32), iv (3 : Int32)] rfl rfl ?_
    refine mgoto 11 G16 d5_26 (by decide) rfl ?_
    refine miloadN 12 G16 d5_11 rfl rfl ?_
    refine miloadN 13 G16 d5_12 rfl rfl ?_
    refine micmpYes 29 G16 d5_13 (flt (by decide : ¬ ((3 : Int32) < (3 : Int32)))).2.1 (by decide) rfl ?_
    refine miinc 32 G16 d5_29 rfl #[iv (3 : Int32), rv o1, iv (2 : Int32), iv (3 : Int32)] rfl rfl ?_
    refine mgoto 2 G16 d5_32 (by decide) rfl ?_
    refine miloadN 3 G16 d5_2 rfl rfl ?_
    refine miloadN 4 G16 d5_3 rfl rfl ?_
    refine micmpNo 7 G16 d5_4 (tlt (by decide : (2 : Int32) < (3 : Int32))).2.1 rfl ?_
    refine miloadN 8 G16 d5_7 rfl rfl ?_
    refine miconst 9 G16 d5_8 (v := (1 : Int32)) rfl rfl ?_
    refine miadd 10 G16 d5_9 (v := (3 : Int32)) rfl rfl ?_
    refine mistoreN 11 G16 d5_10 #[iv (3 : Int32), rv o1, iv (2 : Int32), iv (3 : Int32)] rfl rfl ?_
    refine miloadN 12 G16 d5_11 rfl rfl ?_
    refine miloadN 13 G16 d5_12 rfl rfl ?_
    refine micmpYes 29 G16 d5_13 (flt (by decide : ¬ ((3 : Int32) < (3 : Int32)))).2.1 (by decide) rfl ?_
    refine miinc 32 G16 d5_29 rfl #[iv (3 : Int32), rv o1, iv (3 : Int32), iv (3 : Int32)] rfl rfl ?_
    refine mgoto 2 G16 d5_32 (by decide) rfl ?_
    refine miloadN 3 G16 d5_2 rfl rfl ?_
    refine miloadN 4 G16 d5_3 rfl rfl ?_
    refine micmpYes 35 G16 d5_4 (flt (by decide : ¬ ((3 : Int32) < (3 : Int32)))).2.1 (by decide) rfl ?_
    exact X16.returnOut hx Bd.returns (hb hby d5_35) hr
  · show Q5_3 Z o1 k1 c0_ c1_ c2_ c3_ c4_ c5_ c6_ c7_ h0 n0 _ T16.heap _
    exact ⟨rfl, N16, K16k⟩
theorem pd_5 : parseMethodDescriptor "(II[J[J)J" = some ⟨[.int, .int, (.array .long), (.array .long)], some .long⟩ := by decide +kernel
theorem d7_51 : decode prog_7_method_8_code 51 = .ok (.lconst 0, 1) := by decide +kernel
theorem d7_52 : decode prog_7_method_8_code 52 = .ok (.lstore 6, 2) := by decide +kernel
theorem d7_54 : decode prog_7_method_8_code 54 = .ok (.ldc2_w 118, 3) := by decide +kernel
theorem d7_57 : decode prog_7_method_8_code 57 = .ok (.lstore 8, 2) := by decide +kernel
theorem d7_59 : decode prog_7_method_8_code 59 = .ok (.iload 5, 2) := by decide +kernel
theorem d7_61 : decode prog_7_method_8_code 61 = .ok (.iload 5, 2) := by decide +kernel
theorem d7_63 : decode prog_7_method_8_code 63 = .ok (.iconst 1, 1) := by decide +kernel
theorem d7_64 : decode prog_7_method_8_code 64 = .ok (.isub, 1) := by decide +kernel
theorem d7_65 : decode prog_7_method_8_code 65 = .ok (.iand, 1) := by decide +kernel
theorem d7_66 : decode prog_7_method_8_code 66 = .ok (.istore 10, 2) := by decide +kernel
theorem d7_68 : decode prog_7_method_8_code 68 = .ok (.iload 5, 2) := by decide +kernel
theorem d7_70 : decode prog_7_method_8_code 70 = .ok (.iload 10, 2) := by decide +kernel
theorem d7_72 : decode prog_7_method_8_code 72 = .ok (.aload_n 3, 1) := by decide +kernel
theorem d7_73 : decode prog_7_method_8_code 73 = .ok (.aload 4, 2) := by decide +kernel
theorem d7_75 : decode prog_7_method_8_code 75 = .ok (.invokestatic 120, 3) := by decide +kernel
theorem d7_78 : decode prog_7_method_8_code 78 = .ok (.lstore 11, 2) := by decide +kernel
theorem d7_80 : decode prog_7_method_8_code 80 = .ok (.iload 5, 2) := by decide +kernel
theorem d7_82 : decode prog_7_method_8_code 82 = .ok (.iload 10, 2) := by decide +kernel
theorem d7_84 : decode prog_7_method_8_code 84 = .ok (.iconst (-1), 1) := by decide +kernel
theorem d7_85 : decode prog_7_method_8_code 85 = .ok (.ixor, 1) := by decide +kernel
theorem d7_86 : decode prog_7_method_8_code 86 = .ok (.iand, 1) := by decide +kernel
theorem d7_87 : decode prog_7_method_8_code 87 = .ok (.invokestatic 110, 3) := by decide +kernel
theorem d7_90 : decode prog_7_method_8_code 90 = .ok (.iconst 2, 1) := by decide +kernel
theorem d7_91 : decode prog_7_method_8_code 91 = .ok (.irem, 1) := by decide +kernel
theorem d7_92 : decode prog_7_method_8_code 92 = .ok (.ifCond .ne 16, 3) := by decide +kernel
theorem d7_95 : decode prog_7_method_8_code 95 = .ok (.lload 6, 2) := by decide +kernel
theorem d7_97 : decode prog_7_method_8_code 97 = .ok (.lload 11, 2) := by decide +kernel
theorem d7_99 : decode prog_7_method_8_code 99 = .ok (.lneg, 1) := by decide +kernel
theorem d7_100 : decode prog_7_method_8_code 100 = .ok (.invokestatic 124, 3) := by decide +kernel
theorem d7_103 : decode prog_7_method_8_code 103 = .ok (.lstore 6, 2) := by decide +kernel
theorem d7_105 : decode prog_7_method_8_code 105 = .ok (.goto 12, 3) := by decide +kernel
theorem d7_108 : decode prog_7_method_8_code 108 = .ok (.lload 8, 2) := by decide +kernel
theorem d7_110 : decode prog_7_method_8_code 110 = .ok (.lload 11, 2) := by decide +kernel
theorem d7_112 : decode prog_7_method_8_code 112 = .ok (.invokestatic 127, 3) := by decide +kernel
theorem d7_115 : decode prog_7_method_8_code 115 = .ok (.lstore 8, 2) := by decide +kernel
theorem d7_117 : decode prog_7_method_8_code 117 = .ok (.goto 5, 3) := by decide +kernel
theorem d7_122 : decode prog_7_method_8_code 122 = .ok (.iload 10, 2) := by decide +kernel
theorem d7_124 : decode prog_7_method_8_code 124 = .ok (.ifCond .ne 6, 3) := by decide +kernel
theorem d7_127 : decode prog_7_method_8_code 127 = .ok (.goto 15, 3) := by decide +kernel
theorem d7_130 : decode prog_7_method_8_code 130 = .ok (.iload 10, 2) := by decide +kernel
theorem d7_132 : decode prog_7_method_8_code 132 = .ok (.iconst 1, 1) := by decide +kernel
theorem d7_133 : decode prog_7_method_8_code 133 = .ok (.isub, 1) := by decide +kernel
theorem d7_134 : decode prog_7_method_8_code 134 = .ok (.iload 5, 2) := by decide +kernel
theorem d7_136 : decode prog_7_method_8_code 136 = .ok (.iand, 1) := by decide +kernel
theorem d7_137 : decode prog_7_method_8_code 137 = .ok (.istore 10, 2) := by decide +kernel
theorem d7_139 : decode prog_7_method_8_code 139 = .ok (.goto (-71), 3) := by decide +kernel
theorem d7_142 : decode prog_7_method_8_code 142 = .ok (.lload 6, 2) := by decide +kernel
theorem d7_144 : decode prog_7_method_8_code 144 = .ok (.lload 8, 2) := by decide +kernel
theorem d7_146 : decode prog_7_method_8_code 146 = .ok (.lcmp, 1) := by decide +kernel
theorem d7_147 : decode prog_7_method_8_code 147 = .ok (.ifCond .le 13, 3) := by decide +kernel
theorem d7_160 : decode prog_7_method_8_code 160 = .ok (.aload_n 3, 1) := by decide +kernel
theorem d7_161 : decode prog_7_method_8_code 161 = .ok (.iload 5, 2) := by decide +kernel
theorem d7_163 : decode prog_7_method_8_code 163 = .ok (.lload 6, 2) := by decide +kernel
theorem d7_165 : decode prog_7_method_8_code 165 = .ok (.lastore, 1) := by decide +kernel
theorem d7_166 : decode prog_7_method_8_code 166 = .ok (.aload 4, 2) := by decide +kernel
theorem d7_168 : decode prog_7_method_8_code 168 = .ok (.iload 5, 2) := by decide +kernel
theorem d7_170 : decode prog_7_method_8_code 170 = .ok (.lload 8, 2) := by decide +kernel
theorem d7_172 : decode prog_7_method_8_code 172 = .ok (.lastore, 1) := by decide +kernel
theorem ef7_3 (m : MethodId) (o1 : Addr) : entryFrame m #[(.int (3 : Int32)), (.ref o1)] 13 = mkF m 0 #[iv (3 : Int32), rv o1, .unset, .unset, .unset, .unset, .unset, .unset, .unset, .unset, .unset, .unset, .unset] [] := by first | (simp [entryFrame, mkF, argsToLocals, Value.category]; done) | rfl
abbrev room_of_7_3 : Room := { frames := 2, cells := 3, slots := 18, locals := 37 }
def Q7_3 (Z : State) (o1 : Addr) (c0_ : Int64) (c1_ : Int64) (c2_ : Int64) (c3_ : Int64) (c4_ : Int64) (c5_ : Int64) (c6_ : Int64) (c7_ : Int64) (k1 : ClassId) (h0 : Heap) (n0 : Nat) (v : Option Value) (h : Heap) (L : List Loc) : Prop := ∃ (b : Addr) (k : ClassId), v = some (.ref b) ∧ n0 ≤ b ∧ h0.size ≤ b ∧ Fr n0 L ∧ Keep h0 h [] ∧ Arv Z h b k .long (2 : Int32) [(.long (rv12 (rv12 (rv12 (0 : Int64) (-(rv9_4 c5_ c6_ c4_))) (-(rv9_2 c3_ c6_ c2_))) (-(rv9_1 c3_ c5_ c1_)))), (.long (rv2 (rv2 (rv2 (rv2 (9223372036854775807 : Int64) (rv9_6 c6_)) (rv9_5 c5_)) (rv9_3 c3_)) (rv9_0 c1_ c2_ c4_ c0_ c3_ c5_ c6_)))] (.long (0 : Int64))
theorem own_rm7_3_hp_hlq_75 (o1 : Addr) (c0_ : Int64) (c1_ : Int64) (c2_ : Int64) (c3_ : Int64) (c4_ : Int64) (c5_ : Int64) (c6_ : Int64) (c7_ : Int64) (k1 : ClassId) (hcq : own_BL [c0_, c1_, c2_, c3_, c4_, c5_, c6_, c7_]) : own_BL [c0_, c1_, c2_, c3_, c4_, c5_, c6_, (0 : Int64)] := (own_blS (hcq _ (List.mem_of_getElem? (i := 0) rfl)) (own_blS (hcq _ (List.mem_of_getElem? (i := 1) rfl)) (own_blS (hcq _ (List.mem_of_getElem? (i := 2) rfl)) (own_blS (hcq _ (List.mem_of_getElem? (i := 3) rfl)) (own_blS (hcq _ (List.mem_of_getElem? (i := 4) rfl)) (own_blS (hcq _ (List.mem_of_getElem? (i := 5) rfl)) (own_blS (hcq _ (List.mem_of_getElem? (i := 6) rfl)) (own_blS own_b01 own_bl0))))))))
theorem own_rm7_3_hp_hhq_75 (o1 : Addr) (c0_ : Int64) (c1_ : Int64) (c2_ : Int64) (c3_ : Int64) (c4_ : Int64) (c5_ : Int64) (c6_ : Int64) (c7_ : Int64) (k1 : ClassId) (hcq : own_BL [c0_, c1_, c2_, c3_, c4_, c5_, c6_, c7_]) : own_BL [c0_, c1_, c2_, c3_, c4_, c5_, c6_, (0 : Int64)] := (own_blS (hcq _ (List.mem_of_getElem? (i := 0) rfl)) (own_blS (hcq _ (List.mem_of_getElem? (i := 1) rfl)) (own_blS (hcq _ (List.mem_of_getElem? (i := 2) rfl)) (own_blS (hcq _ (List.mem_of_getElem? (i := 3) rfl)) (own_blS (hcq _ (List.mem_of_getElem? (i := 4) rfl)) (own_blS (hcq _ (List.mem_of_getElem? (i := 5) rfl)) (own_blS (hcq _ (List.mem_of_getElem? (i := 6) rfl)) (own_blS own_b01 own_bl0))))))))
set_option maxRecDepth 65536 in
set_option maxHeartbeats 40000000 in
theorem rm7_3 (l : Launch) (Z : State) (a0 : Array Value) (hw : ∀ d ∈ tables_1, d.before a0 Z = true) (ws : List Jvm.Cond) (o1 : Addr) {c0_ : Int64} {c1_ : Int64} {c2_ : Int64} {c3_ : Int64} {c4_ : Int64} {c5_ : Int64} {c6_ : Int64} {c7_ : Int64} {k1 : ClassId} (h0 : Heap) (n0 : Nat) (Z0 : n0 ≤ h0.size) (hcq : own_BL [c0_, c1_, c2_, c3_, c4_, c5_, c6_, c7_]) (V_o1 : Arv Z h0 o1 k1 .long (8 : Int32) [(.long c0_), (.long c1_), (.long c2_), (.long c3_), (.long c4_), (.long c5_), (.long c6_), (.long c7_)] (.long (0 : Int64))) (hf147 : ¬ ((0 : Int32) < (lcmpW (rv12 (rv12 (rv12 (0 : Int64) (-(rv9_4 c5_ c6_ c4_))) (-(rv9_2 c3_ c6_ c2_))) (-(rv9_1 c3_ c5_ c1_))) (rv2 (rv2 (rv2 (rv2 (9223372036854775807 : Int64) (rv9_6 c6_)) (rv9_5 c5_)) (rv9_3 c3_)) (rv9_0 c1_ c2_ c4_ c0_ c3_ c5_ c6_))))) :
    MetFree l (⟨"com/example/tempe/tempe/estimate/CountBracket", "range", "(I[J)[J"⟩ : MethodName) (head1 (Jvm.Cond.codeWith (⟨"com/example/tempe/tempe/estimate/CountBracket", "range", "(I[J)[J"⟩ : MethodName) prog_7_method_8_code 13 (some (.array .long)) [((68 : Nat), (117 : Nat), (120 : Nat), (129 : Nat))] :: ws) (room_of_7_3)) (fun a U => a = #[(.int (3 : Int32)), (.ref o1)] ∧ Z.Warmed39 U.vm ∧ U.heap = h0) (fun _ _ _ _ _ => True) (fun _ U o U' => ∃ v L, o = .returned v ∧ Q7_3 Z o1 c0_ c1_ c2_ c3_ c4_ c5_ c6_ c7_ k1 h0 n0 v U'.heap L ∧ FrameEnd U o U' L (room_of_7_3).cells (room_of_7_3).slots) := by
  refine MetFree.of_bodySF (plainFor_of_name pn_7) hisWith ?_
  intro p e s m args below meth c s₁ Bd hml0 hP hK
  obtain ⟨rfl, hZ, hh⟩ := hP
  have hx := Bd.exec
  have hby := Bd.bytes
  have hml : c.maxLocals = 13 := hml0
  have hown : s.vm.findClass "com/example/tempe/tempe/estimate/CountBracket" = some m.cls := findClass_of_methodNamed Bd.named
  have hnm := (name_of_methodNamed Bd.named Bd.method).1
  have X0 : Stand p l e (room_of_7_3) s m #[(.int (3 : Int32)), (.ref o1)] below meth c s₁ [] 0 0 := Stand.of_body Bd
  have e0 : s₁.heap = h0 := by rw [← hh, Bd.state]; rfl
  have N0 := Fr.nil n0
  have G0 := gd X0 hx hby
  have pre0 : ∀ t, Steps p.tables e below (s₁.setTop (mkF m 0 #[iv (3 : Int32), rv o1, .unset, .unset, .unset, .unset, .unset, .unset, .unset, .unset, .unset, .unset, .unset] [])) t → Steps p.tables e below (s₁.setTop (entryFrame m #[(.int (3 : Int32)), (.ref o1)] 13)) t := fun t k => castTop (ef7_3 m o1) k
  obtain ⟨T1, h1, k1, X1, e1, E1, A1, st1⟩ := newP X0 hx hZ (wd hw 6 rfl) e0 (g := (mkF m 5 #[iv (3 : Int32), rv o1, iv (8 : Int32), .unset, .unset, .unset, .unset, .unset, .unset, .unset, .unset, .unset, .unset] [(.int (8 : Int32))])) rfl (hb hby d7_5) rfl (by decide) (cap := 8) (by decide) (by decide) (by decide) (by decide)
  have G1 := gd X1 hx hby
  obtain ⟨b1, g1⟩ : ∃ z, z = h0.size := ⟨_, rfl⟩
  rw [← g1] at A1 st1
  have ne_o1_b1 : o1 ≠ b1 := Nat.ne_of_lt (Nat.lt_of_lt_of_le V_o1.lt (Nat.le_of_eq g1.symm))
  have g_b1 : n0 ≤ b1 := Nat.le_trans Z0 (Nat.le_of_eq g1.symm)
  have sz_b1 : h0.size ≤ b1 := Nat.le_trans (Keep.refl h0 []).1 (Nat.le_of_eq g1.symm)
  have f2 := V_o1.ext E1
  have Z1 := Nat.le_trans Z0 E1.1
  have K1 : Keep h0 h1 [] := (Keep.refl h0 []).ext E1
  have V_b1 : Arv Z h1 b1 k1 .long (8 : Int32) [(.long (0 : Int64)), (.long (0 : Int64)), (.long (0 : Int64)), (.long (0 : Int64)), (.long (0 : Int64)), (.long (0 : Int64)), (.long (0 : Int64)), (.long (0 : Int64))] (.long (0 : Int64)) := (Arv.new A1 (by decide)).pad (pad_rep [] (.long (0 : Int64)) 8)
  obtain ⟨T3, h3, k3, X3, e3, E3, A3, st3⟩ := newP X1 hx hZ (wd hw 6 rfl) e1 (g := (mkF m 9 #[iv (3 : Int32), rv o1, iv (8 : Int32), rv b1, .unset, .unset, .unset, .unset, .unset, .unset, .unset, .unset, .unset] [(.int (8 : Int32))])) rfl (hb hby d7_9) rfl (by decide) (cap := 8) (by decide) (by decide) (by decide) (by decide)
  have G3 := gd X3 hx hby
  obtain ⟨b3, g3⟩ : ∃ z, z = h1.size := ⟨_, rfl⟩
  rw [← g3] at A3 st3
  have ne_o1_b3 : o1 ≠ b3 := Nat.ne_of_lt (Nat.lt_of_lt_of_le f2.lt (Nat.le_of_eq g3.symm))
  have ne_b1_b3 : b1 ≠ b3 := Nat.ne_of_lt (Nat.lt_of_lt_of_le V_b1.lt (Nat.le_of_eq g3.symm))
  have g_b3 : n0 ≤ b3 := Nat.le_trans Z1 (Nat.le_of_eq g3.symm)
  have sz_b3 : h0.size ≤ b3 := Nat.le_trans K1.1 (Nat.le_of_eq g3.symm)
  have f4 := f2.ext E3
  have f5 := V_b1.ext E3
  have Z3 := Nat.le_trans Z1 E3.1
  have K3 : Keep h0 h3 [] := K1.ext E3
  have V_b3 : Arv Z h3 b3 k3 .long (8 : Int32) [(.long (0 : Int64)), (.long (0 : Int64)), (.long (0 : Int64)), (.long (0 : Int64)), (.long (0 : Int64)), (.long (0 : Int64)), (.long (0 : Int64)), (.long (0 : Int64))] (.long (0 : Int64)) := (Arv.new A3 (by decide)).pad (pad_rep [] (.long (0 : Int64)) 8)
  obtain ⟨_, _, ⟨T6, L6, k6, n6⟩, -, X6, ⟨Lc6, hQ6, l6, y6, z6⟩, st6⟩ := Jvm.LawKit.callS X3 hx (y := (⟨"java/lang/Integer", "bitCount", "(I)I"⟩ : MethodName)) hown (mvT hZ (wd hw 36 rfl)) (mvT hZ (wd hw 37 rfl)) (mvT hZ (wd hw 38 rfl)) (mvT hZ (wd hw 39 rfl)) (by decide) (backOf (W := 0) (rm8_0 l Z a0 hw []  h3 n0 Z3 ) hZ (wd hw 39 rfl) (wd hw 38 rfl) (by decide) (by decide)) (g := (mkF m 24 #[iv (3 : Int32), rv o1, iv (8 : Int32), rv b1, rv b3, iv (0 : Int32), .unset, .unset, .unset, .unset, .unset, .unset, .unset] [(.int (0 : Int32))])) rfl (by rw [hml]; rfl) (argsL := [(.int (0 : Int32))]) (rest := []) (lenOf pd_0 rfl) rfl (by show 2 * 0 + _ ≤ _; exact Nat.le_of_eq rfl) (hb hby d7_24) (fun _ _ => ⟨rfl, e3, (by decide : 2 + 0 ≤ _), (by decide : 16 + 0 ≤ _)⟩)
  dsimp only [Pt.U, Pt.locs, Pt.cells, Pt.slots] at X6 l6 y6 z6 st6 hQ6
  replace l6 : ([] ++ Lc6) = L6 := l6.symm
  subst l6 y6 z6
  obtain ⟨rfl, rfl, e6⟩ := hQ6
  simp only [List.append_nil, Nat.add_zero] at X6
  have G6 := gd X6 hx hby
  obtain ⟨T7, h7, X7, e7, W7, Vs7, st7⟩ := own_stJ X6 hx hby hZ e6 f5 (j := (0 : Int32)) (v := c0_) d7_38 ⟨by decide, by decide⟩ 0 rfl (Nat.le_of_ble_eq_true rfl) #[iv (3 : Int32), rv o1, iv (8 : Int32), rv b1, rv b3, iv (0 : Int32), .unset, .unset, .unset, .unset, .unset, .unset, .unset] [] 39 rfl
  have G7 := gd X7 hx hby
  have N7 := Fr.snoc X7 N0 g_b1
  have f8 := f4.other W7 ne_o1_b1
  have f17 := V_b3.other W7 (Ne.symm ne_b1_b3)
  have Z7 := Nat.le_trans Z3 (Keep.of_wr W7).1
  have K7 : Keep h0 h7 [] := K3.wr W7 (Or.inr sz_b1)
  have V7 : Arv Z h7 b1 k1 .long (8 : Int32) [(.long c0_), (.long (0 : Int64)), (.long (0 : Int64)), (.long (0 : Int64)), (.long (0 : Int64)), (.long (0 : Int64)), (.long (0 : Int64)), (.long (0 : Int64))] (.long (0 : Int64)) := Vs7
  obtain ⟨T18, h18, X18, e18, W18, Vs18, st18⟩ := own_stJ X7 hx hby hZ e7 f17 (j := (0 : Int32)) (v := c0_) d7_47 ⟨by decide, by decide⟩ 0 rfl (Nat.le_of_ble_eq_true rfl) #[iv (3 : Int32), rv o1, iv (8 : Int32), rv b1, rv b3, iv (0 : Int32), .unset, .unset, .unset, .unset, .unset, .unset, .unset] [] 48 rfl
  have G18 := gd X18 hx hby
  have N18 := Fr.snoc X18 N7 g_b3
  have f19 := f8.other W18 ne_o1_b3
  have f23 := V7.other W18 ne_b1_b3
  have Z18 := Nat.le_trans Z7 (Keep.of_wr W18).1
  have K18 : Keep h0 h18 [] := K7.wr W18 (Or.inr sz_b3)
  have V18 : Arv Z h18 b3 k3 .long (8 : Int32) [(.long c0_), (.long (0 : Int64)), (.long (0 : Int64)), (.long (0 : Int64)), (.long (0 : Int64)), (.long (0 : Int64)), (.long (0 : Int64)), (.long (0 : Int64))] (.long (0 : Int64)) := Vs18
  obtain ⟨_, _, ⟨T29, L29, k29, n29⟩, -, X29, ⟨Lc29, hQ29, l29, y29, z29⟩, st29⟩ := Jvm.LawKit.callS X18 hx (y := (⟨"java/lang/Integer", "bitCount", "(I)I"⟩ : MethodName)) hown (mvT hZ (wd hw 36 rfl)) (mvT hZ (wd hw 37 rfl)) (mvT hZ (wd hw 38 rfl)) (mvT hZ (wd hw 39 rfl)) (by decide) (backOf (W := 0) (rm8_1 l Z a0 hw []  h18 n0 Z18 ) hZ (wd hw 39 rfl) (wd hw 38 rfl) (by decide) (by decide)) (g := (mkF m 24 #[iv (3 : Int32), rv o1, iv (8 : Int32), rv b1, rv b3, iv (1 : Int32), .unset, .unset, .unset, .unset, .unset, .unset, .unset] [(.int (1 : Int32))])) rfl (by rw [hml]; rfl) (argsL := [(.int (1 : Int32))]) (rest := []) (lenOf pd_0 rfl) rfl (by show 2 * 0 + _ ≤ _; exact Nat.le_of_eq rfl) (hb hby d7_24) (fun _ _ => ⟨rfl, e18, (by decide : 2 + 0 ≤ _), (by decide : 16 + 0 ≤ _)⟩)
  dsimp only [Pt.U, Pt.locs, Pt.cells, Pt.slots] at X29 l29 y29 z29 st29 hQ29
  replace l29 : ((([] ++ [⟨b1, ((0 : Int32)).toNatClampNeg⟩]) ++ [⟨b3, ((0 : Int32)).toNatClampNeg⟩]) ++ Lc29) = L29 := l29.symm
  subst l29 y29 z29
  obtain ⟨rfl, rfl, e29⟩ := hQ29
  simp only [List.append_nil, Nat.add_zero] at X29
  have G29 := gd X29 hx hby
  obtain ⟨T30, h30, X30, e30, W30, Vs30, st30⟩ := own_stJ X29 hx hby hZ e29 f23 (j := (1 : Int32)) (v := c1_) d7_38 ⟨by decide, by decide⟩ 1 rfl (Nat.le_of_ble_eq_true rfl) #[iv (3 : Int32), rv o1, iv (8 : Int32), rv b1, rv b3, iv (1 : Int32), .unset, .unset, .unset, .unset, .unset, .unset, .unset] [] 39 rfl
  have G30 := gd X30 hx hby
  have N30 := Fr.snoc X30 N18 g_b1
  have f31 := f19.other W30 ne_o1_b1
  have f40 := V18.other W30 (Ne.symm ne_b1_b3)
  have Z30 := Nat.le_trans Z18 (Keep.of_wr W30).1
  have K30 : Keep h0 h30 [] := K18.wr W30 (Or.inr sz_b1)
  have V30 : Arv Z h30 b1 k1 .long (8 : Int32) [(.long c0_), (.long c1_), (.long (0 : Int64)), (.long (0 : Int64)), (.long (0 : Int64)), (.long (0 : Int64)), (.long (0 : Int64)), (.long (0 : Int64))] (.long (0 : Int64)) := Vs30
  obtain ⟨T41, h41, X41, e41, W41, Vs41, st41⟩ := own_stJ X30 hx hby hZ e30 f40 (j := (1 : Int32)) (v := c1_) d7_47 ⟨by decide, by decide⟩ 1 rfl (Nat.le_of_ble_eq_true rfl) #[iv (3 : Int32), rv o1, iv (8 : Int32), rv b1, rv b3, iv (1 : Int32), .unset, .unset, .unset, .unset, .unset, .unset, .unset] [] 48 rfl
  have G41 := gd X41 hx hby
  have N41 := Fr.snoc X41 N30 g_b3
  have f42 := f31.other W41 ne_o1_b3
  have f46 := V30.other W41 ne_b1_b3
  have Z41 := Nat.le_trans Z30 (Keep.of_wr W41).1
  have K41 : Keep h0 h41 [] := K30.wr W41 (Or.inr sz_b3)
  have V41 : Arv Z h41 b3 k3 .long (8 : Int32) [(.long c0_), (.long c1_), (.long (0 : Int64)), (.long (0 : Int64)), (.long (0 : Int64)), (.long (0 : Int64)), (.long (0 : Int64)), (.long (0 : Int64))] (.long (0 : Int64)) := Vs41
  obtain ⟨_, _, ⟨T52, L52, k52, n52⟩, -, X52, ⟨Lc52, hQ52, l52, y52, z52⟩, st52⟩ := Jvm.LawKit.callS X41 hx (y := (⟨"java/lang/Integer", "bitCount", "(I)I"⟩ : MethodName)) hown (mvT hZ (wd hw 36 rfl)) (mvT hZ (wd hw 37 rfl)) (mvT hZ (wd hw 38 rfl)) (mvT hZ (wd hw 39 rfl)) (by decide) (backOf (W := 0) (rm8_2 l Z a0 hw []  h41 n0 Z41 ) hZ (wd hw 39 rfl) (wd hw 38 rfl) (by decide) (by decide)) (g := (mkF m 24 #[iv (3 : Int32), rv o1, iv (8 : Int32), rv b1, rv b3, iv (2 : Int32), .unset, .unset, .unset, .unset, .unset, .unset, .unset] [(.int (2 : Int32))])) rfl (by rw [hml]; rfl) (argsL := [(.int (2 : Int32))]) (rest := []) (lenOf pd_0 rfl) rfl (by show 2 * 0 + _ ≤ _; exact Nat.le_of_eq rfl) (hb hby d7_24) (fun _ _ => ⟨rfl, e41, (by decide : 2 + 0 ≤ _), (by decide : 16 + 0 ≤ _)⟩)
  dsimp only [Pt.U, Pt.locs, Pt.cells, Pt.slots] at X52 l52 y52 z52 st52 hQ52
  replace l52 : ((((([] ++ [⟨b1, ((0 : Int32)).toNatClampNeg⟩]) ++ [⟨b3, ((0 : Int32)).toNatClampNeg⟩]) ++ [⟨b1, ((1 : Int32)).toNatClampNeg⟩]) ++ [⟨b3, ((1 : Int32)).toNatClampNeg⟩]) ++ Lc52) = L52 := l52.symm
  subst l52 y52 z52
  obtain ⟨rfl, rfl, e52⟩ := hQ52
  simp only [List.append_nil, Nat.add_zero] at X52
  have G52 := gd X52 hx hby
  obtain ⟨T53, h53, X53, e53, W53, Vs53, st53⟩ := own_stJ X52 hx hby hZ e52 f46 (j := (2 : Int32)) (v := c2_) d7_38 ⟨by decide, by decide⟩ 2 rfl (Nat.le_of_ble_eq_true rfl) #[iv (3 : Int32), rv o1, iv (8 : Int32), rv b1, rv b3, iv (2 : Int32), .unset, .unset, .unset, .unset, .unset, .unset, .unset] [] 39 rfl
  have G53 := gd X53 hx hby
  have N53 := Fr.snoc X53 N41 g_b1
  have f54 := f42.other W53 ne_o1_b1
  have f63 := V41.other W53 (Ne.symm ne_b1_b3)
  have Z53 := Nat.le_trans Z41 (Keep.of_wr W53).1
  have K53 : Keep h0 h53 [] := K41.wr W53 (Or.inr sz_b1)
  have V53 : Arv Z h53 b1 k1 .long (8 : Int32) [(.long c0_), (.long c1_), (.long c2_), (.long (0 : Int64)), (.long (0 : Int64)), (.long (0 : Int64)), (.long (0 : Int64)), (.long (0 : Int64))] (.long (0 : Int64)) := Vs53
  obtain ⟨T64, h64, X64, e64, W64, Vs64, st64⟩ := own_stJ X53 hx hby hZ e53 f63 (j := (2 : Int32)) (v := c2_) d7_47 ⟨by decide, by decide⟩ 2 rfl (Nat.le_of_ble_eq_true rfl) #[iv (3 : Int32), rv o1, iv (8 : Int32), rv b1, rv b3, iv (2 : Int32), .unset, .unset, .unset, .unset, .unset, .unset, .unset] [] 48 rfl
  have G64 := gd X64 hx hby
  have N64 := Fr.snoc X64 N53 g_b3
  have f65 := f54.other W64 ne_o1_b3
  have f69 := V53.other W64 ne_b1_b3
  have Z64 := Nat.le_trans Z53 (Keep.of_wr W64).1
  have K64 : Keep h0 h64 [] := K53.wr W64 (Or.inr sz_b3)
  have V64 : Arv Z h64 b3 k3 .long (8 : Int32) [(.long c0_), (.long c1_), (.long c2_), (.long (0 : Int64)), (.long (0 : Int64)), (.long (0 : Int64)), (.long (0 : Int64)), (.long (0 : Int64))] (.long (0 : Int64)) := Vs64
  obtain ⟨_, _, ⟨T75, L75, k75, n75⟩, -, X75, ⟨Lc75, hQ75, l75, y75, z75⟩, st75⟩ := Jvm.LawKit.callS X64 hx (y := (⟨"java/lang/Integer", "bitCount", "(I)I"⟩ : MethodName)) hown (mvT hZ (wd hw 36 rfl)) (mvT hZ (wd hw 37 rfl)) (mvT hZ (wd hw 38 rfl)) (mvT hZ (wd hw 39 rfl)) (by decide) (backOf (W := 0) (rm8_3 l Z a0 hw []  h64 n0 Z64 ) hZ (wd hw 39 rfl) (wd hw 38 rfl) (by decide) (by decide)) (g := (mkF m 24 #[iv (3 : Int32), rv o1, iv (8 : Int32), rv b1, rv b3, iv (3 : Int32), .unset, .unset, .unset, .unset, .unset, .unset, .unset] [(.int (3 : Int32))])) rfl (by rw [hml]; rfl) (argsL := [(.int (3 : Int32))]) (rest := []) (lenOf pd_0 rfl) rfl (by show 2 * 0 + _ ≤ _; exact Nat.le_of_eq rfl) (hb hby d7_24) (fun _ _ => ⟨rfl, e64, (by decide : 2 + 0 ≤ _), (by decide : 16 + 0 ≤ _)⟩)
  dsimp only [Pt.U, Pt.locs, Pt.cells, Pt.slots] at X75 l75 y75 z75 st75 hQ75
  replace l75 : ((((((([] ++ [⟨b1, ((0 : Int32)).toNatClampNeg⟩]) ++ [⟨b3, ((0 : Int32)).toNatClampNeg⟩]) ++ [⟨b1, ((1 : Int32)).toNatClampNeg⟩]) ++ [⟨b3, ((1 : Int32)).toNatClampNeg⟩]) ++ [⟨b1, ((2 : Int32)).toNatClampNeg⟩]) ++ [⟨b3, ((2 : Int32)).toNatClampNeg⟩]) ++ Lc75) = L75 := l75.symm
  subst l75 y75 z75
  obtain ⟨rfl, rfl, e75⟩ := hQ75
  simp only [List.append_nil, Nat.add_zero] at X75
  have G75 := gd X75 hx hby
  obtain ⟨T76, h76, X76, e76, W76, Vs76, st76⟩ := own_stJ X75 hx hby hZ e75 f69 (j := (3 : Int32)) (v := c3_) d7_38 ⟨by decide, by decide⟩ 3 rfl (Nat.le_of_ble_eq_true rfl) #[iv (3 : Int32), rv o1, iv (8 : Int32), rv b1, rv b3, iv (3 : Int32), .unset, .unset, .unset, .unset, .unset, .unset, .unset] [] 39 rfl
  have G76 := gd X76 hx hby
  have N76 := Fr.snoc X76 N64 g_b1
  have f77 := f65.other W76 ne_o1_b1
  have f86 := V64.other W76 (Ne.symm ne_b1_b3)
  have Z76 := Nat.le_trans Z64 (Keep.of_wr W76).1
  have K76 : Keep h0 h76 [] := K64.wr W76 (Or.inr sz_b1)
  have V76 : Arv Z h76 b1 k1 .long (8 : Int32) [(.long c0_), (.long c1_), (.long c2_), (.long c3_), (.long (0 : Int64)), (.long (0 : Int64)), (.long (0 : Int64)), (.long (0 : Int64))] (.long (0 : Int64)) := Vs76
  obtain ⟨T87, h87, X87, e87, W87, Vs87, st87⟩ := own_stJ X76 hx hby hZ e76 f86 (j := (3 : Int32)) (v := c3_) d7_47 ⟨by decide, by decide⟩ 3 rfl (Nat.le_of_ble_eq_true rfl) #[iv (3 : Int32), rv o1, iv (8 : Int32), rv b1, rv b3, iv (3 : Int32), .unset, .unset, .unset, .unset, .unset, .unset, .unset] [] 48 rfl
  have G87 := gd X87 hx hby
  have N87 := Fr.snoc X87 N76 g_b3
  have f88 := f77.other W87 ne_o1_b3
  have f92 := V76.other W87 ne_b1_b3
  have Z87 := Nat.le_trans Z76 (Keep.of_wr W87).1
  have K87 : Keep h0 h87 [] := K76.wr W87 (Or.inr sz_b3)
  have V87 : Arv Z h87 b3 k3 .long (8 : Int32) [(.long c0_), (.long c1_), (.long c2_), (.long c3_), (.long (0 : Int64)), (.long (0 : Int64)), (.long (0 : Int64)), (.long (0 : Int64))] (.long (0 : Int64)) := Vs87
  obtain ⟨_, _, ⟨T98, L98, k98, n98⟩, -, X98, ⟨Lc98, hQ98, l98, y98, z98⟩, st98⟩ := Jvm.LawKit.callS X87 hx (y := (⟨"java/lang/Integer", "bitCount", "(I)I"⟩ : MethodName)) hown (mvT hZ (wd hw 36 rfl)) (mvT hZ (wd hw 37 rfl)) (mvT hZ (wd hw 38 rfl)) (mvT hZ (wd hw 39 rfl)) (by decide) (backOf (W := 0) (rm8_4 l Z a0 hw []  h87 n0 Z87 ) hZ (wd hw 39 rfl) (wd hw 38 rfl) (by decide) (by decide)) (g := (mkF m 24 #[iv (3 : Int32), rv o1, iv (8 : Int32), rv b1, rv b3, iv (4 : Int32), .unset, .unset, .unset, .unset, .unset, .unset, .unset] [(.int (4 : Int32))])) rfl (by rw [hml]; rfl) (argsL := [(.int (4 : Int32))]) (rest := []) (lenOf pd_0 rfl) rfl (by show 2 * 0 + _ ≤ _; exact Nat.le_of_eq rfl) (hb hby d7_24) (fun _ _ => ⟨rfl, e87, (by decide : 2 + 0 ≤ _), (by decide : 16 + 0 ≤ _)⟩)
  dsimp only [Pt.U, Pt.locs, Pt.cells, Pt.slots] at X98 l98 y98 z98 st98 hQ98
  replace l98 : ((((((((([] ++ [⟨b1, ((0 : Int32)).toNatClampNeg⟩]) ++ [⟨b3, ((0 : Int32)).toNatClampNeg⟩]) ++ [⟨b1, ((1 : Int32)).toNatClampNeg⟩]) ++ [⟨b3, ((1 : Int32)).toNatClampNeg⟩]) ++ [⟨b1, ((2 : Int32)).toNatClampNeg⟩]) ++ [⟨b3, ((2 : Int32)).toNatClampNeg⟩]) ++ [⟨b1, ((3 : Int32)).toNatClampNeg⟩]) ++ [⟨b3, ((3 : Int32)).toNatClampNeg⟩]) ++ Lc98) = L98 := l98.symm
  subst l98 y98 z98
  obtain ⟨rfl, rfl, e98⟩ := hQ98
  simp only [List.append_nil, Nat.add_zero] at X98
  have G98 := gd X98 hx hby
  obtain ⟨T99, h99, X99, e99, W99, Vs99, st99⟩ := own_stJ X98 hx hby hZ e98 f92 (j := (4 : Int32)) (v := c4_) d7_38 ⟨by decide, by decide⟩ 4 rfl (Nat.le_of_ble_eq_true rfl) #[iv (3 : Int32), rv o1, iv (8 : Int32), rv b1, rv b3, iv (4 : Int32), .unset, .unset, .unset, .unset, .unset, .unset, .unset] [] 39 rfl
  have G99 := gd X99 hx hby
  have N99 := Fr.snoc X99 N87 g_b1
  have f100 := f88.other W99 ne_o1_b1
  have f109 := V87.other W99 (Ne.symm ne_b1_b3)
  have Z99 := Nat.le_trans Z87 (Keep.of_wr W99).1
  have K99 : Keep h0 h99 [] := K87.wr W99 (Or.inr sz_b1)
  have V99 : Arv Z h99 b1 k1 .long (8 : Int32) [(.long c0_), (.long c1_), (.long c2_), (.long c3_), (.long c4_), (.long (0 : Int64)), (.long (0 : Int64)), (.long (0 : Int64))] (.long (0 : Int64)) := Vs99
  obtain ⟨T110, h110, X110, e110, W110, Vs110, st110⟩ := own_stJ X99 hx hby hZ e99 f109 (j := (4 : Int32)) (v := c4_) d7_47 ⟨by decide, by decide⟩ 4 rfl (Nat.le_of_ble_eq_true rfl) #[iv (3 : Int32), rv o1, iv (8 : Int32), rv b1, rv b3, iv (4 : Int32), .unset, .unset, .unset, .unset, .unset, .unset, .unset] [] 48 rfl
  have G110 := gd X110 hx hby
  have N110 := Fr.snoc X110 N99 g_b3
  have f111 := f100.other W110 ne_o1_b3
  have f115 := V99.other W110 ne_b1_b3
  have Z110 := Nat.le_trans Z99 (Keep.of_wr W110).1
  have K110 : Keep h0 h110 [] := K99.wr W110 (Or.inr sz_b3)
  have V110 : Arv Z h110 b3 k3 .long (8 : Int32) [(.long c0_), (.long c1_), (.long c2_), (.long c3_), (.long c4_), (.long (0 : Int64)), (.long (0 : Int64)), (.long (0 : Int64))] (.long (0 : Int64)) := Vs110
  obtain ⟨_, _, ⟨T121, L121, k121, n121⟩, -, X121, ⟨Lc121, hQ121, l121, y121, z121⟩, st121⟩ := Jvm.LawKit.callS X110 hx (y := (⟨"java/lang/Integer", "bitCount", "(I)I"⟩ : MethodName)) hown (mvT hZ (wd hw 36 rfl)) (mvT hZ (wd hw 37 rfl)) (mvT hZ (wd hw 38 rfl)) (mvT hZ (wd hw 39 rfl)) (by decide) (backOf (W := 0) (rm8_5 l Z a0 hw []  h110 n0 Z110 ) hZ (wd hw 39 rfl) (wd hw 38 rfl) (by decide) (by decide)) (g := (mkF m 24 #[iv (3 : Int32), rv o1, iv (8 : Int32), rv b1, rv b3, iv (5 : Int32), .unset, .unset, .unset, .unset, .unset, .unset, .unset] [(.int (5 : Int32))])) rfl (by rw [hml]; rfl) (argsL := [(.int (5 : Int32))]) (rest := []) (lenOf pd_0 rfl) rfl (by show 2 * 0 + _ ≤ _; exact Nat.le_of_eq rfl) (hb hby d7_24) (fun _ _ => ⟨rfl, e110, (by decide : 2 + 0 ≤ _), (by decide : 16 + 0 ≤ _)⟩)
  dsimp only [Pt.U, Pt.locs, Pt.cells, Pt.slots] at X121 l121 y121 z121 st121 hQ121
  replace l121 : ((((((((((([] ++ [⟨b1, ((0 : Int32)).toNatClampNeg⟩]) ++ [⟨b3, ((0 : Int32)).toNatClampNeg⟩]) ++ [⟨b1, ((1 : Int32)).toNatClampNeg⟩]) ++ [⟨b3, ((1 : Int32)).toNatClampNeg⟩]) ++ [⟨b1, ((2 : Int32)).toNatClampNeg⟩]) ++ [⟨b3, ((2 : Int32)).toNatClampNeg⟩]) ++ [⟨b1, ((3 : Int32)).toNatClampNeg⟩]) ++ [⟨b3, ((3 : Int32)).toNatClampNeg⟩]) ++ [⟨b1, ((4 : Int32)).toNatClampNeg⟩]) ++ [⟨b3, ((4 : Int32)).toNatClampNeg⟩]) ++ Lc121) = L121 := l121.symm
  subst l121 y121 z121
  obtain ⟨rfl, rfl, e121⟩ := hQ121
  simp only [List.append_nil, Nat.add_zero] at X121
  have G121 := gd X121 hx hby
  obtain ⟨T122, h122, X122, e122, W122, Vs122, st122⟩ := own_stJ X121 hx hby hZ e121 f115 (j := (5 : Int32)) (v := c5_) d7_38 ⟨by decide, by decide⟩ 5 rfl (Nat.le_of_ble_eq_true rfl) #[iv (3 : Int32), rv o1, iv (8 : Int32), rv b1, rv b3, iv (5 : Int32), .unset, .unset, .unset, .unset, .unset, .unset, .unset] [] 39 rfl
  have G122 := gd X122 hx hby
  have N122 := Fr.snoc X122 N110 g_b1
  have f123 := f111.other W122 ne_o1_b1
  have f132 := V110.other W122 (Ne.symm ne_b1_b3)
  have Z122 := Nat.le_trans Z110 (Keep.of_wr W122).1
  have K122 : Keep h0 h122 [] := K110.wr W122 (Or.inr sz_b1)
  have V122 : Arv Z h122 b1 k1 .long (8 : Int32) [(.long c0_), (.long c1_), (.long c2_), (.long c3_), (.long c4_), (.long c5_), (.long (0 : Int64)), (.long (0 : Int64))] (.long (0 : Int64)) := Vs122
  obtain ⟨T133, h133, X133, e133, W133, Vs133, st133⟩ := own_stJ X122 hx hby hZ e122 f132 (j := (5 : Int32)) (v := c5_) d7_47 ⟨by decide, by decide⟩ 5 rfl (Nat.le_of_ble_eq_true rfl) #[iv (3 : Int32), rv o1, iv (8 : Int32), rv b1, rv b3, iv (5 : Int32), .unset, .unset, .unset, .unset, .unset, .unset, .unset] [] 48 rfl
  have G133 := gd X133 hx hby
  have N133 := Fr.snoc X133 N122 g_b3
  have f134 := f123.other W133 ne_o1_b3
  have f138 := V122.other W133 ne_b1_b3
  have Z133 := Nat.le_trans Z122 (Keep.of_wr W133).1
  have K133 : Keep h0 h133 [] := K122.wr W133 (Or.inr sz_b3)
  have V133 : Arv Z h133 b3 k3 .long (8 : Int32) [(.long c0_), (.long c1_), (.long c2_), (.long c3_), (.long c4_), (.long c5_), (.long (0 : Int64)), (.long (0 : Int64))] (.long (0 : Int64)) := Vs133
  obtain ⟨_, _, ⟨T144, L144, k144, n144⟩, -, X144, ⟨Lc144, hQ144, l144, y144, z144⟩, st144⟩ := Jvm.LawKit.callS X133 hx (y := (⟨"java/lang/Integer", "bitCount", "(I)I"⟩ : MethodName)) hown (mvT hZ (wd hw 36 rfl)) (mvT hZ (wd hw 37 rfl)) (mvT hZ (wd hw 38 rfl)) (mvT hZ (wd hw 39 rfl)) (by decide) (backOf (W := 0) (rm8_6 l Z a0 hw []  h133 n0 Z133 ) hZ (wd hw 39 rfl) (wd hw 38 rfl) (by decide) (by decide)) (g := (mkF m 24 #[iv (3 : Int32), rv o1, iv (8 : Int32), rv b1, rv b3, iv (6 : Int32), .unset, .unset, .unset, .unset, .unset, .unset, .unset] [(.int (6 : Int32))])) rfl (by rw [hml]; rfl) (argsL := [(.int (6 : Int32))]) (rest := []) (lenOf pd_0 rfl) rfl (by show 2 * 0 + _ ≤ _; exact Nat.le_of_eq rfl) (hb hby d7_24) (fun _ _ => ⟨rfl, e133, (by decide : 2 + 0 ≤ _), (by decide : 16 + 0 ≤ _)⟩)
  dsimp only [Pt.U, Pt.locs, Pt.cells, Pt.slots] at X144 l144 y144 z144 st144 hQ144
  replace l144 : ((((((((((((([] ++ [⟨b1, ((0 : Int32)).toNatClampNeg⟩]) ++ [⟨b3, ((0 : Int32)).toNatClampNeg⟩]) ++ [⟨b1, ((1 : Int32)).toNatClampNeg⟩]) ++ [⟨b3, ((1 : Int32)).toNatClampNeg⟩]) ++ [⟨b1, ((2 : Int32)).toNatClampNeg⟩]) ++ [⟨b3, ((2 : Int32)).toNatClampNeg⟩]) ++ [⟨b1, ((3 : Int32)).toNatClampNeg⟩]) ++ [⟨b3, ((3 : Int32)).toNatClampNeg⟩]) ++ [⟨b1, ((4 : Int32)).toNatClampNeg⟩]) ++ [⟨b3, ((4 : Int32)).toNatClampNeg⟩]) ++ [⟨b1, ((5 : Int32)).toNatClampNeg⟩]) ++ [⟨b3, ((5 : Int32)).toNatClampNeg⟩]) ++ Lc144) = L144 := l144.symm
  subst l144 y144 z144
  obtain ⟨rfl, rfl, e144⟩ := hQ144
  simp only [List.append_nil, Nat.add_zero] at X144
  have G144 := gd X144 hx hby
  obtain ⟨T145, h145, X145, e145, W145, Vs145, st145⟩ := own_stJ X144 hx hby hZ e144 f138 (j := (6 : Int32)) (v := c6_) d7_38 ⟨by decide, by decide⟩ 6 rfl (Nat.le_of_ble_eq_true rfl) #[iv (3 : Int32), rv o1, iv (8 : Int32), rv b1, rv b3, iv (6 : Int32), .unset, .unset, .unset, .unset, .unset, .unset, .unset] [] 39 rfl
  have G145 := gd X145 hx hby
  have N145 := Fr.snoc X145 N133 g_b1
  have f146 := f134.other W145 ne_o1_b1
  have f155 := V133.other W145 (Ne.symm ne_b1_b3)
  have Z145 := Nat.le_trans Z133 (Keep.of_wr W145).1
  have K145 : Keep h0 h145 [] := K133.wr W145 (Or.inr sz_b1)
  have V145 : Arv Z h145 b1 k1 .long (8 : Int32) [(.long c0_), (.long c1_), (.long c2_), (.long c3_), (.long c4_), (.long c5_), (.long c6_), (.long (0 : Int64))] (.long (0 : Int64)) := Vs145
  obtain ⟨T156, h156, X156, e156, W156, Vs156, st156⟩ := own_stJ X145 hx hby hZ e145 f155 (j := (6 : Int32)) (v := c6_) d7_47 ⟨by decide, by decide⟩ 6 rfl (Nat.le_of_ble_eq_true rfl) #[iv (3 : Int32), rv o1, iv (8 : Int32), rv b1, rv b3, iv (6 : Int32), .unset, .unset, .unset, .unset, .unset, .unset, .unset] [] 48 rfl
  have G156 := gd X156 hx hby
  have N156 := Fr.snoc X156 N145 g_b3
  have f157 := f146.other W156 ne_o1_b3
  have f161 := V145.other W156 ne_b1_b3
  have Z156 := Nat.le_trans Z145 (Keep.of_wr W156).1
  have K156 : Keep h0 h156 [] := K145.wr W156 (Or.inr sz_b3)
  have V156 : Arv Z h156 b3 k3 .long (8 : Int32) [(.long c0_), (.long c1_), (.long c2_), (.long c3_), (.long c4_), (.long c5_), (.long c6_), (.long (0 : Int64))] (.long (0 : Int64)) := Vs156
  obtain ⟨_, _, ⟨T167, L167, k167, n167⟩, -, X167, ⟨Lc167, hQ167, l167, y167, z167⟩, st167⟩ := Jvm.LawKit.callS X156 hx (y := (⟨"java/lang/Integer", "bitCount", "(I)I"⟩ : MethodName)) hown (mvT hZ (wd hw 36 rfl)) (mvT hZ (wd hw 37 rfl)) (mvT hZ (wd hw 38 rfl)) (mvT hZ (wd hw 39 rfl)) (by decide) (backOf (W := 0) (rm8_7 l Z a0 hw []  h156 n0 Z156 ) hZ (wd hw 39 rfl) (wd hw 38 rfl) (by decide) (by decide)) (g := (mkF m 24 #[iv (3 : Int32), rv o1, iv (8 : Int32), rv b1, rv b3, iv (7 : Int32), .unset, .unset, .unset, .unset, .unset, .unset, .unset] [(.int (7 : Int32))])) rfl (by rw [hml]; rfl) (argsL := [(.int (7 : Int32))]) (rest := []) (lenOf pd_0 rfl) rfl (by show 2 * 0 + _ ≤ _; exact Nat.le_of_eq rfl) (hb hby d7_24) (fun _ _ => ⟨rfl, e156, (by decide : 2 + 0 ≤ _), (by decide : 16 + 0 ≤ _)⟩)
  dsimp only [Pt.U, Pt.locs, Pt.cells, Pt.slots] at X167 l167 y167 z167 st167 hQ167
  replace l167 : ((((((((((((((([] ++ [⟨b1, ((0 : Int32)).toNatClampNeg⟩]) ++ [⟨b3, ((0 : Int32)).toNatClampNeg⟩]) ++ [⟨b1, ((1 : Int32)).toNatClampNeg⟩]) ++ [⟨b3, ((1 : Int32)).toNatClampNeg⟩]) ++ [⟨b1, ((2 : Int32)).toNatClampNeg⟩]) ++ [⟨b3, ((2 : Int32)).toNatClampNeg⟩]) ++ [⟨b1, ((3 : Int32)).toNatClampNeg⟩]) ++ [⟨b3, ((3 : Int32)).toNatClampNeg⟩]) ++ [⟨b1, ((4 : Int32)).toNatClampNeg⟩]) ++ [⟨b3, ((4 : Int32)).toNatClampNeg⟩]) ++ [⟨b1, ((5 : Int32)).toNatClampNeg⟩]) ++ [⟨b3, ((5 : Int32)).toNatClampNeg⟩]) ++ [⟨b1, ((6 : Int32)).toNatClampNeg⟩]) ++ [⟨b3, ((6 : Int32)).toNatClampNeg⟩]) ++ Lc167) = L167 := l167.symm
  subst l167 y167 z167
  obtain ⟨rfl, rfl, e167⟩ := hQ167
  simp only [List.append_nil, Nat.add_zero] at X167
  have G167 := gd X167 hx hby
  obtain ⟨_, _, ⟨T168, L168, k168, n168⟩, -, X168, ⟨Lc168, hQ168, l168, y168, z168⟩, st168⟩ := Jvm.LawKit.callS X167 hx (y := (⟨"com/example/tempe/tempe/estimate/CountBracket", "highestRest", "(II[J[J)J"⟩ : MethodName)) hown (mvT hZ (wd hw 44 rfl)) (mvT hZ (wd hw 45 rfl)) (mvT hZ (wd hw 13 rfl)) (mvT hZ (wd hw 46 rfl)) (by decide) (backOf (W := 0) (rm9_6 l Z a0 hw [] b1 b3 h156 n0 Z156 (own_rm7_3_hp_hlq_75 o1 c0_ c1_ c2_ c3_ c4_ c5_ c6_ c7_ k1 hcq) (own_rm7_3_hp_hhq_75 o1 c0_ c1_ c2_ c3_ c4_ c5_ c6_ c7_ k1 hcq) f161 V156) hZ (wd hw 46 rfl) (wd hw 13 rfl) (by decide) (by decide)) (g := (mkF m 75 #[iv (3 : Int32), rv o1, iv (8 : Int32), rv b1, rv b3, iv (7 : Int32), lv (0 : Int64), .second, lv (9223372036854775807 : Int64), .second, iv (6 : Int32), .unset, .unset] [(.ref b3), (.ref b1), (.int (6 : Int32)), (.int (7 : Int32))])) rfl (by rw [hml]; rfl) (argsL := [(.int (7 : Int32)), (.int (6 : Int32)), (.ref b1), (.ref b3)]) (rest := []) (lenOf pd_5 rfl) rfl (by show 2 * 0 + _ ≤ _; exact Nat.le_of_eq rfl) (hb hby d7_75) (fun _ _ => ⟨rfl, e167, (by decide : 2 + 0 ≤ _), (by decide : 16 + 0 ≤ _)⟩)
  dsimp only [Pt.U, Pt.locs, Pt.cells, Pt.slots] at X168 l168 y168 z168 st168 hQ168
  replace l168 : ((((((((((((((([] ++ [⟨b1, ((0 : Int32)).toNatClampNeg⟩]) ++ [⟨b3, ((0 : Int32)).toNatClampNeg⟩]) ++ [⟨b1, ((1 : Int32)).toNatClampNeg⟩]) ++ [⟨b3, ((1 : Int32)).toNatClampNeg⟩]) ++ [⟨b1, ((2 : Int32)).toNatClampNeg⟩]) ++ [⟨b3, ((2 : Int32)).toNatClampNeg⟩]) ++ [⟨b1, ((3 : Int32)).toNatClampNeg⟩]) ++ [⟨b3, ((3 : Int32)).toNatClampNeg⟩]) ++ [⟨b1, ((4 : Int32)).toNatClampNeg⟩]) ++ [⟨b3, ((4 : Int32)).toNatClampNeg⟩]) ++ [⟨b1, ((5 : Int32)).toNatClampNeg⟩]) ++ [⟨b3, ((5 : Int32)).toNatClampNeg⟩]) ++ [⟨b1, ((6 : Int32)).toNatClampNeg⟩]) ++ [⟨b3, ((6 : Int32)).toNatClampNeg⟩]) ++ Lc168) = L168 := l168.symm
  subst l168 y168 z168
  obtain ⟨rfl, rfl, e168⟩ := hQ168
  simp only [List.append_nil, Nat.add_zero] at X168
  have G168 := gd X168 hx hby
  obtain ⟨_, _, ⟨T169, L169, k169, n169⟩, -, X169, ⟨Lc169, hQ169, l169, y169, z169⟩, st169⟩ := Jvm.LawKit.callS X168 hx (y := (⟨"java/lang/Integer", "bitCount", "(I)I"⟩ : MethodName)) hown (mvT hZ (wd hw 36 rfl)) (mvT hZ (wd hw 37 rfl)) (mvT hZ (wd hw 38 rfl)) (mvT hZ (wd hw 39 rfl)) (by decide) (backOf (W := 0) (rm8_1 l Z a0 hw []  h156 n0 Z156 ) hZ (wd hw 39 rfl) (wd hw 38 rfl) (by decide) (by decide)) (g := (mkF m 87 #[iv (3 : Int32), rv o1, iv (8 : Int32), rv b1, rv b3, iv (7 : Int32), lv (0 : Int64), .second, lv (9223372036854775807 : Int64), .second, iv (6 : Int32), lv (rv9_6 c6_), .second] [(.int (1 : Int32))])) rfl (by rw [hml]; rfl) (argsL := [(.int (1 : Int32))]) (rest := []) (lenOf pd_0 rfl) rfl (by show 2 * 0 + _ ≤ _; exact Nat.le_of_eq rfl) (hb hby d7_87) (fun _ _ => ⟨rfl, e168, (by decide : 2 + 0 ≤ _), (by decide : 16 + 0 ≤ _)⟩)
  dsimp only [Pt.U, Pt.locs, Pt.cells, Pt.slots] at X169 l169 y169 z169 st169 hQ169
  replace l169 : ((((((((((((((([] ++ [⟨b1, ((0 : Int32)).toNatClampNeg⟩]) ++ [⟨b3, ((0 : Int32)).toNatClampNeg⟩]) ++ [⟨b1, ((1 : Int32)).toNatClampNeg⟩]) ++ [⟨b3, ((1 : Int32)).toNatClampNeg⟩]) ++ [⟨b1, ((2 : Int32)).toNatClampNeg⟩]) ++ [⟨b3, ((2 : Int32)).toNatClampNeg⟩]) ++ [⟨b1, ((3 : Int32)).toNatClampNeg⟩]) ++ [⟨b3, ((3 : Int32)).toNatClampNeg⟩]) ++ [⟨b1, ((4 : Int32)).toNatClampNeg⟩]) ++ [⟨b3, ((4 : Int32)).toNatClampNeg⟩]) ++ [⟨b1, ((5 : Int32)).toNatClampNeg⟩]) ++ [⟨b3, ((5 : Int32)).toNatClampNeg⟩]) ++ [⟨b1, ((6 : Int32)).toNatClampNeg⟩]) ++ [⟨b3, ((6 : Int32)).toNatClampNeg⟩]) ++ Lc169) = L169 := l169.symm
  subst l169 y169 z169
  obtain ⟨rfl, rfl, e169⟩ := hQ169
  simp only [List.append_nil, Nat.add_zero] at X169
  have G169 := gd X169 hx hby
  obtain ⟨_, _, ⟨T170, L170, k170, n170⟩, -, X170, ⟨Lc170, hQ170, l170, y170, z170⟩, st170⟩ := Jvm.LawKit.callS X169 hx (y := (⟨"java/lang/Math", "min", "(JJ)J"⟩ : MethodName)) hown (mvT hZ (wd hw 50 rfl)) (mvT hZ (wd hw 8 rfl)) (mvT hZ (wd hw 9 rfl)) (mvT hZ (wd hw 10 rfl)) (by decide) (backOf (W := 0) (rm2 l Z a0 hw [] (9223372036854775807 : Int64) ((rv9_6 c6_)) h156 n0 Z156 ) hZ (wd hw 10 rfl) (wd hw 9 rfl) (by decide) (by decide)) (g := (mkF m 112 #[iv (3 : Int32), rv o1, iv (8 : Int32), rv b1, rv b3, iv (7 : Int32), lv (0 : Int64), .second, lv (9223372036854775807 : Int64), .second, iv (6 : Int32), lv (rv9_6 c6_), .second] [(.long (rv9_6 c6_)), (.long (9223372036854775807 : Int64))])) rfl (by rw [hml]; rfl) (argsL := [(.long (9223372036854775807 : Int64)), (.long (rv9_6 c6_))]) (rest := []) (lenOf pd_1 rfl) rfl (by show 2 * 0 + _ ≤ _; exact Nat.le_of_eq rfl) (hb hby d7_112) (fun _ _ => ⟨rfl, e169, (by decide : 2 + 0 ≤ _), (by decide : 16 + 0 ≤ _)⟩)
  dsimp only [Pt.U, Pt.locs, Pt.cells, Pt.slots] at X170 l170 y170 z170 st170 hQ170
  replace l170 : ((((((((((((((([] ++ [⟨b1, ((0 : Int32)).toNatClampNeg⟩]) ++ [⟨b3, ((0 : Int32)).toNatClampNeg⟩]) ++ [⟨b1, ((1 : Int32)).toNatClampNeg⟩]) ++ [⟨b3, ((1 : Int32)).toNatClampNeg⟩]) ++ [⟨b1, ((2 : Int32)).toNatClampNeg⟩]) ++ [⟨b3, ((2 : Int32)).toNatClampNeg⟩]) ++ [⟨b1, ((3 : Int32)).toNatClampNeg⟩]) ++ [⟨b3, ((3 : Int32)).toNatClampNeg⟩]) ++ [⟨b1, ((4 : Int32)).toNatClampNeg⟩]) ++ [⟨b3, ((4 : Int32)).toNatClampNeg⟩]) ++ [⟨b1, ((5 : Int32)).toNatClampNeg⟩]) ++ [⟨b3, ((5 : Int32)).toNatClampNeg⟩]) ++ [⟨b1, ((6 : Int32)).toNatClampNeg⟩]) ++ [⟨b3, ((6 : Int32)).toNatClampNeg⟩]) ++ Lc170) = L170 := l170.symm
  subst l170 y170 z170
  obtain ⟨rfl, rfl, e170⟩ := hQ170
  simp only [List.append_nil, Nat.add_zero] at X170
  have G170 := gd X170 hx hby
  obtain ⟨_, _, ⟨T171, L171, k171, n171⟩, -, X171, ⟨Lc171, hQ171, l171, y171, z171⟩, st171⟩ := Jvm.LawKit.callS X170 hx (y := (⟨"com/example/tempe/tempe/estimate/CountBracket", "highestRest", "(II[J[J)J"⟩ : MethodName)) hown (mvT hZ (wd hw 44 rfl)) (mvT hZ (wd hw 45 rfl)) (mvT hZ (wd hw 13 rfl)) (mvT hZ (wd hw 46 rfl)) (by decide) (backOf (W := 0) (rm9_5 l Z a0 hw [] b1 b3 h156 n0 Z156 (own_rm7_3_hp_hlq_75 o1 c0_ c1_ c2_ c3_ c4_ c5_ c6_ c7_ k1 hcq) (own_rm7_3_hp_hhq_75 o1 c0_ c1_ c2_ c3_ c4_ c5_ c6_ c7_ k1 hcq) f161 V156) hZ (wd hw 46 rfl) (wd hw 13 rfl) (by decide) (by decide)) (g := (mkF m 75 #[iv (3 : Int32), rv o1, iv (8 : Int32), rv b1, rv b3, iv (7 : Int32), lv (0 : Int64), .second, lv (rv2 (9223372036854775807 : Int64) (rv9_6 c6_)), .second, iv (5 : Int32), lv (rv9_6 c6_), .second] [(.ref b3), (.ref b1), (.int (5 : Int32)), (.int (7 : Int32))])) rfl (by rw [hml]; rfl) (argsL := [(.int (7 : Int32)), (.int (5 : Int32)), (.ref b1), (.ref b3)]) (rest := []) (lenOf pd_5 rfl) rfl (by show 2 * 0 + _ ≤ _; exact Nat.le_of_eq rfl) (hb hby d7_75) (fun _ _ => ⟨rfl, e170, (by decide : 2 + 0 ≤ _), (by decide : 16 + 0 ≤ _)⟩)
  dsimp only [Pt.U, Pt.locs, Pt.cells, Pt.slots] at X171 l171 y171 z171 st171 hQ171
  replace l171 : ((((((((((((((([] ++ [⟨b1, ((0 : Int32)).toNatClampNeg⟩]) ++ [⟨b3, ((0 : Int32)).toNatClampNeg⟩]) ++ [⟨b1, ((1 : Int32)).toNatClampNeg⟩]) ++ [⟨b3, ((1 : Int32)).toNatClampNeg⟩]) ++ [⟨b1, ((2 : Int32)).toNatClampNeg⟩]) ++ [⟨b3, ((2 : Int32)).toNatClampNeg⟩]) ++ [⟨b1, ((3 : Int32)).toNatClampNeg⟩]) ++ [⟨b3, ((3 : Int32)).toNatClampNeg⟩]) ++ [⟨b1, ((4 : Int32)).toNatClampNeg⟩]) ++ [⟨b3, ((4 : Int32)).toNatClampNeg⟩]) ++ [⟨b1, ((5 : Int32)).toNatClampNeg⟩]) ++ [⟨b3, ((5 : Int32)).toNatClampNeg⟩]) ++ [⟨b1, ((6 : Int32)).toNatClampNeg⟩]) ++ [⟨b3, ((6 : Int32)).toNatClampNeg⟩]) ++ Lc171) = L171 := l171.symm
  subst l171 y171 z171
  obtain ⟨rfl, rfl, e171⟩ := hQ171
  simp only [List.append_nil, Nat.add_zero] at X171
  have G171 := gd X171 hx hby
  obtain ⟨_, _, ⟨T172, L172, k172, n172⟩, -, X172, ⟨Lc172, hQ172, l172, y172, z172⟩, st172⟩ := Jvm.LawKit.callS X171 hx (y := (⟨"java/lang/Integer", "bitCount", "(I)I"⟩ : MethodName)) hown (mvT hZ (wd hw 36 rfl)) (mvT hZ (wd hw 37 rfl)) (mvT hZ (wd hw 38 rfl)) (mvT hZ (wd hw 39 rfl)) (by decide) (backOf (W := 0) (rm8_2 l Z a0 hw []  h156 n0 Z156 ) hZ (wd hw 39 rfl) (wd hw 38 rfl) (by decide) (by decide)) (g := (mkF m 87 #[iv (3 : Int32), rv o1, iv (8 : Int32), rv b1, rv b3, iv (7 : Int32), lv (0 : Int64), .second, lv (rv2 (9223372036854775807 : Int64) (rv9_6 c6_)), .second, iv (5 : Int32), lv (rv9_5 c5_), .second] [(.int (2 : Int32))])) rfl (by rw [hml]; rfl) (argsL := [(.int (2 : Int32))]) (rest := []) (lenOf pd_0 rfl) rfl (by show 2 * 0 + _ ≤ _; exact Nat.le_of_eq rfl) (hb hby d7_87) (fun _ _ => ⟨rfl, e171, (by decide : 2 + 0 ≤ _), (by decide : 16 + 0 ≤ _)⟩)
  dsimp only [Pt.U, Pt.locs, Pt.cells, Pt.slots] at X172 l172 y172 z172 st172 hQ172
  replace l172 : ((((((((((((((([] ++ [⟨b1, ((0 : Int32)).toNatClampNeg⟩]) ++ [⟨b3, ((0 : Int32)).toNatClampNeg⟩]) ++ [⟨b1, ((1 : Int32)).toNatClampNeg⟩]) ++ [⟨b3, ((1 : Int32)).toNatClampNeg⟩]) ++ [⟨b1, ((2 : Int32)).toNatClampNeg⟩]) ++ [⟨b3, ((2 : Int32)).toNatClampNeg⟩]) ++ [⟨b1, ((3 : Int32)).toNatClampNeg⟩]) ++ [⟨b3, ((3 : Int32)).toNatClampNeg⟩]) ++ [⟨b1, ((4 : Int32)).toNatClampNeg⟩]) ++ [⟨b3, ((4 : Int32)).toNatClampNeg⟩]) ++ [⟨b1, ((5 : Int32)).toNatClampNeg⟩]) ++ [⟨b3, ((5 : Int32)).toNatClampNeg⟩]) ++ [⟨b1, ((6 : Int32)).toNatClampNeg⟩]) ++ [⟨b3, ((6 : Int32)).toNatClampNeg⟩]) ++ Lc172) = L172 := l172.symm
  subst l172 y172 z172
  obtain ⟨rfl, rfl, e172⟩ := hQ172
  simp only [List.append_nil, Nat.add_zero] at X172
  have G172 := gd X172 hx hby
  obtain ⟨_, _, ⟨T173, L173, k173, n173⟩, -, X173, ⟨Lc173, hQ173, l173, y173, z173⟩, st173⟩ := Jvm.LawKit.callS X172 hx (y := (⟨"java/lang/Math", "min", "(JJ)J"⟩ : MethodName)) hown (mvT hZ (wd hw 50 rfl)) (mvT hZ (wd hw 8 rfl)) (mvT hZ (wd hw 9 rfl)) (mvT hZ (wd hw 10 rfl)) (by decide) (backOf (W := 0) (rm2 l Z a0 hw [] ((rv2 (9223372036854775807 : Int64) (rv9_6 c6_))) ((rv9_5 c5_)) h156 n0 Z156 ) hZ (wd hw 10 rfl) (wd hw 9 rfl) (by decide) (by decide)) (g := (mkF m 112 #[iv (3 : Int32), rv o1, iv (8 : Int32), rv b1, rv b3, iv (7 : Int32), lv (0 : Int64), .second, lv (rv2 (9223372036854775807 : Int64) (rv9_6 c6_)), .second, iv (5 : Int32), lv (rv9_5 c5_), .second] [(.long (rv9_5 c5_)), (.long (rv2 (9223372036854775807 : Int64) (rv9_6 c6_)))])) rfl (by rw [hml]; rfl) (argsL := [(.long (rv2 (9223372036854775807 : Int64) (rv9_6 c6_))), (.long (rv9_5 c5_))]) (rest := []) (lenOf pd_1 rfl) rfl (by show 2 * 0 + _ ≤ _; exact Nat.le_of_eq rfl) (hb hby d7_112) (fun _ _ => ⟨rfl, e172, (by decide : 2 + 0 ≤ _), (by decide : 16 + 0 ≤ _)⟩)
  dsimp only [Pt.U, Pt.locs, Pt.cells, Pt.slots] at X173 l173 y173 z173 st173 hQ173
  replace l173 : ((((((((((((((([] ++ [⟨b1, ((0 : Int32)).toNatClampNeg⟩]) ++ [⟨b3, ((0 : Int32)).toNatClampNeg⟩]) ++ [⟨b1, ((1 : Int32)).toNatClampNeg⟩]) ++ [⟨b3, ((1 : Int32)).toNatClampNeg⟩]) ++ [⟨b1, ((2 : Int32)).toNatClampNeg⟩]) ++ [⟨b3, ((2 : Int32)).toNatClampNeg⟩]) ++ [⟨b1, ((3 : Int32)).toNatClampNeg⟩]) ++ [⟨b3, ((3 : Int32)).toNatClampNeg⟩]) ++ [⟨b1, ((4 : Int32)).toNatClampNeg⟩]) ++ [⟨b3, ((4 : Int32)).toNatClampNeg⟩]) ++ [⟨b1, ((5 : Int32)).toNatClampNeg⟩]) ++ [⟨b3, ((5 : Int32)).toNatClampNeg⟩]) ++ [⟨b1, ((6 : Int32)).toNatClampNeg⟩]) ++ [⟨b3, ((6 : Int32)).toNatClampNeg⟩]) ++ Lc173) = L173 := l173.symm
  subst l173 y173 z173
  obtain ⟨rfl, rfl, e173⟩ := hQ173
  simp only [List.append_nil, Nat.add_zero] at X173
  have G173 := gd X173 hx hby
  obtain ⟨_, _, ⟨T174, L174, k174, n174⟩, -, X174, ⟨Lc174, hQ174, l174, y174, z174⟩, st174⟩ := Jvm.LawKit.callS X173 hx (y := (⟨"com/example/tempe/tempe/estimate/CountBracket", "highestRest", "(II[J[J)J"⟩ : MethodName)) hown (mvT hZ (wd hw 44 rfl)) (mvT hZ (wd hw 45 rfl)) (mvT hZ (wd hw 13 rfl)) (mvT hZ (wd hw 46 rfl)) (by decide) (backOf (W := 0) (rm9_4 l Z a0 hw [] b1 b3 h156 n0 Z156 (own_rm7_3_hp_hlq_75 o1 c0_ c1_ c2_ c3_ c4_ c5_ c6_ c7_ k1 hcq) (own_rm7_3_hp_hhq_75 o1 c0_ c1_ c2_ c3_ c4_ c5_ c6_ c7_ k1 hcq) f161 V156) hZ (wd hw 46 rfl) (wd hw 13 rfl) (by decide) (by decide)) (g := (mkF m 75 #[iv (3 : Int32), rv o1, iv (8 : Int32), rv b1, rv b3, iv (7 : Int32), lv (0 : Int64), .second, lv (rv2 (rv2 (9223372036854775807 : Int64) (rv9_6 c6_)) (rv9_5 c5_)), .second, iv (4 : Int32), lv (rv9_5 c5_), .second] [(.ref b3), (.ref b1), (.int (4 : Int32)), (.int (7 : Int32))])) rfl (by rw [hml]; rfl) (argsL := [(.int (7 : Int32)), (.int (4 : Int32)), (.ref b1), (.ref b3)]) (rest := []) (lenOf pd_5 rfl) rfl (by show 2 * 0 + _ ≤ _; exact Nat.le_of_eq rfl) (hb hby d7_75) (fun _ _ => ⟨rfl, e173, (by decide : 2 + 0 ≤ _), (by decide : 16 + 0 ≤ _)⟩)
  dsimp only [Pt.U, Pt.locs, Pt.cells, Pt.slots] at X174 l174 y174 z174 st174 hQ174
  replace l174 : ((((((((((((((([] ++ [⟨b1, ((0 : Int32)).toNatClampNeg⟩]) ++ [⟨b3, ((0 : Int32)).toNatClampNeg⟩]) ++ [⟨b1, ((1 : Int32)).toNatClampNeg⟩]) ++ [⟨b3, ((1 : Int32)).toNatClampNeg⟩]) ++ [⟨b1, ((2 : Int32)).toNatClampNeg⟩]) ++ [⟨b3, ((2 : Int32)).toNatClampNeg⟩]) ++ [⟨b1, ((3 : Int32)).toNatClampNeg⟩]) ++ [⟨b3, ((3 : Int32)).toNatClampNeg⟩]) ++ [⟨b1, ((4 : Int32)).toNatClampNeg⟩]) ++ [⟨b3, ((4 : Int32)).toNatClampNeg⟩]) ++ [⟨b1, ((5 : Int32)).toNatClampNeg⟩]) ++ [⟨b3, ((5 : Int32)).toNatClampNeg⟩]) ++ [⟨b1, ((6 : Int32)).toNatClampNeg⟩]) ++ [⟨b3, ((6 : Int32)).toNatClampNeg⟩]) ++ Lc174) = L174 := l174.symm
  subst l174 y174 z174
  obtain ⟨rfl, rfl, e174⟩ := hQ174
  simp only [List.append_nil, Nat.add_zero] at X174
  have G174 := gd X174 hx hby
  obtain ⟨_, _, ⟨T175, L175, k175, n175⟩, -, X175, ⟨Lc175, hQ175, l175, y175, z175⟩, st175⟩ := Jvm.LawKit.callS X174 hx (y := (⟨"java/lang/Integer", "bitCount", "(I)I"⟩ : MethodName)) hown (mvT hZ (wd hw 36 rfl)) (mvT hZ (wd hw 37 rfl)) (mvT hZ (wd hw 38 rfl)) (mvT hZ (wd hw 39 rfl)) (by decide) (backOf (W := 0) (rm8_3 l Z a0 hw []  h156 n0 Z156 ) hZ (wd hw 39 rfl) (wd hw 38 rfl) (by decide) (by decide)) (g := (mkF m 87 #[iv (3 : Int32), rv o1, iv (8 : Int32), rv b1, rv b3, iv (7 : Int32), lv (0 : Int64), .second, lv (rv2 (rv2 (9223372036854775807 : Int64) (rv9_6 c6_)) (rv9_5 c5_)), .second, iv (4 : Int32), lv (rv9_4 c5_ c6_ c4_), .second] [(.int (3 : Int32))])) rfl (by rw [hml]; rfl) (argsL := [(.int (3 : Int32))]) (rest := []) (lenOf pd_0 rfl) rfl (by show 2 * 0 + _ ≤ _; exact Nat.le_of_eq rfl) (hb hby d7_87) (fun _ _ => ⟨rfl, e174, (by decide : 2 + 0 ≤ _), (by decide : 16 + 0 ≤ _)⟩)
  dsimp only [Pt.U, Pt.locs, Pt.cells, Pt.slots] at X175 l175 y175 z175 st175 hQ175
  replace l175 : ((((((((((((((([] ++ [⟨b1, ((0 : Int32)).toNatClampNeg⟩]) ++ [⟨b3, ((0 : Int32)).toNatClampNeg⟩]) ++ [⟨b1, ((1 : Int32)).toNatClampNeg⟩]) ++ [⟨b3, ((1 : Int32)).toNatClampNeg⟩]) ++ [⟨b1, ((2 : Int32)).toNatClampNeg⟩]) ++ [⟨b3, ((2 : Int32)).toNatClampNeg⟩]) ++ [⟨b1, ((3 : Int32)).toNatClampNeg⟩]) ++ [⟨b3, ((3 : Int32)).toNatClampNeg⟩]) ++ [⟨b1, ((4 : Int32)).toNatClampNeg⟩]) ++ [⟨b3, ((4 : Int32)).toNatClampNeg⟩]) ++ [⟨b1, ((5 : Int32)).toNatClampNeg⟩]) ++ [⟨b3, ((5 : Int32)).toNatClampNeg⟩]) ++ [⟨b1, ((6 : Int32)).toNatClampNeg⟩]) ++ [⟨b3, ((6 : Int32)).toNatClampNeg⟩]) ++ Lc175) = L175 := l175.symm
  subst l175 y175 z175
  obtain ⟨rfl, rfl, e175⟩ := hQ175
  simp only [List.append_nil, Nat.add_zero] at X175
  have G175 := gd X175 hx hby
  obtain ⟨_, _, ⟨T176, L176, k176, n176⟩, -, X176, ⟨Lc176, hQ176, l176, y176, z176⟩, st176⟩ := Jvm.LawKit.callS X175 hx (y := (⟨"java/lang/Math", "max", "(JJ)J"⟩ : MethodName)) hown (mvT hZ (wd hw 54 rfl)) (mvT hZ (wd hw 55 rfl)) (mvT hZ (wd hw 9 rfl)) (mvT hZ (wd hw 56 rfl)) (by decide) (backOf (W := 0) (rm12 l Z a0 hw [] (0 : Int64) ((-(rv9_4 c5_ c6_ c4_))) h156 n0 Z156 ) hZ (wd hw 56 rfl) (wd hw 9 rfl) (by decide) (by decide)) (g := (mkF m 100 #[iv (3 : Int32), rv o1, iv (8 : Int32), rv b1, rv b3, iv (7 : Int32), lv (0 : Int64), .second, lv (rv2 (rv2 (9223372036854775807 : Int64) (rv9_6 c6_)) (rv9_5 c5_)), .second, iv (4 : Int32), lv (rv9_4 c5_ c6_ c4_), .second] [(.long (-(rv9_4 c5_ c6_ c4_))), (.long (0 : Int64))])) rfl (by rw [hml]; rfl) (argsL := [(.long (0 : Int64)), (.long (-(rv9_4 c5_ c6_ c4_)))]) (rest := []) (lenOf pd_1 rfl) rfl (by show 2 * 0 + _ ≤ _; exact Nat.le_of_eq rfl) (hb hby d7_100) (fun _ _ => ⟨rfl, e175, (by decide : 2 + 0 ≤ _), (by decide : 16 + 0 ≤ _)⟩)
  dsimp only [Pt.U, Pt.locs, Pt.cells, Pt.slots] at X176 l176 y176 z176 st176 hQ176
  replace l176 : ((((((((((((((([] ++ [⟨b1, ((0 : Int32)).toNatClampNeg⟩]) ++ [⟨b3, ((0 : Int32)).toNatClampNeg⟩]) ++ [⟨b1, ((1 : Int32)).toNatClampNeg⟩]) ++ [⟨b3, ((1 : Int32)).toNatClampNeg⟩]) ++ [⟨b1, ((2 : Int32)).toNatClampNeg⟩]) ++ [⟨b3, ((2 : Int32)).toNatClampNeg⟩]) ++ [⟨b1, ((3 : Int32)).toNatClampNeg⟩]) ++ [⟨b3, ((3 : Int32)).toNatClampNeg⟩]) ++ [⟨b1, ((4 : Int32)).toNatClampNeg⟩]) ++ [⟨b3, ((4 : Int32)).toNatClampNeg⟩]) ++ [⟨b1, ((5 : Int32)).toNatClampNeg⟩]) ++ [⟨b3, ((5 : Int32)).toNatClampNeg⟩]) ++ [⟨b1, ((6 : Int32)).toNatClampNeg⟩]) ++ [⟨b3, ((6 : Int32)).toNatClampNeg⟩]) ++ Lc176) = L176 := l176.symm
  subst l176 y176 z176
  obtain ⟨rfl, rfl, e176⟩ := hQ176
  simp only [List.append_nil, Nat.add_zero] at X176
  have G176 := gd X176 hx hby
  obtain ⟨_, _, ⟨T177, L177, k177, n177⟩, -, X177, ⟨Lc177, hQ177, l177, y177, z177⟩, st177⟩ := Jvm.LawKit.callS X176 hx (y := (⟨"com/example/tempe/tempe/estimate/CountBracket", "highestRest", "(II[J[J)J"⟩ : MethodName)) hown (mvT hZ (wd hw 44 rfl)) (mvT hZ (wd hw 45 rfl)) (mvT hZ (wd hw 13 rfl)) (mvT hZ (wd hw 46 rfl)) (by decide) (backOf (W := 0) (rm9_3 l Z a0 hw [] b1 b3 h156 n0 Z156 (own_rm7_3_hp_hlq_75 o1 c0_ c1_ c2_ c3_ c4_ c5_ c6_ c7_ k1 hcq) (own_rm7_3_hp_hhq_75 o1 c0_ c1_ c2_ c3_ c4_ c5_ c6_ c7_ k1 hcq) f161 V156) hZ (wd hw 46 rfl) (wd hw 13 rfl) (by decide) (by decide)) (g := (mkF m 75 #[iv (3 : Int32), rv o1, iv (8 : Int32), rv b1, rv b3, iv (7 : Int32), lv (rv12 (0 : Int64) (-(rv9_4 c5_ c6_ c4_))), .second, lv (rv2 (rv2 (9223372036854775807 : Int64) (rv9_6 c6_)) (rv9_5 c5_)), .second, iv (3 : Int32), lv (rv9_4 c5_ c6_ c4_), .second] [(.ref b3), (.ref b1), (.int (3 : Int32)), (.int (7 : Int32))])) rfl (by rw [hml]; rfl) (argsL := [(.int (7 : Int32)), (.int (3 : Int32)), (.ref b1), (.ref b3)]) (rest := []) (lenOf pd_5 rfl) rfl (by show 2 * 0 + _ ≤ _; exact Nat.le_of_eq rfl) (hb hby d7_75) (fun _ _ => ⟨rfl, e176, (by decide : 2 + 0 ≤ _), (by decide : 16 + 0 ≤ _)⟩)
  dsimp only [Pt.U, Pt.locs, Pt.cells, Pt.slots] at X177 l177 y177 z177 st177 hQ177
  replace l177 : ((((((((((((((([] ++ [⟨b1, ((0 : Int32)).toNatClampNeg⟩]) ++ [⟨b3, ((0 : Int32)).toNatClampNeg⟩]) ++ [⟨b1, ((1 : Int32)).toNatClampNeg⟩]) ++ [⟨b3, ((1 : Int32)).toNatClampNeg⟩]) ++ [⟨b1, ((2 : Int32)).toNatClampNeg⟩]) ++ [⟨b3, ((2 : Int32)).toNatClampNeg⟩]) ++ [⟨b1, ((3 : Int32)).toNatClampNeg⟩]) ++ [⟨b3, ((3 : Int32)).toNatClampNeg⟩]) ++ [⟨b1, ((4 : Int32)).toNatClampNeg⟩]) ++ [⟨b3, ((4 : Int32)).toNatClampNeg⟩]) ++ [⟨b1, ((5 : Int32)).toNatClampNeg⟩]) ++ [⟨b3, ((5 : Int32)).toNatClampNeg⟩]) ++ [⟨b1, ((6 : Int32)).toNatClampNeg⟩]) ++ [⟨b3, ((6 : Int32)).toNatClampNeg⟩]) ++ Lc177) = L177 := l177.symm
  subst l177 y177 z177
  obtain ⟨rfl, rfl, e177⟩ := hQ177
  simp only [List.append_nil, Nat.add_zero] at X177
  have G177 := gd X177 hx hby
  obtain ⟨_, _, ⟨T178, L178, k178, n178⟩, -, X178, ⟨Lc178, hQ178, l178, y178, z178⟩, st178⟩ := Jvm.LawKit.callS X177 hx (y := (⟨"java/lang/Integer", "bitCount", "(I)I"⟩ : MethodName)) hown (mvT hZ (wd hw 36 rfl)) (mvT hZ (wd hw 37 rfl)) (mvT hZ (wd hw 38 rfl)) (mvT hZ (wd hw 39 rfl)) (by decide) (backOf (W := 0) (rm8_4 l Z a0 hw []  h156 n0 Z156 ) hZ (wd hw 39 rfl) (wd hw 38 rfl) (by decide) (by decide)) (g := (mkF m 87 #[iv (3 : Int32), rv o1, iv (8 : Int32), rv b1, rv b3, iv (7 : Int32), lv (rv12 (0 : Int64) (-(rv9_4 c5_ c6_ c4_))), .second, lv (rv2 (rv2 (9223372036854775807 : Int64) (rv9_6 c6_)) (rv9_5 c5_)), .second, iv (3 : Int32), lv (rv9_3 c3_), .second] [(.int (4 : Int32))])) rfl (by rw [hml]; rfl) (argsL := [(.int (4 : Int32))]) (rest := []) (lenOf pd_0 rfl) rfl (by show 2 * 0 + _ ≤ _; exact Nat.le_of_eq rfl) (hb hby d7_87) (fun _ _ => ⟨rfl, e177, (by decide : 2 + 0 ≤ _), (by decide : 16 + 0 ≤ _)⟩)
  dsimp only [Pt.U, Pt.locs, Pt.cells, Pt.slots] at X178 l178 y178 z178 st178 hQ178
  replace l178 : ((((((((((((((([] ++ [⟨b1, ((0 : Int32)).toNatClampNeg⟩]) ++ [⟨b3, ((0 : Int32)).toNatClampNeg⟩]) ++ [⟨b1, ((1 : Int32)).toNatClampNeg⟩]) ++ [⟨b3, ((1 : Int32)).toNatClampNeg⟩]) ++ [⟨b1, ((2 : Int32)).toNatClampNeg⟩]) ++ [⟨b3, ((2 : Int32)).toNatClampNeg⟩]) ++ [⟨b1, ((3 : Int32)).toNatClampNeg⟩]) ++ [⟨b3, ((3 : Int32)).toNatClampNeg⟩]) ++ [⟨b1, ((4 : Int32)).toNatClampNeg⟩]) ++ [⟨b3, ((4 : Int32)).toNatClampNeg⟩]) ++ [⟨b1, ((5 : Int32)).toNatClampNeg⟩]) ++ [⟨b3, ((5 : Int32)).toNatClampNeg⟩]) ++ [⟨b1, ((6 : Int32)).toNatClampNeg⟩]) ++ [⟨b3, ((6 : Int32)).toNatClampNeg⟩]) ++ Lc178) = L178 := l178.symm
  subst l178 y178 z178
  obtain ⟨rfl, rfl, e178⟩ := hQ178
  simp only [List.append_nil, Nat.add_zero] at X178
  have G178 := gd X178 hx hby
  obtain ⟨_, _, ⟨T179, L179, k179, n179⟩, -, X179, ⟨Lc179, hQ179, l179, y179, z179⟩, st179⟩ := Jvm.LawKit.callS X178 hx (y := (⟨"java/lang/Math", "min", "(JJ)J"⟩ : MethodName)) hown (mvT hZ (wd hw 50 rfl)) (mvT hZ (wd hw 8 rfl)) (mvT hZ (wd hw 9 rfl)) (mvT hZ (wd hw 10 rfl)) (by decide) (backOf (W := 0) (rm2 l Z a0 hw [] ((rv2 (rv2 (9223372036854775807 : Int64) (rv9_6 c6_)) (rv9_5 c5_))) ((rv9_3 c3_)) h156 n0 Z156 ) hZ (wd hw 10 rfl) (wd hw 9 rfl) (by decide) (by decide)) (g := (mkF m 112 #[iv (3 : Int32), rv o1, iv (8 : Int32), rv b1, rv b3, iv (7 : Int32), lv (rv12 (0 : Int64) (-(rv9_4 c5_ c6_ c4_))), .second, lv (rv2 (rv2 (9223372036854775807 : Int64) (rv9_6 c6_)) (rv9_5 c5_)), .second, iv (3 : Int32), lv (rv9_3 c3_), .second] [(.long (rv9_3 c3_)), (.long (rv2 (rv2 (9223372036854775807 : Int64) (rv9_6 c6_)) (rv9_5 c5_)))])) rfl (by rw [hml]; rfl) (argsL := [(.long (rv2 (rv2 (9223372036854775807 : Int64) (rv9_6 c6_)) (rv9_5 c5_))), (.long (rv9_3 c3_))]) (rest := []) (lenOf pd_1 rfl) rfl (by show 2 * 0 + _ ≤ _; exact Nat.le_of_eq rfl) (hb hby d7_112) (fun _ _ => ⟨rfl, e178, (by decide : 2 + 0 ≤ _), (by decide : 16 + 0 ≤ _)⟩)
  dsimp only [Pt.U, Pt.locs, Pt.cells, Pt.slots] at X179 l179 y179 z179 st179 hQ179
  replace l179 : ((((((((((((((([] ++ [⟨b1, ((0 : Int32)).toNatClampNeg⟩]) ++ [⟨b3, ((0 : Int32)).toNatClampNeg⟩]) ++ [⟨b1, ((1 : Int32)).toNatClampNeg⟩]) ++ [⟨b3, ((1 : Int32)).toNatClampNeg⟩]) ++ [⟨b1, ((2 : Int32)).toNatClampNeg⟩]) ++ [⟨b3, ((2 : Int32)).toNatClampNeg⟩]) ++ [⟨b1, ((3 : Int32)).toNatClampNeg⟩]) ++ [⟨b3, ((3 : Int32)).toNatClampNeg⟩]) ++ [⟨b1, ((4 : Int32)).toNatClampNeg⟩]) ++ [⟨b3, ((4 : Int32)).toNatClampNeg⟩]) ++ [⟨b1, ((5 : Int32)).toNatClampNeg⟩]) ++ [⟨b3, ((5 : Int32)).toNatClampNeg⟩]) ++ [⟨b1, ((6 : Int32)).toNatClampNeg⟩]) ++ [⟨b3, ((6 : Int32)).toNatClampNeg⟩]) ++ Lc179) = L179 := l179.symm
  subst l179 y179 z179
  obtain ⟨rfl, rfl, e179⟩ := hQ179
  simp only [List.append_nil, Nat.add_zero] at X179
  have G179 := gd X179 hx hby
  obtain ⟨_, _, ⟨T180, L180, k180, n180⟩, -, X180, ⟨Lc180, hQ180, l180, y180, z180⟩, st180⟩ := Jvm.LawKit.callS X179 hx (y := (⟨"com/example/tempe/tempe/estimate/CountBracket", "highestRest", "(II[J[J)J"⟩ : MethodName)) hown (mvT hZ (wd hw 44 rfl)) (mvT hZ (wd hw 45 rfl)) (mvT hZ (wd hw 13 rfl)) (mvT hZ (wd hw 46 rfl)) (by decide) (backOf (W := 0) (rm9_2 l Z a0 hw [] b1 b3 h156 n0 Z156 (own_rm7_3_hp_hlq_75 o1 c0_ c1_ c2_ c3_ c4_ c5_ c6_ c7_ k1 hcq) (own_rm7_3_hp_hhq_75 o1 c0_ c1_ c2_ c3_ c4_ c5_ c6_ c7_ k1 hcq) f161 V156) hZ (wd hw 46 rfl) (wd hw 13 rfl) (by decide) (by decide)) (g := (mkF m 75 #[iv (3 : Int32), rv o1, iv (8 : Int32), rv b1, rv b3, iv (7 : Int32), lv (rv12 (0 : Int64) (-(rv9_4 c5_ c6_ c4_))), .second, lv (rv2 (rv2 (rv2 (9223372036854775807 : Int64) (rv9_6 c6_)) (rv9_5 c5_)) (rv9_3 c3_)), .second, iv (2 : Int32), lv (rv9_3 c3_), .second] [(.ref b3), (.ref b1), (.int (2 : Int32)), (.int (7 : Int32))])) rfl (by rw [hml]; rfl) (argsL := [(.int (7 : Int32)), (.int (2 : Int32)), (.ref b1), (.ref b3)]) (rest := []) (lenOf pd_5 rfl) rfl (by show 2 * 0 + _ ≤ _; exact Nat.le_of_eq rfl) (hb hby d7_75) (fun _ _ => ⟨rfl, e179, (by decide : 2 + 0 ≤ _), (by decide : 16 + 0 ≤ _)⟩)
  dsimp only [Pt.U, Pt.locs, Pt.cells, Pt.slots] at X180 l180 y180 z180 st180 hQ180
  replace l180 : ((((((((((((((([] ++ [⟨b1, ((0 : Int32)).toNatClampNeg⟩]) ++ [⟨b3, ((0 : Int32)).toNatClampNeg⟩]) ++ [⟨b1, ((1 : Int32)).toNatClampNeg⟩]) ++ [⟨b3, ((1 : Int32)).toNatClampNeg⟩]) ++ [⟨b1, ((2 : Int32)).toNatClampNeg⟩]) ++ [⟨b3, ((2 : Int32)).toNatClampNeg⟩]) ++ [⟨b1, ((3 : Int32)).toNatClampNeg⟩]) ++ [⟨b3, ((3 : Int32)).toNatClampNeg⟩]) ++ [⟨b1, ((4 : Int32)).toNatClampNeg⟩]) ++ [⟨b3, ((4 : Int32)).toNatClampNeg⟩]) ++ [⟨b1, ((5 : Int32)).toNatClampNeg⟩]) ++ [⟨b3, ((5 : Int32)).toNatClampNeg⟩]) ++ [⟨b1, ((6 : Int32)).toNatClampNeg⟩]) ++ [⟨b3, ((6 : Int32)).toNatClampNeg⟩]) ++ Lc180) = L180 := l180.symm
  subst l180 y180 z180
  obtain ⟨rfl, rfl, e180⟩ := hQ180
  simp only [List.append_nil, Nat.add_zero] at X180
  have G180 := gd X180 hx hby
  obtain ⟨_, _, ⟨T181, L181, k181, n181⟩, -, X181, ⟨Lc181, hQ181, l181, y181, z181⟩, st181⟩ := Jvm.LawKit.callS X180 hx (y := (⟨"java/lang/Integer", "bitCount", "(I)I"⟩ : MethodName)) hown (mvT hZ (wd hw 36 rfl)) (mvT hZ (wd hw 37 rfl)) (mvT hZ (wd hw 38 rfl)) (mvT hZ (wd hw 39 rfl)) (by decide) (backOf (W := 0) (rm8_5 l Z a0 hw []  h156 n0 Z156 ) hZ (wd hw 39 rfl) (wd hw 38 rfl) (by decide) (by decide)) (g := (mkF m 87 #[iv (3 : Int32), rv o1, iv (8 : Int32), rv b1, rv b3, iv (7 : Int32), lv (rv12 (0 : Int64) (-(rv9_4 c5_ c6_ c4_))), .second, lv (rv2 (rv2 (rv2 (9223372036854775807 : Int64) (rv9_6 c6_)) (rv9_5 c5_)) (rv9_3 c3_)), .second, iv (2 : Int32), lv (rv9_2 c3_ c6_ c2_), .second] [(.int (5 : Int32))])) rfl (by rw [hml]; rfl) (argsL := [(.int (5 : Int32))]) (rest := []) (lenOf pd_0 rfl) rfl (by show 2 * 0 + _ ≤ _; exact Nat.le_of_eq rfl) (hb hby d7_87) (fun _ _ => ⟨rfl, e180, (by decide : 2 + 0 ≤ _), (by decide : 16 + 0 ≤ _)⟩)
  dsimp only [Pt.U, Pt.locs, Pt.cells, Pt.slots] at X181 l181 y181 z181 st181 hQ181
  replace l181 : ((((((((((((((([] ++ [⟨b1, ((0 : Int32)).toNatClampNeg⟩]) ++ [⟨b3, ((0 : Int32)).toNatClampNeg⟩]) ++ [⟨b1, ((1 : Int32)).toNatClampNeg⟩]) ++ [⟨b3, ((1 : Int32)).toNatClampNeg⟩]) ++ [⟨b1, ((2 : Int32)).toNatClampNeg⟩]) ++ [⟨b3, ((2 : Int32)).toNatClampNeg⟩]) ++ [⟨b1, ((3 : Int32)).toNatClampNeg⟩]) ++ [⟨b3, ((3 : Int32)).toNatClampNeg⟩]) ++ [⟨b1, ((4 : Int32)).toNatClampNeg⟩]) ++ [⟨b3, ((4 : Int32)).toNatClampNeg⟩]) ++ [⟨b1, ((5 : Int32)).toNatClampNeg⟩]) ++ [⟨b3, ((5 : Int32)).toNatClampNeg⟩]) ++ [⟨b1, ((6 : Int32)).toNatClampNeg⟩]) ++ [⟨b3, ((6 : Int32)).toNatClampNeg⟩]) ++ Lc181) = L181 := l181.symm
  subst l181 y181 z181
  obtain ⟨rfl, rfl, e181⟩ := hQ181
  simp only [List.append_nil, Nat.add_zero] at X181
  have G181 := gd X181 hx hby
  obtain ⟨_, _, ⟨T182, L182, k182, n182⟩, -, X182, ⟨Lc182, hQ182, l182, y182, z182⟩, st182⟩ := Jvm.LawKit.callS X181 hx (y := (⟨"java/lang/Math", "max", "(JJ)J"⟩ : MethodName)) hown (mvT hZ (wd hw 54 rfl)) (mvT hZ (wd hw 55 rfl)) (mvT hZ (wd hw 9 rfl)) (mvT hZ (wd hw 56 rfl)) (by decide) (backOf (W := 0) (rm12 l Z a0 hw [] ((rv12 (0 : Int64) (-(rv9_4 c5_ c6_ c4_)))) ((-(rv9_2 c3_ c6_ c2_))) h156 n0 Z156 ) hZ (wd hw 56 rfl) (wd hw 9 rfl) (by decide) (by decide)) (g := (mkF m 100 #[iv (3 : Int32), rv o1, iv (8 : Int32), rv b1, rv b3, iv (7 : Int32), lv (rv12 (0 : Int64) (-(rv9_4 c5_ c6_ c4_))), .second, lv (rv2 (rv2 (rv2 (9223372036854775807 : Int64) (rv9_6 c6_)) (rv9_5 c5_)) (rv9_3 c3_)), .second, iv (2 : Int32), lv (rv9_2 c3_ c6_ c2_), .second] [(.long (-(rv9_2 c3_ c6_ c2_))), (.long (rv12 (0 : Int64) (-(rv9_4 c5_ c6_ c4_))))])) rfl (by rw [hml]; rfl) (argsL := [(.long (rv12 (0 : Int64) (-(rv9_4 c5_ c6_ c4_)))), (.long (-(rv9_2 c3_ c6_ c2_)))]) (rest := []) (lenOf pd_1 rfl) rfl (by show 2 * 0 + _ ≤ _; exact Nat.le_of_eq rfl) (hb hby d7_100) (fun _ _ => ⟨rfl, e181, (by decide : 2 + 0 ≤ _), (by decide : 16 + 0 ≤ _)⟩)
  dsimp only [Pt.U, Pt.locs, Pt.cells, Pt.slots] at X182 l182 y182 z182 st182 hQ182
  replace l182 : ((((((((((((((([] ++ [⟨b1, ((0 : Int32)).toNatClampNeg⟩]) ++ [⟨b3, ((0 : Int32)).toNatClampNeg⟩]) ++ [⟨b1, ((1 : Int32)).toNatClampNeg⟩]) ++ [⟨b3, ((1 : Int32)).toNatClampNeg⟩]) ++ [⟨b1, ((2 : Int32)).toNatClampNeg⟩]) ++ [⟨b3, ((2 : Int32)).toNatClampNeg⟩]) ++ [⟨b1, ((3 : Int32)).toNatClampNeg⟩]) ++ [⟨b3, ((3 : Int32)).toNatClampNeg⟩]) ++ [⟨b1, ((4 : Int32)).toNatClampNeg⟩]) ++ [⟨b3, ((4 : Int32)).toNatClampNeg⟩]) ++ [⟨b1, ((5 : Int32)).toNatClampNeg⟩]) ++ [⟨b3, ((5 : Int32)).toNatClampNeg⟩]) ++ [⟨b1, ((6 : Int32)).toNatClampNeg⟩]) ++ [⟨b3, ((6 : Int32)).toNatClampNeg⟩]) ++ Lc182) = L182 := l182.symm
  subst l182 y182 z182
  obtain ⟨rfl, rfl, e182⟩ := hQ182
  simp only [List.append_nil, Nat.add_zero] at X182
  have G182 := gd X182 hx hby
  obtain ⟨_, _, ⟨T183, L183, k183, n183⟩, -, X183, ⟨Lc183, hQ183, l183, y183, z183⟩, st183⟩ := Jvm.LawKit.callS X182 hx (y := (⟨"com/example/tempe/tempe/estimate/CountBracket", "highestRest", "(II[J[J)J"⟩ : MethodName)) hown (mvT hZ (wd hw 44 rfl)) (mvT hZ (wd hw 45 rfl)) (mvT hZ (wd hw 13 rfl)) (mvT hZ (wd hw 46 rfl)) (by decide) (backOf (W := 0) (rm9_1 l Z a0 hw [] b1 b3 h156 n0 Z156 (own_rm7_3_hp_hlq_75 o1 c0_ c1_ c2_ c3_ c4_ c5_ c6_ c7_ k1 hcq) (own_rm7_3_hp_hhq_75 o1 c0_ c1_ c2_ c3_ c4_ c5_ c6_ c7_ k1 hcq) f161 V156) hZ (wd hw 46 rfl) (wd hw 13 rfl) (by decide) (by decide)) (g := (mkF m 75 #[iv (3 : Int32), rv o1, iv (8 : Int32), rv b1, rv b3, iv (7 : Int32), lv (rv12 (rv12 (0 : Int64) (-(rv9_4 c5_ c6_ c4_))) (-(rv9_2 c3_ c6_ c2_))), .second, lv (rv2 (rv2 (rv2 (9223372036854775807 : Int64) (rv9_6 c6_)) (rv9_5 c5_)) (rv9_3 c3_)), .second, iv (1 : Int32), lv (rv9_2 c3_ c6_ c2_), .second] [(.ref b3), (.ref b1), (.int (1 : Int32)), (.int (7 : Int32))])) rfl (by rw [hml]; rfl) (argsL := [(.int (7 : Int32)), (.int (1 : Int32)), (.ref b1), (.ref b3)]) (rest := []) (lenOf pd_5 rfl) rfl (by show 2 * 0 + _ ≤ _; exact Nat.le_of_eq rfl) (hb hby d7_75) (fun _ _ => ⟨rfl, e182, (by decide : 2 + 0 ≤ _), (by decide : 16 + 0 ≤ _)⟩)
  dsimp only [Pt.U, Pt.locs, Pt.cells, Pt.slots] at X183 l183 y183 z183 st183 hQ183
  replace l183 : ((((((((((((((([] ++ [⟨b1, ((0 : Int32)).toNatClampNeg⟩]) ++ [⟨b3, ((0 : Int32)).toNatClampNeg⟩]) ++ [⟨b1, ((1 : Int32)).toNatClampNeg⟩]) ++ [⟨b3, ((1 : Int32)).toNatClampNeg⟩]) ++ [⟨b1, ((2 : Int32)).toNatClampNeg⟩]) ++ [⟨b3, ((2 : Int32)).toNatClampNeg⟩]) ++ [⟨b1, ((3 : Int32)).toNatClampNeg⟩]) ++ [⟨b3, ((3 : Int32)).toNatClampNeg⟩]) ++ [⟨b1, ((4 : Int32)).toNatClampNeg⟩]) ++ [⟨b3, ((4 : Int32)).toNatClampNeg⟩]) ++ [⟨b1, ((5 : Int32)).toNatClampNeg⟩]) ++ [⟨b3, ((5 : Int32)).toNatClampNeg⟩]) ++ [⟨b1, ((6 : Int32)).toNatClampNeg⟩]) ++ [⟨b3, ((6 : Int32)).toNatClampNeg⟩]) ++ Lc183) = L183 := l183.symm
  subst l183 y183 z183
  obtain ⟨rfl, rfl, e183⟩ := hQ183
  simp only [List.append_nil, Nat.add_zero] at X183
  have G183 := gd X183 hx hby
  obtain ⟨_, _, ⟨T184, L184, k184, n184⟩, -, X184, ⟨Lc184, hQ184, l184, y184, z184⟩, st184⟩ := Jvm.LawKit.callS X183 hx (y := (⟨"java/lang/Integer", "bitCount", "(I)I"⟩ : MethodName)) hown (mvT hZ (wd hw 36 rfl)) (mvT hZ (wd hw 37 rfl)) (mvT hZ (wd hw 38 rfl)) (mvT hZ (wd hw 39 rfl)) (by decide) (backOf (W := 0) (rm8_6 l Z a0 hw []  h156 n0 Z156 ) hZ (wd hw 39 rfl) (wd hw 38 rfl) (by decide) (by decide)) (g := (mkF m 87 #[iv (3 : Int32), rv o1, iv (8 : Int32), rv b1, rv b3, iv (7 : Int32), lv (rv12 (rv12 (0 : Int64) (-(rv9_4 c5_ c6_ c4_))) (-(rv9_2 c3_ c6_ c2_))), .second, lv (rv2 (rv2 (rv2 (9223372036854775807 : Int64) (rv9_6 c6_)) (rv9_5 c5_)) (rv9_3 c3_)), .second, iv (1 : Int32), lv (rv9_1 c3_ c5_ c1_), .second] [(.int (6 : Int32))])) rfl (by rw [hml]; rfl) (argsL := [(.int (6 : Int32))]) (rest := []) (lenOf pd_0 rfl) rfl (by show 2 * 0 + _ ≤ _; exact Nat.le_of_eq rfl) (hb hby d7_87) (fun _ _ => ⟨rfl, e183, (by decide : 2 + 0 ≤ _), (by decide : 16 + 0 ≤ _)⟩)
  dsimp only [Pt.U, Pt.locs, Pt.cells, Pt.slots] at X184 l184 y184 z184 st184 hQ184
  replace l184 : ((((((((((((((([] ++ [⟨b1, ((0 : Int32)).toNatClampNeg⟩]) ++ [⟨b3, ((0 : Int32)).toNatClampNeg⟩]) ++ [⟨b1, ((1 : Int32)).toNatClampNeg⟩]) ++ [⟨b3, ((1 : Int32)).toNatClampNeg⟩]) ++ [⟨b1, ((2 : Int32)).toNatClampNeg⟩]) ++ [⟨b3, ((2 : Int32)).toNatClampNeg⟩]) ++ [⟨b1, ((3 : Int32)).toNatClampNeg⟩]) ++ [⟨b3, ((3 : Int32)).toNatClampNeg⟩]) ++ [⟨b1, ((4 : Int32)).toNatClampNeg⟩]) ++ [⟨b3, ((4 : Int32)).toNatClampNeg⟩]) ++ [⟨b1, ((5 : Int32)).toNatClampNeg⟩]) ++ [⟨b3, ((5 : Int32)).toNatClampNeg⟩]) ++ [⟨b1, ((6 : Int32)).toNatClampNeg⟩]) ++ [⟨b3, ((6 : Int32)).toNatClampNeg⟩]) ++ Lc184) = L184 := l184.symm
  subst l184 y184 z184
  obtain ⟨rfl, rfl, e184⟩ := hQ184
  simp only [List.append_nil, Nat.add_zero] at X184
  have G184 := gd X184 hx hby
  obtain ⟨_, _, ⟨T185, L185, k185, n185⟩, -, X185, ⟨Lc185, hQ185, l185, y185, z185⟩, st185⟩ := Jvm.LawKit.callS X184 hx (y := (⟨"java/lang/Math", "max", "(JJ)J"⟩ : MethodName)) hown (mvT hZ (wd hw 54 rfl)) (mvT hZ (wd hw 55 rfl)) (mvT hZ (wd hw 9 rfl)) (mvT hZ (wd hw 56 rfl)) (by decide) (backOf (W := 0) (rm12 l Z a0 hw [] ((rv12 (rv12 (0 : Int64) (-(rv9_4 c5_ c6_ c4_))) (-(rv9_2 c3_ c6_ c2_)))) ((-(rv9_1 c3_ c5_ c1_))) h156 n0 Z156 ) hZ (wd hw 56 rfl) (wd hw 9 rfl) (by decide) (by decide)) (g := (mkF m 100 #[iv (3 : Int32), rv o1, iv (8 : Int32), rv b1, rv b3, iv (7 : Int32), lv (rv12 (rv12 (0 : Int64) (-(rv9_4 c5_ c6_ c4_))) (-(rv9_2 c3_ c6_ c2_))), .second, lv (rv2 (rv2 (rv2 (9223372036854775807 : Int64) (rv9_6 c6_)) (rv9_5 c5_)) (rv9_3 c3_)), .second, iv (1 : Int32), lv (rv9_1 c3_ c5_ c1_), .second] [(.long (-(rv9_1 c3_ c5_ c1_))), (.long (rv12 (rv12 (0 : Int64) (-(rv9_4 c5_ c6_ c4_))) (-(rv9_2 c3_ c6_ c2_))))])) rfl (by rw [hml]; rfl) (argsL := [(.long (rv12 (rv12 (0 : Int64) (-(rv9_4 c5_ c6_ c4_))) (-(rv9_2 c3_ c6_ c2_)))), (.long (-(rv9_1 c3_ c5_ c1_)))]) (rest := []) (lenOf pd_1 rfl) rfl (by show 2 * 0 + _ ≤ _; exact Nat.le_of_eq rfl) (hb hby d7_100) (fun _ _ => ⟨rfl, e184, (by decide : 2 + 0 ≤ _), (by decide : 16 + 0 ≤ _)⟩)
  dsimp only [Pt.U, Pt.locs, Pt.cells, Pt.slots] at X185 l185 y185 z185 st185 hQ185
  replace l185 : ((((((((((((((([] ++ [⟨b1, ((0 : Int32)).toNatClampNeg⟩]) ++ [⟨b3, ((0 : Int32)).toNatClampNeg⟩]) ++ [⟨b1, ((1 : Int32)).toNatClampNeg⟩]) ++ [⟨b3, ((1 : Int32)).toNatClampNeg⟩]) ++ [⟨b1, ((2 : Int32)).toNatClampNeg⟩]) ++ [⟨b3, ((2 : Int32)).toNatClampNeg⟩]) ++ [⟨b1, ((3 : Int32)).toNatClampNeg⟩]) ++ [⟨b3, ((3 : Int32)).toNatClampNeg⟩]) ++ [⟨b1, ((4 : Int32)).toNatClampNeg⟩]) ++ [⟨b3, ((4 : Int32)).toNatClampNeg⟩]) ++ [⟨b1, ((5 : Int32)).toNatClampNeg⟩]) ++ [⟨b3, ((5 : Int32)).toNatClampNeg⟩]) ++ [⟨b1, ((6 : Int32)).toNatClampNeg⟩]) ++ [⟨b3, ((6 : Int32)).toNatClampNeg⟩]) ++ Lc185) = L185 := l185.symm
  subst l185 y185 z185
  obtain ⟨rfl, rfl, e185⟩ := hQ185
  simp only [List.append_nil, Nat.add_zero] at X185
  have G185 := gd X185 hx hby
  obtain ⟨_, _, ⟨T186, L186, k186, n186⟩, -, X186, ⟨Lc186, hQ186, l186, y186, z186⟩, st186⟩ := Jvm.LawKit.callS X185 hx (y := (⟨"com/example/tempe/tempe/estimate/CountBracket", "highestRest", "(II[J[J)J"⟩ : MethodName)) hown (mvT hZ (wd hw 44 rfl)) (mvT hZ (wd hw 45 rfl)) (mvT hZ (wd hw 13 rfl)) (mvT hZ (wd hw 46 rfl)) (by decide) (backOf (W := 0) (rm9_0 l Z a0 hw [] b1 b3 h156 n0 Z156 (own_rm7_3_hp_hlq_75 o1 c0_ c1_ c2_ c3_ c4_ c5_ c6_ c7_ k1 hcq) (own_rm7_3_hp_hhq_75 o1 c0_ c1_ c2_ c3_ c4_ c5_ c6_ c7_ k1 hcq) f161 V156) hZ (wd hw 46 rfl) (wd hw 13 rfl) (by decide) (by decide)) (g := (mkF m 75 #[iv (3 : Int32), rv o1, iv (8 : Int32), rv b1, rv b3, iv (7 : Int32), lv (rv12 (rv12 (rv12 (0 : Int64) (-(rv9_4 c5_ c6_ c4_))) (-(rv9_2 c3_ c6_ c2_))) (-(rv9_1 c3_ c5_ c1_))), .second, lv (rv2 (rv2 (rv2 (9223372036854775807 : Int64) (rv9_6 c6_)) (rv9_5 c5_)) (rv9_3 c3_)), .second, iv (0 : Int32), lv (rv9_1 c3_ c5_ c1_), .second] [(.ref b3), (.ref b1), (.int (0 : Int32)), (.int (7 : Int32))])) rfl (by rw [hml]; rfl) (argsL := [(.int (7 : Int32)), (.int (0 : Int32)), (.ref b1), (.ref b3)]) (rest := []) (lenOf pd_5 rfl) rfl (by show 2 * 0 + _ ≤ _; exact Nat.le_of_eq rfl) (hb hby d7_75) (fun _ _ => ⟨rfl, e185, (by decide : 2 + 0 ≤ _), (by decide : 16 + 0 ≤ _)⟩)
  dsimp only [Pt.U, Pt.locs, Pt.cells, Pt.slots] at X186 l186 y186 z186 st186 hQ186
  replace l186 : ((((((((((((((([] ++ [⟨b1, ((0 : Int32)).toNatClampNeg⟩]) ++ [⟨b3, ((0 : Int32)).toNatClampNeg⟩]) ++ [⟨b1, ((1 : Int32)).toNatClampNeg⟩]) ++ [⟨b3, ((1 : Int32)).toNatClampNeg⟩]) ++ [⟨b1, ((2 : Int32)).toNatClampNeg⟩]) ++ [⟨b3, ((2 : Int32)).toNatClampNeg⟩]) ++ [⟨b1, ((3 : Int32)).toNatClampNeg⟩]) ++ [⟨b3, ((3 : Int32)).toNatClampNeg⟩]) ++ [⟨b1, ((4 : Int32)).toNatClampNeg⟩]) ++ [⟨b3, ((4 : Int32)).toNatClampNeg⟩]) ++ [⟨b1, ((5 : Int32)).toNatClampNeg⟩]) ++ [⟨b3, ((5 : Int32)).toNatClampNeg⟩]) ++ [⟨b1, ((6 : Int32)).toNatClampNeg⟩]) ++ [⟨b3, ((6 : Int32)).toNatClampNeg⟩]) ++ Lc186) = L186 := l186.symm
  subst l186 y186 z186
  obtain ⟨rfl, rfl, e186⟩ := hQ186
  simp only [List.append_nil, Nat.add_zero] at X186
  have G186 := gd X186 hx hby
  obtain ⟨_, _, ⟨T187, L187, k187, n187⟩, -, X187, ⟨Lc187, hQ187, l187, y187, z187⟩, st187⟩ := Jvm.LawKit.callS X186 hx (y := (⟨"java/lang/Integer", "bitCount", "(I)I"⟩ : MethodName)) hown (mvT hZ (wd hw 36 rfl)) (mvT hZ (wd hw 37 rfl)) (mvT hZ (wd hw 38 rfl)) (mvT hZ (wd hw 39 rfl)) (by decide) (backOf (W := 0) (rm8_7 l Z a0 hw []  h156 n0 Z156 ) hZ (wd hw 39 rfl) (wd hw 38 rfl) (by decide) (by decide)) (g := (mkF m 87 #[iv (3 : Int32), rv o1, iv (8 : Int32), rv b1, rv b3, iv (7 : Int32), lv (rv12 (rv12 (rv12 (0 : Int64) (-(rv9_4 c5_ c6_ c4_))) (-(rv9_2 c3_ c6_ c2_))) (-(rv9_1 c3_ c5_ c1_))), .second, lv (rv2 (rv2 (rv2 (9223372036854775807 : Int64) (rv9_6 c6_)) (rv9_5 c5_)) (rv9_3 c3_)), .second, iv (0 : Int32), lv (rv9_0 c1_ c2_ c4_ c0_ c3_ c5_ c6_), .second] [(.int (7 : Int32))])) rfl (by rw [hml]; rfl) (argsL := [(.int (7 : Int32))]) (rest := []) (lenOf pd_0 rfl) rfl (by show 2 * 0 + _ ≤ _; exact Nat.le_of_eq rfl) (hb hby d7_87) (fun _ _ => ⟨rfl, e186, (by decide : 2 + 0 ≤ _), (by decide : 16 + 0 ≤ _)⟩)
  dsimp only [Pt.U, Pt.locs, Pt.cells, Pt.slots] at X187 l187 y187 z187 st187 hQ187
  replace l187 : ((((((((((((((([] ++ [⟨b1, ((0 : Int32)).toNatClampNeg⟩]) ++ [⟨b3, ((0 : Int32)).toNatClampNeg⟩]) ++ [⟨b1, ((1 : Int32)).toNatClampNeg⟩]) ++ [⟨b3, ((1 : Int32)).toNatClampNeg⟩]) ++ [⟨b1, ((2 : Int32)).toNatClampNeg⟩]) ++ [⟨b3, ((2 : Int32)).toNatClampNeg⟩]) ++ [⟨b1, ((3 : Int32)).toNatClampNeg⟩]) ++ [⟨b3, ((3 : Int32)).toNatClampNeg⟩]) ++ [⟨b1, ((4 : Int32)).toNatClampNeg⟩]) ++ [⟨b3, ((4 : Int32)).toNatClampNeg⟩]) ++ [⟨b1, ((5 : Int32)).toNatClampNeg⟩]) ++ [⟨b3, ((5 : Int32)).toNatClampNeg⟩]) ++ [⟨b1, ((6 : Int32)).toNatClampNeg⟩]) ++ [⟨b3, ((6 : Int32)).toNatClampNeg⟩]) ++ Lc187) = L187 := l187.symm
  subst l187 y187 z187
  obtain ⟨rfl, rfl, e187⟩ := hQ187
  simp only [List.append_nil, Nat.add_zero] at X187
  have G187 := gd X187 hx hby
  obtain ⟨_, _, ⟨T188, L188, k188, n188⟩, -, X188, ⟨Lc188, hQ188, l188, y188, z188⟩, st188⟩ := Jvm.LawKit.callS X187 hx (y := (⟨"java/lang/Math", "min", "(JJ)J"⟩ : MethodName)) hown (mvT hZ (wd hw 50 rfl)) (mvT hZ (wd hw 8 rfl)) (mvT hZ (wd hw 9 rfl)) (mvT hZ (wd hw 10 rfl)) (by decide) (backOf (W := 0) (rm2 l Z a0 hw [] ((rv2 (rv2 (rv2 (9223372036854775807 : Int64) (rv9_6 c6_)) (rv9_5 c5_)) (rv9_3 c3_))) ((rv9_0 c1_ c2_ c4_ c0_ c3_ c5_ c6_)) h156 n0 Z156 ) hZ (wd hw 10 rfl) (wd hw 9 rfl) (by decide) (by decide)) (g := (mkF m 112 #[iv (3 : Int32), rv o1, iv (8 : Int32), rv b1, rv b3, iv (7 : Int32), lv (rv12 (rv12 (rv12 (0 : Int64) (-(rv9_4 c5_ c6_ c4_))) (-(rv9_2 c3_ c6_ c2_))) (-(rv9_1 c3_ c5_ c1_))), .second, lv (rv2 (rv2 (rv2 (9223372036854775807 : Int64) (rv9_6 c6_)) (rv9_5 c5_)) (rv9_3 c3_)), .second, iv (0 : Int32), lv (rv9_0 c1_ c2_ c4_ c0_ c3_ c5_ c6_), .second] [(.long (rv9_0 c1_ c2_ c4_ c0_ c3_ c5_ c6_)), (.long (rv2 (rv2 (rv2 (9223372036854775807 : Int64) (rv9_6 c6_)) (rv9_5 c5_)) (rv9_3 c3_)))])) rfl (by rw [hml]; rfl) (argsL := [(.long (rv2 (rv2 (rv2 (9223372036854775807 : Int64) (rv9_6 c6_)) (rv9_5 c5_)) (rv9_3 c3_))), (.long (rv9_0 c1_ c2_ c4_ c0_ c3_ c5_ c6_))]) (rest := []) (lenOf pd_1 rfl) rfl (by show 2 * 0 + _ ≤ _; exact Nat.le_of_eq rfl) (hb hby d7_112) (fun _ _ => ⟨rfl, e187, (by decide : 2 + 0 ≤ _), (by decide : 16 + 0 ≤ _)⟩)
  dsimp only [Pt.U, Pt.locs, Pt.cells, Pt.slots] at X188 l188 y188 z188 st188 hQ188
  replace l188 : ((((((((((((((([] ++ [⟨b1, ((0 : Int32)).toNatClampNeg⟩]) ++ [⟨b3, ((0 : Int32)).toNatClampNeg⟩]) ++ [⟨b1, ((1 : Int32)).toNatClampNeg⟩]) ++ [⟨b3, ((1 : Int32)).toNatClampNeg⟩]) ++ [⟨b1, ((2 : Int32)).toNatClampNeg⟩]) ++ [⟨b3, ((2 : Int32)).toNatClampNeg⟩]) ++ [⟨b1, ((3 : Int32)).toNatClampNeg⟩]) ++ [⟨b3, ((3 : Int32)).toNatClampNeg⟩]) ++ [⟨b1, ((4 : Int32)).toNatClampNeg⟩]) ++ [⟨b3, ((4 : Int32)).toNatClampNeg⟩]) ++ [⟨b1, ((5 : Int32)).toNatClampNeg⟩]) ++ [⟨b3, ((5 : Int32)).toNatClampNeg⟩]) ++ [⟨b1, ((6 : Int32)).toNatClampNeg⟩]) ++ [⟨b3, ((6 : Int32)).toNatClampNeg⟩]) ++ Lc188) = L188 := l188.symm
  subst l188 y188 z188
  obtain ⟨rfl, rfl, e188⟩ := hQ188
  simp only [List.append_nil, Nat.add_zero] at X188
  have G188 := gd X188 hx hby
  obtain ⟨T189, h189, X189, e189, W189, Vs189, st189⟩ := own_stJ X188 hx hby hZ e188 f161 (j := (7 : Int32)) (v := (rv12 (rv12 (rv12 (0 : Int64) (-(rv9_4 c5_ c6_ c4_))) (-(rv9_2 c3_ c6_ c2_))) (-(rv9_1 c3_ c5_ c1_)))) d7_165 ⟨by decide, by decide⟩ 7 rfl (Nat.le_of_ble_eq_true rfl) #[iv (3 : Int32), rv o1, iv (8 : Int32), rv b1, rv b3, iv (7 : Int32), lv (rv12 (rv12 (rv12 (0 : Int64) (-(rv9_4 c5_ c6_ c4_))) (-(rv9_2 c3_ c6_ c2_))) (-(rv9_1 c3_ c5_ c1_))), .second, lv (rv2 (rv2 (rv2 (rv2 (9223372036854775807 : Int64) (rv9_6 c6_)) (rv9_5 c5_)) (rv9_3 c3_)) (rv9_0 c1_ c2_ c4_ c0_ c3_ c5_ c6_)), .second, iv (0 : Int32), lv (rv9_0 c1_ c2_ c4_ c0_ c3_ c5_ c6_), .second] [] 166 rfl
  have G189 := gd X189 hx hby
  have N189 := Fr.snoc X189 N156 g_b1
  have f190 := f157.other W189 ne_o1_b1
  have f199 := V156.other W189 (Ne.symm ne_b1_b3)
  have Z189 := Nat.le_trans Z156 (Keep.of_wr W189).1
  have K189 : Keep h0 h189 [] := K156.wr W189 (Or.inr sz_b1)
  have V189 : Arv Z h189 b1 k1 .long (8 : Int32) [(.long c0_), (.long c1_), (.long c2_), (.long c3_), (.long c4_), (.long c5_), (.long c6_), (.long (rv12 (rv12 (rv12 (0 : Int64) (-(rv9_4 c5_ c6_ c4_))) (-(rv9_2 c3_ c6_ c2_))) (-(rv9_1 c3_ c5_ c1_))))] (.long (0 : Int64)) := Vs189
  obtain ⟨T200, h200, X200, e200, W200, Vs200, st200⟩ := own_stJ X189 hx hby hZ e189 f199 (j := (7 : Int32)) (v := (rv2 (rv2 (rv2 (rv2 (9223372036854775807 : Int64) (rv9_6 c6_)) (rv9_5 c5_)) (rv9_3 c3_)) (rv9_0 c1_ c2_ c4_ c0_ c3_ c5_ c6_))) d7_172 ⟨by decide, by decide⟩ 7 rfl (Nat.le_of_ble_eq_true rfl) #[iv (3 : Int32), rv o1, iv (8 : Int32), rv b1, rv b3, iv (7 : Int32), lv (rv12 (rv12 (rv12 (0 : Int64) (-(rv9_4 c5_ c6_ c4_))) (-(rv9_2 c3_ c6_ c2_))) (-(rv9_1 c3_ c5_ c1_))), .second, lv (rv2 (rv2 (rv2 (rv2 (9223372036854775807 : Int64) (rv9_6 c6_)) (rv9_5 c5_)) (rv9_3 c3_)) (rv9_0 c1_ c2_ c4_ c0_ c3_ c5_ c6_)), .second, iv (0 : Int32), lv (rv9_0 c1_ c2_ c4_ c0_ c3_ c5_ c6_), .second] [] 173 rfl
  have G200 := gd X200 hx hby
  have N200 := Fr.snoc X200 N189 g_b3
  have f201 := f190.other W200 ne_o1_b3
  have f205 := V189.other W200 ne_b1_b3
  have Z200 := Nat.le_trans Z189 (Keep.of_wr W200).1
  have K200 : Keep h0 h200 [] := K189.wr W200 (Or.inr sz_b3)
  have V200 : Arv Z h200 b3 k3 .long (8 : Int32) [(.long c0_), (.long c1_), (.long c2_), (.long c3_), (.long c4_), (.long c5_), (.long c6_), (.long (rv2 (rv2 (rv2 (rv2 (9223372036854775807 : Int64) (rv9_6 c6_)) (rv9_5 c5_)) (rv9_3 c3_)) (rv9_0 c1_ c2_ c4_ c0_ c3_ c5_ c6_)))] (.long (0 : Int64)) := Vs200
  obtain ⟨T211, h211, k211, X211, e211, E211, A211, st211⟩ := newP X200 hx hZ (wd hw 6 rfl) e200 (g := (mkF m 180 #[iv (3 : Int32), rv o1, iv (8 : Int32), rv b1, rv b3, iv (8 : Int32), lv (rv12 (rv12 (rv12 (0 : Int64) (-(rv9_4 c5_ c6_ c4_))) (-(rv9_2 c3_ c6_ c2_))) (-(rv9_1 c3_ c5_ c1_))), .second, lv (rv2 (rv2 (rv2 (rv2 (9223372036854775807 : Int64) (rv9_6 c6_)) (rv9_5 c5_)) (rv9_3 c3_)) (rv9_0 c1_ c2_ c4_ c0_ c3_ c5_ c6_)), .second, iv (0 : Int32), lv (rv9_0 c1_ c2_ c4_ c0_ c3_ c5_ c6_), .second] [(.int (2 : Int32))])) rfl (hb hby d7_180) rfl (by decide) (cap := 2) (by decide) (by decide) (by decide) (by decide)
  have G211 := gd X211 hx hby
  obtain ⟨b211, g211⟩ : ∃ z, z = h200.size := ⟨_, rfl⟩
  rw [← g211] at A211 st211
  have ne_o1_b211 : o1 ≠ b211 := Nat.ne_of_lt (Nat.lt_of_lt_of_le f201.lt (Nat.le_of_eq g211.symm))
  have ne_b1_b211 : b1 ≠ b211 := Nat.ne_of_lt (Nat.lt_of_lt_of_le f205.lt (Nat.le_of_eq g211.symm))
  have ne_b3_b211 : b3 ≠ b211 := Nat.ne_of_lt (Nat.lt_of_lt_of_le V200.lt (Nat.le_of_eq g211.symm))
  have g_b211 : n0 ≤ b211 := Nat.le_trans Z200 (Nat.le_of_eq g211.symm)
  have sz_b211 : h0.size ≤ b211 := Nat.le_trans K200.1 (Nat.le_of_eq g211.symm)
  have f212 := f201.ext E211
  have f213 := f205.ext E211
  have f214 := V200.ext E211
  have Z211 := Nat.le_trans Z200 E211.1
  have K211 : Keep h0 h211 [] := K200.ext E211
  have V_b211 : Arv Z h211 b211 k211 .long (2 : Int32) [(.long (0 : Int64)), (.long (0 : Int64))] (.long (0 : Int64)) := (Arv.new A211 (by decide)).pad (pad_rep [] (.long (0 : Int64)) 2)
  obtain ⟨T215, h215, X215, e215, W215, Vs215, st215⟩ := own_stJ X211 hx hby hZ e211 V_b211 (j := (0 : Int32)) (v := (rv12 (rv12 (rv12 (0 : Int64) (-(rv9_4 c5_ c6_ c4_))) (-(rv9_2 c3_ c6_ c2_))) (-(rv9_1 c3_ c5_ c1_)))) d7_189 ⟨by decide, by decide⟩ 0 rfl (Nat.le_of_ble_eq_true rfl) #[iv (3 : Int32), rv o1, iv (8 : Int32), rv b1, rv b3, iv (8 : Int32), lv (rv12 (rv12 (rv12 (0 : Int64) (-(rv9_4 c5_ c6_ c4_))) (-(rv9_2 c3_ c6_ c2_))) (-(rv9_1 c3_ c5_ c1_))), .second, lv (rv2 (rv2 (rv2 (rv2 (9223372036854775807 : Int64) (rv9_6 c6_)) (rv9_5 c5_)) (rv9_3 c3_)) (rv9_0 c1_ c2_ c4_ c0_ c3_ c5_ c6_)), .second, iv (0 : Int32), lv (rv9_0 c1_ c2_ c4_ c0_ c3_ c5_ c6_), .second] [(.ref b211)] 190 rfl
  have G215 := gd X215 hx hby
  have N215 := Fr.snoc X215 N200 g_b211
  have f216 := f212.other W215 ne_o1_b211
  have f220 := f213.other W215 ne_b1_b211
  have f225 := f214.other W215 ne_b3_b211
  have Z215 := Nat.le_trans Z211 (Keep.of_wr W215).1
  have K215 : Keep h0 h215 [] := K211.wr W215 (Or.inr sz_b211)
  have V215 : Arv Z h215 b211 k211 .long (2 : Int32) [(.long (rv12 (rv12 (rv12 (0 : Int64) (-(rv9_4 c5_ c6_ c4_))) (-(rv9_2 c3_ c6_ c2_))) (-(rv9_1 c3_ c5_ c1_)))), (.long (0 : Int64))] (.long (0 : Int64)) := Vs215
  obtain ⟨T232, h232, X232, e232, W232, Vs232, st232⟩ := own_stJ X215 hx hby hZ e215 V215 (j := (1 : Int32)) (v := (rv2 (rv2 (rv2 (rv2 (9223372036854775807 : Int64) (rv9_6 c6_)) (rv9_5 c5_)) (rv9_3 c3_)) (rv9_0 c1_ c2_ c4_ c0_ c3_ c5_ c6_))) d7_198 ⟨by decide, by decide⟩ 1 rfl (Nat.le_of_ble_eq_true rfl) #[iv (3 : Int32), rv o1, iv (8 : Int32), rv b1, rv b3, iv (8 : Int32), lv (rv12 (rv12 (rv12 (0 : Int64) (-(rv9_4 c5_ c6_ c4_))) (-(rv9_2 c3_ c6_ c2_))) (-(rv9_1 c3_ c5_ c1_))), .second, lv (rv2 (rv2 (rv2 (rv2 (9223372036854775807 : Int64) (rv9_6 c6_)) (rv9_5 c5_)) (rv9_3 c3_)) (rv9_0 c1_ c2_ c4_ c0_ c3_ c5_ c6_)), .second, iv (0 : Int32), lv (rv9_0 c1_ c2_ c4_ c0_ c3_ c5_ c6_), .second] [(.ref b211)] 199 rfl
  have G232 := gd X232 hx hby
  have N232 := Fr.snoc X232 N215 g_b211
  have f233 := f216.other W232 ne_o1_b211
  have f237 := f220.other W232 ne_b1_b211
  have f242 := f225.other W232 ne_b3_b211
  have Z232 := Nat.le_trans Z215 (Keep.of_wr W232).1
  have K232 : Keep h0 h232 [] := K215.wr W232 (Or.inr sz_b211)
  have V232 : Arv Z h232 b211 k211 .long (2 : Int32) [(.long (rv12 (rv12 (rv12 (0 : Int64) (-(rv9_4 c5_ c6_ c4_))) (-(rv9_2 c3_ c6_ c2_))) (-(rv9_1 c3_ c5_ c1_)))), (.long (rv2 (rv2 (rv2 (rv2 (9223372036854775807 : Int64) (rv9_6 c6_)) (rv9_5 c5_)) (rv9_3 c3_)) (rv9_0 c1_ c2_ c4_ c0_ c3_ c5_ c6_)))] (.long (0 : Int64)) := Vs232
  obtain ⟨fs, hr, hrun, hended, hW, hsame⟩ := X232.leave (v := some (.ref b211)) (fun h => by rw [Bd.returns] at h; cases h)
  refine ⟨_, _, pre0 _ ?_, hrun, hended, _, _, rfl, ?_, ⟨_, rfl⟩, hW, hsame.mono (by decide) (by decide)⟩
  · show Steps p.tables e below (s₁.setTop (mkF m 0 #[iv (3 : Int32), rv o1, .unset, .unset, .unset, .unset, .unset, .unset, .unset, .unset, .unset, .unset, .unset] [])) _
    refine miconst 1 G0 d7_0 (v := (1 : Int32)) rfl rfl ?_
    refine miloadN 2 G0 d7_1 rfl rfl ?_
    refine mishl 3 G0 d7_2 (v := (8 : Int32)) rfl rfl ?_
    refine mistoreN 4 G0 d7_3 #[iv (3 : Int32), rv o1, iv (8 : Int32), .unset, .unset, .unset, .unset, .unset, .unset, .unset, .unset, .unset, .unset] rfl rfl ?_
    refine miloadN 5 G0 d7_4 rfl rfl ?_
    refine st1 _ ?_
    show Steps p.tables e below (T1.setTop (mkF m 7 #[iv (3 : Int32), rv o1, iv (8 : Int32), .unset, .unset, .unset, .unset, .unset, .unset, .unset, .unset, .unset, .unset] [(.ref b1)])) _
    refine mastoreN 8 G1 d7_7 rfl #[iv (3 : Int32), rv o1, iv (8 : Int32), rv b1, .unset, .unset, .unset, .unset, .unset, .unset, .unset, .unset, .unset] rfl rfl ?_
    refine miloadN 9 G1 d7_8 rfl rfl ?_
    refine st3 _ ?_
    show Steps p.tables e below (T3.setTop (mkF m 11 #[iv (3 : Int32), rv o1, iv (8 : Int32), rv b1, .unset, .unset, .unset, .unset, .unset, .unset, .unset, .unset, .unset] [(.ref b3)])) _
    refine mastore 13 G3 d7_11 rfl #[iv (3 : Int32), rv o1, iv (8 : Int32), rv b1, rv b3, .unset, .unset, .unset, .unset, .unset, .unset, .unset, .unset] rfl rfl ?_
    refine miconst 14 G3 d7_13 (v := (0 : Int32)) rfl rfl ?_
    refine mistore 16 G3 d7_14 #[iv (3 : Int32), rv o1, iv (8 : Int32), rv b1, rv b3, iv (0 : Int32), .unset, .unset, .unset, .unset, .unset, .unset, .unset] rfl rfl ?_
    refine miload 18 G3 d7_16 rfl rfl ?_
    refine miloadN 19 G3 d7_18 rfl rfl ?_
    refine micmpNo 22 G3 d7_19 (tlt (by decide : (0 : Int32) < (8 : Int32))).2.1 rfl ?_
    refine miload 24 G3 d7_22 rfl rfl ?_
    refine st6 _ ?_
    show Steps p.tables e below (T6.setTop (mkF m 27 #[iv (3 : Int32), rv o1, iv (8 : Int32), rv b1, rv b3, iv (0 : Int32), .unset, .unset, .unset, .unset, .unset, .unset, .unset] [(.int (0 : Int32))])) _
    refine miconst 28 G6 d7_27 (v := (2 : Int32)) rfl rfl ?_
    refine micmpNo 31 G6 d7_28 (flt (by decide : ¬ ((2 : Int32) < (0 : Int32)))).2.2.1 rfl ?_
    refine maloadN 32 G6 d7_31 rfl rfl rfl ?_
    refine miload 34 G6 d7_32 rfl rfl ?_
    refine maloadN 35 G6 d7_34 rfl rfl rfl ?_
    refine miload 37 G6 d7_35 rfl rfl ?_
    refine mlaload 38 X6 hx hby hZ e6 f4 (v := c0_) d7_37 ⟨by decide, by decide⟩ rfl rfl ?_
    refine st7 _ ?_
    refine maload 41 G7 d7_39 rfl rfl rfl ?_
    refine miload 43 G7 d7_41 rfl rfl ?_
    refine maloadN 44 G7 d7_43 rfl rfl rfl ?_
    refine miload 46 G7 d7_44 rfl rfl ?_
    refine mlaload 47 X7 hx hby hZ e7 f8 (v := c0_) d7_46 ⟨by decide, by decide⟩ rfl rfl ?_
    refine st18 _ ?_
    refine mgoto 173 G18 d7_48 (by decide) rfl ?_
    refine miinc 176 G18 d7_173 rfl #[iv (3 : Int32), rv o1, iv (8 : Int32), rv b1, rv b3, iv (1 : Int32), .unset, .unset, .unset, .unset, .unset, .unset, .unset] rfl rfl ?_
    refine mgoto 16 G18 d7_176 (by decide) rfl ?_
    refine miload 18 G18 d7_16 rfl rfl ?_
    refine miloadN 19 G18 d7_18 rfl rfl ?_
    refine micmpNo 22 G18 d7_19 (tlt (by decide : (1 : Int32) < (8 : Int32))).2.1 rfl ?_
    refine miload 24 G18 d7_22 rfl rfl ?_
    refine st29 _ ?_
    show Steps p.tables e below (T29.setTop (mkF m 27 #[iv (3 : Int32), rv o1, iv (8 : Int32), rv b1, rv b3, iv (1 : Int32), .unset, .unset, .unset, .unset, .unset, .unset, .unset] [(.int (1 : Int32))])) _
    refine miconst 28 G29 d7_27 (v := (2 : Int32)) rfl rfl ?_
    refine micmpNo 31 G29 d7_28 (flt (by decide : ¬ ((2 : Int32) < (1 : Int32)))).2.2.1 rfl ?_
    refine maloadN 32 G29 d7_31 rfl rfl rfl ?_
    refine miload 34 G29 d7_32 rfl rfl ?_
    refine maloadN 35 G29 d7_34 rfl rfl rfl ?_
    refine miload 37 G29 d7_35 rfl rfl ?_
    refine mlaload 38 X29 hx hby hZ e29 f19 (v := c1_) d7_37 ⟨by decide, by decide⟩ rfl rfl ?_
    refine st30 _ ?_
    refine maload 41 G30 d7_39 rfl rfl rfl ?_
    refine miload 43 G30 d7_41 rfl rfl ?_
    refine maloadN 44 G30 d7_43 rfl rfl rfl ?_
    refine miload 46 G30 d7_44 rfl rfl ?_
    refine mlaload 47 X30 hx hby hZ e30 f31 (v := c1_) d7_46 ⟨by decide, by decide⟩ rfl rfl ?_
    refine st41 _ ?_
    refine mgoto 173 G41 d7_48 (by decide) rfl ?_
    refine miinc 176 G41 d7_173 rfl #[iv (3 : Int32), rv o1, iv (8 : Int32), rv b1, rv b3, iv (2 : Int32), .unset, .unset, .unset, .unset, .unset, .unset, .unset] rfl rfl ?_
    refine mgoto 16 G41 d7_176 (by decide) rfl ?_
    refine miload 18 G41 d7_16 rfl rfl ?_
    refine miloadN 19 G41 d7_18 rfl rfl ?_
    refine micmpNo 22 G41 d7_19 (tlt (by decide : (2 : Int32) < (8 : Int32))).2.1 rfl ?_
    refine miload 24 G41 d7_22 rfl rfl ?_
    refine st52 _ ?_
    show Steps p.tables e below (T52.setTop (mkF m 27 #[iv (3 : Int32), rv o1, iv (8 : Int32), rv b1, rv b3, iv (2 : Int32), .unset, .unset, .unset, .unset, .unset, .unset, .unset] [(.int (1 : Int32))])) _
    refine miconst 28 G52 d7_27 (v := (2 : Int32)) rfl rfl ?_
    refine micmpNo 31 G52 d7_28 (flt (by decide : ¬ ((2 : Int32) < (1 : Int32)))).2.2.1 rfl ?_
    refine maloadN 32 G52 d7_31 rfl rfl rfl ?_
    refine miload 34 G52 d7_32 rfl rfl ?_
    refine maloadN 35 G52 d7_34 rfl rfl rfl ?_
    refine miload 37 G52 d7_35 rfl rfl ?_
    refine mlaload 38 X52 hx hby hZ e52 f42 (v := c2_) d7_37 ⟨by decide, by decide⟩ rfl rfl ?_
    refine st53 _ ?_
    refine maload 41 G53 d7_39 rfl rfl rfl ?_
    refine miload 43 G53 d7_41 rfl rfl ?_
    refine maloadN 44 G53 d7_43 rfl rfl rfl ?_
    refine miload 46 G53 d7_44 rfl rfl ?_
    refine mlaload 47 X53 hx hby hZ e53 f54 (v := c2_) d7_46 ⟨by decide, by decide⟩ rfl rfl ?_
    refine st64 _ ?_
    refine mgoto 173 G64 d7_48 (by decide) rfl ?_
    refine miinc 176 G64 d7_173 rfl #[iv (3 : Int32), rv o1, iv (8 : Int32), rv b1, rv b3, iv (3 : Int32), .unset, .unset, .unset, .unset, .unset, .unset, .unset] rfl rfl ?_
    refine mgoto 16 G64 d7_176 (by decide) rfl ?_
    refine miload 18 G64 d7_16 rfl rfl ?_
    refine miloadN 19 G64 d7_18 rfl rfl ?_
    refine micmpNo 22 G64 d7_19 (tlt (by decide : (3 : Int32) < (8 : Int32))).2.1 rfl ?_
    refine miload 24 G64 d7_22 rfl rfl ?_
    refine st75 _ ?_
    show Steps p.tables e below (T75.setTop (mkF m 27 #[iv (3 : Int32), rv o1, iv (8 : Int32), rv b1, rv b3, iv (3 : Int32), .unset, .unset, .unset, .unset, .unset, .unset, .unset] [(.int (2 : Int32))])) _
    refine miconst 28 G75 d7_27 (v := (2 : Int32)) rfl rfl ?_
    refine micmpNo 31 G75 d7_28 (flt (by decide : ¬ ((2 : Int32) < (2 : Int32)))).2.2.1 rfl ?_
    refine maloadN 32 G75 d7_31 rfl rfl rfl ?_
    refine miload 34 G75 d7_32 rfl rfl ?_
    refine maloadN 35 G75 d7_34 rfl rfl rfl ?_
    refine miload 37 G75 d7_35 rfl rfl ?_
    refine mlaload 38 X75 hx hby hZ e75 f65 (v := c3_) d7_37 ⟨by decide, by decide⟩ rfl rfl ?_
    refine st76 _ ?_
    refine maload 41 G76 d7_39 rfl rfl rfl ?_
    refine miload 43 G76 d7_41 rfl rfl ?_
    refine maloadN 44 G76 d7_43 rfl rfl rfl ?_
    refine miload 46 G76 d7_44 rfl rfl ?_
    refine mlaload 47 X76 hx hby hZ e76 f77 (v := c3_) d7_46 ⟨by decide, by decide⟩ rfl rfl ?_
    refine st87 _ ?_
    refine mgoto 173 G87 d7_48 (by decide) rfl ?_
    refine miinc 176 G87 d7_173 rfl #[iv (3 : Int32), rv o1, iv (8 : Int32), rv b1, rv b3, iv (4 : Int32), .unset, .unset, .unset, .unset, .unset, .unset, .unset] rfl rfl ?_
    refine mgoto 16 G87 d7_176 (by decide) rfl ?_
    refine miload 18 G87 d7_16 rfl rfl ?_
    refine miloadN 19 G87 d7_18 rfl rfl ?_
    refine micmpNo 22 G87 d7_19 (tlt (by decide : (4 : Int32) < (8 : Int32))).2.1 rfl ?_
    refine miload 24 G87 d7_22 rfl rfl ?_
    refine st98 _ ?_
    show Steps p.tables e below (T98.setTop (mkF m 27 #[iv (3 : Int32), rv o1, iv (8 : Int32), rv b1, rv b3, iv (4 : Int32), .unset, .unset, .unset, .unset, .unset, .unset, .unset] [(.int (1 : Int32))])) _
    refine miconst 28 G98 d7_27 (v := (2 : Int32)) rfl rfl ?_
    refine micmpNo 31 G98 d7_28 (flt (by decide : ¬ ((2 : Int32) < (1 : Int32)))).2.2.1 rfl ?_
    refine maloadN 32 G98 d7_31 rfl rfl rfl ?_
    refine miload 34 G98 d7_32 rfl rfl ?_
    refine maloadN 35 G98 d7_34 rfl rfl rfl ?_
    refine miload 37 G98 d7_35 rfl rfl ?_
    refine mlaload 38 X98 hx hby hZ e98 f88 (v := c4_) d7_37 ⟨by decide, by decide⟩ rfl rfl ?_
    refine st99 _ ?_
    refine maload 41 G99 d7_39 rfl rfl rfl ?_
    refine miload 43 G99 d7_41 rfl rfl ?_
    refine maloadN 44 G99 d7_43 rfl rfl rfl ?_
    refine miload 46 G99 d7_44 rfl rfl ?_
    refine mlaload 47 X99 hx hby hZ e99 f100 (v := c4_) d7_46 ⟨by decide, by decide⟩ rfl rfl ?_
    refine st110 _ ?_
    refine mgoto 173 G110 d7_48 (by decide) rfl ?_
    refine miinc 176 G110 d7_173 rfl #[iv (3 : Int32), rv o1, iv (8 : Int32), rv b1, rv b3, iv (5 : Int32), .unset, .unset, .unset, .unset, .unset, .unset, .unset] rfl rfl ?_
    refine mgoto 16 G110 d7_176 (by decide) rfl ?_
    refine miload 18 G110 d7_16 rfl rfl ?_
    refine miloadN 19 G110 d7_18 rfl rfl ?_
    refine micmpNo 22 G110 d7_19 (tlt (by decide : (5 : Int32) < (8 : Int32))).2.1 rfl ?_
    refine miload 24 G110 d7_22 rfl rfl ?_
    refine st121 _ ?_
    show Steps p.tables e below (T121.setTop (mkF m 27 #[iv (3 : Int32), rv o1, iv (8 : Int32), rv b1, rv b3, iv (5 : Int32), .unset, .unset, .unset, .unset, .unset, .unset, .unset] [(.int (2 : Int32))])) _
    refine miconst 28 G121 d7_27 (v := (2 : Int32)) rfl rfl ?_
    refine micmpNo 31 G121 d7_28 (flt (by decide : ¬ ((2 : Int32) < (2 : Int32)))).2.2.1 rfl ?_
    refine maloadN 32 G121 d7_31 rfl rfl rfl ?_
    refine miload 34 G121 d7_32 rfl rfl ?_
    refine maloadN 35 G121 d7_34 rfl rfl rfl ?_
    refine miload 37 G121 d7_35 rfl rfl ?_
    refine mlaload 38 X121 hx hby hZ e121 f111 (v := c5_) d7_37 ⟨by decide, by decide⟩ rfl rfl ?_
    refine st122 _ ?_
    refine maload 41 G122 d7_39 rfl rfl rfl ?_
    refine miload 43 G122 d7_41 rfl rfl ?_
    refine maloadN 44 G122 d7_43 rfl rfl rfl ?_
    refine miload 46 G122 d7_44 rfl rfl ?_
    refine mlaload 47 X122 hx hby hZ e122 f123 (v := c5_) d7_46 ⟨by decide, by decide⟩ rfl rfl ?_
    refine st133 _ ?_
    refine mgoto 173 G133 d7_48 (by decide) rfl ?_
    refine miinc 176 G133 d7_173 rfl #[iv (3 : Int32), rv o1, iv (8 : Int32), rv b1, rv b3, iv (6 : Int32), .unset, .unset, .unset, .unset, .unset, .unset, .unset] rfl rfl ?_
    refine mgoto 16 G133 d7_176 (by decide) rfl ?_
    refine miload 18 G133 d7_16 rfl rfl ?_
    refine miloadN 19 G133 d7_18 rfl rfl ?_
    refine micmpNo 22 G133 d7_19 (tlt (by decide : (6 : Int32) < (8 : Int32))).2.1 rfl ?_
    refine miload 24 G133 d7_22 rfl rfl ?_
    refine st144 _ ?_
    show Steps p.tables e below (T144.setTop (mkF m 27 #[iv (3 : Int32), rv o1, iv (8 : Int32), rv b1, rv b3, iv (6 : Int32), .unset, .unset, .unset, .unset, .unset, .unset, .unset] [(.int (2 : Int32))])) _
    refine miconst 28 G144 d7_27 (v := (2 : Int32)) rfl rfl ?_
    refine micmpNo 31 G144 d7_28 (flt (by decide : ¬ ((2 : Int32) < (2 : Int32)))).2.2.1 rfl ?_
    refine maloadN 32 G144 d7_31 rfl rfl rfl ?_
    refine miload 34 G144 d7_32 rfl rfl ?_
    refine maloadN 35 G144 d7_34 rfl rfl rfl ?_
    refine miload 37 G144 d7_35 rfl rfl ?_
    refine mlaload 38 X144 hx hby hZ e144 f134 (v := c6_) d7_37 ⟨by decide, by decide⟩ rfl rfl ?_
    refine st145 _ ?_
    refine maload 41 G145 d7_39 rfl rfl rfl ?_
    refine miload 43 G145 d7_41 rfl rfl ?_
    refine maloadN 44 G145 d7_43 rfl rfl rfl ?_
    refine miload 46 G145 d7_44 rfl rfl ?_
    refine mlaload 47 X145 hx hby hZ e145 f146 (v := c6_) d7_46 ⟨by decide, by decide⟩ rfl rfl ?_
    refine st156 _ ?_
    refine mgoto 173 G156 d7_48 (by decide) rfl ?_
    refine miinc 176 G156 d7_173 rfl #[iv (3 : Int32), rv o1, iv (8 : Int32), rv b1, rv b3, iv (7 : Int32), .unset, .unset, .unset, .unset, .unset, .unset, .unset] rfl rfl ?_
    refine mgoto 16 G156 d7_176 (by decide) rfl ?_
    refine miload 18 G156 d7_16 rfl rfl ?_
    refine miloadN 19 G156 d7_18 rfl rfl ?_
    refine micmpNo 22 G156 d7_19 (tlt (by decide : (7 : Int32) < (8 : Int32))).2.1 rfl ?_
    refine miload 24 G156 d7_22 rfl rfl ?_
    refine st167 _ ?_
    show Steps p.tables e below (T167.setTop (mkF m 27 #[iv (3 : Int32), rv o1, iv (8 : Int32), rv b1, rv b3, iv (7 : Int32), .unset, .unset, .unset, .unset, .unset, .unset, .unset] [(.int (3 : Int32))])) _
    refine miconst 28 G167 d7_27 (v := (2 : Int32)) rfl rfl ?_
    refine micmpYes 51 G167 d7_28 (tlt (by decide : (2 : Int32) < (3 : Int32))).2.2.1 (by decide) rfl ?_
    refine mlconst 52 G167 d7_51 (v := (0 : Int64)) rfl rfl ?_
    refine mlstore 54 G167 d7_52 #[iv (3 : Int32), rv o1, iv (8 : Int32), rv b1, rv b3, iv (7 : Int32), lv (0 : Int64), .second, .unset, .unset, .unset, .unset, .unset] rfl rfl ?_
    refine X167.ldc2Long hx hown (mvT hZ (wd hw 43 rfl)) (g := (mkF m 54 #[iv (3 : Int32), rv o1, iv (8 : Int32), rv b1, rv b3, iv (7 : Int32), lv (0 : Int64), .second, .unset, .unset, .unset, .unset, .unset] [])) rfl (hb hby d7_54) _ ?_
    show Steps p.tables e below (T167.setTop (mkF m 57 #[iv (3 : Int32), rv o1, iv (8 : Int32), rv b1, rv b3, iv (7 : Int32), lv (0 : Int64), .second, .unset, .unset, .unset, .unset, .unset] [(.long (9223372036854775807 : Int64))])) _
    refine mlstore 59 G167 d7_57 #[iv (3 : Int32), rv o1, iv (8 : Int32), rv b1, rv b3, iv (7 : Int32), lv (0 : Int64), .second, lv (9223372036854775807 : Int64), .second, .unset, .unset, .unset] rfl rfl ?_
    refine miload 61 G167 d7_59 rfl rfl ?_
    refine miload 63 G167 d7_61 rfl rfl ?_
    refine miconst 64 G167 d7_63 (v := (1 : Int32)) rfl rfl ?_
    refine misub 65 G167 d7_64 (v := (6 : Int32)) rfl rfl ?_
    refine miand 66 G167 d7_65 (v := (6 : Int32)) rfl rfl ?_
    refine mistore 68 G167 d7_66 #[iv (3 : Int32), rv o1, iv (8 : Int32), rv b1, rv b3, iv (7 : Int32), lv (0 : Int64), .second, lv (9223372036854775807 : Int64), .second, iv (6 : Int32), .unset, .unset] rfl rfl ?_
    refine miload 70 G167 d7_68 rfl rfl ?_
    refine miload 72 G167 d7_70 rfl rfl ?_
    refine maloadN 73 G167 d7_72 rfl rfl rfl ?_
    refine maload 75 G167 d7_73 rfl rfl rfl ?_
    refine st168 _ ?_
    show Steps p.tables e below (T168.setTop (mkF m 78 #[iv (3 : Int32), rv o1, iv (8 : Int32), rv b1, rv b3, iv (7 : Int32), lv (0 : Int64), .second, lv (9223372036854775807 : Int64), .second, iv (6 : Int32), .unset, .unset] [(.long (rv9_6 c6_))])) _
    refine mlstore 80 G168 d7_78 #[iv (3 : Int32), rv o1, iv (8 : Int32), rv b1, rv b3, iv (7 : Int32), lv (0 : Int64), .second, lv (9223372036854775807 : Int64), .second, iv (6 : Int32), lv (rv9_6 c6_), .second] rfl rfl ?_
    refine miload 82 G168 d7_80 rfl rfl ?_
    refine miload 84 G168 d7_82 rfl rfl ?_
    refine miconst 85 G168 d7_84 (v := (-1 : Int32)) rfl rfl ?_
    refine mixor 86 G168 d7_85 (v := (-7 : Int32)) rfl rfl ?_
    refine miand 87 G168 d7_86 (v := (1 : Int32)) rfl rfl ?_
    refine st169 _ ?_
    show Steps p.tables e below (T169.setTop (mkF m 90 #[iv (3 : Int32), rv o1, iv (8 : Int32), rv b1, rv b3, iv (7 : Int32), lv (0 : Int64), .second, lv (9223372036854775807 : Int64), .second, iv (6 : Int32), lv (rv9_6 c6_), .second] [(.int (1 : Int32))])) _
    refine miconst 91 G169 d7_90 (v := (2 : Int32)) rfl rfl ?_
    refine mirem 92 G169 d7_91 (by decide) (v := (1 : Int32)) rfl rfl ?_
    refine mifYes 108 G169 d7_92 ((if0 _ _).trans (feq (by decide : ¬ ((1 : Int32) = (0 : Int32)))).2) (by decide) rfl ?_
    refine mlload 110 G169 d7_108 rfl rfl ?_
    refine mlload 112 G169 d7_110 rfl rfl ?_
    refine st170 _ ?_
    show Steps p.tables e below (T170.setTop (mkF m 115 #[iv (3 : Int32), rv o1, iv (8 : Int32), rv b1, rv b3, iv (7 : Int32), lv (0 : Int64), .second, lv (9223372036854775807 : Int64), .second, iv (6 : Int32), lv (rv9_6 c6_), .second] [(.long (rv2 (9223372036854775807 : Int64) (rv9_6 c6_)))])) _
    refine mlstore 117 G170 d7_115 #[iv (3 : Int32), rv o1, iv (8 : Int32), rv b1, rv b3, iv (7 : Int32), lv (0 : Int64), .second, lv (rv2 (9223372036854775807 : Int64) (rv9_6 c6_)), .second, iv (6 : Int32), lv (rv9_6 c6_), .second] rfl rfl ?_
    refine mgoto 122 G170 d7_117 (by decide) rfl ?_
    refine miload 124 G170 d7_122 rfl rfl ?_
    refine mifYes 130 G170 d7_124 ((if0 _ _).trans (feq (by decide : ¬ ((6 : Int32) = (0 : Int32)))).2) (by decide) rfl ?_
    refine miload 132 G170 d7_130 rfl rfl ?_
    refine miconst 133 G170 d7_132 (v := (1 : Int32)) rfl rfl ?_
    refine misub 134 G170 d7_133 (v := (5 : Int32)) rfl rfl ?_
    refine miload 136 G170 d7_134 rfl rfl ?_
    refine miand 137 G170 d7_136 (v := (5 : Int32)) rfl rfl ?_
    refine mistore 139 G170 d7_137 #[iv (3 : Int32), rv o1, iv (8 : Int32), rv b1, rv b3, iv (7 : Int32), lv (0 : Int64), .second, lv (rv2 (9223372036854775807 : Int64) (rv9_6 c6_)), .second, iv (5 : Int32), lv (rv9_6 c6_), .second] rfl rfl ?_
    refine mgoto 68 G170 d7_139 (by decide) rfl ?_
    refine miload 70 G170 d7_68 rfl rfl ?_
    refine miload 72 G170 d7_70 rfl rfl ?_
    refine maloadN 73 G170 d7_72 rfl rfl rfl ?_
    refine maload 75 G170 d7_73 rfl rfl rfl ?_
    refine st171 _ ?_
    show Steps p.tables e below (T171.setTop (mkF m 78 #[iv (3 : Int32), rv o1, iv (8 : Int32), rv b1, rv b3, iv (7 : Int32), lv (0 : Int64), .second, lv (rv2 (9223372036854775807 : Int64) (rv9_6 c6_)), .second, iv (5 : Int32), lv (rv9_6 c6_), .second] [(.long (rv9_5 c5_))])) _
    refine mlstore 80 G171 d7_78 #[iv (3 : Int32), rv o1, iv (8 : Int32), rv b1, rv b3, iv (7 : Int32), lv (0 : Int64), .second, lv (rv2 (9223372036854775807 : Int64) (rv9_6 c6_)), .second, iv (5 : Int32), lv (rv9_5 c5_), .second] rfl rfl ?_
    refine miload 82 G171 d7_80 rfl rfl ?_
    refine miload 84 G171 d7_82 rfl rfl ?_
    refine miconst 85 G171 d7_84 (v := (-1 : Int32)) rfl rfl ?_
    refine mixor 86 G171 d7_85 (v := (-6 : Int32)) rfl rfl ?_
    refine miand 87 G171 d7_86 (v := (2 : Int32)) rfl rfl ?_
    refine st172 _ ?_
    show Steps p.tables e below (T172.setTop (mkF m 90 #[iv (3 : Int32), rv o1, iv (8 : Int32), rv b1, rv b3, iv (7 : Int32), lv (0 : Int64), .second, lv (rv2 (9223372036854775807 : Int64) (rv9_6 c6_)), .second, iv (5 : Int32), lv (rv9_5 c5_), .second] [(.int (1 : Int32))])) _
    refine miconst 91 G172 d7_90 (v := (2 : Int32)) rfl rfl ?_
    refine mirem 92 G172 d7_91 (by decide) (v := (1 : Int32)) rfl rfl ?_
    refine mifYes 108 G172 d7_92 ((if0 _ _).trans (feq (by decide : ¬ ((1 : Int32) = (0 : Int32)))).2) (by decide) rfl ?_
    refine mlload 110 G172 d7_108 rfl rfl ?_
    refine mlload 112 G172 d7_110 rfl rfl ?_
    refine st173 _ ?_
    show Steps p.tables e below (T173.setTop (mkF m 115 #[iv (3 : Int32), rv o1, iv (8 : Int32), rv b1, rv b3, iv (7 : Int32), lv (0 : Int64), .second, lv (rv2 (9223372036854775807 : Int64) (rv9_6 c6_)), .second, iv (5 : Int32), lv (rv9_5 c5_), .second] [(.long (rv2 (rv2 (9223372036854775807 : Int64) (rv9_6 c6_)) (rv9_5 c5_)))])) _
    refine mlstore 117 G173 d7_115 #[iv (3 : Int32), rv o1, iv (8 : Int32), rv b1, rv b3, iv (7 : Int32), lv (0 : Int64), .second, lv (rv2 (rv2 (9223372036854775807 : Int64) (rv9_6 c6_)) (rv9_5 c5_)), .second, iv (5 : Int32), lv (rv9_5 c5_), .second] rfl rfl ?_
    refine mgoto 122 G173 d7_117 (by decide) rfl ?_
    refine miload 124 G173 d7_122 rfl rfl ?_
    refine mifYes 130 G173 d7_124 ((if0 _ _).trans (feq (by decide : ¬ ((5 : Int32) = (0 : Int32)))).2) (by decide) rfl ?_
    refine miload 132 G173 d7_130 rfl rfl ?_
    refine miconst 133 G173 d7_132 (v := (1 : Int32)) rfl rfl ?_
    refine misub 134 G173 d7_133 (v := (4 : Int32)) rfl rfl ?_
    refine miload 136 G173 d7_134 rfl rfl ?_
    refine miand 137 G173 d7_136 (v := (4 : Int32)) rfl rfl ?_
    refine mistore 139 G173 d7_137 #[iv (3 : Int32), rv o1, iv (8 : Int32), rv b1, rv b3, iv (7 : Int32), lv (0 : Int64), .second, lv (rv2 (rv2 (9223372036854775807 : Int64) (rv9_6 c6_)) (rv9_5 c5_)), .second, iv (4 : Int32), lv (rv9_5 c5_), .second] rfl rfl ?_
    refine mgoto 68 G173 d7_139 (by decide) rfl ?_
    refine miload 70 G173 d7_68 rfl rfl ?_
    refine miload 72 G173 d7_70 rfl rfl ?_
    refine maloadN 73 G173 d7_72 rfl rfl rfl ?_
    refine maload 75 G173 d7_73 rfl rfl rfl ?_
    refine st174 _ ?_
    show Steps p.tables e below (T174.setTop (mkF m 78 #[iv (3 : Int32), rv o1, iv (8 : Int32), rv b1, rv b3, iv (7 : Int32), lv (0 : Int64), .second, lv (rv2 (rv2 (9223372036854775807 : Int64) (rv9_6 c6_)) (rv9_5 c5_)), .second, iv (4 : Int32), lv (rv9_5 c5_), .second] [(.long (rv9_4 c5_ c6_ c4_))])) _
    refine mlstore 80 G174 d7_78 #[iv (3 : Int32), rv o1, iv (8 : Int32), rv b1, rv b3, iv (7 : Int32), lv (0 : Int64), .second, lv (rv2 (rv2 (9223372036854775807 : Int64) (rv9_6 c6_)) (rv9_5 c5_)), .second, iv (4 : Int32), lv (rv9_4 c5_ c6_ c4_), .second] rfl rfl ?_
    refine miload 82 G174 d7_80 rfl rfl ?_
    refine miload 84 G174 d7_82 rfl rfl ?_
    refine miconst 85 G174 d7_84 (v := (-1 : Int32)) rfl rfl ?_
    refine mixor 86 G174 d7_85 (v := (-5 : Int32)) rfl rfl ?_
    refine miand 87 G174 d7_86 (v := (3 : Int32)) rfl rfl ?_
    refine st175 _ ?_
    show Steps p.tables e below (T175.setTop (mkF m 90 #[iv (3 : Int32), rv o1, iv (8 : Int32), rv b1, rv b3, iv (7 : Int32), lv (0 : Int64), .second, lv (rv2 (rv2 (9223372036854775807 : Int64) (rv9_6 c6_)) (rv9_5 c5_)), .second, iv (4 : Int32), lv (rv9_4 c5_ c6_ c4_), .second] [(.int (2 : Int32))])) _
    refine miconst 91 G175 d7_90 (v := (2 : Int32)) rfl rfl ?_
    refine mirem 92 G175 d7_91 (by decide) (v := (0 : Int32)) rfl rfl ?_
    refine mifNo 95 G175 d7_92 ((if0 _ _).trans (teq (by decide : (0 : Int32) = (0 : Int32))).2) rfl ?_
    refine mlload 97 G175 d7_95 rfl rfl ?_
    refine mlload 99 G175 d7_97 rfl rfl ?_
    refine mlneg 100 G175 d7_99 rfl ?_
    refine st176 _ ?_
    show Steps p.tables e below (T176.setTop (mkF m 103 #[iv (3 : Int32), rv o1, iv (8 : Int32), rv b1, rv b3, iv (7 : Int32), lv (0 : Int64), .second, lv (rv2 (rv2 (9223372036854775807 : Int64) (rv9_6 c6_)) (rv9_5 c5_)), .second, iv (4 : Int32), lv (rv9_4 c5_ c6_ c4_), .second] [(.long (rv12 (0 : Int64) (-(rv9_4 c5_ c6_ c4_))))])) _
    refine mlstore 105 G176 d7_103 #[iv (3 : Int32), rv o1, iv (8 : Int32), rv b1, rv b3, iv (7 : Int32), lv (rv12 (0 : Int64) (-(rv9_4 c5_ c6_ c4_))), .second, lv (rv2 (rv2 (9223372036854775807 : Int64) (rv9_6 c6_)) (rv9_5 c5_)), .second, iv (4 : Int32), lv (rv9_4 c5_ c6_ c4_), .second] rfl rfl ?_
    refine mgoto 117 G176 d7_105 (by decide) rfl ?_
    refine mgoto 122 G176 d7_117 (by decide) rfl ?_
    refine miload 124 G176 d7_122 rfl rfl ?_
    refine mifYes 130 G176 d7_124 ((if0 _ _).trans (feq (by decide : ¬ ((4 : Int32) = (0 : Int32)))).2) (by decide) rfl ?_
    refine miload 132 G176 d7_130 rfl rfl ?_
    refine miconst 133 G176 d7_132 (v := (1 : Int32)) rfl rfl ?_
    refine misub 134 G176 d7_133 (v := (3 : Int32)) rfl rfl ?_
    refine miload 136 G176 d7_134 rfl rfl ?_
    refine miand 137 G176 d7_136 (v := (3 : Int32)) rfl rfl ?_
    refine mistore 139 G176 d7_137 #[iv (3 : Int32), rv o1, iv (8 : Int32), rv b1, rv b3, iv (7 : Int32), lv (rv12 (0 : Int64) (-(rv9_4 c5_ c6_ c4_))), .second, lv (rv2 (rv2 (9223372036854775807 : Int64) (rv9_6 c6_)) (rv9_5 c5_)), .second, iv (3 : Int32), lv (rv9_4 c5_ c6_ c4_), .second] rfl rfl ?_
    refine mgoto 68 G176 d7_139 (by decide) rfl ?_
    refine miload 70 G176 d7_68 rfl rfl ?_
    refine miload 72 G176 d7_70 rfl rfl ?_
    refine maloadN 73 G176 d7_72 rfl rfl rfl ?_
    refine maload 75 G176 d7_73 rfl rfl rfl ?_
    refine st177 _ ?_
    show Steps p.tables e below (T177.setTop (mkF m 78 #[iv (3 : Int32), rv o1, iv (8 : Int32), rv b1, rv b3, iv (7 : Int32), lv (rv12 (0 : Int64) (-(rv9_4 c5_ c6_ c4_))), .second, lv (rv2 (rv2 (9223372036854775807 : Int64) (rv9_6 c6_)) (rv9_5 c5_)), .second, iv (3 : Int32), lv (rv9_4 c5_ c6_ c4_), .second] [(.long (rv9_3 c3_))])) _
    refine mlstore 80 G177 d7_78 #[iv (3 : Int32), rv o1, iv (8 : Int32), rv b1, rv b3, iv (7 : Int32), lv (rv12 (0 : Int64) (-(rv9_4 c5_ c6_ c4_))), .second, lv (rv2 (rv2 (9223372036854775807 : Int64) (rv9_6 c6_)) (rv9_5 c5_)), .second, iv (3 : Int32), lv (rv9_3 c3_), .second] rfl rfl ?_
    refine miload 82 G177 d7_80 rfl rfl ?_
    refine miload 84 G177 d7_82 rfl rfl ?_
    refine miconst 85 G177 d7_84 (v := (-1 : Int32)) rfl rfl ?_
    refine mixor 86 G177 d7_85 (v := (-4 : Int32)) rfl rfl ?_
    refine miand 87 G177 d7_86 (v := (4 : Int32)) rfl rfl ?_
    refine st178 _ ?_
    show Steps p.tables e below (T178.setTop (mkF m 90 #[iv (3 : Int32), rv o1, iv (8 : Int32), rv b1, rv b3, iv (7 : Int32), lv (rv12 (0 : Int64) (-(rv9_4 c5_ c6_ c4_))), .second, lv (rv2 (rv2 (9223372036854775807 : Int64) (rv9_6 c6_)) (rv9_5 c5_)), .second, iv (3 : Int32), lv (rv9_3 c3_), .second] [(.int (1 : Int32))])) _
    refine miconst 91 G178 d7_90 (v := (2 : Int32)) rfl rfl ?_
    refine mirem 92 G178 d7_91 (by decide) (v := (1 : Int32)) rfl rfl ?_
    refine mifYes 108 G178 d7_92 ((if0 _ _).trans (feq (by decide : ¬ ((1 : Int32) = (0 : Int32)))).2) (by decide) rfl ?_
    refine mlload 110 G178 d7_108 rfl rfl ?_
    refine mlload 112 G178 d7_110 rfl rfl ?_
    refine st179 _ ?_
    show Steps p.tables e below (T179.setTop (mkF m 115 #[iv (3 : Int32), rv o1, iv (8 : Int32), rv b1, rv b3, iv (7 : Int32), lv (rv12 (0 : Int64) (-(rv9_4 c5_ c6_ c4_))), .second, lv (rv2 (rv2 (9223372036854775807 : Int64) (rv9_6 c6_)) (rv9_5 c5_)), .second, iv (3 : Int32), lv (rv9_3 c3_), .second] [(.long (rv2 (rv2 (rv2 (9223372036854775807 : Int64) (rv9_6 c6_)) (rv9_5 c5_)) (rv9_3 c3_)))])) _
    refine mlstore 117 G179 d7_115 #[iv (3 : Int32), rv o1, iv (8 : Int32), rv b1, rv b3, iv (7 : Int32), lv (rv12 (0 : Int64) (-(rv9_4 c5_ c6_ c4_))), .second, lv (rv2 (rv2 (rv2 (9223372036854775807 : Int64) (rv9_6 c6_)) (rv9_5 c5_)) (rv9_3 c3_)), .second, iv (3 : Int32), lv (rv9_3 c3_), .second] rfl rfl ?_
    refine mgoto 122 G179 d7_117 (by decide) rfl ?_
    refine miload 124 G179 d7_122 rfl rfl ?_
    refine mifYes 130 G179 d7_124 ((if0 _ _).trans (feq (by decide : ¬ ((3 : Int32) = (0 : Int32)))).2) (by decide) rfl ?_
    refine miload 132 G179 d7_130 rfl rfl ?_
    refine miconst 133 G179 d7_132 (v := (1 : Int32)) rfl rfl ?_
    refine misub 134 G179 d7_133 (v := (2 : Int32)) rfl rfl ?_
    refine miload 136 G179 d7_134 rfl rfl ?_
    refine miand 137 G179 d7_136 (v := (2 : Int32)) rfl rfl ?_
    refine mistore 139 G179 d7_137 #[iv (3 : Int32), rv o1, iv (8 : Int32), rv b1, rv b3, iv (7 : Int32), lv (rv12 (0 : Int64) (-(rv9_4 c5_ c6_ c4_))), .second, lv (rv2 (rv2 (rv2 (9223372036854775807 : Int64) (rv9_6 c6_)) (rv9_5 c5_)) (rv9_3 c3_)), .second, iv (2 : Int32), lv (rv9_3 c3_), .second] rfl rfl ?_
    refine mgoto 68 G179 d7_139 (by decide) rfl ?_
    refine miload 70 G179 d7_68 rfl rfl ?_
    refine miload 72 G179 d7_70 rfl rfl ?_
    refine maloadN 73 G179 d7_72 rfl rfl rfl ?_
    refine maload 75 G179 d7_73 rfl rfl rfl ?_
    refine st180 _ ?_
    show Steps p.tables e below (T180.setTop (mkF m 78 #[iv (3 : Int32), rv o1, iv (8 : Int32), rv b1, rv b3, iv (7 : Int32), lv (rv12 (0 : Int64) (-(rv9_4 c5_ c6_ c4_))), .second, lv (rv2 (rv2 (rv2 (9223372036854775807 : Int64) (rv9_6 c6_)) (rv9_5 c5_)) (rv9_3 c3_)), .second, iv (2 : Int32), lv (rv9_3 c3_), .second] [(.long (rv9_2 c3_ c6_ c2_))])) _
    refine mlstore 80 G180 d7_78 #[iv (3 : Int32), rv o1, iv (8 : Int32), rv b1, rv b3, iv (7 : Int32), lv (rv12 (0 : Int64) (-(rv9_4 c5_ c6_ c4_))), .second, lv (rv2 (rv2 (rv2 (9223372036854775807 : Int64) (rv9_6 c6_)) (rv9_5 c5_)) (rv9_3 c3_)), .second, iv (2 : Int32), lv (rv9_2 c3_ c6_ c2_), .second] rfl rfl ?_
    refine miload 82 G180 d7_80 rfl rfl ?_
    refine miload 84 G180 d7_82 rfl rfl ?_
    refine miconst 85 G180 d7_84 (v := (-1 : Int32)) rfl rfl ?_
    refine mixor 86 G180 d7_85 (v := (-3 : Int32)) rfl rfl ?_
    refine miand 87 G180 d7_86 (v := (5 : Int32)) rfl rfl ?_
    refine st181 _ ?_
    show Steps p.tables e below (T181.setTop (mkF m 90 #[iv (3 : Int32), rv o1, iv (8 : Int32), rv b1, rv b3, iv (7 : Int32), lv (rv12 (0 : Int64) (-(rv9_4 c5_ c6_ c4_))), .second, lv (rv2 (rv2 (rv2 (9223372036854775807 : Int64) (rv9_6 c6_)) (rv9_5 c5_)) (rv9_3 c3_)), .second, iv (2 : Int32), lv (rv9_2 c3_ c6_ c2_), .second] [(.int (2 : Int32))])) _
    refine miconst 91 G181 d7_90 (v := (2 : Int32)) rfl rfl ?_
    refine mirem 92 G181 d7_91 (by decide) (v := (0 : Int32)) rfl rfl ?_
    refine mifNo 95 G181 d7_92 ((if0 _ _).trans (teq (by decide : (0 : Int32) = (0 : Int32))).2) rfl ?_
    refine mlload 97 G181 d7_95 rfl rfl ?_
    refine mlload 99 G181 d7_97 rfl rfl ?_
    refine mlneg 100 G181 d7_99 rfl ?_
    refine st182 _ ?_
    show Steps p.tables e below (T182.setTop (mkF m 103 #[iv (3 : Int32), rv o1, iv (8 : Int32), rv b1, rv b3, iv (7 : Int32), lv (rv12 (0 : Int64) (-(rv9_4 c5_ c6_ c4_))), .second, lv (rv2 (rv2 (rv2 (9223372036854775807 : Int64) (rv9_6 c6_)) (rv9_5 c5_)) (rv9_3 c3_)), .second, iv (2 : Int32), lv (rv9_2 c3_ c6_ c2_), .second] [(.long (rv12 (rv12 (0 : Int64) (-(rv9_4 c5_ c6_ c4_))) (-(rv9_2 c3_ c6_ c2_))))])) _
    refine mlstore 105 G182 d7_103 #[iv (3 : Int32), rv o1, iv (8 : Int32), rv b1, rv b3, iv (7 : Int32), lv (rv12 (rv12 (0 : Int64) (-(rv9_4 c5_ c6_ c4_))) (-(rv9_2 c3_ c6_ c2_))), .second, lv (rv2 (rv2 (rv2 (9223372036854775807 : Int64) (rv9_6 c6_)) (rv9_5 c5_)) (rv9_3 c3_)), .second, iv (2 : Int32), lv (rv9_2 c3_ c6_ c2_), .second] rfl rfl ?_
    refine mgoto 117 G182 d7_105 (by decide) rfl ?_
    refine mgoto 122 G182 d7_117 (by decide) rfl ?_
    refine miload 124 G182 d7_122 rfl rfl ?_
    refine mifYes 130 G182 d7_124 ((if0 _ _).trans (feq (by decide : ¬ ((2 : Int32) = (0 : Int32)))).2) (by decide) rfl ?_
    refine miload 132 G182 d7_130 rfl rfl ?_
    refine miconst 133 G182 d7_132 (v := (1 : Int32)) rfl rfl ?_
    refine misub 134 G182 d7_133 (v := (1 : Int32)) rfl rfl ?_
    refine miload 136 G182 d7_134 rfl rfl ?_
    refine miand 137 G182 d7_136 (v := (1 : Int32)) rfl rfl ?_
    refine mistore 139 G182 d7_137 #[iv (3 : Int32), rv o1, iv (8 : Int32), rv b1, rv b3, iv (7 : Int32), lv (rv12 (rv12 (0 : Int64) (-(rv9_4 c5_ c6_ c4_))) (-(rv9_2 c3_ c6_ c2_))), .second, lv (rv2 (rv2 (rv2 (9223372036854775807 : Int64) (rv9_6 c6_)) (rv9_5 c5_)) (rv9_3 c3_)), .second, iv (1 : Int32), lv (rv9_2 c3_ c6_ c2_), .second] rfl rfl ?_
    refine mgoto 68 G182 d7_139 (by decide) rfl ?_
    refine miload 70 G182 d7_68 rfl rfl ?_
    refine miload 72 G182 d7_70 rfl rfl ?_
    refine maloadN 73 G182 d7_72 rfl rfl rfl ?_
    refine maload 75 G182 d7_73 rfl rfl rfl ?_
    refine st183 _ ?_
    show Steps p.tables e below (T183.setTop (mkF m 78 #[iv (3 : Int32), rv o1, iv (8 : Int32), rv b1, rv b3, iv (7 : Int32), lv (rv12 (rv12 (0 : Int64) (-(rv9_4 c5_ c6_ c4_))) (-(rv9_2 c3_ c6_ c2_))), .second, lv (rv2 (rv2 (rv2 (9223372036854775807 : Int64) (rv9_6 c6_)) (rv9_5 c5_)) (rv9_3 c3_)), .second, iv (1 : Int32), lv (rv9_2 c3_ c6_ c2_), .second] [(.long (rv9_1 c3_ c5_ c1_))])) _
    refine mlstore 80 G183 d7_78 #[iv (3 : Int32), rv o1, iv (8 : Int32), rv b1, rv b3, iv (7 : Int32), lv (rv12 (rv12 (0 : Int64) (-(rv9_4 c5_ c6_ c4_))) (-(rv9_2 c3_ c6_ c2_))), .second, lv (rv2 (rv2 (rv2 (9223372036854775807 : Int64) (rv9_6 c6_)) (rv9_5 c5_)) (rv9_3 c3_)), .second, iv (1 : Int32), lv (rv9_1 c3_ c5_ c1_), .second] rfl rfl ?_
    refine miload 82 G183 d7_80 rfl rfl ?_
    refine miload 84 G183 d7_82 rfl rfl ?_
    refine miconst 85 G183 d7_84 (v := (-1 : Int32)) rfl rfl ?_
    refine mixor 86 G183 d7_85 (v := (-2 : Int32)) rfl rfl ?_
    refine miand 87 G183 d7_86 (v := (6 : Int32)) rfl rfl ?_
    refine st184 _ ?_
    show Steps p.tables e below (T184.setTop (mkF m 90 #[iv (3 : Int32), rv o1, iv (8 : Int32), rv b1, rv b3, iv (7 : Int32), lv (rv12 (rv12 (0 : Int64) (-(rv9_4 c5_ c6_ c4_))) (-(rv9_2 c3_ c6_ c2_))), .second, lv (rv2 (rv2 (rv2 (9223372036854775807 : Int64) (rv9_6 c6_)) (rv9_5 c5_)) (rv9_3 c3_)), .second, iv (1 : Int32), lv (rv9_1 c3_ c5_ c1_), .second] [(.int (2 : Int32))])) _
    refine miconst 91 G184 d7_90 (v := (2 : Int32)) rfl rfl ?_
    refine mirem 92 G184 d7_91 (by decide) (v := (0 : Int32)) rfl rfl ?_
    refine mifNo 95 G184 d7_92 ((if0 _ _).trans (teq (by decide : (0 : Int32) = (0 : Int32))).2) rfl ?_
    refine mlload 97 G184 d7_95 rfl rfl ?_
    refine mlload 99 G184 d7_97 rfl rfl ?_
    refine mlneg 100 G184 d7_99 rfl ?_
    refine st185 _ ?_
    show Steps p.tables e below (T185.setTop (mkF m 103 #[iv (3 : Int32), rv o1, iv (8 : Int32), rv b1, rv b3, iv (7 : Int32), lv (rv12 (rv12 (0 : Int64) (-(rv9_4 c5_ c6_ c4_))) (-(rv9_2 c3_ c6_ c2_))), .second, lv (rv2 (rv2 (rv2 (9223372036854775807 : Int64) (rv9_6 c6_)) (rv9_5 c5_)) (rv9_3 c3_)), .second, iv (1 : Int32), lv (rv9_1 c3_ c5_ c1_), .second] [(.long (rv12 (rv12 (rv12 (0 : Int64) (-(rv9_4 c5_ c6_ c4_))) (-(rv9_2 c3_ c6_ c2_))) (-(rv9_1 c3_ c5_ c1_))))])) _
    refine mlstore 105 G185 d7_103 #[iv (3 : Int32), rv o1, iv (8 : Int32), rv b1, rv b3, iv (7 : Int32), lv (rv12 (rv12 (rv12 (0 : Int64) (-(rv9_4 c5_ c6_ c4_))) (-(rv9_2 c3_ c6_ c2_))) (-(rv9_1 c3_ c5_ c1_))), .second, lv (rv2 (rv2 (rv2 (9223372036854775807 : Int64) (rv9_6 c6_)) (rv9_5 c5_)) (rv9_3 c3_)), .second, iv (1 : Int32), lv (rv9_1 c3_ c5_ c1_), .second] rfl rfl ?_
    refine mgoto 117 G185 d7_105 (by decide) rfl ?_
    refine mgoto 122 G185 d7_117 (by decide) rfl ?_
    refine miload 124 G185 d7_122 rfl rfl ?_
    refine mifYes 130 G185 d7_124 ((if0 _ _).trans (feq (by decide : ¬ ((1 : Int32) = (0 : Int32)))).2) (by decide) rfl ?_
    refine miload 132 G185 d7_130 rfl rfl ?_
    refine miconst 133 G185 d7_132 (v := (1 : Int32)) rfl rfl ?_
    refine misub 134 G185 d7_133 (v := (0 : Int32)) rfl rfl ?_
    refine miload 136 G185 d7_134 rfl rfl ?_
    refine miand 137 G185 d7_136 (v := (0 : Int32)) rfl rfl ?_
    refine mistore 139 G185 d7_137 #[iv (3 : Int32), rv o1, iv (8 : Int32), rv b1, rv b3, iv (7 : Int32), lv (rv12 (rv12 (rv12 (0 : Int64) (-(rv9_4 c5_ c6_ c4_))) (-(rv9_2 c3_ c6_ c2_))) (-(rv9_1 c3_ c5_ c1_))), .second, lv (rv2 (rv2 (rv2 (9223372036854775807 : Int64) (rv9_6 c6_)) (rv9_5 c5_)) (rv9_3 c3_)), .second, iv (0 : Int32), lv (rv9_1 c3_ c5_ c1_), .second] rfl rfl ?_
    refine mgoto 68 G185 d7_139 (by decide) rfl ?_
    refine miload 70 G185 d7_68 rfl rfl ?_
    refine miload 72 G185 d7_70 rfl rfl ?_
    refine maloadN 73 G185 d7_72 rfl rfl rfl ?_
    refine maload 75 G185 d7_73 rfl rfl rfl ?_
    refine st186 _ ?_
    show Steps p.tables e below (T186.setTop (mkF m 78 #[iv (3 : Int32), rv o1, iv (8 : Int32), rv b1, rv b3, iv (7 : Int32), lv (rv12 (rv12 (rv12 (0 : Int64) (-(rv9_4 c5_ c6_ c4_))) (-(rv9_2 c3_ c6_ c2_))) (-(rv9_1 c3_ c5_ c1_))), .second, lv (rv2 (rv2 (rv2 (9223372036854775807 : Int64) (rv9_6 c6_)) (rv9_5 c5_)) (rv9_3 c3_)), .second, iv (0 : Int32), lv (rv9_1 c3_ c5_ c1_), .second] [(.long (rv9_0 c1_ c2_ c4_ c0_ c3_ c5_ c6_))])) _
    refine mlstore 80 G186 d7_78 #[iv (3 : Int32), rv o1, iv (8 : Int32), rv b1, rv b3, iv (7 : Int32), lv (rv12 (rv12 (rv12 (0 : Int64) (-(rv9_4 c5_ c6_ c4_))) (-(rv9_2 c3_ c6_ c2_))) (-(rv9_1 c3_ c5_ c1_))), .second, lv (rv2 (rv2 (rv2 (9223372036854775807 : Int64) (rv9_6 c6_)) (rv9_5 c5_)) (rv9_3 c3_)), .second, iv (0 : Int32), lv (rv9_0 c1_ c2_ c4_ c0_ c3_ c5_ c6_), .second] rfl rfl ?_
    refine miload 82 G186 d7_80 rfl rfl ?_
    refine miload 84 G186 d7_82 rfl rfl ?_
    refine miconst 85 G186 d7_84 (v := (-1 : Int32)) rfl rfl ?_
    refine mixor 86 G186 d7_85 (v := (-1 : Int32)) rfl rfl ?_
    refine miand 87 G186 d7_86 (v := (7 : Int32)) rfl rfl ?_
    refine st187 _ ?_
    show Steps p.tables e below (T187.setTop (mkF m 90 #[iv (3 : Int32), rv o1, iv (8 : Int32), rv b1, rv b3, iv (7 : Int32), lv (rv12 (rv12 (rv12 (0 : Int64) (-(rv9_4 c5_ c6_ c4_))) (-(rv9_2 c3_ c6_ c2_))) (-(rv9_1 c3_ c5_ c1_))), .second, lv (rv2 (rv2 (rv2 (9223372036854775807 : Int64) (rv9_6 c6_)) (rv9_5 c5_)) (rv9_3 c3_)), .second, iv (0 : Int32), lv (rv9_0 c1_ c2_ c4_ c0_ c3_ c5_ c6_), .second] [(.int (3 : Int32))])) _
    refine miconst 91 G187 d7_90 (v := (2 : Int32)) rfl rfl ?_
    refine mirem 92 G187 d7_91 (by decide) (v := (1 : Int32)) rfl rfl ?_
    refine mifYes 108 G187 d7_92 ((if0 _ _).trans (feq (by decide : ¬ ((1 : Int32) = (0 : Int32)))).2) (by decide) rfl ?_
    refine mlload 110 G187 d7_108 rfl rfl ?_
    refine mlload 112 G187 d7_110 rfl rfl ?_
    refine st188 _ ?_
    show Steps p.tables e below (T188.setTop (mkF m 115 #[iv (3 : Int32), rv o1, iv (8 : Int32), rv b1, rv b3, iv (7 : Int32), lv (rv12 (rv12 (rv12 (0 : Int64) (-(rv9_4 c5_ c6_ c4_))) (-(rv9_2 c3_ c6_ c2_))) (-(rv9_1 c3_ c5_ c1_))), .second, lv (rv2 (rv2 (rv2 (9223372036854775807 : Int64) (rv9_6 c6_)) (rv9_5 c5_)) (rv9_3 c3_)), .second, iv (0 : Int32), lv (rv9_0 c1_ c2_ c4_ c0_ c3_ c5_ c6_), .second] [(.long (rv2 (rv2 (rv2 (rv2 (9223372036854775807 : Int64) (rv9_6 c6_)) (rv9_5 c5_)) (rv9_3 c3_)) (rv9_0 c1_ c2_ c4_ c0_ c3_ c5_ c6_)))])) _
    refine mlstore 117 G188 d7_115 #[iv (3 : Int32), rv o1, iv (8 : Int32), rv b1, rv b3, iv (7 : Int32), lv (rv12 (rv12 (rv12 (0 : Int64) (-(rv9_4 c5_ c6_ c4_))) (-(rv9_2 c3_ c6_ c2_))) (-(rv9_1 c3_ c5_ c1_))), .second, lv (rv2 (rv2 (rv2 (rv2 (9223372036854775807 : Int64) (rv9_6 c6_)) (rv9_5 c5_)) (rv9_3 c3_)) (rv9_0 c1_ c2_ c4_ c0_ c3_ c5_ c6_)), .second, iv (0 : Int32), lv (rv9_0 c1_ c2_ c4_ c0_ c3_ c5_ c6_), .second] rfl rfl ?_
    refine mgoto 122 G188 d7_117 (by decide) rfl ?_
    refine miload 124 G188 d7_122 rfl rfl ?_
    refine mifNo 127 G188 d7_124 ((if0 _ _).trans (teq (by decide : (0 : Int32) = (0 : Int32))).2) rfl ?_
    refine mgoto 142 G188 d7_127 (by decide) rfl ?_
    refine mlload 144 G188 d7_142 rfl rfl ?_
    refine mlload 146 G188 d7_144 rfl rfl ?_
    refine mlcmp 147 G188 d7_146 rfl ?_
    refine mifYes 160 G188 d7_147 ((if0 _ _).trans (flt (hf147)).2.2.2) (by decide) rfl ?_
    refine maloadN 161 G188 d7_160 rfl rfl rfl ?_
    refine miload 163 G188 d7_161 rfl rfl ?_
    refine mlload 165 G188 d7_163 rfl rfl ?_
    refine st189 _ ?_
    refine maload 168 G189 d7_166 rfl rfl rfl ?_
    refine miload 170 G189 d7_168 rfl rfl ?_
    refine mlload 172 G189 d7_170 rfl rfl ?_
    refine st200 _ ?_
    refine miinc 176 G200 d7_173 rfl #[iv (3 : Int32), rv o1, iv (8 : Int32), rv b1, rv b3, iv (8 : Int32), lv (rv12 (rv12 (rv12 (0 : Int64) (-(rv9_4 c5_ c6_ c4_))) (-(rv9_2 c3_ c6_ c2_))) (-(rv9_1 c3_ c5_ c1_))), .second, lv (rv2 (rv2 (rv2 (rv2 (9223372036854775807 : Int64) (rv9_6 c6_)) (rv9_5 c5_)) (rv9_3 c3_)) (rv9_0 c1_ c2_ c4_ c0_ c3_ c5_ c6_)), .second, iv (0 : Int32), lv (rv9_0 c1_ c2_ c4_ c0_ c3_ c5_ c6_), .second] rfl rfl ?_
    refine mgoto 16 G200 d7_176 (by decide) rfl ?_
    refine miload 18 G200 d7_16 rfl rfl ?_
    refine miloadN 19 G200 d7_18 rfl rfl ?_
    refine micmpYes 179 G200 d7_19 (flt (by decide : ¬ ((8 : Int32) < (8 : Int32)))).2.1 (by decide) rfl ?_
    refine miconst 180 G200 d7_179 (v := (2 : Int32)) rfl rfl ?_
    refine st211 _ ?_
    show Steps p.tables e below (T211.setTop (mkF m 182 #[iv (3 : Int32), rv o1, iv (8 : Int32), rv b1, rv b3, iv (8 : Int32), lv (rv12 (rv12 (rv12 (0 : Int64) (-(rv9_4 c5_ c6_ c4_))) (-(rv9_2 c3_ c6_ c2_))) (-(rv9_1 c3_ c5_ c1_))), .second, lv (rv2 (rv2 (rv2 (rv2 (9223372036854775807 : Int64) (rv9_6 c6_)) (rv9_5 c5_)) (rv9_3 c3_)) (rv9_0 c1_ c2_ c4_ c0_ c3_ c5_ c6_)), .second, iv (0 : Int32), lv (rv9_0 c1_ c2_ c4_ c0_ c3_ c5_ c6_), .second] [(.ref b211)])) _
    refine mdup 183 G211 d7_182 rfl rfl ?_
    refine miconst 184 G211 d7_183 (v := (0 : Int32)) rfl rfl ?_
    refine maloadN 185 G211 d7_184 rfl rfl rfl ?_
    refine miloadN 186 G211 d7_185 rfl rfl ?_
    refine miconst 187 G211 d7_186 (v := (1 : Int32)) rfl rfl ?_
    refine misub 188 G211 d7_187 (v := (7 : Int32)) rfl rfl ?_
    refine mlaload 189 X211 hx hby hZ e211 f213 (v := (rv12 (rv12 (rv12 (0 : Int64) (-(rv9_4 c5_ c6_ c4_))) (-(rv9_2 c3_ c6_ c2_))) (-(rv9_1 c3_ c5_ c1_)))) d7_188 ⟨by decide, by decide⟩ rfl rfl ?_
    refine st215 _ ?_
    refine mdup 191 G215 d7_190 rfl rfl ?_
    refine miconst 192 G215 d7_191 (v := (1 : Int32)) rfl rfl ?_
    refine maload 194 G215 d7_192 rfl rfl rfl ?_
    refine miloadN 195 G215 d7_194 rfl rfl ?_
    refine miconst 196 G215 d7_195 (v := (1 : Int32)) rfl rfl ?_
    refine misub 197 G215 d7_196 (v := (7 : Int32)) rfl rfl ?_
    refine mlaload 198 X215 hx hby hZ e215 f225 (v := (rv2 (rv2 (rv2 (rv2 (9223372036854775807 : Int64) (rv9_6 c6_)) (rv9_5 c5_)) (rv9_3 c3_)) (rv9_0 c1_ c2_ c4_ c0_ c3_ c5_ c6_))) d7_197 ⟨by decide, by decide⟩ rfl rfl ?_
    refine st232 _ ?_
    exact retOut X232 hx Bd.returns rfl (Or.inr (Or.inr (Or.inr (Or.inr ⟨rfl, rfl, rfl⟩)))) (hb hby d7_199) hr
  · show Q7_3 Z o1 c0_ c1_ c2_ c3_ c4_ c5_ c6_ c7_ k1 h0 n0 _ T232.heap _
    rw [e232]
    exact ⟨b211, k211, rfl, g_b211, sz_b211, N232, K232, V232⟩
theorem ef3_3 (m : MethodId) (o0 : Addr) (o2 : Addr) : entryFrame m #[(.ref o0), (.int (3 : Int32)), (.ref o2)] 4 = mkF m 0 #[rv o0, iv (3 : Int32), rv o2, .unset] [] := by first | (simp [entryFrame, mkF, argsToLocals, Value.category]; done) | rfl
abbrev room_of_3_3 : Room := { frames := 3, cells := 6, slots := 30, locals := 61 }
def Q3_3 (Z : State) (o0 : Addr) (o2 : Addr) (k1 : ClassId) (c0_ : Int64) (c1_ : Int64) (c2_ : Int64) (c3_ : Int64) (c4_ : Int64) (c5_ : Int64) (c6_ : Int64) (c7_ : Int64) (h0 : Heap) (n0 : Nat) (v : Option Value) (h : Heap) (L : List Loc) : Prop := v = none ∧ Fr n0 L ∧ Keep h0 h [o0] ∧ Exa Z h o0 "com/example/tempe/tempe/estimate/CountBracket" ∧ Fld Z h o0 "com/example/tempe/tempe/estimate/CountBracket" "words" "I" (.int (3 : Int32)) ∧ Fld Z h o0 "com/example/tempe/tempe/estimate/CountBracket" "counts" "[J" (.ref o2) ∧ Fld Z h o0 "com/example/tempe/tempe/estimate/CountBracket" "documents" "J" (.long c0_) ∧ Fld Z h o0 "com/example/tempe/tempe/estimate/CountBracket" "lower" "D" (.double (FP.l2d (rv12 (rv12 (rv12 (0 : Int64) (-(rv9_4 c5_ c6_ c4_))) (-(rv9_2 c3_ c6_ c2_))) (-(rv9_1 c3_ c5_ c1_))))) ∧ Fld Z h o0 "com/example/tempe/tempe/estimate/CountBracket" "upper" "D" (.double (FP.l2d (rv2 (rv2 (rv2 (rv2 (9223372036854775807 : Int64) (rv9_6 c6_)) (rv9_5 c5_)) (rv9_3 c3_)) (rv9_0 c1_ c2_ c4_ c0_ c3_ c5_ c6_)))) ∧ Fld Z h o0 "com/example/tempe/tempe/estimate/CountBracket" "closed" "Z" (.int (0 : Int32))
set_option maxRecDepth 65536 in
set_option maxHeartbeats 40000000 in
theorem rm3_3 (l : Launch) (Z : State) (a0 : Array Value) (hw : ∀ d ∈ tables_1, d.before a0 Z = true) (ws : List Jvm.Cond) (o0 : Addr) (o2 : Addr) {k1 : ClassId} {c0_ : Int64} {c1_ : Int64} {c2_ : Int64} {c3_ : Int64} {c4_ : Int64} {c5_ : Int64} {c6_ : Int64} {c7_ : Int64} (h0 : Heap) (n0 : Nat) (Z0 : n0 ≤ h0.size) (E_o0 : Exa Z h0 o0 "com/example/tempe/tempe/estimate/CountBracket") (g_o0 : n0 ≤ o0) (F_words_o0 : Fld Z h0 o0 "com/example/tempe/tempe/estimate/CountBracket" "words" "I" (.int (0 : Int32))) (F_counts_o0 : Fld Z h0 o0 "com/example/tempe/tempe/estimate/CountBracket" "counts" "[J" .null) (F_documents_o0 : Fld Z h0 o0 "com/example/tempe/tempe/estimate/CountBracket" "documents" "J" (.long (0 : Int64))) (F_lower_o0 : Fld Z h0 o0 "com/example/tempe/tempe/estimate/CountBracket" "lower" "D" (.double (0 : UInt64))) (F_upper_o0 : Fld Z h0 o0 "com/example/tempe/tempe/estimate/CountBracket" "upper" "D" (.double (0 : UInt64))) (F_closed_o0 : Fld Z h0 o0 "com/example/tempe/tempe/estimate/CountBracket" "closed" "Z" (.int (0 : Int32))) (ne_o0_o2 : o0 ≠ o2) (V_o2 : Arv Z h0 o2 k1 .long (8 : Int32) [(.long c0_), (.long c1_), (.long c2_), (.long c3_), (.long c4_), (.long c5_), (.long c6_), (.long c7_)] (.long (0 : Int64))) (hp_hp_hf45_19_23 : ¬ ((lcmpW c3_ (0 : Int64)) < (0 : Int32))) (hp_hp_hf52_19_23 : ¬ ((lcmpW (c1_ - c3_) (0 : Int64)) < (0 : Int32))) (hp_hp_hf59_19_23 : ¬ ((lcmpW (c2_ - c3_) (0 : Int64)) < (0 : Int32))) (hp_hp_hf66_19_23 : ¬ ((lcmpW ((c0_ - c1_) - (c2_ - c3_)) (0 : Int64)) < (0 : Int32))) (hp_hp_hf45_19_23' : ¬ ((lcmpW c5_ (0 : Int64)) < (0 : Int32))) (hp_hp_hf52_19_23' : ¬ ((lcmpW (c1_ - c5_) (0 : Int64)) < (0 : Int32))) (hp_hp_hf59_19_23' : ¬ ((lcmpW (c4_ - c5_) (0 : Int64)) < (0 : Int32))) (hp_hp_hf66_19_23' : ¬ ((lcmpW ((c0_ - c1_) - (c4_ - c5_)) (0 : Int64)) < (0 : Int32))) (hp_hp_hf45_19_23'' : ¬ ((lcmpW c6_ (0 : Int64)) < (0 : Int32))) (hp_hp_hf52_19_23'' : ¬ ((lcmpW (c2_ - c6_) (0 : Int64)) < (0 : Int32))) (hp_hp_hf59_19_23'' : ¬ ((lcmpW (c4_ - c6_) (0 : Int64)) < (0 : Int32))) (hp_hp_hf66_19_23'' : ¬ ((lcmpW ((c0_ - c2_) - (c4_ - c6_)) (0 : Int64)) < (0 : Int32))) (hp_hcq_28 : own_BL [c0_, c1_, c2_, c3_, c4_, c5_, c6_, c7_]) (hp_hf147_28 : ¬ ((0 : Int32) < (lcmpW (rv12 (rv12 (rv12 (0 : Int64) (-(rv9_4 c5_ c6_ c4_))) (-(rv9_2 c3_ c6_ c2_))) (-(rv9_1 c3_ c5_ c1_))) (rv2 (rv2 (rv2 (rv2 (9223372036854775807 : Int64) (rv9_6 c6_)) (rv9_5 c5_)) (rv9_3 c3_)) (rv9_0 c1_ c2_ c4_ c0_ c3_ c5_ c6_))))) :
    MetFree l (⟨"com/example/tempe/tempe/estimate/CountBracket", "<init>", "(I[J)V"⟩ : MethodName) (head1 (Jvm.Cond.code (⟨"com/example/tempe/tempe/estimate/CountBracket", "<init>", "(I[J)V"⟩ : MethodName) prog_7_method_1_code 4 none :: ws) (room_of_3_3)) (fun a U => a = #[(.ref o0), (.int (3 : Int32)), (.ref o2)] ∧ Z.Warmed39 U.vm ∧ U.heap = h0) (fun _ _ _ _ _ => True) (fun _ U o U' => ∃ v L, o = .returned v ∧ Q3_3 Z o0 o2 k1 c0_ c1_ c2_ c3_ c4_ c5_ c6_ c7_ h0 n0 v U'.heap L ∧ FrameEnd U o U' L (room_of_3_3).cells (room_of_3_3).slots) := by
  refine MetFree.of_bodySF (plainFor_of_name pn_3) hisR ?_
  intro p e s m args below meth c s₁ Bd hml0 hP hK
  obtain ⟨rfl, hZ, hh⟩ := hP
  have hx := Bd.exec
  have hby := Bd.bytes
  have hml : c.maxLocals = 4 := hml0
  have hown : s.vm.findClass "com/example/tempe/tempe/estimate/CountBracket" = some m.cls := findClass_of_methodNamed Bd.named
  have hnm := (name_of_methodNamed Bd.named Bd.method).1
  have X0 : Stand p l e (room_of_3_3) s m #[(.ref o0), (.int (3 : Int32)), (.ref o2)] below meth c s₁ [] 0 0 := Stand.of_body Bd
  have e0 : s₁.heap = h0 := by rw [← hh, Bd.state]; rfl
  have N0 := Fr.nil n0
  have G0 := gd X0 hx hby
  have pre0 : ∀ t, Steps p.tables e below (s₁.setTop (mkF m 0 #[rv o0, iv (3 : Int32), rv o2, .unset] [])) t → Steps p.tables e below (s₁.setTop (entryFrame m #[(.ref o0), (.int (3 : Int32)), (.ref o2)] 4)) t := fun t k => castTop (ef3_3 m o0 o2) k
  obtain ⟨T1, X1, e1, st1⟩ := initO X0 hx hZ hown (wd hw 17 rfl) (wd hw 18 rfl) (wd hw 19 rfl) e0 (g := (mkF m 1 #[rv o0, iv (3 : Int32), rv o2, .unset] [(.ref o0)])) rfl (by rw [hml]; rfl) rfl (hb hby d3_1) (by decide) (W := 0) (by show 2 * 0 + _ ≤ _; exact Nat.le_of_eq rfl) (by decide)
  have G1 := gd X1 hx hby
  obtain ⟨T2, h2, X2, e2, W2, st2⟩ := putF X1 hx hZ hown (host := "") (Or.inl (wd hw 20 rfl)) Via.refl e1 F_words_o0 E_o0 (Or.inr ⟨(wd hw 21 rfl), rfl, hnm⟩) (wd hw 12 rfl) (ty := .int) (by decide) rfl rfl (g := (mkF m 6 #[rv o0, iv (3 : Int32), rv o2, .unset] [(.int (3 : Int32)), (.ref o0)])) rfl rfl (hb hby d3_6)
  have G2 := gd X2 hx hby
  have N2 := Fr.snoc X2 N0 g_o0
  have f3 := E_o0.wr W2
  have f6 := F_counts_o0.other W2 (Or.inr (slot_ne (Or.inr (wd hw 23 rfl)) (Or.inr (wd hw 21 rfl)) (by decide) (t := (.array .long)) (t' := .int) (by decide) (by decide)))
  have f7 := F_documents_o0.other W2 (Or.inr (slot_ne (Or.inr (wd hw 25 rfl)) (Or.inr (wd hw 21 rfl)) (by decide) (t := .long) (t' := .int) (by decide) (by decide)))
  have f8 := F_lower_o0.other W2 (Or.inr (slot_ne (Or.inl (wd hw 58 rfl)) (Or.inr (wd hw 21 rfl)) (by decide) (t := .double) (t' := .int) (by decide) (by decide)))
  have f9 := F_upper_o0.other W2 (Or.inr (slot_ne (Or.inl (wd hw 60 rfl)) (Or.inr (wd hw 21 rfl)) (by decide) (t := .double) (t' := .int) (by decide) (by decide)))
  have f10 := F_closed_o0.other W2 (Or.inr (slot_ne (Or.inl (wd hw 67 rfl)) (Or.inr (wd hw 21 rfl)) (by decide) (t := .boolean) (t' := .int) (by decide) (by decide)))
  have f12 := V_o2.other W2 (Ne.symm ne_o0_o2)
  have Z2 := Nat.le_trans Z0 (Keep.of_wr W2).1
  have K2 : Keep h0 h2 [o0] := (Keep.refl h0 [o0]).wr W2 (Or.inl (List.mem_of_getElem? (i := 0) rfl))
  have Fw2 := F_words_o0.same W2
  obtain ⟨T13, h13, X13, e13, W13, st13⟩ := putF X2 hx hZ hown (host := "") (Or.inl (wd hw 22 rfl)) Via.refl e2 f6 f3 (Or.inr ⟨(wd hw 23 rfl), rfl, hnm⟩) (wd hw 12 rfl) (ty := (.array .long)) (by decide) rfl rfl (g := (mkF m 11 #[rv o0, iv (3 : Int32), rv o2, .unset] [(.ref o2), (.ref o0)])) rfl rfl (hb hby d3_11)
  have G13 := gd X13 hx hby
  have N13 := Fr.snoc X13 N2 g_o0
  have f14 := f3.wr W13
  have f16 := Fw2.other W13 (Or.inr (slot_ne (Or.inr (wd hw 21 rfl)) (Or.inr (wd hw 23 rfl)) (by decide) (t := .int) (t' := (.array .long)) (by decide) (by decide)))
  have f18 := f7.other W13 (Or.inr (slot_ne (Or.inr (wd hw 25 rfl)) (Or.inr (wd hw 23 rfl)) (by decide) (t := .long) (t' := (.array .long)) (by decide) (by decide)))
  have f19 := f8.other W13 (Or.inr (slot_ne (Or.inl (wd hw 58 rfl)) (Or.inr (wd hw 23 rfl)) (by decide) (t := .double) (t' := (.array .long)) (by decide) (by decide)))
  have f20 := f9.other W13 (Or.inr (slot_ne (Or.inl (wd hw 60 rfl)) (Or.inr (wd hw 23 rfl)) (by decide) (t := .double) (t' := (.array .long)) (by decide) (by decide)))
  have f21 := f10.other W13 (Or.inr (slot_ne (Or.inl (wd hw 67 rfl)) (Or.inr (wd hw 23 rfl)) (by decide) (t := .boolean) (t' := (.array .long)) (by decide) (by decide)))
  have f23 := f12.other W13 (Ne.symm ne_o0_o2)
  have Z13 := Nat.le_trans Z2 (Keep.of_wr W13).1
  have K13 : Keep h0 h13 [o0] := K2.wr W13 (Or.inl (List.mem_of_getElem? (i := 0) rfl))
  have Fw13 := f6.same W13
  obtain ⟨T24, h24, X24, e24, W24, st24⟩ := putF X13 hx hZ hown (host := "") (Or.inl (wd hw 24 rfl)) Via.refl e13 f18 f14 (Or.inr ⟨(wd hw 25 rfl), rfl, hnm⟩) (wd hw 12 rfl) (ty := .long) (by decide) rfl rfl (g := (mkF m 18 #[rv o0, iv (3 : Int32), rv o2, .unset] [(.long c0_), (.ref o0)])) rfl rfl (hb hby d3_18)
  have G24 := gd X24 hx hby
  have N24 := Fr.snoc X24 N13 g_o0
  have f25 := f14.wr W24
  have f27 := f16.other W24 (Or.inr (slot_ne (Or.inr (wd hw 21 rfl)) (Or.inr (wd hw 25 rfl)) (by decide) (t := .int) (t' := .long) (by decide) (by decide)))
  have f28 := Fw13.other W24 (Or.inr (slot_ne (Or.inr (wd hw 23 rfl)) (Or.inr (wd hw 25 rfl)) (by decide) (t := (.array .long)) (t' := .long) (by decide) (by decide)))
  have f30 := f19.other W24 (Or.inr (slot_ne (Or.inl (wd hw 58 rfl)) (Or.inr (wd hw 25 rfl)) (by decide) (t := .double) (t' := .long) (by decide) (by decide)))
  have f31 := f20.other W24 (Or.inr (slot_ne (Or.inl (wd hw 60 rfl)) (Or.inr (wd hw 25 rfl)) (by decide) (t := .double) (t' := .long) (by decide) (by decide)))
  have f32 := f21.other W24 (Or.inr (slot_ne (Or.inl (wd hw 67 rfl)) (Or.inr (wd hw 25 rfl)) (by decide) (t := .boolean) (t' := .long) (by decide) (by decide)))
  have f34 := f23.other W24 (Ne.symm ne_o0_o2)
  have Z24 := Nat.le_trans Z13 (Keep.of_wr W24).1
  have K24 : Keep h0 h24 [o0] := K13.wr W24 (Or.inl (List.mem_of_getElem? (i := 0) rfl))
  have Fw24 := f18.same W24
  obtain ⟨_, _, ⟨T35, L35, k35, n35⟩, -, X35, ⟨Lc35, hQ35, l35, y35, z35⟩, st35⟩ := Jvm.LawKit.callS X24 hx (y := (⟨"com/example/tempe/tempe/estimate/Fit", "checkPairs", "(I[J)V"⟩ : MethodName)) hown (mvT hZ (wd hw 26 rfl)) (mvT hZ (wd hw 27 rfl)) (mvT hZ (wd hw 28 rfl)) (mvT hZ (wd hw 29 rfl)) (by decide) (backOf (W := 0) (rm5_3 l Z a0 hw [] o2 h24 n0 Z24 f34 (hp_hp_hf45_19_23) (hp_hp_hf52_19_23) (hp_hp_hf59_19_23) (hp_hp_hf66_19_23) (hp_hp_hf45_19_23') (hp_hp_hf52_19_23') (hp_hp_hf59_19_23') (hp_hp_hf66_19_23') (hp_hp_hf45_19_23'') (hp_hp_hf52_19_23'') (hp_hp_hf59_19_23'') (hp_hp_hf66_19_23'')) hZ (wd hw 29 rfl) (wd hw 28 rfl) (by decide) (by decide)) (g := (mkF m 23 #[rv o0, iv (3 : Int32), rv o2, .unset] [(.ref o2), (.int (3 : Int32))])) rfl (by rw [hml]; rfl) (argsL := [(.int (3 : Int32)), (.ref o2)]) (rest := []) (lenOf pd_3 rfl) rfl (by show 2 * 0 + _ ≤ _; exact Nat.le_of_eq rfl) (hb hby d3_23) (fun _ _ => ⟨rfl, e24, (by decide : 0 + 3 ≤ _), (by decide : 0 + 12 ≤ _)⟩)
  dsimp only [Pt.U, Pt.locs, Pt.cells, Pt.slots] at X35 l35 y35 z35 st35 hQ35
  replace l35 : (((([] ++ [⟨o0, Jvm.RoadKit.slotOf Z "com/example/tempe/tempe/estimate/CountBracket" "words" "I"⟩]) ++ [⟨o0, Jvm.RoadKit.slotOf Z "com/example/tempe/tempe/estimate/CountBracket" "counts" "[J"⟩]) ++ [⟨o0, Jvm.RoadKit.slotOf Z "com/example/tempe/tempe/estimate/CountBracket" "documents" "J"⟩]) ++ Lc35) = L35 := l35.symm
  subst l35 y35 z35
  obtain ⟨rfl, Nq35, K35⟩ := hQ35
  have N35 := Fr.app N24 Nq35
  have f36 := f25.keep K35
  have f38 := f27.keep K35 nin0
  have f39 := f28.keep K35 nin0
  have f40 := Fw24.keep K35 nin0
  have f41 := f30.keep K35 nin0
  have f42 := f31.keep K35 nin0
  have f43 := f32.keep K35 nin0
  have f45 := f34.keep K35 nin0
  have Z35k := Nat.le_trans Z24 K35.1
  have K35k : Keep h0 T35.heap [o0] := K24.trans K35 all0
  have G35 := gd X35 hx hby
  obtain ⟨_, _, ⟨T46, L46, k46, n46⟩, -, X46, ⟨Lc46, hQ46, l46, y46, z46⟩, st46⟩ := callSH X35 hx (y := (⟨"com/example/tempe/tempe/estimate/CountBracket", "range", "(I[J)[J"⟩ : MethodName)) hown (mvT hZ (wd hw 33 rfl)) (mvT hZ (wd hw 34 rfl)) (mvT hZ (wd hw 13 rfl)) (mvT hZ (wd hw 35 rfl)) (by decide) (backOfWith (W := 0) (rm7_3 l Z a0 hw [] o2 T35.heap n0 Z35k (hp_hcq_28) f45 (hp_hf147_28)) hZ (wd hw 35 rfl) (wd hw 13 rfl) (by decide) (by decide)) (g := (mkF m 28 #[rv o0, iv (3 : Int32), rv o2, .unset] [(.ref o2), (.int (3 : Int32))])) rfl (by rw [hml]; rfl) (argsL := [(.int (3 : Int32)), (.ref o2)]) (rest := []) (lenOf pd_4 rfl) rfl (by show 2 * 0 + _ ≤ _; exact Nat.le_of_eq rfl) (hb hby d3_28) (fun _ _ => ⟨rfl, rfl, (by decide : 3 + 3 ≤ _), (by decide : 12 + 18 ≤ _)⟩)
  dsimp only [Pt.U, Pt.locs, Pt.cells, Pt.slots] at X46 l46 y46 z46 st46 hQ46
  replace l46 : ((((([] ++ [⟨o0, Jvm.RoadKit.slotOf Z "com/example/tempe/tempe/estimate/CountBracket" "words" "I"⟩]) ++ [⟨o0, Jvm.RoadKit.slotOf Z "com/example/tempe/tempe/estimate/CountBracket" "counts" "[J"⟩]) ++ [⟨o0, Jvm.RoadKit.slotOf Z "com/example/tempe/tempe/estimate/CountBracket" "documents" "J"⟩]) ++ Lc35) ++ Lc46) = L46 := l46.symm
  subst l46 y46 z46
  obtain ⟨b46, k46, rfl, g_b46, sz46, Nq46, K46, V_b46⟩ := hQ46
  have ne_o0_b46 : o0 ≠ b46 := Nat.ne_of_lt (Nat.lt_of_lt_of_le f36.lt sz46)
  have ne_o2_b46 : o2 ≠ b46 := Nat.ne_of_lt (Nat.lt_of_lt_of_le f45.lt sz46)
  have sz_b46 : h0.size ≤ b46 := Nat.le_trans K35k.1 sz46
  have N46 := Fr.app N35 Nq46
  have f47 := f36.keep K46
  have f49 := f38.keep K46 nin0
  have f50 := f39.keep K46 nin0
  have f51 := f40.keep K46 nin0
  have f52 := f41.keep K46 nin0
  have f53 := f42.keep K46 nin0
  have f54 := f43.keep K46 nin0
  have f56 := f45.keep K46 nin0
  have Z46k := Nat.le_trans Z35k K46.1
  have K46k : Keep h0 T46.heap [o0] := K35k.trans K46 all0
  have G46 := gd X46 hx hby
  obtain ⟨T61, h61, X61, e61, W61, st61⟩ := putF X46 hx hZ hown (host := "") (Or.inl (wd hw 57 rfl)) Via.refl rfl f52 f47 (Or.inl (wd hw 58 rfl)) (wd hw 12 rfl) (ty := .double) (by decide) rfl rfl (g := (mkF m 37 #[rv o0, iv (3 : Int32), rv o2, rv b46] [(.double (FP.l2d (rv12 (rv12 (rv12 (0 : Int64) (-(rv9_4 c5_ c6_ c4_))) (-(rv9_2 c3_ c6_ c2_))) (-(rv9_1 c3_ c5_ c1_))))), (.ref o0)])) rfl rfl (hb hby d3_37)
  have G61 := gd X61 hx hby
  have N61 := Fr.snoc X61 N46 g_o0
  have f62 := f47.wr W61
  have f64 := f49.other W61 (Or.inr (slot_ne (Or.inr (wd hw 21 rfl)) (Or.inl (wd hw 58 rfl)) (by decide) (t := .int) (t' := .double) (by decide) (by decide)))
  have f65 := f50.other W61 (Or.inr (slot_ne (Or.inr (wd hw 23 rfl)) (Or.inl (wd hw 58 rfl)) (by decide) (t := (.array .long)) (t' := .double) (by decide) (by decide)))
  have f66 := f51.other W61 (Or.inr (slot_ne (Or.inr (wd hw 25 rfl)) (Or.inl (wd hw 58 rfl)) (by decide) (t := .long) (t' := .double) (by decide) (by decide)))
  have f68 := f53.other W61 (Or.inr (slot_ne (Or.inl (wd hw 60 rfl)) (Or.inl (wd hw 58 rfl)) (by decide) (t := .double) (t' := .double) (by decide) (by decide)))
  have f69 := f54.other W61 (Or.inr (slot_ne (Or.inl (wd hw 67 rfl)) (Or.inl (wd hw 58 rfl)) (by decide) (t := .boolean) (t' := .double) (by decide) (by decide)))
  have f71 := f56.other W61 (Ne.symm ne_o0_o2)
  have f76 := V_b46.other W61 (Ne.symm ne_o0_b46)
  have Z61 := Nat.le_trans Z46k (Keep.of_wr W61).1
  have K61 : Keep h0 h61 [o0] := K46k.wr W61 (Or.inl (List.mem_of_getElem? (i := 0) rfl))
  have Fw61 := f52.same W61
  obtain ⟨T77, h77, X77, e77, W77, st77⟩ := putF X61 hx hZ hown (host := "") (Or.inl (wd hw 59 rfl)) Via.refl e61 f68 f62 (Or.inl (wd hw 60 rfl)) (wd hw 12 rfl) (ty := .double) (by decide) rfl rfl (g := (mkF m 45 #[rv o0, iv (3 : Int32), rv o2, rv b46] [(.double (FP.l2d (rv2 (rv2 (rv2 (rv2 (9223372036854775807 : Int64) (rv9_6 c6_)) (rv9_5 c5_)) (rv9_3 c3_)) (rv9_0 c1_ c2_ c4_ c0_ c3_ c5_ c6_)))), (.ref o0)])) rfl rfl (hb hby d3_45)
  have G77 := gd X77 hx hby
  have N77 := Fr.snoc X77 N61 g_o0
  have f78 := f62.wr W77
  have f80 := f64.other W77 (Or.inr (slot_ne (Or.inr (wd hw 21 rfl)) (Or.inl (wd hw 60 rfl)) (by decide) (t := .int) (t' := .double) (by decide) (by decide)))
  have f81 := f65.other W77 (Or.inr (slot_ne (Or.inr (wd hw 23 rfl)) (Or.inl (wd hw 60 rfl)) (by decide) (t := (.array .long)) (t' := .double) (by decide) (by decide)))
  have f82 := f66.other W77 (Or.inr (slot_ne (Or.inr (wd hw 25 rfl)) (Or.inl (wd hw 60 rfl)) (by decide) (t := .long) (t' := .double) (by decide) (by decide)))
  have f83 := Fw61.other W77 (Or.inr (slot_ne (Or.inl (wd hw 58 rfl)) (Or.inl (wd hw 60 rfl)) (by decide) (t := .double) (t' := .double) (by decide) (by decide)))
  have f85 := f69.other W77 (Or.inr (slot_ne (Or.inl (wd hw 67 rfl)) (Or.inl (wd hw 60 rfl)) (by decide) (t := .boolean) (t' := .double) (by decide) (by decide)))
  have f87 := f71.other W77 (Ne.symm ne_o0_o2)
  have f92 := f76.other W77 (Ne.symm ne_o0_b46)
  have Z77 := Nat.le_trans Z61 (Keep.of_wr W77).1
  have K77 : Keep h0 h77 [o0] := K61.wr W77 (Or.inl (List.mem_of_getElem? (i := 0) rfl))
  have Fw77 := f68.same W77
  obtain ⟨fs, hr, hrun, hended, hW, hsame⟩ := X77.leave (v := none) (fun _ => rfl)
  refine ⟨_, _, pre0 _ ?_, hrun, hended, _, _, rfl, ?_, ⟨_, rfl⟩, hW, hsame.mono (by decide) (by decide)⟩
  · show Steps p.tables e below (s₁.setTop (mkF m 0 #[rv o0, iv (3 : Int32), rv o2, .unset] [])) _
    refine maloadN 1 G0 d3_0 rfl rfl rfl ?_
    refine st1 _ ?_
    show Steps p.tables e below (T1.setTop (mkF m 4 #[rv o0, iv (3 : Int32), rv o2, .unset] [])) _
    refine maloadN 5 G1 d3_4 rfl rfl rfl ?_
    refine miloadN 6 G1 d3_5 rfl rfl ?_
    refine st2 _ ?_
    show Steps p.tables e below (T2.setTop (mkF m 9 #[rv o0, iv (3 : Int32), rv o2, .unset] [])) _
    refine maloadN 10 G2 d3_9 rfl rfl rfl ?_
    refine maloadN 11 G2 d3_10 rfl rfl rfl ?_
    refine st13 _ ?_
    show Steps p.tables e below (T13.setTop (mkF m 14 #[rv o0, iv (3 : Int32), rv o2, .unset] [])) _
    refine maloadN 15 G13 d3_14 rfl rfl rfl ?_
    refine maloadN 16 G13 d3_15 rfl rfl rfl ?_
    refine miconst 17 G13 d3_16 (v := (0 : Int32)) rfl rfl ?_
    refine mlaload 18 X13 hx hby hZ e13 f23 (v := c0_) d3_17 ⟨by decide, by decide⟩ rfl rfl ?_
    refine st24 _ ?_
    show Steps p.tables e below (T24.setTop (mkF m 21 #[rv o0, iv (3 : Int32), rv o2, .unset] [])) _
    refine miloadN 22 G24 d3_21 rfl rfl ?_
    refine maloadN 23 G24 d3_22 rfl rfl rfl ?_
    refine st35 _ ?_
    show Steps p.tables e below (T35.setTop (mkF m 26 #[rv o0, iv (3 : Int32), rv o2, .unset] [])) _
    refine miloadN 27 G35 d3_26 rfl rfl ?_
    refine maloadN 28 G35 d3_27 rfl rfl rfl ?_
    refine st46 _ ?_
    show Steps p.tables e below (T46.setTop (mkF m 31 #[rv o0, iv (3 : Int32), rv o2, .unset] [(.ref b46)])) _
    refine mastoreN 32 G46 d3_31 rfl #[rv o0, iv (3 : Int32), rv o2, rv b46] rfl rfl ?_
    refine maloadN 33 G46 d3_32 rfl rfl rfl ?_
    refine maloadN 34 G46 d3_33 rfl rfl rfl ?_
    refine miconst 35 G46 d3_34 (v := (0 : Int32)) rfl rfl ?_
    refine mlaload 36 X46 hx hby hZ rfl V_b46 (v := (rv12 (rv12 (rv12 (0 : Int64) (-(rv9_4 c5_ c6_ c4_))) (-(rv9_2 c3_ c6_ c2_))) (-(rv9_1 c3_ c5_ c1_)))) d3_35 ⟨by decide, by decide⟩ rfl rfl ?_
    refine ml2d 37 G46 d3_36 rfl ?_
    refine st61 _ ?_
    show Steps p.tables e below (T61.setTop (mkF m 40 #[rv o0, iv (3 : Int32), rv o2, rv b46] [])) _
    refine maloadN 41 G61 d3_40 rfl rfl rfl ?_
    refine maloadN 42 G61 d3_41 rfl rfl rfl ?_
    refine miconst 43 G61 d3_42 (v := (1 : Int32)) rfl rfl ?_
    refine mlaload 44 X61 hx hby hZ e61 f76 (v := (rv2 (rv2 (rv2 (rv2 (9223372036854775807 : Int64) (rv9_6 c6_)) (rv9_5 c5_)) (rv9_3 c3_)) (rv9_0 c1_ c2_ c4_ c0_ c3_ c5_ c6_))) d3_43 ⟨by decide, by decide⟩ rfl rfl ?_
    refine ml2d 45 G61 d3_44 rfl ?_
    refine st77 _ ?_
    show Steps p.tables e below (T77.setTop (mkF m 48 #[rv o0, iv (3 : Int32), rv o2, rv b46] [])) _
    exact X77.returnOut hx Bd.returns (hb hby d3_48) hr
  · show Q3_3 Z o0 o2 k1 c0_ c1_ c2_ c3_ c4_ c5_ c6_ c7_ h0 n0 _ T77.heap _
    rw [e77]
    exact ⟨rfl, N77, K77, f78, f80, f81, f82, f83, Fw77, f85⟩
theorem d1_0 : decode method_2_code 0 = .ok (.lload_n 0, 1) := by decide +kernel
theorem d1_1 : decode method_2_code 1 = .ok (.ldc2_w 7, 3) := by decide +kernel
theorem d1_4 : decode method_2_code 4 = .ok (.land, 1) := by decide +kernel
theorem d1_5 : decode method_2_code 5 = .ok (.lstore 4, 2) := by decide +kernel
theorem d1_7 : decode method_2_code 7 = .ok (.iload_n 2, 1) := by decide +kernel
theorem d1_8 : decode method_2_code 8 = .ok (.iload_n 3, 1) := by decide +kernel
theorem d1_9 : decode method_2_code 9 = .ok (.iushr, 1) := by decide +kernel
theorem d1_10 : decode method_2_code 10 = .ok (.iconst 1, 1) := by decide +kernel
theorem d1_11 : decode method_2_code 11 = .ok (.iand, 1) := by decide +kernel
theorem d1_12 : decode method_2_code 12 = .ok (.ifCond .eq 8, 3) := by decide +kernel
theorem d1_15 : decode method_2_code 15 = .ok (.lload 4, 2) := by decide +kernel
theorem d1_17 : decode method_2_code 17 = .ok (.goto 9, 3) := by decide +kernel
theorem d1_20 : decode method_2_code 20 = .ok (.lload 4, 2) := by decide +kernel
theorem d1_22 : decode method_2_code 22 = .ok (.ldc2_w 9, 3) := by decide +kernel
theorem d1_25 : decode method_2_code 25 = .ok (.land, 1) := by decide +kernel
theorem d1_26 : decode method_2_code 26 = .ok (.lreturn, 1) := by decide +kernel
theorem pn_1 : plainName "com/example/tempe/tempe/estimate/CountBracketSettledPinLaw" = true := by first | (simp [plainName, overriddenIn]; done) | decide +kernel
theorem ef1 (m : MethodId) (q0 : Int64) (p1 : Int32) (p2 : Int32) : entryFrame m #[(.long q0), (.int p1), (.int p2)] 6 = mkF m 0 #[lv q0, .second, iv p1, iv p2, .unset, .unset] [] := by first | (simp [entryFrame, mkF, argsToLocals, Value.category]; done) | rfl
abbrev room_of_1 : Room := { frames := 0, cells := 0, slots := 0, locals := 0 }
def rv1 (q0 : Int64) (p1 : Int32) (p2 : Int32) : Int64 := (if (((p1.toUInt32 >>> (p2 &&& 31).toUInt32).toInt32) &&& (1 : Int32)) = (0 : Int32) then ((q0 &&& (2147483647 : Int64)) &&& (3 : Int64)) else (q0 &&& (2147483647 : Int64)))
def Q1 (Z : State) (q0 : Int64) (p1 : Int32) (p2 : Int32) (h0 : Heap) (n0 : Nat) (v : Option Value) (h : Heap) (L : List Loc) : Prop := v = some (.long (rv1 q0 p1 p2)) ∧ L = [] ∧ h = h0
set_option maxRecDepth 65536 in
set_option maxHeartbeats 40000000 in
theorem rm1 (l : Launch) (Z : State) (a0 : Array Value) (hw : ∀ d ∈ tables_1, d.before a0 Z = true) (ws : List Jvm.Cond) (q0 : Int64) (p1 : Int32) (p2 : Int32)  (h0 : Heap) (n0 : Nat) (Z0 : n0 ≤ h0.size) :
    MetFree l (⟨"com/example/tempe/tempe/estimate/CountBracketSettledPinLaw", "cell", "(JII)J"⟩ : MethodName) (head1 (Jvm.Cond.code (⟨"com/example/tempe/tempe/estimate/CountBracketSettledPinLaw", "cell", "(JII)J"⟩ : MethodName) method_2_code 6 (some .long) :: ws) (room_of_1)) (fun a U => a = #[(.long q0), (.int p1), (.int p2)] ∧ Z.Warmed39 U.vm ∧ U.heap = h0) (fun _ _ _ _ _ => True) (fun _ U o U' => ∃ v L, o = .returned v ∧ Q1 Z q0 p1 p2 h0 n0 v U'.heap L ∧ FrameEnd U o U' L (room_of_1).cells (room_of_1).slots) := by
  refine MetFree.of_bodySF (plainFor_of_name pn_1) hisR ?_
  intro p e s m args below meth c s₁ Bd hml0 hP hK
  obtain ⟨rfl, hZ, hh⟩ := hP
  have hx := Bd.exec
  have hby := Bd.bytes
  have hml : c.maxLocals = 6 := hml0
  have hown : s.vm.findClass "com/example/tempe/tempe/estimate/CountBracketSettledPinLaw" = some m.cls := findClass_of_methodNamed Bd.named
  have hnm := (name_of_methodNamed Bd.named Bd.method).1
  have X0 : Stand p l e (room_of_1) s m #[(.long q0), (.int p1), (.int p2)] below meth c s₁ [] 0 0 := Stand.of_body Bd
  have e0 : s₁.heap = h0 := by rw [← hh, Bd.state]; rfl
  have N0 := Fr.nil n0
  have G0 := gd X0 hx hby
  have pre0 : ∀ t, Steps p.tables e below (s₁.setTop (mkF m 0 #[lv q0, .second, iv p1, iv p2, .unset, .unset] [])) t → Steps p.tables e below (s₁.setTop (entryFrame m #[(.long q0), (.int p1), (.int p2)] 6)) t := fun t k => castTop (ef1 m q0 p1 p2) k
  obtain ⟨T2, X2, e2, st2⟩ : ∃ T' : State, Stand p l e (room_of_1) s m #[(.long q0), (.int p1), (.int p2)] below meth c T' [] 0 0 ∧ T'.heap = h0 ∧ ∀ target, Steps p.tables e below (T'.setTop (mkF m 26 #[lv q0, .second, iv p1, iv p2, lv (q0 &&& (2147483647 : Int64)), .second] [(.long (if (((p1.toUInt32 >>> (p2 &&& 31).toUInt32).toInt32) &&& (1 : Int32)) = (0 : Int32) then ((q0 &&& (2147483647 : Int64)) &&& (3 : Int64)) else (q0 &&& (2147483647 : Int64))))])) target → Steps p.tables e below (s₁.setTop (mkF m 12 #[lv q0, .second, iv p1, iv p2, lv (q0 &&& (2147483647 : Int64)), .second] [(.int (((p1.toUInt32 >>> (p2 &&& 31).toUInt32).toInt32) &&& (1 : Int32)))])) target := by
    by_cases hc12_1 : (((p1.toUInt32 >>> (p2 &&& 31).toUInt32).toInt32) &&& (1 : Int32)) = (0 : Int32)
    · refine ⟨s₁, X0, e0, fun target kt => ?_⟩
      refine mifYes 20 G0 d1_12 ((if0 _ _).trans (teq hc12_1).1) (by decide) rfl ?_
      refine mlload 22 G0 d1_20 rfl rfl ?_
      refine X0.ldc2Long hx hown (mvT hZ (wd hw 5 rfl)) (g := (mkF m 22 #[lv q0, .second, iv p1, iv p2, lv (q0 &&& (2147483647 : Int64)), .second] [(.long (q0 &&& (2147483647 : Int64)))])) rfl (hb hby d1_22) _ ?_
      show Steps p.tables e below (s₁.setTop (mkF m 25 #[lv q0, .second, iv p1, iv p2, lv (q0 &&& (2147483647 : Int64)), .second] [(.long (3 : Int64)), (.long (q0 &&& (2147483647 : Int64)))])) _
      refine mland 26 G0 d1_25 rfl rfl ?_
      exact castTop (g' := (mkF m 26 #[lv q0, .second, iv p1, iv p2, lv (q0 &&& (2147483647 : Int64)), .second] [(.long (if (((p1.toUInt32 >>> (p2 &&& 31).toUInt32).toInt32) &&& (1 : Int32)) = (0 : Int32) then ((q0 &&& (2147483647 : Int64)) &&& (3 : Int64)) else (q0 &&& (2147483647 : Int64))))])) (by simp only [if_pos hc12_1]) kt
    · refine ⟨s₁, X0, e0, fun target kt => ?_⟩
      refine mifNo 15 G0 d1_12 ((if0 _ _).trans (feq hc12_1).1) rfl ?_
      refine mlload 17 G0 d1_15 rfl rfl ?_
      refine mgoto 26 G0 d1_17 (by decide) rfl ?_
      exact castTop (g' := (mkF m 26 #[lv q0, .second, iv p1, iv p2, lv (q0 &&& (2147483647 : Int64)), .second] [(.long (if (((p1.toUInt32 >>> (p2 &&& 31).toUInt32).toInt32) &&& (1 : Int32)) = (0 : Int32) then ((q0 &&& (2147483647 : Int64)) &&& (3 : Int64)) else (q0 &&& (2147483647 : Int64))))])) (by simp only [if_neg hc12_1]) kt
  have G2 := gd X2 hx hby
  obtain ⟨fs, hr, hrun, hended, hW, hsame⟩ := X2.leave (v := some (.long (if (((p1.toUInt32 >>> (p2 &&& 31).toUInt32).toInt32) &&& (1 : Int32)) = (0 : Int32) then ((q0 &&& (2147483647 : Int64)) &&& (3 : Int64)) else (q0 &&& (2147483647 : Int64))))) (fun h => by rw [Bd.returns] at h; cases h)
  refine ⟨_, _, pre0 _ ?_, hrun, hended, _, _, rfl, ?_, ⟨_, rfl⟩, hW, hsame.mono (by decide) (by decide)⟩
  · show Steps p.tables e below (s₁.setTop (mkF m 0 #[lv q0, .second, iv p1, iv p2, .unset, .unset] [])) _
    refine mlloadN 1 G0 d1_0 rfl rfl ?_
    refine X0.ldc2Long hx hown (mvT hZ (wd hw 4 rfl)) (g := (mkF m 1 #[lv q0, .second, iv p1, iv p2, .unset, .unset] [(.long q0)])) rfl (hb hby d1_1) _ ?_
    show Steps p.tables e below (s₁.setTop (mkF m 4 #[lv q0, .second, iv p1, iv p2, .unset, .unset] [(.long (2147483647 : Int64)), (.long q0)])) _
    refine mland 5 G0 d1_4 rfl rfl ?_
    refine mlstore 7 G0 d1_5 #[lv q0, .second, iv p1, iv p2, lv (q0 &&& (2147483647 : Int64)), .second] rfl rfl ?_
    refine miloadN 8 G0 d1_7 rfl rfl ?_
    refine miloadN 9 G0 d1_8 rfl rfl ?_
    refine miushr 10 G0 d1_9 rfl rfl ?_
    refine miconst 11 G0 d1_10 (v := (1 : Int32)) rfl rfl ?_
    refine miand 12 G0 d1_11 rfl rfl ?_
    refine st2 _ ?_
    exact retOut X2 hx Bd.returns rfl (Or.inr (Or.inl ⟨rfl, rfl, _, rfl⟩)) (hb hby d1_26) hr
  · show Q1 Z q0 p1 p2 h0 n0 _ T2.heap _
    rw [e2]
    exact ⟨by simp only [rv1], rfl, rfl⟩
theorem d13_0 : decode prog_7_method_5_code 0 = .ok (.aload_n 0, 1) := by decide +kernel
theorem d13_1 : decode prog_7_method_5_code 1 = .ok (.getfield 38, 3) := by decide +kernel
theorem d13_4 : decode prog_7_method_5_code 4 = .ok (.ifCond .ne 37, 3) := by decide +kernel
theorem d13_7 : decode prog_7_method_5_code 7 = .ok (.aload_n 0, 1) := by decide +kernel
theorem d13_8 : decode prog_7_method_5_code 8 = .ok (.getfield 35, 3) := by decide +kernel
theorem d13_11 : decode prog_7_method_5_code 11 = .ok (.aload_n 0, 1) := by decide +kernel
theorem d13_12 : decode prog_7_method_5_code 12 = .ok (.getfield 31, 3) := by decide +kernel
theorem d13_15 : decode prog_7_method_5_code 15 = .ok (.dcmp .g, 1) := by decide +kernel
theorem d13_16 : decode prog_7_method_5_code 16 = .ok (.ifCond .le 25, 3) := by decide +kernel
theorem d13_19 : decode prog_7_method_5_code 19 = .ok (.aload_n 0, 1) := by decide +kernel
theorem d13_20 : decode prog_7_method_5_code 20 = .ok (.getfield 35, 3) := by decide +kernel
theorem d13_23 : decode prog_7_method_5_code 23 = .ok (.aload_n 0, 1) := by decide +kernel
theorem d13_24 : decode prog_7_method_5_code 24 = .ok (.getfield 31, 3) := by decide +kernel
theorem d13_27 : decode prog_7_method_5_code 27 = .ok (.dsub, 1) := by decide +kernel
theorem d13_28 : decode prog_7_method_5_code 28 = .ok (.ldc2_w 47, 3) := by decide +kernel
theorem d13_31 : decode prog_7_method_5_code 31 = .ok (.aload_n 0, 1) := by decide +kernel
theorem d13_32 : decode prog_7_method_5_code 32 = .ok (.getfield 17, 3) := by decide +kernel
theorem d13_35 : decode prog_7_method_5_code 35 = .ok (.l2d, 1) := by decide +kernel
theorem d13_36 : decode prog_7_method_5_code 36 = .ok (.dmul, 1) := by decide +kernel
theorem d13_37 : decode prog_7_method_5_code 37 = .ok (.dcmp .g, 1) := by decide +kernel
theorem d13_38 : decode prog_7_method_5_code 38 = .ok (.ifCond .ge 7, 3) := by decide +kernel
theorem d13_41 : decode prog_7_method_5_code 41 = .ok (.iconst 1, 1) := by decide +kernel
theorem d13_42 : decode prog_7_method_5_code 42 = .ok (.goto 4, 3) := by decide +kernel
theorem d13_45 : decode prog_7_method_5_code 45 = .ok (.iconst 0, 1) := by decide +kernel
theorem d13_46 : decode prog_7_method_5_code 46 = .ok (.ireturn, 1) := by decide +kernel
theorem pn_13 : plainName "com/example/tempe/tempe/estimate/CountBracket" = true := by first | (simp [plainName, overriddenIn]; done) | decide +kernel
theorem ef13 (m : MethodId) (o0 : Addr) : entryFrame m #[(.ref o0)] 1 = mkF m 0 #[rv o0] [] := by first | (simp [entryFrame, mkF, argsToLocals, Value.category]; done) | rfl
abbrev room_of_13 : Room := { frames := 0, cells := 0, slots := 0, locals := 0 }
def rv13 (w1 : UInt64) (w2 : UInt64) (w3 : Int64) : Int32 := (if (0 : Int32) < (cmpValue (FP.dcmp w2 w1) .g) then (if (cmpValue (FP.dcmp (FP.dsub w2 w1) (FP.dmul (4517329193108106637 : UInt64) (FP.l2d w3))) .g) < (0 : Int32) then (1 : Int32) else (0 : Int32)) else (1 : Int32))
def Q13 (Z : State) (o0 : Addr) (w1 : UInt64) (w2 : UInt64) (w3 : Int64) (h0 : Heap) (n0 : Nat) (v : Option Value) (h : Heap) (L : List Loc) : Prop := v = some (.int (rv13 w1 w2 w3)) ∧ L = [] ∧ h = h0
set_option maxRecDepth 65536 in
set_option maxHeartbeats 40000000 in
theorem rm13 (l : Launch) (Z : State) (a0 : Array Value) (hw : ∀ d ∈ tables_1, d.before a0 Z = true) (ws : List Jvm.Cond) (o0 : Addr) {w1 : UInt64} {w2 : UInt64} {w3 : Int64} (h0 : Heap) (n0 : Nat) (Z0 : n0 ≤ h0.size) (F_closed_o0 : Fld Z h0 o0 "com/example/tempe/tempe/estimate/CountBracket" "closed" "Z" (.int (0 : Int32))) (F_lower_o0 : Fld Z h0 o0 "com/example/tempe/tempe/estimate/CountBracket" "lower" "D" (.double w1)) (F_upper_o0 : Fld Z h0 o0 "com/example/tempe/tempe/estimate/CountBracket" "upper" "D" (.double w2)) (F_documents_o0 : Fld Z h0 o0 "com/example/tempe/tempe/estimate/CountBracket" "documents" "J" (.long w3)) (hn27 : ((0 : Int32) < (cmpValue (FP.dcmp w2 w1) .g)) → Jvm.Free.Fl.NoNaN64 (FP.dsub w2 w1)) (hn36 : ((0 : Int32) < (cmpValue (FP.dcmp w2 w1) .g)) → Jvm.Free.Fl.NoNaN64 (FP.dmul (4517329193108106637 : UInt64) (FP.l2d w3))) :
    MetFree l (⟨"com/example/tempe/tempe/estimate/CountBracket", "settled", "()Z"⟩ : MethodName) (head1 (Jvm.Cond.code (⟨"com/example/tempe/tempe/estimate/CountBracket", "settled", "()Z"⟩ : MethodName) prog_7_method_5_code 1 (some .boolean) :: ws) (room_of_13)) (fun a U => a = #[(.ref o0)] ∧ Z.Warmed39 U.vm ∧ U.heap = h0) (fun _ _ _ _ _ => True) (fun _ U o U' => ∃ v L, o = .returned v ∧ Q13 Z o0 w1 w2 w3 h0 n0 v U'.heap L ∧ FrameEnd U o U' L (room_of_13).cells (room_of_13).slots) := by
  refine MetFree.of_bodySF (plainFor_of_name pn_13) hisR ?_
  intro p e s m args below meth c s₁ Bd hml0 hP hK
  obtain ⟨rfl, hZ, hh⟩ := hP
  have hx := Bd.exec
  have hby := Bd.bytes
  have hml : c.maxLocals = 1 := hml0
  have hown : s.vm.findClass "com/example/tempe/tempe/estimate/CountBracket" = some m.cls := findClass_of_methodNamed Bd.named
  have hnm := (name_of_methodNamed Bd.named Bd.method).1
  have X0 : Stand p l e (room_of_13) s m #[(.ref o0)] below meth c s₁ [] 0 0 := Stand.of_body Bd
  have e0 : s₁.heap = h0 := by rw [← hh, Bd.state]; rfl
  have N0 := Fr.nil n0
  have G0 := gd X0 hx hby
  have pre0 : ∀ t, Steps p.tables e below (s₁.setTop (mkF m 0 #[rv o0] [])) t → Steps p.tables e below (s₁.setTop (entryFrame m #[(.ref o0)] 1)) t := fun t k => castTop (ef13 m o0) k
  obtain ⟨T1, X1, e1, st1⟩ := getF X0 hx hZ hown (host := "") (Or.inl (wd hw 66 rfl)) Via.refl e0 F_closed_o0 (g := (mkF m 1 #[rv o0] [(.ref o0)])) rfl rfl (hb hby d13_1)
  have G1 := gd X1 hx hby
  obtain ⟨T2, X2, e2, st2⟩ := getF X1 hx hZ hown (host := "") (Or.inl (wd hw 59 rfl)) Via.refl e1 F_upper_o0 (g := (mkF m 8 #[rv o0] [(.ref o0)])) rfl rfl (hb hby d13_8)
  have G2 := gd X2 hx hby
  obtain ⟨T3, X3, e3, st3⟩ := getF X2 hx hZ hown (host := "") (Or.inl (wd hw 57 rfl)) Via.refl e2 F_lower_o0 (g := (mkF m 12 #[rv o0] [(.ref o0), (.double w2)])) rfl rfl (hb hby d13_12)
  have G3 := gd X3 hx hby
  obtain ⟨T5, X5, e5, st5⟩ : ∃ T' : State, Stand p l e (room_of_13) s m #[(.ref o0)] below meth c T' [] 0 0 ∧ T'.heap = h0 ∧ ∀ target, Steps p.tables e below (T'.setTop (mkF m 46 #[rv o0] [(.int (if (0 : Int32) < (cmpValue (FP.dcmp w2 w1) .g) then (if (cmpValue (FP.dcmp (FP.dsub w2 w1) (FP.dmul (4517329193108106637 : UInt64) (FP.l2d w3))) .g) < (0 : Int32) then (1 : Int32) else (0 : Int32)) else (1 : Int32)))])) target → Steps p.tables e below (T3.setTop (mkF m 16 #[rv o0] [(.int (cmpValue (FP.dcmp w2 w1) .g))])) target := by
    by_cases hc16_4 : (0 : Int32) < (cmpValue (FP.dcmp w2 w1) .g)
    · obtain ⟨T6, X6, e6, st6⟩ := getF X3 hx hZ hown (host := "") (Or.inl (wd hw 59 rfl)) Via.refl e3 F_upper_o0 (g := (mkF m 20 #[rv o0] [(.ref o0)])) rfl rfl (hb hby d13_20)
      have G6 := gd X6 hx hby
      obtain ⟨T7, X7, e7, st7⟩ := getF X6 hx hZ hown (host := "") (Or.inl (wd hw 57 rfl)) Via.refl e6 F_lower_o0 (g := (mkF m 24 #[rv o0] [(.ref o0), (.double w2)])) rfl rfl (hb hby d13_24)
      have G7 := gd X7 hx hby
      obtain ⟨T8, X8, e8, st8⟩ := getF X7 hx hZ hown (host := "") (Or.inl (wd hw 24 rfl)) Via.refl e7 F_documents_o0 (g := (mkF m 32 #[rv o0] [(.ref o0), (.double (4517329193108106637 : UInt64)), (.double (FP.dsub w2 w1))])) rfl rfl (hb hby d13_32)
      have G8 := gd X8 hx hby
      by_cases hc38_9 : (cmpValue (FP.dcmp (FP.dsub w2 w1) (FP.dmul (4517329193108106637 : UInt64) (FP.l2d w3))) .g) < (0 : Int32)
      · refine ⟨T8, X8, e8, fun target kt => ?_⟩
        refine mifNo 19 G3 d13_16 ((if0 _ _).trans (tlt hc16_4).2.2.2) rfl ?_
        refine maloadN 20 G3 d13_19 rfl rfl rfl ?_
        refine st6 _ ?_
        show Steps p.tables e below (T6.setTop (mkF m 23 #[rv o0] [(.double w2)])) _
        refine maloadN 24 G6 d13_23 rfl rfl rfl ?_
        refine st7 _ ?_
        show Steps p.tables e below (T7.setTop (mkF m 27 #[rv o0] [(.double w1), (.double w2)])) _
        refine mdsub 28 G7 d13_27 (hn27 hc16_4) rfl ?_
        refine X7.ldc2DoubleC hx hown (mvT hZ (wd hw 69 rfl)) (g := (mkF m 28 #[rv o0] [(.double (FP.dsub w2 w1))])) rfl (hb hby d13_28) _ ?_
        show Steps p.tables e below (T7.setTop (mkF m 31 #[rv o0] [(.double (4517329193108106637 : UInt64)), (.double (FP.dsub w2 w1))])) _
        refine maloadN 32 G7 d13_31 rfl rfl rfl ?_
        refine st8 _ ?_
        show Steps p.tables e below (T8.setTop (mkF m 35 #[rv o0] [(.long w3), (.double (4517329193108106637 : UInt64)), (.double (FP.dsub w2 w1))])) _
        refine ml2d 36 G8 d13_35 rfl ?_
        refine mdmul 37 G8 d13_36 (hn36 hc16_4) rfl ?_
        refine mdcmp 38 G8 d13_37 rfl ?_
        refine mifNo 41 G8 d13_38 ((if0 _ _).trans (tlt hc38_9).2.1) rfl ?_
        refine miconst 42 G8 d13_41 (v := (1 : Int32)) rfl rfl ?_
        refine mgoto 46 G8 d13_42 (by decide) rfl ?_
        exact castTop (g' := (mkF m 46 #[rv o0] [(.int (if (0 : Int32) < (cmpValue (FP.dcmp w2 w1) .g) then (if (cmpValue (FP.dcmp (FP.dsub w2 w1) (FP.dmul (4517329193108106637 : UInt64) (FP.l2d w3))) .g) < (0 : Int32) then (1 : Int32) else (0 : Int32)) else (1 : Int32)))])) (by simp only [if_pos hc16_4, if_pos hc38_9]) kt
      · refine ⟨T8, X8, e8, fun target kt => ?_⟩
        refine mifNo 19 G3 d13_16 ((if0 _ _).trans (tlt hc16_4).2.2.2) rfl ?_
        refine maloadN 20 G3 d13_19 rfl rfl rfl ?_
        refine st6 _ ?_
        show Steps p.tables e below (T6.setTop (mkF m 23 #[rv o0] [(.double w2)])) _
        refine maloadN 24 G6 d13_23 rfl rfl rfl ?_
        refine st7 _ ?_
        show Steps p.tables e below (T7.setTop (mkF m 27 #[rv o0] [(.double w1), (.double w2)])) _
        refine mdsub 28 G7 d13_27 (hn27 hc16_4) rfl ?_
        refine X7.ldc2DoubleC hx hown (mvT hZ (wd hw 69 rfl)) (g := (mkF m 28 #[rv o0] [(.double (FP.dsub w2 w1))])) rfl (hb hby d13_28) _ ?_
        show Steps p.tables e below (T7.setTop (mkF m 31 #[rv o0] [(.double (4517329193108106637 : UInt64)), (.double (FP.dsub w2 w1))])) _
        refine maloadN 32 G7 d13_31 rfl rfl rfl ?_
        refine st8 _ ?_
        show Steps p.tables e below (T8.setTop (mkF m 35 #[rv o0] [(.long w3), (.double (4517329193108106637 : UInt64)), (.double (FP.dsub w2 w1))])) _
        refine ml2d 36 G8 d13_35 rfl ?_
        refine mdmul 37 G8 d13_36 (hn36 hc16_4) rfl ?_
        refine mdcmp 38 G8 d13_37 rfl ?_
        refine mifYes 45 G8 d13_38 ((if0 _ _).trans (flt hc38_9).2.1) (by decide) rfl ?_
        refine miconst 46 G8 d13_45 (v := (0 : Int32)) rfl rfl ?_
        exact castTop (g' := (mkF m 46 #[rv o0] [(.int (if (0 : Int32) < (cmpValue (FP.dcmp w2 w1) .g) then (if (cmpValue (FP.dcmp (FP.dsub w2 w1) (FP.dmul (4517329193108106637 : UInt64) (FP.l2d w3))) .g) < (0 : Int32) then (1 : Int32) else (0 : Int32)) else (1 : Int32)))])) (by simp only [if_pos hc16_4, if_neg hc38_9]) kt
    · refine ⟨T3, X3, e3, fun target kt => ?_⟩
      refine mifYes 41 G3 d13_16 ((if0 _ _).trans (flt hc16_4).2.2.2) (by decide) rfl ?_
      refine miconst 42 G3 d13_41 (v := (1 : Int32)) rfl rfl ?_
      refine mgoto 46 G3 d13_42 (by decide) rfl ?_
      exact castTop (g' := (mkF m 46 #[rv o0] [(.int (if (0 : Int32) < (cmpValue (FP.dcmp w2 w1) .g) then (if (cmpValue (FP.dcmp (FP.dsub w2 w1) (FP.dmul (4517329193108106637 : UInt64) (FP.l2d w3))) .g) < (0 : Int32) then (1 : Int32) else (0 : Int32)) else (1 : Int32)))])) (by simp only [if_neg hc16_4]) kt
  have G5 := gd X5 hx hby
  obtain ⟨fs, hr, hrun, hended, hW, hsame⟩ := X5.leave (v := some (.int (if (0 : Int32) < (cmpValue (FP.dcmp w2 w1) .g) then (if (cmpValue (FP.dcmp (FP.dsub w2 w1) (FP.dmul (4517329193108106637 : UInt64) (FP.l2d w3))) .g) < (0 : Int32) then (1 : Int32) else (0 : Int32)) else (1 : Int32)))) (fun h => by rw [Bd.returns] at h; cases h)
  refine ⟨_, _, pre0 _ ?_, hrun, hended, _, _, rfl, ?_, ⟨_, rfl⟩, hW, hsame.mono (by decide) (by decide)⟩
  · show Steps p.tables e below (s₁.setTop (mkF m 0 #[rv o0] [])) _
    refine maloadN 1 G0 d13_0 rfl rfl rfl ?_
    refine st1 _ ?_
    show Steps p.tables e below (T1.setTop (mkF m 4 #[rv o0] [(.int (0 : Int32))])) _
    refine mifNo 7 G1 d13_4 ((if0 _ _).trans (teq (by decide : (0 : Int32) = (0 : Int32))).2) rfl ?_
    refine maloadN 8 G1 d13_7 rfl rfl rfl ?_
    refine st2 _ ?_
    show Steps p.tables e below (T2.setTop (mkF m 11 #[rv o0] [(.double w2)])) _
    refine maloadN 12 G2 d13_11 rfl rfl rfl ?_
    refine st3 _ ?_
    show Steps p.tables e below (T3.setTop (mkF m 15 #[rv o0] [(.double w1), (.double w2)])) _
    refine mdcmp 16 G3 d13_15 rfl ?_
    refine st5 _ ?_
    exact retOut X5 hx Bd.returns (by first | rfl | ((repeat' split) <;> rfl)) (Or.inl ⟨rfl, by simp, _, rfl⟩) (hb hby d13_46) hr
  · show Q13 Z o0 w1 w2 w3 h0 n0 _ T5.heap _
    rw [e5]
    exact ⟨by simp only [rv13], rfl, rfl⟩
theorem own_cnt {x1 x2 x3 x4 x5 x6 x7 x8 c0 c1 c2 c3 c4 c5 c6 : Int64} (b1 : 0 ≤ x1.toInt ∧ x1.toInt < 2147483648) (b2 : 0 ≤ x2.toInt ∧ x2.toInt < 2147483648) (b3 : 0 ≤ x3.toInt ∧ x3.toInt < 2147483648) (b4 : 0 ≤ x4.toInt ∧ x4.toInt < 2147483648) (b5 : 0 ≤ x5.toInt ∧ x5.toInt < 2147483648) (b6 : 0 ≤ x6.toInt ∧ x6.toInt < 2147483648) (b7 : 0 ≤ x7.toInt ∧ x7.toInt < 2147483648) (b8 : 0 ≤ x8.toInt ∧ x8.toInt < 2147483648) (e0 : c0 = (((((((x2 + x3) + x4) + x6) + x5) + x7) + x8) + x1)) (e1 : c1 = (((x3 + x6) + x7) + x1)) (e2 : c2 = (((x4 + x6) + x8) + x1)) (e3 : c3 = (x6 + x1)) (e4 : c4 = (((x5 + x7) + x8) + x1)) (e5 : c5 = (x7 + x1)) (e6 : c6 = (x8 + x1)) : c0.toInt = (((((((x2.toInt + x3.toInt) + x4.toInt) + x6.toInt) + x5.toInt) + x7.toInt) + x8.toInt) + x1.toInt) ∧ c1.toInt = (((x3.toInt + x6.toInt) + x7.toInt) + x1.toInt) ∧ c2.toInt = (((x4.toInt + x6.toInt) + x8.toInt) + x1.toInt) ∧ c3.toInt = (x6.toInt + x1.toInt) ∧ c4.toInt = (((x5.toInt + x7.toInt) + x8.toInt) + x1.toInt) ∧ c5.toInt = (x7.toInt + x1.toInt) ∧ c6.toInt = (x8.toInt + x1.toInt) := by
  obtain ⟨a1, a1'⟩ := b1
  obtain ⟨a2, a2'⟩ := b2
  obtain ⟨a3, a3'⟩ := b3
  obtain ⟨a4, a4'⟩ := b4
  obtain ⟨a5, a5'⟩ := b5
  obtain ⟨a6, a6'⟩ := b6
  obtain ⟨a7, a7'⟩ := b7
  obtain ⟨a8, a8'⟩ := b8
  subst e0 e1 e2 e3 e4 e5 e6
  refine ⟨(own_tA' (own_tA' (own_tA' (own_tA' (own_tA' (own_tA' (own_tA' rfl rfl (by omega) (by omega)) rfl (by omega) (by omega)) rfl (by omega) (by omega)) rfl (by omega) (by omega)) rfl (by omega) (by omega)) rfl (by omega) (by omega)) rfl (by omega) (by omega)), (own_tA' (own_tA' (own_tA' rfl rfl (by omega) (by omega)) rfl (by omega) (by omega)) rfl (by omega) (by omega)), (own_tA' (own_tA' (own_tA' rfl rfl (by omega) (by omega)) rfl (by omega) (by omega)) rfl (by omega) (by omega)), (own_tA' rfl rfl (by omega) (by omega)), (own_tA' (own_tA' (own_tA' rfl rfl (by omega) (by omega)) rfl (by omega) (by omega)) rfl (by omega) (by omega)), (own_tA' rfl rfl (by omega) (by omega)), (own_tA' rfl rfl (by omega) (by omega))⟩
theorem own_max (a b : Int64) : (rv12 a b).toInt = max a.toInt b.toInt := by
  unfold rv12
  simp only [lw_lt, Int64.lt_iff_toInt_lt]
  split <;> omega
theorem own_min (a b : Int64) : (rv2 a b).toInt = min a.toInt b.toInt := by
  unfold rv2
  simp only [lw_gt, Int64.lt_iff_toInt_lt]
  split <;> omega
theorem own_min3 (a b c d : Int64) : (rv2 a (rv2 b (rv2 c d))).toInt = min a.toInt (min b.toInt (min c.toInt d.toInt)) := by
  rw [own_min, own_min, own_min]
theorem own_min4 (a b c d : Int64) : (rv2 (rv2 a b) (rv2 c d)).toInt = min (min a.toInt b.toInt) (min c.toInt d.toInt) := by
  rw [own_min, own_min, own_min]
theorem own_LH {x1 x2 x3 x4 x5 x6 x7 x8 c0 c1 c2 c3 c4 c5 c6 : Int64} (b1 : 0 ≤ x1.toInt ∧ x1.toInt < 2147483648) (b2 : 0 ≤ x2.toInt ∧ x2.toInt < 2147483648) (b3 : 0 ≤ x3.toInt ∧ x3.toInt < 2147483648) (b4 : 0 ≤ x4.toInt ∧ x4.toInt < 2147483648) (b5 : 0 ≤ x5.toInt ∧ x5.toInt < 2147483648) (b6 : 0 ≤ x6.toInt ∧ x6.toInt < 2147483648) (b7 : 0 ≤ x7.toInt ∧ x7.toInt < 2147483648) (b8 : 0 ≤ x8.toInt ∧ x8.toInt < 2147483648) (C0 : c0.toInt = (((((((x2.toInt + x3.toInt) + x4.toInt) + x6.toInt) + x5.toInt) + x7.toInt) + x8.toInt) + x1.toInt)) (C1 : c1.toInt = (((x3.toInt + x6.toInt) + x7.toInt) + x1.toInt)) (C2 : c2.toInt = (((x4.toInt + x6.toInt) + x8.toInt) + x1.toInt)) (C3 : c3.toInt = (x6.toInt + x1.toInt)) (C4 : c4.toInt = (((x5.toInt + x7.toInt) + x8.toInt) + x1.toInt)) (C5 : c5.toInt = (x7.toInt + x1.toInt)) (C6 : c6.toInt = (x8.toInt + x1.toInt)) : (rv12 (rv12 (rv12 (0 : Int64) (-(rv9_4 c5 c6 c4))) (-(rv9_2 c3 c6 c2))) (-(rv9_1 c3 c5 c1))).toInt = x1.toInt - min x1.toInt (min x3.toInt (min x4.toInt x5.toInt)) ∧ (rv2 (rv2 (rv2 (rv2 (9223372036854775807 : Int64) (rv9_6 c6)) (rv9_5 c5)) (rv9_3 c3)) (rv9_0 c1 c2 c4 c0 c3 c5 c6)).toInt = x1.toInt + min x2.toInt (min x6.toInt (min x7.toInt x8.toInt)) := by
  obtain ⟨a1, a1'⟩ := b1
  obtain ⟨a2, a2'⟩ := b2
  obtain ⟨a3, a3'⟩ := b3
  obtain ⟨a4, a4'⟩ := b4
  obtain ⟨a5, a5'⟩ := b5
  obtain ⟨a6, a6'⟩ := b6
  obtain ⟨a7, a7'⟩ := b7
  obtain ⟨a8, a8'⟩ := b8
  have r4 : (rv9_4 c5 c6 c4).toInt = _ := ((own_tA' (own_tS' (own_tS' own_t0 C6 (by omega) (by omega)) C5 (by omega) (by omega)) C4 (by omega) (by omega)) : (((((0 : Int64) - c6) - c5) + c4 : Int64)).toInt = _)
  have r2 : (rv9_2 c3 c6 c2).toInt = _ := ((own_tA' (own_tS' (own_tS' own_t0 C6 (by omega) (by omega)) C3 (by omega) (by omega)) C2 (by omega) (by omega)) : (((((0 : Int64) - c6) - c3) + c2 : Int64)).toInt = _)
  have r1 : (rv9_1 c3 c5 c1).toInt = _ := ((own_tA' (own_tS' (own_tS' own_t0 C5 (by omega) (by omega)) C3 (by omega) (by omega)) C1 (by omega) (by omega)) : (((((0 : Int64) - c5) - c3) + c1 : Int64)).toInt = _)
  have r6 : (rv9_6 c6).toInt = _ := ((own_tA' own_t0 C6 (by omega) (by omega)) : (((0 : Int64) + c6 : Int64)).toInt = _)
  have r5 : (rv9_5 c5).toInt = _ := ((own_tA' own_t0 C5 (by omega) (by omega)) : (((0 : Int64) + c5 : Int64)).toInt = _)
  have r3 : (rv9_3 c3).toInt = _ := ((own_tA' own_t0 C3 (by omega) (by omega)) : (((0 : Int64) + c3 : Int64)).toInt = _)
  have r0 : (rv9_0 c1 c2 c4 c0 c3 c5 c6).toInt = _ := ((own_tA' (own_tS' (own_tS' (own_tA' (own_tS' (own_tA' (own_tA' own_t0 C6 (by omega) (by omega)) C5 (by omega) (by omega)) C4 (by omega) (by omega)) C3 (by omega) (by omega)) C2 (by omega) (by omega)) C1 (by omega) (by omega)) C0 (by omega) (by omega)) : (((((((((0 : Int64) + c6) + c5) - c4) + c3) - c2) - c1) + c0 : Int64)).toInt = _)
  have n4 := own_tN' r4 (by omega)
  have n2 := own_tN' r2 (by omega)
  have n1 := own_tN' r1 (by omega)
  have mx : (9223372036854775807 : Int64).toInt = 9223372036854775807 := rfl
  constructor
  · rw [own_max, own_max, own_max, n4, n2, n1, own_t0]; omega
  · rw [own_min, own_min, own_min, own_min, r6, r5, r3, r0, mx]; omega

theorem own_cell {x q : Int64} {p k : Int32} (h : x = rv1 q p k) : 0 ≤ x.toInt ∧ x.toInt < 2147483648 := by
  have e : (q &&& (2147483647 : Int64)).toInt = q.toInt % 2147483648 := Jvm.Kit.i64_mask q _ (k := 31) (by decide) (by decide)
  have e3 : ((q &&& (2147483647 : Int64)) &&& (3 : Int64)).toInt = (q &&& (2147483647 : Int64)).toInt % 4 := Jvm.Kit.i64_mask _ _ (k := 2) (by decide) (by decide)
  rw [h]; unfold rv1
  split <;> omega
theorem own_wfin : Jvm.FP.Core.DFin 4517329193108106637 := (Jvm.FP.Core.fin_bits _).mpr (by decide)
theorem own_nnm (a : Int64) : Jvm.Free.Fl.NoNaN64 (FP.dmul 4517329193108106637 (FP.l2d a)) := OwnFl.no_of (OwnFl.mul_nan own_wfin (Jvm.FP.Core.l2d_fin a))
theorem own_nns (a b : Int64) : Jvm.Free.Fl.NoNaN64 (FP.dsub (FP.l2d a) (FP.l2d b)) := OwnFl.no_of (OwnFl.sub_nan (Jvm.FP.Core.l2d_fin a) (Jvm.FP.Core.l2d_fin b))
theorem pd_6 : parseMethodDescriptor "(JII)J" = some ⟨[.long, .int, .int], some .long⟩ := by decide +kernel
theorem pd_7 : parseMethodDescriptor "()Z" = some ⟨[], some .boolean⟩ := by decide +kernel
theorem pn_0 : plainName "com/example/tempe/tempe/estimate/CountBracketSettledPinLaw" = true := by first | (simp [plainName, overriddenIn]; done) | decide +kernel
theorem ef0 (m : MethodId) (q0 : Int64) (q1 : Int64) (q2 : Int64) (q3 : Int64) (p4 : Int32) : entryFrame m #[(.long q0), (.long q1), (.long q2), (.long q3), (.int p4)] maxLocals = mkF m 0 #[lv q0, .second, lv q1, .second, lv q2, .second, lv q3, .second, iv p4, .unset, .unset, .unset, .unset, .unset, .unset, .unset, .unset, .unset, .unset, .unset, .unset, .unset, .unset, .unset, .unset, .unset, .unset, .unset, .unset, .unset, .unset, .unset, .unset, .unset] [] := by first | (simp [entryFrame, mkF, argsToLocals, Value.category, maxLocals]; done) | rfl
def Q0 (Z : State) (q0 : Int64) (q1 : Int64) (q2 : Int64) (q3 : Int64) (p4 : Int32) (h0 : Heap) (n0 : Nat) (v : Option Value) (h : Heap) (L : List Loc) : Prop := v = some (.int 1) ∧ Fr n0 L
theorem own_rm0_hn337 (q0 : Int64) (q1 : Int64) (q2 : Int64) (q3 : Int64) (p4 : Int32) (x2 : Int64) (hx2 : x2 = (rv1 q0 p4 (0 : Int32))) (x4 : Int64) (hx4 : x4 = (rv1 ((q0.toUInt64 >>> ((32 : Int32) &&& 0x3f).toInt64.toUInt64).toInt64) p4 (1 : Int32))) (x6 : Int64) (hx6 : x6 = (rv1 q1 p4 (2 : Int32))) (x8 : Int64) (hx8 : x8 = (rv1 ((q1.toUInt64 >>> ((32 : Int32) &&& 0x3f).toInt64.toUInt64).toInt64) p4 (3 : Int32))) (x10 : Int64) (hx10 : x10 = (rv1 q2 p4 (4 : Int32))) (x12 : Int64) (hx12 : x12 = (rv1 ((q2.toUInt64 >>> ((32 : Int32) &&& 0x3f).toInt64.toUInt64).toInt64) p4 (5 : Int32))) (x14 : Int64) (hx14 : x14 = (rv1 q3 p4 (6 : Int32))) (x16 : Int64) (hx16 : x16 = (rv1 ((q3.toUInt64 >>> ((32 : Int32) &&& 0x3f).toInt64.toUInt64).toInt64) p4 (7 : Int32))) (x19 : Int64) (hx19 : x19 = (((((((x2 + x4) + x6) + x8) + x10) + x12) + x14) + x16)) (x23 : Int64) (hx23 : x23 = (((x4 + x8) + x12) + x16)) (x27 : Int64) (hx27 : x27 = (((x6 + x8) + x14) + x16)) (x31 : Int64) (hx31 : x31 = (x8 + x16)) (x35 : Int64) (hx35 : x35 = (((x10 + x12) + x14) + x16)) (x39 : Int64) (hx39 : x39 = (x12 + x16)) (x43 : Int64) (hx43 : x43 = (x14 + x16)) (x53 : Int64) (hx53 : x53 = (rv2 (rv2 x16 x4) (rv2 x6 x10))) (x57 : Int64) (hx57 : x57 = (rv2 (rv2 x2 x8) (rv2 x12 x14))) (x58 : Int64) (hx58 : x58 = (x53 + x57)) (hc97_17 : ((((p4.toUInt32 >>> ((8 : Int32) &&& 31).toUInt32).toInt32) &&& (1 : Int32)) = (0 : Int32))) (hc323_59 : (¬ ((lcmpW x58 (0 : Int64)) = (0 : Int32)))) : Jvm.Free.Fl.NoNaN64 (FP.dmul (4517329193108106637 : UInt64) (FP.l2d x19)) := own_nnm _
theorem own_rm0_hp_hp_hp_hf45_19_23_356 (q0 : Int64) (q1 : Int64) (q2 : Int64) (q3 : Int64) (p4 : Int32) (x2 : Int64) (hx2 : x2 = (rv1 q0 p4 (0 : Int32))) (x4 : Int64) (hx4 : x4 = (rv1 ((q0.toUInt64 >>> ((32 : Int32) &&& 0x3f).toInt64.toUInt64).toInt64) p4 (1 : Int32))) (x6 : Int64) (hx6 : x6 = (rv1 q1 p4 (2 : Int32))) (x8 : Int64) (hx8 : x8 = (rv1 ((q1.toUInt64 >>> ((32 : Int32) &&& 0x3f).toInt64.toUInt64).toInt64) p4 (3 : Int32))) (x10 : Int64) (hx10 : x10 = (rv1 q2 p4 (4 : Int32))) (x12 : Int64) (hx12 : x12 = (rv1 ((q2.toUInt64 >>> ((32 : Int32) &&& 0x3f).toInt64.toUInt64).toInt64) p4 (5 : Int32))) (x14 : Int64) (hx14 : x14 = (rv1 q3 p4 (6 : Int32))) (x16 : Int64) (hx16 : x16 = (rv1 ((q3.toUInt64 >>> ((32 : Int32) &&& 0x3f).toInt64.toUInt64).toInt64) p4 (7 : Int32))) (x19 : Int64) (hx19 : x19 = (((((((x2 + x4) + x6) + x8) + x10) + x12) + x14) + x16)) (x23 : Int64) (hx23 : x23 = (((x4 + x8) + x12) + x16)) (x27 : Int64) (hx27 : x27 = (((x6 + x8) + x14) + x16)) (x31 : Int64) (hx31 : x31 = (x8 + x16)) (x35 : Int64) (hx35 : x35 = (((x10 + x12) + x14) + x16)) (x39 : Int64) (hx39 : x39 = (x12 + x16)) (x43 : Int64) (hx43 : x43 = (x14 + x16)) (x53 : Int64) (hx53 : x53 = (rv2 (rv2 x16 x4) (rv2 x6 x10))) (x57 : Int64) (hx57 : x57 = (rv2 (rv2 x2 x8) (rv2 x12 x14))) (x58 : Int64) (hx58 : x58 = (x53 + x57)) (x61 : Int32) (hx61 : x61 = (if (lcmpW x58 (0 : Int64)) = (0 : Int32) then (1 : Int32) else (if (cmpValue (FP.dcmp (FP.l2d x58) (FP.dmul (4517329193108106637 : UInt64) (FP.l2d x19))) .g) < (0 : Int32) then (1 : Int32) else (0 : Int32)))) (hc97_17 : ((((p4.toUInt32 >>> ((8 : Int32) &&& 31).toUInt32).toInt32) &&& (1 : Int32)) = (0 : Int32))) : ¬ ((lcmpW x31 (0 : Int64)) < (0 : Int32)) := by
  obtain ⟨C0, C1, C2, C3, C4, C5, C6⟩ := own_cnt (own_cell hx16) (own_cell hx2) (own_cell hx4) (own_cell hx6) (own_cell hx10) (own_cell hx8) (own_cell hx12) (own_cell hx14) hx19 hx23 hx27 hx31 hx35 hx39 hx43
  obtain ⟨b0, b0'⟩ := own_cell hx2
  obtain ⟨b1, b1'⟩ := own_cell hx4
  obtain ⟨b2, b2'⟩ := own_cell hx6
  obtain ⟨b3, b3'⟩ := own_cell hx8
  obtain ⟨b4, b4'⟩ := own_cell hx10
  obtain ⟨b5, b5'⟩ := own_cell hx12
  obtain ⟨b6, b6'⟩ := own_cell hx14
  obtain ⟨b7, b7'⟩ := own_cell hx16
  have h : (x31 : Int64).toInt = _ := C3
  rw [own_sgn, h]; omega
theorem own_rm0_hp_hp_hp_hf52_19_23_356 (q0 : Int64) (q1 : Int64) (q2 : Int64) (q3 : Int64) (p4 : Int32) (x2 : Int64) (hx2 : x2 = (rv1 q0 p4 (0 : Int32))) (x4 : Int64) (hx4 : x4 = (rv1 ((q0.toUInt64 >>> ((32 : Int32) &&& 0x3f).toInt64.toUInt64).toInt64) p4 (1 : Int32))) (x6 : Int64) (hx6 : x6 = (rv1 q1 p4 (2 : Int32))) (x8 : Int64) (hx8 : x8 = (rv1 ((q1.toUInt64 >>> ((32 : Int32) &&& 0x3f).toInt64.toUInt64).toInt64) p4 (3 : Int32))) (x10 : Int64) (hx10 : x10 = (rv1 q2 p4 (4 : Int32))) (x12 : Int64) (hx12 : x12 = (rv1 ((q2.toUInt64 >>> ((32 : Int32) &&& 0x3f).toInt64.toUInt64).toInt64) p4 (5 : Int32))) (x14 : Int64) (hx14 : x14 = (rv1 q3 p4 (6 : Int32))) (x16 : Int64) (hx16 : x16 = (rv1 ((q3.toUInt64 >>> ((32 : Int32) &&& 0x3f).toInt64.toUInt64).toInt64) p4 (7 : Int32))) (x19 : Int64) (hx19 : x19 = (((((((x2 + x4) + x6) + x8) + x10) + x12) + x14) + x16)) (x23 : Int64) (hx23 : x23 = (((x4 + x8) + x12) + x16)) (x27 : Int64) (hx27 : x27 = (((x6 + x8) + x14) + x16)) (x31 : Int64) (hx31 : x31 = (x8 + x16)) (x35 : Int64) (hx35 : x35 = (((x10 + x12) + x14) + x16)) (x39 : Int64) (hx39 : x39 = (x12 + x16)) (x43 : Int64) (hx43 : x43 = (x14 + x16)) (x53 : Int64) (hx53 : x53 = (rv2 (rv2 x16 x4) (rv2 x6 x10))) (x57 : Int64) (hx57 : x57 = (rv2 (rv2 x2 x8) (rv2 x12 x14))) (x58 : Int64) (hx58 : x58 = (x53 + x57)) (x61 : Int32) (hx61 : x61 = (if (lcmpW x58 (0 : Int64)) = (0 : Int32) then (1 : Int32) else (if (cmpValue (FP.dcmp (FP.l2d x58) (FP.dmul (4517329193108106637 : UInt64) (FP.l2d x19))) .g) < (0 : Int32) then (1 : Int32) else (0 : Int32)))) (hc97_17 : ((((p4.toUInt32 >>> ((8 : Int32) &&& 31).toUInt32).toInt32) &&& (1 : Int32)) = (0 : Int32))) : ¬ ((lcmpW (x23 - x31) (0 : Int64)) < (0 : Int32)) := by
  obtain ⟨C0, C1, C2, C3, C4, C5, C6⟩ := own_cnt (own_cell hx16) (own_cell hx2) (own_cell hx4) (own_cell hx6) (own_cell hx10) (own_cell hx8) (own_cell hx12) (own_cell hx14) hx19 hx23 hx27 hx31 hx35 hx39 hx43
  obtain ⟨b0, b0'⟩ := own_cell hx2
  obtain ⟨b1, b1'⟩ := own_cell hx4
  obtain ⟨b2, b2'⟩ := own_cell hx6
  obtain ⟨b3, b3'⟩ := own_cell hx8
  obtain ⟨b4, b4'⟩ := own_cell hx10
  obtain ⟨b5, b5'⟩ := own_cell hx12
  obtain ⟨b6, b6'⟩ := own_cell hx14
  obtain ⟨b7, b7'⟩ := own_cell hx16
  have h : ((x23 - x31) : Int64).toInt = _ := (own_tS' C1 C3 (by omega) (by omega))
  rw [own_sgn, h]; omega
theorem own_rm0_hp_hp_hp_hf59_19_23_356 (q0 : Int64) (q1 : Int64) (q2 : Int64) (q3 : Int64) (p4 : Int32) (x2 : Int64) (hx2 : x2 = (rv1 q0 p4 (0 : Int32))) (x4 : Int64) (hx4 : x4 = (rv1 ((q0.toUInt64 >>> ((32 : Int32) &&& 0x3f).toInt64.toUInt64).toInt64) p4 (1 : Int32))) (x6 : Int64) (hx6 : x6 = (rv1 q1 p4 (2 : Int32))) (x8 : Int64) (hx8 : x8 = (rv1 ((q1.toUInt64 >>> ((32 : Int32) &&& 0x3f).toInt64.toUInt64).toInt64) p4 (3 : Int32))) (x10 : Int64) (hx10 : x10 = (rv1 q2 p4 (4 : Int32))) (x12 : Int64) (hx12 : x12 = (rv1 ((q2.toUInt64 >>> ((32 : Int32) &&& 0x3f).toInt64.toUInt64).toInt64) p4 (5 : Int32))) (x14 : Int64) (hx14 : x14 = (rv1 q3 p4 (6 : Int32))) (x16 : Int64) (hx16 : x16 = (rv1 ((q3.toUInt64 >>> ((32 : Int32) &&& 0x3f).toInt64.toUInt64).toInt64) p4 (7 : Int32))) (x19 : Int64) (hx19 : x19 = (((((((x2 + x4) + x6) + x8) + x10) + x12) + x14) + x16)) (x23 : Int64) (hx23 : x23 = (((x4 + x8) + x12) + x16)) (x27 : Int64) (hx27 : x27 = (((x6 + x8) + x14) + x16)) (x31 : Int64) (hx31 : x31 = (x8 + x16)) (x35 : Int64) (hx35 : x35 = (((x10 + x12) + x14) + x16)) (x39 : Int64) (hx39 : x39 = (x12 + x16)) (x43 : Int64) (hx43 : x43 = (x14 + x16)) (x53 : Int64) (hx53 : x53 = (rv2 (rv2 x16 x4) (rv2 x6 x10))) (x57 : Int64) (hx57 : x57 = (rv2 (rv2 x2 x8) (rv2 x12 x14))) (x58 : Int64) (hx58 : x58 = (x53 + x57)) (x61 : Int32) (hx61 : x61 = (if (lcmpW x58 (0 : Int64)) = (0 : Int32) then (1 : Int32) else (if (cmpValue (FP.dcmp (FP.l2d x58) (FP.dmul (4517329193108106637 : UInt64) (FP.l2d x19))) .g) < (0 : Int32) then (1 : Int32) else (0 : Int32)))) (hc97_17 : ((((p4.toUInt32 >>> ((8 : Int32) &&& 31).toUInt32).toInt32) &&& (1 : Int32)) = (0 : Int32))) : ¬ ((lcmpW (x27 - x31) (0 : Int64)) < (0 : Int32)) := by
  obtain ⟨C0, C1, C2, C3, C4, C5, C6⟩ := own_cnt (own_cell hx16) (own_cell hx2) (own_cell hx4) (own_cell hx6) (own_cell hx10) (own_cell hx8) (own_cell hx12) (own_cell hx14) hx19 hx23 hx27 hx31 hx35 hx39 hx43
  obtain ⟨b0, b0'⟩ := own_cell hx2
  obtain ⟨b1, b1'⟩ := own_cell hx4
  obtain ⟨b2, b2'⟩ := own_cell hx6
  obtain ⟨b3, b3'⟩ := own_cell hx8
  obtain ⟨b4, b4'⟩ := own_cell hx10
  obtain ⟨b5, b5'⟩ := own_cell hx12
  obtain ⟨b6, b6'⟩ := own_cell hx14
  obtain ⟨b7, b7'⟩ := own_cell hx16
  have h : ((x27 - x31) : Int64).toInt = _ := (own_tS' C2 C3 (by omega) (by omega))
  rw [own_sgn, h]; omega
theorem own_rm0_hp_hp_hp_hf66_19_23_356 (q0 : Int64) (q1 : Int64) (q2 : Int64) (q3 : Int64) (p4 : Int32) (x2 : Int64) (hx2 : x2 = (rv1 q0 p4 (0 : Int32))) (x4 : Int64) (hx4 : x4 = (rv1 ((q0.toUInt64 >>> ((32 : Int32) &&& 0x3f).toInt64.toUInt64).toInt64) p4 (1 : Int32))) (x6 : Int64) (hx6 : x6 = (rv1 q1 p4 (2 : Int32))) (x8 : Int64) (hx8 : x8 = (rv1 ((q1.toUInt64 >>> ((32 : Int32) &&& 0x3f).toInt64.toUInt64).toInt64) p4 (3 : Int32))) (x10 : Int64) (hx10 : x10 = (rv1 q2 p4 (4 : Int32))) (x12 : Int64) (hx12 : x12 = (rv1 ((q2.toUInt64 >>> ((32 : Int32) &&& 0x3f).toInt64.toUInt64).toInt64) p4 (5 : Int32))) (x14 : Int64) (hx14 : x14 = (rv1 q3 p4 (6 : Int32))) (x16 : Int64) (hx16 : x16 = (rv1 ((q3.toUInt64 >>> ((32 : Int32) &&& 0x3f).toInt64.toUInt64).toInt64) p4 (7 : Int32))) (x19 : Int64) (hx19 : x19 = (((((((x2 + x4) + x6) + x8) + x10) + x12) + x14) + x16)) (x23 : Int64) (hx23 : x23 = (((x4 + x8) + x12) + x16)) (x27 : Int64) (hx27 : x27 = (((x6 + x8) + x14) + x16)) (x31 : Int64) (hx31 : x31 = (x8 + x16)) (x35 : Int64) (hx35 : x35 = (((x10 + x12) + x14) + x16)) (x39 : Int64) (hx39 : x39 = (x12 + x16)) (x43 : Int64) (hx43 : x43 = (x14 + x16)) (x53 : Int64) (hx53 : x53 = (rv2 (rv2 x16 x4) (rv2 x6 x10))) (x57 : Int64) (hx57 : x57 = (rv2 (rv2 x2 x8) (rv2 x12 x14))) (x58 : Int64) (hx58 : x58 = (x53 + x57)) (x61 : Int32) (hx61 : x61 = (if (lcmpW x58 (0 : Int64)) = (0 : Int32) then (1 : Int32) else (if (cmpValue (FP.dcmp (FP.l2d x58) (FP.dmul (4517329193108106637 : UInt64) (FP.l2d x19))) .g) < (0 : Int32) then (1 : Int32) else (0 : Int32)))) (hc97_17 : ((((p4.toUInt32 >>> ((8 : Int32) &&& 31).toUInt32).toInt32) &&& (1 : Int32)) = (0 : Int32))) : ¬ ((lcmpW ((x19 - x23) - (x27 - x31)) (0 : Int64)) < (0 : Int32)) := by
  obtain ⟨C0, C1, C2, C3, C4, C5, C6⟩ := own_cnt (own_cell hx16) (own_cell hx2) (own_cell hx4) (own_cell hx6) (own_cell hx10) (own_cell hx8) (own_cell hx12) (own_cell hx14) hx19 hx23 hx27 hx31 hx35 hx39 hx43
  obtain ⟨b0, b0'⟩ := own_cell hx2
  obtain ⟨b1, b1'⟩ := own_cell hx4
  obtain ⟨b2, b2'⟩ := own_cell hx6
  obtain ⟨b3, b3'⟩ := own_cell hx8
  obtain ⟨b4, b4'⟩ := own_cell hx10
  obtain ⟨b5, b5'⟩ := own_cell hx12
  obtain ⟨b6, b6'⟩ := own_cell hx14
  obtain ⟨b7, b7'⟩ := own_cell hx16
  have h : (((x19 - x23) - (x27 - x31)) : Int64).toInt = _ := (own_tS' (own_tS' C0 C1 (by omega) (by omega)) (own_tS' C2 C3 (by omega) (by omega)) (by omega) (by omega))
  rw [own_sgn, h]; omega
theorem own_rm0_hp_hp_hp_hf45_19_23_356_1 (q0 : Int64) (q1 : Int64) (q2 : Int64) (q3 : Int64) (p4 : Int32) (x2 : Int64) (hx2 : x2 = (rv1 q0 p4 (0 : Int32))) (x4 : Int64) (hx4 : x4 = (rv1 ((q0.toUInt64 >>> ((32 : Int32) &&& 0x3f).toInt64.toUInt64).toInt64) p4 (1 : Int32))) (x6 : Int64) (hx6 : x6 = (rv1 q1 p4 (2 : Int32))) (x8 : Int64) (hx8 : x8 = (rv1 ((q1.toUInt64 >>> ((32 : Int32) &&& 0x3f).toInt64.toUInt64).toInt64) p4 (3 : Int32))) (x10 : Int64) (hx10 : x10 = (rv1 q2 p4 (4 : Int32))) (x12 : Int64) (hx12 : x12 = (rv1 ((q2.toUInt64 >>> ((32 : Int32) &&& 0x3f).toInt64.toUInt64).toInt64) p4 (5 : Int32))) (x14 : Int64) (hx14 : x14 = (rv1 q3 p4 (6 : Int32))) (x16 : Int64) (hx16 : x16 = (rv1 ((q3.toUInt64 >>> ((32 : Int32) &&& 0x3f).toInt64.toUInt64).toInt64) p4 (7 : Int32))) (x19 : Int64) (hx19 : x19 = (((((((x2 + x4) + x6) + x8) + x10) + x12) + x14) + x16)) (x23 : Int64) (hx23 : x23 = (((x4 + x8) + x12) + x16)) (x27 : Int64) (hx27 : x27 = (((x6 + x8) + x14) + x16)) (x31 : Int64) (hx31 : x31 = (x8 + x16)) (x35 : Int64) (hx35 : x35 = (((x10 + x12) + x14) + x16)) (x39 : Int64) (hx39 : x39 = (x12 + x16)) (x43 : Int64) (hx43 : x43 = (x14 + x16)) (x53 : Int64) (hx53 : x53 = (rv2 (rv2 x16 x4) (rv2 x6 x10))) (x57 : Int64) (hx57 : x57 = (rv2 (rv2 x2 x8) (rv2 x12 x14))) (x58 : Int64) (hx58 : x58 = (x53 + x57)) (x61 : Int32) (hx61 : x61 = (if (lcmpW x58 (0 : Int64)) = (0 : Int32) then (1 : Int32) else (if (cmpValue (FP.dcmp (FP.l2d x58) (FP.dmul (4517329193108106637 : UInt64) (FP.l2d x19))) .g) < (0 : Int32) then (1 : Int32) else (0 : Int32)))) (hc97_17 : ((((p4.toUInt32 >>> ((8 : Int32) &&& 31).toUInt32).toInt32) &&& (1 : Int32)) = (0 : Int32))) : ¬ ((lcmpW x39 (0 : Int64)) < (0 : Int32)) := by
  obtain ⟨C0, C1, C2, C3, C4, C5, C6⟩ := own_cnt (own_cell hx16) (own_cell hx2) (own_cell hx4) (own_cell hx6) (own_cell hx10) (own_cell hx8) (own_cell hx12) (own_cell hx14) hx19 hx23 hx27 hx31 hx35 hx39 hx43
  obtain ⟨b0, b0'⟩ := own_cell hx2
  obtain ⟨b1, b1'⟩ := own_cell hx4
  obtain ⟨b2, b2'⟩ := own_cell hx6
  obtain ⟨b3, b3'⟩ := own_cell hx8
  obtain ⟨b4, b4'⟩ := own_cell hx10
  obtain ⟨b5, b5'⟩ := own_cell hx12
  obtain ⟨b6, b6'⟩ := own_cell hx14
  obtain ⟨b7, b7'⟩ := own_cell hx16
  have h : (x39 : Int64).toInt = _ := C5
  rw [own_sgn, h]; omega
theorem own_rm0_hp_hp_hp_hf52_19_23_356_1 (q0 : Int64) (q1 : Int64) (q2 : Int64) (q3 : Int64) (p4 : Int32) (x2 : Int64) (hx2 : x2 = (rv1 q0 p4 (0 : Int32))) (x4 : Int64) (hx4 : x4 = (rv1 ((q0.toUInt64 >>> ((32 : Int32) &&& 0x3f).toInt64.toUInt64).toInt64) p4 (1 : Int32))) (x6 : Int64) (hx6 : x6 = (rv1 q1 p4 (2 : Int32))) (x8 : Int64) (hx8 : x8 = (rv1 ((q1.toUInt64 >>> ((32 : Int32) &&& 0x3f).toInt64.toUInt64).toInt64) p4 (3 : Int32))) (x10 : Int64) (hx10 : x10 = (rv1 q2 p4 (4 : Int32))) (x12 : Int64) (hx12 : x12 = (rv1 ((q2.toUInt64 >>> ((32 : Int32) &&& 0x3f).toInt64.toUInt64).toInt64) p4 (5 : Int32))) (x14 : Int64) (hx14 : x14 = (rv1 q3 p4 (6 : Int32))) (x16 : Int64) (hx16 : x16 = (rv1 ((q3.toUInt64 >>> ((32 : Int32) &&& 0x3f).toInt64.toUInt64).toInt64) p4 (7 : Int32))) (x19 : Int64) (hx19 : x19 = (((((((x2 + x4) + x6) + x8) + x10) + x12) + x14) + x16)) (x23 : Int64) (hx23 : x23 = (((x4 + x8) + x12) + x16)) (x27 : Int64) (hx27 : x27 = (((x6 + x8) + x14) + x16)) (x31 : Int64) (hx31 : x31 = (x8 + x16)) (x35 : Int64) (hx35 : x35 = (((x10 + x12) + x14) + x16)) (x39 : Int64) (hx39 : x39 = (x12 + x16)) (x43 : Int64) (hx43 : x43 = (x14 + x16)) (x53 : Int64) (hx53 : x53 = (rv2 (rv2 x16 x4) (rv2 x6 x10))) (x57 : Int64) (hx57 : x57 = (rv2 (rv2 x2 x8) (rv2 x12 x14))) (x58 : Int64) (hx58 : x58 = (x53 + x57)) (x61 : Int32) (hx61 : x61 = (if (lcmpW x58 (0 : Int64)) = (0 : Int32) then (1 : Int32) else (if (cmpValue (FP.dcmp (FP.l2d x58) (FP.dmul (4517329193108106637 : UInt64) (FP.l2d x19))) .g) < (0 : Int32) then (1 : Int32) else (0 : Int32)))) (hc97_17 : ((((p4.toUInt32 >>> ((8 : Int32) &&& 31).toUInt32).toInt32) &&& (1 : Int32)) = (0 : Int32))) : ¬ ((lcmpW (x23 - x39) (0 : Int64)) < (0 : Int32)) := by
  obtain ⟨C0, C1, C2, C3, C4, C5, C6⟩ := own_cnt (own_cell hx16) (own_cell hx2) (own_cell hx4) (own_cell hx6) (own_cell hx10) (own_cell hx8) (own_cell hx12) (own_cell hx14) hx19 hx23 hx27 hx31 hx35 hx39 hx43
  obtain ⟨b0, b0'⟩ := own_cell hx2
  obtain ⟨b1, b1'⟩ := own_cell hx4
  obtain ⟨b2, b2'⟩ := own_cell hx6
  obtain ⟨b3, b3'⟩ := own_cell hx8
  obtain ⟨b4, b4'⟩ := own_cell hx10
  obtain ⟨b5, b5'⟩ := own_cell hx12
  obtain ⟨b6, b6'⟩ := own_cell hx14
  obtain ⟨b7, b7'⟩ := own_cell hx16
  have h : ((x23 - x39) : Int64).toInt = _ := (own_tS' C1 C5 (by omega) (by omega))
  rw [own_sgn, h]; omega
theorem own_rm0_hp_hp_hp_hf59_19_23_356_1 (q0 : Int64) (q1 : Int64) (q2 : Int64) (q3 : Int64) (p4 : Int32) (x2 : Int64) (hx2 : x2 = (rv1 q0 p4 (0 : Int32))) (x4 : Int64) (hx4 : x4 = (rv1 ((q0.toUInt64 >>> ((32 : Int32) &&& 0x3f).toInt64.toUInt64).toInt64) p4 (1 : Int32))) (x6 : Int64) (hx6 : x6 = (rv1 q1 p4 (2 : Int32))) (x8 : Int64) (hx8 : x8 = (rv1 ((q1.toUInt64 >>> ((32 : Int32) &&& 0x3f).toInt64.toUInt64).toInt64) p4 (3 : Int32))) (x10 : Int64) (hx10 : x10 = (rv1 q2 p4 (4 : Int32))) (x12 : Int64) (hx12 : x12 = (rv1 ((q2.toUInt64 >>> ((32 : Int32) &&& 0x3f).toInt64.toUInt64).toInt64) p4 (5 : Int32))) (x14 : Int64) (hx14 : x14 = (rv1 q3 p4 (6 : Int32))) (x16 : Int64) (hx16 : x16 = (rv1 ((q3.toUInt64 >>> ((32 : Int32) &&& 0x3f).toInt64.toUInt64).toInt64) p4 (7 : Int32))) (x19 : Int64) (hx19 : x19 = (((((((x2 + x4) + x6) + x8) + x10) + x12) + x14) + x16)) (x23 : Int64) (hx23 : x23 = (((x4 + x8) + x12) + x16)) (x27 : Int64) (hx27 : x27 = (((x6 + x8) + x14) + x16)) (x31 : Int64) (hx31 : x31 = (x8 + x16)) (x35 : Int64) (hx35 : x35 = (((x10 + x12) + x14) + x16)) (x39 : Int64) (hx39 : x39 = (x12 + x16)) (x43 : Int64) (hx43 : x43 = (x14 + x16)) (x53 : Int64) (hx53 : x53 = (rv2 (rv2 x16 x4) (rv2 x6 x10))) (x57 : Int64) (hx57 : x57 = (rv2 (rv2 x2 x8) (rv2 x12 x14))) (x58 : Int64) (hx58 : x58 = (x53 + x57)) (x61 : Int32) (hx61 : x61 = (if (lcmpW x58 (0 : Int64)) = (0 : Int32) then (1 : Int32) else (if (cmpValue (FP.dcmp (FP.l2d x58) (FP.dmul (4517329193108106637 : UInt64) (FP.l2d x19))) .g) < (0 : Int32) then (1 : Int32) else (0 : Int32)))) (hc97_17 : ((((p4.toUInt32 >>> ((8 : Int32) &&& 31).toUInt32).toInt32) &&& (1 : Int32)) = (0 : Int32))) : ¬ ((lcmpW (x35 - x39) (0 : Int64)) < (0 : Int32)) := by
  obtain ⟨C0, C1, C2, C3, C4, C5, C6⟩ := own_cnt (own_cell hx16) (own_cell hx2) (own_cell hx4) (own_cell hx6) (own_cell hx10) (own_cell hx8) (own_cell hx12) (own_cell hx14) hx19 hx23 hx27 hx31 hx35 hx39 hx43
  obtain ⟨b0, b0'⟩ := own_cell hx2
  obtain ⟨b1, b1'⟩ := own_cell hx4
  obtain ⟨b2, b2'⟩ := own_cell hx6
  obtain ⟨b3, b3'⟩ := own_cell hx8
  obtain ⟨b4, b4'⟩ := own_cell hx10
  obtain ⟨b5, b5'⟩ := own_cell hx12
  obtain ⟨b6, b6'⟩ := own_cell hx14
  obtain ⟨b7, b7'⟩ := own_cell hx16
  have h : ((x35 - x39) : Int64).toInt = _ := (own_tS' C4 C5 (by omega) (by omega))
  rw [own_sgn, h]; omega
theorem own_rm0_hp_hp_hp_hf66_19_23_356_1 (q0 : Int64) (q1 : Int64) (q2 : Int64) (q3 : Int64) (p4 : Int32) (x2 : Int64) (hx2 : x2 = (rv1 q0 p4 (0 : Int32))) (x4 : Int64) (hx4 : x4 = (rv1 ((q0.toUInt64 >>> ((32 : Int32) &&& 0x3f).toInt64.toUInt64).toInt64) p4 (1 : Int32))) (x6 : Int64) (hx6 : x6 = (rv1 q1 p4 (2 : Int32))) (x8 : Int64) (hx8 : x8 = (rv1 ((q1.toUInt64 >>> ((32 : Int32) &&& 0x3f).toInt64.toUInt64).toInt64) p4 (3 : Int32))) (x10 : Int64) (hx10 : x10 = (rv1 q2 p4 (4 : Int32))) (x12 : Int64) (hx12 : x12 = (rv1 ((q2.toUInt64 >>> ((32 : Int32) &&& 0x3f).toInt64.toUInt64).toInt64) p4 (5 : Int32))) (x14 : Int64) (hx14 : x14 = (rv1 q3 p4 (6 : Int32))) (x16 : Int64) (hx16 : x16 = (rv1 ((q3.toUInt64 >>> ((32 : Int32) &&& 0x3f).toInt64.toUInt64).toInt64) p4 (7 : Int32))) (x19 : Int64) (hx19 : x19 = (((((((x2 + x4) + x6) + x8) + x10) + x12) + x14) + x16)) (x23 : Int64) (hx23 : x23 = (((x4 + x8) + x12) + x16)) (x27 : Int64) (hx27 : x27 = (((x6 + x8) + x14) + x16)) (x31 : Int64) (hx31 : x31 = (x8 + x16)) (x35 : Int64) (hx35 : x35 = (((x10 + x12) + x14) + x16)) (x39 : Int64) (hx39 : x39 = (x12 + x16)) (x43 : Int64) (hx43 : x43 = (x14 + x16)) (x53 : Int64) (hx53 : x53 = (rv2 (rv2 x16 x4) (rv2 x6 x10))) (x57 : Int64) (hx57 : x57 = (rv2 (rv2 x2 x8) (rv2 x12 x14))) (x58 : Int64) (hx58 : x58 = (x53 + x57)) (x61 : Int32) (hx61 : x61 = (if (lcmpW x58 (0 : Int64)) = (0 : Int32) then (1 : Int32) else (if (cmpValue (FP.dcmp (FP.l2d x58) (FP.dmul (4517329193108106637 : UInt64) (FP.l2d x19))) .g) < (0 : Int32) then (1 : Int32) else (0 : Int32)))) (hc97_17 : ((((p4.toUInt32 >>> ((8 : Int32) &&& 31).toUInt32).toInt32) &&& (1 : Int32)) = (0 : Int32))) : ¬ ((lcmpW ((x19 - x23) - (x35 - x39)) (0 : Int64)) < (0 : Int32)) := by
  obtain ⟨C0, C1, C2, C3, C4, C5, C6⟩ := own_cnt (own_cell hx16) (own_cell hx2) (own_cell hx4) (own_cell hx6) (own_cell hx10) (own_cell hx8) (own_cell hx12) (own_cell hx14) hx19 hx23 hx27 hx31 hx35 hx39 hx43
  obtain ⟨b0, b0'⟩ := own_cell hx2
  obtain ⟨b1, b1'⟩ := own_cell hx4
  obtain ⟨b2, b2'⟩ := own_cell hx6
  obtain ⟨b3, b3'⟩ := own_cell hx8
  obtain ⟨b4, b4'⟩ := own_cell hx10
  obtain ⟨b5, b5'⟩ := own_cell hx12
  obtain ⟨b6, b6'⟩ := own_cell hx14
  obtain ⟨b7, b7'⟩ := own_cell hx16
  have h : (((x19 - x23) - (x35 - x39)) : Int64).toInt = _ := (own_tS' (own_tS' C0 C1 (by omega) (by omega)) (own_tS' C4 C5 (by omega) (by omega)) (by omega) (by omega))
  rw [own_sgn, h]; omega
theorem own_rm0_hp_hp_hp_hf45_19_23_356_2 (q0 : Int64) (q1 : Int64) (q2 : Int64) (q3 : Int64) (p4 : Int32) (x2 : Int64) (hx2 : x2 = (rv1 q0 p4 (0 : Int32))) (x4 : Int64) (hx4 : x4 = (rv1 ((q0.toUInt64 >>> ((32 : Int32) &&& 0x3f).toInt64.toUInt64).toInt64) p4 (1 : Int32))) (x6 : Int64) (hx6 : x6 = (rv1 q1 p4 (2 : Int32))) (x8 : Int64) (hx8 : x8 = (rv1 ((q1.toUInt64 >>> ((32 : Int32) &&& 0x3f).toInt64.toUInt64).toInt64) p4 (3 : Int32))) (x10 : Int64) (hx10 : x10 = (rv1 q2 p4 (4 : Int32))) (x12 : Int64) (hx12 : x12 = (rv1 ((q2.toUInt64 >>> ((32 : Int32) &&& 0x3f).toInt64.toUInt64).toInt64) p4 (5 : Int32))) (x14 : Int64) (hx14 : x14 = (rv1 q3 p4 (6 : Int32))) (x16 : Int64) (hx16 : x16 = (rv1 ((q3.toUInt64 >>> ((32 : Int32) &&& 0x3f).toInt64.toUInt64).toInt64) p4 (7 : Int32))) (x19 : Int64) (hx19 : x19 = (((((((x2 + x4) + x6) + x8) + x10) + x12) + x14) + x16)) (x23 : Int64) (hx23 : x23 = (((x4 + x8) + x12) + x16)) (x27 : Int64) (hx27 : x27 = (((x6 + x8) + x14) + x16)) (x31 : Int64) (hx31 : x31 = (x8 + x16)) (x35 : Int64) (hx35 : x35 = (((x10 + x12) + x14) + x16)) (x39 : Int64) (hx39 : x39 = (x12 + x16)) (x43 : Int64) (hx43 : x43 = (x14 + x16)) (x53 : Int64) (hx53 : x53 = (rv2 (rv2 x16 x4) (rv2 x6 x10))) (x57 : Int64) (hx57 : x57 = (rv2 (rv2 x2 x8) (rv2 x12 x14))) (x58 : Int64) (hx58 : x58 = (x53 + x57)) (x61 : Int32) (hx61 : x61 = (if (lcmpW x58 (0 : Int64)) = (0 : Int32) then (1 : Int32) else (if (cmpValue (FP.dcmp (FP.l2d x58) (FP.dmul (4517329193108106637 : UInt64) (FP.l2d x19))) .g) < (0 : Int32) then (1 : Int32) else (0 : Int32)))) (hc97_17 : ((((p4.toUInt32 >>> ((8 : Int32) &&& 31).toUInt32).toInt32) &&& (1 : Int32)) = (0 : Int32))) : ¬ ((lcmpW x43 (0 : Int64)) < (0 : Int32)) := by
  obtain ⟨C0, C1, C2, C3, C4, C5, C6⟩ := own_cnt (own_cell hx16) (own_cell hx2) (own_cell hx4) (own_cell hx6) (own_cell hx10) (own_cell hx8) (own_cell hx12) (own_cell hx14) hx19 hx23 hx27 hx31 hx35 hx39 hx43
  obtain ⟨b0, b0'⟩ := own_cell hx2
  obtain ⟨b1, b1'⟩ := own_cell hx4
  obtain ⟨b2, b2'⟩ := own_cell hx6
  obtain ⟨b3, b3'⟩ := own_cell hx8
  obtain ⟨b4, b4'⟩ := own_cell hx10
  obtain ⟨b5, b5'⟩ := own_cell hx12
  obtain ⟨b6, b6'⟩ := own_cell hx14
  obtain ⟨b7, b7'⟩ := own_cell hx16
  have h : (x43 : Int64).toInt = _ := C6
  rw [own_sgn, h]; omega
theorem own_rm0_hp_hp_hp_hf52_19_23_356_2 (q0 : Int64) (q1 : Int64) (q2 : Int64) (q3 : Int64) (p4 : Int32) (x2 : Int64) (hx2 : x2 = (rv1 q0 p4 (0 : Int32))) (x4 : Int64) (hx4 : x4 = (rv1 ((q0.toUInt64 >>> ((32 : Int32) &&& 0x3f).toInt64.toUInt64).toInt64) p4 (1 : Int32))) (x6 : Int64) (hx6 : x6 = (rv1 q1 p4 (2 : Int32))) (x8 : Int64) (hx8 : x8 = (rv1 ((q1.toUInt64 >>> ((32 : Int32) &&& 0x3f).toInt64.toUInt64).toInt64) p4 (3 : Int32))) (x10 : Int64) (hx10 : x10 = (rv1 q2 p4 (4 : Int32))) (x12 : Int64) (hx12 : x12 = (rv1 ((q2.toUInt64 >>> ((32 : Int32) &&& 0x3f).toInt64.toUInt64).toInt64) p4 (5 : Int32))) (x14 : Int64) (hx14 : x14 = (rv1 q3 p4 (6 : Int32))) (x16 : Int64) (hx16 : x16 = (rv1 ((q3.toUInt64 >>> ((32 : Int32) &&& 0x3f).toInt64.toUInt64).toInt64) p4 (7 : Int32))) (x19 : Int64) (hx19 : x19 = (((((((x2 + x4) + x6) + x8) + x10) + x12) + x14) + x16)) (x23 : Int64) (hx23 : x23 = (((x4 + x8) + x12) + x16)) (x27 : Int64) (hx27 : x27 = (((x6 + x8) + x14) + x16)) (x31 : Int64) (hx31 : x31 = (x8 + x16)) (x35 : Int64) (hx35 : x35 = (((x10 + x12) + x14) + x16)) (x39 : Int64) (hx39 : x39 = (x12 + x16)) (x43 : Int64) (hx43 : x43 = (x14 + x16)) (x53 : Int64) (hx53 : x53 = (rv2 (rv2 x16 x4) (rv2 x6 x10))) (x57 : Int64) (hx57 : x57 = (rv2 (rv2 x2 x8) (rv2 x12 x14))) (x58 : Int64) (hx58 : x58 = (x53 + x57)) (x61 : Int32) (hx61 : x61 = (if (lcmpW x58 (0 : Int64)) = (0 : Int32) then (1 : Int32) else (if (cmpValue (FP.dcmp (FP.l2d x58) (FP.dmul (4517329193108106637 : UInt64) (FP.l2d x19))) .g) < (0 : Int32) then (1 : Int32) else (0 : Int32)))) (hc97_17 : ((((p4.toUInt32 >>> ((8 : Int32) &&& 31).toUInt32).toInt32) &&& (1 : Int32)) = (0 : Int32))) : ¬ ((lcmpW (x27 - x43) (0 : Int64)) < (0 : Int32)) := by
  obtain ⟨C0, C1, C2, C3, C4, C5, C6⟩ := own_cnt (own_cell hx16) (own_cell hx2) (own_cell hx4) (own_cell hx6) (own_cell hx10) (own_cell hx8) (own_cell hx12) (own_cell hx14) hx19 hx23 hx27 hx31 hx35 hx39 hx43
  obtain ⟨b0, b0'⟩ := own_cell hx2
  obtain ⟨b1, b1'⟩ := own_cell hx4
  obtain ⟨b2, b2'⟩ := own_cell hx6
  obtain ⟨b3, b3'⟩ := own_cell hx8
  obtain ⟨b4, b4'⟩ := own_cell hx10
  obtain ⟨b5, b5'⟩ := own_cell hx12
  obtain ⟨b6, b6'⟩ := own_cell hx14
  obtain ⟨b7, b7'⟩ := own_cell hx16
  have h : ((x27 - x43) : Int64).toInt = _ := (own_tS' C2 C6 (by omega) (by omega))
  rw [own_sgn, h]; omega
theorem own_rm0_hp_hp_hp_hf59_19_23_356_2 (q0 : Int64) (q1 : Int64) (q2 : Int64) (q3 : Int64) (p4 : Int32) (x2 : Int64) (hx2 : x2 = (rv1 q0 p4 (0 : Int32))) (x4 : Int64) (hx4 : x4 = (rv1 ((q0.toUInt64 >>> ((32 : Int32) &&& 0x3f).toInt64.toUInt64).toInt64) p4 (1 : Int32))) (x6 : Int64) (hx6 : x6 = (rv1 q1 p4 (2 : Int32))) (x8 : Int64) (hx8 : x8 = (rv1 ((q1.toUInt64 >>> ((32 : Int32) &&& 0x3f).toInt64.toUInt64).toInt64) p4 (3 : Int32))) (x10 : Int64) (hx10 : x10 = (rv1 q2 p4 (4 : Int32))) (x12 : Int64) (hx12 : x12 = (rv1 ((q2.toUInt64 >>> ((32 : Int32) &&& 0x3f).toInt64.toUInt64).toInt64) p4 (5 : Int32))) (x14 : Int64) (hx14 : x14 = (rv1 q3 p4 (6 : Int32))) (x16 : Int64) (hx16 : x16 = (rv1 ((q3.toUInt64 >>> ((32 : Int32) &&& 0x3f).toInt64.toUInt64).toInt64) p4 (7 : Int32))) (x19 : Int64) (hx19 : x19 = (((((((x2 + x4) + x6) + x8) + x10) + x12) + x14) + x16)) (x23 : Int64) (hx23 : x23 = (((x4 + x8) + x12) + x16)) (x27 : Int64) (hx27 : x27 = (((x6 + x8) + x14) + x16)) (x31 : Int64) (hx31 : x31 = (x8 + x16)) (x35 : Int64) (hx35 : x35 = (((x10 + x12) + x14) + x16)) (x39 : Int64) (hx39 : x39 = (x12 + x16)) (x43 : Int64) (hx43 : x43 = (x14 + x16)) (x53 : Int64) (hx53 : x53 = (rv2 (rv2 x16 x4) (rv2 x6 x10))) (x57 : Int64) (hx57 : x57 = (rv2 (rv2 x2 x8) (rv2 x12 x14))) (x58 : Int64) (hx58 : x58 = (x53 + x57)) (x61 : Int32) (hx61 : x61 = (if (lcmpW x58 (0 : Int64)) = (0 : Int32) then (1 : Int32) else (if (cmpValue (FP.dcmp (FP.l2d x58) (FP.dmul (4517329193108106637 : UInt64) (FP.l2d x19))) .g) < (0 : Int32) then (1 : Int32) else (0 : Int32)))) (hc97_17 : ((((p4.toUInt32 >>> ((8 : Int32) &&& 31).toUInt32).toInt32) &&& (1 : Int32)) = (0 : Int32))) : ¬ ((lcmpW (x35 - x43) (0 : Int64)) < (0 : Int32)) := by
  obtain ⟨C0, C1, C2, C3, C4, C5, C6⟩ := own_cnt (own_cell hx16) (own_cell hx2) (own_cell hx4) (own_cell hx6) (own_cell hx10) (own_cell hx8) (own_cell hx12) (own_cell hx14) hx19 hx23 hx27 hx31 hx35 hx39 hx43
  obtain ⟨b0, b0'⟩ := own_cell hx2
  obtain ⟨b1, b1'⟩ := own_cell hx4
  obtain ⟨b2, b2'⟩ := own_cell hx6
  obtain ⟨b3, b3'⟩ := own_cell hx8
  obtain ⟨b4, b4'⟩ := own_cell hx10
  obtain ⟨b5, b5'⟩ := own_cell hx12
  obtain ⟨b6, b6'⟩ := own_cell hx14
  obtain ⟨b7, b7'⟩ := own_cell hx16
  have h : ((x35 - x43) : Int64).toInt = _ := (own_tS' C4 C6 (by omega) (by omega))
  rw [own_sgn, h]; omega
theorem own_rm0_hp_hp_hp_hf66_19_23_356_2 (q0 : Int64) (q1 : Int64) (q2 : Int64) (q3 : Int64) (p4 : Int32) (x2 : Int64) (hx2 : x2 = (rv1 q0 p4 (0 : Int32))) (x4 : Int64) (hx4 : x4 = (rv1 ((q0.toUInt64 >>> ((32 : Int32) &&& 0x3f).toInt64.toUInt64).toInt64) p4 (1 : Int32))) (x6 : Int64) (hx6 : x6 = (rv1 q1 p4 (2 : Int32))) (x8 : Int64) (hx8 : x8 = (rv1 ((q1.toUInt64 >>> ((32 : Int32) &&& 0x3f).toInt64.toUInt64).toInt64) p4 (3 : Int32))) (x10 : Int64) (hx10 : x10 = (rv1 q2 p4 (4 : Int32))) (x12 : Int64) (hx12 : x12 = (rv1 ((q2.toUInt64 >>> ((32 : Int32) &&& 0x3f).toInt64.toUInt64).toInt64) p4 (5 : Int32))) (x14 : Int64) (hx14 : x14 = (rv1 q3 p4 (6 : Int32))) (x16 : Int64) (hx16 : x16 = (rv1 ((q3.toUInt64 >>> ((32 : Int32) &&& 0x3f).toInt64.toUInt64).toInt64) p4 (7 : Int32))) (x19 : Int64) (hx19 : x19 = (((((((x2 + x4) + x6) + x8) + x10) + x12) + x14) + x16)) (x23 : Int64) (hx23 : x23 = (((x4 + x8) + x12) + x16)) (x27 : Int64) (hx27 : x27 = (((x6 + x8) + x14) + x16)) (x31 : Int64) (hx31 : x31 = (x8 + x16)) (x35 : Int64) (hx35 : x35 = (((x10 + x12) + x14) + x16)) (x39 : Int64) (hx39 : x39 = (x12 + x16)) (x43 : Int64) (hx43 : x43 = (x14 + x16)) (x53 : Int64) (hx53 : x53 = (rv2 (rv2 x16 x4) (rv2 x6 x10))) (x57 : Int64) (hx57 : x57 = (rv2 (rv2 x2 x8) (rv2 x12 x14))) (x58 : Int64) (hx58 : x58 = (x53 + x57)) (x61 : Int32) (hx61 : x61 = (if (lcmpW x58 (0 : Int64)) = (0 : Int32) then (1 : Int32) else (if (cmpValue (FP.dcmp (FP.l2d x58) (FP.dmul (4517329193108106637 : UInt64) (FP.l2d x19))) .g) < (0 : Int32) then (1 : Int32) else (0 : Int32)))) (hc97_17 : ((((p4.toUInt32 >>> ((8 : Int32) &&& 31).toUInt32).toInt32) &&& (1 : Int32)) = (0 : Int32))) : ¬ ((lcmpW ((x19 - x27) - (x35 - x43)) (0 : Int64)) < (0 : Int32)) := by
  obtain ⟨C0, C1, C2, C3, C4, C5, C6⟩ := own_cnt (own_cell hx16) (own_cell hx2) (own_cell hx4) (own_cell hx6) (own_cell hx10) (own_cell hx8) (own_cell hx12) (own_cell hx14) hx19 hx23 hx27 hx31 hx35 hx39 hx43
  obtain ⟨b0, b0'⟩ := own_cell hx2
  obtain ⟨b1, b1'⟩ := own_cell hx4
  obtain ⟨b2, b2'⟩ := own_cell hx6
  obtain ⟨b3, b3'⟩ := own_cell hx8
  obtain ⟨b4, b4'⟩ := own_cell hx10
  obtain ⟨b5, b5'⟩ := own_cell hx12
  obtain ⟨b6, b6'⟩ := own_cell hx14
  obtain ⟨b7, b7'⟩ := own_cell hx16
  have h : (((x19 - x27) - (x35 - x43)) : Int64).toInt = _ := (own_tS' (own_tS' C0 C2 (by omega) (by omega)) (own_tS' C4 C6 (by omega) (by omega)) (by omega) (by omega))
  rw [own_sgn, h]; omega
theorem own_rm0_hp_hp_hcq_28_356 (q0 : Int64) (q1 : Int64) (q2 : Int64) (q3 : Int64) (p4 : Int32) (x2 : Int64) (hx2 : x2 = (rv1 q0 p4 (0 : Int32))) (x4 : Int64) (hx4 : x4 = (rv1 ((q0.toUInt64 >>> ((32 : Int32) &&& 0x3f).toInt64.toUInt64).toInt64) p4 (1 : Int32))) (x6 : Int64) (hx6 : x6 = (rv1 q1 p4 (2 : Int32))) (x8 : Int64) (hx8 : x8 = (rv1 ((q1.toUInt64 >>> ((32 : Int32) &&& 0x3f).toInt64.toUInt64).toInt64) p4 (3 : Int32))) (x10 : Int64) (hx10 : x10 = (rv1 q2 p4 (4 : Int32))) (x12 : Int64) (hx12 : x12 = (rv1 ((q2.toUInt64 >>> ((32 : Int32) &&& 0x3f).toInt64.toUInt64).toInt64) p4 (5 : Int32))) (x14 : Int64) (hx14 : x14 = (rv1 q3 p4 (6 : Int32))) (x16 : Int64) (hx16 : x16 = (rv1 ((q3.toUInt64 >>> ((32 : Int32) &&& 0x3f).toInt64.toUInt64).toInt64) p4 (7 : Int32))) (x19 : Int64) (hx19 : x19 = (((((((x2 + x4) + x6) + x8) + x10) + x12) + x14) + x16)) (x23 : Int64) (hx23 : x23 = (((x4 + x8) + x12) + x16)) (x27 : Int64) (hx27 : x27 = (((x6 + x8) + x14) + x16)) (x31 : Int64) (hx31 : x31 = (x8 + x16)) (x35 : Int64) (hx35 : x35 = (((x10 + x12) + x14) + x16)) (x39 : Int64) (hx39 : x39 = (x12 + x16)) (x43 : Int64) (hx43 : x43 = (x14 + x16)) (x53 : Int64) (hx53 : x53 = (rv2 (rv2 x16 x4) (rv2 x6 x10))) (x57 : Int64) (hx57 : x57 = (rv2 (rv2 x2 x8) (rv2 x12 x14))) (x58 : Int64) (hx58 : x58 = (x53 + x57)) (x61 : Int32) (hx61 : x61 = (if (lcmpW x58 (0 : Int64)) = (0 : Int32) then (1 : Int32) else (if (cmpValue (FP.dcmp (FP.l2d x58) (FP.dmul (4517329193108106637 : UInt64) (FP.l2d x19))) .g) < (0 : Int32) then (1 : Int32) else (0 : Int32)))) (hc97_17 : ((((p4.toUInt32 >>> ((8 : Int32) &&& 31).toUInt32).toInt32) &&& (1 : Int32)) = (0 : Int32))) : own_BL [x19, x23, x27, x31, x35, x39, x43, (0 : Int64)] := by
  obtain ⟨C0, C1, C2, C3, C4, C5, C6⟩ := own_cnt (own_cell hx16) (own_cell hx2) (own_cell hx4) (own_cell hx6) (own_cell hx10) (own_cell hx8) (own_cell hx12) (own_cell hx14) hx19 hx23 hx27 hx31 hx35 hx39 hx43
  obtain ⟨b0, b0'⟩ := own_cell hx2
  obtain ⟨b1, b1'⟩ := own_cell hx4
  obtain ⟨b2, b2'⟩ := own_cell hx6
  obtain ⟨b3, b3'⟩ := own_cell hx8
  obtain ⟨b4, b4'⟩ := own_cell hx10
  obtain ⟨b5, b5'⟩ := own_cell hx12
  obtain ⟨b6, b6'⟩ := own_cell hx14
  obtain ⟨b7, b7'⟩ := own_cell hx16
  exact (own_blS (own_mkB (by omega) (by omega)) (own_blS (own_mkB (by omega) (by omega)) (own_blS (own_mkB (by omega) (by omega)) (own_blS (own_mkB (by omega) (by omega)) (own_blS (own_mkB (by omega) (by omega)) (own_blS (own_mkB (by omega) (by omega)) (own_blS (own_mkB (by omega) (by omega)) (own_blS own_b01 own_bl0))))))))
theorem own_rm0_hp_hp_hf147_28_356 (q0 : Int64) (q1 : Int64) (q2 : Int64) (q3 : Int64) (p4 : Int32) (x2 : Int64) (hx2 : x2 = (rv1 q0 p4 (0 : Int32))) (x4 : Int64) (hx4 : x4 = (rv1 ((q0.toUInt64 >>> ((32 : Int32) &&& 0x3f).toInt64.toUInt64).toInt64) p4 (1 : Int32))) (x6 : Int64) (hx6 : x6 = (rv1 q1 p4 (2 : Int32))) (x8 : Int64) (hx8 : x8 = (rv1 ((q1.toUInt64 >>> ((32 : Int32) &&& 0x3f).toInt64.toUInt64).toInt64) p4 (3 : Int32))) (x10 : Int64) (hx10 : x10 = (rv1 q2 p4 (4 : Int32))) (x12 : Int64) (hx12 : x12 = (rv1 ((q2.toUInt64 >>> ((32 : Int32) &&& 0x3f).toInt64.toUInt64).toInt64) p4 (5 : Int32))) (x14 : Int64) (hx14 : x14 = (rv1 q3 p4 (6 : Int32))) (x16 : Int64) (hx16 : x16 = (rv1 ((q3.toUInt64 >>> ((32 : Int32) &&& 0x3f).toInt64.toUInt64).toInt64) p4 (7 : Int32))) (x19 : Int64) (hx19 : x19 = (((((((x2 + x4) + x6) + x8) + x10) + x12) + x14) + x16)) (x23 : Int64) (hx23 : x23 = (((x4 + x8) + x12) + x16)) (x27 : Int64) (hx27 : x27 = (((x6 + x8) + x14) + x16)) (x31 : Int64) (hx31 : x31 = (x8 + x16)) (x35 : Int64) (hx35 : x35 = (((x10 + x12) + x14) + x16)) (x39 : Int64) (hx39 : x39 = (x12 + x16)) (x43 : Int64) (hx43 : x43 = (x14 + x16)) (x53 : Int64) (hx53 : x53 = (rv2 (rv2 x16 x4) (rv2 x6 x10))) (x57 : Int64) (hx57 : x57 = (rv2 (rv2 x2 x8) (rv2 x12 x14))) (x58 : Int64) (hx58 : x58 = (x53 + x57)) (x61 : Int32) (hx61 : x61 = (if (lcmpW x58 (0 : Int64)) = (0 : Int32) then (1 : Int32) else (if (cmpValue (FP.dcmp (FP.l2d x58) (FP.dmul (4517329193108106637 : UInt64) (FP.l2d x19))) .g) < (0 : Int32) then (1 : Int32) else (0 : Int32)))) (hc97_17 : ((((p4.toUInt32 >>> ((8 : Int32) &&& 31).toUInt32).toInt32) &&& (1 : Int32)) = (0 : Int32))) : ¬ ((0 : Int32) < (lcmpW (rv12 (rv12 (rv12 (0 : Int64) (-(rv9_4 x39 x43 x35))) (-(rv9_2 x31 x43 x27))) (-(rv9_1 x31 x39 x23))) (rv2 (rv2 (rv2 (rv2 (9223372036854775807 : Int64) (rv9_6 x43)) (rv9_5 x39)) (rv9_3 x31)) (rv9_0 x23 x27 x35 x19 x31 x39 x43)))) := by
  obtain ⟨C0, C1, C2, C3, C4, C5, C6⟩ := own_cnt (own_cell hx16) (own_cell hx2) (own_cell hx4) (own_cell hx6) (own_cell hx10) (own_cell hx8) (own_cell hx12) (own_cell hx14) hx19 hx23 hx27 hx31 hx35 hx39 hx43
  obtain ⟨b0, b0'⟩ := own_cell hx2
  obtain ⟨b1, b1'⟩ := own_cell hx4
  obtain ⟨b2, b2'⟩ := own_cell hx6
  obtain ⟨b3, b3'⟩ := own_cell hx8
  obtain ⟨b4, b4'⟩ := own_cell hx10
  obtain ⟨b5, b5'⟩ := own_cell hx12
  obtain ⟨b6, b6'⟩ := own_cell hx14
  obtain ⟨b7, b7'⟩ := own_cell hx16
  obtain ⟨lo, hi⟩ := own_LH (own_cell hx16) (own_cell hx2) (own_cell hx4) (own_cell hx6) (own_cell hx10) (own_cell hx8) (own_cell hx12) (own_cell hx14) C0 C1 C2 C3 C4 C5 C6
  rw [lw_gt, Int64.lt_iff_toInt_lt, lo, hi]; omega
theorem own_rm0_hp_hn27_363 (q0 : Int64) (q1 : Int64) (q2 : Int64) (q3 : Int64) (p4 : Int32) (x2 : Int64) (hx2 : x2 = (rv1 q0 p4 (0 : Int32))) (x4 : Int64) (hx4 : x4 = (rv1 ((q0.toUInt64 >>> ((32 : Int32) &&& 0x3f).toInt64.toUInt64).toInt64) p4 (1 : Int32))) (x6 : Int64) (hx6 : x6 = (rv1 q1 p4 (2 : Int32))) (x8 : Int64) (hx8 : x8 = (rv1 ((q1.toUInt64 >>> ((32 : Int32) &&& 0x3f).toInt64.toUInt64).toInt64) p4 (3 : Int32))) (x10 : Int64) (hx10 : x10 = (rv1 q2 p4 (4 : Int32))) (x12 : Int64) (hx12 : x12 = (rv1 ((q2.toUInt64 >>> ((32 : Int32) &&& 0x3f).toInt64.toUInt64).toInt64) p4 (5 : Int32))) (x14 : Int64) (hx14 : x14 = (rv1 q3 p4 (6 : Int32))) (x16 : Int64) (hx16 : x16 = (rv1 ((q3.toUInt64 >>> ((32 : Int32) &&& 0x3f).toInt64.toUInt64).toInt64) p4 (7 : Int32))) (x19 : Int64) (hx19 : x19 = (((((((x2 + x4) + x6) + x8) + x10) + x12) + x14) + x16)) (x23 : Int64) (hx23 : x23 = (((x4 + x8) + x12) + x16)) (x27 : Int64) (hx27 : x27 = (((x6 + x8) + x14) + x16)) (x31 : Int64) (hx31 : x31 = (x8 + x16)) (x35 : Int64) (hx35 : x35 = (((x10 + x12) + x14) + x16)) (x39 : Int64) (hx39 : x39 = (x12 + x16)) (x43 : Int64) (hx43 : x43 = (x14 + x16)) (x53 : Int64) (hx53 : x53 = (rv2 (rv2 x16 x4) (rv2 x6 x10))) (x57 : Int64) (hx57 : x57 = (rv2 (rv2 x2 x8) (rv2 x12 x14))) (x58 : Int64) (hx58 : x58 = (x53 + x57)) (x61 : Int32) (hx61 : x61 = (if (lcmpW x58 (0 : Int64)) = (0 : Int32) then (1 : Int32) else (if (cmpValue (FP.dcmp (FP.l2d x58) (FP.dmul (4517329193108106637 : UInt64) (FP.l2d x19))) .g) < (0 : Int32) then (1 : Int32) else (0 : Int32)))) (hc97_17 : ((((p4.toUInt32 >>> ((8 : Int32) &&& 31).toUInt32).toInt32) &&& (1 : Int32)) = (0 : Int32))) : ((0 : Int32) < (cmpValue (FP.dcmp (FP.l2d (rv2 (rv2 (rv2 (rv2 (9223372036854775807 : Int64) (rv9_6 x43)) (rv9_5 x39)) (rv9_3 x31)) (rv9_0 x23 x27 x35 x19 x31 x39 x43))) (FP.l2d (rv12 (rv12 (rv12 (0 : Int64) (-(rv9_4 x39 x43 x35))) (-(rv9_2 x31 x43 x27))) (-(rv9_1 x31 x39 x23))))) .g)) → Jvm.Free.Fl.NoNaN64 (FP.dsub (FP.l2d (rv2 (rv2 (rv2 (rv2 (9223372036854775807 : Int64) (rv9_6 x43)) (rv9_5 x39)) (rv9_3 x31)) (rv9_0 x23 x27 x35 x19 x31 x39 x43))) (FP.l2d (rv12 (rv12 (rv12 (0 : Int64) (-(rv9_4 x39 x43 x35))) (-(rv9_2 x31 x43 x27))) (-(rv9_1 x31 x39 x23))))) := fun _ => own_nns _ _
theorem own_rm0_hp_hn36_363 (q0 : Int64) (q1 : Int64) (q2 : Int64) (q3 : Int64) (p4 : Int32) (x2 : Int64) (hx2 : x2 = (rv1 q0 p4 (0 : Int32))) (x4 : Int64) (hx4 : x4 = (rv1 ((q0.toUInt64 >>> ((32 : Int32) &&& 0x3f).toInt64.toUInt64).toInt64) p4 (1 : Int32))) (x6 : Int64) (hx6 : x6 = (rv1 q1 p4 (2 : Int32))) (x8 : Int64) (hx8 : x8 = (rv1 ((q1.toUInt64 >>> ((32 : Int32) &&& 0x3f).toInt64.toUInt64).toInt64) p4 (3 : Int32))) (x10 : Int64) (hx10 : x10 = (rv1 q2 p4 (4 : Int32))) (x12 : Int64) (hx12 : x12 = (rv1 ((q2.toUInt64 >>> ((32 : Int32) &&& 0x3f).toInt64.toUInt64).toInt64) p4 (5 : Int32))) (x14 : Int64) (hx14 : x14 = (rv1 q3 p4 (6 : Int32))) (x16 : Int64) (hx16 : x16 = (rv1 ((q3.toUInt64 >>> ((32 : Int32) &&& 0x3f).toInt64.toUInt64).toInt64) p4 (7 : Int32))) (x19 : Int64) (hx19 : x19 = (((((((x2 + x4) + x6) + x8) + x10) + x12) + x14) + x16)) (x23 : Int64) (hx23 : x23 = (((x4 + x8) + x12) + x16)) (x27 : Int64) (hx27 : x27 = (((x6 + x8) + x14) + x16)) (x31 : Int64) (hx31 : x31 = (x8 + x16)) (x35 : Int64) (hx35 : x35 = (((x10 + x12) + x14) + x16)) (x39 : Int64) (hx39 : x39 = (x12 + x16)) (x43 : Int64) (hx43 : x43 = (x14 + x16)) (x53 : Int64) (hx53 : x53 = (rv2 (rv2 x16 x4) (rv2 x6 x10))) (x57 : Int64) (hx57 : x57 = (rv2 (rv2 x2 x8) (rv2 x12 x14))) (x58 : Int64) (hx58 : x58 = (x53 + x57)) (x61 : Int32) (hx61 : x61 = (if (lcmpW x58 (0 : Int64)) = (0 : Int32) then (1 : Int32) else (if (cmpValue (FP.dcmp (FP.l2d x58) (FP.dmul (4517329193108106637 : UInt64) (FP.l2d x19))) .g) < (0 : Int32) then (1 : Int32) else (0 : Int32)))) (hc97_17 : ((((p4.toUInt32 >>> ((8 : Int32) &&& 31).toUInt32).toInt32) &&& (1 : Int32)) = (0 : Int32))) : ((0 : Int32) < (cmpValue (FP.dcmp (FP.l2d (rv2 (rv2 (rv2 (rv2 (9223372036854775807 : Int64) (rv9_6 x43)) (rv9_5 x39)) (rv9_3 x31)) (rv9_0 x23 x27 x35 x19 x31 x39 x43))) (FP.l2d (rv12 (rv12 (rv12 (0 : Int64) (-(rv9_4 x39 x43 x35))) (-(rv9_2 x31 x43 x27))) (-(rv9_1 x31 x39 x23))))) .g)) → Jvm.Free.Fl.NoNaN64 (FP.dmul (4517329193108106637 : UInt64) (FP.l2d x19)) := fun _ => own_nnm _
theorem own_rm0_end (q0 : Int64) (q1 : Int64) (q2 : Int64) (q3 : Int64) (p4 : Int32) (x2 : Int64) (hx2 : x2 = (rv1 q0 p4 (0 : Int32))) (x4 : Int64) (hx4 : x4 = (rv1 ((q0.toUInt64 >>> ((32 : Int32) &&& 0x3f).toInt64.toUInt64).toInt64) p4 (1 : Int32))) (x6 : Int64) (hx6 : x6 = (rv1 q1 p4 (2 : Int32))) (x8 : Int64) (hx8 : x8 = (rv1 ((q1.toUInt64 >>> ((32 : Int32) &&& 0x3f).toInt64.toUInt64).toInt64) p4 (3 : Int32))) (x10 : Int64) (hx10 : x10 = (rv1 q2 p4 (4 : Int32))) (x12 : Int64) (hx12 : x12 = (rv1 ((q2.toUInt64 >>> ((32 : Int32) &&& 0x3f).toInt64.toUInt64).toInt64) p4 (5 : Int32))) (x14 : Int64) (hx14 : x14 = (rv1 q3 p4 (6 : Int32))) (x16 : Int64) (hx16 : x16 = (rv1 ((q3.toUInt64 >>> ((32 : Int32) &&& 0x3f).toInt64.toUInt64).toInt64) p4 (7 : Int32))) (x19 : Int64) (hx19 : x19 = (((((((x2 + x4) + x6) + x8) + x10) + x12) + x14) + x16)) (x23 : Int64) (hx23 : x23 = (((x4 + x8) + x12) + x16)) (x27 : Int64) (hx27 : x27 = (((x6 + x8) + x14) + x16)) (x31 : Int64) (hx31 : x31 = (x8 + x16)) (x35 : Int64) (hx35 : x35 = (((x10 + x12) + x14) + x16)) (x39 : Int64) (hx39 : x39 = (x12 + x16)) (x43 : Int64) (hx43 : x43 = (x14 + x16)) (x53 : Int64) (hx53 : x53 = (rv2 (rv2 x16 x4) (rv2 x6 x10))) (x57 : Int64) (hx57 : x57 = (rv2 (rv2 x2 x8) (rv2 x12 x14))) (x58 : Int64) (hx58 : x58 = (x53 + x57)) (x61 : Int32) (hx61 : x61 = (if (lcmpW x58 (0 : Int64)) = (0 : Int32) then (1 : Int32) else (if (cmpValue (FP.dcmp (FP.l2d x58) (FP.dmul (4517329193108106637 : UInt64) (FP.l2d x19))) .g) < (0 : Int32) then (1 : Int32) else (0 : Int32)))) (x80 : Int32) (hx80 : x80 = (if (rv13 (FP.l2d (rv12 (rv12 (rv12 (0 : Int64) (-(rv9_4 x39 x43 x35))) (-(rv9_2 x31 x43 x27))) (-(rv9_1 x31 x39 x23)))) (FP.l2d (rv2 (rv2 (rv2 (rv2 (9223372036854775807 : Int64) (rv9_6 x43)) (rv9_5 x39)) (rv9_3 x31)) (rv9_0 x23 x27 x35 x19 x31 x39 x43))) x19) = x61 then (1 : Int32) else (0 : Int32))) (hc97_17 : ((((p4.toUInt32 >>> ((8 : Int32) &&& 31).toUInt32).toInt32) &&& (1 : Int32)) = (0 : Int32))) : x80 = 1 := by
  obtain ⟨C0, C1, C2, C3, C4, C5, C6⟩ := own_cnt (own_cell hx16) (own_cell hx2) (own_cell hx4) (own_cell hx6) (own_cell hx10) (own_cell hx8) (own_cell hx12) (own_cell hx14) hx19 hx23 hx27 hx31 hx35 hx39 hx43
  obtain ⟨b0, b0'⟩ := own_cell hx2
  obtain ⟨b1, b1'⟩ := own_cell hx4
  obtain ⟨b2, b2'⟩ := own_cell hx6
  obtain ⟨b3, b3'⟩ := own_cell hx8
  obtain ⟨b4, b4'⟩ := own_cell hx10
  obtain ⟨b5, b5'⟩ := own_cell hx12
  obtain ⟨b6, b6'⟩ := own_cell hx14
  obtain ⟨b7, b7'⟩ := own_cell hx16
  obtain ⟨lo, hi⟩ := own_LH (own_cell hx16) (own_cell hx2) (own_cell hx4) (own_cell hx6) (own_cell hx10) (own_cell hx8) (own_cell hx12) (own_cell hx14) C0 C1 C2 C3 C4 C5 C6
  have e1 := (congrArg Int64.toInt hx53).trans (own_min4 _ _ _ _)
  have e2 := (congrArg Int64.toInt hx57).trans (own_min4 _ _ _ _)
  have n1 := own_mb b7 b1 b2 b4
  have n2 := own_mb b0 b3 b5 b6
  rw [own_mm, ← e1] at lo
  rw [own_mm, ← e2] at hi
  rw [← e1] at n1
  rw [← e2] at n2
  clear e1 e2
  have e3 := (congrArg Int64.toInt hx58).trans (own_tA' rfl rfl (by omega) (by omega))
  rw [hx80]
  obtain ⟨low, hlow⟩ : ∃ z : Int64, z = (rv12 (rv12 (rv12 (0 : Int64) (-(rv9_4 x39 x43 x35))) (-(rv9_2 x31 x43 x27))) (-(rv9_1 x31 x39 x23))) := ⟨_, rfl⟩
  obtain ⟨high, hhigh⟩ : ∃ z : Int64, z = (rv2 (rv2 (rv2 (rv2 (9223372036854775807 : Int64) (rv9_6 x43)) (rv9_5 x39)) (rv9_3 x31)) (rv9_0 x23 x27 x35 x19 x31 x39 x43)) := ⟨_, rfl⟩
  rw [← hlow] at lo ⊢
  rw [← hhigh] at hi ⊢
  have dl := OwnFl.dy_l2d (n := low) (by omega)
  have dh := OwnFl.dy_l2d (n := high) (by omega)
  have dw := OwnFl.dy_l2d (n := x58) (by omega)
  have ds := OwnFl.dw_sub dh dl (by omega)
  have nm := OwnFl.of_no (own_nnm x19)
  have es : OwnFl.zv (FP.dsub (FP.l2d high) (FP.l2d low)) = OwnFl.zv (FP.l2d x58) := by
    rw [ds.2, dw.2]; congr 1; omega
  have k : rv13 (FP.l2d low) (FP.l2d high) x19 = x61 := by
    rw [hx61]; unfold rv13
    simp only [OwnFl.cw_gt dh dl, lw_eq, OwnFl.cv_lt ds.nn nm, OwnFl.cv_lt dw.nn nm, es]
    have z0 : x58 = 0 ↔ ¬ (low.toInt < high.toInt) := by
      rw [← Int64.toInt_inj, own_t0]; omega
    by_cases g : low.toInt < high.toInt
    · rw [if_pos g, if_neg (fun q => (z0.mp q) g)]
    · rw [if_neg g, if_pos (z0.mpr g)]
  rw [if_pos k]
theorem own_rm0_hp_hp_hp_hf45_19_23_151 (q0 : Int64) (q1 : Int64) (q2 : Int64) (q3 : Int64) (p4 : Int32) (x2 : Int64) (hx2 : x2 = (rv1 q0 p4 (0 : Int32))) (x4 : Int64) (hx4 : x4 = (rv1 ((q0.toUInt64 >>> ((32 : Int32) &&& 0x3f).toInt64.toUInt64).toInt64) p4 (1 : Int32))) (x6 : Int64) (hx6 : x6 = (rv1 q1 p4 (2 : Int32))) (x8 : Int64) (hx8 : x8 = (rv1 ((q1.toUInt64 >>> ((32 : Int32) &&& 0x3f).toInt64.toUInt64).toInt64) p4 (3 : Int32))) (x10 : Int64) (hx10 : x10 = (rv1 q2 p4 (4 : Int32))) (x12 : Int64) (hx12 : x12 = (rv1 ((q2.toUInt64 >>> ((32 : Int32) &&& 0x3f).toInt64.toUInt64).toInt64) p4 (5 : Int32))) (x14 : Int64) (hx14 : x14 = (rv1 q3 p4 (6 : Int32))) (x16 : Int64) (hx16 : x16 = (rv1 ((q3.toUInt64 >>> ((32 : Int32) &&& 0x3f).toInt64.toUInt64).toInt64) p4 (7 : Int32))) (x82 : Int64) (hx82 : x82 = (((x2 + x4) + x6) + x8)) (x86 : Int64) (hx86 : x86 = (x4 + x8)) (x90 : Int64) (hx90 : x90 = (x6 + x8)) (hc97_17 : (¬ ((((p4.toUInt32 >>> ((8 : Int32) &&& 31).toUInt32).toInt32) &&& (1 : Int32)) = (0 : Int32)))) : ¬ ((lcmpW x8 (0 : Int64)) < (0 : Int32)) := by
  obtain ⟨b0, b0'⟩ := own_cell hx2
  obtain ⟨b1, b1'⟩ := own_cell hx4
  obtain ⟨b2, b2'⟩ := own_cell hx6
  obtain ⟨b3, b3'⟩ := own_cell hx8
  obtain ⟨b4, b4'⟩ := own_cell hx10
  obtain ⟨b5, b5'⟩ := own_cell hx12
  obtain ⟨b6, b6'⟩ := own_cell hx14
  obtain ⟨b7, b7'⟩ := own_cell hx16
  have C0 := (congrArg Int64.toInt hx82).trans (own_tA' (own_tA' (own_tA' rfl rfl (by omega) (by omega)) rfl (by omega) (by omega)) rfl (by omega) (by omega))
  have C1 := (congrArg Int64.toInt hx86).trans (own_tA' rfl rfl (by omega) (by omega))
  have C2 := (congrArg Int64.toInt hx90).trans (own_tA' rfl rfl (by omega) (by omega))
  rw [own_sgn]; omega
theorem own_rm0_hp_hp_hp_hf52_19_23_151 (q0 : Int64) (q1 : Int64) (q2 : Int64) (q3 : Int64) (p4 : Int32) (x2 : Int64) (hx2 : x2 = (rv1 q0 p4 (0 : Int32))) (x4 : Int64) (hx4 : x4 = (rv1 ((q0.toUInt64 >>> ((32 : Int32) &&& 0x3f).toInt64.toUInt64).toInt64) p4 (1 : Int32))) (x6 : Int64) (hx6 : x6 = (rv1 q1 p4 (2 : Int32))) (x8 : Int64) (hx8 : x8 = (rv1 ((q1.toUInt64 >>> ((32 : Int32) &&& 0x3f).toInt64.toUInt64).toInt64) p4 (3 : Int32))) (x10 : Int64) (hx10 : x10 = (rv1 q2 p4 (4 : Int32))) (x12 : Int64) (hx12 : x12 = (rv1 ((q2.toUInt64 >>> ((32 : Int32) &&& 0x3f).toInt64.toUInt64).toInt64) p4 (5 : Int32))) (x14 : Int64) (hx14 : x14 = (rv1 q3 p4 (6 : Int32))) (x16 : Int64) (hx16 : x16 = (rv1 ((q3.toUInt64 >>> ((32 : Int32) &&& 0x3f).toInt64.toUInt64).toInt64) p4 (7 : Int32))) (x82 : Int64) (hx82 : x82 = (((x2 + x4) + x6) + x8)) (x86 : Int64) (hx86 : x86 = (x4 + x8)) (x90 : Int64) (hx90 : x90 = (x6 + x8)) (hc97_17 : (¬ ((((p4.toUInt32 >>> ((8 : Int32) &&& 31).toUInt32).toInt32) &&& (1 : Int32)) = (0 : Int32)))) : ¬ ((lcmpW (x86 - x8) (0 : Int64)) < (0 : Int32)) := by
  obtain ⟨b0, b0'⟩ := own_cell hx2
  obtain ⟨b1, b1'⟩ := own_cell hx4
  obtain ⟨b2, b2'⟩ := own_cell hx6
  obtain ⟨b3, b3'⟩ := own_cell hx8
  obtain ⟨b4, b4'⟩ := own_cell hx10
  obtain ⟨b5, b5'⟩ := own_cell hx12
  obtain ⟨b6, b6'⟩ := own_cell hx14
  obtain ⟨b7, b7'⟩ := own_cell hx16
  have C0 := (congrArg Int64.toInt hx82).trans (own_tA' (own_tA' (own_tA' rfl rfl (by omega) (by omega)) rfl (by omega) (by omega)) rfl (by omega) (by omega))
  have C1 := (congrArg Int64.toInt hx86).trans (own_tA' rfl rfl (by omega) (by omega))
  have C2 := (congrArg Int64.toInt hx90).trans (own_tA' rfl rfl (by omega) (by omega))
  have h : ((x86 - x8) : Int64).toInt = _ := (own_tS' C1 rfl (by omega) (by omega))
  rw [own_sgn, h]; omega
theorem own_rm0_hp_hp_hp_hf59_19_23_151 (q0 : Int64) (q1 : Int64) (q2 : Int64) (q3 : Int64) (p4 : Int32) (x2 : Int64) (hx2 : x2 = (rv1 q0 p4 (0 : Int32))) (x4 : Int64) (hx4 : x4 = (rv1 ((q0.toUInt64 >>> ((32 : Int32) &&& 0x3f).toInt64.toUInt64).toInt64) p4 (1 : Int32))) (x6 : Int64) (hx6 : x6 = (rv1 q1 p4 (2 : Int32))) (x8 : Int64) (hx8 : x8 = (rv1 ((q1.toUInt64 >>> ((32 : Int32) &&& 0x3f).toInt64.toUInt64).toInt64) p4 (3 : Int32))) (x10 : Int64) (hx10 : x10 = (rv1 q2 p4 (4 : Int32))) (x12 : Int64) (hx12 : x12 = (rv1 ((q2.toUInt64 >>> ((32 : Int32) &&& 0x3f).toInt64.toUInt64).toInt64) p4 (5 : Int32))) (x14 : Int64) (hx14 : x14 = (rv1 q3 p4 (6 : Int32))) (x16 : Int64) (hx16 : x16 = (rv1 ((q3.toUInt64 >>> ((32 : Int32) &&& 0x3f).toInt64.toUInt64).toInt64) p4 (7 : Int32))) (x82 : Int64) (hx82 : x82 = (((x2 + x4) + x6) + x8)) (x86 : Int64) (hx86 : x86 = (x4 + x8)) (x90 : Int64) (hx90 : x90 = (x6 + x8)) (hc97_17 : (¬ ((((p4.toUInt32 >>> ((8 : Int32) &&& 31).toUInt32).toInt32) &&& (1 : Int32)) = (0 : Int32)))) : ¬ ((lcmpW (x90 - x8) (0 : Int64)) < (0 : Int32)) := by
  obtain ⟨b0, b0'⟩ := own_cell hx2
  obtain ⟨b1, b1'⟩ := own_cell hx4
  obtain ⟨b2, b2'⟩ := own_cell hx6
  obtain ⟨b3, b3'⟩ := own_cell hx8
  obtain ⟨b4, b4'⟩ := own_cell hx10
  obtain ⟨b5, b5'⟩ := own_cell hx12
  obtain ⟨b6, b6'⟩ := own_cell hx14
  obtain ⟨b7, b7'⟩ := own_cell hx16
  have C0 := (congrArg Int64.toInt hx82).trans (own_tA' (own_tA' (own_tA' rfl rfl (by omega) (by omega)) rfl (by omega) (by omega)) rfl (by omega) (by omega))
  have C1 := (congrArg Int64.toInt hx86).trans (own_tA' rfl rfl (by omega) (by omega))
  have C2 := (congrArg Int64.toInt hx90).trans (own_tA' rfl rfl (by omega) (by omega))
  have h : ((x90 - x8) : Int64).toInt = _ := (own_tS' C2 rfl (by omega) (by omega))
  rw [own_sgn, h]; omega
theorem own_rm0_hp_hp_hp_hf66_19_23_151 (q0 : Int64) (q1 : Int64) (q2 : Int64) (q3 : Int64) (p4 : Int32) (x2 : Int64) (hx2 : x2 = (rv1 q0 p4 (0 : Int32))) (x4 : Int64) (hx4 : x4 = (rv1 ((q0.toUInt64 >>> ((32 : Int32) &&& 0x3f).toInt64.toUInt64).toInt64) p4 (1 : Int32))) (x6 : Int64) (hx6 : x6 = (rv1 q1 p4 (2 : Int32))) (x8 : Int64) (hx8 : x8 = (rv1 ((q1.toUInt64 >>> ((32 : Int32) &&& 0x3f).toInt64.toUInt64).toInt64) p4 (3 : Int32))) (x10 : Int64) (hx10 : x10 = (rv1 q2 p4 (4 : Int32))) (x12 : Int64) (hx12 : x12 = (rv1 ((q2.toUInt64 >>> ((32 : Int32) &&& 0x3f).toInt64.toUInt64).toInt64) p4 (5 : Int32))) (x14 : Int64) (hx14 : x14 = (rv1 q3 p4 (6 : Int32))) (x16 : Int64) (hx16 : x16 = (rv1 ((q3.toUInt64 >>> ((32 : Int32) &&& 0x3f).toInt64.toUInt64).toInt64) p4 (7 : Int32))) (x82 : Int64) (hx82 : x82 = (((x2 + x4) + x6) + x8)) (x86 : Int64) (hx86 : x86 = (x4 + x8)) (x90 : Int64) (hx90 : x90 = (x6 + x8)) (hc97_17 : (¬ ((((p4.toUInt32 >>> ((8 : Int32) &&& 31).toUInt32).toInt32) &&& (1 : Int32)) = (0 : Int32)))) : ¬ ((lcmpW ((x82 - x86) - (x90 - x8)) (0 : Int64)) < (0 : Int32)) := by
  obtain ⟨b0, b0'⟩ := own_cell hx2
  obtain ⟨b1, b1'⟩ := own_cell hx4
  obtain ⟨b2, b2'⟩ := own_cell hx6
  obtain ⟨b3, b3'⟩ := own_cell hx8
  obtain ⟨b4, b4'⟩ := own_cell hx10
  obtain ⟨b5, b5'⟩ := own_cell hx12
  obtain ⟨b6, b6'⟩ := own_cell hx14
  obtain ⟨b7, b7'⟩ := own_cell hx16
  have C0 := (congrArg Int64.toInt hx82).trans (own_tA' (own_tA' (own_tA' rfl rfl (by omega) (by omega)) rfl (by omega) (by omega)) rfl (by omega) (by omega))
  have C1 := (congrArg Int64.toInt hx86).trans (own_tA' rfl rfl (by omega) (by omega))
  have C2 := (congrArg Int64.toInt hx90).trans (own_tA' rfl rfl (by omega) (by omega))
  have h : (((x82 - x86) - (x90 - x8)) : Int64).toInt = _ := (own_tS' (own_tS' C0 C1 (by omega) (by omega)) (own_tS' C2 rfl (by omega) (by omega)) (by omega) (by omega))
  rw [own_sgn, h]; omega
theorem own_rm0_hp_hp_hcq_28_151 (q0 : Int64) (q1 : Int64) (q2 : Int64) (q3 : Int64) (p4 : Int32) (x2 : Int64) (hx2 : x2 = (rv1 q0 p4 (0 : Int32))) (x4 : Int64) (hx4 : x4 = (rv1 ((q0.toUInt64 >>> ((32 : Int32) &&& 0x3f).toInt64.toUInt64).toInt64) p4 (1 : Int32))) (x6 : Int64) (hx6 : x6 = (rv1 q1 p4 (2 : Int32))) (x8 : Int64) (hx8 : x8 = (rv1 ((q1.toUInt64 >>> ((32 : Int32) &&& 0x3f).toInt64.toUInt64).toInt64) p4 (3 : Int32))) (x10 : Int64) (hx10 : x10 = (rv1 q2 p4 (4 : Int32))) (x12 : Int64) (hx12 : x12 = (rv1 ((q2.toUInt64 >>> ((32 : Int32) &&& 0x3f).toInt64.toUInt64).toInt64) p4 (5 : Int32))) (x14 : Int64) (hx14 : x14 = (rv1 q3 p4 (6 : Int32))) (x16 : Int64) (hx16 : x16 = (rv1 ((q3.toUInt64 >>> ((32 : Int32) &&& 0x3f).toInt64.toUInt64).toInt64) p4 (7 : Int32))) (x82 : Int64) (hx82 : x82 = (((x2 + x4) + x6) + x8)) (x86 : Int64) (hx86 : x86 = (x4 + x8)) (x90 : Int64) (hx90 : x90 = (x6 + x8)) (hc97_17 : (¬ ((((p4.toUInt32 >>> ((8 : Int32) &&& 31).toUInt32).toInt32) &&& (1 : Int32)) = (0 : Int32)))) : own_BL [x82, x86, x90, x8] := by
  obtain ⟨b0, b0'⟩ := own_cell hx2
  obtain ⟨b1, b1'⟩ := own_cell hx4
  obtain ⟨b2, b2'⟩ := own_cell hx6
  obtain ⟨b3, b3'⟩ := own_cell hx8
  obtain ⟨b4, b4'⟩ := own_cell hx10
  obtain ⟨b5, b5'⟩ := own_cell hx12
  obtain ⟨b6, b6'⟩ := own_cell hx14
  obtain ⟨b7, b7'⟩ := own_cell hx16
  have C0 := (congrArg Int64.toInt hx82).trans (own_tA' (own_tA' (own_tA' rfl rfl (by omega) (by omega)) rfl (by omega) (by omega)) rfl (by omega) (by omega))
  have C1 := (congrArg Int64.toInt hx86).trans (own_tA' rfl rfl (by omega) (by omega))
  have C2 := (congrArg Int64.toInt hx90).trans (own_tA' rfl rfl (by omega) (by omega))
  exact (own_blS (own_mkB (by omega) (by omega)) (own_blS (own_mkB (by omega) (by omega)) (own_blS (own_mkB (by omega) (by omega)) (own_blS (own_mkB (by omega) (by omega)) own_bl0))))
theorem own_rm0_hp_hn27_158 (q0 : Int64) (q1 : Int64) (q2 : Int64) (q3 : Int64) (p4 : Int32) (x2 : Int64) (hx2 : x2 = (rv1 q0 p4 (0 : Int32))) (x4 : Int64) (hx4 : x4 = (rv1 ((q0.toUInt64 >>> ((32 : Int32) &&& 0x3f).toInt64.toUInt64).toInt64) p4 (1 : Int32))) (x6 : Int64) (hx6 : x6 = (rv1 q1 p4 (2 : Int32))) (x8 : Int64) (hx8 : x8 = (rv1 ((q1.toUInt64 >>> ((32 : Int32) &&& 0x3f).toInt64.toUInt64).toInt64) p4 (3 : Int32))) (x10 : Int64) (hx10 : x10 = (rv1 q2 p4 (4 : Int32))) (x12 : Int64) (hx12 : x12 = (rv1 ((q2.toUInt64 >>> ((32 : Int32) &&& 0x3f).toInt64.toUInt64).toInt64) p4 (5 : Int32))) (x14 : Int64) (hx14 : x14 = (rv1 q3 p4 (6 : Int32))) (x16 : Int64) (hx16 : x16 = (rv1 ((q3.toUInt64 >>> ((32 : Int32) &&& 0x3f).toInt64.toUInt64).toInt64) p4 (7 : Int32))) (x82 : Int64) (hx82 : x82 = (((x2 + x4) + x6) + x8)) (x86 : Int64) (hx86 : x86 = (x4 + x8)) (x90 : Int64) (hx90 : x90 = (x6 + x8)) (hc97_17 : (¬ ((((p4.toUInt32 >>> ((8 : Int32) &&& 31).toUInt32).toInt32) &&& (1 : Int32)) = (0 : Int32)))) : ((0 : Int32) < (cmpValue (FP.dcmp (FP.l2d x8) (FP.l2d x8)) .g)) → Jvm.Free.Fl.NoNaN64 (FP.dsub (FP.l2d x8) (FP.l2d x8)) := fun _ => own_nns _ _
theorem own_rm0_hp_hn36_158 (q0 : Int64) (q1 : Int64) (q2 : Int64) (q3 : Int64) (p4 : Int32) (x2 : Int64) (hx2 : x2 = (rv1 q0 p4 (0 : Int32))) (x4 : Int64) (hx4 : x4 = (rv1 ((q0.toUInt64 >>> ((32 : Int32) &&& 0x3f).toInt64.toUInt64).toInt64) p4 (1 : Int32))) (x6 : Int64) (hx6 : x6 = (rv1 q1 p4 (2 : Int32))) (x8 : Int64) (hx8 : x8 = (rv1 ((q1.toUInt64 >>> ((32 : Int32) &&& 0x3f).toInt64.toUInt64).toInt64) p4 (3 : Int32))) (x10 : Int64) (hx10 : x10 = (rv1 q2 p4 (4 : Int32))) (x12 : Int64) (hx12 : x12 = (rv1 ((q2.toUInt64 >>> ((32 : Int32) &&& 0x3f).toInt64.toUInt64).toInt64) p4 (5 : Int32))) (x14 : Int64) (hx14 : x14 = (rv1 q3 p4 (6 : Int32))) (x16 : Int64) (hx16 : x16 = (rv1 ((q3.toUInt64 >>> ((32 : Int32) &&& 0x3f).toInt64.toUInt64).toInt64) p4 (7 : Int32))) (x82 : Int64) (hx82 : x82 = (((x2 + x4) + x6) + x8)) (x86 : Int64) (hx86 : x86 = (x4 + x8)) (x90 : Int64) (hx90 : x90 = (x6 + x8)) (hc97_17 : (¬ ((((p4.toUInt32 >>> ((8 : Int32) &&& 31).toUInt32).toInt32) &&& (1 : Int32)) = (0 : Int32)))) : ((0 : Int32) < (cmpValue (FP.dcmp (FP.l2d x8) (FP.l2d x8)) .g)) → Jvm.Free.Fl.NoNaN64 (FP.dmul (4517329193108106637 : UInt64) (FP.l2d x82)) := fun _ => own_nnm _
theorem own_rm0_end_1 (q0 : Int64) (q1 : Int64) (q2 : Int64) (q3 : Int64) (p4 : Int32) (x2 : Int64) (hx2 : x2 = (rv1 q0 p4 (0 : Int32))) (x4 : Int64) (hx4 : x4 = (rv1 ((q0.toUInt64 >>> ((32 : Int32) &&& 0x3f).toInt64.toUInt64).toInt64) p4 (1 : Int32))) (x6 : Int64) (hx6 : x6 = (rv1 q1 p4 (2 : Int32))) (x8 : Int64) (hx8 : x8 = (rv1 ((q1.toUInt64 >>> ((32 : Int32) &&& 0x3f).toInt64.toUInt64).toInt64) p4 (3 : Int32))) (x10 : Int64) (hx10 : x10 = (rv1 q2 p4 (4 : Int32))) (x12 : Int64) (hx12 : x12 = (rv1 ((q2.toUInt64 >>> ((32 : Int32) &&& 0x3f).toInt64.toUInt64).toInt64) p4 (5 : Int32))) (x14 : Int64) (hx14 : x14 = (rv1 q3 p4 (6 : Int32))) (x16 : Int64) (hx16 : x16 = (rv1 ((q3.toUInt64 >>> ((32 : Int32) &&& 0x3f).toInt64.toUInt64).toInt64) p4 (7 : Int32))) (x82 : Int64) (hx82 : x82 = (((x2 + x4) + x6) + x8)) (x86 : Int64) (hx86 : x86 = (x4 + x8)) (x90 : Int64) (hx90 : x90 = (x6 + x8)) (hc97_17 : (¬ ((((p4.toUInt32 >>> ((8 : Int32) &&& 31).toUInt32).toInt32) &&& (1 : Int32)) = (0 : Int32)))) : (rv13 (FP.l2d x8) (FP.l2d x8) x82) = 1 := by
  have d := Jvm.FP.Core.l2d_fin x8
  unfold rv13
  rw [if_neg (fun q => by rw [OwnFl.cv_gt d.ne_nan d.ne_nan] at q; omega)]
set_option maxRecDepth 65536 in
set_option maxHeartbeats 40000000 in
theorem rm0 (l : Launch) (Z : State) (a0 : Array Value) (hw : ∀ d ∈ tables_1, d.before a0 Z = true) (ws : List Jvm.Cond) (q0 : Int64) (q1 : Int64) (q2 : Int64) (q3 : Int64) (p4 : Int32)  (h0 : Heap) (n0 : Nat) (Z0 : n0 ≤ h0.size) :
    MetFree l x (head1 (Jvm.Cond.code x code maxLocals ret :: ws) room_1) (fun a U => a = #[(.long q0), (.long q1), (.long q2), (.long q3), (.int p4)] ∧ Z.Warmed39 U.vm ∧ U.heap = h0) (fun _ _ _ _ _ => True) (fun _ U o U' => ∃ v L, o = .returned v ∧ Q0 Z q0 q1 q2 q3 p4 h0 n0 v U'.heap L ∧ FrameEnd U o U' L room_1.cells room_1.slots) := by
  refine MetFree.of_bodySF (plainFor_of_name pn_0) hisR ?_
  intro p e s m args below meth c s₁ Bd hml0 hP hK
  obtain ⟨rfl, hZ, hh⟩ := hP
  have hx := Bd.exec
  have hby := Bd.bytes
  have hml : c.maxLocals = 34 := hml0
  have hown : s.vm.findClass "com/example/tempe/tempe/estimate/CountBracketSettledPinLaw" = some m.cls := findClass_of_methodNamed Bd.named
  have hnm := (name_of_methodNamed Bd.named Bd.method).1
  have X0 : Stand p l e room_1 s m #[(.long q0), (.long q1), (.long q2), (.long q3), (.int p4)] below meth c s₁ [] 0 0 := Stand.of_body Bd
  have e0 : s₁.heap = h0 := by rw [← hh, Bd.state]; rfl
  have N0 := Fr.nil n0
  have G0 := gd X0 hx hby
  have pre0 : ∀ t, Steps p.tables e below (s₁.setTop (mkF m 0 #[lv q0, .second, lv q1, .second, lv q2, .second, lv q3, .second, iv p4, .unset, .unset, .unset, .unset, .unset, .unset, .unset, .unset, .unset, .unset, .unset, .unset, .unset, .unset, .unset, .unset, .unset, .unset, .unset, .unset, .unset, .unset, .unset, .unset, .unset] [])) t → Steps p.tables e below (s₁.setTop (entryFrame m #[(.long q0), (.long q1), (.long q2), (.long q3), (.int p4)] maxLocals)) t := fun t k => castTop (ef0 m q0 q1 q2 q3 p4) k
  obtain ⟨_, _, ⟨T1, L1, k1, n1⟩, -, X1, ⟨Lc1, hQ1, l1, y1, z1⟩, st1⟩ := Jvm.LawKit.callS X0 hx (y := (⟨"com/example/tempe/tempe/estimate/CountBracketSettledPinLaw", "cell", "(JII)J"⟩ : MethodName)) hown (mvT hZ (wd hw 0 rfl)) (mvT hZ (wd hw 1 rfl)) (mvT hZ (wd hw 2 rfl)) (mvT hZ (wd hw 3 rfl)) (by decide) (backOf (W := 0) (rm1 l Z a0 hw [] q0 p4 (0 : Int32) h0 n0 Z0 ) hZ (wd hw 3 rfl) (wd hw 2 rfl) (by decide) (by decide)) (g := (mkF m 4 #[lv q0, .second, lv q1, .second, lv q2, .second, lv q3, .second, iv p4, .unset, .unset, .unset, .unset, .unset, .unset, .unset, .unset, .unset, .unset, .unset, .unset, .unset, .unset, .unset, .unset, .unset, .unset, .unset, .unset, .unset, .unset, .unset, .unset, .unset] [(.int (0 : Int32)), (.int p4), (.long q0)])) rfl (by rw [hml]; rfl) (argsL := [(.long q0), (.int p4), (.int (0 : Int32))]) (rest := []) (lenOf pd_6 rfl) rfl (by show 2 * 0 + _ ≤ _; exact Nat.le_of_eq rfl) (hb hby at_4) (fun _ _ => ⟨rfl, e0, (by decide : 0 + 0 ≤ _), (by decide : 0 + 0 ≤ _)⟩)
  dsimp only [Pt.U, Pt.locs, Pt.cells, Pt.slots] at X1 l1 y1 z1 st1 hQ1
  replace l1 : ([] ++ Lc1) = L1 := l1.symm
  subst l1 y1 z1
  obtain ⟨rfl, rfl, e1⟩ := hQ1
  simp only [List.append_nil, Nat.add_zero] at X1
  have G1 := gd X1 hx hby
  obtain ⟨x2, hx2⟩ : ∃ z : Int64, z = (rv1 q0 p4 (0 : Int32)) := ⟨_, rfl⟩
  obtain ⟨_, _, ⟨T3, L3, k3, n3⟩, -, X3, ⟨Lc3, hQ3, l3, y3, z3⟩, st3⟩ := Jvm.LawKit.callS X1 hx (y := (⟨"com/example/tempe/tempe/estimate/CountBracketSettledPinLaw", "cell", "(JII)J"⟩ : MethodName)) hown (mvT hZ (wd hw 0 rfl)) (mvT hZ (wd hw 1 rfl)) (mvT hZ (wd hw 2 rfl)) (mvT hZ (wd hw 3 rfl)) (by decide) (backOf (W := 0) (rm1 l Z a0 hw [] (((q0.toUInt64 >>> ((32 : Int32) &&& 0x3f).toInt64.toUInt64).toInt64)) p4 (1 : Int32) h0 n0 Z0 ) hZ (wd hw 3 rfl) (wd hw 2 rfl) (by decide) (by decide)) (g := (mkF m 16 #[lv q0, .second, lv q1, .second, lv q2, .second, lv q3, .second, iv p4, lv x2, .second, .unset, .unset, .unset, .unset, .unset, .unset, .unset, .unset, .unset, .unset, .unset, .unset, .unset, .unset, .unset, .unset, .unset, .unset, .unset, .unset, .unset, .unset, .unset] [(.int (1 : Int32)), (.int p4), (.long ((q0.toUInt64 >>> ((32 : Int32) &&& 0x3f).toInt64.toUInt64).toInt64))])) rfl (by rw [hml]; rfl) (argsL := [(.long ((q0.toUInt64 >>> ((32 : Int32) &&& 0x3f).toInt64.toUInt64).toInt64)), (.int p4), (.int (1 : Int32))]) (rest := []) (lenOf pd_6 rfl) rfl (by show 2 * 0 + _ ≤ _; exact Nat.le_of_eq rfl) (hb hby at_16) (fun _ _ => ⟨rfl, e1, (by decide : 0 + 0 ≤ _), (by decide : 0 + 0 ≤ _)⟩)
  dsimp only [Pt.U, Pt.locs, Pt.cells, Pt.slots] at X3 l3 y3 z3 st3 hQ3
  replace l3 : ([] ++ Lc3) = L3 := l3.symm
  subst l3 y3 z3
  obtain ⟨rfl, rfl, e3⟩ := hQ3
  simp only [List.append_nil, Nat.add_zero] at X3
  have G3 := gd X3 hx hby
  obtain ⟨x4, hx4⟩ : ∃ z : Int64, z = (rv1 ((q0.toUInt64 >>> ((32 : Int32) &&& 0x3f).toInt64.toUInt64).toInt64) p4 (1 : Int32)) := ⟨_, rfl⟩
  obtain ⟨_, _, ⟨T5, L5, k5, n5⟩, -, X5, ⟨Lc5, hQ5, l5, y5, z5⟩, st5⟩ := Jvm.LawKit.callS X3 hx (y := (⟨"com/example/tempe/tempe/estimate/CountBracketSettledPinLaw", "cell", "(JII)J"⟩ : MethodName)) hown (mvT hZ (wd hw 0 rfl)) (mvT hZ (wd hw 1 rfl)) (mvT hZ (wd hw 2 rfl)) (mvT hZ (wd hw 3 rfl)) (by decide) (backOf (W := 0) (rm1 l Z a0 hw [] q1 p4 (2 : Int32) h0 n0 Z0 ) hZ (wd hw 3 rfl) (wd hw 2 rfl) (by decide) (by decide)) (g := (mkF m 25 #[lv q0, .second, lv q1, .second, lv q2, .second, lv q3, .second, iv p4, lv x2, .second, lv x4, .second, .unset, .unset, .unset, .unset, .unset, .unset, .unset, .unset, .unset, .unset, .unset, .unset, .unset, .unset, .unset, .unset, .unset, .unset, .unset, .unset, .unset] [(.int (2 : Int32)), (.int p4), (.long q1)])) rfl (by rw [hml]; rfl) (argsL := [(.long q1), (.int p4), (.int (2 : Int32))]) (rest := []) (lenOf pd_6 rfl) rfl (by show 2 * 0 + _ ≤ _; exact Nat.le_of_eq rfl) (hb hby at_25) (fun _ _ => ⟨rfl, e3, (by decide : 0 + 0 ≤ _), (by decide : 0 + 0 ≤ _)⟩)
  dsimp only [Pt.U, Pt.locs, Pt.cells, Pt.slots] at X5 l5 y5 z5 st5 hQ5
  replace l5 : ([] ++ Lc5) = L5 := l5.symm
  subst l5 y5 z5
  obtain ⟨rfl, rfl, e5⟩ := hQ5
  simp only [List.append_nil, Nat.add_zero] at X5
  have G5 := gd X5 hx hby
  obtain ⟨x6, hx6⟩ : ∃ z : Int64, z = (rv1 q1 p4 (2 : Int32)) := ⟨_, rfl⟩
  obtain ⟨_, _, ⟨T7, L7, k7, n7⟩, -, X7, ⟨Lc7, hQ7, l7, y7, z7⟩, st7⟩ := Jvm.LawKit.callS X5 hx (y := (⟨"com/example/tempe/tempe/estimate/CountBracketSettledPinLaw", "cell", "(JII)J"⟩ : MethodName)) hown (mvT hZ (wd hw 0 rfl)) (mvT hZ (wd hw 1 rfl)) (mvT hZ (wd hw 2 rfl)) (mvT hZ (wd hw 3 rfl)) (by decide) (backOf (W := 0) (rm1 l Z a0 hw [] (((q1.toUInt64 >>> ((32 : Int32) &&& 0x3f).toInt64.toUInt64).toInt64)) p4 (3 : Int32) h0 n0 Z0 ) hZ (wd hw 3 rfl) (wd hw 2 rfl) (by decide) (by decide)) (g := (mkF m 37 #[lv q0, .second, lv q1, .second, lv q2, .second, lv q3, .second, iv p4, lv x2, .second, lv x4, .second, lv x6, .second, .unset, .unset, .unset, .unset, .unset, .unset, .unset, .unset, .unset, .unset, .unset, .unset, .unset, .unset, .unset, .unset, .unset, .unset, .unset] [(.int (3 : Int32)), (.int p4), (.long ((q1.toUInt64 >>> ((32 : Int32) &&& 0x3f).toInt64.toUInt64).toInt64))])) rfl (by rw [hml]; rfl) (argsL := [(.long ((q1.toUInt64 >>> ((32 : Int32) &&& 0x3f).toInt64.toUInt64).toInt64)), (.int p4), (.int (3 : Int32))]) (rest := []) (lenOf pd_6 rfl) rfl (by show 2 * 0 + _ ≤ _; exact Nat.le_of_eq rfl) (hb hby at_37) (fun _ _ => ⟨rfl, e5, (by decide : 0 + 0 ≤ _), (by decide : 0 + 0 ≤ _)⟩)
  dsimp only [Pt.U, Pt.locs, Pt.cells, Pt.slots] at X7 l7 y7 z7 st7 hQ7
  replace l7 : ([] ++ Lc7) = L7 := l7.symm
  subst l7 y7 z7
  obtain ⟨rfl, rfl, e7⟩ := hQ7
  simp only [List.append_nil, Nat.add_zero] at X7
  have G7 := gd X7 hx hby
  obtain ⟨x8, hx8⟩ : ∃ z : Int64, z = (rv1 ((q1.toUInt64 >>> ((32 : Int32) &&& 0x3f).toInt64.toUInt64).toInt64) p4 (3 : Int32)) := ⟨_, rfl⟩
  obtain ⟨_, _, ⟨T9, L9, k9, n9⟩, -, X9, ⟨Lc9, hQ9, l9, y9, z9⟩, st9⟩ := Jvm.LawKit.callS X7 hx (y := (⟨"com/example/tempe/tempe/estimate/CountBracketSettledPinLaw", "cell", "(JII)J"⟩ : MethodName)) hown (mvT hZ (wd hw 0 rfl)) (mvT hZ (wd hw 1 rfl)) (mvT hZ (wd hw 2 rfl)) (mvT hZ (wd hw 3 rfl)) (by decide) (backOf (W := 0) (rm1 l Z a0 hw [] q2 p4 (4 : Int32) h0 n0 Z0 ) hZ (wd hw 3 rfl) (wd hw 2 rfl) (by decide) (by decide)) (g := (mkF m 47 #[lv q0, .second, lv q1, .second, lv q2, .second, lv q3, .second, iv p4, lv x2, .second, lv x4, .second, lv x6, .second, lv x8, .second, .unset, .unset, .unset, .unset, .unset, .unset, .unset, .unset, .unset, .unset, .unset, .unset, .unset, .unset, .unset, .unset, .unset] [(.int (4 : Int32)), (.int p4), (.long q2)])) rfl (by rw [hml]; rfl) (argsL := [(.long q2), (.int p4), (.int (4 : Int32))]) (rest := []) (lenOf pd_6 rfl) rfl (by show 2 * 0 + _ ≤ _; exact Nat.le_of_eq rfl) (hb hby at_47) (fun _ _ => ⟨rfl, e7, (by decide : 0 + 0 ≤ _), (by decide : 0 + 0 ≤ _)⟩)
  dsimp only [Pt.U, Pt.locs, Pt.cells, Pt.slots] at X9 l9 y9 z9 st9 hQ9
  replace l9 : ([] ++ Lc9) = L9 := l9.symm
  subst l9 y9 z9
  obtain ⟨rfl, rfl, e9⟩ := hQ9
  simp only [List.append_nil, Nat.add_zero] at X9
  have G9 := gd X9 hx hby
  obtain ⟨x10, hx10⟩ : ∃ z : Int64, z = (rv1 q2 p4 (4 : Int32)) := ⟨_, rfl⟩
  obtain ⟨_, _, ⟨T11, L11, k11, n11⟩, -, X11, ⟨Lc11, hQ11, l11, y11, z11⟩, st11⟩ := Jvm.LawKit.callS X9 hx (y := (⟨"com/example/tempe/tempe/estimate/CountBracketSettledPinLaw", "cell", "(JII)J"⟩ : MethodName)) hown (mvT hZ (wd hw 0 rfl)) (mvT hZ (wd hw 1 rfl)) (mvT hZ (wd hw 2 rfl)) (mvT hZ (wd hw 3 rfl)) (by decide) (backOf (W := 0) (rm1 l Z a0 hw [] (((q2.toUInt64 >>> ((32 : Int32) &&& 0x3f).toInt64.toUInt64).toInt64)) p4 (5 : Int32) h0 n0 Z0 ) hZ (wd hw 3 rfl) (wd hw 2 rfl) (by decide) (by decide)) (g := (mkF m 60 #[lv q0, .second, lv q1, .second, lv q2, .second, lv q3, .second, iv p4, lv x2, .second, lv x4, .second, lv x6, .second, lv x8, .second, lv x10, .second, .unset, .unset, .unset, .unset, .unset, .unset, .unset, .unset, .unset, .unset, .unset, .unset, .unset, .unset, .unset] [(.int (5 : Int32)), (.int p4), (.long ((q2.toUInt64 >>> ((32 : Int32) &&& 0x3f).toInt64.toUInt64).toInt64))])) rfl (by rw [hml]; rfl) (argsL := [(.long ((q2.toUInt64 >>> ((32 : Int32) &&& 0x3f).toInt64.toUInt64).toInt64)), (.int p4), (.int (5 : Int32))]) (rest := []) (lenOf pd_6 rfl) rfl (by show 2 * 0 + _ ≤ _; exact Nat.le_of_eq rfl) (hb hby at_60) (fun _ _ => ⟨rfl, e9, (by decide : 0 + 0 ≤ _), (by decide : 0 + 0 ≤ _)⟩)
  dsimp only [Pt.U, Pt.locs, Pt.cells, Pt.slots] at X11 l11 y11 z11 st11 hQ11
  replace l11 : ([] ++ Lc11) = L11 := l11.symm
  subst l11 y11 z11
  obtain ⟨rfl, rfl, e11⟩ := hQ11
  simp only [List.append_nil, Nat.add_zero] at X11
  have G11 := gd X11 hx hby
  obtain ⟨x12, hx12⟩ : ∃ z : Int64, z = (rv1 ((q2.toUInt64 >>> ((32 : Int32) &&& 0x3f).toInt64.toUInt64).toInt64) p4 (5 : Int32)) := ⟨_, rfl⟩
  obtain ⟨_, _, ⟨T13, L13, k13, n13⟩, -, X13, ⟨Lc13, hQ13, l13, y13, z13⟩, st13⟩ := Jvm.LawKit.callS X11 hx (y := (⟨"com/example/tempe/tempe/estimate/CountBracketSettledPinLaw", "cell", "(JII)J"⟩ : MethodName)) hown (mvT hZ (wd hw 0 rfl)) (mvT hZ (wd hw 1 rfl)) (mvT hZ (wd hw 2 rfl)) (mvT hZ (wd hw 3 rfl)) (by decide) (backOf (W := 0) (rm1 l Z a0 hw [] q3 p4 (6 : Int32) h0 n0 Z0 ) hZ (wd hw 3 rfl) (wd hw 2 rfl) (by decide) (by decide)) (g := (mkF m 71 #[lv q0, .second, lv q1, .second, lv q2, .second, lv q3, .second, iv p4, lv x2, .second, lv x4, .second, lv x6, .second, lv x8, .second, lv x10, .second, lv x12, .second, .unset, .unset, .unset, .unset, .unset, .unset, .unset, .unset, .unset, .unset, .unset, .unset, .unset] [(.int (6 : Int32)), (.int p4), (.long q3)])) rfl (by rw [hml]; rfl) (argsL := [(.long q3), (.int p4), (.int (6 : Int32))]) (rest := []) (lenOf pd_6 rfl) rfl (by show 2 * 0 + _ ≤ _; exact Nat.le_of_eq rfl) (hb hby at_71) (fun _ _ => ⟨rfl, e11, (by decide : 0 + 0 ≤ _), (by decide : 0 + 0 ≤ _)⟩)
  dsimp only [Pt.U, Pt.locs, Pt.cells, Pt.slots] at X13 l13 y13 z13 st13 hQ13
  replace l13 : ([] ++ Lc13) = L13 := l13.symm
  subst l13 y13 z13
  obtain ⟨rfl, rfl, e13⟩ := hQ13
  simp only [List.append_nil, Nat.add_zero] at X13
  have G13 := gd X13 hx hby
  obtain ⟨x14, hx14⟩ : ∃ z : Int64, z = (rv1 q3 p4 (6 : Int32)) := ⟨_, rfl⟩
  obtain ⟨_, _, ⟨T15, L15, k15, n15⟩, -, X15, ⟨Lc15, hQ15, l15, y15, z15⟩, st15⟩ := Jvm.LawKit.callS X13 hx (y := (⟨"com/example/tempe/tempe/estimate/CountBracketSettledPinLaw", "cell", "(JII)J"⟩ : MethodName)) hown (mvT hZ (wd hw 0 rfl)) (mvT hZ (wd hw 1 rfl)) (mvT hZ (wd hw 2 rfl)) (mvT hZ (wd hw 3 rfl)) (by decide) (backOf (W := 0) (rm1 l Z a0 hw [] (((q3.toUInt64 >>> ((32 : Int32) &&& 0x3f).toInt64.toUInt64).toInt64)) p4 (7 : Int32) h0 n0 Z0 ) hZ (wd hw 3 rfl) (wd hw 2 rfl) (by decide) (by decide)) (g := (mkF m 85 #[lv q0, .second, lv q1, .second, lv q2, .second, lv q3, .second, iv p4, lv x2, .second, lv x4, .second, lv x6, .second, lv x8, .second, lv x10, .second, lv x12, .second, lv x14, .second, .unset, .unset, .unset, .unset, .unset, .unset, .unset, .unset, .unset, .unset, .unset] [(.int (7 : Int32)), (.int p4), (.long ((q3.toUInt64 >>> ((32 : Int32) &&& 0x3f).toInt64.toUInt64).toInt64))])) rfl (by rw [hml]; rfl) (argsL := [(.long ((q3.toUInt64 >>> ((32 : Int32) &&& 0x3f).toInt64.toUInt64).toInt64)), (.int p4), (.int (7 : Int32))]) (rest := []) (lenOf pd_6 rfl) rfl (by show 2 * 0 + _ ≤ _; exact Nat.le_of_eq rfl) (hb hby at_85) (fun _ _ => ⟨rfl, e13, (by decide : 0 + 0 ≤ _), (by decide : 0 + 0 ≤ _)⟩)
  dsimp only [Pt.U, Pt.locs, Pt.cells, Pt.slots] at X15 l15 y15 z15 st15 hQ15
  replace l15 : ([] ++ Lc15) = L15 := l15.symm
  subst l15 y15 z15
  obtain ⟨rfl, rfl, e15⟩ := hQ15
  simp only [List.append_nil, Nat.add_zero] at X15
  have G15 := gd X15 hx hby
  obtain ⟨x16, hx16⟩ : ∃ z : Int64, z = (rv1 ((q3.toUInt64 >>> ((32 : Int32) &&& 0x3f).toInt64.toUInt64).toInt64) p4 (7 : Int32)) := ⟨_, rfl⟩
  by_cases hc97_17 : (((p4.toUInt32 >>> ((8 : Int32) &&& 31).toUInt32).toInt32) &&& (1 : Int32)) = (0 : Int32)
  · obtain ⟨T18, h18, k18, X18, e18, E18, A18, st18⟩ := newP X15 hx hZ (wd hw 6 rfl) e15 (g := (mkF m 164 #[lv q0, .second, lv q1, .second, lv q2, .second, lv q3, .second, iv p4, lv x2, .second, lv x4, .second, lv x6, .second, lv x8, .second, lv x10, .second, lv x12, .second, lv x14, .second, lv x16, .second, .unset, .unset, .unset, .unset, .unset, .unset, .unset, .unset, .unset] [(.int (8 : Int32))])) rfl (hb hby at_164) rfl (by decide) (cap := 8) (by decide) (by decide) (by decide) (by decide)
    have G18 := gd X18 hx hby
    obtain ⟨b18, g18⟩ : ∃ z, z = h0.size := ⟨_, rfl⟩
    rw [← g18] at A18 st18
    have g_b18 : n0 ≤ b18 := Nat.le_trans Z0 (Nat.le_of_eq g18.symm)
    have Z18 := Nat.le_trans Z0 E18.1
    have V_b18 : Arv Z h18 b18 k18 .long (8 : Int32) [(.long (0 : Int64)), (.long (0 : Int64)), (.long (0 : Int64)), (.long (0 : Int64)), (.long (0 : Int64)), (.long (0 : Int64)), (.long (0 : Int64)), (.long (0 : Int64))] (.long (0 : Int64)) := (Arv.new A18 (by decide)).pad (pad_rep [] (.long (0 : Int64)) 8)
    obtain ⟨x19, hx19⟩ : ∃ z : Int64, z = (((((((x2 + x4) + x6) + x8) + x10) + x12) + x14) + x16) := ⟨_, rfl⟩
    obtain ⟨T20, h20, X20, e20, W20, Vs20, st20⟩ := own_stJ X18 hx hby hZ e18 V_b18 (j := (0 : Int32)) (v := x19) at_194 ⟨by decide, by decide⟩ 0 rfl (Nat.le_of_ble_eq_true rfl) #[lv q0, .second, lv q1, .second, lv q2, .second, lv q3, .second, iv p4, lv x2, .second, lv x4, .second, lv x6, .second, lv x8, .second, lv x10, .second, lv x12, .second, lv x14, .second, lv x16, .second, rv b18, .unset, .unset, .unset, .unset, .unset, .unset, .unset, .unset] [] 195 rfl
    have G20 := gd X20 hx hby
    have N20 := Fr.snoc X20 N0 g_b18
    have Z20 := Nat.le_trans Z18 (Keep.of_wr W20).1
    have V20 : Arv Z h20 b18 k18 .long (8 : Int32) [(.long x19), (.long (0 : Int64)), (.long (0 : Int64)), (.long (0 : Int64)), (.long (0 : Int64)), (.long (0 : Int64)), (.long (0 : Int64)), (.long (0 : Int64))] (.long (0 : Int64)) := Vs20
    obtain ⟨x23, hx23⟩ : ∃ z : Int64, z = (((x4 + x8) + x12) + x16) := ⟨_, rfl⟩
    obtain ⟨T24, h24, X24, e24, W24, Vs24, st24⟩ := own_stJ X20 hx hby hZ e20 V20 (j := (1 : Int32)) (v := x23) at_209 ⟨by decide, by decide⟩ 1 rfl (Nat.le_of_ble_eq_true rfl) #[lv q0, .second, lv q1, .second, lv q2, .second, lv q3, .second, iv p4, lv x2, .second, lv x4, .second, lv x6, .second, lv x8, .second, lv x10, .second, lv x12, .second, lv x14, .second, lv x16, .second, rv b18, .unset, .unset, .unset, .unset, .unset, .unset, .unset, .unset] [] 210 rfl
    have G24 := gd X24 hx hby
    have N24 := Fr.snoc X24 N20 g_b18
    have Z24 := Nat.le_trans Z20 (Keep.of_wr W24).1
    have V24 : Arv Z h24 b18 k18 .long (8 : Int32) [(.long x19), (.long x23), (.long (0 : Int64)), (.long (0 : Int64)), (.long (0 : Int64)), (.long (0 : Int64)), (.long (0 : Int64)), (.long (0 : Int64))] (.long (0 : Int64)) := Vs24
    obtain ⟨x27, hx27⟩ : ∃ z : Int64, z = (((x6 + x8) + x14) + x16) := ⟨_, rfl⟩
    obtain ⟨T28, h28, X28, e28, W28, Vs28, st28⟩ := own_stJ X24 hx hby hZ e24 V24 (j := (2 : Int32)) (v := x27) at_224 ⟨by decide, by decide⟩ 2 rfl (Nat.le_of_ble_eq_true rfl) #[lv q0, .second, lv q1, .second, lv q2, .second, lv q3, .second, iv p4, lv x2, .second, lv x4, .second, lv x6, .second, lv x8, .second, lv x10, .second, lv x12, .second, lv x14, .second, lv x16, .second, rv b18, .unset, .unset, .unset, .unset, .unset, .unset, .unset, .unset] [] 225 rfl
    have G28 := gd X28 hx hby
    have N28 := Fr.snoc X28 N24 g_b18
    have Z28 := Nat.le_trans Z24 (Keep.of_wr W28).1
    have V28 : Arv Z h28 b18 k18 .long (8 : Int32) [(.long x19), (.long x23), (.long x27), (.long (0 : Int64)), (.long (0 : Int64)), (.long (0 : Int64)), (.long (0 : Int64)), (.long (0 : Int64))] (.long (0 : Int64)) := Vs28
    obtain ⟨x31, hx31⟩ : ∃ z : Int64, z = (x8 + x16) := ⟨_, rfl⟩
    obtain ⟨T32, h32, X32, e32, W32, Vs32, st32⟩ := own_stJ X28 hx hby hZ e28 V28 (j := (3 : Int32)) (v := x31) at_233 ⟨by decide, by decide⟩ 3 rfl (Nat.le_of_ble_eq_true rfl) #[lv q0, .second, lv q1, .second, lv q2, .second, lv q3, .second, iv p4, lv x2, .second, lv x4, .second, lv x6, .second, lv x8, .second, lv x10, .second, lv x12, .second, lv x14, .second, lv x16, .second, rv b18, .unset, .unset, .unset, .unset, .unset, .unset, .unset, .unset] [] 234 rfl
    have G32 := gd X32 hx hby
    have N32 := Fr.snoc X32 N28 g_b18
    have Z32 := Nat.le_trans Z28 (Keep.of_wr W32).1
    have V32 : Arv Z h32 b18 k18 .long (8 : Int32) [(.long x19), (.long x23), (.long x27), (.long x31), (.long (0 : Int64)), (.long (0 : Int64)), (.long (0 : Int64)), (.long (0 : Int64))] (.long (0 : Int64)) := Vs32
    obtain ⟨x35, hx35⟩ : ∃ z : Int64, z = (((x10 + x12) + x14) + x16) := ⟨_, rfl⟩
    obtain ⟨T36, h36, X36, e36, W36, Vs36, st36⟩ := own_stJ X32 hx hby hZ e32 V32 (j := (4 : Int32)) (v := x35) at_248 ⟨by decide, by decide⟩ 4 rfl (Nat.le_of_ble_eq_true rfl) #[lv q0, .second, lv q1, .second, lv q2, .second, lv q3, .second, iv p4, lv x2, .second, lv x4, .second, lv x6, .second, lv x8, .second, lv x10, .second, lv x12, .second, lv x14, .second, lv x16, .second, rv b18, .unset, .unset, .unset, .unset, .unset, .unset, .unset, .unset] [] 249 rfl
    have G36 := gd X36 hx hby
    have N36 := Fr.snoc X36 N32 g_b18
    have Z36 := Nat.le_trans Z32 (Keep.of_wr W36).1
    have V36 : Arv Z h36 b18 k18 .long (8 : Int32) [(.long x19), (.long x23), (.long x27), (.long x31), (.long x35), (.long (0 : Int64)), (.long (0 : Int64)), (.long (0 : Int64))] (.long (0 : Int64)) := Vs36
    obtain ⟨x39, hx39⟩ : ∃ z : Int64, z = (x12 + x16) := ⟨_, rfl⟩
    obtain ⟨T40, h40, X40, e40, W40, Vs40, st40⟩ := own_stJ X36 hx hby hZ e36 V36 (j := (5 : Int32)) (v := x39) at_257 ⟨by decide, by decide⟩ 5 rfl (Nat.le_of_ble_eq_true rfl) #[lv q0, .second, lv q1, .second, lv q2, .second, lv q3, .second, iv p4, lv x2, .second, lv x4, .second, lv x6, .second, lv x8, .second, lv x10, .second, lv x12, .second, lv x14, .second, lv x16, .second, rv b18, .unset, .unset, .unset, .unset, .unset, .unset, .unset, .unset] [] 258 rfl
    have G40 := gd X40 hx hby
    have N40 := Fr.snoc X40 N36 g_b18
    have Z40 := Nat.le_trans Z36 (Keep.of_wr W40).1
    have V40 : Arv Z h40 b18 k18 .long (8 : Int32) [(.long x19), (.long x23), (.long x27), (.long x31), (.long x35), (.long x39), (.long (0 : Int64)), (.long (0 : Int64))] (.long (0 : Int64)) := Vs40
    obtain ⟨x43, hx43⟩ : ∃ z : Int64, z = (x14 + x16) := ⟨_, rfl⟩
    obtain ⟨T44, h44, X44, e44, W44, Vs44, st44⟩ := own_stJ X40 hx hby hZ e40 V40 (j := (6 : Int32)) (v := x43) at_267 ⟨by decide, by decide⟩ 6 rfl (Nat.le_of_ble_eq_true rfl) #[lv q0, .second, lv q1, .second, lv q2, .second, lv q3, .second, iv p4, lv x2, .second, lv x4, .second, lv x6, .second, lv x8, .second, lv x10, .second, lv x12, .second, lv x14, .second, lv x16, .second, rv b18, .unset, .unset, .unset, .unset, .unset, .unset, .unset, .unset] [] 268 rfl
    have G44 := gd X44 hx hby
    have N44 := Fr.snoc X44 N40 g_b18
    have Z44 := Nat.le_trans Z40 (Keep.of_wr W44).1
    have V44 : Arv Z h44 b18 k18 .long (8 : Int32) [(.long x19), (.long x23), (.long x27), (.long x31), (.long x35), (.long x39), (.long x43), (.long (0 : Int64))] (.long (0 : Int64)) := Vs44
    obtain ⟨T47, h47, X47, e47, W47, Vs47, st47⟩ := own_stJ X44 hx hby hZ e44 V44 (j := (7 : Int32)) (v := (0 : Int64)) at_273 ⟨by decide, by decide⟩ 7 rfl (Nat.le_of_ble_eq_true rfl) #[lv q0, .second, lv q1, .second, lv q2, .second, lv q3, .second, iv p4, lv x2, .second, lv x4, .second, lv x6, .second, lv x8, .second, lv x10, .second, lv x12, .second, lv x14, .second, lv x16, .second, rv b18, .unset, .unset, .unset, .unset, .unset, .unset, .unset, .unset] [] 274 rfl
    have G47 := gd X47 hx hby
    have N47 := Fr.snoc X47 N44 g_b18
    have Z47 := Nat.le_trans Z44 (Keep.of_wr W47).1
    have V47 : Arv Z h47 b18 k18 .long (8 : Int32) [(.long x19), (.long x23), (.long x27), (.long x31), (.long x35), (.long x39), (.long x43), (.long (0 : Int64))] (.long (0 : Int64)) := Vs47
    obtain ⟨_, _, ⟨T50, L50, k50, n50⟩, -, X50, ⟨Lc50, hQ50, l50, y50, z50⟩, st50⟩ := Jvm.LawKit.callS X47 hx (y := (⟨"java/lang/Math", "min", "(JJ)J"⟩ : MethodName)) hown (mvT hZ (wd hw 7 rfl)) (mvT hZ (wd hw 8 rfl)) (mvT hZ (wd hw 9 rfl)) (mvT hZ (wd hw 10 rfl)) (by decide) (backOf (W := 0) (rm2 l Z a0 hw [] x16 x4 h47 n0 Z47 ) hZ (wd hw 10 rfl) (wd hw 9 rfl) (by decide) (by decide)) (g := (mkF m 278 #[lv q0, .second, lv q1, .second, lv q2, .second, lv q3, .second, iv p4, lv x2, .second, lv x4, .second, lv x6, .second, lv x8, .second, lv x10, .second, lv x12, .second, lv x14, .second, lv x16, .second, rv b18, .unset, .unset, .unset, .unset, .unset, .unset, .unset, .unset] [(.long x4), (.long x16)])) rfl (by rw [hml]; rfl) (argsL := [(.long x16), (.long x4)]) (rest := []) (lenOf pd_1 rfl) rfl (by show 2 * 0 + _ ≤ _; exact Nat.le_of_eq rfl) (hb hby at_278) (fun _ _ => ⟨rfl, e47, (by decide : 1 + 0 ≤ _), (by decide : 8 + 0 ≤ _)⟩)
    dsimp only [Pt.U, Pt.locs, Pt.cells, Pt.slots] at X50 l50 y50 z50 st50 hQ50
    replace l50 : ((((((((([] ++ [⟨b18, ((0 : Int32)).toNatClampNeg⟩]) ++ [⟨b18, ((1 : Int32)).toNatClampNeg⟩]) ++ [⟨b18, ((2 : Int32)).toNatClampNeg⟩]) ++ [⟨b18, ((3 : Int32)).toNatClampNeg⟩]) ++ [⟨b18, ((4 : Int32)).toNatClampNeg⟩]) ++ [⟨b18, ((5 : Int32)).toNatClampNeg⟩]) ++ [⟨b18, ((6 : Int32)).toNatClampNeg⟩]) ++ [⟨b18, ((7 : Int32)).toNatClampNeg⟩]) ++ Lc50) = L50 := l50.symm
    subst l50 y50 z50
    obtain ⟨rfl, rfl, e50⟩ := hQ50
    simp only [List.append_nil, Nat.add_zero] at X50
    have G50 := gd X50 hx hby
    obtain ⟨_, _, ⟨T51, L51, k51, n51⟩, -, X51, ⟨Lc51, hQ51, l51, y51, z51⟩, st51⟩ := Jvm.LawKit.callS X50 hx (y := (⟨"java/lang/Math", "min", "(JJ)J"⟩ : MethodName)) hown (mvT hZ (wd hw 7 rfl)) (mvT hZ (wd hw 8 rfl)) (mvT hZ (wd hw 9 rfl)) (mvT hZ (wd hw 10 rfl)) (by decide) (backOf (W := 2) (rm2 l Z a0 hw [] x6 x10 h47 n0 Z47 ) hZ (wd hw 10 rfl) (wd hw 9 rfl) (by decide) (by decide)) (g := (mkF m 285 #[lv q0, .second, lv q1, .second, lv q2, .second, lv q3, .second, iv p4, lv x2, .second, lv x4, .second, lv x6, .second, lv x8, .second, lv x10, .second, lv x12, .second, lv x14, .second, lv x16, .second, rv b18, .unset, .unset, .unset, .unset, .unset, .unset, .unset, .unset] [(.long x10), (.long x6), (.long (rv2 x16 x4))])) rfl (by rw [hml]; rfl) (argsL := [(.long x6), (.long x10)]) (rest := [(.long (rv2 x16 x4))]) (lenOf pd_1 rfl) rfl (by show 2 * 0 + _ ≤ _; exact Nat.le_of_eq rfl) (hb hby at_285) (fun _ _ => ⟨rfl, e50, (by decide : 1 + 0 ≤ _), (by decide : 8 + 0 ≤ _)⟩)
    dsimp only [Pt.U, Pt.locs, Pt.cells, Pt.slots] at X51 l51 y51 z51 st51 hQ51
    replace l51 : ((((((((([] ++ [⟨b18, ((0 : Int32)).toNatClampNeg⟩]) ++ [⟨b18, ((1 : Int32)).toNatClampNeg⟩]) ++ [⟨b18, ((2 : Int32)).toNatClampNeg⟩]) ++ [⟨b18, ((3 : Int32)).toNatClampNeg⟩]) ++ [⟨b18, ((4 : Int32)).toNatClampNeg⟩]) ++ [⟨b18, ((5 : Int32)).toNatClampNeg⟩]) ++ [⟨b18, ((6 : Int32)).toNatClampNeg⟩]) ++ [⟨b18, ((7 : Int32)).toNatClampNeg⟩]) ++ Lc51) = L51 := l51.symm
    subst l51 y51 z51
    obtain ⟨rfl, rfl, e51⟩ := hQ51
    simp only [List.append_nil, Nat.add_zero] at X51
    have G51 := gd X51 hx hby
    obtain ⟨_, _, ⟨T52, L52, k52, n52⟩, -, X52, ⟨Lc52, hQ52, l52, y52, z52⟩, st52⟩ := Jvm.LawKit.callS X51 hx (y := (⟨"java/lang/Math", "min", "(JJ)J"⟩ : MethodName)) hown (mvT hZ (wd hw 7 rfl)) (mvT hZ (wd hw 8 rfl)) (mvT hZ (wd hw 9 rfl)) (mvT hZ (wd hw 10 rfl)) (by decide) (backOf (W := 0) (rm2 l Z a0 hw [] ((rv2 x16 x4)) ((rv2 x6 x10)) h47 n0 Z47 ) hZ (wd hw 10 rfl) (wd hw 9 rfl) (by decide) (by decide)) (g := (mkF m 288 #[lv q0, .second, lv q1, .second, lv q2, .second, lv q3, .second, iv p4, lv x2, .second, lv x4, .second, lv x6, .second, lv x8, .second, lv x10, .second, lv x12, .second, lv x14, .second, lv x16, .second, rv b18, .unset, .unset, .unset, .unset, .unset, .unset, .unset, .unset] [(.long (rv2 x6 x10)), (.long (rv2 x16 x4))])) rfl (by rw [hml]; rfl) (argsL := [(.long (rv2 x16 x4)), (.long (rv2 x6 x10))]) (rest := []) (lenOf pd_1 rfl) rfl (by show 2 * 0 + _ ≤ _; exact Nat.le_of_eq rfl) (hb hby at_288) (fun _ _ => ⟨rfl, e51, (by decide : 1 + 0 ≤ _), (by decide : 8 + 0 ≤ _)⟩)
    dsimp only [Pt.U, Pt.locs, Pt.cells, Pt.slots] at X52 l52 y52 z52 st52 hQ52
    replace l52 : ((((((((([] ++ [⟨b18, ((0 : Int32)).toNatClampNeg⟩]) ++ [⟨b18, ((1 : Int32)).toNatClampNeg⟩]) ++ [⟨b18, ((2 : Int32)).toNatClampNeg⟩]) ++ [⟨b18, ((3 : Int32)).toNatClampNeg⟩]) ++ [⟨b18, ((4 : Int32)).toNatClampNeg⟩]) ++ [⟨b18, ((5 : Int32)).toNatClampNeg⟩]) ++ [⟨b18, ((6 : Int32)).toNatClampNeg⟩]) ++ [⟨b18, ((7 : Int32)).toNatClampNeg⟩]) ++ Lc52) = L52 := l52.symm
    subst l52 y52 z52
    obtain ⟨rfl, rfl, e52⟩ := hQ52
    simp only [List.append_nil, Nat.add_zero] at X52
    have G52 := gd X52 hx hby
    obtain ⟨x53, hx53⟩ : ∃ z : Int64, z = (rv2 (rv2 x16 x4) (rv2 x6 x10)) := ⟨_, rfl⟩
    obtain ⟨_, _, ⟨T54, L54, k54, n54⟩, -, X54, ⟨Lc54, hQ54, l54, y54, z54⟩, st54⟩ := Jvm.LawKit.callS X52 hx (y := (⟨"java/lang/Math", "min", "(JJ)J"⟩ : MethodName)) hown (mvT hZ (wd hw 7 rfl)) (mvT hZ (wd hw 8 rfl)) (mvT hZ (wd hw 9 rfl)) (mvT hZ (wd hw 10 rfl)) (by decide) (backOf (W := 0) (rm2 l Z a0 hw [] x2 x8 h47 n0 Z47 ) hZ (wd hw 10 rfl) (wd hw 9 rfl) (by decide) (by decide)) (g := (mkF m 297 #[lv q0, .second, lv q1, .second, lv q2, .second, lv q3, .second, iv p4, lv x2, .second, lv x4, .second, lv x6, .second, lv x8, .second, lv x10, .second, lv x12, .second, lv x14, .second, lv x16, .second, rv b18, lv x53, .second, .unset, .unset, .unset, .unset, .unset, .unset] [(.long x8), (.long x2)])) rfl (by rw [hml]; rfl) (argsL := [(.long x2), (.long x8)]) (rest := []) (lenOf pd_1 rfl) rfl (by show 2 * 0 + _ ≤ _; exact Nat.le_of_eq rfl) (hb hby at_297) (fun _ _ => ⟨rfl, e52, (by decide : 1 + 0 ≤ _), (by decide : 8 + 0 ≤ _)⟩)
    dsimp only [Pt.U, Pt.locs, Pt.cells, Pt.slots] at X54 l54 y54 z54 st54 hQ54
    replace l54 : ((((((((([] ++ [⟨b18, ((0 : Int32)).toNatClampNeg⟩]) ++ [⟨b18, ((1 : Int32)).toNatClampNeg⟩]) ++ [⟨b18, ((2 : Int32)).toNatClampNeg⟩]) ++ [⟨b18, ((3 : Int32)).toNatClampNeg⟩]) ++ [⟨b18, ((4 : Int32)).toNatClampNeg⟩]) ++ [⟨b18, ((5 : Int32)).toNatClampNeg⟩]) ++ [⟨b18, ((6 : Int32)).toNatClampNeg⟩]) ++ [⟨b18, ((7 : Int32)).toNatClampNeg⟩]) ++ Lc54) = L54 := l54.symm
    subst l54 y54 z54
    obtain ⟨rfl, rfl, e54⟩ := hQ54
    simp only [List.append_nil, Nat.add_zero] at X54
    have G54 := gd X54 hx hby
    obtain ⟨_, _, ⟨T55, L55, k55, n55⟩, -, X55, ⟨Lc55, hQ55, l55, y55, z55⟩, st55⟩ := Jvm.LawKit.callS X54 hx (y := (⟨"java/lang/Math", "min", "(JJ)J"⟩ : MethodName)) hown (mvT hZ (wd hw 7 rfl)) (mvT hZ (wd hw 8 rfl)) (mvT hZ (wd hw 9 rfl)) (mvT hZ (wd hw 10 rfl)) (by decide) (backOf (W := 2) (rm2 l Z a0 hw [] x12 x14 h47 n0 Z47 ) hZ (wd hw 10 rfl) (wd hw 9 rfl) (by decide) (by decide)) (g := (mkF m 304 #[lv q0, .second, lv q1, .second, lv q2, .second, lv q3, .second, iv p4, lv x2, .second, lv x4, .second, lv x6, .second, lv x8, .second, lv x10, .second, lv x12, .second, lv x14, .second, lv x16, .second, rv b18, lv x53, .second, .unset, .unset, .unset, .unset, .unset, .unset] [(.long x14), (.long x12), (.long (rv2 x2 x8))])) rfl (by rw [hml]; rfl) (argsL := [(.long x12), (.long x14)]) (rest := [(.long (rv2 x2 x8))]) (lenOf pd_1 rfl) rfl (by show 2 * 0 + _ ≤ _; exact Nat.le_of_eq rfl) (hb hby at_304) (fun _ _ => ⟨rfl, e54, (by decide : 1 + 0 ≤ _), (by decide : 8 + 0 ≤ _)⟩)
    dsimp only [Pt.U, Pt.locs, Pt.cells, Pt.slots] at X55 l55 y55 z55 st55 hQ55
    replace l55 : ((((((((([] ++ [⟨b18, ((0 : Int32)).toNatClampNeg⟩]) ++ [⟨b18, ((1 : Int32)).toNatClampNeg⟩]) ++ [⟨b18, ((2 : Int32)).toNatClampNeg⟩]) ++ [⟨b18, ((3 : Int32)).toNatClampNeg⟩]) ++ [⟨b18, ((4 : Int32)).toNatClampNeg⟩]) ++ [⟨b18, ((5 : Int32)).toNatClampNeg⟩]) ++ [⟨b18, ((6 : Int32)).toNatClampNeg⟩]) ++ [⟨b18, ((7 : Int32)).toNatClampNeg⟩]) ++ Lc55) = L55 := l55.symm
    subst l55 y55 z55
    obtain ⟨rfl, rfl, e55⟩ := hQ55
    simp only [List.append_nil, Nat.add_zero] at X55
    have G55 := gd X55 hx hby
    obtain ⟨_, _, ⟨T56, L56, k56, n56⟩, -, X56, ⟨Lc56, hQ56, l56, y56, z56⟩, st56⟩ := Jvm.LawKit.callS X55 hx (y := (⟨"java/lang/Math", "min", "(JJ)J"⟩ : MethodName)) hown (mvT hZ (wd hw 7 rfl)) (mvT hZ (wd hw 8 rfl)) (mvT hZ (wd hw 9 rfl)) (mvT hZ (wd hw 10 rfl)) (by decide) (backOf (W := 0) (rm2 l Z a0 hw [] ((rv2 x2 x8)) ((rv2 x12 x14)) h47 n0 Z47 ) hZ (wd hw 10 rfl) (wd hw 9 rfl) (by decide) (by decide)) (g := (mkF m 307 #[lv q0, .second, lv q1, .second, lv q2, .second, lv q3, .second, iv p4, lv x2, .second, lv x4, .second, lv x6, .second, lv x8, .second, lv x10, .second, lv x12, .second, lv x14, .second, lv x16, .second, rv b18, lv x53, .second, .unset, .unset, .unset, .unset, .unset, .unset] [(.long (rv2 x12 x14)), (.long (rv2 x2 x8))])) rfl (by rw [hml]; rfl) (argsL := [(.long (rv2 x2 x8)), (.long (rv2 x12 x14))]) (rest := []) (lenOf pd_1 rfl) rfl (by show 2 * 0 + _ ≤ _; exact Nat.le_of_eq rfl) (hb hby at_307) (fun _ _ => ⟨rfl, e55, (by decide : 1 + 0 ≤ _), (by decide : 8 + 0 ≤ _)⟩)
    dsimp only [Pt.U, Pt.locs, Pt.cells, Pt.slots] at X56 l56 y56 z56 st56 hQ56
    replace l56 : ((((((((([] ++ [⟨b18, ((0 : Int32)).toNatClampNeg⟩]) ++ [⟨b18, ((1 : Int32)).toNatClampNeg⟩]) ++ [⟨b18, ((2 : Int32)).toNatClampNeg⟩]) ++ [⟨b18, ((3 : Int32)).toNatClampNeg⟩]) ++ [⟨b18, ((4 : Int32)).toNatClampNeg⟩]) ++ [⟨b18, ((5 : Int32)).toNatClampNeg⟩]) ++ [⟨b18, ((6 : Int32)).toNatClampNeg⟩]) ++ [⟨b18, ((7 : Int32)).toNatClampNeg⟩]) ++ Lc56) = L56 := l56.symm
    subst l56 y56 z56
    obtain ⟨rfl, rfl, e56⟩ := hQ56
    simp only [List.append_nil, Nat.add_zero] at X56
    have G56 := gd X56 hx hby
    obtain ⟨x57, hx57⟩ : ∃ z : Int64, z = (rv2 (rv2 x2 x8) (rv2 x12 x14)) := ⟨_, rfl⟩
    obtain ⟨x58, hx58⟩ : ∃ z : Int64, z = (x53 + x57) := ⟨_, rfl⟩
    obtain ⟨x61, hx61⟩ : ∃ z : Int32, z = (if (lcmpW x58 (0 : Int64)) = (0 : Int32) then (1 : Int32) else (if (cmpValue (FP.dcmp (FP.l2d x58) (FP.dmul (4517329193108106637 : UInt64) (FP.l2d x19))) .g) < (0 : Int32) then (1 : Int32) else (0 : Int32))) := ⟨_, rfl⟩
    obtain ⟨T60, X60, e60, st60⟩ : ∃ T' : State, Stand p l e room_1 s m #[(.long q0), (.long q1), (.long q2), (.long q3), (.int p4)] below meth c T' (((((((([] ++ [⟨b18, ((0 : Int32)).toNatClampNeg⟩]) ++ [⟨b18, ((1 : Int32)).toNatClampNeg⟩]) ++ [⟨b18, ((2 : Int32)).toNatClampNeg⟩]) ++ [⟨b18, ((3 : Int32)).toNatClampNeg⟩]) ++ [⟨b18, ((4 : Int32)).toNatClampNeg⟩]) ++ [⟨b18, ((5 : Int32)).toNatClampNeg⟩]) ++ [⟨b18, ((6 : Int32)).toNatClampNeg⟩]) ++ [⟨b18, ((7 : Int32)).toNatClampNeg⟩]) 1 8 ∧ T'.heap = h47 ∧ ∀ target, Steps p.tables e below (T'.setTop (mkF m 347 #[lv q0, .second, lv q1, .second, lv q2, .second, lv q3, .second, iv p4, lv x2, .second, lv x4, .second, lv x6, .second, lv x8, .second, lv x10, .second, lv x12, .second, lv x14, .second, lv x16, .second, rv b18, lv x53, .second, lv x57, .second, lv x58, .second, .unset, .unset] [(.int x61)])) target → Steps p.tables e below (T56.setTop (mkF m 323 #[lv q0, .second, lv q1, .second, lv q2, .second, lv q3, .second, iv p4, lv x2, .second, lv x4, .second, lv x6, .second, lv x8, .second, lv x10, .second, lv x12, .second, lv x14, .second, lv x16, .second, rv b18, lv x53, .second, lv x57, .second, lv x58, .second, .unset, .unset] [(.int (lcmpW x58 (0 : Int64)))])) target := by
      by_cases hc323_59 : (lcmpW x58 (0 : Int64)) = (0 : Int32)
      · refine ⟨T56, X56, e56, fun target kt => ?_⟩
        refine mifYes 342 G56 at_323 ((if0 _ _).trans (teq hc323_59).1) (by decide) rfl ?_
        refine miconst 343 G56 at_342 (v := (1 : Int32)) rfl rfl ?_
        refine mgoto 347 G56 at_343 (by decide) rfl ?_
        exact castTop (g' := (mkF m 347 #[lv q0, .second, lv q1, .second, lv q2, .second, lv q3, .second, iv p4, lv x2, .second, lv x4, .second, lv x6, .second, lv x8, .second, lv x10, .second, lv x12, .second, lv x14, .second, lv x16, .second, rv b18, lv x53, .second, lv x57, .second, lv x58, .second, .unset, .unset] [(.int x61)])) (by simp only [hx61, if_pos hc323_59]) kt
      · by_cases hc339_62 : (cmpValue (FP.dcmp (FP.l2d x58) (FP.dmul (4517329193108106637 : UInt64) (FP.l2d x19))) .g) < (0 : Int32)
        · refine ⟨T56, X56, e56, fun target kt => ?_⟩
          refine mifNo 326 G56 at_323 ((if0 _ _).trans (feq hc323_59).1) rfl ?_
          refine mlload 328 G56 at_326 rfl rfl ?_
          refine ml2d 329 G56 at_328 rfl ?_
          refine X56.ldc2DoubleC hx hown (mvT hZ (wd hw 68 rfl)) (g := (mkF m 329 #[lv q0, .second, lv q1, .second, lv q2, .second, lv q3, .second, iv p4, lv x2, .second, lv x4, .second, lv x6, .second, lv x8, .second, lv x10, .second, lv x12, .second, lv x14, .second, lv x16, .second, rv b18, lv x53, .second, lv x57, .second, lv x58, .second, .unset, .unset] [(.double (FP.l2d x58))])) rfl (hb hby at_329) _ ?_
          show Steps p.tables e below (T56.setTop (mkF m 332 #[lv q0, .second, lv q1, .second, lv q2, .second, lv q3, .second, iv p4, lv x2, .second, lv x4, .second, lv x6, .second, lv x8, .second, lv x10, .second, lv x12, .second, lv x14, .second, lv x16, .second, rv b18, lv x53, .second, lv x57, .second, lv x58, .second, .unset, .unset] [(.double (4517329193108106637 : UInt64)), (.double (FP.l2d x58))])) _
          refine maload 334 G56 at_332 rfl rfl rfl ?_
          refine miconst 335 G56 at_334 (v := (0 : Int32)) rfl rfl ?_
          refine mlaload 336 X56 hx hby hZ e56 V47 (v := x19) at_335 ⟨by decide, by decide⟩ rfl rfl ?_
          refine ml2d 337 G56 at_336 rfl ?_
          refine mdmul 338 G56 at_337 (own_rm0_hn337 q0 q1 q2 q3 p4 x2 hx2 x4 hx4 x6 hx6 x8 hx8 x10 hx10 x12 hx12 x14 hx14 x16 hx16 x19 hx19 x23 hx23 x27 hx27 x31 hx31 x35 hx35 x39 hx39 x43 hx43 x53 hx53 x57 hx57 x58 hx58 hc97_17 hc323_59) rfl ?_
          refine mdcmp 339 G56 at_338 rfl ?_
          refine mifNo 342 G56 at_339 ((if0 _ _).trans (tlt hc339_62).2.1) rfl ?_
          refine miconst 343 G56 at_342 (v := (1 : Int32)) rfl rfl ?_
          refine mgoto 347 G56 at_343 (by decide) rfl ?_
          exact castTop (g' := (mkF m 347 #[lv q0, .second, lv q1, .second, lv q2, .second, lv q3, .second, iv p4, lv x2, .second, lv x4, .second, lv x6, .second, lv x8, .second, lv x10, .second, lv x12, .second, lv x14, .second, lv x16, .second, rv b18, lv x53, .second, lv x57, .second, lv x58, .second, .unset, .unset] [(.int x61)])) (by simp only [hx61, if_neg hc323_59, if_pos hc339_62]) kt
        · refine ⟨T56, X56, e56, fun target kt => ?_⟩
          refine mifNo 326 G56 at_323 ((if0 _ _).trans (feq hc323_59).1) rfl ?_
          refine mlload 328 G56 at_326 rfl rfl ?_
          refine ml2d 329 G56 at_328 rfl ?_
          refine X56.ldc2DoubleC hx hown (mvT hZ (wd hw 68 rfl)) (g := (mkF m 329 #[lv q0, .second, lv q1, .second, lv q2, .second, lv q3, .second, iv p4, lv x2, .second, lv x4, .second, lv x6, .second, lv x8, .second, lv x10, .second, lv x12, .second, lv x14, .second, lv x16, .second, rv b18, lv x53, .second, lv x57, .second, lv x58, .second, .unset, .unset] [(.double (FP.l2d x58))])) rfl (hb hby at_329) _ ?_
          show Steps p.tables e below (T56.setTop (mkF m 332 #[lv q0, .second, lv q1, .second, lv q2, .second, lv q3, .second, iv p4, lv x2, .second, lv x4, .second, lv x6, .second, lv x8, .second, lv x10, .second, lv x12, .second, lv x14, .second, lv x16, .second, rv b18, lv x53, .second, lv x57, .second, lv x58, .second, .unset, .unset] [(.double (4517329193108106637 : UInt64)), (.double (FP.l2d x58))])) _
          refine maload 334 G56 at_332 rfl rfl rfl ?_
          refine miconst 335 G56 at_334 (v := (0 : Int32)) rfl rfl ?_
          refine mlaload 336 X56 hx hby hZ e56 V47 (v := x19) at_335 ⟨by decide, by decide⟩ rfl rfl ?_
          refine ml2d 337 G56 at_336 rfl ?_
          refine mdmul 338 G56 at_337 (own_rm0_hn337 q0 q1 q2 q3 p4 x2 hx2 x4 hx4 x6 hx6 x8 hx8 x10 hx10 x12 hx12 x14 hx14 x16 hx16 x19 hx19 x23 hx23 x27 hx27 x31 hx31 x35 hx35 x39 hx39 x43 hx43 x53 hx53 x57 hx57 x58 hx58 hc97_17 hc323_59) rfl ?_
          refine mdcmp 339 G56 at_338 rfl ?_
          refine mifYes 346 G56 at_339 ((if0 _ _).trans (flt hc339_62).2.1) (by decide) rfl ?_
          refine miconst 347 G56 at_346 (v := (0 : Int32)) rfl rfl ?_
          exact castTop (g' := (mkF m 347 #[lv q0, .second, lv q1, .second, lv q2, .second, lv q3, .second, iv p4, lv x2, .second, lv x4, .second, lv x6, .second, lv x8, .second, lv x10, .second, lv x12, .second, lv x14, .second, lv x16, .second, rv b18, lv x53, .second, lv x57, .second, lv x58, .second, .unset, .unset] [(.int x61)])) (by simp only [hx61, if_neg hc323_59, if_neg hc339_62]) kt
    have G60 := gd X60 hx hby
    obtain ⟨T63, h63, X63, e63, E63, A63, D63, -, st63⟩ := newO X60 hx hZ hown (wd hw 11 rfl) (wd hw 12 rfl) (wd hw 13 rfl) e60 (g := (mkF m 349 #[lv q0, .second, lv q1, .second, lv q2, .second, lv q3, .second, iv p4, lv x2, .second, lv x4, .second, lv x6, .second, lv x8, .second, lv x10, .second, lv x12, .second, lv x14, .second, lv x16, .second, rv b18, lv x53, .second, lv x57, .second, lv x58, .second, iv x61, .unset] [])) rfl (hb hby at_349) (by decide) (by decide)
    have G63 := gd X63 hx hby
    obtain ⟨b63, g63⟩ : ∃ z, z = h47.size := ⟨_, rfl⟩
    rw [← g63] at A63 D63 st63
    have ne_b18_b63 : b18 ≠ b63 := Nat.ne_of_lt (Nat.lt_of_lt_of_le V47.lt (Nat.le_of_eq g63.symm))
    have g_b63 : n0 ≤ b63 := Nat.le_trans Z47 (Nat.le_of_eq g63.symm)
    have f64 := V47.ext E63
    have Z63 := Nat.le_trans Z47 E63.1
    have F_words_b63 : Fld Z h63 b63 "com/example/tempe/tempe/estimate/CountBracket" "words" "I" (.int (0 : Int32)) := D63 (Or.inr (wd hw 21 rfl)) (ty := .int) (by decide)
    have F_counts_b63 : Fld Z h63 b63 "com/example/tempe/tempe/estimate/CountBracket" "counts" "[J" .null := D63 (Or.inr (wd hw 23 rfl)) (ty := (.array .long)) (by decide)
    have F_documents_b63 : Fld Z h63 b63 "com/example/tempe/tempe/estimate/CountBracket" "documents" "J" (.long (0 : Int64)) := D63 (Or.inr (wd hw 25 rfl)) (ty := .long) (by decide)
    have F_lower_b63 : Fld Z h63 b63 "com/example/tempe/tempe/estimate/CountBracket" "lower" "D" (.double (0 : UInt64)) := D63 (Or.inl (wd hw 58 rfl)) (ty := .double) (by decide)
    have F_upper_b63 : Fld Z h63 b63 "com/example/tempe/tempe/estimate/CountBracket" "upper" "D" (.double (0 : UInt64)) := D63 (Or.inl (wd hw 60 rfl)) (ty := .double) (by decide)
    have F_closed_b63 : Fld Z h63 b63 "com/example/tempe/tempe/estimate/CountBracket" "closed" "Z" (.int (0 : Int32)) := D63 (Or.inl (wd hw 67 rfl)) (ty := .boolean) (by decide)
    obtain ⟨_, _, ⟨T65, L65, k65, n65⟩, -, X65, ⟨Lc65, hQ65, l65, y65, z65⟩, st65⟩ := X63.specialBack hx (y := (⟨"com/example/tempe/tempe/estimate/CountBracket", "<init>", "(I[J)V"⟩ : MethodName)) rfl hown (mvT hZ (wd hw 14 rfl)) (mvT hZ (wd hw 15 rfl)) (mvT hZ (wd hw 16 rfl)) (by decide) (backOf (W := 1) (rm3_3 l Z a0 hw [] b63 b18 h63 n0 Z63 A63 g_b63 F_words_b63 F_counts_b63 F_documents_b63 F_lower_b63 F_upper_b63 F_closed_b63 (Ne.symm ne_b18_b63) f64 (own_rm0_hp_hp_hp_hf45_19_23_356 q0 q1 q2 q3 p4 x2 hx2 x4 hx4 x6 hx6 x8 hx8 x10 hx10 x12 hx12 x14 hx14 x16 hx16 x19 hx19 x23 hx23 x27 hx27 x31 hx31 x35 hx35 x39 hx39 x43 hx43 x53 hx53 x57 hx57 x58 hx58 x61 hx61 hc97_17) (own_rm0_hp_hp_hp_hf52_19_23_356 q0 q1 q2 q3 p4 x2 hx2 x4 hx4 x6 hx6 x8 hx8 x10 hx10 x12 hx12 x14 hx14 x16 hx16 x19 hx19 x23 hx23 x27 hx27 x31 hx31 x35 hx35 x39 hx39 x43 hx43 x53 hx53 x57 hx57 x58 hx58 x61 hx61 hc97_17) (own_rm0_hp_hp_hp_hf59_19_23_356 q0 q1 q2 q3 p4 x2 hx2 x4 hx4 x6 hx6 x8 hx8 x10 hx10 x12 hx12 x14 hx14 x16 hx16 x19 hx19 x23 hx23 x27 hx27 x31 hx31 x35 hx35 x39 hx39 x43 hx43 x53 hx53 x57 hx57 x58 hx58 x61 hx61 hc97_17) (own_rm0_hp_hp_hp_hf66_19_23_356 q0 q1 q2 q3 p4 x2 hx2 x4 hx4 x6 hx6 x8 hx8 x10 hx10 x12 hx12 x14 hx14 x16 hx16 x19 hx19 x23 hx23 x27 hx27 x31 hx31 x35 hx35 x39 hx39 x43 hx43 x53 hx53 x57 hx57 x58 hx58 x61 hx61 hc97_17) (own_rm0_hp_hp_hp_hf45_19_23_356_1 q0 q1 q2 q3 p4 x2 hx2 x4 hx4 x6 hx6 x8 hx8 x10 hx10 x12 hx12 x14 hx14 x16 hx16 x19 hx19 x23 hx23 x27 hx27 x31 hx31 x35 hx35 x39 hx39 x43 hx43 x53 hx53 x57 hx57 x58 hx58 x61 hx61 hc97_17) (own_rm0_hp_hp_hp_hf52_19_23_356_1 q0 q1 q2 q3 p4 x2 hx2 x4 hx4 x6 hx6 x8 hx8 x10 hx10 x12 hx12 x14 hx14 x16 hx16 x19 hx19 x23 hx23 x27 hx27 x31 hx31 x35 hx35 x39 hx39 x43 hx43 x53 hx53 x57 hx57 x58 hx58 x61 hx61 hc97_17) (own_rm0_hp_hp_hp_hf59_19_23_356_1 q0 q1 q2 q3 p4 x2 hx2 x4 hx4 x6 hx6 x8 hx8 x10 hx10 x12 hx12 x14 hx14 x16 hx16 x19 hx19 x23 hx23 x27 hx27 x31 hx31 x35 hx35 x39 hx39 x43 hx43 x53 hx53 x57 hx57 x58 hx58 x61 hx61 hc97_17) (own_rm0_hp_hp_hp_hf66_19_23_356_1 q0 q1 q2 q3 p4 x2 hx2 x4 hx4 x6 hx6 x8 hx8 x10 hx10 x12 hx12 x14 hx14 x16 hx16 x19 hx19 x23 hx23 x27 hx27 x31 hx31 x35 hx35 x39 hx39 x43 hx43 x53 hx53 x57 hx57 x58 hx58 x61 hx61 hc97_17) (own_rm0_hp_hp_hp_hf45_19_23_356_2 q0 q1 q2 q3 p4 x2 hx2 x4 hx4 x6 hx6 x8 hx8 x10 hx10 x12 hx12 x14 hx14 x16 hx16 x19 hx19 x23 hx23 x27 hx27 x31 hx31 x35 hx35 x39 hx39 x43 hx43 x53 hx53 x57 hx57 x58 hx58 x61 hx61 hc97_17) (own_rm0_hp_hp_hp_hf52_19_23_356_2 q0 q1 q2 q3 p4 x2 hx2 x4 hx4 x6 hx6 x8 hx8 x10 hx10 x12 hx12 x14 hx14 x16 hx16 x19 hx19 x23 hx23 x27 hx27 x31 hx31 x35 hx35 x39 hx39 x43 hx43 x53 hx53 x57 hx57 x58 hx58 x61 hx61 hc97_17) (own_rm0_hp_hp_hp_hf59_19_23_356_2 q0 q1 q2 q3 p4 x2 hx2 x4 hx4 x6 hx6 x8 hx8 x10 hx10 x12 hx12 x14 hx14 x16 hx16 x19 hx19 x23 hx23 x27 hx27 x31 hx31 x35 hx35 x39 hx39 x43 hx43 x53 hx53 x57 hx57 x58 hx58 x61 hx61 hc97_17) (own_rm0_hp_hp_hp_hf66_19_23_356_2 q0 q1 q2 q3 p4 x2 hx2 x4 hx4 x6 hx6 x8 hx8 x10 hx10 x12 hx12 x14 hx14 x16 hx16 x19 hx19 x23 hx23 x27 hx27 x31 hx31 x35 hx35 x39 hx39 x43 hx43 x53 hx53 x57 hx57 x58 hx58 x61 hx61 hc97_17) (own_rm0_hp_hp_hcq_28_356 q0 q1 q2 q3 p4 x2 hx2 x4 hx4 x6 hx6 x8 hx8 x10 hx10 x12 hx12 x14 hx14 x16 hx16 x19 hx19 x23 hx23 x27 hx27 x31 hx31 x35 hx35 x39 hx39 x43 hx43 x53 hx53 x57 hx57 x58 hx58 x61 hx61 hc97_17) (own_rm0_hp_hp_hf147_28_356 q0 q1 q2 q3 p4 x2 hx2 x4 hx4 x6 hx6 x8 hx8 x10 hx10 x12 hx12 x14 hx14 x16 hx16 x19 hx19 x23 hx23 x27 hx27 x31 hx31 x35 hx35 x39 hx39 x43 hx43 x53 hx53 x57 hx57 x58 hx58 x61 hx61 hc97_17)) hZ (wd hw 16 rfl) (wd hw 13 rfl) (by decide) (by decide)) (g := (mkF m 356 #[lv q0, .second, lv q1, .second, lv q2, .second, lv q3, .second, iv p4, lv x2, .second, lv x4, .second, lv x6, .second, lv x8, .second, lv x10, .second, lv x12, .second, lv x14, .second, lv x16, .second, rv b18, lv x53, .second, lv x57, .second, lv x58, .second, iv x61, .unset] [(.ref b18), (.int (3 : Int32)), (.ref b63), (.ref b63)])) rfl (by rw [hml]; rfl) (Steps.refl _) (a := b63) (argsL := [(.int (3 : Int32)), (.ref b18)]) (rest := [(.ref b63)]) (lenOf pd_3 rfl) rfl (by show 2 * 0 + _ ≤ _; exact Nat.le_of_eq rfl) (hb hby at_356) (fun _ _ => ⟨rfl, e63, (by decide : 2 + 6 ≤ _), (by decide : 16 + 30 ≤ _)⟩)
    dsimp only [Pt.U, Pt.locs, Pt.cells, Pt.slots] at X65 l65 y65 z65 st65 hQ65
    replace l65 : ((((((((([] ++ [⟨b18, ((0 : Int32)).toNatClampNeg⟩]) ++ [⟨b18, ((1 : Int32)).toNatClampNeg⟩]) ++ [⟨b18, ((2 : Int32)).toNatClampNeg⟩]) ++ [⟨b18, ((3 : Int32)).toNatClampNeg⟩]) ++ [⟨b18, ((4 : Int32)).toNatClampNeg⟩]) ++ [⟨b18, ((5 : Int32)).toNatClampNeg⟩]) ++ [⟨b18, ((6 : Int32)).toNatClampNeg⟩]) ++ [⟨b18, ((7 : Int32)).toNatClampNeg⟩]) ++ Lc65) = L65 := l65.symm
    subst l65 y65 z65
    obtain ⟨rfl, Nq65, K65, Eq65, Fq65_0, Fq65_1, Fq65_2, Fq65_3, Fq65_4, Fq65_5⟩ := hQ65
    have N65 := Fr.app N47 Nq65
    have f67 := f64.keep K65 (ninS ne_b18_b63 nin0)
    have f76 := A63.keep K65
    have Z65k := Nat.le_trans Z63 K65.1
    have G65 := gd X65 hx hby
    obtain ⟨cq77, kq77, q77a, q77b, q77c⟩ := isOf hZ rfl Eq65
    obtain ⟨_, _, ⟨T77, L77, k77, n77⟩, -, X77, ⟨Lc77, hQ77, l77, y77, z77⟩, st77⟩ := X65.virtualBack hx (y := (⟨"com/example/tempe/tempe/estimate/CountBracket", "settled", "()Z"⟩ : MethodName)) (z := (⟨"com/example/tempe/tempe/estimate/CountBracket", "settled", "()Z"⟩ : MethodName)) hown (mvT hZ (wd hw 61 rfl)) (mvT hZ (wd hw 62 rfl)) (notFace_of_selects (args := #[]) (mvT hZ (wd hw 64 rfl))) (mvT hZ (wd hw 64 rfl)) (mvT hZ (wd hw 63 rfl)) (by decide) (backOf (W := 0) (rm13 l Z a0 hw [] b63 T65.heap n0 Z65k Fq65_5 Fq65_3 Fq65_4 Fq65_2 (own_rm0_hp_hn27_363 q0 q1 q2 q3 p4 x2 hx2 x4 hx4 x6 hx6 x8 hx8 x10 hx10 x12 hx12 x14 hx14 x16 hx16 x19 hx19 x23 hx23 x27 hx27 x31 hx31 x35 hx35 x39 hx39 x43 hx43 x53 hx53 x57 hx57 x58 hx58 x61 hx61 hc97_17) (own_rm0_hp_hn36_363 q0 q1 q2 q3 p4 x2 hx2 x4 hx4 x6 hx6 x8 hx8 x10 hx10 x12 hx12 x14 hx14 x16 hx16 x19 hx19 x23 hx23 x27 hx27 x31 hx31 x35 hx35 x39 hx39 x43 hx43 x53 hx53 x57 hx57 x58 hx58 x61 hx61 hc97_17)) hZ (wd hw 65 rfl) (wd hw 13 rfl) (by decide) (by decide)) q77a q77c (g := (mkF m 363 #[lv q0, .second, lv q1, .second, lv q2, .second, lv q3, .second, iv p4, lv x2, .second, lv x4, .second, lv x6, .second, lv x8, .second, lv x10, .second, lv x12, .second, lv x14, .second, lv x16, .second, rv b18, lv x53, .second, lv x57, .second, lv x58, .second, iv x61, rv b63] [(.ref b63)])) rfl (by rw [hml]; rfl) (Steps.refl _) (argsL := []) (rest := []) (lenOf pd_7 rfl) rfl (by show 2 * 0 + _ ≤ _; exact Nat.le_of_eq rfl) (hb hby at_363) (fun _ _ => ⟨rfl, rfl, (by decide : 8 + 0 ≤ _), (by decide : 46 + 0 ≤ _)⟩)
    dsimp only [Pt.U, Pt.locs, Pt.cells, Pt.slots] at X77 l77 y77 z77 st77 hQ77
    replace l77 : (((((((((([] ++ [⟨b18, ((0 : Int32)).toNatClampNeg⟩]) ++ [⟨b18, ((1 : Int32)).toNatClampNeg⟩]) ++ [⟨b18, ((2 : Int32)).toNatClampNeg⟩]) ++ [⟨b18, ((3 : Int32)).toNatClampNeg⟩]) ++ [⟨b18, ((4 : Int32)).toNatClampNeg⟩]) ++ [⟨b18, ((5 : Int32)).toNatClampNeg⟩]) ++ [⟨b18, ((6 : Int32)).toNatClampNeg⟩]) ++ [⟨b18, ((7 : Int32)).toNatClampNeg⟩]) ++ Lc65) ++ Lc77) = L77 := l77.symm
    subst l77 y77 z77
    obtain ⟨rfl, rfl, e77⟩ := hQ77
    simp only [List.append_nil, Nat.add_zero] at X77
    have G77 := gd X77 hx hby
    obtain ⟨x80, hx80⟩ : ∃ z : Int32, z = (if (rv13 (FP.l2d (rv12 (rv12 (rv12 (0 : Int64) (-(rv9_4 x39 x43 x35))) (-(rv9_2 x31 x43 x27))) (-(rv9_1 x31 x39 x23)))) (FP.l2d (rv2 (rv2 (rv2 (rv2 (9223372036854775807 : Int64) (rv9_6 x43)) (rv9_5 x39)) (rv9_3 x31)) (rv9_0 x23 x27 x35 x19 x31 x39 x43))) x19) = x61 then (1 : Int32) else (0 : Int32)) := ⟨_, rfl⟩
    obtain ⟨T79, X79, e79, st79⟩ : ∃ T' : State, Stand p l e room_1 s m #[(.long q0), (.long q1), (.long q2), (.long q3), (.int p4)] below meth c T' ((((((((([] ++ [⟨b18, ((0 : Int32)).toNatClampNeg⟩]) ++ [⟨b18, ((1 : Int32)).toNatClampNeg⟩]) ++ [⟨b18, ((2 : Int32)).toNatClampNeg⟩]) ++ [⟨b18, ((3 : Int32)).toNatClampNeg⟩]) ++ [⟨b18, ((4 : Int32)).toNatClampNeg⟩]) ++ [⟨b18, ((5 : Int32)).toNatClampNeg⟩]) ++ [⟨b18, ((6 : Int32)).toNatClampNeg⟩]) ++ [⟨b18, ((7 : Int32)).toNatClampNeg⟩]) ++ Lc65) 8 46 ∧ T'.heap = T65.heap ∧ ∀ target, Steps p.tables e below (T'.setTop (mkF m 376 #[lv q0, .second, lv q1, .second, lv q2, .second, lv q3, .second, iv p4, lv x2, .second, lv x4, .second, lv x6, .second, lv x8, .second, lv x10, .second, lv x12, .second, lv x14, .second, lv x16, .second, rv b18, lv x53, .second, lv x57, .second, lv x58, .second, iv x61, rv b63] [(.int x80)])) target → Steps p.tables e below (T77.setTop (mkF m 368 #[lv q0, .second, lv q1, .second, lv q2, .second, lv q3, .second, iv p4, lv x2, .second, lv x4, .second, lv x6, .second, lv x8, .second, lv x10, .second, lv x12, .second, lv x14, .second, lv x16, .second, rv b18, lv x53, .second, lv x57, .second, lv x58, .second, iv x61, rv b63] [(.int x61), (.int (rv13 (FP.l2d (rv12 (rv12 (rv12 (0 : Int64) (-(rv9_4 x39 x43 x35))) (-(rv9_2 x31 x43 x27))) (-(rv9_1 x31 x39 x23)))) (FP.l2d (rv2 (rv2 (rv2 (rv2 (9223372036854775807 : Int64) (rv9_6 x43)) (rv9_5 x39)) (rv9_3 x31)) (rv9_0 x23 x27 x35 x19 x31 x39 x43))) x19))])) target := by
      by_cases hc368_78 : (rv13 (FP.l2d (rv12 (rv12 (rv12 (0 : Int64) (-(rv9_4 x39 x43 x35))) (-(rv9_2 x31 x43 x27))) (-(rv9_1 x31 x39 x23)))) (FP.l2d (rv2 (rv2 (rv2 (rv2 (9223372036854775807 : Int64) (rv9_6 x43)) (rv9_5 x39)) (rv9_3 x31)) (rv9_0 x23 x27 x35 x19 x31 x39 x43))) x19) = x61
      · refine ⟨T77, X77, e77, fun target kt => ?_⟩
        refine micmpNo 371 G77 at_368 (teq hc368_78).2 rfl ?_
        refine miconst 372 G77 at_371 (v := (1 : Int32)) rfl rfl ?_
        refine mgoto 376 G77 at_372 (by decide) rfl ?_
        exact castTop (g' := (mkF m 376 #[lv q0, .second, lv q1, .second, lv q2, .second, lv q3, .second, iv p4, lv x2, .second, lv x4, .second, lv x6, .second, lv x8, .second, lv x10, .second, lv x12, .second, lv x14, .second, lv x16, .second, rv b18, lv x53, .second, lv x57, .second, lv x58, .second, iv x61, rv b63] [(.int x80)])) (by simp only [hx80, if_pos hc368_78]) kt
      · refine ⟨T77, X77, e77, fun target kt => ?_⟩
        refine micmpYes 375 G77 at_368 (feq hc368_78).2 (by decide) rfl ?_
        refine miconst 376 G77 at_375 (v := (0 : Int32)) rfl rfl ?_
        exact castTop (g' := (mkF m 376 #[lv q0, .second, lv q1, .second, lv q2, .second, lv q3, .second, iv p4, lv x2, .second, lv x4, .second, lv x6, .second, lv x8, .second, lv x10, .second, lv x12, .second, lv x14, .second, lv x16, .second, rv b18, lv x53, .second, lv x57, .second, lv x58, .second, iv x61, rv b63] [(.int x80)])) (by simp only [hx80, if_neg hc368_78]) kt
    have G79 := gd X79 hx hby
    have hend : x80 = 1 := (own_rm0_end q0 q1 q2 q3 p4 x2 hx2 x4 hx4 x6 hx6 x8 hx8 x10 hx10 x12 hx12 x14 hx14 x16 hx16 x19 hx19 x23 hx23 x27 hx27 x31 hx31 x35 hx35 x39 hx39 x43 hx43 x53 hx53 x57 hx57 x58 hx58 x61 hx61 x80 hx80 hc97_17)
    obtain ⟨fs, hr, hrun, hended, hW, hsame⟩ := X79.leave (v := some (.int (1 : Int32))) (fun h => by rw [Bd.returns] at h; cases h)
    refine ⟨_, _, pre0 _ ?_, hrun, hended, _, _, rfl, ?_, ⟨_, rfl⟩, hW, hsame.mono (by decide) (by decide)⟩
    · show Steps p.tables e below (s₁.setTop (mkF m 0 #[lv q0, .second, lv q1, .second, lv q2, .second, lv q3, .second, iv p4, .unset, .unset, .unset, .unset, .unset, .unset, .unset, .unset, .unset, .unset, .unset, .unset, .unset, .unset, .unset, .unset, .unset, .unset, .unset, .unset, .unset, .unset, .unset, .unset, .unset] [])) _
      refine mlloadN 1 G0 at_0 rfl rfl ?_
      refine miload 3 G0 at_1 rfl rfl ?_
      refine miconst 4 G0 at_3 (v := (0 : Int32)) rfl rfl ?_
      refine st1 _ ?_
      show Steps p.tables e below (T1.setTop (mkF m 7 #[lv q0, .second, lv q1, .second, lv q2, .second, lv q3, .second, iv p4, .unset, .unset, .unset, .unset, .unset, .unset, .unset, .unset, .unset, .unset, .unset, .unset, .unset, .unset, .unset, .unset, .unset, .unset, .unset, .unset, .unset, .unset, .unset, .unset, .unset] [(.long (rv1 q0 p4 (0 : Int32)))])) _
      refine castTop (g' := (mkF m 7 #[lv q0, .second, lv q1, .second, lv q2, .second, lv q3, .second, iv p4, .unset, .unset, .unset, .unset, .unset, .unset, .unset, .unset, .unset, .unset, .unset, .unset, .unset, .unset, .unset, .unset, .unset, .unset, .unset, .unset, .unset, .unset, .unset, .unset, .unset] [(.long x2)])) (by rw [hx2]) ?_
      refine mlstore 9 G1 at_7 #[lv q0, .second, lv q1, .second, lv q2, .second, lv q3, .second, iv p4, lv x2, .second, .unset, .unset, .unset, .unset, .unset, .unset, .unset, .unset, .unset, .unset, .unset, .unset, .unset, .unset, .unset, .unset, .unset, .unset, .unset, .unset, .unset, .unset, .unset] rfl rfl ?_
      refine mlloadN 10 G1 at_9 rfl rfl ?_
      refine mbipush 12 G1 at_10 (v := (32 : Int32)) rfl rfl ?_
      refine mlushr 13 G1 at_12 rfl rfl ?_
      refine miload 15 G1 at_13 rfl rfl ?_
      refine miconst 16 G1 at_15 (v := (1 : Int32)) rfl rfl ?_
      refine st3 _ ?_
      show Steps p.tables e below (T3.setTop (mkF m 19 #[lv q0, .second, lv q1, .second, lv q2, .second, lv q3, .second, iv p4, lv x2, .second, .unset, .unset, .unset, .unset, .unset, .unset, .unset, .unset, .unset, .unset, .unset, .unset, .unset, .unset, .unset, .unset, .unset, .unset, .unset, .unset, .unset, .unset, .unset] [(.long (rv1 ((q0.toUInt64 >>> ((32 : Int32) &&& 0x3f).toInt64.toUInt64).toInt64) p4 (1 : Int32)))])) _
      refine castTop (g' := (mkF m 19 #[lv q0, .second, lv q1, .second, lv q2, .second, lv q3, .second, iv p4, lv x2, .second, .unset, .unset, .unset, .unset, .unset, .unset, .unset, .unset, .unset, .unset, .unset, .unset, .unset, .unset, .unset, .unset, .unset, .unset, .unset, .unset, .unset, .unset, .unset] [(.long x4)])) (by rw [hx4]) ?_
      refine mlstore 21 G3 at_19 #[lv q0, .second, lv q1, .second, lv q2, .second, lv q3, .second, iv p4, lv x2, .second, lv x4, .second, .unset, .unset, .unset, .unset, .unset, .unset, .unset, .unset, .unset, .unset, .unset, .unset, .unset, .unset, .unset, .unset, .unset, .unset, .unset, .unset, .unset] rfl rfl ?_
      refine mlloadN 22 G3 at_21 rfl rfl ?_
      refine miload 24 G3 at_22 rfl rfl ?_
      refine miconst 25 G3 at_24 (v := (2 : Int32)) rfl rfl ?_
      refine st5 _ ?_
      show Steps p.tables e below (T5.setTop (mkF m 28 #[lv q0, .second, lv q1, .second, lv q2, .second, lv q3, .second, iv p4, lv x2, .second, lv x4, .second, .unset, .unset, .unset, .unset, .unset, .unset, .unset, .unset, .unset, .unset, .unset, .unset, .unset, .unset, .unset, .unset, .unset, .unset, .unset, .unset, .unset] [(.long (rv1 q1 p4 (2 : Int32)))])) _
      refine castTop (g' := (mkF m 28 #[lv q0, .second, lv q1, .second, lv q2, .second, lv q3, .second, iv p4, lv x2, .second, lv x4, .second, .unset, .unset, .unset, .unset, .unset, .unset, .unset, .unset, .unset, .unset, .unset, .unset, .unset, .unset, .unset, .unset, .unset, .unset, .unset, .unset, .unset] [(.long x6)])) (by rw [hx6]) ?_
      refine mlstore 30 G5 at_28 #[lv q0, .second, lv q1, .second, lv q2, .second, lv q3, .second, iv p4, lv x2, .second, lv x4, .second, lv x6, .second, .unset, .unset, .unset, .unset, .unset, .unset, .unset, .unset, .unset, .unset, .unset, .unset, .unset, .unset, .unset, .unset, .unset, .unset, .unset] rfl rfl ?_
      refine mlloadN 31 G5 at_30 rfl rfl ?_
      refine mbipush 33 G5 at_31 (v := (32 : Int32)) rfl rfl ?_
      refine mlushr 34 G5 at_33 rfl rfl ?_
      refine miload 36 G5 at_34 rfl rfl ?_
      refine miconst 37 G5 at_36 (v := (3 : Int32)) rfl rfl ?_
      refine st7 _ ?_
      show Steps p.tables e below (T7.setTop (mkF m 40 #[lv q0, .second, lv q1, .second, lv q2, .second, lv q3, .second, iv p4, lv x2, .second, lv x4, .second, lv x6, .second, .unset, .unset, .unset, .unset, .unset, .unset, .unset, .unset, .unset, .unset, .unset, .unset, .unset, .unset, .unset, .unset, .unset, .unset, .unset] [(.long (rv1 ((q1.toUInt64 >>> ((32 : Int32) &&& 0x3f).toInt64.toUInt64).toInt64) p4 (3 : Int32)))])) _
      refine castTop (g' := (mkF m 40 #[lv q0, .second, lv q1, .second, lv q2, .second, lv q3, .second, iv p4, lv x2, .second, lv x4, .second, lv x6, .second, .unset, .unset, .unset, .unset, .unset, .unset, .unset, .unset, .unset, .unset, .unset, .unset, .unset, .unset, .unset, .unset, .unset, .unset, .unset] [(.long x8)])) (by rw [hx8]) ?_
      refine mlstore 42 G7 at_40 #[lv q0, .second, lv q1, .second, lv q2, .second, lv q3, .second, iv p4, lv x2, .second, lv x4, .second, lv x6, .second, lv x8, .second, .unset, .unset, .unset, .unset, .unset, .unset, .unset, .unset, .unset, .unset, .unset, .unset, .unset, .unset, .unset, .unset, .unset] rfl rfl ?_
      refine mlload 44 G7 at_42 rfl rfl ?_
      refine miload 46 G7 at_44 rfl rfl ?_
      refine miconst 47 G7 at_46 (v := (4 : Int32)) rfl rfl ?_
      refine st9 _ ?_
      show Steps p.tables e below (T9.setTop (mkF m 50 #[lv q0, .second, lv q1, .second, lv q2, .second, lv q3, .second, iv p4, lv x2, .second, lv x4, .second, lv x6, .second, lv x8, .second, .unset, .unset, .unset, .unset, .unset, .unset, .unset, .unset, .unset, .unset, .unset, .unset, .unset, .unset, .unset, .unset, .unset] [(.long (rv1 q2 p4 (4 : Int32)))])) _
      refine castTop (g' := (mkF m 50 #[lv q0, .second, lv q1, .second, lv q2, .second, lv q3, .second, iv p4, lv x2, .second, lv x4, .second, lv x6, .second, lv x8, .second, .unset, .unset, .unset, .unset, .unset, .unset, .unset, .unset, .unset, .unset, .unset, .unset, .unset, .unset, .unset, .unset, .unset] [(.long x10)])) (by rw [hx10]) ?_
      refine mlstore 52 G9 at_50 #[lv q0, .second, lv q1, .second, lv q2, .second, lv q3, .second, iv p4, lv x2, .second, lv x4, .second, lv x6, .second, lv x8, .second, lv x10, .second, .unset, .unset, .unset, .unset, .unset, .unset, .unset, .unset, .unset, .unset, .unset, .unset, .unset, .unset, .unset] rfl rfl ?_
      refine mlload 54 G9 at_52 rfl rfl ?_
      refine mbipush 56 G9 at_54 (v := (32 : Int32)) rfl rfl ?_
      refine mlushr 57 G9 at_56 rfl rfl ?_
      refine miload 59 G9 at_57 rfl rfl ?_
      refine miconst 60 G9 at_59 (v := (5 : Int32)) rfl rfl ?_
      refine st11 _ ?_
      show Steps p.tables e below (T11.setTop (mkF m 63 #[lv q0, .second, lv q1, .second, lv q2, .second, lv q3, .second, iv p4, lv x2, .second, lv x4, .second, lv x6, .second, lv x8, .second, lv x10, .second, .unset, .unset, .unset, .unset, .unset, .unset, .unset, .unset, .unset, .unset, .unset, .unset, .unset, .unset, .unset] [(.long (rv1 ((q2.toUInt64 >>> ((32 : Int32) &&& 0x3f).toInt64.toUInt64).toInt64) p4 (5 : Int32)))])) _
      refine castTop (g' := (mkF m 63 #[lv q0, .second, lv q1, .second, lv q2, .second, lv q3, .second, iv p4, lv x2, .second, lv x4, .second, lv x6, .second, lv x8, .second, lv x10, .second, .unset, .unset, .unset, .unset, .unset, .unset, .unset, .unset, .unset, .unset, .unset, .unset, .unset, .unset, .unset] [(.long x12)])) (by rw [hx12]) ?_
      refine mlstore 65 G11 at_63 #[lv q0, .second, lv q1, .second, lv q2, .second, lv q3, .second, iv p4, lv x2, .second, lv x4, .second, lv x6, .second, lv x8, .second, lv x10, .second, lv x12, .second, .unset, .unset, .unset, .unset, .unset, .unset, .unset, .unset, .unset, .unset, .unset, .unset, .unset] rfl rfl ?_
      refine mlload 67 G11 at_65 rfl rfl ?_
      refine miload 69 G11 at_67 rfl rfl ?_
      refine mbipush 71 G11 at_69 (v := (6 : Int32)) rfl rfl ?_
      refine st13 _ ?_
      show Steps p.tables e below (T13.setTop (mkF m 74 #[lv q0, .second, lv q1, .second, lv q2, .second, lv q3, .second, iv p4, lv x2, .second, lv x4, .second, lv x6, .second, lv x8, .second, lv x10, .second, lv x12, .second, .unset, .unset, .unset, .unset, .unset, .unset, .unset, .unset, .unset, .unset, .unset, .unset, .unset] [(.long (rv1 q3 p4 (6 : Int32)))])) _
      refine castTop (g' := (mkF m 74 #[lv q0, .second, lv q1, .second, lv q2, .second, lv q3, .second, iv p4, lv x2, .second, lv x4, .second, lv x6, .second, lv x8, .second, lv x10, .second, lv x12, .second, .unset, .unset, .unset, .unset, .unset, .unset, .unset, .unset, .unset, .unset, .unset, .unset, .unset] [(.long x14)])) (by rw [hx14]) ?_
      refine mlstore 76 G13 at_74 #[lv q0, .second, lv q1, .second, lv q2, .second, lv q3, .second, iv p4, lv x2, .second, lv x4, .second, lv x6, .second, lv x8, .second, lv x10, .second, lv x12, .second, lv x14, .second, .unset, .unset, .unset, .unset, .unset, .unset, .unset, .unset, .unset, .unset, .unset] rfl rfl ?_
      refine mlload 78 G13 at_76 rfl rfl ?_
      refine mbipush 80 G13 at_78 (v := (32 : Int32)) rfl rfl ?_
      refine mlushr 81 G13 at_80 rfl rfl ?_
      refine miload 83 G13 at_81 rfl rfl ?_
      refine mbipush 85 G13 at_83 (v := (7 : Int32)) rfl rfl ?_
      refine st15 _ ?_
      show Steps p.tables e below (T15.setTop (mkF m 88 #[lv q0, .second, lv q1, .second, lv q2, .second, lv q3, .second, iv p4, lv x2, .second, lv x4, .second, lv x6, .second, lv x8, .second, lv x10, .second, lv x12, .second, lv x14, .second, .unset, .unset, .unset, .unset, .unset, .unset, .unset, .unset, .unset, .unset, .unset] [(.long (rv1 ((q3.toUInt64 >>> ((32 : Int32) &&& 0x3f).toInt64.toUInt64).toInt64) p4 (7 : Int32)))])) _
      refine castTop (g' := (mkF m 88 #[lv q0, .second, lv q1, .second, lv q2, .second, lv q3, .second, iv p4, lv x2, .second, lv x4, .second, lv x6, .second, lv x8, .second, lv x10, .second, lv x12, .second, lv x14, .second, .unset, .unset, .unset, .unset, .unset, .unset, .unset, .unset, .unset, .unset, .unset] [(.long x16)])) (by rw [hx16]) ?_
      refine mlstore 90 G15 at_88 #[lv q0, .second, lv q1, .second, lv q2, .second, lv q3, .second, iv p4, lv x2, .second, lv x4, .second, lv x6, .second, lv x8, .second, lv x10, .second, lv x12, .second, lv x14, .second, lv x16, .second, .unset, .unset, .unset, .unset, .unset, .unset, .unset, .unset, .unset] rfl rfl ?_
      refine miload 92 G15 at_90 rfl rfl ?_
      refine mbipush 94 G15 at_92 (v := (8 : Int32)) rfl rfl ?_
      refine miushr 95 G15 at_94 rfl rfl ?_
      refine miconst 96 G15 at_95 (v := (1 : Int32)) rfl rfl ?_
      refine miand 97 G15 at_96 rfl rfl ?_
      refine mifYes 162 G15 at_97 ((if0 _ _).trans (teq hc97_17).1) (by decide) rfl ?_
      refine mbipush 164 G15 at_162 (v := (8 : Int32)) rfl rfl ?_
      refine st18 _ ?_
      show Steps p.tables e below (T18.setTop (mkF m 166 #[lv q0, .second, lv q1, .second, lv q2, .second, lv q3, .second, iv p4, lv x2, .second, lv x4, .second, lv x6, .second, lv x8, .second, lv x10, .second, lv x12, .second, lv x14, .second, lv x16, .second, .unset, .unset, .unset, .unset, .unset, .unset, .unset, .unset, .unset] [(.ref b18)])) _
      refine mastore 168 G18 at_166 rfl #[lv q0, .second, lv q1, .second, lv q2, .second, lv q3, .second, iv p4, lv x2, .second, lv x4, .second, lv x6, .second, lv x8, .second, lv x10, .second, lv x12, .second, lv x14, .second, lv x16, .second, rv b18, .unset, .unset, .unset, .unset, .unset, .unset, .unset, .unset] rfl rfl ?_
      refine maload 170 G18 at_168 rfl rfl rfl ?_
      refine miconst 171 G18 at_170 (v := (0 : Int32)) rfl rfl ?_
      refine mlload 173 G18 at_171 rfl rfl ?_
      refine mlload 175 G18 at_173 rfl rfl ?_
      refine mladd 176 G18 at_175 rfl rfl ?_
      refine mlload 178 G18 at_176 rfl rfl ?_
      refine mladd 179 G18 at_178 rfl rfl ?_
      refine mlload 181 G18 at_179 rfl rfl ?_
      refine mladd 182 G18 at_181 rfl rfl ?_
      refine mlload 184 G18 at_182 rfl rfl ?_
      refine mladd 185 G18 at_184 rfl rfl ?_
      refine mlload 187 G18 at_185 rfl rfl ?_
      refine mladd 188 G18 at_187 rfl rfl ?_
      refine mlload 190 G18 at_188 rfl rfl ?_
      refine mladd 191 G18 at_190 rfl rfl ?_
      refine mlload 193 G18 at_191 rfl rfl ?_
      refine mladd 194 G18 at_193 rfl rfl ?_
      refine castTop (g' := (mkF m 194 #[lv q0, .second, lv q1, .second, lv q2, .second, lv q3, .second, iv p4, lv x2, .second, lv x4, .second, lv x6, .second, lv x8, .second, lv x10, .second, lv x12, .second, lv x14, .second, lv x16, .second, rv b18, .unset, .unset, .unset, .unset, .unset, .unset, .unset, .unset] [(.long x19), (.int (0 : Int32)), (.ref b18)])) (by rw [hx19]) ?_
      refine st20 _ ?_
      refine maload 197 G20 at_195 rfl rfl rfl ?_
      refine miconst 198 G20 at_197 (v := (1 : Int32)) rfl rfl ?_
      refine mlload 200 G20 at_198 rfl rfl ?_
      refine mlload 202 G20 at_200 rfl rfl ?_
      refine mladd 203 G20 at_202 rfl rfl ?_
      refine mlload 205 G20 at_203 rfl rfl ?_
      refine mladd 206 G20 at_205 rfl rfl ?_
      refine mlload 208 G20 at_206 rfl rfl ?_
      refine mladd 209 G20 at_208 rfl rfl ?_
      refine castTop (g' := (mkF m 209 #[lv q0, .second, lv q1, .second, lv q2, .second, lv q3, .second, iv p4, lv x2, .second, lv x4, .second, lv x6, .second, lv x8, .second, lv x10, .second, lv x12, .second, lv x14, .second, lv x16, .second, rv b18, .unset, .unset, .unset, .unset, .unset, .unset, .unset, .unset] [(.long x23), (.int (1 : Int32)), (.ref b18)])) (by rw [hx23]) ?_
      refine st24 _ ?_
      refine maload 212 G24 at_210 rfl rfl rfl ?_
      refine miconst 213 G24 at_212 (v := (2 : Int32)) rfl rfl ?_
      refine mlload 215 G24 at_213 rfl rfl ?_
      refine mlload 217 G24 at_215 rfl rfl ?_
      refine mladd 218 G24 at_217 rfl rfl ?_
      refine mlload 220 G24 at_218 rfl rfl ?_
      refine mladd 221 G24 at_220 rfl rfl ?_
      refine mlload 223 G24 at_221 rfl rfl ?_
      refine mladd 224 G24 at_223 rfl rfl ?_
      refine castTop (g' := (mkF m 224 #[lv q0, .second, lv q1, .second, lv q2, .second, lv q3, .second, iv p4, lv x2, .second, lv x4, .second, lv x6, .second, lv x8, .second, lv x10, .second, lv x12, .second, lv x14, .second, lv x16, .second, rv b18, .unset, .unset, .unset, .unset, .unset, .unset, .unset, .unset] [(.long x27), (.int (2 : Int32)), (.ref b18)])) (by rw [hx27]) ?_
      refine st28 _ ?_
      refine maload 227 G28 at_225 rfl rfl rfl ?_
      refine miconst 228 G28 at_227 (v := (3 : Int32)) rfl rfl ?_
      refine mlload 230 G28 at_228 rfl rfl ?_
      refine mlload 232 G28 at_230 rfl rfl ?_
      refine mladd 233 G28 at_232 rfl rfl ?_
      refine castTop (g' := (mkF m 233 #[lv q0, .second, lv q1, .second, lv q2, .second, lv q3, .second, iv p4, lv x2, .second, lv x4, .second, lv x6, .second, lv x8, .second, lv x10, .second, lv x12, .second, lv x14, .second, lv x16, .second, rv b18, .unset, .unset, .unset, .unset, .unset, .unset, .unset, .unset] [(.long x31), (.int (3 : Int32)), (.ref b18)])) (by rw [hx31]) ?_
      refine st32 _ ?_
      refine maload 236 G32 at_234 rfl rfl rfl ?_
      refine miconst 237 G32 at_236 (v := (4 : Int32)) rfl rfl ?_
      refine mlload 239 G32 at_237 rfl rfl ?_
      refine mlload 241 G32 at_239 rfl rfl ?_
      refine mladd 242 G32 at_241 rfl rfl ?_
      refine mlload 244 G32 at_242 rfl rfl ?_
      refine mladd 245 G32 at_244 rfl rfl ?_
      refine mlload 247 G32 at_245 rfl rfl ?_
      refine mladd 248 G32 at_247 rfl rfl ?_
      refine castTop (g' := (mkF m 248 #[lv q0, .second, lv q1, .second, lv q2, .second, lv q3, .second, iv p4, lv x2, .second, lv x4, .second, lv x6, .second, lv x8, .second, lv x10, .second, lv x12, .second, lv x14, .second, lv x16, .second, rv b18, .unset, .unset, .unset, .unset, .unset, .unset, .unset, .unset] [(.long x35), (.int (4 : Int32)), (.ref b18)])) (by rw [hx35]) ?_
      refine st36 _ ?_
      refine maload 251 G36 at_249 rfl rfl rfl ?_
      refine miconst 252 G36 at_251 (v := (5 : Int32)) rfl rfl ?_
      refine mlload 254 G36 at_252 rfl rfl ?_
      refine mlload 256 G36 at_254 rfl rfl ?_
      refine mladd 257 G36 at_256 rfl rfl ?_
      refine castTop (g' := (mkF m 257 #[lv q0, .second, lv q1, .second, lv q2, .second, lv q3, .second, iv p4, lv x2, .second, lv x4, .second, lv x6, .second, lv x8, .second, lv x10, .second, lv x12, .second, lv x14, .second, lv x16, .second, rv b18, .unset, .unset, .unset, .unset, .unset, .unset, .unset, .unset] [(.long x39), (.int (5 : Int32)), (.ref b18)])) (by rw [hx39]) ?_
      refine st40 _ ?_
      refine maload 260 G40 at_258 rfl rfl rfl ?_
      refine mbipush 262 G40 at_260 (v := (6 : Int32)) rfl rfl ?_
      refine mlload 264 G40 at_262 rfl rfl ?_
      refine mlload 266 G40 at_264 rfl rfl ?_
      refine mladd 267 G40 at_266 rfl rfl ?_
      refine castTop (g' := (mkF m 267 #[lv q0, .second, lv q1, .second, lv q2, .second, lv q3, .second, iv p4, lv x2, .second, lv x4, .second, lv x6, .second, lv x8, .second, lv x10, .second, lv x12, .second, lv x14, .second, lv x16, .second, rv b18, .unset, .unset, .unset, .unset, .unset, .unset, .unset, .unset] [(.long x43), (.int (6 : Int32)), (.ref b18)])) (by rw [hx43]) ?_
      refine st44 _ ?_
      refine maload 270 G44 at_268 rfl rfl rfl ?_
      refine mbipush 272 G44 at_270 (v := (7 : Int32)) rfl rfl ?_
      refine mlconst 273 G44 at_272 (v := (0 : Int64)) rfl rfl ?_
      refine st47 _ ?_
      refine mlload 276 G47 at_274 rfl rfl ?_
      refine mlload 278 G47 at_276 rfl rfl ?_
      refine st50 _ ?_
      show Steps p.tables e below (T50.setTop (mkF m 281 #[lv q0, .second, lv q1, .second, lv q2, .second, lv q3, .second, iv p4, lv x2, .second, lv x4, .second, lv x6, .second, lv x8, .second, lv x10, .second, lv x12, .second, lv x14, .second, lv x16, .second, rv b18, .unset, .unset, .unset, .unset, .unset, .unset, .unset, .unset] [(.long (rv2 x16 x4))])) _
      refine mlload 283 G50 at_281 rfl rfl ?_
      refine mlload 285 G50 at_283 rfl rfl ?_
      refine st51 _ ?_
      show Steps p.tables e below (T51.setTop (mkF m 288 #[lv q0, .second, lv q1, .second, lv q2, .second, lv q3, .second, iv p4, lv x2, .second, lv x4, .second, lv x6, .second, lv x8, .second, lv x10, .second, lv x12, .second, lv x14, .second, lv x16, .second, rv b18, .unset, .unset, .unset, .unset, .unset, .unset, .unset, .unset] [(.long (rv2 x6 x10)), (.long (rv2 x16 x4))])) _
      refine st52 _ ?_
      show Steps p.tables e below (T52.setTop (mkF m 291 #[lv q0, .second, lv q1, .second, lv q2, .second, lv q3, .second, iv p4, lv x2, .second, lv x4, .second, lv x6, .second, lv x8, .second, lv x10, .second, lv x12, .second, lv x14, .second, lv x16, .second, rv b18, .unset, .unset, .unset, .unset, .unset, .unset, .unset, .unset] [(.long (rv2 (rv2 x16 x4) (rv2 x6 x10)))])) _
      refine castTop (g' := (mkF m 291 #[lv q0, .second, lv q1, .second, lv q2, .second, lv q3, .second, iv p4, lv x2, .second, lv x4, .second, lv x6, .second, lv x8, .second, lv x10, .second, lv x12, .second, lv x14, .second, lv x16, .second, rv b18, .unset, .unset, .unset, .unset, .unset, .unset, .unset, .unset] [(.long x53)])) (by rw [hx53]) ?_
      refine mlstore 293 G52 at_291 #[lv q0, .second, lv q1, .second, lv q2, .second, lv q3, .second, iv p4, lv x2, .second, lv x4, .second, lv x6, .second, lv x8, .second, lv x10, .second, lv x12, .second, lv x14, .second, lv x16, .second, rv b18, lv x53, .second, .unset, .unset, .unset, .unset, .unset, .unset] rfl rfl ?_
      refine mlload 295 G52 at_293 rfl rfl ?_
      refine mlload 297 G52 at_295 rfl rfl ?_
      refine st54 _ ?_
      show Steps p.tables e below (T54.setTop (mkF m 300 #[lv q0, .second, lv q1, .second, lv q2, .second, lv q3, .second, iv p4, lv x2, .second, lv x4, .second, lv x6, .second, lv x8, .second, lv x10, .second, lv x12, .second, lv x14, .second, lv x16, .second, rv b18, lv x53, .second, .unset, .unset, .unset, .unset, .unset, .unset] [(.long (rv2 x2 x8))])) _
      refine mlload 302 G54 at_300 rfl rfl ?_
      refine mlload 304 G54 at_302 rfl rfl ?_
      refine st55 _ ?_
      show Steps p.tables e below (T55.setTop (mkF m 307 #[lv q0, .second, lv q1, .second, lv q2, .second, lv q3, .second, iv p4, lv x2, .second, lv x4, .second, lv x6, .second, lv x8, .second, lv x10, .second, lv x12, .second, lv x14, .second, lv x16, .second, rv b18, lv x53, .second, .unset, .unset, .unset, .unset, .unset, .unset] [(.long (rv2 x12 x14)), (.long (rv2 x2 x8))])) _
      refine st56 _ ?_
      show Steps p.tables e below (T56.setTop (mkF m 310 #[lv q0, .second, lv q1, .second, lv q2, .second, lv q3, .second, iv p4, lv x2, .second, lv x4, .second, lv x6, .second, lv x8, .second, lv x10, .second, lv x12, .second, lv x14, .second, lv x16, .second, rv b18, lv x53, .second, .unset, .unset, .unset, .unset, .unset, .unset] [(.long (rv2 (rv2 x2 x8) (rv2 x12 x14)))])) _
      refine castTop (g' := (mkF m 310 #[lv q0, .second, lv q1, .second, lv q2, .second, lv q3, .second, iv p4, lv x2, .second, lv x4, .second, lv x6, .second, lv x8, .second, lv x10, .second, lv x12, .second, lv x14, .second, lv x16, .second, rv b18, lv x53, .second, .unset, .unset, .unset, .unset, .unset, .unset] [(.long x57)])) (by rw [hx57]) ?_
      refine mlstore 312 G56 at_310 #[lv q0, .second, lv q1, .second, lv q2, .second, lv q3, .second, iv p4, lv x2, .second, lv x4, .second, lv x6, .second, lv x8, .second, lv x10, .second, lv x12, .second, lv x14, .second, lv x16, .second, rv b18, lv x53, .second, lv x57, .second, .unset, .unset, .unset, .unset] rfl rfl ?_
      refine mlload 314 G56 at_312 rfl rfl ?_
      refine mlload 316 G56 at_314 rfl rfl ?_
      refine mladd 317 G56 at_316 rfl rfl ?_
      refine castTop (g' := (mkF m 317 #[lv q0, .second, lv q1, .second, lv q2, .second, lv q3, .second, iv p4, lv x2, .second, lv x4, .second, lv x6, .second, lv x8, .second, lv x10, .second, lv x12, .second, lv x14, .second, lv x16, .second, rv b18, lv x53, .second, lv x57, .second, .unset, .unset, .unset, .unset] [(.long x58)])) (by rw [hx58]) ?_
      refine mlstore 319 G56 at_317 #[lv q0, .second, lv q1, .second, lv q2, .second, lv q3, .second, iv p4, lv x2, .second, lv x4, .second, lv x6, .second, lv x8, .second, lv x10, .second, lv x12, .second, lv x14, .second, lv x16, .second, rv b18, lv x53, .second, lv x57, .second, lv x58, .second, .unset, .unset] rfl rfl ?_
      refine mlload 321 G56 at_319 rfl rfl ?_
      refine mlconst 322 G56 at_321 (v := (0 : Int64)) rfl rfl ?_
      refine mlcmp 323 G56 at_322 rfl ?_
      refine st60 _ ?_
      refine mistore 349 G60 at_347 #[lv q0, .second, lv q1, .second, lv q2, .second, lv q3, .second, iv p4, lv x2, .second, lv x4, .second, lv x6, .second, lv x8, .second, lv x10, .second, lv x12, .second, lv x14, .second, lv x16, .second, rv b18, lv x53, .second, lv x57, .second, lv x58, .second, iv x61, .unset] rfl rfl ?_
      refine st63 _ ?_
      show Steps p.tables e below (T63.setTop (mkF m 352 #[lv q0, .second, lv q1, .second, lv q2, .second, lv q3, .second, iv p4, lv x2, .second, lv x4, .second, lv x6, .second, lv x8, .second, lv x10, .second, lv x12, .second, lv x14, .second, lv x16, .second, rv b18, lv x53, .second, lv x57, .second, lv x58, .second, iv x61, .unset] [(.ref b63)])) _
      refine mdup 353 G63 at_352 rfl rfl ?_
      refine miconst 354 G63 at_353 (v := (3 : Int32)) rfl rfl ?_
      refine maload 356 G63 at_354 rfl rfl rfl ?_
      refine st65.trans ?_
      show Steps p.tables e below (T65.setTop (mkF m 359 #[lv q0, .second, lv q1, .second, lv q2, .second, lv q3, .second, iv p4, lv x2, .second, lv x4, .second, lv x6, .second, lv x8, .second, lv x10, .second, lv x12, .second, lv x14, .second, lv x16, .second, rv b18, lv x53, .second, lv x57, .second, lv x58, .second, iv x61, .unset] [(.ref b63)])) _
      refine mastore 361 G65 at_359 rfl #[lv q0, .second, lv q1, .second, lv q2, .second, lv q3, .second, iv p4, lv x2, .second, lv x4, .second, lv x6, .second, lv x8, .second, lv x10, .second, lv x12, .second, lv x14, .second, lv x16, .second, rv b18, lv x53, .second, lv x57, .second, lv x58, .second, iv x61, rv b63] rfl rfl ?_
      refine maload 363 G65 at_361 rfl rfl rfl ?_
      refine st77.trans ?_
      show Steps p.tables e below (T77.setTop (mkF m 366 #[lv q0, .second, lv q1, .second, lv q2, .second, lv q3, .second, iv p4, lv x2, .second, lv x4, .second, lv x6, .second, lv x8, .second, lv x10, .second, lv x12, .second, lv x14, .second, lv x16, .second, rv b18, lv x53, .second, lv x57, .second, lv x58, .second, iv x61, rv b63] [(.int (rv13 (FP.l2d (rv12 (rv12 (rv12 (0 : Int64) (-(rv9_4 x39 x43 x35))) (-(rv9_2 x31 x43 x27))) (-(rv9_1 x31 x39 x23)))) (FP.l2d (rv2 (rv2 (rv2 (rv2 (9223372036854775807 : Int64) (rv9_6 x43)) (rv9_5 x39)) (rv9_3 x31)) (rv9_0 x23 x27 x35 x19 x31 x39 x43))) x19))])) _
      refine miload 368 G77 at_366 rfl rfl ?_
      refine st79 _ ?_
      refine castTop (g' := (mkF m 376 #[lv q0, .second, lv q1, .second, lv q2, .second, lv q3, .second, iv p4, lv x2, .second, lv x4, .second, lv x6, .second, lv x8, .second, lv x10, .second, lv x12, .second, lv x14, .second, lv x16, .second, rv b18, lv x53, .second, lv x57, .second, lv x58, .second, iv x61, rv b63] [(.int (1 : Int32))])) (by rw [hend]) ?_
      exact retN X79 hx (t := .boolean) Bd.returns (by simp) (hb hby at_376) hr
    · show Q0 Z q0 q1 q2 q3 p4 h0 n0 _ T79.heap _
      rw [e79]
      exact ⟨rfl, N65⟩
  · obtain ⟨T81, h81, k81, X81, e81, E81, A81, st81⟩ := newP X15 hx hZ (wd hw 6 rfl) e15 (g := (mkF m 101 #[lv q0, .second, lv q1, .second, lv q2, .second, lv q3, .second, iv p4, lv x2, .second, lv x4, .second, lv x6, .second, lv x8, .second, lv x10, .second, lv x12, .second, lv x14, .second, lv x16, .second, .unset, .unset, .unset, .unset, .unset, .unset, .unset, .unset, .unset] [(.int (4 : Int32))])) rfl (hb hby at_101) rfl (by decide) (cap := 4) (by decide) (by decide) (by decide) (by decide)
    have G81 := gd X81 hx hby
    obtain ⟨b81, g81⟩ : ∃ z, z = h0.size := ⟨_, rfl⟩
    rw [← g81] at A81 st81
    have g_b81 : n0 ≤ b81 := Nat.le_trans Z0 (Nat.le_of_eq g81.symm)
    have Z81 := Nat.le_trans Z0 E81.1
    have V_b81 : Arv Z h81 b81 k81 .long (4 : Int32) [(.long (0 : Int64)), (.long (0 : Int64)), (.long (0 : Int64)), (.long (0 : Int64))] (.long (0 : Int64)) := (Arv.new A81 (by decide)).pad (pad_rep [] (.long (0 : Int64)) 4)
    obtain ⟨x82, hx82⟩ : ∃ z : Int64, z = (((x2 + x4) + x6) + x8) := ⟨_, rfl⟩
    obtain ⟨T83, h83, X83, e83, W83, Vs83, st83⟩ := own_stJ X81 hx hby hZ e81 V_b81 (j := (0 : Int32)) (v := x82) at_119 ⟨by decide, by decide⟩ 0 rfl (Nat.le_of_ble_eq_true rfl) #[lv q0, .second, lv q1, .second, lv q2, .second, lv q3, .second, iv p4, lv x2, .second, lv x4, .second, lv x6, .second, lv x8, .second, lv x10, .second, lv x12, .second, lv x14, .second, lv x16, .second, rv b81, .unset, .unset, .unset, .unset, .unset, .unset, .unset, .unset] [] 120 rfl
    have G83 := gd X83 hx hby
    have N83 := Fr.snoc X83 N0 g_b81
    have Z83 := Nat.le_trans Z81 (Keep.of_wr W83).1
    have V83 : Arv Z h83 b81 k81 .long (4 : Int32) [(.long x82), (.long (0 : Int64)), (.long (0 : Int64)), (.long (0 : Int64))] (.long (0 : Int64)) := Vs83
    obtain ⟨x86, hx86⟩ : ∃ z : Int64, z = (x4 + x8) := ⟨_, rfl⟩
    obtain ⟨T87, h87, X87, e87, W87, Vs87, st87⟩ := own_stJ X83 hx hby hZ e83 V83 (j := (1 : Int32)) (v := x86) at_128 ⟨by decide, by decide⟩ 1 rfl (Nat.le_of_ble_eq_true rfl) #[lv q0, .second, lv q1, .second, lv q2, .second, lv q3, .second, iv p4, lv x2, .second, lv x4, .second, lv x6, .second, lv x8, .second, lv x10, .second, lv x12, .second, lv x14, .second, lv x16, .second, rv b81, .unset, .unset, .unset, .unset, .unset, .unset, .unset, .unset] [] 129 rfl
    have G87 := gd X87 hx hby
    have N87 := Fr.snoc X87 N83 g_b81
    have Z87 := Nat.le_trans Z83 (Keep.of_wr W87).1
    have V87 : Arv Z h87 b81 k81 .long (4 : Int32) [(.long x82), (.long x86), (.long (0 : Int64)), (.long (0 : Int64))] (.long (0 : Int64)) := Vs87
    obtain ⟨x90, hx90⟩ : ∃ z : Int64, z = (x6 + x8) := ⟨_, rfl⟩
    obtain ⟨T91, h91, X91, e91, W91, Vs91, st91⟩ := own_stJ X87 hx hby hZ e87 V87 (j := (2 : Int32)) (v := x90) at_137 ⟨by decide, by decide⟩ 2 rfl (Nat.le_of_ble_eq_true rfl) #[lv q0, .second, lv q1, .second, lv q2, .second, lv q3, .second, iv p4, lv x2, .second, lv x4, .second, lv x6, .second, lv x8, .second, lv x10, .second, lv x12, .second, lv x14, .second, lv x16, .second, rv b81, .unset, .unset, .unset, .unset, .unset, .unset, .unset, .unset] [] 138 rfl
    have G91 := gd X91 hx hby
    have N91 := Fr.snoc X91 N87 g_b81
    have Z91 := Nat.le_trans Z87 (Keep.of_wr W91).1
    have V91 : Arv Z h91 b81 k81 .long (4 : Int32) [(.long x82), (.long x86), (.long x90), (.long (0 : Int64))] (.long (0 : Int64)) := Vs91
    obtain ⟨T94, h94, X94, e94, W94, Vs94, st94⟩ := own_stJ X91 hx hby hZ e91 V91 (j := (3 : Int32)) (v := x8) at_143 ⟨by decide, by decide⟩ 3 rfl (Nat.le_of_ble_eq_true rfl) #[lv q0, .second, lv q1, .second, lv q2, .second, lv q3, .second, iv p4, lv x2, .second, lv x4, .second, lv x6, .second, lv x8, .second, lv x10, .second, lv x12, .second, lv x14, .second, lv x16, .second, rv b81, .unset, .unset, .unset, .unset, .unset, .unset, .unset, .unset] [] 144 rfl
    have G94 := gd X94 hx hby
    have N94 := Fr.snoc X94 N91 g_b81
    have Z94 := Nat.le_trans Z91 (Keep.of_wr W94).1
    have V94 : Arv Z h94 b81 k81 .long (4 : Int32) [(.long x82), (.long x86), (.long x90), (.long x8)] (.long (0 : Int64)) := Vs94
    obtain ⟨T97, h97, X97, e97, E97, A97, D97, -, st97⟩ := newO X94 hx hZ hown (wd hw 11 rfl) (wd hw 12 rfl) (wd hw 13 rfl) e94 (g := (mkF m 144 #[lv q0, .second, lv q1, .second, lv q2, .second, lv q3, .second, iv p4, lv x2, .second, lv x4, .second, lv x6, .second, lv x8, .second, lv x10, .second, lv x12, .second, lv x14, .second, lv x16, .second, rv b81, .unset, .unset, .unset, .unset, .unset, .unset, .unset, .unset] [])) rfl (hb hby at_144) (by decide) (by decide)
    have G97 := gd X97 hx hby
    obtain ⟨b97, g97⟩ : ∃ z, z = h94.size := ⟨_, rfl⟩
    rw [← g97] at A97 D97 st97
    have ne_b81_b97 : b81 ≠ b97 := Nat.ne_of_lt (Nat.lt_of_lt_of_le V94.lt (Nat.le_of_eq g97.symm))
    have g_b97 : n0 ≤ b97 := Nat.le_trans Z94 (Nat.le_of_eq g97.symm)
    have f98 := V94.ext E97
    have Z97 := Nat.le_trans Z94 E97.1
    have F_words_b97 : Fld Z h97 b97 "com/example/tempe/tempe/estimate/CountBracket" "words" "I" (.int (0 : Int32)) := D97 (Or.inr (wd hw 21 rfl)) (ty := .int) (by decide)
    have F_counts_b97 : Fld Z h97 b97 "com/example/tempe/tempe/estimate/CountBracket" "counts" "[J" .null := D97 (Or.inr (wd hw 23 rfl)) (ty := (.array .long)) (by decide)
    have F_documents_b97 : Fld Z h97 b97 "com/example/tempe/tempe/estimate/CountBracket" "documents" "J" (.long (0 : Int64)) := D97 (Or.inr (wd hw 25 rfl)) (ty := .long) (by decide)
    have F_lower_b97 : Fld Z h97 b97 "com/example/tempe/tempe/estimate/CountBracket" "lower" "D" (.double (0 : UInt64)) := D97 (Or.inl (wd hw 58 rfl)) (ty := .double) (by decide)
    have F_upper_b97 : Fld Z h97 b97 "com/example/tempe/tempe/estimate/CountBracket" "upper" "D" (.double (0 : UInt64)) := D97 (Or.inl (wd hw 60 rfl)) (ty := .double) (by decide)
    have F_closed_b97 : Fld Z h97 b97 "com/example/tempe/tempe/estimate/CountBracket" "closed" "Z" (.int (0 : Int32)) := D97 (Or.inl (wd hw 67 rfl)) (ty := .boolean) (by decide)
    obtain ⟨_, _, ⟨T99, L99, k99, n99⟩, -, X99, ⟨Lc99, hQ99, l99, y99, z99⟩, st99⟩ := X97.specialBack hx (y := (⟨"com/example/tempe/tempe/estimate/CountBracket", "<init>", "(I[J)V"⟩ : MethodName)) rfl hown (mvT hZ (wd hw 14 rfl)) (mvT hZ (wd hw 15 rfl)) (mvT hZ (wd hw 16 rfl)) (by decide) (backOf (W := 1) (rm3_2 l Z a0 hw [] b97 b81 h97 n0 Z97 A97 g_b97 F_words_b97 F_counts_b97 F_documents_b97 F_lower_b97 F_upper_b97 F_closed_b97 (Ne.symm ne_b81_b97) f98 (own_rm0_hp_hp_hp_hf45_19_23_151 q0 q1 q2 q3 p4 x2 hx2 x4 hx4 x6 hx6 x8 hx8 x10 hx10 x12 hx12 x14 hx14 x16 hx16 x82 hx82 x86 hx86 x90 hx90 hc97_17) (own_rm0_hp_hp_hp_hf52_19_23_151 q0 q1 q2 q3 p4 x2 hx2 x4 hx4 x6 hx6 x8 hx8 x10 hx10 x12 hx12 x14 hx14 x16 hx16 x82 hx82 x86 hx86 x90 hx90 hc97_17) (own_rm0_hp_hp_hp_hf59_19_23_151 q0 q1 q2 q3 p4 x2 hx2 x4 hx4 x6 hx6 x8 hx8 x10 hx10 x12 hx12 x14 hx14 x16 hx16 x82 hx82 x86 hx86 x90 hx90 hc97_17) (own_rm0_hp_hp_hp_hf66_19_23_151 q0 q1 q2 q3 p4 x2 hx2 x4 hx4 x6 hx6 x8 hx8 x10 hx10 x12 hx12 x14 hx14 x16 hx16 x82 hx82 x86 hx86 x90 hx90 hc97_17) (own_rm0_hp_hp_hcq_28_151 q0 q1 q2 q3 p4 x2 hx2 x4 hx4 x6 hx6 x8 hx8 x10 hx10 x12 hx12 x14 hx14 x16 hx16 x82 hx82 x86 hx86 x90 hx90 hc97_17)) hZ (wd hw 16 rfl) (wd hw 13 rfl) (by decide) (by decide)) (g := (mkF m 151 #[lv q0, .second, lv q1, .second, lv q2, .second, lv q3, .second, iv p4, lv x2, .second, lv x4, .second, lv x6, .second, lv x8, .second, lv x10, .second, lv x12, .second, lv x14, .second, lv x16, .second, rv b81, .unset, .unset, .unset, .unset, .unset, .unset, .unset, .unset] [(.ref b81), (.int (2 : Int32)), (.ref b97), (.ref b97)])) rfl (by rw [hml]; rfl) (Steps.refl _) (a := b97) (argsL := [(.int (2 : Int32)), (.ref b81)]) (rest := [(.ref b97)]) (lenOf pd_3 rfl) rfl (by show 2 * 0 + _ ≤ _; exact Nat.le_of_eq rfl) (hb hby at_151) (fun _ _ => ⟨rfl, e97, (by decide : 2 + 4 ≤ _), (by decide : 12 + 14 ≤ _)⟩)
    dsimp only [Pt.U, Pt.locs, Pt.cells, Pt.slots] at X99 l99 y99 z99 st99 hQ99
    replace l99 : ((((([] ++ [⟨b81, ((0 : Int32)).toNatClampNeg⟩]) ++ [⟨b81, ((1 : Int32)).toNatClampNeg⟩]) ++ [⟨b81, ((2 : Int32)).toNatClampNeg⟩]) ++ [⟨b81, ((3 : Int32)).toNatClampNeg⟩]) ++ Lc99) = L99 := l99.symm
    subst l99 y99 z99
    obtain ⟨rfl, Nq99, K99, Eq99, Fq99_0, Fq99_1, Fq99_2, Fq99_3, Fq99_4, Fq99_5⟩ := hQ99
    have N99 := Fr.app N94 Nq99
    have f101 := f98.keep K99 (ninS ne_b81_b97 nin0)
    have f110 := A97.keep K99
    have Z99k := Nat.le_trans Z97 K99.1
    have G99 := gd X99 hx hby
    obtain ⟨cq111, kq111, q111a, q111b, q111c⟩ := isOf hZ rfl Eq99
    obtain ⟨_, _, ⟨T111, L111, k111, n111⟩, -, X111, ⟨Lc111, hQ111, l111, y111, z111⟩, st111⟩ := X99.virtualBack hx (y := (⟨"com/example/tempe/tempe/estimate/CountBracket", "settled", "()Z"⟩ : MethodName)) (z := (⟨"com/example/tempe/tempe/estimate/CountBracket", "settled", "()Z"⟩ : MethodName)) hown (mvT hZ (wd hw 61 rfl)) (mvT hZ (wd hw 62 rfl)) (notFace_of_selects (args := #[]) (mvT hZ (wd hw 64 rfl))) (mvT hZ (wd hw 64 rfl)) (mvT hZ (wd hw 63 rfl)) (by decide) (backOf (W := 0) (rm13 l Z a0 hw [] b97 T99.heap n0 Z99k Fq99_5 Fq99_3 Fq99_4 Fq99_2 (own_rm0_hp_hn27_158 q0 q1 q2 q3 p4 x2 hx2 x4 hx4 x6 hx6 x8 hx8 x10 hx10 x12 hx12 x14 hx14 x16 hx16 x82 hx82 x86 hx86 x90 hx90 hc97_17) (own_rm0_hp_hn36_158 q0 q1 q2 q3 p4 x2 hx2 x4 hx4 x6 hx6 x8 hx8 x10 hx10 x12 hx12 x14 hx14 x16 hx16 x82 hx82 x86 hx86 x90 hx90 hc97_17)) hZ (wd hw 65 rfl) (wd hw 13 rfl) (by decide) (by decide)) q111a q111c (g := (mkF m 158 #[lv q0, .second, lv q1, .second, lv q2, .second, lv q3, .second, iv p4, lv x2, .second, lv x4, .second, lv x6, .second, lv x8, .second, lv x10, .second, lv x12, .second, lv x14, .second, lv x16, .second, rv b81, rv b97, .unset, .unset, .unset, .unset, .unset, .unset, .unset] [(.ref b97)])) rfl (by rw [hml]; rfl) (Steps.refl _) (argsL := []) (rest := []) (lenOf pd_7 rfl) rfl (by show 2 * 0 + _ ≤ _; exact Nat.le_of_eq rfl) (hb hby at_158) (fun _ _ => ⟨rfl, rfl, (by decide : 6 + 0 ≤ _), (by decide : 26 + 0 ≤ _)⟩)
    dsimp only [Pt.U, Pt.locs, Pt.cells, Pt.slots] at X111 l111 y111 z111 st111 hQ111
    replace l111 : (((((([] ++ [⟨b81, ((0 : Int32)).toNatClampNeg⟩]) ++ [⟨b81, ((1 : Int32)).toNatClampNeg⟩]) ++ [⟨b81, ((2 : Int32)).toNatClampNeg⟩]) ++ [⟨b81, ((3 : Int32)).toNatClampNeg⟩]) ++ Lc99) ++ Lc111) = L111 := l111.symm
    subst l111 y111 z111
    obtain ⟨rfl, rfl, e111⟩ := hQ111
    simp only [List.append_nil, Nat.add_zero] at X111
    have G111 := gd X111 hx hby
    have hend : (rv13 (FP.l2d x8) (FP.l2d x8) x82) = 1 := (own_rm0_end_1 q0 q1 q2 q3 p4 x2 hx2 x4 hx4 x6 hx6 x8 hx8 x10 hx10 x12 hx12 x14 hx14 x16 hx16 x82 hx82 x86 hx86 x90 hx90 hc97_17)
    obtain ⟨fs, hr, hrun, hended, hW, hsame⟩ := X111.leave (v := some (.int (1 : Int32))) (fun h => by rw [Bd.returns] at h; cases h)
    refine ⟨_, _, pre0 _ ?_, hrun, hended, _, _, rfl, ?_, ⟨_, rfl⟩, hW, hsame.mono (by decide) (by decide)⟩
    · show Steps p.tables e below (s₁.setTop (mkF m 0 #[lv q0, .second, lv q1, .second, lv q2, .second, lv q3, .second, iv p4, .unset, .unset, .unset, .unset, .unset, .unset, .unset, .unset, .unset, .unset, .unset, .unset, .unset, .unset, .unset, .unset, .unset, .unset, .unset, .unset, .unset, .unset, .unset, .unset, .unset] [])) _
      refine mlloadN 1 G0 at_0 rfl rfl ?_
      refine miload 3 G0 at_1 rfl rfl ?_
      refine miconst 4 G0 at_3 (v := (0 : Int32)) rfl rfl ?_
      refine st1 _ ?_
      show Steps p.tables e below (T1.setTop (mkF m 7 #[lv q0, .second, lv q1, .second, lv q2, .second, lv q3, .second, iv p4, .unset, .unset, .unset, .unset, .unset, .unset, .unset, .unset, .unset, .unset, .unset, .unset, .unset, .unset, .unset, .unset, .unset, .unset, .unset, .unset, .unset, .unset, .unset, .unset, .unset] [(.long (rv1 q0 p4 (0 : Int32)))])) _
      refine castTop (g' := (mkF m 7 #[lv q0, .second, lv q1, .second, lv q2, .second, lv q3, .second, iv p4, .unset, .unset, .unset, .unset, .unset, .unset, .unset, .unset, .unset, .unset, .unset, .unset, .unset, .unset, .unset, .unset, .unset, .unset, .unset, .unset, .unset, .unset, .unset, .unset, .unset] [(.long x2)])) (by rw [hx2]) ?_
      refine mlstore 9 G1 at_7 #[lv q0, .second, lv q1, .second, lv q2, .second, lv q3, .second, iv p4, lv x2, .second, .unset, .unset, .unset, .unset, .unset, .unset, .unset, .unset, .unset, .unset, .unset, .unset, .unset, .unset, .unset, .unset, .unset, .unset, .unset, .unset, .unset, .unset, .unset] rfl rfl ?_
      refine mlloadN 10 G1 at_9 rfl rfl ?_
      refine mbipush 12 G1 at_10 (v := (32 : Int32)) rfl rfl ?_
      refine mlushr 13 G1 at_12 rfl rfl ?_
      refine miload 15 G1 at_13 rfl rfl ?_
      refine miconst 16 G1 at_15 (v := (1 : Int32)) rfl rfl ?_
      refine st3 _ ?_
      show Steps p.tables e below (T3.setTop (mkF m 19 #[lv q0, .second, lv q1, .second, lv q2, .second, lv q3, .second, iv p4, lv x2, .second, .unset, .unset, .unset, .unset, .unset, .unset, .unset, .unset, .unset, .unset, .unset, .unset, .unset, .unset, .unset, .unset, .unset, .unset, .unset, .unset, .unset, .unset, .unset] [(.long (rv1 ((q0.toUInt64 >>> ((32 : Int32) &&& 0x3f).toInt64.toUInt64).toInt64) p4 (1 : Int32)))])) _
      refine castTop (g' := (mkF m 19 #[lv q0, .second, lv q1, .second, lv q2, .second, lv q3, .second, iv p4, lv x2, .second, .unset, .unset, .unset, .unset, .unset, .unset, .unset, .unset, .unset, .unset, .unset, .unset, .unset, .unset, .unset, .unset, .unset, .unset, .unset, .unset, .unset, .unset, .unset] [(.long x4)])) (by rw [hx4]) ?_
      refine mlstore 21 G3 at_19 #[lv q0, .second, lv q1, .second, lv q2, .second, lv q3, .second, iv p4, lv x2, .second, lv x4, .second, .unset, .unset, .unset, .unset, .unset, .unset, .unset, .unset, .unset, .unset, .unset, .unset, .unset, .unset, .unset, .unset, .unset, .unset, .unset, .unset, .unset] rfl rfl ?_
      refine mlloadN 22 G3 at_21 rfl rfl ?_
      refine miload 24 G3 at_22 rfl rfl ?_
      refine miconst 25 G3 at_24 (v := (2 : Int32)) rfl rfl ?_
      refine st5 _ ?_
      show Steps p.tables e below (T5.setTop (mkF m 28 #[lv q0, .second, lv q1, .second, lv q2, .second, lv q3, .second, iv p4, lv x2, .second, lv x4, .second, .unset, .unset, .unset, .unset, .unset, .unset, .unset, .unset, .unset, .unset, .unset, .unset, .unset, .unset, .unset, .unset, .unset, .unset, .unset, .unset, .unset] [(.long (rv1 q1 p4 (2 : Int32)))])) _
      refine castTop (g' := (mkF m 28 #[lv q0, .second, lv q1, .second, lv q2, .second, lv q3, .second, iv p4, lv x2, .second, lv x4, .second, .unset, .unset, .unset, .unset, .unset, .unset, .unset, .unset, .unset, .unset, .unset, .unset, .unset, .unset, .unset, .unset, .unset, .unset, .unset, .unset, .unset] [(.long x6)])) (by rw [hx6]) ?_
      refine mlstore 30 G5 at_28 #[lv q0, .second, lv q1, .second, lv q2, .second, lv q3, .second, iv p4, lv x2, .second, lv x4, .second, lv x6, .second, .unset, .unset, .unset, .unset, .unset, .unset, .unset, .unset, .unset, .unset, .unset, .unset, .unset, .unset, .unset, .unset, .unset, .unset, .unset] rfl rfl ?_
      refine mlloadN 31 G5 at_30 rfl rfl ?_
      refine mbipush 33 G5 at_31 (v := (32 : Int32)) rfl rfl ?_
      refine mlushr 34 G5 at_33 rfl rfl ?_
      refine miload 36 G5 at_34 rfl rfl ?_
      refine miconst 37 G5 at_36 (v := (3 : Int32)) rfl rfl ?_
      refine st7 _ ?_
      show Steps p.tables e below (T7.setTop (mkF m 40 #[lv q0, .second, lv q1, .second, lv q2, .second, lv q3, .second, iv p4, lv x2, .second, lv x4, .second, lv x6, .second, .unset, .unset, .unset, .unset, .unset, .unset, .unset, .unset, .unset, .unset, .unset, .unset, .unset, .unset, .unset, .unset, .unset, .unset, .unset] [(.long (rv1 ((q1.toUInt64 >>> ((32 : Int32) &&& 0x3f).toInt64.toUInt64).toInt64) p4 (3 : Int32)))])) _
      refine castTop (g' := (mkF m 40 #[lv q0, .second, lv q1, .second, lv q2, .second, lv q3, .second, iv p4, lv x2, .second, lv x4, .second, lv x6, .second, .unset, .unset, .unset, .unset, .unset, .unset, .unset, .unset, .unset, .unset, .unset, .unset, .unset, .unset, .unset, .unset, .unset, .unset, .unset] [(.long x8)])) (by rw [hx8]) ?_
      refine mlstore 42 G7 at_40 #[lv q0, .second, lv q1, .second, lv q2, .second, lv q3, .second, iv p4, lv x2, .second, lv x4, .second, lv x6, .second, lv x8, .second, .unset, .unset, .unset, .unset, .unset, .unset, .unset, .unset, .unset, .unset, .unset, .unset, .unset, .unset, .unset, .unset, .unset] rfl rfl ?_
      refine mlload 44 G7 at_42 rfl rfl ?_
      refine miload 46 G7 at_44 rfl rfl ?_
      refine miconst 47 G7 at_46 (v := (4 : Int32)) rfl rfl ?_
      refine st9 _ ?_
      show Steps p.tables e below (T9.setTop (mkF m 50 #[lv q0, .second, lv q1, .second, lv q2, .second, lv q3, .second, iv p4, lv x2, .second, lv x4, .second, lv x6, .second, lv x8, .second, .unset, .unset, .unset, .unset, .unset, .unset, .unset, .unset, .unset, .unset, .unset, .unset, .unset, .unset, .unset, .unset, .unset] [(.long (rv1 q2 p4 (4 : Int32)))])) _
      refine castTop (g' := (mkF m 50 #[lv q0, .second, lv q1, .second, lv q2, .second, lv q3, .second, iv p4, lv x2, .second, lv x4, .second, lv x6, .second, lv x8, .second, .unset, .unset, .unset, .unset, .unset, .unset, .unset, .unset, .unset, .unset, .unset, .unset, .unset, .unset, .unset, .unset, .unset] [(.long x10)])) (by rw [hx10]) ?_
      refine mlstore 52 G9 at_50 #[lv q0, .second, lv q1, .second, lv q2, .second, lv q3, .second, iv p4, lv x2, .second, lv x4, .second, lv x6, .second, lv x8, .second, lv x10, .second, .unset, .unset, .unset, .unset, .unset, .unset, .unset, .unset, .unset, .unset, .unset, .unset, .unset, .unset, .unset] rfl rfl ?_
      refine mlload 54 G9 at_52 rfl rfl ?_
      refine mbipush 56 G9 at_54 (v := (32 : Int32)) rfl rfl ?_
      refine mlushr 57 G9 at_56 rfl rfl ?_
      refine miload 59 G9 at_57 rfl rfl ?_
      refine miconst 60 G9 at_59 (v := (5 : Int32)) rfl rfl ?_
      refine st11 _ ?_
      show Steps p.tables e below (T11.setTop (mkF m 63 #[lv q0, .second, lv q1, .second, lv q2, .second, lv q3, .second, iv p4, lv x2, .second, lv x4, .second, lv x6, .second, lv x8, .second, lv x10, .second, .unset, .unset, .unset, .unset, .unset, .unset, .unset, .unset, .unset, .unset, .unset, .unset, .unset, .unset, .unset] [(.long (rv1 ((q2.toUInt64 >>> ((32 : Int32) &&& 0x3f).toInt64.toUInt64).toInt64) p4 (5 : Int32)))])) _
      refine castTop (g' := (mkF m 63 #[lv q0, .second, lv q1, .second, lv q2, .second, lv q3, .second, iv p4, lv x2, .second, lv x4, .second, lv x6, .second, lv x8, .second, lv x10, .second, .unset, .unset, .unset, .unset, .unset, .unset, .unset, .unset, .unset, .unset, .unset, .unset, .unset, .unset, .unset] [(.long x12)])) (by rw [hx12]) ?_
      refine mlstore 65 G11 at_63 #[lv q0, .second, lv q1, .second, lv q2, .second, lv q3, .second, iv p4, lv x2, .second, lv x4, .second, lv x6, .second, lv x8, .second, lv x10, .second, lv x12, .second, .unset, .unset, .unset, .unset, .unset, .unset, .unset, .unset, .unset, .unset, .unset, .unset, .unset] rfl rfl ?_
      refine mlload 67 G11 at_65 rfl rfl ?_
      refine miload 69 G11 at_67 rfl rfl ?_
      refine mbipush 71 G11 at_69 (v := (6 : Int32)) rfl rfl ?_
      refine st13 _ ?_
      show Steps p.tables e below (T13.setTop (mkF m 74 #[lv q0, .second, lv q1, .second, lv q2, .second, lv q3, .second, iv p4, lv x2, .second, lv x4, .second, lv x6, .second, lv x8, .second, lv x10, .second, lv x12, .second, .unset, .unset, .unset, .unset, .unset, .unset, .unset, .unset, .unset, .unset, .unset, .unset, .unset] [(.long (rv1 q3 p4 (6 : Int32)))])) _
      refine castTop (g' := (mkF m 74 #[lv q0, .second, lv q1, .second, lv q2, .second, lv q3, .second, iv p4, lv x2, .second, lv x4, .second, lv x6, .second, lv x8, .second, lv x10, .second, lv x12, .second, .unset, .unset, .unset, .unset, .unset, .unset, .unset, .unset, .unset, .unset, .unset, .unset, .unset] [(.long x14)])) (by rw [hx14]) ?_
      refine mlstore 76 G13 at_74 #[lv q0, .second, lv q1, .second, lv q2, .second, lv q3, .second, iv p4, lv x2, .second, lv x4, .second, lv x6, .second, lv x8, .second, lv x10, .second, lv x12, .second, lv x14, .second, .unset, .unset, .unset, .unset, .unset, .unset, .unset, .unset, .unset, .unset, .unset] rfl rfl ?_
      refine mlload 78 G13 at_76 rfl rfl ?_
      refine mbipush 80 G13 at_78 (v := (32 : Int32)) rfl rfl ?_
      refine mlushr 81 G13 at_80 rfl rfl ?_
      refine miload 83 G13 at_81 rfl rfl ?_
      refine mbipush 85 G13 at_83 (v := (7 : Int32)) rfl rfl ?_
      refine st15 _ ?_
      show Steps p.tables e below (T15.setTop (mkF m 88 #[lv q0, .second, lv q1, .second, lv q2, .second, lv q3, .second, iv p4, lv x2, .second, lv x4, .second, lv x6, .second, lv x8, .second, lv x10, .second, lv x12, .second, lv x14, .second, .unset, .unset, .unset, .unset, .unset, .unset, .unset, .unset, .unset, .unset, .unset] [(.long (rv1 ((q3.toUInt64 >>> ((32 : Int32) &&& 0x3f).toInt64.toUInt64).toInt64) p4 (7 : Int32)))])) _
      refine castTop (g' := (mkF m 88 #[lv q0, .second, lv q1, .second, lv q2, .second, lv q3, .second, iv p4, lv x2, .second, lv x4, .second, lv x6, .second, lv x8, .second, lv x10, .second, lv x12, .second, lv x14, .second, .unset, .unset, .unset, .unset, .unset, .unset, .unset, .unset, .unset, .unset, .unset] [(.long x16)])) (by rw [hx16]) ?_
      refine mlstore 90 G15 at_88 #[lv q0, .second, lv q1, .second, lv q2, .second, lv q3, .second, iv p4, lv x2, .second, lv x4, .second, lv x6, .second, lv x8, .second, lv x10, .second, lv x12, .second, lv x14, .second, lv x16, .second, .unset, .unset, .unset, .unset, .unset, .unset, .unset, .unset, .unset] rfl rfl ?_
      refine miload 92 G15 at_90 rfl rfl ?_
      refine mbipush 94 G15 at_92 (v := (8 : Int32)) rfl rfl ?_
      refine miushr 95 G15 at_94 rfl rfl ?_
      refine miconst 96 G15 at_95 (v := (1 : Int32)) rfl rfl ?_
      refine miand 97 G15 at_96 rfl rfl ?_
      refine mifNo 100 G15 at_97 ((if0 _ _).trans (feq hc97_17).1) rfl ?_
      refine miconst 101 G15 at_100 (v := (4 : Int32)) rfl rfl ?_
      refine st81 _ ?_
      show Steps p.tables e below (T81.setTop (mkF m 103 #[lv q0, .second, lv q1, .second, lv q2, .second, lv q3, .second, iv p4, lv x2, .second, lv x4, .second, lv x6, .second, lv x8, .second, lv x10, .second, lv x12, .second, lv x14, .second, lv x16, .second, .unset, .unset, .unset, .unset, .unset, .unset, .unset, .unset, .unset] [(.ref b81)])) _
      refine mastore 105 G81 at_103 rfl #[lv q0, .second, lv q1, .second, lv q2, .second, lv q3, .second, iv p4, lv x2, .second, lv x4, .second, lv x6, .second, lv x8, .second, lv x10, .second, lv x12, .second, lv x14, .second, lv x16, .second, rv b81, .unset, .unset, .unset, .unset, .unset, .unset, .unset, .unset] rfl rfl ?_
      refine maload 107 G81 at_105 rfl rfl rfl ?_
      refine miconst 108 G81 at_107 (v := (0 : Int32)) rfl rfl ?_
      refine mlload 110 G81 at_108 rfl rfl ?_
      refine mlload 112 G81 at_110 rfl rfl ?_
      refine mladd 113 G81 at_112 rfl rfl ?_
      refine mlload 115 G81 at_113 rfl rfl ?_
      refine mladd 116 G81 at_115 rfl rfl ?_
      refine mlload 118 G81 at_116 rfl rfl ?_
      refine mladd 119 G81 at_118 rfl rfl ?_
      refine castTop (g' := (mkF m 119 #[lv q0, .second, lv q1, .second, lv q2, .second, lv q3, .second, iv p4, lv x2, .second, lv x4, .second, lv x6, .second, lv x8, .second, lv x10, .second, lv x12, .second, lv x14, .second, lv x16, .second, rv b81, .unset, .unset, .unset, .unset, .unset, .unset, .unset, .unset] [(.long x82), (.int (0 : Int32)), (.ref b81)])) (by rw [hx82]) ?_
      refine st83 _ ?_
      refine maload 122 G83 at_120 rfl rfl rfl ?_
      refine miconst 123 G83 at_122 (v := (1 : Int32)) rfl rfl ?_
      refine mlload 125 G83 at_123 rfl rfl ?_
      refine mlload 127 G83 at_125 rfl rfl ?_
      refine mladd 128 G83 at_127 rfl rfl ?_
      refine castTop (g' := (mkF m 128 #[lv q0, .second, lv q1, .second, lv q2, .second, lv q3, .second, iv p4, lv x2, .second, lv x4, .second, lv x6, .second, lv x8, .second, lv x10, .second, lv x12, .second, lv x14, .second, lv x16, .second, rv b81, .unset, .unset, .unset, .unset, .unset, .unset, .unset, .unset] [(.long x86), (.int (1 : Int32)), (.ref b81)])) (by rw [hx86]) ?_
      refine st87 _ ?_
      refine maload 131 G87 at_129 rfl rfl rfl ?_
      refine miconst 132 G87 at_131 (v := (2 : Int32)) rfl rfl ?_
      refine mlload 134 G87 at_132 rfl rfl ?_
      refine mlload 136 G87 at_134 rfl rfl ?_
      refine mladd 137 G87 at_136 rfl rfl ?_
      refine castTop (g' := (mkF m 137 #[lv q0, .second, lv q1, .second, lv q2, .second, lv q3, .second, iv p4, lv x2, .second, lv x4, .second, lv x6, .second, lv x8, .second, lv x10, .second, lv x12, .second, lv x14, .second, lv x16, .second, rv b81, .unset, .unset, .unset, .unset, .unset, .unset, .unset, .unset] [(.long x90), (.int (2 : Int32)), (.ref b81)])) (by rw [hx90]) ?_
      refine st91 _ ?_
      refine maload 140 G91 at_138 rfl rfl rfl ?_
      refine miconst 141 G91 at_140 (v := (3 : Int32)) rfl rfl ?_
      refine mlload 143 G91 at_141 rfl rfl ?_
      refine st94 _ ?_
      refine st97 _ ?_
      show Steps p.tables e below (T97.setTop (mkF m 147 #[lv q0, .second, lv q1, .second, lv q2, .second, lv q3, .second, iv p4, lv x2, .second, lv x4, .second, lv x6, .second, lv x8, .second, lv x10, .second, lv x12, .second, lv x14, .second, lv x16, .second, rv b81, .unset, .unset, .unset, .unset, .unset, .unset, .unset, .unset] [(.ref b97)])) _
      refine mdup 148 G97 at_147 rfl rfl ?_
      refine miconst 149 G97 at_148 (v := (2 : Int32)) rfl rfl ?_
      refine maload 151 G97 at_149 rfl rfl rfl ?_
      refine st99.trans ?_
      show Steps p.tables e below (T99.setTop (mkF m 154 #[lv q0, .second, lv q1, .second, lv q2, .second, lv q3, .second, iv p4, lv x2, .second, lv x4, .second, lv x6, .second, lv x8, .second, lv x10, .second, lv x12, .second, lv x14, .second, lv x16, .second, rv b81, .unset, .unset, .unset, .unset, .unset, .unset, .unset, .unset] [(.ref b97)])) _
      refine mastore 156 G99 at_154 rfl #[lv q0, .second, lv q1, .second, lv q2, .second, lv q3, .second, iv p4, lv x2, .second, lv x4, .second, lv x6, .second, lv x8, .second, lv x10, .second, lv x12, .second, lv x14, .second, lv x16, .second, rv b81, rv b97, .unset, .unset, .unset, .unset, .unset, .unset, .unset] rfl rfl ?_
      refine maload 158 G99 at_156 rfl rfl rfl ?_
      refine st111.trans ?_
      show Steps p.tables e below (T111.setTop (mkF m 161 #[lv q0, .second, lv q1, .second, lv q2, .second, lv q3, .second, iv p4, lv x2, .second, lv x4, .second, lv x6, .second, lv x8, .second, lv x10, .second, lv x12, .second, lv x14, .second, lv x16, .second, rv b81, rv b97, .unset, .unset, .unset, .unset, .unset, .unset, .unset] [(.int (rv13 (FP.l2d x8) (FP.l2d x8) x82))])) _
      refine castTop (g' := (mkF m 161 #[lv q0, .second, lv q1, .second, lv q2, .second, lv q3, .second, iv p4, lv x2, .second, lv x4, .second, lv x6, .second, lv x8, .second, lv x10, .second, lv x12, .second, lv x14, .second, lv x16, .second, rv b81, rv b97, .unset, .unset, .unset, .unset, .unset, .unset, .unset] [(.int (1 : Int32))])) (by rw [hend]) ?_
      exact retN X111 hx (t := .boolean) Bd.returns (by simp) (hb hby at_161) hr
    · show Q0 Z q0 q1 q2 q3 p4 h0 n0 _ T111.heap _
      rw [e111]
      exact ⟨rfl, N99⟩
set_option maxRecDepth 65536 in
set_option maxHeartbeats 40000000 in
theorem comes_1 {Post : Tables → Env → Array Value → State → Outcome → State → Prop} (hpost : ∀ tb e args s v u, (limb_1_1.after args s (.returned v) u = true ∧ limb_1_2.after args s (.returned v) u = true ∧ True) → FrameEnd s (.returned v) u (Jvm.fieldLocs frame_1_writes args s ++ Jvm.arrayLocs frame_1_arrays args s ++ Jvm.staticLocs frame_1_statics s) 24 192 → Post tb e args s (.returned v) u) :
    ArmFor flags0 classFile x code maxLocals ret World_1 tables_1 room_1 Calls_1 rest_1 Pre_1 Post := by
  intro l hfl _ _ p e ha hc hk s m args below hf hA hF happ hP
  obtain ⟨hcalls, hrest, hpre⟩ := hP
  obtain ⟨-, -, -, hnamed, -, -, -, hat⟩ := (Spec.applies_iff hf).mp happ
  obtain ⟨hg, hn⟩ := and_e (Cond.before_iff.mp (show (Jvm.Cond.and given_1 narrow_1).before args s = true from hpre))
  obtain ⟨g1, g2⟩ := and_e hg
  obtain ⟨g3, g4⟩ := and_e g2
  obtain ⟨g5, g6⟩ := and_e g4
  obtain ⟨g7, g8⟩ := and_e g6
  obtain ⟨g9, g10⟩ := and_e g8
  obtain ⟨w0, w1, w2, w3, w4, rfl⟩ : ∃ w0 w1 w2 w3 w4 : Value, args = #[w0, w1, w2, w3, w4] := by
    have hs : args.size = 5 := by simpa [Cond.value, given_1] using g1
    obtain ⟨L⟩ := args
    match L, hs with
    | [w0, w1, w2, w3, w4], _ => exact ⟨w0, w1, w2, w3, w4, rfl⟩
  have hw := fun d (hd : d ∈ tables_1) => atoms_spec (ws := Jvm.Cond.code x code maxLocals ret :: tables_1) hat d (List.mem_cons_of_mem _ hd)
  have hfit : Fit s := fun {y c} hc i hi => by
    obtain ⟨ha, rfl⟩ := Array.getElem?_eq_some_iff.mp hc
    have q := List.all_eq_true.mp ((Array.all_eq_true_iff_forall_mem.mp hF) _ (Array.getElem_mem ha)) i (List.mem_range.mpr hi)
    simpa [Array.getElem?_eq_getElem hi] using q
  obtain ⟨i0, ei0⟩ := isL_v g3
  obtain rfl : w0 = (.long i0) := Option.some.inj ei0
  obtain ⟨i1, ei1⟩ := isL_v g5
  obtain rfl : w1 = (.long i1) := Option.some.inj ei1
  obtain ⟨i2, ei2⟩ := isL_v g7
  obtain rfl : w2 = (.long i2) := Option.some.inj ei2
  obtain ⟨i3, ei3⟩ := isL_v g9
  obtain rfl : w3 = (.long i3) := Option.some.inj ei3
  obtain ⟨i4, ei4⟩ := is_v g10
  obtain rfl : w4 = (.int i4) := Option.some.inj ei4
  obtain ⟨n, o, h1, h2, h3, _, L, rfl, ⟨rfl, N⟩, hq⟩ := rm0 l s _ hw tables_1 i0 i1 i2 i3 i4 s.heap s.heap.size (Nat.le_refl _)  p e ha hc hk s m _ below hf ((Spec.applies_iff_loose hf).mp happ).1 ⟨rfl, State.Warmed39.refl s, rfl⟩ trivial
  refine ⟨n, _, h1, h2, h3, hpost _ _ _ _ _ _ ⟨Cond.after_iff.mpr rfl, Cond.after_iff.mpr (eq_i res_at (Term.int_eval (1)) rfl), trivial⟩ ⟨hq.1, hq.2.1, (hq.2.2.sift fun y hy => Or.inr (N y hy)).mono (by decide) (by decide)⟩⟩
theorem main_1_1 : Claimed_1_1 := comes_1 fun _ _ _ _ _ _ h hF => ⟨h.1, hF⟩
theorem main_1_2 : Claimed_1_2 := comes_1 fun _ _ _ _ _ _ h hF => ⟨h.2.1, hF⟩
end Jvm.Pilot.@@N@@
namespace Jvm.Pilot.@@N@@
open Jvm Jvm.ClassFile Sem Op Lib Jvm.Free Jvm.Stand Jvm.Pilot.@@N@@.Jvm.D
/-! MADE BY PROGRAM (witnessworld.py) out of the Statement's table words and the real class files: 18 classes; the members and pool entries that the words name. The judged class is class 1, her method 2. -/
namespace start1
open Jvm.ClassFile
def u (s : String) : CpInfo := .utf8 (stringToUtf16 s)
/-- a pool by its gaps: so many unusable entries, then the entry; so many at the end -/
def gap : Nat → List CpInfo → List CpInfo
  | 0, r => r
  | n + 1, r => .unusable :: gap n r
def poolList (es : List (Nat × CpInfo)) (last : Nat) : List CpInfo := es.foldr (fun e r => gap e.1 (e.2 :: r)) (gap last [])
def pool (es : List (Nat × CpInfo)) (last : Nat) : Array CpInfo := ⟨poolList es last⟩
def fileOf (pool : Array CpInfo) (this : Nat) (attrs : Array Attribute := #[]) (ms : Array MethodInfo := #[]) (fl : Nat := 33) (sup : Nat := 0) (ifs : Array Nat := #[]) (fds : Array FieldInfo := #[]) : ClassFile where
  minorVersion := 0
  majorVersion := 65
  constantPool := pool
  accessFlags := fl
  thisClass := this
  superClass := sup
  interfaces := ifs
  fields := fds
  methods := ms
  attributes := attrs
def plain (name : String) (sup : Option ClassId) : Class where
  name := name
  kind := .ordinary
  loader := none
  accessFlags := 33
  super := sup
  interfaces := #[]
  cf := none
  fields := #[]
  methods := #[]
  instanceTypes := #[]
  staticTypes := #[]
  resolved := #[]
  callSites := []
  init := .initialized
  statics := none
  mirror := none

def pool0 : Array CpInfo := pool [(5, u "<init>"), (0, u "()V"), (1, .class_ 10), (1, u "java/lang/Object")] 113

def k0c0 : Code := { maxStack := 0, maxLocals := 1, code := object_method_1_code, exceptionTable := #[], attributes := #[] }
def k0m0 : Method := { name := "<init>", desc := "()V", sig := { parameters := [], returnType := none }, accessFlags := 1, code := some k0c0 }
/-- java/lang/Object -/
def k0 : Class := { plain "java/lang/Object" none with
  accessFlags := 33
  interfaces := #[]
  cf := some (fileOf pool0 8 #[] #[{ accessFlags := 1, nameIndex := 5, descriptorIndex := 6, attributes := #[] }] 33 0 #[] #[])
  fields := #[]
  methods := #[k0m0]
  instanceTypes := #[]
  staticTypes := #[]
  resolved := Array.replicate 124 none
  statics := none }

def pool1 : Array CpInfo := pool [(2, .class_ 4), (1, u "java/lang/Object"), (0, u "<init>"), (0, u "()V"), (0, .long 2147483647), (1, .long 3), (1, .methodref 12 13), (0, .class_ 14), (0, .nameAndType 15 16), (0, u "com/example/tempe/tempe/estimate/CountBracketSettledPinLaw"), (0, u "cell"), (0, u "(JII)J"), (0, .class_ 18), (0, u "com/example/tempe/tempe/estimate/CountBracket"), (0, .methodref 17 20), (0, .nameAndType 5 21), (0, u "(I[J)V"), (0, .methodref 17 23), (0, .nameAndType 24 25), (0, u "settled"), (0, u "()Z"), (0, .methodref 27 28), (0, .class_ 29), (0, .nameAndType 30 31), (0, u "java/lang/Math"), (0, u "min"), (0, u "(JJ)J"), (0, .double 4517329193108106637), (4, u "law"), (0, u "(JJJJI)Z")] 4

def k1m0 : Method := { name := "<init>", desc := "()V", sig := { parameters := [], returnType := none }, accessFlags := 1, code := none }
def k1c1 : Code := { maxStack := 4, maxLocals := 6, code := method_2_code, exceptionTable := #[], attributes := #[] }
def k1m1 : Method := { name := "cell", desc := "(JII)J", sig := { parameters := [.long, .int, .int], returnType := some .long }, accessFlags := 10, code := some k1c1 }
def k1c2 : Code := { maxStack := 6, maxLocals := 34, code := code, exceptionTable := #[], attributes := #[] }
def k1m2 : Method := { name := "law", desc := "(JJJJI)Z", sig := { parameters := [.long, .long, .long, .long, .int], returnType := some .boolean }, accessFlags := 9, code := some k1c2 }
/-- com/example/tempe/tempe/estimate/CountBracketSettledPinLaw -/
def k1 : Class := { plain "com/example/tempe/tempe/estimate/CountBracketSettledPinLaw" (some 0) with
  accessFlags := 49
  interfaces := #[]
  cf := some (fileOf pool1 12 #[] #[{ accessFlags := 1, nameIndex := 5, descriptorIndex := 6, attributes := #[] }, { accessFlags := 10, nameIndex := 15, descriptorIndex := 16, attributes := #[] }, { accessFlags := 9, nameIndex := 37, descriptorIndex := 38, attributes := #[] }] 49 2 #[] #[])
  fields := #[]
  methods := #[k1m0, k1m1, k1m2]
  instanceTypes := #[]
  staticTypes := #[]
  resolved := Array.replicate 43 none
  statics := none }

def pool2 : Array CpInfo := pool [(1, .class_ 2), (0, u "java/lang/Math"), (1, .class_ 6), (1, u "java/lang/Object"), (0, u "<init>"), (0, u "()V"), (89, .class_ 100), (1, u "java/lang/Math$RandomNumberGeneratorHolder"), (20, u "(JJ)J"), (50, u "negativeZeroFloatBits"), (0, u "J"), (2, u "negativeZeroDoubleBits"), (21, u "max"), (2, u "min"), (43, u "$assertionsDisabled"), (0, u "Z"), (91, u "twoToTheDoubleScaleDown"), (0, u "D"), (4, u "twoToTheDoubleScaleUp"), (9, u "E"), (3, u "PI"), (2, u "TAU"), (2, u "DEGREES_TO_RADIANS"), (0, u "RADIANS_TO_DEGREES"), (27, u "addExact"), (0, u "subtractExact")] 65

def k2m0 : Method := { name := "<init>", desc := "()V", sig := { parameters := [], returnType := none }, accessFlags := 2, code := none }
def k2c1 : Code := { maxStack := 6, maxLocals := 6, code := jdk_29_method_25_code, exceptionTable := #[], attributes := #[] }
def k2m1 : Method := { name := "addExact", desc := "(JJ)J", sig := { parameters := [.long, .long], returnType := some .long }, accessFlags := 9, code := some k2c1 }
def k2c2 : Code := { maxStack := 6, maxLocals := 6, code := jdk_29_method_27_code, exceptionTable := #[], attributes := #[] }
def k2m2 : Method := { name := "subtractExact", desc := "(JJ)J", sig := { parameters := [.long, .long], returnType := some .long }, accessFlags := 9, code := some k2c2 }
def k2c3 : Code := { maxStack := 4, maxLocals := 4, code := jdk_29_method_66_code, exceptionTable := #[], attributes := #[] }
def k2m3 : Method := { name := "max", desc := "(JJ)J", sig := { parameters := [.long, .long], returnType := some .long }, accessFlags := 9, code := some k2c3 }
def k2c4 : Code := { maxStack := 4, maxLocals := 4, code := jdk_29_method_70_code, exceptionTable := #[], attributes := #[] }
def k2m4 : Method := { name := "min", desc := "(JJ)J", sig := { parameters := [.long, .long], returnType := some .long }, accessFlags := 9, code := some k2c4 }
/-- java/lang/Math -/
def k2 : Class := { plain "java/lang/Math" (some 0) with
  accessFlags := 49
  interfaces := #[]
  cf := some (fileOf pool2 1 #[.nestMembers #[98]] #[{ accessFlags := 2, nameIndex := 7, descriptorIndex := 8, attributes := #[] }, { accessFlags := 9, nameIndex := 393, descriptorIndex := 121, attributes := #[] }, { accessFlags := 9, nameIndex := 394, descriptorIndex := 121, attributes := #[] }, { accessFlags := 9, nameIndex := 198, descriptorIndex := 121, attributes := #[] }, { accessFlags := 9, nameIndex := 201, descriptorIndex := 121, attributes := #[] }] 49 4 #[] #[{ accessFlags := 25, nameIndex := 354, descriptorIndex := 339, attributes := #[] }, { accessFlags := 25, nameIndex := 358, descriptorIndex := 339, attributes := #[] }, { accessFlags := 25, nameIndex := 361, descriptorIndex := 339, attributes := #[] }, { accessFlags := 26, nameIndex := 364, descriptorIndex := 339, attributes := #[] }, { accessFlags := 26, nameIndex := 365, descriptorIndex := 339, attributes := #[] }, { accessFlags := 26, nameIndex := 172, descriptorIndex := 173, attributes := #[] }, { accessFlags := 26, nameIndex := 176, descriptorIndex := 173, attributes := #[] }, { accessFlags := 8, nameIndex := 344, descriptorIndex := 339, attributes := #[] }, { accessFlags := 8, nameIndex := 338, descriptorIndex := 339, attributes := #[] }, { accessFlags := 4120, nameIndex := 245, descriptorIndex := 246, attributes := #[] }])
  fields := #[{ name := "E", type := .double, accessFlags := 25, slot := 0, constantValue := 0 }, { name := "PI", type := .double, accessFlags := 25, slot := 1, constantValue := 0 }, { name := "TAU", type := .double, accessFlags := 25, slot := 2, constantValue := 0 }, { name := "DEGREES_TO_RADIANS", type := .double, accessFlags := 26, slot := 3, constantValue := 0 }, { name := "RADIANS_TO_DEGREES", type := .double, accessFlags := 26, slot := 4, constantValue := 0 }, { name := "negativeZeroFloatBits", type := .long, accessFlags := 26, slot := 5, constantValue := 0 }, { name := "negativeZeroDoubleBits", type := .long, accessFlags := 26, slot := 6, constantValue := 0 }, { name := "twoToTheDoubleScaleUp", type := .double, accessFlags := 8, slot := 7, constantValue := 0 }, { name := "twoToTheDoubleScaleDown", type := .double, accessFlags := 8, slot := 8, constantValue := 0 }, { name := "$assertionsDisabled", type := .boolean, accessFlags := 4120, slot := 9, constantValue := 0 }]
  methods := #[k2m0, k2m1, k2m2, k2m3, k2m4]
  instanceTypes := #[]
  staticTypes := #[.double, .double, .double, .double, .double, .long, .long, .double, .double, .boolean]
  resolved := Array.replicate 460 none
  statics := none }

def pool3 : Array CpInfo := pool [(1, .methodref 2 3), (0, .class_ 4), (0, .nameAndType 5 6), (0, u "java/lang/Object"), (0, u "<init>"), (0, u "()V"), (0, .fieldref 8 9), (0, .class_ 10), (0, .nameAndType 11 12), (0, u "com/example/tempe/tempe/estimate/CountBracket"), (0, u "words"), (0, u "I"), (0, .fieldref 8 14), (0, .nameAndType 15 16), (0, u "counts"), (0, u "[J"), (0, .fieldref 8 18), (0, .nameAndType 19 20), (0, u "documents"), (0, u "J"), (0, .methodref 22 23), (0, .class_ 24), (0, .nameAndType 25 26), (0, u "com/example/tempe/tempe/estimate/Fit"), (0, u "checkPairs"), (0, u "(I[J)V"), (0, .methodref 8 28), (0, .nameAndType 29 30), (0, u "range"), (0, u "(I[J)[J"), (0, .fieldref 8 32), (0, .nameAndType 33 34), (0, u "lower"), (0, u "D"), (0, .fieldref 8 36), (0, .nameAndType 37 34), (0, u "upper"), (0, .fieldref 8 39), (0, .nameAndType 40 41), (0, u "closed"), (0, u "Z"), (2, u "fitted"), (2, .double 4517329193108106637), (3, u "settled"), (0, u "()Z"), (9, u "fit"), (0, u "Lcom/example/tempe/tempe/estimate/Fit;"), (20, .class_ 86), (1, u "java/lang/Math"), (18, u "min"), (3, u "max"), (0, .methodref 111 112), (0, .class_ 113), (0, .nameAndType 114 115), (0, u "java/lang/Integer"), (0, u "bitCount"), (0, u "(I)I"), (2, .long 9223372036854775807), (1, .methodref 8 121), (0, .nameAndType 122 123), (0, u "highestRest"), (0, u "(II[J[J)J"), (0, .methodref 84 125), (0, .nameAndType 109 126), (0, u "(JJ)J"), (0, .methodref 84 128), (0, .nameAndType 105 126), (7, .methodref 84 137), (0, .nameAndType 138 126), (0, u "addExact"), (0, .methodref 84 140), (0, .nameAndType 141 126), (0, u "subtractExact"), (0, u "WIDTH")] 9

def k3c0 : Code := { maxStack := 3, maxLocals := 4, code := prog_7_method_1_code, exceptionTable := #[], attributes := #[] }
def k3m0 : Method := { name := "<init>", desc := "(I[J)V", sig := { parameters := [.int, (.array .long)], returnType := none }, accessFlags := 0, code := some k3c0 }
def k3c1 : Code := { maxStack := 6, maxLocals := 1, code := prog_7_method_5_code, exceptionTable := #[], attributes := #[] }
def k3m1 : Method := { name := "settled", desc := "()Z", sig := { parameters := [], returnType := some .boolean }, accessFlags := 1, code := some k3c1 }
def k3c2 : Code := { maxStack := 6, maxLocals := 13, code := prog_7_method_8_code, exceptionTable := #[{ startPc := 68, endPc := 117, handlerPc := 120, catchType := 129 }], attributes := #[] }
def k3m2 : Method := { name := "range", desc := "(I[J)[J", sig := { parameters := [.int, (.array .long)], returnType := some (.array .long) }, accessFlags := 10, code := some k3c2 }
def k3c3 : Code := { maxStack := 4, maxLocals := 9, code := prog_7_method_9_code, exceptionTable := #[], attributes := #[] }
def k3m3 : Method := { name := "highestRest", desc := "(II[J[J)J", sig := { parameters := [.int, .int, (.array .long), (.array .long)], returnType := some .long }, accessFlags := 10, code := some k3c3 }
/-- com/example/tempe/tempe/estimate/CountBracket -/
def k3 : Class := { plain "com/example/tempe/tempe/estimate/CountBracket" (some 0) with
  accessFlags := 33
  interfaces := #[]
  cf := some (fileOf pool3 8 #[] #[{ accessFlags := 0, nameIndex := 5, descriptorIndex := 26, attributes := #[] }, { accessFlags := 1, nameIndex := 51, descriptorIndex := 52, attributes := #[] }, { accessFlags := 10, nameIndex := 29, descriptorIndex := 30, attributes := #[] }, { accessFlags := 10, nameIndex := 122, descriptorIndex := 123, attributes := #[] }] 33 2 #[] #[{ accessFlags := 25, nameIndex := 142, descriptorIndex := 34, attributes := #[] }, { accessFlags := 18, nameIndex := 11, descriptorIndex := 12, attributes := #[] }, { accessFlags := 18, nameIndex := 15, descriptorIndex := 16, attributes := #[] }, { accessFlags := 18, nameIndex := 19, descriptorIndex := 20, attributes := #[] }, { accessFlags := 2, nameIndex := 62, descriptorIndex := 63, attributes := #[] }, { accessFlags := 2, nameIndex := 33, descriptorIndex := 34, attributes := #[] }, { accessFlags := 2, nameIndex := 37, descriptorIndex := 34, attributes := #[] }, { accessFlags := 2, nameIndex := 40, descriptorIndex := 41, attributes := #[] }, { accessFlags := 2, nameIndex := 44, descriptorIndex := 34, attributes := #[] }])
  fields := #[{ name := "WIDTH", type := .double, accessFlags := 25, slot := 0, constantValue := 0 }, { name := "words", type := .int, accessFlags := 18, slot := 0, constantValue := 0 }, { name := "counts", type := (.array .long), accessFlags := 18, slot := 1, constantValue := 0 }, { name := "documents", type := .long, accessFlags := 18, slot := 2, constantValue := 0 }, { name := "fit", type := (.object "com/example/tempe/tempe/estimate/Fit"), accessFlags := 2, slot := 3, constantValue := 0 }, { name := "lower", type := .double, accessFlags := 2, slot := 4, constantValue := 0 }, { name := "upper", type := .double, accessFlags := 2, slot := 5, constantValue := 0 }, { name := "closed", type := .boolean, accessFlags := 2, slot := 6, constantValue := 0 }, { name := "fitted", type := .double, accessFlags := 2, slot := 7, constantValue := 0 }]
  methods := #[k3m0, k3m1, k3m2, k3m3]
  instanceTypes := #[.int, (.array .long), .long, (.object "com/example/tempe/tempe/estimate/Fit"), .double, .double, .boolean, .double]
  staticTypes := #[.double]
  resolved := Array.replicate 152 none
  statics := none }

def pool4 : Array CpInfo := pool [(2, .class_ 4), (1, u "java/lang/Object"), (7, .class_ 14), (1, u "com/example/tempe/tempe/estimate/Fit"), (0, u "certifiedShare"), (0, u "D"), (4, u "certifiedGap"), (2, u "words"), (0, u "I"), (2, u "counts"), (0, u "[J"), (2, u "certifies"), (0, u "Z"), (2, u "sets"), (0, u "[I"), (2, u "shares"), (0, u "[D"), (2, u "table"), (12, .methodref 12 58), (0, .nameAndType 59 60), (0, u "pairGroups"), (0, u "([JII)[J"), (15, u "state"), (0, u "Lcom/example/tempe/tempe/estimate/Fit$State;"), (1, .class_ 81), (1, u "com/example/tempe/tempe/estimate/Fit$State"), (11, u "steps"), (2, u "exact"), (89, u "NO_TABLE"), (0, u "Ljava/lang/String;"), (1, u "TOLERANCE"), (0, u "PATIENCE"), (1, u "MAX_STEPS"), (1, u "SMALLEST_PART"), (0, u "DAMPING"), (7, u "checkPairs"), (0, u "(I[J)V")] 26

def k4c0 : Code := { maxStack := 3, maxLocals := 4, code := prog_9_method_2_code, exceptionTable := #[], attributes := #[] }
def k4m0 : Method := { name := "checkPairs", desc := "(I[J)V", sig := { parameters := [.int, (.array .long)], returnType := none }, accessFlags := 8, code := some k4c0 }
def k4c1 : Code := { maxStack := 6, maxLocals := 11, code := prog_9_method_3_code, exceptionTable := #[], attributes := #[] }
def k4m1 : Method := { name := "pairGroups", desc := "([JII)[J", sig := { parameters := [(.array .long), .int, .int], returnType := some (.array .long) }, accessFlags := 10, code := some k4c1 }
/-- com/example/tempe/tempe/estimate/Fit -/
def k4 : Class := { plain "com/example/tempe/tempe/estimate/Fit" (some 0) with
  accessFlags := 32
  interfaces := #[]
  cf := some (fileOf pool4 12 #[.nestMembers #[79]] #[{ accessFlags := 8, nameIndex := 203, descriptorIndex := 204, attributes := #[] }, { accessFlags := 10, nameIndex := 59, descriptorIndex := 60, attributes := #[] }] 32 2 #[] #[{ accessFlags := 24, nameIndex := 186, descriptorIndex := 187, attributes := #[] }, { accessFlags := 26, nameIndex := 189, descriptorIndex := 16, attributes := #[] }, { accessFlags := 26, nameIndex := 190, descriptorIndex := 25, attributes := #[] }, { accessFlags := 26, nameIndex := 192, descriptorIndex := 25, attributes := #[] }, { accessFlags := 26, nameIndex := 194, descriptorIndex := 16, attributes := #[] }, { accessFlags := 26, nameIndex := 195, descriptorIndex := 16, attributes := #[] }, { accessFlags := 18, nameIndex := 24, descriptorIndex := 25, attributes := #[] }, { accessFlags := 18, nameIndex := 28, descriptorIndex := 29, attributes := #[] }, { accessFlags := 18, nameIndex := 36, descriptorIndex := 37, attributes := #[] }, { accessFlags := 18, nameIndex := 40, descriptorIndex := 41, attributes := #[] }, { accessFlags := 18, nameIndex := 44, descriptorIndex := 41, attributes := #[] }, { accessFlags := 18, nameIndex := 32, descriptorIndex := 33, attributes := #[] }, { accessFlags := 2, nameIndex := 96, descriptorIndex := 33, attributes := #[] }, { accessFlags := 2, nameIndex := 93, descriptorIndex := 25, attributes := #[] }, { accessFlags := 2, nameIndex := 76, descriptorIndex := 77, attributes := #[] }, { accessFlags := 2, nameIndex := 15, descriptorIndex := 16, attributes := #[] }, { accessFlags := 2, nameIndex := 21, descriptorIndex := 16, attributes := #[] }])
  fields := #[{ name := "NO_TABLE", type := (.object "java/lang/String"), accessFlags := 24, slot := 0, constantValue := 0 }, { name := "TOLERANCE", type := .double, accessFlags := 26, slot := 1, constantValue := 0 }, { name := "PATIENCE", type := .int, accessFlags := 26, slot := 2, constantValue := 0 }, { name := "MAX_STEPS", type := .int, accessFlags := 26, slot := 3, constantValue := 0 }, { name := "SMALLEST_PART", type := .double, accessFlags := 26, slot := 4, constantValue := 0 }, { name := "DAMPING", type := .double, accessFlags := 26, slot := 5, constantValue := 0 }, { name := "words", type := .int, accessFlags := 18, slot := 0, constantValue := 0 }, { name := "counts", type := (.array .long), accessFlags := 18, slot := 1, constantValue := 0 }, { name := "sets", type := (.array .int), accessFlags := 18, slot := 2, constantValue := 0 }, { name := "shares", type := (.array .double), accessFlags := 18, slot := 3, constantValue := 0 }, { name := "table", type := (.array .double), accessFlags := 18, slot := 4, constantValue := 0 }, { name := "certifies", type := .boolean, accessFlags := 18, slot := 5, constantValue := 0 }, { name := "exact", type := .boolean, accessFlags := 2, slot := 6, constantValue := 0 }, { name := "steps", type := .int, accessFlags := 2, slot := 7, constantValue := 0 }, { name := "state", type := (.object "com/example/tempe/tempe/estimate/Fit$State"), accessFlags := 2, slot := 8, constantValue := 0 }, { name := "certifiedShare", type := .double, accessFlags := 2, slot := 9, constantValue := 0 }, { name := "certifiedGap", type := .double, accessFlags := 2, slot := 10, constantValue := 0 }]
  methods := #[k4m0, k4m1]
  instanceTypes := #[.int, (.array .long), (.array .int), (.array .double), (.array .double), .boolean, .boolean, .int, (.object "com/example/tempe/tempe/estimate/Fit$State"), .double, .double]
  staticTypes := #[(.object "java/lang/String"), .double, .int, .int, .double, .double]
  resolved := Array.replicate 231 none
  statics := none }

def pool5 : Array CpInfo := pool [(1, .class_ 2), (0, u "java/io/Serializable"), (0, .class_ 4), (0, u "java/lang/Object")] 2

/-- java/io/Serializable -/
def k5 : Class := { plain "java/io/Serializable" (some 0) with
  accessFlags := 1537
  interfaces := #[]
  cf := some (fileOf pool5 1 #[] #[] 1537 3 #[] #[])
  fields := #[]
  methods := #[]
  instanceTypes := #[]
  staticTypes := #[]
  resolved := Array.replicate 7 none
  statics := none }

def pool6 : Array CpInfo := pool [(2, .class_ 4), (1, u "java/lang/Object"), (0, u "<init>"), (0, u "()V"), (1, .class_ 10), (1, u "java/lang/Number"), (2, .class_ 14), (0, u "java/io/Serializable"), (0, u "serialVersionUID"), (0, u "J")] 20

def k6m0 : Method := { name := "<init>", desc := "()V", sig := { parameters := [], returnType := none }, accessFlags := 1, code := none }
/-- java/lang/Number -/
def k6 : Class := { plain "java/lang/Number" (some 0) with
  accessFlags := 1057
  interfaces := #[5]
  cf := some (fileOf pool6 8 #[] #[{ accessFlags := 1, nameIndex := 5, descriptorIndex := 6, attributes := #[] }] 1057 2 #[13] #[{ accessFlags := 26, nameIndex := 15, descriptorIndex := 16, attributes := #[] }])
  fields := #[{ name := "serialVersionUID", type := .long, accessFlags := 26, slot := 0, constantValue := 0 }]
  methods := #[k6m0]
  instanceTypes := #[]
  staticTypes := #[.long]
  resolved := Array.replicate 37 none
  statics := none }

def pool7 : Array CpInfo := pool [(1, .class_ 2), (0, u "java/lang/Comparable"), (0, .class_ 4), (0, u "java/lang/Object")] 7

/-- java/lang/Comparable -/
def k7 : Class := { plain "java/lang/Comparable" (some 0) with
  accessFlags := 1537
  interfaces := #[]
  cf := some (fileOf pool7 1 #[] #[] 1537 3 #[] #[])
  fields := #[]
  methods := #[]
  instanceTypes := #[]
  staticTypes := #[]
  resolved := Array.replicate 12 none
  statics := none }

def pool8 : Array CpInfo := pool [(1, .class_ 2), (0, u "java/lang/constant/Constable"), (0, .class_ 4), (0, u "java/lang/Object")] 6

/-- java/lang/constant/Constable -/
def k8 : Class := { plain "java/lang/constant/Constable" (some 0) with
  accessFlags := 1537
  interfaces := #[]
  cf := some (fileOf pool8 1 #[] #[] 1537 3 #[] #[])
  fields := #[]
  methods := #[]
  instanceTypes := #[]
  staticTypes := #[]
  resolved := Array.replicate 11 none
  statics := none }

def pool9 : Array CpInfo := pool [(1, .class_ 2), (0, u "java/lang/constant/ConstantDesc"), (0, .class_ 4), (0, u "java/lang/Object")] 32

/-- java/lang/constant/ConstantDesc -/
def k9 : Class := { plain "java/lang/constant/ConstantDesc" (some 0) with
  accessFlags := 1537
  interfaces := #[]
  cf := some (fileOf pool9 1 #[] #[] 1537 3 #[] #[])
  fields := #[]
  methods := #[]
  instanceTypes := #[]
  staticTypes := #[]
  resolved := Array.replicate 37 none
  statics := none }

def pool10 : Array CpInfo := pool [(1, .class_ 2), (0, u "java/lang/Integer"), (16, u "digits"), (0, u "[C"), (33, u "(I)I"), (30, u "DigitOnes"), (0, u "[B"), (2, u "DigitTens"), (99, .class_ 190), (0, u "java/lang/Integer$IntegerCache"), (3, u "I"), (8, .class_ 204), (0, u "java/lang/Number"), (2, u "value"), (57, .integer 1431655765), (0, .integer 858993459), (0, .integer 252645135), (34, u "TYPE"), (0, u "Ljava/lang/Class;"), (0, .class_ 305), (0, u "java/lang/Comparable"), (0, .class_ 307), (0, u "java/lang/constant/Constable"), (0, .class_ 309), (0, u "java/lang/constant/ConstantDesc"), (0, u "MIN_VALUE"), (1, u "MAX_VALUE"), (3, u "SIZE"), (1, u "BYTES"), (1, u "serialVersionUID"), (0, u "J"), (85, u "bitCount")] 45

def k10c0 : Code := { maxStack := 3, maxLocals := 1, code := jdk_33_method_49_code, exceptionTable := #[], attributes := #[] }
def k10m0 : Method := { name := "bitCount", desc := "(I)I", sig := { parameters := [.int], returnType := some .int }, accessFlags := 9, code := some k10c0 }
/-- java/lang/Integer -/
def k10 : Class := { plain "java/lang/Integer" (some 6) with
  accessFlags := 49
  interfaces := #[7, 8, 9]
  cf := some (fileOf pool10 1 #[.nestMembers #[189]] #[{ accessFlags := 9, nameIndex := 407, descriptorIndex := 54, attributes := #[] }] 49 203 #[304, 306, 308] #[{ accessFlags := 25, nameIndex := 310, descriptorIndex := 194, attributes := #[] }, { accessFlags := 25, nameIndex := 312, descriptorIndex := 194, attributes := #[] }, { accessFlags := 25, nameIndex := 302, descriptorIndex := 303, attributes := #[] }, { accessFlags := 24, nameIndex := 19, descriptorIndex := 20, attributes := #[] }, { accessFlags := 24, nameIndex := 89, descriptorIndex := 86, attributes := #[] }, { accessFlags := 24, nameIndex := 85, descriptorIndex := 86, attributes := #[] }, { accessFlags := 18, nameIndex := 207, descriptorIndex := 194, attributes := #[] }, { accessFlags := 25, nameIndex := 316, descriptorIndex := 194, attributes := #[] }, { accessFlags := 25, nameIndex := 318, descriptorIndex := 194, attributes := #[] }, { accessFlags := 26, nameIndex := 320, descriptorIndex := 321, attributes := #[] }])
  fields := #[{ name := "MIN_VALUE", type := .int, accessFlags := 25, slot := 0, constantValue := 0 }, { name := "MAX_VALUE", type := .int, accessFlags := 25, slot := 1, constantValue := 0 }, { name := "TYPE", type := (.object "java/lang/Class"), accessFlags := 25, slot := 2, constantValue := 0 }, { name := "digits", type := (.array .char), accessFlags := 24, slot := 3, constantValue := 0 }, { name := "DigitTens", type := (.array .byte), accessFlags := 24, slot := 4, constantValue := 0 }, { name := "DigitOnes", type := (.array .byte), accessFlags := 24, slot := 5, constantValue := 0 }, { name := "value", type := .int, accessFlags := 18, slot := 0, constantValue := 0 }, { name := "SIZE", type := .int, accessFlags := 25, slot := 6, constantValue := 0 }, { name := "BYTES", type := .int, accessFlags := 25, slot := 7, constantValue := 0 }, { name := "serialVersionUID", type := .long, accessFlags := 26, slot := 8, constantValue := 0 }]
  methods := #[k10m0]
  instanceTypes := #[.int]
  staticTypes := #[.int, .int, (.object "java/lang/Class"), (.array .char), (.array .byte), (.array .byte), .int, .int, .long]
  resolved := Array.replicate 453 none
  statics := none }

def pool11 : Array CpInfo := pool [(1, u "java/lang/Cloneable"), (0, .class_ 1), (0, u "java/lang/Object"), (0, .class_ 3)] 3

/-- java/lang/Cloneable -/
def k11 : Class := { plain "java/lang/Cloneable" (some 0) with
  accessFlags := 1537
  interfaces := #[]
  cf := some (fileOf pool11 2 #[] #[] 1537 4 #[] #[])
  fields := #[]
  methods := #[]
  instanceTypes := #[]
  staticTypes := #[]
  resolved := Array.replicate 8 none
  statics := none }

/-- the primitive byte -/
def k12 : Class := { plain "byte" none with kind := .primitive 'B', accessFlags := 0x411 }
/-- [B -/
def k13 : Class := { plain "[B" (some 0) with kind := .array 12 .byte, interfaces := #[11, 5], accessFlags := 1041 }

/-- the primitive int -/
def k14 : Class := { plain "int" none with kind := .primitive 'I', accessFlags := 0x411 }
/-- [I -/
def k15 : Class := { plain "[I" (some 0) with kind := .array 14 .int, interfaces := #[11, 5], accessFlags := 1041 }

/-- the primitive long -/
def k16 : Class := { plain "long" none with kind := .primitive 'J', accessFlags := 0x411 }
/-- [J -/
def k17 : Class := { plain "[J" (some 0) with kind := .array 16 .long, interfaces := #[11, 5], accessFlags := 1041 }

def heap : Heap := #[]
def classes : Array Class := #[k0, k1, k2, k3, k4, k5, k6, k7, k8, k9, k10, k11, k12, k13, k14, k15, k16, k17]
def interned : List (Array UInt16 × Addr) := []
def slotsUsed : Nat := 0
def theMethod : MethodId := ⟨1, 2⟩
def args0 : Array Value := #[.long 5, .long 5, .long 5, .long 5, .int 5]
def aboutOver (below : List Frame) : State where
  vm := { classes := classes, interned := interned.toArray }
  heap := heap
  slotsUsed := slotsUsed
  threads := #[{ frames := .invoking theMethod args0 :: below }]
def below0 : List Frame := [.native { method := ⟨0, 0⟩, args := #[] }]
def about1 : State := aboutOver below0
def p0 : Program := .bare "" "" ""
def e0 : Env := launch0.env 0 0 0
theorem w_frames : about1.frames = Frame.invoking theMethod args0 :: below0 := rfl
set_option maxRecDepth 65536 in
theorem w_args : argsFit about1.vm theMethod args0 = true := by decide +kernel
set_option maxRecDepth 65536 in
theorem w_heap : heapFits about1 = true := by decide +kernel
set_option maxRecDepth 65536 in
theorem w_runnable : about1.curStatus? = some .runnable := by decide +kernel
set_option maxRecDepth 65536 in
theorem w_alone : about1.alone = true := by decide +kernel
set_option maxRecDepth 65536 in
theorem w_named : about1.methodNamed? x = some theMethod := by decide +kernel
set_option maxRecDepth 65536 in
theorem w_hears : about1.hears theMethod below0 = true := by decide +kernel
set_option maxRecDepth 65536 in
theorem w_ripe : about1.ripe theMethod args0 below0 = true := by decide +kernel
theorem w_running : about1.status = .running := rfl
set_option maxRecDepth 65536 in
theorem w_room : about1.hasRoom e0.platform room_1 = true :=
  launch0.hasRoom_least _ room_1 (by decide +kernel) (by decide +kernel) (by decide +kernel) (by decide +kernel) (by decide +kernel) (by decide +kernel)
theorem allAtoms_all (ts : List Jvm.Cond) (a : Array Jvm.Value) (st : Jvm.State) : (allAtoms ts).before a st = ts.all (fun c => c.before a st) := by
  induction ts with
  | nil => rfl
  | cons c t ih =>
    show (Jvm.Cond.and c (allAtoms t)).before a st = _
    rw [Jvm.Cond.before_and, ih, List.all_cons]
def words1 : List Jvm.Cond := Jvm.Cond.code x code maxLocals ret :: tables_1
/-- a 'code' word, met by the world's own term for the bytes: nothing is compared byte by byte -/
theorem code_word {y : MethodName} {bytes : ByteArray} {mx : Nat} {rt : Option FieldType} {a : Array Value} {s : State} {m : MethodId} {meth : Method} {c : Code} (h1 : s.methodNamed? y = some m) (h2 : s.vm.method? m = some meth) (h3 : meth.code = some c) (h4 : c.code = bytes)
    (h5 : (c.maxLocals == mx && c.exceptionTable.isEmpty && decide (c.maxStack ≤ mostOperands) && decide (meth.sig.returnType = rt) && !meth.locks && decide (parseMethodDescriptor y.desc = some meth.sig)) = true) : (Jvm.Cond.code y bytes mx rt).before a s = true := by
  simp only [Bool.and_eq_true, beq_iff_eq, Bool.not_eq_true', decide_eq_true_eq] at h5
  obtain ⟨⟨⟨⟨⟨g1, g2⟩, g3⟩, g4⟩, g5⟩, g6⟩ := h5
  simp [Cond.before, Cond.holds, Cond.value, h1, h2, h3, h4, g1, g2, g3, g4, g5, g6]
def isCode : Jvm.Cond → Bool
  | .code _ _ _ _ => true
  | _ => false
theorem all_split {L : List Jvm.Cond} {P : Jvm.Cond → Bool} (h1 : L.all (fun c => isCode c || P c) = true) (h2 : ∀ c ∈ L.filter isCode, P c = true) : L.all P = true := by
  refine List.all_eq_true.mpr fun c hc => ?_
  have h := List.all_eq_true.mp h1 c hc
  rcases Bool.eq_false_or_eq_true (isCode c) with hi | hi
  · exact h2 c (List.mem_filter.mpr ⟨hc, hi⟩)
  · simpa [hi] using h
set_option maxRecDepth 65536 in
theorem w_c0 : (Jvm.Cond.code x code maxLocals ret).before args0 about1 = true := code_word (m := ⟨1, 2⟩) (meth := k1m2) (c := k1c2) (by decide +kernel) rfl rfl rfl (by decide +kernel)
set_option maxRecDepth 65536 in
theorem w_c1 : (Jvm.Cond.code ({ cls := "com/example/tempe/tempe/estimate/CountBracketSettledPinLaw", name := "cell", desc := "(JII)J" } : Jvm.MethodName) method_2_code (6 : Nat) (Option.some Jvm.ClassFile.FieldType.long)).before args0 about1 = true := code_word (m := ⟨1, 1⟩) (meth := k1m1) (c := k1c1) (by decide +kernel) rfl rfl rfl (by decide +kernel)
set_option maxRecDepth 65536 in
theorem w_c2 : (Jvm.Cond.code ({ cls := "java/lang/Math", name := "min", desc := "(JJ)J" } : Jvm.MethodName) jdk_29_method_70_code (4 : Nat) (Option.some Jvm.ClassFile.FieldType.long)).before args0 about1 = true := code_word (m := ⟨2, 4⟩) (meth := k2m4) (c := k2c4) (by decide +kernel) rfl rfl rfl (by decide +kernel)
set_option maxRecDepth 65536 in
theorem w_c3 : (Jvm.Cond.code ({ cls := "com/example/tempe/tempe/estimate/CountBracket", name := "<init>", desc := "(I[J)V" } : Jvm.MethodName) prog_7_method_1_code (4 : Nat) (Option.none : Option Jvm.ClassFile.FieldType)).before args0 about1 = true := code_word (m := ⟨3, 0⟩) (meth := k3m0) (c := k3c0) (by decide +kernel) rfl rfl rfl (by decide +kernel)
set_option maxRecDepth 65536 in
theorem w_c4 : (Jvm.Cond.code ({ cls := "java/lang/Object", name := "<init>", desc := "()V" } : Jvm.MethodName) object_method_1_code (1 : Nat) (Option.none : Option Jvm.ClassFile.FieldType)).before args0 about1 = true := code_word (m := ⟨0, 0⟩) (meth := k0m0) (c := k0c0) (by decide +kernel) rfl rfl rfl (by decide +kernel)
set_option maxRecDepth 65536 in
theorem w_c5 : (Jvm.Cond.code ({ cls := "com/example/tempe/tempe/estimate/Fit", name := "checkPairs", desc := "(I[J)V" } : Jvm.MethodName) prog_9_method_2_code (4 : Nat) (Option.none : Option Jvm.ClassFile.FieldType)).before args0 about1 = true := code_word (m := ⟨4, 0⟩) (meth := k4m0) (c := k4c0) (by decide +kernel) rfl rfl rfl (by decide +kernel)
set_option maxRecDepth 65536 in
theorem w_c6 : (Jvm.Cond.code ({ cls := "com/example/tempe/tempe/estimate/Fit", name := "pairGroups", desc := "([JII)[J" } : Jvm.MethodName) prog_9_method_3_code (11 : Nat) (Option.some (Jvm.ClassFile.FieldType.array Jvm.ClassFile.FieldType.long))).before args0 about1 = true := code_word (m := ⟨4, 1⟩) (meth := k4m1) (c := k4c1) (by decide +kernel) rfl rfl rfl (by decide +kernel)
set_option maxRecDepth 65536 in
theorem w_c7 : (Jvm.Cond.code ({ cls := "java/lang/Integer", name := "bitCount", desc := "(I)I" } : Jvm.MethodName) jdk_33_method_49_code (1 : Nat) (Option.some Jvm.ClassFile.FieldType.int)).before args0 about1 = true := code_word (m := ⟨10, 0⟩) (meth := k10m0) (c := k10c0) (by decide +kernel) rfl rfl rfl (by decide +kernel)
set_option maxRecDepth 65536 in
theorem w_c8 : (Jvm.Cond.code ({ cls := "com/example/tempe/tempe/estimate/CountBracket", name := "highestRest", desc := "(II[J[J)J" } : Jvm.MethodName) prog_7_method_9_code (9 : Nat) (Option.some Jvm.ClassFile.FieldType.long)).before args0 about1 = true := code_word (m := ⟨3, 3⟩) (meth := k3m3) (c := k3c3) (by decide +kernel) rfl rfl rfl (by decide +kernel)
set_option maxRecDepth 65536 in
theorem w_c9 : (Jvm.Cond.code ({ cls := "java/lang/Math", name := "addExact", desc := "(JJ)J" } : Jvm.MethodName) jdk_29_method_25_code (6 : Nat) (Option.some Jvm.ClassFile.FieldType.long)).before args0 about1 = true := code_word (m := ⟨2, 1⟩) (meth := k2m1) (c := k2c1) (by decide +kernel) rfl rfl rfl (by decide +kernel)
set_option maxRecDepth 65536 in
theorem w_c10 : (Jvm.Cond.code ({ cls := "java/lang/Math", name := "subtractExact", desc := "(JJ)J" } : Jvm.MethodName) jdk_29_method_27_code (6 : Nat) (Option.some Jvm.ClassFile.FieldType.long)).before args0 about1 = true := code_word (m := ⟨2, 2⟩) (meth := k2m2) (c := k2c2) (by decide +kernel) rfl rfl rfl (by decide +kernel)
set_option maxRecDepth 65536 in
theorem w_c11 : (Jvm.Cond.code ({ cls := "java/lang/Math", name := "max", desc := "(JJ)J" } : Jvm.MethodName) jdk_29_method_66_code (4 : Nat) (Option.some Jvm.ClassFile.FieldType.long)).before args0 about1 = true := code_word (m := ⟨2, 3⟩) (meth := k2m3) (c := k2c3) (by decide +kernel) rfl rfl rfl (by decide +kernel)
set_option maxRecDepth 65536 in
theorem w_c12 : (Jvm.Cond.code ({ cls := "com/example/tempe/tempe/estimate/CountBracket", name := "settled", desc := "()Z" } : Jvm.MethodName) prog_7_method_5_code (1 : Nat) (Option.some Jvm.ClassFile.FieldType.boolean)).before args0 about1 = true := code_word (m := ⟨3, 1⟩) (meth := k3m1) (c := k3c1) (by decide +kernel) rfl rfl rfl (by decide +kernel)
def codes1 : List Jvm.Cond := [Jvm.Cond.code x code maxLocals ret, Jvm.Cond.code ({ cls := "com/example/tempe/tempe/estimate/CountBracketSettledPinLaw", name := "cell", desc := "(JII)J" } : Jvm.MethodName) method_2_code (6 : Nat) (Option.some Jvm.ClassFile.FieldType.long), Jvm.Cond.code ({ cls := "java/lang/Math", name := "min", desc := "(JJ)J" } : Jvm.MethodName) jdk_29_method_70_code (4 : Nat) (Option.some Jvm.ClassFile.FieldType.long), Jvm.Cond.code ({ cls := "com/example/tempe/tempe/estimate/CountBracket", name := "<init>", desc := "(I[J)V" } : Jvm.MethodName) prog_7_method_1_code (4 : Nat) (Option.none : Option Jvm.ClassFile.FieldType), Jvm.Cond.code ({ cls := "java/lang/Object", name := "<init>", desc := "()V" } : Jvm.MethodName) object_method_1_code (1 : Nat) (Option.none : Option Jvm.ClassFile.FieldType), Jvm.Cond.code ({ cls := "com/example/tempe/tempe/estimate/Fit", name := "checkPairs", desc := "(I[J)V" } : Jvm.MethodName) prog_9_method_2_code (4 : Nat) (Option.none : Option Jvm.ClassFile.FieldType), Jvm.Cond.code ({ cls := "com/example/tempe/tempe/estimate/Fit", name := "pairGroups", desc := "([JII)[J" } : Jvm.MethodName) prog_9_method_3_code (11 : Nat) (Option.some (Jvm.ClassFile.FieldType.array Jvm.ClassFile.FieldType.long)), Jvm.Cond.code ({ cls := "java/lang/Integer", name := "bitCount", desc := "(I)I" } : Jvm.MethodName) jdk_33_method_49_code (1 : Nat) (Option.some Jvm.ClassFile.FieldType.int), Jvm.Cond.code ({ cls := "com/example/tempe/tempe/estimate/CountBracket", name := "highestRest", desc := "(II[J[J)J" } : Jvm.MethodName) prog_7_method_9_code (9 : Nat) (Option.some Jvm.ClassFile.FieldType.long), Jvm.Cond.code ({ cls := "java/lang/Math", name := "addExact", desc := "(JJ)J" } : Jvm.MethodName) jdk_29_method_25_code (6 : Nat) (Option.some Jvm.ClassFile.FieldType.long), Jvm.Cond.code ({ cls := "java/lang/Math", name := "subtractExact", desc := "(JJ)J" } : Jvm.MethodName) jdk_29_method_27_code (6 : Nat) (Option.some Jvm.ClassFile.FieldType.long), Jvm.Cond.code ({ cls := "java/lang/Math", name := "max", desc := "(JJ)J" } : Jvm.MethodName) jdk_29_method_66_code (4 : Nat) (Option.some Jvm.ClassFile.FieldType.long), Jvm.Cond.code ({ cls := "com/example/tempe/tempe/estimate/CountBracket", name := "settled", desc := "()Z" } : Jvm.MethodName) prog_7_method_5_code (1 : Nat) (Option.some Jvm.ClassFile.FieldType.boolean)]
set_option maxRecDepth 65536 in
theorem codes_eq : words1.filter isCode = codes1 := rfl
theorem w_codes : ∀ c ∈ words1.filter isCode, c.before args0 about1 = true := by
  rw [codes_eq]
  intro c hc
  simp only [codes1, List.mem_cons, List.not_mem_nil, or_false] at hc
  rcases hc with rfl | rfl | rfl | rfl | rfl | rfl | rfl | rfl | rfl | rfl | rfl | rfl | rfl
  · exact w_c0
  · exact w_c1
  · exact w_c2
  · exact w_c3
  · exact w_c4
  · exact w_c5
  · exact w_c6
  · exact w_c7
  · exact w_c8
  · exact w_c9
  · exact w_c10
  · exact w_c11
  · exact w_c12
set_option maxRecDepth 65536 in
theorem w_t1 : (words1.take 24).all (fun c => isCode c || c.before args0 about1) = true := by decide +kernel
set_option maxRecDepth 65536 in
theorem w_t2 : ((words1.drop 24).take 24).all (fun c => isCode c || c.before args0 about1) = true := by decide +kernel
set_option maxRecDepth 65536 in
theorem w_t3 : ((words1.drop 24).drop 24).all (fun c => isCode c || c.before args0 about1) = true := by decide +kernel
theorem w_tables : (allAtoms (Jvm.Cond.code x code maxLocals ret :: tables_1)).before args0 about1 = true := by
  rw [allAtoms_all]
  show words1.all (fun c => c.before args0 about1) = true
  refine all_split ?_ w_codes
  rw [← List.take_append_drop 24 words1, List.all_append, w_t1, ← List.take_append_drop 24 (words1.drop 24), List.all_append, w_t2, w_t3]
  rfl
set_option maxRecDepth 65536 in
theorem w_case : (Jvm.Cond.and given_1 narrow_1).before args0 about1 = true := by decide +kernel
theorem w_applies : (headSpec (Jvm.Cond.code x code maxLocals ret :: tables_1) room_1).applies x e0.platform about1 = true :=
  (Spec.applies_iff w_frames).mpr ⟨w_running, w_runnable, w_alone, w_named, w_hears, w_ripe, w_room, w_tables⟩
theorem atStart : AtStart classFile x code maxLocals ret World_1 tables_1 room_1 Calls_1 rest_1 Pre_1 launch0 p0 e0 about1 theMethod args0 below0 :=
  ⟨lists_1, trivial, launch0.admits_env _ _ _, launch0.least_env, fairChoices_fair.cas, fairChoices_fair.clock, w_frames, w_args, w_heap, w_applies, trivial, trivial, w_case⟩
end start1
theorem witness_1 : WitnessClaimed_1 := ⟨start1.p0, start1.e0, start1.about1, start1.theMethod, start1.args0, start1.below0, start1.atStart⟩
end Jvm.Pilot.@@N@@
