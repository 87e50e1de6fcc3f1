import JvmDerived
import JvmDerived.Pilot.@@N@@Statement
import JvmDerived.Pilot.@@N@@Code
set_option linter.unusedVariables false
set_option linter.unusedSimpArgs false
namespace Jvm.RoadKit
open Sem ClassFile Op Lib Jvm.Stand Jvm.Free Jvm.LawKit
theorem own_getDI (L : List Int32) (i : Nat) (d : Int32) : (L.map Value.int).getD i (.int d) = .int (L.getD i d) := by simp [List.getD, List.getElem?_map]
theorem own_getDJ (L : List Int64) (i : Nat) (d : Int64) : (L.map Value.long).getD i (.long d) = .long (L.getD i d) := by simp [List.getD, List.getElem?_map]
theorem own_getDD (L : List UInt64) (i : Nat) (d : UInt64) : (L.map Value.double).getD i (.double d) = .double (L.getD i d) := by simp [List.getD, List.getElem?_map]
end Jvm.RoadKit
@@BLOCK:NumsL.lean.txt@@
namespace Jvm.OwnSt
open Sem ClassFile Op Lib Jvm.Free Jvm.Stand Jvm.RoadKit
abbrev lv (x : Int64) : Slot := .val (.long x)
abbrev dv (x : UInt64) : Slot := .val (.double x)
def Gd (tb : Tables) (T : State) (m : MethodId) (c : Code) (below : List Frame) (code : ByteArray) : Prop := At T m c below ∧ tb.exec = Jvm.exec ∧ c.code = code
theorem gd {p : Program} {l : Launch} {e : Env} {R : Room} {s : State} {m : MethodId} {args : Array Value} {below : List Frame} {meth : Method} {c : Code} {T : State} {locs : List Loc} {cells slots : Nat} {code : ByteArray} (X : Stand p l e R s m args below meth c T locs cells slots) (hx : p.tables.exec = Jvm.exec) (hby : c.code = code) : Gd p.tables T m c below code := ⟨X.here, hx, hby⟩
section Steps
variable {tb : Tables} [Ours tb] {e : Env} {below : List Frame} {T target : State} {m : MethodId} {c : Code} {pc : Nat} {L L' : Array Slot} {S : List Value} {code : ByteArray}
theorem miload (pc' : Nat) (G : Gd tb T m c below code) {k : Nat} {v : Int32} (hd : decode code pc = .ok (.iload k, 2)) (hl : L[k]? = some (.val (.int v))) (hp : pc + 2 = pc') (hr : Steps tb e below (T.setTop (mkF m pc' L (.int v :: S))) target) : Steps tb e below (T.setTop (mkF m pc L S)) target := by
  subst hp; exact XS.iload G.1 G.2.1 rfl (hb G.2.2 hd) hl hr
theorem miloadN (pc' : Nat) (G : Gd tb T m c below code) {k : Fin 4} {v : Int32} (hd : decode code pc = .ok (.iload_n k, 1)) (hl : L[k.val]? = some (.val (.int v))) (hp : pc + 1 = pc') (hr : Steps tb e below (T.setTop (mkF m pc' L (.int v :: S))) target) : Steps tb e below (T.setTop (mkF m pc L S)) target := by
  subst hp; exact XS.iloadN G.1 G.2.1 rfl (hb G.2.2 hd) hl hr
theorem mistore (pc' : Nat) (G : Gd tb T m c below code) {k : Nat} {x : Int32} (hd : decode code pc = .ok (.istore k, 2)) (L' : Array Slot) (hl : storeLocals L k (.int x) = some L') (hp : pc + 2 = pc') (hr : Steps tb e below (T.setTop (mkF m pc' L' S)) target) : Steps tb e below (T.setTop (mkF m pc L (.int x :: S))) target := by
  subst hp; exact XS.istore G.1 G.2.1 rfl (hb G.2.2 hd) rfl hl hr
theorem mistoreN (pc' : Nat) (G : Gd tb T m c below code) {k : Fin 4} {x : Int32} (hd : decode code pc = .ok (.istore_n k, 1)) (L' : Array Slot) (hl : storeLocals L k.val (.int x) = some L') (hp : pc + 1 = pc') (hr : Steps tb e below (T.setTop (mkF m pc' L' S)) target) : Steps tb e below (T.setTop (mkF m pc L (.int x :: S))) target := by
  subst hp; exact XS.istoreN G.1 G.2.1 rfl (hb G.2.2 hd) rfl hl hr
theorem mlload (pc' : Nat) (G : Gd tb T m c below code) {k : Nat} {v : Int64} (hd : decode code pc = .ok (.lload k, 2)) (hl : L[k]? = some (.val (.long v))) (hp : pc + 2 = pc') (hr : Steps tb e below (T.setTop (mkF m pc' L (.long v :: S))) target) : Steps tb e below (T.setTop (mkF m pc L S)) target := by
  subst hp; exact XS.lload G.1 G.2.1 rfl (hb G.2.2 hd) hl hr
theorem mlloadN (pc' : Nat) (G : Gd tb T m c below code) {k : Fin 4} {v : Int64} (hd : decode code pc = .ok (.lload_n k, 1)) (hl : L[k.val]? = some (.val (.long v))) (hp : pc + 1 = pc') (hr : Steps tb e below (T.setTop (mkF m pc' L (.long v :: S))) target) : Steps tb e below (T.setTop (mkF m pc L S)) target := by
  subst hp; exact XS.lloadN G.1 G.2.1 rfl (hb G.2.2 hd) hl hr
theorem mlstore (pc' : Nat) (G : Gd tb T m c below code) {k : Nat} {x : Int64} (hd : decode code pc = .ok (.lstore k, 2)) (L' : Array Slot) (hl : storeLocals L k (.long x) = some L') (hp : pc + 2 = pc') (hr : Steps tb e below (T.setTop (mkF m pc' L' S)) target) : Steps tb e below (T.setTop (mkF m pc L (.long x :: S))) target := by
  subst hp; exact XS.lstore G.1 G.2.1 rfl (hb G.2.2 hd) rfl hl hr
theorem mlstoreN (pc' : Nat) (G : Gd tb T m c below code) {k : Fin 4} {x : Int64} (hd : decode code pc = .ok (.lstore_n k, 1)) (L' : Array Slot) (hl : storeLocals L k.val (.long x) = some L') (hp : pc + 1 = pc') (hr : Steps tb e below (T.setTop (mkF m pc' L' S)) target) : Steps tb e below (T.setTop (mkF m pc L (.long x :: S))) target := by
  subst hp; exact XS.lstoreN G.1 G.2.1 rfl (hb G.2.2 hd) rfl hl hr
theorem mdload (pc' : Nat) (G : Gd tb T m c below code) {k : Nat} {v : UInt64} (hd : decode code pc = .ok (.dload k, 2)) (hl : L[k]? = some (.val (.double v))) (hp : pc + 2 = pc') (hr : Steps tb e below (T.setTop (mkF m pc' L (.double v :: S))) target) : Steps tb e below (T.setTop (mkF m pc L S)) target := by
  subst hp; exact XS.dload G.1 G.2.1 rfl (hb G.2.2 hd) hl hr
theorem mdloadN (pc' : Nat) (G : Gd tb T m c below code) {k : Fin 4} {v : UInt64} (hd : decode code pc = .ok (.dload_n k, 1)) (hl : L[k.val]? = some (.val (.double v))) (hp : pc + 1 = pc') (hr : Steps tb e below (T.setTop (mkF m pc' L (.double v :: S))) target) : Steps tb e below (T.setTop (mkF m pc L S)) target := by
  subst hp; exact XS.dloadN G.1 G.2.1 rfl (hb G.2.2 hd) hl hr
theorem mdstore (pc' : Nat) (G : Gd tb T m c below code) {k : Nat} {x : UInt64} (hd : decode code pc = .ok (.dstore k, 2)) (L' : Array Slot) (hl : storeLocals L k (.double x) = some L') (hp : pc + 2 = pc') (hr : Steps tb e below (T.setTop (mkF m pc' L' S)) target) : Steps tb e below (T.setTop (mkF m pc L (.double x :: S))) target := by
  subst hp; exact XS.dstore G.1 G.2.1 rfl (hb G.2.2 hd) rfl hl hr
theorem mdstoreN (pc' : Nat) (G : Gd tb T m c below code) {k : Fin 4} {x : UInt64} (hd : decode code pc = .ok (.dstore_n k, 1)) (L' : Array Slot) (hl : storeLocals L k.val (.double x) = some L') (hp : pc + 1 = pc') (hr : Steps tb e below (T.setTop (mkF m pc' L' S)) target) : Steps tb e below (T.setTop (mkF m pc L (.double x :: S))) target := by
  subst hp; exact XS.dstoreN G.1 G.2.1 rfl (hb G.2.2 hd) rfl hl hr
theorem maload (pc' : Nat) (G : Gd tb T m c below code) {k : Nat} {v : Value} (hd : decode code pc = .ok (.aload k, 2)) (hl : L[k]? = some (.val v)) (hv : v.isRef = true) (hp : pc + 2 = pc') (hr : Steps tb e below (T.setTop (mkF m pc' L (v :: S))) target) : Steps tb e below (T.setTop (mkF m pc L S)) target := by
  subst hp; exact XS.aload G.1 G.2.1 rfl (hb G.2.2 hd) hl hv hr
theorem maloadN (pc' : Nat) (G : Gd tb T m c below code) {k : Fin 4} {v : Value} (hd : decode code pc = .ok (.aload_n k, 1)) (hl : L[k.val]? = some (.val v)) (hv : v.isRef = true) (hp : pc + 1 = pc') (hr : Steps tb e below (T.setTop (mkF m pc' L (v :: S))) target) : Steps tb e below (T.setTop (mkF m pc L S)) target := by
  subst hp; exact XS.aloadN G.1 G.2.1 rfl (hb G.2.2 hd) hl hv hr
theorem mastore (pc' : Nat) (G : Gd tb T m c below code) {k : Nat} {x : Value} (hd : decode code pc = .ok (.astore k, 2)) (hv : x.isRef = true) (L' : Array Slot) (hl : storeLocals L k x = some L') (hp : pc + 2 = pc') (hr : Steps tb e below (T.setTop (mkF m pc' L' S)) target) : Steps tb e below (T.setTop (mkF m pc L (x :: S))) target := by
  subst hp; exact XS.astore G.1 G.2.1 rfl (hb G.2.2 hd) rfl hv hl hr
theorem mastoreN (pc' : Nat) (G : Gd tb T m c below code) {k : Fin 4} {x : Value} (hd : decode code pc = .ok (.astore_n k, 1)) (hv : x.isRef = true) (L' : Array Slot) (hl : storeLocals L k.val x = some L') (hp : pc + 1 = pc') (hr : Steps tb e below (T.setTop (mkF m pc' L' S)) target) : Steps tb e below (T.setTop (mkF m pc L (x :: S))) target := by
  subst hp; exact XS.astoreN G.1 G.2.1 rfl (hb G.2.2 hd) rfl hv hl hr
theorem miconst (pc' : Nat) (G : Gd tb T m c below code) {i : Int} {v : Int32} (hd : decode code pc = .ok (.iconst i, 1)) (hv : Int32.ofInt i = v) (hp : pc + 1 = pc') (hr : Steps tb e below (T.setTop (mkF m pc' L (.int v :: S))) target) : Steps tb e below (T.setTop (mkF m pc L S)) target := by
  subst hp; subst hv; exact XS.iconst G.1 G.2.1 rfl (hb G.2.2 hd) hr
theorem mbipush (pc' : Nat) (G : Gd tb T m c below code) {i : Int} {v : Int32} (hd : decode code pc = .ok (.bipush i, 2)) (hv : (Int8.ofInt i).toInt32 = v) (hp : pc + 2 = pc') (hr : Steps tb e below (T.setTop (mkF m pc' L (.int v :: S))) target) : Steps tb e below (T.setTop (mkF m pc L S)) target := by
  subst hp; subst hv; exact XS.bipush G.1 G.2.1 rfl (hb G.2.2 hd) hr
theorem msipush (pc' : Nat) (G : Gd tb T m c below code) {i : Int} {v : Int32} (hd : decode code pc = .ok (.sipush i, 3)) (hv : (Int16.ofInt i).toInt32 = v) (hp : pc + 3 = pc') (hr : Steps tb e below (T.setTop (mkF m pc' L (.int v :: S))) target) : Steps tb e below (T.setTop (mkF m pc L S)) target := by
  subst hp; subst hv; exact XS.sipush G.1 G.2.1 rfl (hb G.2.2 hd) hr
theorem mlconst (pc' : Nat) (G : Gd tb T m c below code) {k : Fin 2} {v : Int64} (hd : decode code pc = .ok (.lconst k, 1)) (hv : Int64.ofNat k = v) (hp : pc + 1 = pc') (hr : Steps tb e below (T.setTop (mkF m pc' L (.long v :: S))) target) : Steps tb e below (T.setTop (mkF m pc L S)) target := by
  subst hp; subst hv; exact XS.lconst G.1 G.2.1 rfl (hb G.2.2 hd) hr
theorem mdconst0 (pc' : Nat) (G : Gd tb T m c below code) {v : UInt64} (hd : decode code pc = .ok (.dconst 0, 1)) (hv : FP.dconst0 = v) (hp : pc + 1 = pc') (hr : Steps tb e below (T.setTop (mkF m pc' L (.double v :: S))) target) : Steps tb e below (T.setTop (mkF m pc L S)) target := by
  subst hp; exact XS.dconst0 G.1 G.2.1 rfl (hb G.2.2 hd) hv hr
theorem mdconst1 (pc' : Nat) (G : Gd tb T m c below code) {v : UInt64} (hd : decode code pc = .ok (.dconst 1, 1)) (hv : FP.dconst1 = v) (hp : pc + 1 = pc') (hr : Steps tb e below (T.setTop (mkF m pc' L (.double v :: S))) target) : Steps tb e below (T.setTop (mkF m pc L S)) target := by
  subst hp; exact XS.dconst1 G.1 G.2.1 rfl (hb G.2.2 hd) hv hr
theorem maconst_null (pc' : Nat) (G : Gd tb T m c below code)  (hd : decode code pc = .ok (.aconst_null, 1)) (hp : pc + 1 = pc') (hr : Steps tb e below (T.setTop (mkF m pc' L (.null :: S))) target) : Steps tb e below (T.setTop (mkF m pc L S)) target := by
  subst hp; exact XS.aconstNull G.1 G.2.1 rfl (hb G.2.2 hd)  hr
theorem miadd (pc' : Nat) (G : Gd tb T m c below code) {x : Int32} {y : Int32} {v : Int32} (hd : decode code pc = .ok (.iadd, 1)) (hv : x + y = v) (hp : pc + 1 = pc') (hr : Steps tb e below (T.setTop (mkF m pc' L (.int v :: S))) target) : Steps tb e below (T.setTop (mkF m pc L (.int y :: .int x :: S))) target := by
  subst hp; subst hv; exact XS.iadd G.1 G.2.1 rfl (hb G.2.2 hd) rfl  hr
theorem misub (pc' : Nat) (G : Gd tb T m c below code) {x : Int32} {y : Int32} {v : Int32} (hd : decode code pc = .ok (.isub, 1)) (hv : x - y = v) (hp : pc + 1 = pc') (hr : Steps tb e below (T.setTop (mkF m pc' L (.int v :: S))) target) : Steps tb e below (T.setTop (mkF m pc L (.int y :: .int x :: S))) target := by
  subst hp; subst hv; exact XS.isub G.1 G.2.1 rfl (hb G.2.2 hd) rfl  hr
theorem mimul (pc' : Nat) (G : Gd tb T m c below code) {x : Int32} {y : Int32} {v : Int32} (hd : decode code pc = .ok (.imul, 1)) (hv : x * y = v) (hp : pc + 1 = pc') (hr : Steps tb e below (T.setTop (mkF m pc' L (.int v :: S))) target) : Steps tb e below (T.setTop (mkF m pc L (.int y :: .int x :: S))) target := by
  subst hp; subst hv; exact XS.imul G.1 G.2.1 rfl (hb G.2.2 hd) rfl  hr
theorem miand (pc' : Nat) (G : Gd tb T m c below code) {x : Int32} {y : Int32} {v : Int32} (hd : decode code pc = .ok (.iand, 1)) (hv : x &&& y = v) (hp : pc + 1 = pc') (hr : Steps tb e below (T.setTop (mkF m pc' L (.int v :: S))) target) : Steps tb e below (T.setTop (mkF m pc L (.int y :: .int x :: S))) target := by
  subst hp; subst hv; exact XS.iand G.1 G.2.1 rfl (hb G.2.2 hd) rfl  hr
theorem mior (pc' : Nat) (G : Gd tb T m c below code) {x : Int32} {y : Int32} {v : Int32} (hd : decode code pc = .ok (.ior, 1)) (hv : x ||| y = v) (hp : pc + 1 = pc') (hr : Steps tb e below (T.setTop (mkF m pc' L (.int v :: S))) target) : Steps tb e below (T.setTop (mkF m pc L (.int y :: .int x :: S))) target := by
  subst hp; subst hv; exact XS.ior G.1 G.2.1 rfl (hb G.2.2 hd) rfl  hr
theorem mixor (pc' : Nat) (G : Gd tb T m c below code) {x : Int32} {y : Int32} {v : Int32} (hd : decode code pc = .ok (.ixor, 1)) (hv : x ^^^ y = v) (hp : pc + 1 = pc') (hr : Steps tb e below (T.setTop (mkF m pc' L (.int v :: S))) target) : Steps tb e below (T.setTop (mkF m pc L (.int y :: .int x :: S))) target := by
  subst hp; subst hv; exact XS.ixor G.1 G.2.1 rfl (hb G.2.2 hd) rfl  hr
theorem midiv (pc' : Nat) (G : Gd tb T m c below code) {x : Int32} {y : Int32} {v : Int32} (hd : decode code pc = .ok (.idiv, 1)) (hz : y ≠ 0) (hv : x / y = v) (hp : pc + 1 = pc') (hr : Steps tb e below (T.setTop (mkF m pc' L (.int v :: S))) target) : Steps tb e below (T.setTop (mkF m pc L (.int y :: .int x :: S))) target := by
  subst hp; subst hv; exact XS.idiv G.1 G.2.1 rfl (hb G.2.2 hd) rfl hz hr
theorem mladd (pc' : Nat) (G : Gd tb T m c below code) {x : Int64} {y : Int64} {v : Int64} (hd : decode code pc = .ok (.ladd, 1)) (hv : x + y = v) (hp : pc + 1 = pc') (hr : Steps tb e below (T.setTop (mkF m pc' L (.long v :: S))) target) : Steps tb e below (T.setTop (mkF m pc L (.long y :: .long x :: S))) target := by
  subst hp; subst hv; exact XS.ladd G.1 G.2.1 rfl (hb G.2.2 hd) rfl  hr
theorem mlsub (pc' : Nat) (G : Gd tb T m c below code) {x : Int64} {y : Int64} {v : Int64} (hd : decode code pc = .ok (.lsub, 1)) (hv : x - y = v) (hp : pc + 1 = pc') (hr : Steps tb e below (T.setTop (mkF m pc' L (.long v :: S))) target) : Steps tb e below (T.setTop (mkF m pc L (.long y :: .long x :: S))) target := by
  subst hp; subst hv; exact XS.lsub G.1 G.2.1 rfl (hb G.2.2 hd) rfl  hr
theorem mlmul (pc' : Nat) (G : Gd tb T m c below code) {x : Int64} {y : Int64} {v : Int64} (hd : decode code pc = .ok (.lmul, 1)) (hv : x * y = v) (hp : pc + 1 = pc') (hr : Steps tb e below (T.setTop (mkF m pc' L (.long v :: S))) target) : Steps tb e below (T.setTop (mkF m pc L (.long y :: .long x :: S))) target := by
  subst hp; subst hv; exact XS.lmul G.1 G.2.1 rfl (hb G.2.2 hd) rfl  hr
theorem mland (pc' : Nat) (G : Gd tb T m c below code) {x : Int64} {y : Int64} {v : Int64} (hd : decode code pc = .ok (.land, 1)) (hv : x &&& y = v) (hp : pc + 1 = pc') (hr : Steps tb e below (T.setTop (mkF m pc' L (.long v :: S))) target) : Steps tb e below (T.setTop (mkF m pc L (.long y :: .long x :: S))) target := by
  subst hp; subst hv; exact XS.land G.1 G.2.1 rfl (hb G.2.2 hd) rfl  hr
theorem mlor (pc' : Nat) (G : Gd tb T m c below code) {x : Int64} {y : Int64} {v : Int64} (hd : decode code pc = .ok (.lor, 1)) (hv : x ||| y = v) (hp : pc + 1 = pc') (hr : Steps tb e below (T.setTop (mkF m pc' L (.long v :: S))) target) : Steps tb e below (T.setTop (mkF m pc L (.long y :: .long x :: S))) target := by
  subst hp; subst hv; exact XS.lor G.1 G.2.1 rfl (hb G.2.2 hd) rfl  hr
theorem mlxor (pc' : Nat) (G : Gd tb T m c below code) {x : Int64} {y : Int64} {v : Int64} (hd : decode code pc = .ok (.lxor, 1)) (hv : x ^^^ y = v) (hp : pc + 1 = pc') (hr : Steps tb e below (T.setTop (mkF m pc' L (.long v :: S))) target) : Steps tb e below (T.setTop (mkF m pc L (.long y :: .long x :: S))) target := by
  subst hp; subst hv; exact XS.lxor G.1 G.2.1 rfl (hb G.2.2 hd) rfl  hr
theorem mldiv (pc' : Nat) (G : Gd tb T m c below code) {x : Int64} {y : Int64} {v : Int64} (hd : decode code pc = .ok (.ldiv, 1)) (hz : y ≠ 0) (hv : x / y = v) (hp : pc + 1 = pc') (hr : Steps tb e below (T.setTop (mkF m pc' L (.long v :: S))) target) : Steps tb e below (T.setTop (mkF m pc L (.long y :: .long x :: S))) target := by
  subst hp; subst hv; exact XS.ldiv G.1 G.2.1 rfl (hb G.2.2 hd) rfl hz hr
theorem mlrem (pc' : Nat) (G : Gd tb T m c below code) {x : Int64} {y : Int64} {v : Int64} (hd : decode code pc = .ok (.lrem, 1)) (hz : y ≠ 0) (hv : x - (x / y) * y = v) (hp : pc + 1 = pc') (hr : Steps tb e below (T.setTop (mkF m pc' L (.long v :: S))) target) : Steps tb e below (T.setTop (mkF m pc L (.long y :: .long x :: S))) target := by
  subst hp; subst hv; exact XS.lrem G.1 G.2.1 rfl (hb G.2.2 hd) rfl hz hr
theorem mirem (pc' : Nat) (G : Gd tb T m c below code) {x : Int32} {y : Int32} {v : Int32} (hd : decode code pc = .ok (.irem, 1)) (hz : y ≠ 0) (hv : x - (x / y) * y = v) (hp : pc + 1 = pc') (hr : Steps tb e below (T.setTop (mkF m pc' L (.int v :: S))) target) : Steps tb e below (T.setTop (mkF m pc L (.int y :: .int x :: S))) target := by
  subst hp; subst hv; exact XS.irem G.1 G.2.1 rfl (hb G.2.2 hd) rfl hz hr
theorem mishl (pc' : Nat) (G : Gd tb T m c below code) {x : Int32} {y : Int32} {v : Int32} (hd : decode code pc = .ok (.ishl, 1)) (hv : x <<< (y &&& 31) = v) (hp : pc + 1 = pc') (hr : Steps tb e below (T.setTop (mkF m pc' L (.int v :: S))) target) : Steps tb e below (T.setTop (mkF m pc L (.int y :: .int x :: S))) target := by
  subst hp; subst hv; exact XS.ishl G.1 G.2.1 rfl (hb G.2.2 hd) rfl  hr
theorem mishr (pc' : Nat) (G : Gd tb T m c below code) {x : Int32} {y : Int32} {v : Int32} (hd : decode code pc = .ok (.ishr, 1)) (hv : x >>> (y &&& 31) = v) (hp : pc + 1 = pc') (hr : Steps tb e below (T.setTop (mkF m pc' L (.int v :: S))) target) : Steps tb e below (T.setTop (mkF m pc L (.int y :: .int x :: S))) target := by
  subst hp; subst hv; exact XS.ishr G.1 G.2.1 rfl (hb G.2.2 hd) rfl  hr
theorem miushr (pc' : Nat) (G : Gd tb T m c below code) {x : Int32} {y : Int32} {v : Int32} (hd : decode code pc = .ok (.iushr, 1)) (hv : (x.toUInt32 >>> (y &&& 31).toUInt32).toInt32 = v) (hp : pc + 1 = pc') (hr : Steps tb e below (T.setTop (mkF m pc' L (.int v :: S))) target) : Steps tb e below (T.setTop (mkF m pc L (.int y :: .int x :: S))) target := by
  subst hp; subst hv; exact XS.iushr G.1 G.2.1 rfl (hb G.2.2 hd) rfl  hr
theorem mlshl (pc' : Nat) (G : Gd tb T m c below code) {x : Int64} {y : Int32} {v : Int64} (hd : decode code pc = .ok (.lshl, 1)) (hv : x <<< (y &&& 0x3f).toInt64 = v) (hp : pc + 1 = pc') (hr : Steps tb e below (T.setTop (mkF m pc' L (.long v :: S))) target) : Steps tb e below (T.setTop (mkF m pc L (.int y :: .long x :: S))) target := by
  subst hp; subst hv; exact XS.lshl G.1 G.2.1 rfl (hb G.2.2 hd) rfl  hr
theorem mlshr (pc' : Nat) (G : Gd tb T m c below code) {x : Int64} {y : Int32} {v : Int64} (hd : decode code pc = .ok (.lshr, 1)) (hv : x >>> (y &&& 0x3f).toInt64 = v) (hp : pc + 1 = pc') (hr : Steps tb e below (T.setTop (mkF m pc' L (.long v :: S))) target) : Steps tb e below (T.setTop (mkF m pc L (.int y :: .long x :: S))) target := by
  subst hp; subst hv; exact XS.lshr G.1 G.2.1 rfl (hb G.2.2 hd) rfl  hr
theorem mlushr (pc' : Nat) (G : Gd tb T m c below code) {x : Int64} {y : Int32} {v : Int64} (hd : decode code pc = .ok (.lushr, 1)) (hv : (x.toUInt64 >>> (y &&& 0x3f).toInt64.toUInt64).toInt64 = v) (hp : pc + 1 = pc') (hr : Steps tb e below (T.setTop (mkF m pc' L (.long v :: S))) target) : Steps tb e below (T.setTop (mkF m pc L (.int y :: .long x :: S))) target := by
  subst hp; subst hv; exact XS.lushr G.1 G.2.1 rfl (hb G.2.2 hd) rfl  hr
theorem mineg (pc' : Nat) (G : Gd tb T m c below code) {x : Int32} (hd : decode code pc = .ok (.ineg, 1)) (hp : pc + 1 = pc') (hr : Steps tb e below (T.setTop (mkF m pc' L (.int (-x) :: S))) target) : Steps tb e below (T.setTop (mkF m pc L (.int x :: S))) target := by
  subst hp; exact XS.ineg G.1 G.2.1 rfl (hb G.2.2 hd) rfl hr
theorem mlneg (pc' : Nat) (G : Gd tb T m c below code) {x : Int64} (hd : decode code pc = .ok (.lneg, 1)) (hp : pc + 1 = pc') (hr : Steps tb e below (T.setTop (mkF m pc' L (.long (-x) :: S))) target) : Steps tb e below (T.setTop (mkF m pc L (.long x :: S))) target := by
  subst hp; exact XS.lneg G.1 G.2.1 rfl (hb G.2.2 hd) rfl hr
theorem mi2l (pc' : Nat) (G : Gd tb T m c below code) {x : Int32} (hd : decode code pc = .ok (.i2l, 1)) (hp : pc + 1 = pc') (hr : Steps tb e below (T.setTop (mkF m pc' L (.long (x.toInt64) :: S))) target) : Steps tb e below (T.setTop (mkF m pc L (.int x :: S))) target := by
  subst hp; exact XS.i2l G.1 G.2.1 rfl (hb G.2.2 hd) rfl hr
theorem ml2i (pc' : Nat) (G : Gd tb T m c below code) {x : Int64} (hd : decode code pc = .ok (.l2i, 1)) (hp : pc + 1 = pc') (hr : Steps tb e below (T.setTop (mkF m pc' L (.int (x.toInt32) :: S))) target) : Steps tb e below (T.setTop (mkF m pc L (.long x :: S))) target := by
  subst hp; exact XS.l2i G.1 G.2.1 rfl (hb G.2.2 hd) rfl hr
theorem mi2d (pc' : Nat) (G : Gd tb T m c below code) {x : Int32} (hd : decode code pc = .ok (.i2d, 1)) (hp : pc + 1 = pc') (hr : Steps tb e below (T.setTop (mkF m pc' L (.double (FP.i2d x) :: S))) target) : Steps tb e below (T.setTop (mkF m pc L (.int x :: S))) target := by
  subst hp; exact XS.i2dS G.1 G.2.1 rfl (hb G.2.2 hd) rfl rfl hr
theorem ml2d (pc' : Nat) (G : Gd tb T m c below code) {x : Int64} (hd : decode code pc = .ok (.l2d, 1)) (hp : pc + 1 = pc') (hr : Steps tb e below (T.setTop (mkF m pc' L (.double (FP.l2d x) :: S))) target) : Steps tb e below (T.setTop (mkF m pc L (.long x :: S))) target := by
  subst hp; exact XS.l2dS G.1 G.2.1 rfl (hb G.2.2 hd) rfl rfl hr
theorem mdneg (pc' : Nat) (G : Gd tb T m c below code) {x : UInt64} (hd : decode code pc = .ok (.dneg, 1)) (hp : pc + 1 = pc') (hr : Steps tb e below (T.setTop (mkF m pc' L (.double (FP.dneg x) :: S))) target) : Steps tb e below (T.setTop (mkF m pc L (.double x :: S))) target := by
  subst hp; exact XS.dnegS G.1 G.2.1 rfl (hb G.2.2 hd) rfl rfl hr
theorem md2i (pc' : Nat) (G : Gd tb T m c below code) {x : UInt64} (hd : decode code pc = .ok (.d2i, 1)) (hp : pc + 1 = pc') (hr : Steps tb e below (T.setTop (mkF m pc' L (.int (FP.d2i x) :: S))) target) : Steps tb e below (T.setTop (mkF m pc L (.double x :: S))) target := by
  subst hp; exact XS.d2iS G.1 G.2.1 rfl (hb G.2.2 hd) rfl rfl hr
theorem md2l (pc' : Nat) (G : Gd tb T m c below code) {x : UInt64} (hd : decode code pc = .ok (.d2l, 1)) (hp : pc + 1 = pc') (hr : Steps tb e below (T.setTop (mkF m pc' L (.long (FP.d2l x) :: S))) target) : Steps tb e below (T.setTop (mkF m pc L (.double x :: S))) target := by
  subst hp; exact XS.d2lS G.1 G.2.1 rfl (hb G.2.2 hd) rfl rfl hr
theorem mdadd (pc' : Nat) (G : Gd tb T m c below code) {x y : UInt64} (hd : decode code pc = .ok (.dadd, 1)) (hn : Jvm.Free.Fl.NoNaN64 (FP.dadd x y)) (hp : pc + 1 = pc') (hr : Steps tb e below (T.setTop (mkF m pc' L (.double (FP.dadd x y) :: S))) target) : Steps tb e below (T.setTop (mkF m pc L (.double y :: .double x :: S))) target := by
  subst hp; exact XS.daddS G.1 G.2.1 rfl (hb G.2.2 hd) rfl hn rfl hr
theorem mdsub (pc' : Nat) (G : Gd tb T m c below code) {x y : UInt64} (hd : decode code pc = .ok (.dsub, 1)) (hn : Jvm.Free.Fl.NoNaN64 (FP.dsub x y)) (hp : pc + 1 = pc') (hr : Steps tb e below (T.setTop (mkF m pc' L (.double (FP.dsub x y) :: S))) target) : Steps tb e below (T.setTop (mkF m pc L (.double y :: .double x :: S))) target := by
  subst hp; exact XS.dsubS G.1 G.2.1 rfl (hb G.2.2 hd) rfl hn rfl hr
theorem mdmul (pc' : Nat) (G : Gd tb T m c below code) {x y : UInt64} (hd : decode code pc = .ok (.dmul, 1)) (hn : Jvm.Free.Fl.NoNaN64 (FP.dmul x y)) (hp : pc + 1 = pc') (hr : Steps tb e below (T.setTop (mkF m pc' L (.double (FP.dmul x y) :: S))) target) : Steps tb e below (T.setTop (mkF m pc L (.double y :: .double x :: S))) target := by
  subst hp; exact XS.dmulS G.1 G.2.1 rfl (hb G.2.2 hd) rfl hn rfl hr
theorem mddiv (pc' : Nat) (G : Gd tb T m c below code) {x y : UInt64} (hd : decode code pc = .ok (.ddiv, 1)) (hn : Jvm.Free.Fl.NoNaN64 (FP.ddiv x y)) (hp : pc + 1 = pc') (hr : Steps tb e below (T.setTop (mkF m pc' L (.double (FP.ddiv x y) :: S))) target) : Steps tb e below (T.setTop (mkF m pc L (.double y :: .double x :: S))) target := by
  subst hp; exact XS.ddivS G.1 G.2.1 rfl (hb G.2.2 hd) rfl hn rfl hr
theorem mdcmp (pc' : Nat) (G : Gd tb T m c below code) {o : CmpOp} {x y : UInt64} (hd : decode code pc = .ok (.dcmp o, 1)) (hp : pc + 1 = pc') (hr : Steps tb e below (T.setTop (mkF m pc' L (.int (cmpValue (FP.dcmp x y) o) :: S))) target) : Steps tb e below (T.setTop (mkF m pc L (.double y :: .double x :: S))) target := by
  subst hp; exact XS.dcmpS G.1 G.2.1 rfl (hb G.2.2 hd) rfl rfl hr
theorem mlcmp (pc' : Nat) (G : Gd tb T m c below code) {x y : Int64} (hd : decode code pc = .ok (.lcmp, 1)) (hp : pc + 1 = pc') (hr : Steps tb e below (T.setTop (mkF m pc' L (.int (lcmpW x y) :: S))) target) : Steps tb e below (T.setTop (mkF m pc L (.long y :: .long x :: S))) target := by
  subst hp; exact XS.lcmp G.1 G.2.1 rfl (hb G.2.2 hd) rfl hr
theorem mdup (pc' : Nat) (G : Gd tb T m c below code) {x : Value} (hd : decode code pc = .ok (.dup, 1)) (hc : x.category = 1) (hp : pc + 1 = pc') (hr : Steps tb e below (T.setTop (mkF m pc' L (x :: x :: S))) target) : Steps tb e below (T.setTop (mkF m pc L (x :: S))) target := by
  subst hp; exact XS.dup G.1 G.2.1 rfl (hb G.2.2 hd) rfl hc hr
theorem mpop (pc' : Nat) (G : Gd tb T m c below code) {x : Value} (hd : decode code pc = .ok (.pop, 1)) (hc : x.category = 1) (hp : pc + 1 = pc') (hr : Steps tb e below (T.setTop (mkF m pc' L S)) target) : Steps tb e below (T.setTop (mkF m pc L (x :: S))) target := by
  subst hp; exact XS.pop G.1 G.2.1 rfl (hb G.2.2 hd) rfl hc hr
theorem mdup2 (pc' : Nat) (G : Gd tb T m c below code) {x y : Value} (hd : decode code pc = .ok (.dup2, 1)) (hc : x.category = 1) (hc' : y.category = 1) (hp : pc + 1 = pc') (hr : Steps tb e below (T.setTop (mkF m pc' L (x :: y :: x :: y :: S))) target) : Steps tb e below (T.setTop (mkF m pc L (x :: y :: S))) target := by
  subst hp; exact Jvm.Free.XT.dup2 G.1 G.2.1 rfl (hb G.2.2 hd) rfl hc hc' hr
theorem mdup_x1 (pc' : Nat) (G : Gd tb T m c below code) {x y : Value} (hd : decode code pc = .ok (.dup_x1, 1)) (hc : x.category = 1) (hc' : y.category = 1) (hp : pc + 1 = pc') (hr : Steps tb e below (T.setTop (mkF m pc' L (x :: y :: x :: S))) target) : Steps tb e below (T.setTop (mkF m pc L (x :: y :: S))) target := by
  subst hp; exact XS.dupX1 G.1 G.2.1 rfl (hb G.2.2 hd) rfl hc hc' hr
theorem miinc (pc' : Nat) (G : Gd tb T m c below code) {k : Nat} {i : Int} {x : Int32} (hd : decode code pc = .ok (.iinc k i, 3)) (hl : L[k]? = some (.val (.int x))) (L' : Array Slot) (hl' : storeLocals L k (.int (x + Int32.ofInt i)) = some L') (hp : pc + 3 = pc') (hr : Steps tb e below (T.setTop (mkF m pc' L' S)) target) : Steps tb e below (T.setTop (mkF m pc L S)) target := by
  subst hp; exact XS.iinc G.1 G.2.1 rfl (hb G.2.2 hd) hl hl' hr
theorem mgoto (pc' : Nat) (G : Gd tb T m c below code) {o : Int} (hd : decode code pc = .ok (.goto o, 3)) (ho : 0 ≤ (pc : Int) + o) (hp : ((pc : Int) + o).toNat = pc') (hr : Steps tb e below (T.setTop (mkF m pc' L S)) target) : Steps tb e below (T.setTop (mkF m pc L S)) target := XS.goto G.1 G.2.1 rfl rfl (hb G.2.2 hd) ho hp hr
theorem mifYes (pc' : Nat) (G : Gd tb T m c below code) {cd : ClassFile.Cond} {o : Int} {x : Int32} (hd : decode code pc = .ok (.ifCond cd o, 3)) (hc : ifCond.holds cd x = true) (ho : 0 ≤ (pc : Int) + o) (hp : ((pc : Int) + o).toNat = pc') (hr : Steps tb e below (T.setTop (mkF m pc' L S)) target) : Steps tb e below (T.setTop (mkF m pc L (.int x :: S))) target := XS.ifYes G.1 G.2.1 rfl rfl (hb G.2.2 hd) rfl hc ho hp hr
theorem mifNo (pc' : Nat) (G : Gd tb T m c below code) {cd : ClassFile.Cond} {o : Int} {x : Int32} (hd : decode code pc = .ok (.ifCond cd o, 3)) (hc : ifCond.holds cd x = false) (hp : pc + 3 = pc') (hr : Steps tb e below (T.setTop (mkF m pc' L S)) target) : Steps tb e below (T.setTop (mkF m pc L (.int x :: S))) target := by
  subst hp; exact XS.ifNo G.1 G.2.1 rfl (hb G.2.2 hd) rfl hc hr
theorem micmpYes (pc' : Nat) (G : Gd tb T m c below code) {cd : ClassFile.Cond} {o : Int} {x y : Int32} (hd : decode code pc = .ok (.if_icmp cd o, 3)) (hc : if_icmp.holds cd x y = true) (ho : 0 ≤ (pc : Int) + o) (hp : ((pc : Int) + o).toNat = pc') (hr : Steps tb e below (T.setTop (mkF m pc' L S)) target) : Steps tb e below (T.setTop (mkF m pc L (.int y :: .int x :: S))) target := XS.icmpYes G.1 G.2.1 rfl rfl (hb G.2.2 hd) rfl hc ho hp hr
theorem micmpNo (pc' : Nat) (G : Gd tb T m c below code) {cd : ClassFile.Cond} {o : Int} {x y : Int32} (hd : decode code pc = .ok (.if_icmp cd o, 3)) (hc : if_icmp.holds cd x y = false) (hp : pc + 3 = pc') (hr : Steps tb e below (T.setTop (mkF m pc' L S)) target) : Steps tb e below (T.setTop (mkF m pc L (.int y :: .int x :: S))) target := by
  subst hp; exact XS.icmpNo G.1 G.2.1 rfl (hb G.2.2 hd) rfl hc hr
end Steps
section Arrays
variable {p : Program} {l : Launch} {e : Env} {R : Room} {s : State} {m : MethodId} {args : Array Value} {below : List Frame} {meth : Method} {c : Code} {T : State} {locs : List Loc} {cells slots : Nat} {Z : State} {h : Heap} {a : Addr} {k : ClassId} {z j : Int32} {vs : List Value} {dv : Value} {pc : Nat} {L : Array Slot} {S : List Value} {code : ByteArray} {target : State}
theorem wd {ws : List Cond} {a0 : Array Value} (hw : ∀ d ∈ ws, d.before a0 Z = true) (i : Nat) {d : Cond} (q : ws[i]? = some d) : d.before a0 Z = true := hw d (List.mem_of_getElem? q)
theorem miaload (pc' : Nat) (X : Stand p l e R s m args below meth c T locs cells slots) (hx : p.tables.exec = Jvm.exec) (hby : c.code = code) (hZ : Z.Warmed39 s.vm) (eT : T.heap = h) (F : Arv Z h a k .int z vs dv) {v : Int32} (hd : decode code pc = .ok (.iaload, 1)) (hin : ¬ j < 0 ∧ j < z) (hv : vs.getD j.toNatClampNeg dv = .int v) (hp : pc + 1 = pc') (hr : Steps p.tables e below (T.setTop (mkF m pc' L (.int v :: S))) target) : Steps p.tables e below (T.setTop (mkF m pc L (.int j :: .ref a :: S))) target := by
  subst hp
  obtain ⟨cl, A, -, q2, q3, H, -⟩ := F
  have hb' := inb_of q2 hin
  exact X.iaload hx (j := j) (v := .int v) (by rw [eT]; exact A.1) (State.isArrayOf_alike hZ.alike A.2.1) A.2.2 hb' (H.at hb' hv) (g := mkF m pc L (.int j :: .ref a :: S)) rfl rfl (hb hby hd) _ hr
theorem own_stI (X : Stand p l e R s m args below meth c T locs cells slots) (hx : p.tables.exec = Jvm.exec) (hby : c.code = code) (hZ : Z.Warmed39 s.vm) (eT : T.heap = h) (F : Arv Z h a k .int z vs dv) {v : Int32} (hd : decode code pc = .ok (.iastore, 1)) (hin : ¬ j < 0 ∧ j < z) (i : Nat) (hj : j.toNatClampNeg = i) (hi : i < vs.length) (L : Array Slot) (S : List Value) (pc' : Nat) (hp : pc + 1 = pc') :
    ∃ T' h', Stand p l e R s m args below meth c T' (locs ++ [⟨a, j.toNatClampNeg⟩]) cells slots ∧ T'.heap = h' ∧ Wr h h' a j.toNatClampNeg (.int v) ∧ Arv Z h' a k .int z (vs.set i (.int v)) dv ∧ ∀ target, Steps p.tables e below (T'.setTop (mkF m pc' L S)) target → Steps p.tables e below (T.setTop (mkF m pc L (.int v :: .int j :: .ref a :: S))) target := by
  subst hp
  obtain ⟨cl, A, q1, q2, q3, H, G⟩ := F
  obtain ⟨T', h', X', e', W, st⟩ := Jvm.RoadKit.stI X hx hZ eT A (j := j) (inb_of q2 hin) (g := mkF m pc L (.int v :: .int j :: .ref a :: S)) rfl rfl (hb hby hd)
  exact ⟨T', h', X', e', W, Arv.set A q1 q2 q3 H G rfl W i hj hi, st⟩
theorem mlaload (pc' : Nat) (X : Stand p l e R s m args below meth c T locs cells slots) (hx : p.tables.exec = Jvm.exec) (hby : c.code = code) (hZ : Z.Warmed39 s.vm) (eT : T.heap = h) (F : Arv Z h a k .long z vs dv) {v : Int64} (hd : decode code pc = .ok (.laload, 1)) (hin : ¬ j < 0 ∧ j < z) (hv : vs.getD j.toNatClampNeg dv = .long v) (hp : pc + 1 = pc') (hr : Steps p.tables e below (T.setTop (mkF m pc' L (.long v :: S))) target) : Steps p.tables e below (T.setTop (mkF m pc L (.int j :: .ref a :: S))) target := by
  subst hp
  obtain ⟨cl, A, -, q2, q3, H, -⟩ := F
  have hb' := inb_of q2 hin
  exact X.laload hx (j := j) (v := .long v) (by rw [eT]; exact A.1) (State.isArrayOf_alike hZ.alike A.2.1) A.2.2 hb' (H.at hb' hv) (g := mkF m pc L (.int j :: .ref a :: S)) rfl rfl (hb hby hd) _ hr
theorem own_stJ (X : Stand p l e R s m args below meth c T locs cells slots) (hx : p.tables.exec = Jvm.exec) (hby : c.code = code) (hZ : Z.Warmed39 s.vm) (eT : T.heap = h) (F : Arv Z h a k .long z vs dv) {v : Int64} (hd : decode code pc = .ok (.lastore, 1)) (hin : ¬ j < 0 ∧ j < z) (i : Nat) (hj : j.toNatClampNeg = i) (hi : i < vs.length) (L : Array Slot) (S : List Value) (pc' : Nat) (hp : pc + 1 = pc') :
    ∃ T' h', Stand p l e R s m args below meth c T' (locs ++ [⟨a, j.toNatClampNeg⟩]) cells slots ∧ T'.heap = h' ∧ Wr h h' a j.toNatClampNeg (.long v) ∧ Arv Z h' a k .long z (vs.set i (.long v)) dv ∧ ∀ target, Steps p.tables e below (T'.setTop (mkF m pc' L S)) target → Steps p.tables e below (T.setTop (mkF m pc L (.long v :: .int j :: .ref a :: S))) target := by
  subst hp
  obtain ⟨cl, A, q1, q2, q3, H, G⟩ := F
  obtain ⟨T', h', X', e', W, st⟩ := Jvm.RoadKit.stJ X hx hZ eT A (j := j) (inb_of q2 hin) (g := mkF m pc L (.long v :: .int j :: .ref a :: S)) rfl rfl (hb hby hd)
  exact ⟨T', h', X', e', W, Arv.set A q1 q2 q3 H G rfl W i hj hi, st⟩
theorem mdaload (pc' : Nat) (X : Stand p l e R s m args below meth c T locs cells slots) (hx : p.tables.exec = Jvm.exec) (hby : c.code = code) (hZ : Z.Warmed39 s.vm) (eT : T.heap = h) (F : Arv Z h a k .double z vs dv) {v : UInt64} (hd : decode code pc = .ok (.daload, 1)) (hin : ¬ j < 0 ∧ j < z) (hv : vs.getD j.toNatClampNeg dv = .double v) (hp : pc + 1 = pc') (hr : Steps p.tables e below (T.setTop (mkF m pc' L (.double v :: S))) target) : Steps p.tables e below (T.setTop (mkF m pc L (.int j :: .ref a :: S))) target := by
  subst hp
  obtain ⟨cl, A, -, q2, q3, H, -⟩ := F
  have hb' := inb_of q2 hin
  exact X.daload hx (j := j) (v := .double v) (by rw [eT]; exact A.1) (State.isArrayOf_alike hZ.alike A.2.1) A.2.2 hb' (H.at hb' hv) (g := mkF m pc L (.int j :: .ref a :: S)) rfl rfl (hb hby hd) _ hr
theorem own_stD (X : Stand p l e R s m args below meth c T locs cells slots) (hx : p.tables.exec = Jvm.exec) (hby : c.code = code) (hZ : Z.Warmed39 s.vm) (eT : T.heap = h) (F : Arv Z h a k .double z vs dv) {v : UInt64} (hd : decode code pc = .ok (.dastore, 1)) (hin : ¬ j < 0 ∧ j < z) (i : Nat) (hj : j.toNatClampNeg = i) (hi : i < vs.length) (L : Array Slot) (S : List Value) (pc' : Nat) (hp : pc + 1 = pc') :
    ∃ T' h', Stand p l e R s m args below meth c T' (locs ++ [⟨a, j.toNatClampNeg⟩]) cells slots ∧ T'.heap = h' ∧ Wr h h' a j.toNatClampNeg (.double v) ∧ Arv Z h' a k .double z (vs.set i (.double v)) dv ∧ ∀ target, Steps p.tables e below (T'.setTop (mkF m pc' L S)) target → Steps p.tables e below (T.setTop (mkF m pc L (.double v :: .int j :: .ref a :: S))) target := by
  subst hp
  obtain ⟨cl, A, q1, q2, q3, H, G⟩ := F
  obtain ⟨T', h', X', e', W, st⟩ := Jvm.RoadKit.stD X hx hZ eT A (j := j) (inb_of q2 hin) (g := mkF m pc L (.double v :: .int j :: .ref a :: S)) rfl rfl (hb hby hd)
  exact ⟨T', h', X', e', W, Arv.set A q1 q2 q3 H G rfl W i hj hi, st⟩
theorem mlen {ty : FieldType} (pc' : Nat) (X : Stand p l e R s m args below meth c T locs cells slots) (hx : p.tables.exec = Jvm.exec) (hby : c.code = code) (hZ : Z.Warmed39 s.vm) (eT : T.heap = h) (F : Arv Z h a k ty z vs dv) (hd : decode code pc = .ok (.arraylength, 1)) (hp : pc + 1 = pc') (hr : Steps p.tables e below (T.setTop (mkF m pc' L (.int z :: S))) target) : Steps p.tables e below (T.setTop (mkF m pc L (.ref a :: S))) target := by
  subst hp
  obtain ⟨cl, A, -, q2, q3, -, -⟩ := F
  refine X.arraylength hx (by rw [eT]; exact A.1) (State.isArrayOf_alike hZ.alike A.2.1) (g := mkF m pc L (.ref a :: S)) rfl rfl (hb hby hd) _ ?_
  rw [len_of q2 q3]
  exact hr
end Arrays
end Jvm.OwnSt
namespace Jvm.OwnFl
open Jvm.FP Jvm.FP.Core Jvm.Free.Fl Jvm.Op
/-- a double's value, in units of 2^-1074 -/
def zv (a : UInt64) : Int := zval b64 (val64 a)
theorem vv_ddiv (a b : UInt64) : val64 (FP.ddiv a b) = quotient b64 (val64 a) (val64 b) := val64_ddiv a b
theorem vv_dmul (a b : UInt64) : val64 (FP.dmul a b) = round b64 (exactProduct (val64 a) (val64 b)) := val64_dmul a b
theorem vv_dadd (a b : UInt64) : val64 (FP.dadd a b) = round b64 (exactSum (val64 a) (val64 b)) := val64_dadd a b
theorem vv_dsub (a b : UInt64) : val64 (FP.dsub a b) = round b64 (exactSum (val64 a) (negate (val64 b))) := val64_dsub a b
/-- one, in these units -/
def ONE : Int := (one64 : Int)
theorem one_pos : 0 < ONE := Int.natCast_pos.mpr one64_pos
theorem qm : b64.qmin = -1074 := qmin_b64
theorem one_qm : (2 : Nat) ^ (-b64.qmin).toNat = one64 := pow_qmin64
theorem own_quot (f : Fmt) (s t : Bool) (c d : Nat) (q r : Int) : quotient f (.fin s c q) (.fin t d r) = if d = 0 then (if c = 0 then .nan else .inf (s != t)) else roundRatio f (s != t) c d (q - r) := rfl
theorem own_inU (c : Nat) (q e : Int) : inUnits c q e = c * 2 ^ (q - e).toNat := rfl
theorem pow3 {a b c d : Nat} (x : Nat) (h : a + b = c + d) : x * 2 ^ a * 2 ^ b = x * 2 ^ c * 2 ^ d := by
  rw [Nat.mul_assoc, ← Nat.pow_add, h, Nat.pow_add, ← Nat.mul_assoc]
section Mag
variable {s t : Bool} {c d : Nat} {q r : Int} {V : Datum}
theorem scale_quot (h1 : b64.qmin ≤ q) (h2 : b64.qmin ≤ r) :
    c * 2 ^ (q - r - min b64.qmin (q - r)).toNat * 2 ^ (r - b64.qmin).toNat = c * 2 ^ (q - b64.qmin).toNat * one64 * 2 ^ (b64.qmin - min b64.qmin (q - r)).toNat := by
  rw [← one_qm]
  have e : (q - r - min b64.qmin (q - r)).toNat + (r - b64.qmin).toNat = ((q - b64.qmin).toNat + (-b64.qmin).toNat) + (b64.qmin - min b64.qmin (q - r)).toNat := by
    have := qm; omega
  rw [Nat.mul_assoc, ← Nat.pow_add, e, Nat.pow_add, Nat.pow_add]
  simp only [Nat.mul_assoc]
theorem quot_mag_le (hx : FP.Core.fits b64 (.fin s c q)) (hy : FP.Core.fits b64 (.fin t d r)) (hd : d ≠ 0) (hV : FP.Core.fits b64 V) (hn : V ≠ .nan)
    (h : inUnits c q b64.qmin * one64 ≤ zmag b64 V * inUnits d r b64.qmin) : zmag b64 (roundRatio b64 (s != t) c d (q - r)) ≤ zmag b64 V := by
  refine zmag_roundRatio_le good_b64 (e0 := min b64.qmin (q - r)) (Nat.pos_of_ne_zero hd) hV hn (by omega) (by omega) ?_
  have h1 := hx.2.1
  have h2 := hy.2.1
  have hP := Nat.two_pow_pos (r - b64.qmin).toNat
  refine Nat.le_of_mul_le_mul_right (c := 2 ^ (r - b64.qmin).toNat) ?_ hP
  rw [own_inU] at h ⊢
  rw [own_inU] at h
  rw [scale_quot h1 h2]
  have := Nat.mul_le_mul_right (2 ^ (b64.qmin - min b64.qmin (q - r)).toNat) h
  refine Nat.le_trans this (Nat.le_of_eq ?_)
  simp only [Nat.mul_assoc, Nat.mul_left_comm, Nat.mul_comm]
theorem quot_mag_ge (hx : FP.Core.fits b64 (.fin s c q)) (hy : FP.Core.fits b64 (.fin t d r)) (hd : d ≠ 0) (hV : FP.Core.fits b64 V)
    (h : zmag b64 V * inUnits d r b64.qmin ≤ inUnits c q b64.qmin * one64) : zmag b64 V ≤ zmag b64 (roundRatio b64 (s != t) c d (q - r)) := by
  refine zmag_roundRatio_ge good_b64 (e0 := min b64.qmin (q - r)) (Nat.pos_of_ne_zero hd) hV (by omega) (by omega) ?_
  have h1 := hx.2.1
  have h2 := hy.2.1
  have hP := Nat.two_pow_pos (r - b64.qmin).toNat
  refine Nat.le_of_mul_le_mul_right (c := 2 ^ (r - b64.qmin).toNat) ?_ hP
  rw [own_inU] at h ⊢
  rw [own_inU] at h
  rw [scale_quot h1 h2]
  have := Nat.mul_le_mul_right (2 ^ (b64.qmin - min b64.qmin (q - r)).toNat) h
  refine Nat.le_trans (Nat.le_of_eq ?_) this
  simp only [Nat.mul_assoc, Nat.mul_left_comm, Nat.mul_comm]
end Mag
theorem fin_at {a : UInt64} (h : DFin a) : ∃ s c q, val64 a = .fin s c q ∧ FP.Core.fits b64 (.fin s c q) ∧ zv a = signed s (inUnits c q b64.qmin) := by
  obtain ⟨s, c, q, e⟩ := h
  have f := val64_fits a
  rw [e] at f
  exact ⟨s, c, q, e, f, by unfold zv; rw [e]; rfl⟩
theorem units_zero {d : Nat} {r : Int} : inUnits d r b64.qmin = 0 ↔ d = 0 := by
  rw [own_inU]
  have hP := Nat.two_pow_pos (r - b64.qmin).toNat
  constructor
  · intro h
    rcases Nat.mul_eq_zero.mp h with h | h
    · exact h
    · omega
  · rintro rfl; simp
theorem div_core {a b V : UInt64} (ha : DFin a) (hb : DFin b) (hz : zv b ≠ 0) (hV : val64 V ≠ .nan) :
    ∃ (U A D W : Nat) (s t w : Bool) (M : Nat), ONE = (U : Int) ∧ zv a = signed s A ∧ zv b = signed t D ∧ 0 < D ∧ zv V = signed w W ∧ val64 (FP.ddiv a b) ≠ .nan ∧ zv (FP.ddiv a b) = signed (s != t) M ∧ (A * U ≤ W * D → M ≤ W) ∧ (W * D ≤ A * U → W ≤ M) := by
  obtain ⟨s, c, q, e1, f1, z1⟩ := fin_at ha
  obtain ⟨t, d, r, e2, f2, z2⟩ := fin_at hb
  have hd : d ≠ 0 := by
    rintro rfl
    apply hz; rw [z2, units_zero.mpr rfl]; exact signed_zero t
  have e3 : val64 (FP.ddiv a b) = roundRatio b64 (s != t) c d (q - r) := by
    rw [vv_ddiv, e1, e2, own_quot, if_neg hd]
  have fV := val64_fits V
  refine ⟨one64, _, _, zmag b64 (val64 V), s, t, sgn (val64 V), zmag b64 (roundRatio b64 (s != t) c d (q - r)), rfl, z1, z2, ?_, rfl, ?_, ?_, quot_mag_le f1 f2 hd fV hV, quot_mag_ge f1 f2 hd fV⟩
  · exact Nat.pos_of_ne_zero fun h => hd (units_zero.mp h)
  · rw [e3]; exact roundRatio_ne_nan _ _ _ _ _
  · unfold zv; rw [e3]; unfold zval; rw [sgn_roundRatio]
theorem sg_t (n : Nat) : signed true n = -(n : Int) := rfl
theorem sg_f (n : Nat) : signed false n = (n : Int) := rfl
theorem div_le_pos {a b V : UInt64} (ha : DFin a) (hb : DFin b) (hz : 0 < zv b) (hV : val64 V ≠ .nan) (h : zv a * ONE ≤ zv V * zv b) : zv (FP.ddiv a b) ≤ zv V := by
  obtain ⟨U, A, D, W, s, t, w, M, e0, e1, e2, hD, e3, -, e4, l1, l2⟩ := div_core ha hb (by omega) hV
  rw [e1, e2, e3] at h
  rw [e2] at hz
  rw [e3, e4]
  obtain rfl : t = false := by cases t <;> simp only [sg_t, sg_f] at hz <;> first | rfl | omega
  rw [sg_f, e0, ← signed_mul, ← signed_mul] at h
  have hz2 : W * D = 0 → W = 0 := fun x => (Nat.mul_eq_zero.mp x).elim id (fun y => by omega)
  generalize A * U = P at *
  generalize W * D = R at *
  cases s <;> cases w <;> simp only [sg_t, sg_f, Bool.bne_false, bne_self_eq_false] at h ⊢
  · have := l1 (by omega); omega
  · have := l1 (by omega); have := hz2 (by omega); omega
  · omega
  · have := l2 (by omega); omega
theorem div_ge_pos {a b V : UInt64} (ha : DFin a) (hb : DFin b) (hz : 0 < zv b) (hV : val64 V ≠ .nan) (h : zv V * zv b ≤ zv a * ONE) : zv V ≤ zv (FP.ddiv a b) := by
  obtain ⟨U, A, D, W, s, t, w, M, e0, e1, e2, hD, e3, -, e4, l1, l2⟩ := div_core ha hb (by omega) hV
  rw [e1, e2, e3] at h
  rw [e2] at hz
  rw [e3, e4]
  obtain rfl : t = false := by cases t <;> simp only [sg_t, sg_f] at hz <;> first | rfl | omega
  rw [sg_f, e0, ← signed_mul, ← signed_mul] at h
  have hz2 : W * D = 0 → W = 0 := fun x => (Nat.mul_eq_zero.mp x).elim id (fun y => by omega)
  generalize A * U = P at *
  generalize W * D = R at *
  cases s <;> cases w <;> simp only [sg_t, sg_f, Bool.bne_false, bne_self_eq_false] at h ⊢
  · have := l2 (by omega); omega
  · omega
  · have := l1 (by omega); have := hz2 (by omega); omega
  · have := l1 (by omega); omega
theorem div_le_neg {a b V : UInt64} (ha : DFin a) (hb : DFin b) (hz : zv b < 0) (hV : val64 V ≠ .nan) (h : zv V * zv b ≤ zv a * ONE) : zv (FP.ddiv a b) ≤ zv V := by
  obtain ⟨U, A, D, W, s, t, w, M, e0, e1, e2, hD, e3, -, e4, l1, l2⟩ := div_core ha hb (by omega) hV
  rw [e1, e2, e3] at h
  rw [e2] at hz
  rw [e3, e4]
  obtain rfl : t = true := by cases t <;> simp only [sg_t, sg_f] at hz <;> first | rfl | omega
  rw [sg_t, Int.mul_neg, e0, ← signed_mul, ← signed_mul] at h
  have hz2 : W * D = 0 → W = 0 := fun x => (Nat.mul_eq_zero.mp x).elim id (fun y => by omega)
  generalize A * U = P at *
  generalize W * D = R at *
  cases s <;> cases w <;> simp only [sg_t, sg_f, Bool.bne_true, Bool.not_true, Bool.not_false] at h ⊢
  · omega
  · have := l2 (by omega); omega
  · have := l1 (by omega); omega
  · have := l1 (by omega); have := hz2 (by omega); omega
theorem div_ge_neg {a b V : UInt64} (ha : DFin a) (hb : DFin b) (hz : zv b < 0) (hV : val64 V ≠ .nan) (h : zv a * ONE ≤ zv V * zv b) : zv V ≤ zv (FP.ddiv a b) := by
  obtain ⟨U, A, D, W, s, t, w, M, e0, e1, e2, hD, e3, -, e4, l1, l2⟩ := div_core ha hb (by omega) hV
  rw [e1, e2, e3] at h
  rw [e2] at hz
  rw [e3, e4]
  obtain rfl : t = true := by cases t <;> simp only [sg_t, sg_f] at hz <;> first | rfl | omega
  rw [sg_t, Int.mul_neg, e0, ← signed_mul, ← signed_mul] at h
  have hz2 : W * D = 0 → W = 0 := fun x => (Nat.mul_eq_zero.mp x).elim id (fun y => by omega)
  generalize A * U = P at *
  generalize W * D = R at *
  cases s <;> cases w <;> simp only [sg_t, sg_f, Bool.bne_true, Bool.not_true, Bool.not_false] at h ⊢
  · have := l1 (by omega); have := hz2 (by omega); omega
  · have := l1 (by omega); omega
  · have := l2 (by omega); omega
  · omega
theorem div_nan {a b : UInt64} (ha : DFin a) (hb : DFin b) (hz : zv b ≠ 0) : val64 (FP.ddiv a b) ≠ .nan := by
  obtain ⟨U, A, D, W, s, t, w, M, -, -, -, -, -, h, -⟩ := div_core (V := a) ha hb hz ha.ne_nan
  exact h
theorem no_of {x : UInt64} (h : val64 x ≠ .nan) : NoNaN64 x := noNaN64_no.mpr ((notNaN_iff x).mpr h)
theorem of_no {x : UInt64} (h : NoNaN64 x) : val64 x ≠ .nan := (notNaN_iff x).mp (noNaN64_no.mp h)
theorem fin_no {x : UInt64} (h : DFin x) : NoNaN64 x := no_of h.ne_nan
/-- as great as a finite one: finite -/
theorem fin_of_eq {a V : UInt64} (hn : val64 a ≠ .nan) (hV : DFin V) (h : zv a = zv V) : DFin a := by
  cases e : val64 a with
  | nan => exact absurd e hn
  | fin s c q => exact ⟨s, c, q, e⟩
  | inf s =>
    exfalso
    have h1 := hV.zval_lt
    have h2 : (zv a).natAbs = b64.tails * 2 ^ (b64.exps - 2) := by unfold zv; rw [e]; exact natAbs_signed _ _
    have h3 : (zv V).natAbs = zmag b64 (val64 V) := natAbs_signed _ _
    rw [h] at h2
    omega
theorem fin_of_le {a V W : UInt64} (hn : val64 a ≠ .nan) (hV : DFin V) (hW : DFin W) (h : zv V ≤ zv a) (h' : zv a ≤ zv W) : DFin a := by
  cases e : val64 a with
  | nan => exact absurd e hn
  | fin s c q => exact ⟨s, c, q, e⟩
  | inf s =>
    exfalso
    have h1 := hV.zval_lt
    have h1' := hW.zval_lt
    have h2 : (zv a).natAbs = b64.tails * 2 ^ (b64.exps - 2) := by unfold zv; rw [e]; exact natAbs_signed _ _
    have h3 : (zv V).natAbs = zmag b64 (val64 V) := natAbs_signed _ _
    have h3' : (zv W).natAbs = zmag b64 (val64 W) := natAbs_signed _ _
    omega
/-! a finite double of a known value -/
def Dy (a : UInt64) (x : Int) : Prop := DFin a ∧ zv a = x
def Rep (x : Int) : Prop := ∃ V, Dy V x
theorem Dy.rep {a : UInt64} {x : Int} (h : Dy a x) : Rep x := ⟨a, h⟩
theorem Dy.no {a : UInt64} {x : Int} (h : Dy a x) : NoNaN64 a := fin_no h.1
theorem Dy.nn {a : UInt64} {x : Int} (h : Dy a x) : val64 a ≠ .nan := h.1.ne_nan
theorem dy_div {a b : UInt64} {x y z : Int} (ha : Dy a x) (hb : Dy b y) (hy : y ≠ 0) (hz : Rep z) (h : z * y = x * ONE) : Dy (FP.ddiv a b) z := by
  obtain ⟨V, fV, rfl⟩ := hz
  obtain ⟨fa, rfl⟩ := ha
  obtain ⟨fb, rfl⟩ := hb
  have hn := div_nan fa fb hy
  have e : zv (FP.ddiv a b) = zv V := by
    rcases Int.lt_or_gt_of_ne hy with q | q
    · exact Int.le_antisymm (div_le_neg fa fb q fV.ne_nan (Int.le_of_eq h)) (div_ge_neg fa fb q fV.ne_nan (Int.le_of_eq h.symm))
    · exact Int.le_antisymm (div_le_pos fa fb q fV.ne_nan (Int.le_of_eq h.symm)) (div_ge_pos fa fb q fV.ne_nan (Int.le_of_eq h))
  exact ⟨fin_of_eq hn fV e, e⟩
theorem mul_le {a b V : UInt64} (ha : DFin a) (hb : DFin b) (hV : val64 V ≠ .nan) (h : zv a * zv b ≤ zv V * ONE) : zv (FP.dmul a b) ≤ zv V := by
  obtain ⟨s, c, q, e1, f1, z1⟩ := fin_at ha
  obtain ⟨t, d, r, e2, f2, z2⟩ := fin_at hb
  obtain ⟨p1, p2, p3⟩ := product_units f1 f2
  unfold zv
  rw [vv_dmul, e1, e2, p1]
  refine zval_round_le good_b64 (val64_fits V) hV (e0 := 2 * b64.qmin) (by have := qm; omega) p2 ?_
  rw [p3, signed_xor, show (b64.qmin - 2 * b64.qmin).toNat = (-b64.qmin).toNat by omega, one_qm]
  rw [z1, z2] at h
  exact h
theorem mul_ge {a b V : UInt64} (ha : DFin a) (hb : DFin b) (hV : val64 V ≠ .nan) (h : zv V * ONE ≤ zv a * zv b) : zv V ≤ zv (FP.dmul a b) := by
  obtain ⟨s, c, q, e1, f1, z1⟩ := fin_at ha
  obtain ⟨t, d, r, e2, f2, z2⟩ := fin_at hb
  obtain ⟨p1, p2, p3⟩ := product_units f1 f2
  unfold zv
  rw [vv_dmul, e1, e2, p1]
  refine zval_round_ge good_b64 (val64_fits V) hV (e0 := 2 * b64.qmin) (by have := qm; omega) p2 ?_
  rw [p3, signed_xor, show (b64.qmin - 2 * b64.qmin).toNat = (-b64.qmin).toNat by omega, one_qm]
  rw [z1, z2] at h
  exact h
theorem mul_nan {a b : UInt64} (ha : DFin a) (hb : DFin b) : val64 (FP.dmul a b) ≠ .nan := (notNaN_iff _).mp (dmul_out ha hb)
theorem dy_mul {a b : UInt64} {x y z : Int} (ha : Dy a x) (hb : Dy b y) (hz : Rep z) (h : z * ONE = x * y) : Dy (FP.dmul a b) z := by
  obtain ⟨V, fV, rfl⟩ := hz
  obtain ⟨fa, rfl⟩ := ha
  obtain ⟨fb, rfl⟩ := hb
  have e : zv (FP.dmul a b) = zv V := Int.le_antisymm (mul_le fa fb fV.ne_nan (Int.le_of_eq h.symm)) (mul_ge fa fb fV.ne_nan (Int.le_of_eq h))
  exact ⟨fin_of_eq (mul_nan fa fb) fV e, e⟩
theorem add_le {a b V : UInt64} (ha : DFin a) (hb : DFin b) (hV : val64 V ≠ .nan) (h : zv a + zv b ≤ zv V) : zv (FP.dadd a b) ≤ zv V := by
  unfold zv
  rw [vv_dadd]
  exact sum_le good_b64 ha hb (val64_fits a) (val64_fits b) (val64_fits V) hV h
theorem add_ge {a b V : UInt64} (ha : DFin a) (hb : DFin b) (hV : val64 V ≠ .nan) (h : zv V ≤ zv a + zv b) : zv V ≤ zv (FP.dadd a b) := by
  unfold zv
  rw [vv_dadd]
  exact sum_ge good_b64 ha hb (val64_fits a) (val64_fits b) (val64_fits V) hV h
theorem add_nan {a b : UInt64} (ha : DFin a) (hb : DFin b) : val64 (FP.dadd a b) ≠ .nan := (notNaN_iff _).mp (dadd_out ha.notNaN hb)
theorem dy_add {a b : UInt64} {x y : Int} (ha : Dy a x) (hb : Dy b y) (hz : Rep (x + y)) : Dy (FP.dadd a b) (x + y) := by
  obtain ⟨V, fV, e0⟩ := hz
  obtain ⟨fa, rfl⟩ := ha
  obtain ⟨fb, rfl⟩ := hb
  have e : zv (FP.dadd a b) = zv V := Int.le_antisymm (add_le fa fb fV.ne_nan (Int.le_of_eq e0.symm)) (add_ge fa fb fV.ne_nan (Int.le_of_eq e0))
  exact ⟨fin_of_eq (add_nan fa fb) fV e, e.trans e0⟩
theorem neg_fin {b : UInt64} (hb : DFin b) : ∃ s c q, negate (val64 b) = .fin s c q := by
  obtain ⟨s, c, q, e⟩ := hb
  exact ⟨!s, c, q, by rw [e]; rfl⟩
theorem sub_le {a b V : UInt64} (ha : DFin a) (hb : DFin b) (hV : val64 V ≠ .nan) (h : zv a - zv b ≤ zv V) : zv (FP.dsub a b) ≤ zv V := by
  unfold zv
  rw [vv_dsub]
  refine sum_le good_b64 ha (neg_fin hb) (val64_fits a) (negate_fits (val64_fits b)) (val64_fits V) hV ?_
  rw [zval_negate]; unfold zv at h; omega
theorem sub_ge {a b V : UInt64} (ha : DFin a) (hb : DFin b) (hV : val64 V ≠ .nan) (h : zv V ≤ zv a - zv b) : zv V ≤ zv (FP.dsub a b) := by
  unfold zv
  rw [vv_dsub]
  refine sum_ge good_b64 ha (neg_fin hb) (val64_fits a) (negate_fits (val64_fits b)) (val64_fits V) hV ?_
  rw [zval_negate]; unfold zv at h; omega
theorem sub_nan {a b : UInt64} (ha : DFin a) (hb : DFin b) : val64 (FP.dsub a b) ≠ .nan := (notNaN_iff _).mp (dsub_out ha.notNaN hb)
theorem dy_sub {a b : UInt64} {x y : Int} (ha : Dy a x) (hb : Dy b y) (hz : Rep (x - y)) : Dy (FP.dsub a b) (x - y) := by
  obtain ⟨V, fV, e0⟩ := hz
  obtain ⟨fa, rfl⟩ := ha
  obtain ⟨fb, rfl⟩ := hb
  have e : zv (FP.dsub a b) = zv V := Int.le_antisymm (sub_le fa fb fV.ne_nan (Int.le_of_eq e0.symm)) (sub_ge fa fb fV.ne_nan (Int.le_of_eq e0))
  exact ⟨fin_of_eq (sub_nan fa fb) fV e, e.trans e0⟩
theorem dy_i2d (n : Int32) : Dy (FP.i2d n) (n.toInt * ONE) := ⟨Core.i2d_fin n, DInt_zval (i2d_int n)⟩
theorem dy_l2d {n : Int64} (h : n.toInt.natAbs ≤ 2 ^ 53) : Dy (FP.l2d n) (n.toInt * ONE) := ⟨Core.l2d_fin n, DInt_zval (l2d_int h)⟩
theorem rep_nat (s : Bool) (n j : Nat) (hn : n < 2 ^ 53) (hj : j ≤ 1074) : Rep (signed s (n * 2 ^ (1074 - j))) := by
  obtain ⟨c, q, h1, h2⟩ := round_exact good_b64 s (c := n) (q := -(j : Int)) hn (by rw [qm]; omega) (by rw [show b64.qmax = 971 by decide +kernel]; omega)
  have e : val64 (of64 (round b64 (.fin s n (-(j : Int))))) = .fin s c q := by rw [val64_of64 (round_fits good_b64 _), h1]
  refine ⟨of64 (round b64 (.fin s n (-(j : Int)))), ⟨s, c, q, e⟩, ?_⟩
  unfold zv; rw [e]
  show signed s (inUnits c q b64.qmin) = _
  rw [h2, own_inU, qm, show (-(j : Int) - -1074).toNat = 1074 - j by omega]
/-- n / 2^j is a double -/
theorem rep_int (n : Int) (j : Nat) (hn : n.natAbs < 2 ^ 53) (hj : j ≤ 1074) : Rep (n * ((2 ^ (1074 - j) : Nat) : Int)) := by
  have h := rep_nat (decide (n < 0)) n.natAbs j hn hj
  rw [signed_mul] at h
  have e : signed (decide (n < 0)) n.natAbs = n := by
    by_cases q : n < 0
    · simp only [q, decide_true, sg_t]; omega
    · simp only [q, decide_false, sg_f]; omega
  rwa [e] at h
theorem rep_whole (n : Int) (hn : n.natAbs < 2 ^ 53) : Rep (n * ONE) := rep_int n 0 hn (by decide)
theorem cv {a b : UInt64} (ha : val64 a ≠ .nan) (hb : val64 b ≠ .nan) (o : ClassFile.CmpOp) : cmpValue (FP.dcmp a b) o = if zv a < zv b then -1 else if zv a = zv b then 0 else 1 := by
  rw [show FP.dcmp a b = some (compare (zv a) (zv b)) from dcmp_zval ha hb, compare_ite]
  by_cases h1 : zv a < zv b
  · rw [if_pos h1, if_pos h1]; rfl
  · rw [if_neg h1, if_neg h1]
    by_cases h2 : zv a = zv b
    · rw [if_pos h2, if_pos h2]; rfl
    · rw [if_neg h2, if_neg h2]; rfl
theorem cv_lt {a b : UInt64} (ha : val64 a ≠ .nan) (hb : val64 b ≠ .nan) (o : ClassFile.CmpOp) : cmpValue (FP.dcmp a b) o < 0 ↔ zv a < zv b := by
  rw [cv ha hb]
  by_cases h1 : zv a < zv b
  · rw [if_pos h1]; exact ⟨fun _ => h1, fun _ => by decide⟩
  · by_cases h2 : zv a = zv b
    · rw [if_neg h1, if_pos h2]; exact ⟨fun h => absurd h (by decide), fun h => absurd h h1⟩
    · rw [if_neg h1, if_neg h2]; exact ⟨fun h => absurd h (by decide), fun h => absurd h h1⟩
theorem cv_gt {a b : UInt64} (ha : val64 a ≠ .nan) (hb : val64 b ≠ .nan) (o : ClassFile.CmpOp) : 0 < cmpValue (FP.dcmp a b) o ↔ zv b < zv a := by
  rw [cv ha hb]
  by_cases h1 : zv a < zv b
  · rw [if_pos h1]; exact ⟨fun h => absurd h (by decide), fun h => by omega⟩
  · by_cases h2 : zv a = zv b
    · rw [if_neg h1, if_pos h2]; exact ⟨fun h => absurd h (by decide), fun h => by omega⟩
    · rw [if_neg h1, if_neg h2]; exact ⟨fun _ => by omega, fun _ => by decide⟩
theorem cv_eq {a b : UInt64} (ha : val64 a ≠ .nan) (hb : val64 b ≠ .nan) (o : ClassFile.CmpOp) : cmpValue (FP.dcmp a b) o = 0 ↔ zv a = zv b := by
  rw [cv ha hb]
  by_cases h1 : zv a < zv b
  · rw [if_pos h1]; exact ⟨fun h => absurd h (by decide), fun h => by omega⟩
  · by_cases h2 : zv a = zv b
    · rw [if_neg h1, if_pos h2]; exact ⟨fun _ => h2, fun _ => rfl⟩
    · rw [if_neg h1, if_neg h2]; exact ⟨fun h => absurd h (by decide), fun h => absurd h h2⟩
theorem dy_zero : Dy 0 0 := ⟨⟨_, _, _, val64_zero⟩, zval64_zero⟩
theorem dy_lit (a : UInt64) (x : Int) (h1 : a.toNat % 2 ^ 63 < 9218868437227405312) (h2 : zval b64 (val64 a) = x) : Dy a x := ⟨(fin_bits a).mpr h1, h2⟩
theorem dy_one : Dy 4607182418800017408 ONE := dy_lit _ _ (by decide) (by have := DInt_zval dint_one; rw [Int.one_mul] at this; exact this)
/-- two quotients of one ratio are one double -/
theorem div_congr {a b a' b' : UInt64} (ha : DFin a) (hb : DFin b) (ha' : DFin a') (hb' : DFin b') (h0 : 0 ≤ zv a) (h0' : 0 ≤ zv a') (hz : 0 < zv b) (hz' : 0 < zv b') (h : zv a * zv b' = zv a' * zv b) : zv (FP.ddiv a b) = zv (FP.ddiv a' b') := by
  obtain ⟨s, c, q, e1, f1, z1⟩ := fin_at ha
  obtain ⟨t, d, r, e2, f2, z2⟩ := fin_at hb
  obtain ⟨s', c', q', e1', f1', z1'⟩ := fin_at ha'
  obtain ⟨t', d', r', e2', f2', z2'⟩ := fin_at hb'
  rw [z1] at h0; rw [z1'] at h0'; rw [z2] at hz; rw [z2'] at hz'
  rw [z1, z1', z2, z2'] at h
  obtain rfl : t = false := by cases t <;> simp only [sg_t, sg_f] at hz <;> first | rfl | omega
  obtain rfl : t' = false := by cases t' <;> simp only [sg_t, sg_f] at hz' <;> first | rfl | omega
  have k1 : signed s (inUnits c q b64.qmin) = (inUnits c q b64.qmin : Int) := by cases s <;> simp only [sg_t, sg_f] at h0 ⊢; omega
  have k2 : signed s' (inUnits c' q' b64.qmin) = (inUnits c' q' b64.qmin : Int) := by cases s' <;> simp only [sg_t, sg_f] at h0' ⊢; omega
  rw [k1, k2, sg_f, sg_f] at h
  have hN : inUnits c q b64.qmin * inUnits d' r' b64.qmin = inUnits c' q' b64.qmin * inUnits d r b64.qmin := by exact_mod_cast h
  have hd : d ≠ 0 := fun x => by rw [x, units_zero.mpr rfl] at hz; simp [sg_f] at hz
  have hd' : d' ≠ 0 := fun x => by rw [x, units_zero.mpr rfl] at hz'; simp [sg_f] at hz'
  have g1 := f1.2.1; have g2 := f2.2.1; have g3 := f1'.2.1; have g4 := f2'.2.1
  have key : zmag b64 (roundRatio b64 (s != false) c d (q - r)) = zmag b64 (roundRatio b64 (s' != false) c' d' (q' - r')) := by
    have E : roundRatio b64 false c d (q - r) = roundRatio b64 false c' d' (q' - r') := by
      refine roundRatio_congr (Nat.pos_of_ne_zero hd) (Nat.pos_of_ne_zero hd') ?_
      simp only [own_inU] at hN
      generalize b64.qmin = Q at *
      have a1 : c * 2 ^ (q - Q).toNat * (d' * 2 ^ (r' - Q).toNat) = c * d' * 2 ^ ((q - Q).toNat + (r' - Q).toNat) := by rw [Nat.pow_add]; simp only [Nat.mul_assoc, Nat.mul_left_comm, Nat.mul_comm]
      have a2 : c' * 2 ^ (q' - Q).toNat * (d * 2 ^ (r - Q).toNat) = c' * d * 2 ^ ((q' - Q).toNat + (r - Q).toNat) := by rw [Nat.pow_add]; simp only [Nat.mul_assoc, Nat.mul_left_comm, Nat.mul_comm]
      rw [a1, a2] at hN
      by_cases hle : (q - r) ≤ (q' - r')
      · have x1 : (q - r - (q' - r')).toNat = 0 := by omega
        rw [x1, Nat.pow_zero, Nat.mul_one]
        have x2 : (q' - Q).toNat + (r - Q).toNat = (q' - r' - (q - r)).toNat + ((q - Q).toNat + (r' - Q).toNat) := by omega
        rw [x2, Nat.pow_add 2 (q' - r' - (q - r)).toNat, ← Nat.mul_assoc] at hN
        exact Nat.eq_of_mul_eq_mul_right (Nat.two_pow_pos _) hN
      · have x1 : (q' - r' - (q - r)).toNat = 0 := by omega
        rw [x1, Nat.pow_zero, Nat.mul_one]
        have x2 : (q - Q).toNat + (r' - Q).toNat = (q - r - (q' - r')).toNat + ((q' - Q).toNat + (r - Q).toNat) := by omega
        rw [x2, Nat.pow_add 2 (q - r - (q' - r')).toNat, ← Nat.mul_assoc] at hN
        exact Nat.eq_of_mul_eq_mul_right (Nat.two_pow_pos _) hN
    have neg : ∀ (u : Bool) (A B : Nat) (x : Int), zmag b64 (roundRatio b64 u A B x) = zmag b64 (roundRatio b64 false A B x) := fun u A B x => by
      cases u
      · rfl
      · have := negate_roundRatio b64 false A B x
        rw [Bool.not_false] at this
        rw [← this]
        cases roundRatio b64 false A B x <;> rfl
    rw [neg, E, ← neg (s' != false)]
  have zd : zv (FP.ddiv a b) = signed (s != false) (zmag b64 (roundRatio b64 (s != false) c d (q - r))) := by
    unfold zv; rw [vv_ddiv, e1, e2, own_quot, if_neg hd]; unfold zval; rw [sgn_roundRatio]
  have zd' : zv (FP.ddiv a' b') = signed (s' != false) (zmag b64 (roundRatio b64 (s' != false) c' d' (q' - r'))) := by
    unfold zv; rw [vv_ddiv, e1', e2', own_quot, if_neg hd']; unfold zval; rw [sgn_roundRatio]
  have ge1 : 0 ≤ zv (FP.ddiv a b) := by
    have := div_ge_pos ha hb (by rw [z2, sg_f]; rw [sg_f] at hz; exact hz) (V := 0) dy_zero.nn (by rw [dy_zero.2, Int.zero_mul, z1, k1]; exact Int.mul_nonneg (by omega) (by have := one_pos; omega))
    rw [dy_zero.2] at this; exact this
  have ge2 : 0 ≤ zv (FP.ddiv a' b') := by
    have := div_ge_pos ha' hb' (by rw [z2', sg_f]; rw [sg_f] at hz'; exact hz') (V := 0) dy_zero.nn (by rw [dy_zero.2, Int.zero_mul, z1', k2]; exact Int.mul_nonneg (by omega) (by have := one_pos; omega))
    rw [dy_zero.2] at this; exact this
  rw [zd] at ge1 ⊢; rw [zd'] at ge2 ⊢
  rw [key] at ge1 ⊢
  generalize zmag b64 (roundRatio b64 (s' != false) c' d' (q' - r')) = M at *
  cases s <;> cases s' <;> simp only [sg_t, sg_f, Bool.bne_false, bne_self_eq_false] at ge1 ge2 ⊢ <;> omega
theorem one_le {x y : Int} : x * ONE ≤ y * ONE ↔ x ≤ y := ⟨fun h => Int.le_of_mul_le_mul_right h one_pos, fun h => Int.mul_le_mul_of_nonneg_right h (Int.le_of_lt one_pos)⟩
theorem one_lt {x y : Int} : x * ONE < y * ONE ↔ x < y := ⟨fun h => Int.lt_of_mul_lt_mul_right h (Int.le_of_lt one_pos), fun h => Int.mul_lt_mul_of_pos_right h one_pos⟩
theorem one_eq {x y : Int} : x * ONE = y * ONE ↔ x = y := ⟨fun h => Int.le_antisymm (one_le.mp (Int.le_of_eq h)) (one_le.mp (Int.le_of_eq h.symm)), fun h => h ▸ rfl⟩
theorem mul_bd {a b : Int} {A B : Nat} (ha : a.natAbs ≤ A) (hb : b.natAbs ≤ B) : (a * b).natAbs ≤ A * B := by rw [Int.natAbs_mul]; exact Nat.mul_le_mul ha hb
/-- comparison of two doubles that are whole numbers -/
theorem cw_lt {a b : UInt64} {x y : Int} (ha : Dy a (x * ONE)) (hb : Dy b (y * ONE)) (o : ClassFile.CmpOp) : cmpValue (FP.dcmp a b) o < 0 ↔ x < y := by rw [cv_lt ha.nn hb.nn, ha.2, hb.2, one_lt]
theorem cw_gt {a b : UInt64} {x y : Int} (ha : Dy a (x * ONE)) (hb : Dy b (y * ONE)) (o : ClassFile.CmpOp) : 0 < cmpValue (FP.dcmp a b) o ↔ y < x := by rw [cv_gt ha.nn hb.nn, ha.2, hb.2, one_lt]
theorem cw_eq {a b : UInt64} {x y : Int} (ha : Dy a (x * ONE)) (hb : Dy b (y * ONE)) (o : ClassFile.CmpOp) : cmpValue (FP.dcmp a b) o = 0 ↔ x = y := by rw [cv_eq ha.nn hb.nn, ha.2, hb.2, one_eq]
theorem dy_zero' : Dy 0 (0 * ONE) := by rw [Int.zero_mul]; exact dy_zero
theorem dw_add {a b : UInt64} {x y : Int} (ha : Dy a (x * ONE)) (hb : Dy b (y * ONE)) (h : (x + y).natAbs < 2 ^ 53) : Dy (FP.dadd a b) ((x + y) * ONE) := by
  have := dy_add ha hb (by rw [← Int.add_mul]; exact rep_whole _ h)
  rwa [← Int.add_mul] at this
theorem dw_sub {a b : UInt64} {x y : Int} (ha : Dy a (x * ONE)) (hb : Dy b (y * ONE)) (h : (x - y).natAbs < 2 ^ 53) : Dy (FP.dsub a b) ((x - y) * ONE) := by
  have := dy_sub ha hb (by rw [← Int.sub_mul]; exact rep_whole _ h)
  rwa [← Int.sub_mul] at this
theorem dw_mul {a b : UInt64} {x y : Int} (ha : Dy a (x * ONE)) (hb : Dy b (y * ONE)) (h : (x * y).natAbs < 2 ^ 53) : Dy (FP.dmul a b) ((x * y) * ONE) :=
  dy_mul ha hb (rep_whole _ h) (by simp only [Int.mul_assoc, Int.mul_left_comm, Int.mul_comm])
/-- twice a double that isn't too great is a double -/
theorem rep_dbl {a : UInt64} (h : DFin a) (hs : zmag b64 (val64 a) < 2 ^ 2000) : Rep (zv a + zv a) := by
  obtain ⟨s, c, q, e, f, z⟩ := fin_at h
  have hz : zmag b64 (val64 a) = inUnits c q b64.qmin := by rw [e]; rfl
  rw [hz, own_inU] at hs
  by_cases hc : c = 0
  · subst hc
    refine ⟨0, ⟨_, _, _, val64_zero⟩, ?_⟩
    rw [z, own_inU, Nat.zero_mul, signed_zero]; exact zval64_zero
  have hq : q + 1 ≤ b64.qmax := by
    rw [show b64.qmax = 971 by decide +kernel]
    refine Int.not_lt.mp fun r => ?_
    have k : 2 ^ 2000 ≤ 2 ^ (q - b64.qmin).toNat := Nat.pow_le_pow_right (by decide) (by rw [qm]; omega)
    have : 2 ^ (q - b64.qmin).toNat ≤ c * 2 ^ (q - b64.qmin).toNat := Nat.le_mul_of_pos_left _ (Nat.pos_of_ne_zero hc)
    omega
  have f2 := f.2.1
  obtain ⟨c', q', h1, h2⟩ := round_exact good_b64 s (c := c) (q := q + 1) f.1 (by omega) hq
  have e' : val64 (of64 (round b64 (.fin s c (q + 1)))) = .fin s c' q' := by rw [val64_of64 (round_fits good_b64 _), h1]
  refine ⟨of64 (round b64 (.fin s c (q + 1))), ⟨s, c', q', e'⟩, ?_⟩
  unfold zv; rw [e', e]
  show signed s (inUnits c' q' b64.qmin) = signed s (inUnits c q b64.qmin) + signed s (inUnits c q b64.qmin)
  rw [h2, own_inU, own_inU, show (q + 1 - b64.qmin).toNat = (q - b64.qmin).toNat + 1 by omega, Nat.pow_succ]
  generalize 2 ^ (q - b64.qmin).toNat = P
  have : c * (P * 2) = c * P + c * P := by rw [← Nat.mul_assoc, Nat.mul_two]
  rw [this]
  cases s
  · simp only [sg_f]; omega
  · simp only [sg_t]; omega
theorem l2d_small (n : Int64) : zmag b64 (val64 (FP.l2d n)) < 2 ^ 2000 := by
  have h := Core.l2d_mag n
  obtain ⟨s, c, q, e, k⟩ := mag_bits h (by decide)
  rw [e]
  show inUnits c q b64.qmin < _
  rw [own_inU]
  refine Nat.lt_of_lt_of_le k ?_
  rw [← Nat.pow_add]
  exact Nat.pow_le_pow_right (by decide) (by decide)
/-- a finite double's test of being finite -/
theorem mask_fin {a : UInt64} (h : DFin a) (o : ClassFile.CmpOp) : ¬ (0 < cmpValue (FP.dcmp (a &&& 0x7fffffffffffffff) 9218868437227405311) o) := by
  have q := (le_max h.notNaN).mpr h
  intro r
  rcases q with q | q
  · rw [show FP.dcmp (a &&& 0x7fffffffffffffff) 9218868437227405311 = some .lt from q] at r; cases o <;> exact absurd r (by decide)
  · rw [show FP.dcmp (a &&& 0x7fffffffffffffff) 9218868437227405311 = some .eq from q] at r; cases o <;> exact absurd r (by decide)
end Jvm.OwnFl
namespace Jvm.Pilot.@@N@@
open Jvm Jvm.ClassFile Sem Op Lib Jvm.Free Jvm.Stand Jvm.LawKit Jvm.RoadKit Jvm.OwnSt Bundle Jvm.Pilot.@@N@@.Jvm.D
theorem own_cases (p : Int32) : (p &&& 3) = 0 ∨ (p &&& 3) = 1 ∨ (p &&& 3) = 2 ∨ (p &&& 3) = 3 := by
  have h := Jvm.Kit.i32_mask p 3 (k := 2) (by decide) (by decide)
  have k : ∀ j : Int32, (p &&& 3).toInt = j.toInt → p &&& 3 = j := fun j q => Int32.toInt_inj.mp q
  have c : (p &&& 3).toInt = 0 ∨ (p &&& 3).toInt = 1 ∨ (p &&& 3).toInt = 2 ∨ (p &&& 3).toInt = 3 := by omega
  exact c.imp (k 0) (Or.imp (k 1) (Or.imp (k 2) (k 3)))
theorem own_s {p x4 x5 x6 : Int32} (h4 : x4 = (p &&& (1 : Int32))) (h5 : x5 = ((x4 + (1 : Int32)) + (((p.toUInt32 >>> ((1 : Int32) &&& 31).toUInt32).toInt32) &&& (1 : Int32)))) (h6 : x6 = ((x5 + (1 : Int32)) + (((p.toUInt32 >>> ((2 : Int32) &&& 31).toUInt32).toInt32) &&& (1 : Int32)))) : (0 ≤ x4.toInt ∧ x4.toInt ≤ 5) ∧ (0 ≤ x5.toInt ∧ x5.toInt ≤ 5) ∧ (0 ≤ x6.toInt ∧ x6.toInt ≤ 5) := by
  have k : ∀ y : Int32, (y &&& (1 : Int32)).toInt = y.toInt % 2 := fun y => Jvm.Kit.i32_mask y _ (k := 1) (by decide) (by decide)
  have o : (1 : Int32).toInt = 1 := rfl
  have e4 : x4.toInt = p.toInt % 2 := by rw [h4, k]
  have e5 : x5.toInt = x4.toInt + 1 + ((p.toUInt32 >>> ((1 : Int32) &&& 31).toUInt32).toInt32).toInt % 2 := by
    have t : (x4 + 1).toInt = x4.toInt + 1 := by rw [Jvm.Kit.i32_add, o] <;> rw [o] <;> omega
    rw [h5, Jvm.Kit.i32_add, t, k] <;> rw [t, k] <;> omega
  have e6 : x6.toInt = x5.toInt + 1 + ((p.toUInt32 >>> ((2 : Int32) &&& 31).toUInt32).toInt32).toInt % 2 := by
    have t : (x5 + 1).toInt = x5.toInt + 1 := by rw [Jvm.Kit.i32_add, o] <;> rw [o] <;> omega
    rw [h6, Jvm.Kit.i32_add, t, k] <;> rw [t, k] <;> omega
  omega
theorem own_in {x : Int32} (h : 0 ≤ x.toInt ∧ x.toInt ≤ 5) : ¬ x < 0 ∧ x < (6 : Int32) := by
  rw [Int32.lt_iff_toInt_lt, Int32.lt_iff_toInt_lt]
  show ¬ x.toInt < 0 ∧ x.toInt < 6
  omega
theorem own_i0 : (0 : UInt64) = FP.i2d 0 := by decide +kernel
theorem own_gd (a b c d e f : Int32) (j : Nat) : ([FP.i2d a, FP.i2d b, FP.i2d c, FP.i2d d, FP.i2d e, FP.i2d f] : List UInt64).getD j 0 = FP.i2d (([a, b, c, d, e, f] : List Int32).getD j 0) := by
  match j with
  | 0 => rfl
  | 1 => rfl
  | 2 => rfl
  | 3 => rfl
  | 4 => rfl
  | 5 => rfl
  | n + 6 => exact own_i0
theorem own_c0 (v : Int32) : cmpValue (FP.dcmp (FP.i2d v) (0 : UInt64)) .l = 0 ↔ v = 0 := by
  rw [OwnFl.cw_eq (OwnFl.dy_i2d v) OwnFl.dy_zero']
  exact ⟨fun h => Int32.toInt_inj.mp h, fun h => by rw [h]; rfl⟩
theorem own_cl (v a : Int32) : cmpValue (FP.dcmp (FP.i2d v) (FP.i2d a)) .g < 0 ↔ v < a := by
  rw [OwnFl.cw_lt (OwnFl.dy_i2d v) (OwnFl.dy_i2d a), Int32.lt_iff_toInt_lt]
theorem d2_0 : decode jdk_30_method_1_code 0 = .ok (.aload_n 0, 1) := by decide +kernel
theorem d2_1 : decode jdk_30_method_1_code 1 = .ok (.invokespecial 1, 3) := by decide +kernel
theorem d2_4 : decode jdk_30_method_1_code 4 = .ok (.return_, 1) := by decide +kernel
theorem pn_2 : plainName "java/lang/Record" = true := by first | (simp [plainName, overriddenIn]; done) | decide +kernel
theorem ef2 (m : MethodId) (o0 : Addr) : entryFrame m #[(.ref o0)] 1 = mkF m 0 #[rv o0] [] := by first | (simp [entryFrame, mkF, argsToLocals, Value.category]; done) | rfl
abbrev room_of_2 : Room := { frames := 1, cells := 0, slots := 0, locals := 12 }
def Q2 (Z : State) (o0 : Addr) (h0 : Heap) (n0 : Nat) (v : Option Value) (h : Heap) (L : List Loc) : Prop := v = none ∧ L = [] ∧ h = h0
set_option maxRecDepth 65536 in
set_option maxHeartbeats 40000000 in
theorem rm2 (l : Launch) (Z : State) (a0 : Array Value) (hw : ∀ d ∈ tables_1, d.before a0 Z = true) (ws : List Jvm.Cond) (o0 : Addr)  (h0 : Heap) (n0 : Nat) (Z0 : n0 ≤ h0.size) :
    MetFree l (⟨"java/lang/Record", "<init>", "()V"⟩ : MethodName) (head1 (Jvm.Cond.code (⟨"java/lang/Record", "<init>", "()V"⟩ : MethodName) jdk_30_method_1_code 1 none :: ws) (room_of_2)) (fun a U => a = #[(.ref o0)] ∧ Z.Warmed39 U.vm ∧ U.heap = h0) (fun _ _ _ _ _ => True) (fun _ U o U' => ∃ v L, o = .returned v ∧ Q2 Z o0 h0 n0 v U'.heap L ∧ FrameEnd U o U' L (room_of_2).cells (room_of_2).slots) := by
  refine MetFree.of_bodySF (plainFor_of_name pn_2) hisR ?_
  intro p e s m args below meth c s₁ Bd hml0 hP hK
  obtain ⟨rfl, hZ, hh⟩ := hP
  have hx := Bd.exec
  have hby := Bd.bytes
  have hml : c.maxLocals = 1 := hml0
  have hown : s.vm.findClass "java/lang/Record" = some m.cls := findClass_of_methodNamed Bd.named
  have hnm := (name_of_methodNamed Bd.named Bd.method).1
  have X0 : Stand p l e (room_of_2) s m #[(.ref o0)] below meth c s₁ [] 0 0 := Stand.of_body Bd
  have e0 : s₁.heap = h0 := by rw [← hh, Bd.state]; rfl
  have N0 := Fr.nil n0
  have G0 := gd X0 hx hby
  have pre0 : ∀ t, Steps p.tables e below (s₁.setTop (mkF m 0 #[rv o0] [])) t → Steps p.tables e below (s₁.setTop (entryFrame m #[(.ref o0)] 1)) t := fun t k => castTop (ef2 m o0) k
  obtain ⟨T1, X1, e1, st1⟩ := initO X0 hx hZ hown (wd hw 13 rfl) (wd hw 14 rfl) (wd hw 15 rfl) e0 (g := (mkF m 1 #[rv o0] [(.ref o0)])) rfl (by rw [hml]; rfl) rfl (hb hby d2_1) (by decide) (W := 0) (by show 2 * 0 + _ ≤ _; exact Nat.le_of_eq rfl) (by decide)
  have G1 := gd X1 hx hby
  obtain ⟨fs, hr, hrun, hended, hW, hsame⟩ := X1.leave (v := none) (fun _ => rfl)
  refine ⟨_, _, pre0 _ ?_, hrun, hended, _, _, rfl, ?_, ⟨_, rfl⟩, hW, hsame.mono (by decide) (by decide)⟩
  · show Steps p.tables e below (s₁.setTop (mkF m 0 #[rv o0] [])) _
    refine maloadN 1 G0 d2_0 rfl rfl rfl ?_
    refine st1 _ ?_
    show Steps p.tables e below (T1.setTop (mkF m 4 #[rv o0] [])) _
    exact X1.returnOut hx Bd.returns (hb hby d2_4) hr
  · show Q2 Z o0 h0 n0 _ T1.heap _
    rw [e1]
    exact ⟨rfl, rfl, rfl⟩
theorem pd_0 : parseMethodDescriptor "()V" = some ⟨[], none⟩ := by decide +kernel
theorem d1_0 : decode prog_26_method_1_code 0 = .ok (.aload_n 0, 1) := by decide +kernel
theorem d1_1 : decode prog_26_method_1_code 1 = .ok (.invokespecial 1, 3) := by decide +kernel
theorem d1_4 : decode prog_26_method_1_code 4 = .ok (.aload_n 0, 1) := by decide +kernel
theorem d1_5 : decode prog_26_method_1_code 5 = .ok (.aload_n 1, 1) := by decide +kernel
theorem d1_6 : decode prog_26_method_1_code 6 = .ok (.putfield 7, 3) := by decide +kernel
theorem d1_9 : decode prog_26_method_1_code 9 = .ok (.aload_n 0, 1) := by decide +kernel
theorem d1_10 : decode prog_26_method_1_code 10 = .ok (.aload_n 2, 1) := by decide +kernel
theorem d1_11 : decode prog_26_method_1_code 11 = .ok (.putfield 13, 3) := by decide +kernel
theorem d1_14 : decode prog_26_method_1_code 14 = .ok (.return_, 1) := by decide +kernel
theorem pn_1 : plainName "com/example/oceanus/oceanus/analysis/Taken" = true := by first | (simp [plainName, overriddenIn]; done) | decide +kernel
theorem ef1 (m : MethodId) (o0 : Addr) (o1 : Addr) (o2 : Addr) : entryFrame m #[(.ref o0), (.ref o1), (.ref o2)] 3 = mkF m 0 #[rv o0, rv o1, rv o2] [] := by first | (simp [entryFrame, mkF, argsToLocals, Value.category]; done) | rfl
abbrev room_of_1 : Room := { frames := 2, cells := 0, slots := 0, locals := 24 }
def Q1 (Z : State) (o0 : Addr) (o1 : Addr) (o2 : Addr) (h0 : Heap) (n0 : Nat) (v : Option Value) (h : Heap) (L : List Loc) : Prop := v = none ∧ Fr n0 L ∧ Keep h0 h [o0] ∧ Exa Z h o0 "com/example/oceanus/oceanus/analysis/Taken" ∧ Fld Z h o0 "com/example/oceanus/oceanus/analysis/Taken" "states" "[I" (.ref o1) ∧ Fld Z h o0 "com/example/oceanus/oceanus/analysis/Taken" "agents" "[I" (.ref o2)
set_option maxRecDepth 65536 in
set_option maxHeartbeats 40000000 in
theorem rm1 (l : Launch) (Z : State) (a0 : Array Value) (hw : ∀ d ∈ tables_1, d.before a0 Z = true) (ws : List Jvm.Cond) (o0 : Addr) (o1 : Addr) (o2 : Addr)  (h0 : Heap) (n0 : Nat) (Z0 : n0 ≤ h0.size) (E_o0 : Exa Z h0 o0 "com/example/oceanus/oceanus/analysis/Taken") (g_o0 : n0 ≤ o0) (F_states_o0 : Fld Z h0 o0 "com/example/oceanus/oceanus/analysis/Taken" "states" "[I" .null) (F_agents_o0 : Fld Z h0 o0 "com/example/oceanus/oceanus/analysis/Taken" "agents" "[I" .null) :
    MetFree l (⟨"com/example/oceanus/oceanus/analysis/Taken", "<init>", "([I[I)V"⟩ : MethodName) (head1 (Jvm.Cond.code (⟨"com/example/oceanus/oceanus/analysis/Taken", "<init>", "([I[I)V"⟩ : MethodName) prog_26_method_1_code 3 none :: ws) (room_of_1)) (fun a U => a = #[(.ref o0), (.ref o1), (.ref o2)] ∧ Z.Warmed39 U.vm ∧ U.heap = h0) (fun _ _ _ _ _ => True) (fun _ U o U' => ∃ v L, o = .returned v ∧ Q1 Z o0 o1 o2 h0 n0 v U'.heap L ∧ FrameEnd U o U' L (room_of_1).cells (room_of_1).slots) := by
  refine MetFree.of_bodySF (plainFor_of_name pn_1) hisR ?_
  intro p e s m args below meth c s₁ Bd hml0 hP hK
  obtain ⟨rfl, hZ, hh⟩ := hP
  have hx := Bd.exec
  have hby := Bd.bytes
  have hml : c.maxLocals = 3 := hml0
  have hown : s.vm.findClass "com/example/oceanus/oceanus/analysis/Taken" = some m.cls := findClass_of_methodNamed Bd.named
  have hnm := (name_of_methodNamed Bd.named Bd.method).1
  have X0 : Stand p l e (room_of_1) s m #[(.ref o0), (.ref o1), (.ref o2)] below meth c s₁ [] 0 0 := Stand.of_body Bd
  have e0 : s₁.heap = h0 := by rw [← hh, Bd.state]; rfl
  have N0 := Fr.nil n0
  have G0 := gd X0 hx hby
  have pre0 : ∀ t, Steps p.tables e below (s₁.setTop (mkF m 0 #[rv o0, rv o1, rv o2] [])) t → Steps p.tables e below (s₁.setTop (entryFrame m #[(.ref o0), (.ref o1), (.ref o2)] 3)) t := fun t k => castTop (ef1 m o0 o1 o2) k
  obtain ⟨_, _, ⟨T1, L1, k1, n1⟩, -, X1, ⟨Lc1, hQ1, l1, y1, z1⟩, st1⟩ := X0.specialBack hx (y := (⟨"java/lang/Record", "<init>", "()V"⟩ : MethodName)) rfl hown (mvT hZ (wd hw 8 rfl)) (mvT hZ (wd hw 9 rfl)) (mvT hZ (wd hw 12 rfl)) (by decide) (backOf (W := 0) (rm2 l Z a0 hw [] o0 h0 n0 Z0 ) hZ (wd hw 12 rfl) (wd hw 11 rfl) (by decide) (by decide)) (g := (mkF m 1 #[rv o0, rv o1, rv o2] [(.ref o0)])) rfl (by rw [hml]; rfl) (Steps.refl _) (a := o0) (argsL := []) (rest := []) (lenOf pd_0 rfl) rfl (by show 2 * 0 + _ ≤ _; exact Nat.le_of_eq rfl) (hb hby d1_1) (fun _ _ => ⟨rfl, e0, (by decide : 0 + 0 ≤ _), (by decide : 0 + 0 ≤ _)⟩)
  dsimp only [Pt.U, Pt.locs, Pt.cells, Pt.slots] at X1 l1 y1 z1 st1 hQ1
  replace l1 : ([] ++ Lc1) = L1 := l1.symm
  subst l1 y1 z1
  obtain ⟨rfl, rfl, e1⟩ := hQ1
  simp only [List.append_nil, Nat.add_zero] at X1
  have G1 := gd X1 hx hby
  obtain ⟨T2, h2, X2, e2, W2, st2⟩ := putF X1 hx hZ hown (host := "") (Or.inl (wd hw 16 rfl)) Via.refl e1 F_states_o0 E_o0 (Or.inr ⟨(wd hw 17 rfl), rfl, hnm⟩) (wd hw 3 rfl) (ty := (.array .int)) (by decide) rfl rfl (g := (mkF m 6 #[rv o0, rv o1, rv o2] [(.ref o1), (.ref o0)])) rfl rfl (hb hby d1_6)
  have G2 := gd X2 hx hby
  have N2 := Fr.snoc X2 N0 g_o0
  have f3 := E_o0.wr W2
  have f6 := F_agents_o0.other W2 (Or.inr (slot_ne (Or.inr (wd hw 19 rfl)) (Or.inr (wd hw 17 rfl)) (by decide) (t := (.array .int)) (t' := (.array .int)) (by decide) (by decide)))
  have Z2 := Nat.le_trans Z0 (Keep.of_wr W2).1
  have K2 : Keep h0 h2 [o0] := (Keep.refl h0 [o0]).wr W2 (Or.inl (List.mem_of_getElem? (i := 0) rfl))
  have Fw2 := F_states_o0.same W2
  obtain ⟨T7, h7, X7, e7, W7, st7⟩ := putF X2 hx hZ hown (host := "") (Or.inl (wd hw 18 rfl)) Via.refl e2 f6 f3 (Or.inr ⟨(wd hw 19 rfl), rfl, hnm⟩) (wd hw 3 rfl) (ty := (.array .int)) (by decide) rfl rfl (g := (mkF m 11 #[rv o0, rv o1, rv o2] [(.ref o2), (.ref o0)])) rfl rfl (hb hby d1_11)
  have G7 := gd X7 hx hby
  have N7 := Fr.snoc X7 N2 g_o0
  have f8 := f3.wr W7
  have f10 := Fw2.other W7 (Or.inr (slot_ne (Or.inr (wd hw 17 rfl)) (Or.inr (wd hw 19 rfl)) (by decide) (t := (.array .int)) (t' := (.array .int)) (by decide) (by decide)))
  have Z7 := Nat.le_trans Z2 (Keep.of_wr W7).1
  have K7 : Keep h0 h7 [o0] := K2.wr W7 (Or.inl (List.mem_of_getElem? (i := 0) rfl))
  have Fw7 := f6.same W7
  obtain ⟨fs, hr, hrun, hended, hW, hsame⟩ := X7.leave (v := none) (fun _ => rfl)
  refine ⟨_, _, pre0 _ ?_, hrun, hended, _, _, rfl, ?_, ⟨_, rfl⟩, hW, hsame.mono (by decide) (by decide)⟩
  · show Steps p.tables e below (s₁.setTop (mkF m 0 #[rv o0, rv o1, rv o2] [])) _
    refine maloadN 1 G0 d1_0 rfl rfl rfl ?_
    refine st1.trans ?_
    show Steps p.tables e below (T1.setTop (mkF m 4 #[rv o0, rv o1, rv o2] [])) _
    refine maloadN 5 G1 d1_4 rfl rfl rfl ?_
    refine maloadN 6 G1 d1_5 rfl rfl rfl ?_
    refine st2 _ ?_
    show Steps p.tables e below (T2.setTop (mkF m 9 #[rv o0, rv o1, rv o2] [])) _
    refine maloadN 10 G2 d1_9 rfl rfl rfl ?_
    refine maloadN 11 G2 d1_10 rfl rfl rfl ?_
    refine st7 _ ?_
    show Steps p.tables e below (T7.setTop (mkF m 14 #[rv o0, rv o1, rv o2] [])) _
    exact X7.returnOut hx Bd.returns (hb hby d1_14) hr
  · show Q1 Z o0 o1 o2 h0 n0 _ T7.heap _
    rw [e7]
    exact ⟨rfl, N7, K7, f8, f10, Fw7⟩
theorem d5_0 : decode method_3_code 0 = .ok (.iload_n 2, 1) := by decide +kernel
theorem d5_1 : decode method_3_code 1 = .ok (.ifCond .eq 14, 3) := by decide +kernel
theorem d5_4 : decode method_3_code 4 = .ok (.iload_n 0, 1) := by decide +kernel
theorem d5_5 : decode method_3_code 5 = .ok (.iload_n 1, 1) := by decide +kernel
theorem d5_6 : decode method_3_code 6 = .ok (.if_icmp .ge 7, 3) := by decide +kernel
theorem d5_9 : decode method_3_code 9 = .ok (.iconst 1, 1) := by decide +kernel
theorem d5_10 : decode method_3_code 10 = .ok (.goto 4, 3) := by decide +kernel
theorem d5_13 : decode method_3_code 13 = .ok (.iconst 0, 1) := by decide +kernel
theorem d5_14 : decode method_3_code 14 = .ok (.ireturn, 1) := by decide +kernel
theorem d5_15 : decode method_3_code 15 = .ok (.iload_n 0, 1) := by decide +kernel
theorem d5_16 : decode method_3_code 16 = .ok (.ifCond .ne 7, 3) := by decide +kernel
theorem d5_19 : decode method_3_code 19 = .ok (.iconst 1, 1) := by decide +kernel
theorem d5_20 : decode method_3_code 20 = .ok (.goto 4, 3) := by decide +kernel
theorem d5_23 : decode method_3_code 23 = .ok (.iconst 0, 1) := by decide +kernel
theorem d5_24 : decode method_3_code 24 = .ok (.ireturn, 1) := by decide +kernel
theorem pn_5 : plainName "com/example/oceanus/oceanus/analysis/TakenUnmadePinLaw" = true := by first | (simp [plainName, overriddenIn]; done) | decide +kernel
theorem ef5 (m : MethodId) (p0 : Int32) (p1 : Int32) (p2 : Int32) : entryFrame m #[(.int p0), (.int p1), (.int p2)] 3 = mkF m 0 #[iv p0, iv p1, iv p2] [] := by first | (simp [entryFrame, mkF, argsToLocals, Value.category]; done) | rfl
abbrev room_of_5 : Room := { frames := 0, cells := 0, slots := 0, locals := 0 }
def rv5 (p0 : Int32) (p1 : Int32) (p2 : Int32) : Int32 := (if p2 = (0 : Int32) then (if p0 = (0 : Int32) then (1 : Int32) else (0 : Int32)) else (if p0 < p1 then (1 : Int32) else (0 : Int32)))
def Q5 (Z : State) (p0 : Int32) (p1 : Int32) (p2 : Int32) (h0 : Heap) (n0 : Nat) (v : Option Value) (h : Heap) (L : List Loc) : Prop := v = some (.int (rv5 p0 p1 p2)) ∧ L = [] ∧ h = h0
set_option maxRecDepth 65536 in
set_option maxHeartbeats 40000000 in
theorem rm5 (l : Launch) (Z : State) (a0 : Array Value) (hw : ∀ d ∈ tables_1, d.before a0 Z = true) (ws : List Jvm.Cond) (p0 : Int32) (p1 : Int32) (p2 : Int32)  (h0 : Heap) (n0 : Nat) (Z0 : n0 ≤ h0.size) :
    MetFree l (⟨"com/example/oceanus/oceanus/analysis/TakenUnmadePinLaw", "lacks", "(IIZ)Z"⟩ : MethodName) (head1 (Jvm.Cond.code (⟨"com/example/oceanus/oceanus/analysis/TakenUnmadePinLaw", "lacks", "(IIZ)Z"⟩ : MethodName) method_3_code 3 (some .boolean) :: ws) (room_of_5)) (fun a U => a = #[(.int p0), (.int p1), (.int p2)] ∧ Z.Warmed39 U.vm ∧ U.heap = h0) (fun _ _ _ _ _ => True) (fun _ U o U' => ∃ v L, o = .returned v ∧ Q5 Z p0 p1 p2 h0 n0 v U'.heap L ∧ FrameEnd U o U' L (room_of_5).cells (room_of_5).slots) := by
  refine MetFree.of_bodySF (plainFor_of_name pn_5) hisR ?_
  intro p e s m args below meth c s₁ Bd hml0 hP hK
  obtain ⟨rfl, hZ, hh⟩ := hP
  have hx := Bd.exec
  have hby := Bd.bytes
  have hml : c.maxLocals = 3 := hml0
  have hown : s.vm.findClass "com/example/oceanus/oceanus/analysis/TakenUnmadePinLaw" = some m.cls := findClass_of_methodNamed Bd.named
  have hnm := (name_of_methodNamed Bd.named Bd.method).1
  have X0 : Stand p l e (room_of_5) s m #[(.int p0), (.int p1), (.int p2)] below meth c s₁ [] 0 0 := Stand.of_body Bd
  have e0 : s₁.heap = h0 := by rw [← hh, Bd.state]; rfl
  have N0 := Fr.nil n0
  have G0 := gd X0 hx hby
  have pre0 : ∀ t, Steps p.tables e below (s₁.setTop (mkF m 0 #[iv p0, iv p1, iv p2] [])) t → Steps p.tables e below (s₁.setTop (entryFrame m #[(.int p0), (.int p1), (.int p2)] 3)) t := fun t k => castTop (ef5 m p0 p1 p2) k
  by_cases hc1_1 : p2 = (0 : Int32)
  · obtain ⟨T3, X3, e3, st3⟩ : ∃ T' : State, Stand p l e (room_of_5) s m #[(.int p0), (.int p1), (.int p2)] below meth c T' [] 0 0 ∧ T'.heap = h0 ∧ ∀ target, Steps p.tables e below (T'.setTop (mkF m 24 #[iv p0, iv p1, iv p2] [(.int (if p0 = (0 : Int32) then (1 : Int32) else (0 : Int32)))])) target → Steps p.tables e below (s₁.setTop (mkF m 16 #[iv p0, iv p1, iv p2] [(.int p0)])) target := by
      by_cases hc16_2 : p0 = (0 : Int32)
      · refine ⟨s₁, X0, e0, fun target kt => ?_⟩
        refine mifNo 19 G0 d5_16 ((if0 _ _).trans (teq hc16_2).2) rfl ?_
        refine miconst 20 G0 d5_19 (v := (1 : Int32)) rfl rfl ?_
        refine mgoto 24 G0 d5_20 (by decide) rfl ?_
        exact castTop (g' := (mkF m 24 #[iv p0, iv p1, iv p2] [(.int (if p0 = (0 : Int32) then (1 : Int32) else (0 : Int32)))])) (by simp only [if_pos hc16_2]) kt
      · refine ⟨s₁, X0, e0, fun target kt => ?_⟩
        refine mifYes 23 G0 d5_16 ((if0 _ _).trans (feq hc16_2).2) (by decide) rfl ?_
        refine miconst 24 G0 d5_23 (v := (0 : Int32)) rfl rfl ?_
        exact castTop (g' := (mkF m 24 #[iv p0, iv p1, iv p2] [(.int (if p0 = (0 : Int32) then (1 : Int32) else (0 : Int32)))])) (by simp only [if_neg hc16_2]) kt
    have G3 := gd X3 hx hby
    obtain ⟨fs, hr, hrun, hended, hW, hsame⟩ := X3.leave (v := some (.int (if p0 = (0 : Int32) then (1 : Int32) else (0 : Int32)))) (fun h => by rw [Bd.returns] at h; cases h)
    refine ⟨_, _, pre0 _ ?_, hrun, hended, _, _, rfl, ?_, ⟨_, rfl⟩, hW, hsame.mono (by decide) (by decide)⟩
    · show Steps p.tables e below (s₁.setTop (mkF m 0 #[iv p0, iv p1, iv p2] [])) _
      refine miloadN 1 G0 d5_0 rfl rfl ?_
      refine mifYes 15 G0 d5_1 ((if0 _ _).trans (teq hc1_1).1) (by decide) rfl ?_
      refine miloadN 16 G0 d5_15 rfl rfl ?_
      refine st3 _ ?_
      exact retOut X3 hx Bd.returns (by first | rfl | ((repeat' split) <;> rfl)) (Or.inl ⟨rfl, by simp, _, rfl⟩) (hb hby d5_24) hr
    · show Q5 Z p0 p1 p2 h0 n0 _ T3.heap _
      rw [e3]
      exact ⟨by simp only [rv5, if_pos hc1_1], rfl, rfl⟩
  · obtain ⟨T5, X5, e5, st5⟩ : ∃ T' : State, Stand p l e (room_of_5) s m #[(.int p0), (.int p1), (.int p2)] below meth c T' [] 0 0 ∧ T'.heap = h0 ∧ ∀ target, Steps p.tables e below (T'.setTop (mkF m 14 #[iv p0, iv p1, iv p2] [(.int (if p0 < p1 then (1 : Int32) else (0 : Int32)))])) target → Steps p.tables e below (s₁.setTop (mkF m 6 #[iv p0, iv p1, iv p2] [(.int p1), (.int p0)])) target := by
      by_cases hc6_4 : p0 < p1
      · refine ⟨s₁, X0, e0, fun target kt => ?_⟩
        refine micmpNo 9 G0 d5_6 (tlt hc6_4).2.1 rfl ?_
        refine miconst 10 G0 d5_9 (v := (1 : Int32)) rfl rfl ?_
        refine mgoto 14 G0 d5_10 (by decide) rfl ?_
        exact castTop (g' := (mkF m 14 #[iv p0, iv p1, iv p2] [(.int (if p0 < p1 then (1 : Int32) else (0 : Int32)))])) (by simp only [if_pos hc6_4]) kt
      · refine ⟨s₁, X0, e0, fun target kt => ?_⟩
        refine micmpYes 13 G0 d5_6 (flt hc6_4).2.1 (by decide) rfl ?_
        refine miconst 14 G0 d5_13 (v := (0 : Int32)) rfl rfl ?_
        exact castTop (g' := (mkF m 14 #[iv p0, iv p1, iv p2] [(.int (if p0 < p1 then (1 : Int32) else (0 : Int32)))])) (by simp only [if_neg hc6_4]) kt
    have G5 := gd X5 hx hby
    obtain ⟨fs, hr, hrun, hended, hW, hsame⟩ := X5.leave (v := some (.int (if p0 < p1 then (1 : Int32) else (0 : Int32)))) (fun h => by rw [Bd.returns] at h; cases h)
    refine ⟨_, _, pre0 _ ?_, hrun, hended, _, _, rfl, ?_, ⟨_, rfl⟩, hW, hsame.mono (by decide) (by decide)⟩
    · show Steps p.tables e below (s₁.setTop (mkF m 0 #[iv p0, iv p1, iv p2] [])) _
      refine miloadN 1 G0 d5_0 rfl rfl ?_
      refine mifNo 4 G0 d5_1 ((if0 _ _).trans (feq hc1_1).1) rfl ?_
      refine miloadN 5 G0 d5_4 rfl rfl ?_
      refine miloadN 6 G0 d5_5 rfl rfl ?_
      refine st5 _ ?_
      exact retOut X5 hx Bd.returns (by first | rfl | ((repeat' split) <;> rfl)) (Or.inl ⟨rfl, by simp, _, rfl⟩) (hb hby d5_14) hr
    · show Q5 Z p0 p1 p2 h0 n0 _ T5.heap _
      rw [e5]
      exact ⟨by simp only [rv5, if_neg hc1_1], rfl, rfl⟩
theorem d4_0 : decode prog_26_method_4_code 0 = .ok (.iconst 0, 1) := by decide +kernel
theorem d4_1 : decode prog_26_method_4_code 1 = .ok (.istore_n 3, 1) := by decide +kernel
theorem d4_2 : decode prog_26_method_4_code 2 = .ok (.iload_n 3, 1) := by decide +kernel
theorem d4_3 : decode prog_26_method_4_code 3 = .ok (.aload_n 0, 1) := by decide +kernel
theorem d4_4 : decode prog_26_method_4_code 4 = .ok (.getfield 7, 3) := by decide +kernel
theorem d4_7 : decode prog_26_method_4_code 7 = .ok (.arraylength, 1) := by decide +kernel
theorem d4_8 : decode prog_26_method_4_code 8 = .ok (.if_icmp .ge 48, 3) := by decide +kernel
theorem d4_56 : decode prog_26_method_4_code 56 = .ok (.iconst (-1), 1) := by decide +kernel
theorem d4_57 : decode prog_26_method_4_code 57 = .ok (.ireturn, 1) := by decide +kernel
theorem pn_4 : plainName "com/example/oceanus/oceanus/analysis/Taken" = true := by first | (simp [plainName, overriddenIn]; done) | decide +kernel
theorem ef4_0 (m : MethodId) (o0 : Addr) (o1 : Addr) (p2 : Int32) : entryFrame m #[(.ref o0), (.ref o1), (.int p2)] 6 = mkF m 0 #[rv o0, rv o1, iv p2, .unset, .unset, .unset] [] := by first | (simp [entryFrame, mkF, argsToLocals, Value.category]; done) | rfl
abbrev room_of_4_0 : Room := { frames := 0, cells := 0, slots := 0, locals := 0 }
def Q4_0 (Z : State) (o0 : Addr) (o1 : Addr) (p2 : Int32) (w1 : Addr) (w2 : Addr) (k1 : ClassId) (k2 : ClassId) (k3 : ClassId) (c0_ : UInt64) (c1_ : UInt64) (c2_ : UInt64) (c3_ : UInt64) (c4_ : UInt64) (c5_ : UInt64) (h0 : Heap) (n0 : Nat) (v : Option Value) (h : Heap) (L : List Loc) : Prop := v = some (.int (-1 : Int32)) ∧ L = [] ∧ h = h0
set_option maxRecDepth 65536 in
set_option maxHeartbeats 40000000 in
theorem rm4_0 (l : Launch) (Z : State) (a0 : Array Value) (hw : ∀ d ∈ tables_1, d.before a0 Z = true) (ws : List Jvm.Cond) (o0 : Addr) (o1 : Addr) (p2 : Int32) {w1 : Addr} {w2 : Addr} {k1 : ClassId} {k2 : ClassId} {k3 : ClassId} {c0_ : UInt64} {c1_ : UInt64} {c2_ : UInt64} {c3_ : UInt64} {c4_ : UInt64} {c5_ : UInt64} (h0 : Heap) (n0 : Nat) (Z0 : n0 ≤ h0.size) (F_states_o0 : Fld Z h0 o0 "com/example/oceanus/oceanus/analysis/Taken" "states" "[I" (.ref w1)) (F_agents_o0 : Fld Z h0 o0 "com/example/oceanus/oceanus/analysis/Taken" "agents" "[I" (.ref w2)) (V_w1 : Arv Z h0 w1 k1 .int (0 : Int32) [] (.int (0 : Int32))) (V_w2 : Arv Z h0 w2 k2 .int (0 : Int32) [] (.int (0 : Int32))) (V_o1 : Arv Z h0 o1 k3 .double (6 : Int32) [(.double c0_), (.double c1_), (.double c2_), (.double c3_), (.double c4_), (.double c5_)] (.double (0 : UInt64))) :
    MetFree l (⟨"com/example/oceanus/oceanus/analysis/Taken", "unmade", "([DZ)I"⟩ : MethodName) (head1 (Jvm.Cond.code (⟨"com/example/oceanus/oceanus/analysis/Taken", "unmade", "([DZ)I"⟩ : MethodName) prog_26_method_4_code 6 (some .int) :: ws) (room_of_4_0)) (fun a U => a = #[(.ref o0), (.ref o1), (.int p2)] ∧ Z.Warmed39 U.vm ∧ U.heap = h0) (fun _ _ _ _ _ => True) (fun _ U o U' => ∃ v L, o = .returned v ∧ Q4_0 Z o0 o1 p2 w1 w2 k1 k2 k3 c0_ c1_ c2_ c3_ c4_ c5_ h0 n0 v U'.heap L ∧ FrameEnd U o U' L (room_of_4_0).cells (room_of_4_0).slots) := by
  refine MetFree.of_bodySF (plainFor_of_name pn_4) hisR ?_
  intro p e s m args below meth c s₁ Bd hml0 hP hK
  obtain ⟨rfl, hZ, hh⟩ := hP
  have hx := Bd.exec
  have hby := Bd.bytes
  have hml : c.maxLocals = 6 := hml0
  have hown : s.vm.findClass "com/example/oceanus/oceanus/analysis/Taken" = some m.cls := findClass_of_methodNamed Bd.named
  have hnm := (name_of_methodNamed Bd.named Bd.method).1
  have X0 : Stand p l e (room_of_4_0) s m #[(.ref o0), (.ref o1), (.int p2)] below meth c s₁ [] 0 0 := Stand.of_body Bd
  have e0 : s₁.heap = h0 := by rw [← hh, Bd.state]; rfl
  have N0 := Fr.nil n0
  have G0 := gd X0 hx hby
  have pre0 : ∀ t, Steps p.tables e below (s₁.setTop (mkF m 0 #[rv o0, rv o1, iv p2, .unset, .unset, .unset] [])) t → Steps p.tables e below (s₁.setTop (entryFrame m #[(.ref o0), (.ref o1), (.int p2)] 6)) t := fun t k => castTop (ef4_0 m o0 o1 p2) k
  obtain ⟨T1, X1, e1, st1⟩ := getF X0 hx hZ hown (host := "") (Or.inl (wd hw 16 rfl)) Via.refl e0 F_states_o0 (g := (mkF m 4 #[rv o0, rv o1, iv p2, iv (0 : Int32), .unset, .unset] [(.ref o0), (.int (0 : Int32))])) rfl rfl (hb hby d4_4)
  have G1 := gd X1 hx hby
  obtain ⟨fs, hr, hrun, hended, hW, hsame⟩ := X1.leave (v := some (.int (-1 : Int32))) (fun h => by rw [Bd.returns] at h; cases h)
  refine ⟨_, _, pre0 _ ?_, hrun, hended, _, _, rfl, ?_, ⟨_, rfl⟩, hW, hsame.mono (by decide) (by decide)⟩
  · show Steps p.tables e below (s₁.setTop (mkF m 0 #[rv o0, rv o1, iv p2, .unset, .unset, .unset] [])) _
    refine miconst 1 G0 d4_0 (v := (0 : Int32)) rfl rfl ?_
    refine mistoreN 2 G0 d4_1 #[rv o0, rv o1, iv p2, iv (0 : Int32), .unset, .unset] rfl rfl ?_
    refine miloadN 3 G0 d4_2 rfl rfl ?_
    refine maloadN 4 G0 d4_3 rfl rfl rfl ?_
    refine st1 _ ?_
    show Steps p.tables e below (T1.setTop (mkF m 7 #[rv o0, rv o1, iv p2, iv (0 : Int32), .unset, .unset] [(.ref w1), (.int (0 : Int32))])) _
    refine mlen 8 X1 hx hby hZ e1 V_w1 d4_7 rfl ?_
    refine micmpYes 56 G1 d4_8 (flt (by decide : ¬ ((0 : Int32) < (0 : Int32)))).2.1 (by decide) rfl ?_
    refine miconst 57 G1 d4_56 (v := (-1 : Int32)) rfl rfl ?_
    exact retOut X1 hx Bd.returns rfl (Or.inl ⟨rfl, Or.inl rfl, _, rfl⟩) (hb hby d4_57) hr
  · show Q4_0 Z o0 o1 p2 w1 w2 k1 k2 k3 c0_ c1_ c2_ c3_ c4_ c5_ h0 n0 _ T1.heap _
    rw [e1]
    exact ⟨rfl, rfl, rfl⟩
theorem pd_1 : parseMethodDescriptor "([I[I)V" = some ⟨[(.array .int), (.array .int)], none⟩ := by decide +kernel
theorem pd_2 : parseMethodDescriptor "([DZ)I" = some ⟨[(.array .double), .boolean], some .int⟩ := by decide +kernel
theorem pd_3 : parseMethodDescriptor "(IIZ)Z" = some ⟨[.int, .int, .boolean], some .boolean⟩ := by decide +kernel
theorem pn_0 : plainName "com/example/oceanus/oceanus/analysis/TakenUnmadePinLaw" = true := by first | (simp [plainName, overriddenIn]; done) | decide +kernel
theorem ef0_0 (m : MethodId) (p0 : Int32) (p1 : Int32) (p2 : Int32) (p3 : Int32) : entryFrame m #[(.int p0), (.int p1), (.int p2), (.int p3)] maxLocals = mkF m 0 #[iv p0, iv p1, iv p2, iv p3, .unset, .unset, .unset, .unset, .unset, .unset, .unset, .unset, .unset, .unset, .unset, .unset, .unset, .unset, .unset, .unset, .unset, .unset] [] := by first | (simp [entryFrame, mkF, argsToLocals, Value.category, maxLocals]; done) | rfl
def Q0 (Z : State) (p0 : Int32) (p1 : Int32) (p2 : Int32) (p3 : Int32) (h0 : Heap) (n0 : Nat) (v : Option Value) (h : Heap) (L : List Loc) : Prop := v = some (.int 1) ∧ Fr n0 L
theorem own_rm0_0_hin364 (p0 : Int32) (p1 : Int32) (p2 : Int32) (p3 : Int32) (x3 : Int32) (hx3 : x3 = (if (((p0.toUInt32 >>> ((2 : Int32) &&& 31).toUInt32).toInt32) &&& (1 : Int32)) = (0 : Int32) then (0 : Int32) else (1 : Int32))) (x4 : Int32) (hx4 : x4 = (p1 &&& (1 : Int32))) (x5 : Int32) (hx5 : x5 = ((x4 + (1 : Int32)) + (((p1.toUInt32 >>> ((1 : Int32) &&& 31).toUInt32).toInt32) &&& (1 : Int32)))) (x6 : Int32) (hx6 : x6 = ((x5 + (1 : Int32)) + (((p1.toUInt32 >>> ((2 : Int32) &&& 31).toUInt32).toInt32) &&& (1 : Int32)))) (x7 : Int32) (hx7 : x7 = ((1 : Int32) + (p2 &&& (3 : Int32)))) (x8 : Int32) (hx8 : x8 = ((1 : Int32) + (((p2.toUInt32 >>> ((2 : Int32) &&& 31).toUInt32).toInt32) &&& (3 : Int32)))) (x9 : Int32) (hx9 : x9 = ((1 : Int32) + (((p2.toUInt32 >>> ((4 : Int32) &&& 31).toUInt32).toInt32) &&& (3 : Int32)))) (x11 : Int32) (hx11 : x11 = (p3 &&& (7 : Int32))) (x15 : Int32) (hx15 : x15 = (((p3.toUInt32 >>> ((3 : Int32) &&& 31).toUInt32).toInt32) &&& (7 : Int32))) (x19 : Int32) (hx19 : x19 = (((p3.toUInt32 >>> ((6 : Int32) &&& 31).toUInt32).toInt32) &&& (7 : Int32))) (x23 : Int32) (hx23 : x23 = (((p3.toUInt32 >>> ((9 : Int32) &&& 31).toUInt32).toInt32) &&& (7 : Int32))) (x27 : Int32) (hx27 : x27 = (((p3.toUInt32 >>> ((12 : Int32) &&& 31).toUInt32).toInt32) &&& (7 : Int32))) (x31 : Int32) (hx31 : x31 = (((p3.toUInt32 >>> ((15 : Int32) &&& 31).toUInt32).toInt32) &&& (7 : Int32))) (x37 : UInt64) (hx37 : x37 = (FP.i2d x11)) (x44 : UInt64) (hx44 : x44 = (FP.i2d x15)) (x51 : UInt64) (hx51 : x51 = (FP.i2d x19)) (x58 : UInt64) (hx58 : x58 = (FP.i2d x23)) (x65 : UInt64) (hx65 : x65 = (FP.i2d x27)) (x72 : UInt64) (hx72 : x72 = (FP.i2d x31)) (hpin3 : ((p0 &&& (3 : Int32)) = (0 : Int32))) : ¬ x4 < 0 ∧ x4 < (6 : Int32) := own_in (own_s hx4 hx5 hx6).1
theorem own_rm0_0_hin378 (p0 : Int32) (p1 : Int32) (p2 : Int32) (p3 : Int32) (x3 : Int32) (hx3 : x3 = (if (((p0.toUInt32 >>> ((2 : Int32) &&& 31).toUInt32).toInt32) &&& (1 : Int32)) = (0 : Int32) then (0 : Int32) else (1 : Int32))) (x4 : Int32) (hx4 : x4 = (p1 &&& (1 : Int32))) (x5 : Int32) (hx5 : x5 = ((x4 + (1 : Int32)) + (((p1.toUInt32 >>> ((1 : Int32) &&& 31).toUInt32).toInt32) &&& (1 : Int32)))) (x6 : Int32) (hx6 : x6 = ((x5 + (1 : Int32)) + (((p1.toUInt32 >>> ((2 : Int32) &&& 31).toUInt32).toInt32) &&& (1 : Int32)))) (x7 : Int32) (hx7 : x7 = ((1 : Int32) + (p2 &&& (3 : Int32)))) (x8 : Int32) (hx8 : x8 = ((1 : Int32) + (((p2.toUInt32 >>> ((2 : Int32) &&& 31).toUInt32).toInt32) &&& (3 : Int32)))) (x9 : Int32) (hx9 : x9 = ((1 : Int32) + (((p2.toUInt32 >>> ((4 : Int32) &&& 31).toUInt32).toInt32) &&& (3 : Int32)))) (x11 : Int32) (hx11 : x11 = (p3 &&& (7 : Int32))) (x15 : Int32) (hx15 : x15 = (((p3.toUInt32 >>> ((3 : Int32) &&& 31).toUInt32).toInt32) &&& (7 : Int32))) (x19 : Int32) (hx19 : x19 = (((p3.toUInt32 >>> ((6 : Int32) &&& 31).toUInt32).toInt32) &&& (7 : Int32))) (x23 : Int32) (hx23 : x23 = (((p3.toUInt32 >>> ((9 : Int32) &&& 31).toUInt32).toInt32) &&& (7 : Int32))) (x27 : Int32) (hx27 : x27 = (((p3.toUInt32 >>> ((12 : Int32) &&& 31).toUInt32).toInt32) &&& (7 : Int32))) (x31 : Int32) (hx31 : x31 = (((p3.toUInt32 >>> ((15 : Int32) &&& 31).toUInt32).toInt32) &&& (7 : Int32))) (x37 : UInt64) (hx37 : x37 = (FP.i2d x11)) (x44 : UInt64) (hx44 : x44 = (FP.i2d x15)) (x51 : UInt64) (hx51 : x51 = (FP.i2d x19)) (x58 : UInt64) (hx58 : x58 = (FP.i2d x23)) (x65 : UInt64) (hx65 : x65 = (FP.i2d x27)) (x72 : UInt64) (hx72 : x72 = (FP.i2d x31)) (x116 : Int32) (hx116 : x116 = (rv5 (([x11, x15, x19, x23, x27, x31] : List Int32).getD x4.toNatClampNeg (0 : Int32)) x7 x3)) (hpin3 : ((p0 &&& (3 : Int32)) = (0 : Int32))) : ¬ x5 < 0 ∧ x5 < (6 : Int32) := own_in (own_s hx4 hx5 hx6).2.1
theorem own_rm0_0_hin392 (p0 : Int32) (p1 : Int32) (p2 : Int32) (p3 : Int32) (x3 : Int32) (hx3 : x3 = (if (((p0.toUInt32 >>> ((2 : Int32) &&& 31).toUInt32).toInt32) &&& (1 : Int32)) = (0 : Int32) then (0 : Int32) else (1 : Int32))) (x4 : Int32) (hx4 : x4 = (p1 &&& (1 : Int32))) (x5 : Int32) (hx5 : x5 = ((x4 + (1 : Int32)) + (((p1.toUInt32 >>> ((1 : Int32) &&& 31).toUInt32).toInt32) &&& (1 : Int32)))) (x6 : Int32) (hx6 : x6 = ((x5 + (1 : Int32)) + (((p1.toUInt32 >>> ((2 : Int32) &&& 31).toUInt32).toInt32) &&& (1 : Int32)))) (x7 : Int32) (hx7 : x7 = ((1 : Int32) + (p2 &&& (3 : Int32)))) (x8 : Int32) (hx8 : x8 = ((1 : Int32) + (((p2.toUInt32 >>> ((2 : Int32) &&& 31).toUInt32).toInt32) &&& (3 : Int32)))) (x9 : Int32) (hx9 : x9 = ((1 : Int32) + (((p2.toUInt32 >>> ((4 : Int32) &&& 31).toUInt32).toInt32) &&& (3 : Int32)))) (x11 : Int32) (hx11 : x11 = (p3 &&& (7 : Int32))) (x15 : Int32) (hx15 : x15 = (((p3.toUInt32 >>> ((3 : Int32) &&& 31).toUInt32).toInt32) &&& (7 : Int32))) (x19 : Int32) (hx19 : x19 = (((p3.toUInt32 >>> ((6 : Int32) &&& 31).toUInt32).toInt32) &&& (7 : Int32))) (x23 : Int32) (hx23 : x23 = (((p3.toUInt32 >>> ((9 : Int32) &&& 31).toUInt32).toInt32) &&& (7 : Int32))) (x27 : Int32) (hx27 : x27 = (((p3.toUInt32 >>> ((12 : Int32) &&& 31).toUInt32).toInt32) &&& (7 : Int32))) (x31 : Int32) (hx31 : x31 = (((p3.toUInt32 >>> ((15 : Int32) &&& 31).toUInt32).toInt32) &&& (7 : Int32))) (x37 : UInt64) (hx37 : x37 = (FP.i2d x11)) (x44 : UInt64) (hx44 : x44 = (FP.i2d x15)) (x51 : UInt64) (hx51 : x51 = (FP.i2d x19)) (x58 : UInt64) (hx58 : x58 = (FP.i2d x23)) (x65 : UInt64) (hx65 : x65 = (FP.i2d x27)) (x72 : UInt64) (hx72 : x72 = (FP.i2d x31)) (x116 : Int32) (hx116 : x116 = (rv5 (([x11, x15, x19, x23, x27, x31] : List Int32).getD x4.toNatClampNeg (0 : Int32)) x7 x3)) (x118 : Int32) (hx118 : x118 = (rv5 (([x11, x15, x19, x23, x27, x31] : List Int32).getD x5.toNatClampNeg (0 : Int32)) x8 x3)) (hpin3 : ((p0 &&& (3 : Int32)) = (0 : Int32))) : ¬ x6 < 0 ∧ x6 < (6 : Int32) := own_in (own_s hx4 hx5 hx6).2.2
set_option maxRecDepth 65536 in
set_option maxHeartbeats 40000000 in
theorem rm0_0 (l : Launch) (Z : State) (a0 : Array Value) (hw : ∀ d ∈ tables_1, d.before a0 Z = true) (ws : List Jvm.Cond) (p0 : Int32) (p1 : Int32) (p2 : Int32) (p3 : Int32)  (h0 : Heap) (n0 : Nat) (Z0 : n0 ≤ h0.size) (hpin3 : (p0 &&& (3 : Int32)) = (0 : Int32)) :
    MetFree l x (head1 (Jvm.Cond.code x code maxLocals ret :: ws) room_1) (fun a U => a = #[(.int p0), (.int p1), (.int p2), (.int p3)] ∧ Z.Warmed39 U.vm ∧ U.heap = h0) (fun _ _ _ _ _ => True) (fun _ U o U' => ∃ v L, o = .returned v ∧ Q0 Z p0 p1 p2 p3 h0 n0 v U'.heap L ∧ FrameEnd U o U' L room_1.cells room_1.slots) := by
  refine MetFree.of_bodySF (plainFor_of_name pn_0) hisR ?_
  intro p e s m args below meth c s₁ Bd hml0 hP hK
  obtain ⟨rfl, hZ, hh⟩ := hP
  have hx := Bd.exec
  have hby := Bd.bytes
  have hml : c.maxLocals = 22 := hml0
  have hown : s.vm.findClass "com/example/oceanus/oceanus/analysis/TakenUnmadePinLaw" = some m.cls := findClass_of_methodNamed Bd.named
  have hnm := (name_of_methodNamed Bd.named Bd.method).1
  have X0 : Stand p l e room_1 s m #[(.int p0), (.int p1), (.int p2), (.int p3)] below meth c s₁ [] 0 0 := Stand.of_body Bd
  have e0 : s₁.heap = h0 := by rw [← hh, Bd.state]; rfl
  have N0 := Fr.nil n0
  have G0 := gd X0 hx hby
  have pre0 : ∀ t, Steps p.tables e below (s₁.setTop (mkF m 0 #[iv p0, iv p1, iv p2, iv p3, .unset, .unset, .unset, .unset, .unset, .unset, .unset, .unset, .unset, .unset, .unset, .unset, .unset, .unset, .unset, .unset, .unset, .unset] [])) t → Steps p.tables e below (s₁.setTop (entryFrame m #[(.int p0), (.int p1), (.int p2), (.int p3)] maxLocals)) t := fun t k => castTop (ef0_0 m p0 p1 p2 p3) k
  obtain ⟨x3, hx3⟩ : ∃ z : Int32, z = (if (((p0.toUInt32 >>> ((2 : Int32) &&& 31).toUInt32).toInt32) &&& (1 : Int32)) = (0 : Int32) then (0 : Int32) else (1 : Int32)) := ⟨_, rfl⟩
  obtain ⟨T2, X2, e2, st2⟩ : ∃ T' : State, Stand p l e room_1 s m #[(.int p0), (.int p1), (.int p2), (.int p3)] below meth c T' [] 0 0 ∧ T'.heap = h0 ∧ ∀ target, Steps p.tables e below (T'.setTop (mkF m 18 #[iv p0, iv p1, iv p2, iv p3, iv (0 : Int32), .unset, .unset, .unset, .unset, .unset, .unset, .unset, .unset, .unset, .unset, .unset, .unset, .unset, .unset, .unset, .unset, .unset] [(.int x3)])) target → Steps p.tables e below (s₁.setTop (mkF m 10 #[iv p0, iv p1, iv p2, iv p3, iv (0 : Int32), .unset, .unset, .unset, .unset, .unset, .unset, .unset, .unset, .unset, .unset, .unset, .unset, .unset, .unset, .unset, .unset, .unset] [(.int (((p0.toUInt32 >>> ((2 : Int32) &&& 31).toUInt32).toInt32) &&& (1 : Int32)))])) target := by
    by_cases hc10_1 : (((p0.toUInt32 >>> ((2 : Int32) &&& 31).toUInt32).toInt32) &&& (1 : Int32)) = (0 : Int32)
    · refine ⟨s₁, X0, e0, fun target kt => ?_⟩
      refine mifYes 17 G0 at_10 ((if0 _ _).trans (teq hc10_1).1) (by decide) rfl ?_
      refine miconst 18 G0 at_17 (v := (0 : Int32)) rfl rfl ?_
      exact castTop (g' := (mkF m 18 #[iv p0, iv p1, iv p2, iv p3, iv (0 : Int32), .unset, .unset, .unset, .unset, .unset, .unset, .unset, .unset, .unset, .unset, .unset, .unset, .unset, .unset, .unset, .unset, .unset] [(.int x3)])) (by simp only [hx3, if_pos hc10_1]) kt
    · refine ⟨s₁, X0, e0, fun target kt => ?_⟩
      refine mifNo 13 G0 at_10 ((if0 _ _).trans (feq hc10_1).1) rfl ?_
      refine miconst 14 G0 at_13 (v := (1 : Int32)) rfl rfl ?_
      refine mgoto 18 G0 at_14 (by decide) rfl ?_
      exact castTop (g' := (mkF m 18 #[iv p0, iv p1, iv p2, iv p3, iv (0 : Int32), .unset, .unset, .unset, .unset, .unset, .unset, .unset, .unset, .unset, .unset, .unset, .unset, .unset, .unset, .unset, .unset, .unset] [(.int x3)])) (by simp only [hx3, if_neg hc10_1]) kt
  have G2 := gd X2 hx hby
  obtain ⟨x4, hx4⟩ : ∃ z : Int32, z = (p1 &&& (1 : Int32)) := ⟨_, rfl⟩
  obtain ⟨x5, hx5⟩ : ∃ z : Int32, z = ((x4 + (1 : Int32)) + (((p1.toUInt32 >>> ((1 : Int32) &&& 31).toUInt32).toInt32) &&& (1 : Int32))) := ⟨_, rfl⟩
  obtain ⟨x6, hx6⟩ : ∃ z : Int32, z = ((x5 + (1 : Int32)) + (((p1.toUInt32 >>> ((2 : Int32) &&& 31).toUInt32).toInt32) &&& (1 : Int32))) := ⟨_, rfl⟩
  obtain ⟨x7, hx7⟩ : ∃ z : Int32, z = ((1 : Int32) + (p2 &&& (3 : Int32))) := ⟨_, rfl⟩
  obtain ⟨x8, hx8⟩ : ∃ z : Int32, z = ((1 : Int32) + (((p2.toUInt32 >>> ((2 : Int32) &&& 31).toUInt32).toInt32) &&& (3 : Int32))) := ⟨_, rfl⟩
  obtain ⟨x9, hx9⟩ : ∃ z : Int32, z = ((1 : Int32) + (((p2.toUInt32 >>> ((4 : Int32) &&& 31).toUInt32).toInt32) &&& (3 : Int32))) := ⟨_, rfl⟩
  obtain ⟨T10, h10, k10, X10, e10, E10, A10, st10⟩ := newP X2 hx hZ (wd hw 0 rfl) e2 (g := (mkF m 76 #[iv p0, iv p1, iv p2, iv p3, iv (0 : Int32), iv x3, iv x4, iv x5, iv x6, iv x7, iv x8, iv x9, .unset, .unset, .unset, .unset, .unset, .unset, .unset, .unset, .unset, .unset] [(.int (6 : Int32))])) rfl (hb hby at_76) rfl (by decide) (cap := 6) (by decide) (by decide) (by decide) (by decide)
  have G10 := gd X10 hx hby
  obtain ⟨b10, g10⟩ : ∃ z, z = h0.size := ⟨_, rfl⟩
  rw [← g10] at A10 st10
  have g_b10 : n0 ≤ b10 := Nat.le_trans Z0 (Nat.le_of_eq g10.symm)
  have Z10 := Nat.le_trans Z0 E10.1
  have V_b10 : Arv Z h10 b10 k10 .int (6 : Int32) [(.int (0 : Int32)), (.int (0 : Int32)), (.int (0 : Int32)), (.int (0 : Int32)), (.int (0 : Int32)), (.int (0 : Int32))] (.int (0 : Int32)) := (Arv.new A10 (by decide)).pad (pad_rep [] (.int (0 : Int32)) 6)
  obtain ⟨x11, hx11⟩ : ∃ z : Int32, z = (p3 &&& (7 : Int32)) := ⟨_, rfl⟩
  obtain ⟨T12, h12, X12, e12, W12, Vs12, st12⟩ := own_stI X10 hx hby hZ e10 V_b10 (j := (0 : Int32)) (v := x11) at_87 ⟨by decide, by decide⟩ 0 rfl (Nat.le_of_ble_eq_true rfl) #[iv p0, iv p1, iv p2, iv p3, iv (0 : Int32), iv x3, iv x4, iv x5, iv x6, iv x7, iv x8, iv x9, rv b10, .unset, .unset, .unset, .unset, .unset, .unset, .unset, .unset, .unset] [] 88 rfl
  have G12 := gd X12 hx hby
  have N12 := Fr.snoc X12 N0 g_b10
  have Z12 := Nat.le_trans Z10 (Keep.of_wr W12).1
  have V12 : Arv Z h12 b10 k10 .int (6 : Int32) [(.int x11), (.int (0 : Int32)), (.int (0 : Int32)), (.int (0 : Int32)), (.int (0 : Int32)), (.int (0 : Int32))] (.int (0 : Int32)) := Vs12
  obtain ⟨x15, hx15⟩ : ∃ z : Int32, z = (((p3.toUInt32 >>> ((3 : Int32) &&& 31).toUInt32).toInt32) &&& (7 : Int32)) := ⟨_, rfl⟩
  obtain ⟨T16, h16, X16, e16, W16, Vs16, st16⟩ := own_stI X12 hx hby hZ e12 V12 (j := (1 : Int32)) (v := x15) at_97 ⟨by decide, by decide⟩ 1 rfl (Nat.le_of_ble_eq_true rfl) #[iv p0, iv p1, iv p2, iv p3, iv (0 : Int32), iv x3, iv x4, iv x5, iv x6, iv x7, iv x8, iv x9, rv b10, .unset, .unset, .unset, .unset, .unset, .unset, .unset, .unset, .unset] [] 98 rfl
  have G16 := gd X16 hx hby
  have N16 := Fr.snoc X16 N12 g_b10
  have Z16 := Nat.le_trans Z12 (Keep.of_wr W16).1
  have V16 : Arv Z h16 b10 k10 .int (6 : Int32) [(.int x11), (.int x15), (.int (0 : Int32)), (.int (0 : Int32)), (.int (0 : Int32)), (.int (0 : Int32))] (.int (0 : Int32)) := Vs16
  obtain ⟨x19, hx19⟩ : ∃ z : Int32, z = (((p3.toUInt32 >>> ((6 : Int32) &&& 31).toUInt32).toInt32) &&& (7 : Int32)) := ⟨_, rfl⟩
  obtain ⟨T20, h20, X20, e20, W20, Vs20, st20⟩ := own_stI X16 hx hby hZ e16 V16 (j := (2 : Int32)) (v := x19) at_108 ⟨by decide, by decide⟩ 2 rfl (Nat.le_of_ble_eq_true rfl) #[iv p0, iv p1, iv p2, iv p3, iv (0 : Int32), iv x3, iv x4, iv x5, iv x6, iv x7, iv x8, iv x9, rv b10, .unset, .unset, .unset, .unset, .unset, .unset, .unset, .unset, .unset] [] 109 rfl
  have G20 := gd X20 hx hby
  have N20 := Fr.snoc X20 N16 g_b10
  have Z20 := Nat.le_trans Z16 (Keep.of_wr W20).1
  have V20 : Arv Z h20 b10 k10 .int (6 : Int32) [(.int x11), (.int x15), (.int x19), (.int (0 : Int32)), (.int (0 : Int32)), (.int (0 : Int32))] (.int (0 : Int32)) := Vs20
  obtain ⟨x23, hx23⟩ : ∃ z : Int32, z = (((p3.toUInt32 >>> ((9 : Int32) &&& 31).toUInt32).toInt32) &&& (7 : Int32)) := ⟨_, rfl⟩
  obtain ⟨T24, h24, X24, e24, W24, Vs24, st24⟩ := own_stI X20 hx hby hZ e20 V20 (j := (3 : Int32)) (v := x23) at_119 ⟨by decide, by decide⟩ 3 rfl (Nat.le_of_ble_eq_true rfl) #[iv p0, iv p1, iv p2, iv p3, iv (0 : Int32), iv x3, iv x4, iv x5, iv x6, iv x7, iv x8, iv x9, rv b10, .unset, .unset, .unset, .unset, .unset, .unset, .unset, .unset, .unset] [] 120 rfl
  have G24 := gd X24 hx hby
  have N24 := Fr.snoc X24 N20 g_b10
  have Z24 := Nat.le_trans Z20 (Keep.of_wr W24).1
  have V24 : Arv Z h24 b10 k10 .int (6 : Int32) [(.int x11), (.int x15), (.int x19), (.int x23), (.int (0 : Int32)), (.int (0 : Int32))] (.int (0 : Int32)) := Vs24
  obtain ⟨x27, hx27⟩ : ∃ z : Int32, z = (((p3.toUInt32 >>> ((12 : Int32) &&& 31).toUInt32).toInt32) &&& (7 : Int32)) := ⟨_, rfl⟩
  obtain ⟨T28, h28, X28, e28, W28, Vs28, st28⟩ := own_stI X24 hx hby hZ e24 V24 (j := (4 : Int32)) (v := x27) at_130 ⟨by decide, by decide⟩ 4 rfl (Nat.le_of_ble_eq_true rfl) #[iv p0, iv p1, iv p2, iv p3, iv (0 : Int32), iv x3, iv x4, iv x5, iv x6, iv x7, iv x8, iv x9, rv b10, .unset, .unset, .unset, .unset, .unset, .unset, .unset, .unset, .unset] [] 131 rfl
  have G28 := gd X28 hx hby
  have N28 := Fr.snoc X28 N24 g_b10
  have Z28 := Nat.le_trans Z24 (Keep.of_wr W28).1
  have V28 : Arv Z h28 b10 k10 .int (6 : Int32) [(.int x11), (.int x15), (.int x19), (.int x23), (.int x27), (.int (0 : Int32))] (.int (0 : Int32)) := Vs28
  obtain ⟨x31, hx31⟩ : ∃ z : Int32, z = (((p3.toUInt32 >>> ((15 : Int32) &&& 31).toUInt32).toInt32) &&& (7 : Int32)) := ⟨_, rfl⟩
  obtain ⟨T32, h32, X32, e32, W32, Vs32, st32⟩ := own_stI X28 hx hby hZ e28 V28 (j := (5 : Int32)) (v := x31) at_141 ⟨by decide, by decide⟩ 5 rfl (Nat.le_of_ble_eq_true rfl) #[iv p0, iv p1, iv p2, iv p3, iv (0 : Int32), iv x3, iv x4, iv x5, iv x6, iv x7, iv x8, iv x9, rv b10, .unset, .unset, .unset, .unset, .unset, .unset, .unset, .unset, .unset] [] 142 rfl
  have G32 := gd X32 hx hby
  have N32 := Fr.snoc X32 N28 g_b10
  have Z32 := Nat.le_trans Z28 (Keep.of_wr W32).1
  have V32 : Arv Z h32 b10 k10 .int (6 : Int32) [(.int x11), (.int x15), (.int x19), (.int x23), (.int x27), (.int x31)] (.int (0 : Int32)) := Vs32
  obtain ⟨T35, h35, k35, X35, e35, E35, A35, st35⟩ := newP X32 hx hZ (wd hw 1 rfl) e32 (g := (mkF m 144 #[iv p0, iv p1, iv p2, iv p3, iv (0 : Int32), iv x3, iv x4, iv x5, iv x6, iv x7, iv x8, iv x9, rv b10, .unset, .unset, .unset, .unset, .unset, .unset, .unset, .unset, .unset] [(.int (6 : Int32))])) rfl (hb hby at_144) rfl (by decide) (cap := 6) (by decide) (by decide) (by decide) (by decide)
  have G35 := gd X35 hx hby
  obtain ⟨b35, g35⟩ : ∃ z, z = h32.size := ⟨_, rfl⟩
  rw [← g35] at A35 st35
  have ne_b10_b35 : b10 ≠ b35 := Nat.ne_of_lt (Nat.lt_of_lt_of_le V32.lt (Nat.le_of_eq g35.symm))
  have g_b35 : n0 ≤ b35 := Nat.le_trans Z32 (Nat.le_of_eq g35.symm)
  have f36 := V32.ext E35
  have Z35 := Nat.le_trans Z32 E35.1
  have V_b35 : Arv Z h35 b35 k35 .double (6 : Int32) [(.double (0 : UInt64)), (.double (0 : UInt64)), (.double (0 : UInt64)), (.double (0 : UInt64)), (.double (0 : UInt64)), (.double (0 : UInt64))] (.double (0 : UInt64)) := (Arv.new A35 (by decide)).pad (pad_rep [] (.double (0 : UInt64)) 6)
  obtain ⟨x37, hx37⟩ : ∃ z : UInt64, z = (FP.i2d x11) := ⟨_, rfl⟩
  obtain ⟨T38, h38, X38, e38, W38, Vs38, st38⟩ := own_stD X35 hx hby hZ e35 V_b35 (j := (0 : Int32)) (v := x37) at_153 ⟨by decide, by decide⟩ 0 rfl (Nat.le_of_ble_eq_true rfl) #[iv p0, iv p1, iv p2, iv p3, iv (0 : Int32), iv x3, iv x4, iv x5, iv x6, iv x7, iv x8, iv x9, rv b10, .unset, .unset, .unset, .unset, .unset, .unset, .unset, .unset, .unset] [(.ref b35)] 154 rfl
  have G38 := gd X38 hx hby
  have N38 := Fr.snoc X38 N32 g_b35
  have f40 := f36.other W38 ne_b10_b35
  have Z38 := Nat.le_trans Z35 (Keep.of_wr W38).1
  have V38 : Arv Z h38 b35 k35 .double (6 : Int32) [(.double x37), (.double (0 : UInt64)), (.double (0 : UInt64)), (.double (0 : UInt64)), (.double (0 : UInt64)), (.double (0 : UInt64))] (.double (0 : UInt64)) := Vs38
  obtain ⟨x44, hx44⟩ : ∃ z : UInt64, z = (FP.i2d x15) := ⟨_, rfl⟩
  obtain ⟨T45, h45, X45, e45, W45, Vs45, st45⟩ := own_stD X38 hx hby hZ e38 V38 (j := (1 : Int32)) (v := x44) at_161 ⟨by decide, by decide⟩ 1 rfl (Nat.le_of_ble_eq_true rfl) #[iv p0, iv p1, iv p2, iv p3, iv (0 : Int32), iv x3, iv x4, iv x5, iv x6, iv x7, iv x8, iv x9, rv b10, .unset, .unset, .unset, .unset, .unset, .unset, .unset, .unset, .unset] [(.ref b35)] 162 rfl
  have G45 := gd X45 hx hby
  have N45 := Fr.snoc X45 N38 g_b35
  have f47 := f40.other W45 ne_b10_b35
  have Z45 := Nat.le_trans Z38 (Keep.of_wr W45).1
  have V45 : Arv Z h45 b35 k35 .double (6 : Int32) [(.double x37), (.double x44), (.double (0 : UInt64)), (.double (0 : UInt64)), (.double (0 : UInt64)), (.double (0 : UInt64))] (.double (0 : UInt64)) := Vs45
  obtain ⟨x51, hx51⟩ : ∃ z : UInt64, z = (FP.i2d x19) := ⟨_, rfl⟩
  obtain ⟨T52, h52, X52, e52, W52, Vs52, st52⟩ := own_stD X45 hx hby hZ e45 V45 (j := (2 : Int32)) (v := x51) at_169 ⟨by decide, by decide⟩ 2 rfl (Nat.le_of_ble_eq_true rfl) #[iv p0, iv p1, iv p2, iv p3, iv (0 : Int32), iv x3, iv x4, iv x5, iv x6, iv x7, iv x8, iv x9, rv b10, .unset, .unset, .unset, .unset, .unset, .unset, .unset, .unset, .unset] [(.ref b35)] 170 rfl
  have G52 := gd X52 hx hby
  have N52 := Fr.snoc X52 N45 g_b35
  have f54 := f47.other W52 ne_b10_b35
  have Z52 := Nat.le_trans Z45 (Keep.of_wr W52).1
  have V52 : Arv Z h52 b35 k35 .double (6 : Int32) [(.double x37), (.double x44), (.double x51), (.double (0 : UInt64)), (.double (0 : UInt64)), (.double (0 : UInt64))] (.double (0 : UInt64)) := Vs52
  obtain ⟨x58, hx58⟩ : ∃ z : UInt64, z = (FP.i2d x23) := ⟨_, rfl⟩
  obtain ⟨T59, h59, X59, e59, W59, Vs59, st59⟩ := own_stD X52 hx hby hZ e52 V52 (j := (3 : Int32)) (v := x58) at_177 ⟨by decide, by decide⟩ 3 rfl (Nat.le_of_ble_eq_true rfl) #[iv p0, iv p1, iv p2, iv p3, iv (0 : Int32), iv x3, iv x4, iv x5, iv x6, iv x7, iv x8, iv x9, rv b10, .unset, .unset, .unset, .unset, .unset, .unset, .unset, .unset, .unset] [(.ref b35)] 178 rfl
  have G59 := gd X59 hx hby
  have N59 := Fr.snoc X59 N52 g_b35
  have f61 := f54.other W59 ne_b10_b35
  have Z59 := Nat.le_trans Z52 (Keep.of_wr W59).1
  have V59 : Arv Z h59 b35 k35 .double (6 : Int32) [(.double x37), (.double x44), (.double x51), (.double x58), (.double (0 : UInt64)), (.double (0 : UInt64))] (.double (0 : UInt64)) := Vs59
  obtain ⟨x65, hx65⟩ : ∃ z : UInt64, z = (FP.i2d x27) := ⟨_, rfl⟩
  obtain ⟨T66, h66, X66, e66, W66, Vs66, st66⟩ := own_stD X59 hx hby hZ e59 V59 (j := (4 : Int32)) (v := x65) at_185 ⟨by decide, by decide⟩ 4 rfl (Nat.le_of_ble_eq_true rfl) #[iv p0, iv p1, iv p2, iv p3, iv (0 : Int32), iv x3, iv x4, iv x5, iv x6, iv x7, iv x8, iv x9, rv b10, .unset, .unset, .unset, .unset, .unset, .unset, .unset, .unset, .unset] [(.ref b35)] 186 rfl
  have G66 := gd X66 hx hby
  have N66 := Fr.snoc X66 N59 g_b35
  have f68 := f61.other W66 ne_b10_b35
  have Z66 := Nat.le_trans Z59 (Keep.of_wr W66).1
  have V66 : Arv Z h66 b35 k35 .double (6 : Int32) [(.double x37), (.double x44), (.double x51), (.double x58), (.double x65), (.double (0 : UInt64))] (.double (0 : UInt64)) := Vs66
  obtain ⟨x72, hx72⟩ : ∃ z : UInt64, z = (FP.i2d x31) := ⟨_, rfl⟩
  obtain ⟨T73, h73, X73, e73, W73, Vs73, st73⟩ := own_stD X66 hx hby hZ e66 V66 (j := (5 : Int32)) (v := x72) at_193 ⟨by decide, by decide⟩ 5 rfl (Nat.le_of_ble_eq_true rfl) #[iv p0, iv p1, iv p2, iv p3, iv (0 : Int32), iv x3, iv x4, iv x5, iv x6, iv x7, iv x8, iv x9, rv b10, .unset, .unset, .unset, .unset, .unset, .unset, .unset, .unset, .unset] [(.ref b35)] 194 rfl
  have G73 := gd X73 hx hby
  have N73 := Fr.snoc X73 N66 g_b35
  have f75 := f68.other W73 ne_b10_b35
  have Z73 := Nat.le_trans Z66 (Keep.of_wr W73).1
  have V73 : Arv Z h73 b35 k35 .double (6 : Int32) [(.double x37), (.double x44), (.double x51), (.double x58), (.double x65), (.double x72)] (.double (0 : UInt64)) := Vs73
  obtain ⟨T79, h79, k79, X79, e79, E79, A79, st79⟩ := newP X73 hx hZ (wd hw 0 rfl) e73 (g := (mkF m 202 #[iv p0, iv p1, iv p2, iv p3, iv (0 : Int32), iv x3, iv x4, iv x5, iv x6, iv x7, iv x8, iv x9, rv b10, rv b35, .unset, .unset, .unset, .unset, .unset, .unset, .unset, .unset] [(.int (0 : Int32))])) rfl (hb hby at_202) rfl (by decide) (cap := 0) (by decide) (by decide) (by decide) (by decide)
  have G79 := gd X79 hx hby
  obtain ⟨b79, g79⟩ : ∃ z, z = h73.size := ⟨_, rfl⟩
  rw [← g79] at A79 st79
  have ne_b10_b79 : b10 ≠ b79 := Nat.ne_of_lt (Nat.lt_of_lt_of_le f75.lt (Nat.le_of_eq g79.symm))
  have ne_b35_b79 : b35 ≠ b79 := Nat.ne_of_lt (Nat.lt_of_lt_of_le V73.lt (Nat.le_of_eq g79.symm))
  have g_b79 : n0 ≤ b79 := Nat.le_trans Z73 (Nat.le_of_eq g79.symm)
  have f80 := f75.ext E79
  have f81 := V73.ext E79
  have Z79 := Nat.le_trans Z73 E79.1
  have V_b79 : Arv Z h79 b79 k79 .int (0 : Int32) [] (.int (0 : Int32)) := Arv.new A79 (by decide)
  obtain ⟨T82, h82, k82, X82, e82, E82, A82, st82⟩ := newP X79 hx hZ (wd hw 0 rfl) e79 (g := (mkF m 272 #[iv p0, iv p1, iv p2, iv p3, iv (0 : Int32), iv x3, iv x4, iv x5, iv x6, iv x7, iv x8, iv x9, rv b10, rv b35, rv b79, .unset, .unset, .unset, .unset, .unset, .unset, .unset] [(.int (0 : Int32))])) rfl (hb hby at_272) rfl (by decide) (cap := 0) (by decide) (by decide) (by decide) (by decide)
  have G82 := gd X82 hx hby
  obtain ⟨b82, g82⟩ : ∃ z, z = h79.size := ⟨_, rfl⟩
  rw [← g82] at A82 st82
  have ne_b10_b82 : b10 ≠ b82 := Nat.ne_of_lt (Nat.lt_of_lt_of_le f80.lt (Nat.le_of_eq g82.symm))
  have ne_b35_b82 : b35 ≠ b82 := Nat.ne_of_lt (Nat.lt_of_lt_of_le f81.lt (Nat.le_of_eq g82.symm))
  have ne_b79_b82 : b79 ≠ b82 := Nat.ne_of_lt (Nat.lt_of_lt_of_le V_b79.lt (Nat.le_of_eq g82.symm))
  have g_b82 : n0 ≤ b82 := Nat.le_trans Z79 (Nat.le_of_eq g82.symm)
  have f83 := f80.ext E82
  have f84 := f81.ext E82
  have f85 := V_b79.ext E82
  have Z82 := Nat.le_trans Z79 E82.1
  have V_b82 : Arv Z h82 b82 k82 .int (0 : Int32) [] (.int (0 : Int32)) := Arv.new A82 (by decide)
  obtain ⟨T86, h86, X86, e86, E86, A86, D86, -, st86⟩ := newO X82 hx hZ hown (wd hw 2 rfl) (wd hw 3 rfl) (wd hw 4 rfl) e82 (g := (mkF m 336 #[iv p0, iv p1, iv p2, iv p3, iv (0 : Int32), iv x3, iv x4, iv x5, iv x6, iv x7, iv x8, iv x9, rv b10, rv b35, rv b79, rv b82, .unset, .unset, .unset, .unset, .unset, .unset] [])) rfl (hb hby at_336) (by decide) (by decide)
  have G86 := gd X86 hx hby
  obtain ⟨b86, g86⟩ : ∃ z, z = h82.size := ⟨_, rfl⟩
  rw [← g86] at A86 D86 st86
  have ne_b10_b86 : b10 ≠ b86 := Nat.ne_of_lt (Nat.lt_of_lt_of_le f83.lt (Nat.le_of_eq g86.symm))
  have ne_b35_b86 : b35 ≠ b86 := Nat.ne_of_lt (Nat.lt_of_lt_of_le f84.lt (Nat.le_of_eq g86.symm))
  have ne_b79_b86 : b79 ≠ b86 := Nat.ne_of_lt (Nat.lt_of_lt_of_le f85.lt (Nat.le_of_eq g86.symm))
  have ne_b82_b86 : b82 ≠ b86 := Nat.ne_of_lt (Nat.lt_of_lt_of_le V_b82.lt (Nat.le_of_eq g86.symm))
  have g_b86 : n0 ≤ b86 := Nat.le_trans Z82 (Nat.le_of_eq g86.symm)
  have f87 := f83.ext E86
  have f88 := f84.ext E86
  have f89 := f85.ext E86
  have f90 := V_b82.ext E86
  have Z86 := Nat.le_trans Z82 E86.1
  have F_states_b86 : Fld Z h86 b86 "com/example/oceanus/oceanus/analysis/Taken" "states" "[I" .null := D86 (Or.inr (wd hw 17 rfl)) (ty := (.array .int)) (by decide)
  have F_agents_b86 : Fld Z h86 b86 "com/example/oceanus/oceanus/analysis/Taken" "agents" "[I" .null := D86 (Or.inr (wd hw 19 rfl)) (ty := (.array .int)) (by decide)
  obtain ⟨_, _, ⟨T91, L91, k91, n91⟩, -, X91, ⟨Lc91, hQ91, l91, y91, z91⟩, st91⟩ := X86.specialBack hx (y := (⟨"com/example/oceanus/oceanus/analysis/Taken", "<init>", "([I[I)V"⟩ : MethodName)) rfl hown (mvT hZ (wd hw 5 rfl)) (mvT hZ (wd hw 6 rfl)) (mvT hZ (wd hw 7 rfl)) (by decide) (backOf (W := 1) (rm1 l Z a0 hw [] b86 b79 b82 h86 n0 Z86 A86 g_b86 F_states_b86 F_agents_b86) hZ (wd hw 7 rfl) (wd hw 4 rfl) (by decide) (by decide)) (g := (mkF m 344 #[iv p0, iv p1, iv p2, iv p3, iv (0 : Int32), iv x3, iv x4, iv x5, iv x6, iv x7, iv x8, iv x9, rv b10, rv b35, rv b79, rv b82, .unset, .unset, .unset, .unset, .unset, .unset] [(.ref b82), (.ref b79), (.ref b86), (.ref b86)])) rfl (by rw [hml]; rfl) (Steps.refl _) (a := b86) (argsL := [(.ref b79), (.ref b82)]) (rest := [(.ref b86)]) (lenOf pd_1 rfl) rfl (by show 2 * 0 + _ ≤ _; exact Nat.le_of_eq rfl) (hb hby at_344) (fun _ _ => ⟨rfl, e86, (by decide : 5 + 0 ≤ _), (by decide : 14 + 0 ≤ _)⟩)
  dsimp only [Pt.U, Pt.locs, Pt.cells, Pt.slots] at X91 l91 y91 z91 st91 hQ91
  replace l91 : ((((((((((((([] ++ [⟨b10, ((0 : Int32)).toNatClampNeg⟩]) ++ [⟨b10, ((1 : Int32)).toNatClampNeg⟩]) ++ [⟨b10, ((2 : Int32)).toNatClampNeg⟩]) ++ [⟨b10, ((3 : Int32)).toNatClampNeg⟩]) ++ [⟨b10, ((4 : Int32)).toNatClampNeg⟩]) ++ [⟨b10, ((5 : Int32)).toNatClampNeg⟩]) ++ [⟨b35, ((0 : Int32)).toNatClampNeg⟩]) ++ [⟨b35, ((1 : Int32)).toNatClampNeg⟩]) ++ [⟨b35, ((2 : Int32)).toNatClampNeg⟩]) ++ [⟨b35, ((3 : Int32)).toNatClampNeg⟩]) ++ [⟨b35, ((4 : Int32)).toNatClampNeg⟩]) ++ [⟨b35, ((5 : Int32)).toNatClampNeg⟩]) ++ Lc91) = L91 := l91.symm
  subst l91 y91 z91
  obtain ⟨rfl, Nq91, K91, Eq91, Fq91_0, Fq91_1⟩ := hQ91
  have N91 := Fr.app N73 Nq91
  have f93 := f87.keep K91 (ninS ne_b10_b86 nin0)
  have f96 := f88.keep K91 (ninS ne_b35_b86 nin0)
  have f100 := f89.keep K91 (ninS ne_b79_b86 nin0)
  have f105 := f90.keep K91 (ninS ne_b82_b86 nin0)
  have f113 := A86.keep K91
  have Z91k := Nat.le_trans Z86 K91.1
  have G91 := gd X91 hx hby
  obtain ⟨cq114, kq114, q114a, q114b, q114c⟩ := isOf hZ rfl Eq91
  obtain ⟨_, _, ⟨T114, L114, k114, n114⟩, -, X114, ⟨Lc114, hQ114, l114, y114, z114⟩, st114⟩ := X91.virtualBack hx (y := (⟨"com/example/oceanus/oceanus/analysis/Taken", "unmade", "([DZ)I"⟩ : MethodName)) (z := (⟨"com/example/oceanus/oceanus/analysis/Taken", "unmade", "([DZ)I"⟩ : MethodName)) hown (mvT hZ (wd hw 20 rfl)) (mvT hZ (wd hw 21 rfl)) (notFace_of_selects (args := #[]) (mvT hZ (wd hw 23 rfl))) (mvT hZ (wd hw 23 rfl)) (mvT hZ (wd hw 22 rfl)) (by decide) (backOf (W := 0) (rm4_0 l Z a0 hw [] b86 b35 x3 T91.heap n0 Z91k Fq91_0 Fq91_1 f100 f105 f96) hZ (wd hw 24 rfl) (wd hw 4 rfl) (by decide) (by decide)) q114a q114c (g := (mkF m 355 #[iv p0, iv p1, iv p2, iv p3, iv (0 : Int32), iv x3, iv x4, iv x5, iv x6, iv x7, iv x8, iv x9, rv b10, rv b35, rv b79, rv b82, rv b86, .unset, .unset, .unset, .unset, .unset] [(.int x3), (.ref b35), (.ref b86)])) rfl (by rw [hml]; rfl) (Steps.refl _) (argsL := [(.ref b35), (.int x3)]) (rest := []) (lenOf pd_2 rfl) rfl (by show 2 * 0 + _ ≤ _; exact Nat.le_of_eq rfl) (hb hby at_355) (fun _ _ => ⟨rfl, rfl, (by decide : 5 + 0 ≤ _), (by decide : 14 + 0 ≤ _)⟩)
  dsimp only [Pt.U, Pt.locs, Pt.cells, Pt.slots] at X114 l114 y114 z114 st114 hQ114
  replace l114 : (((((((((((((([] ++ [⟨b10, ((0 : Int32)).toNatClampNeg⟩]) ++ [⟨b10, ((1 : Int32)).toNatClampNeg⟩]) ++ [⟨b10, ((2 : Int32)).toNatClampNeg⟩]) ++ [⟨b10, ((3 : Int32)).toNatClampNeg⟩]) ++ [⟨b10, ((4 : Int32)).toNatClampNeg⟩]) ++ [⟨b10, ((5 : Int32)).toNatClampNeg⟩]) ++ [⟨b35, ((0 : Int32)).toNatClampNeg⟩]) ++ [⟨b35, ((1 : Int32)).toNatClampNeg⟩]) ++ [⟨b35, ((2 : Int32)).toNatClampNeg⟩]) ++ [⟨b35, ((3 : Int32)).toNatClampNeg⟩]) ++ [⟨b35, ((4 : Int32)).toNatClampNeg⟩]) ++ [⟨b35, ((5 : Int32)).toNatClampNeg⟩]) ++ Lc91) ++ Lc114) = L114 := l114.symm
  subst l114 y114 z114
  obtain ⟨rfl, rfl, e114⟩ := hQ114
  simp only [List.append_nil, Nat.add_zero] at X114
  have G114 := gd X114 hx hby
  obtain ⟨_, _, ⟨T115, L115, k115, n115⟩, -, X115, ⟨Lc115, hQ115, l115, y115, z115⟩, st115⟩ := Jvm.LawKit.callS X114 hx (y := (⟨"com/example/oceanus/oceanus/analysis/TakenUnmadePinLaw", "lacks", "(IIZ)Z"⟩ : MethodName)) hown (mvT hZ (wd hw 25 rfl)) (mvT hZ (wd hw 26 rfl)) (mvT hZ (wd hw 27 rfl)) (mvT hZ (wd hw 28 rfl)) (by decide) (backOf (W := 0) (rm5 l Z a0 hw [] ((([x11, x15, x19, x23, x27, x31] : List Int32).getD x4.toNatClampNeg (0 : Int32))) x7 x3 T91.heap n0 Z91k ) hZ (wd hw 28 rfl) (wd hw 27 rfl) (by decide) (by decide)) (g := (mkF m 369 #[iv p0, iv p1, iv p2, iv p3, iv (0 : Int32), iv x3, iv x4, iv x5, iv x6, iv x7, iv x8, iv x9, rv b10, rv b35, rv b79, rv b82, rv b86, iv (-1 : Int32), .unset, .unset, .unset, .unset] [(.int x3), (.int x7), (.int (([x11, x15, x19, x23, x27, x31] : List Int32).getD x4.toNatClampNeg (0 : Int32)))])) rfl (by rw [hml]; rfl) (argsL := [(.int (([x11, x15, x19, x23, x27, x31] : List Int32).getD x4.toNatClampNeg (0 : Int32))), (.int x7), (.int x3)]) (rest := []) (lenOf pd_3 rfl) rfl (by show 2 * 0 + _ ≤ _; exact Nat.le_of_eq rfl) (hb hby at_369) (fun _ _ => ⟨rfl, e114, (by decide : 5 + 0 ≤ _), (by decide : 14 + 0 ≤ _)⟩)
  dsimp only [Pt.U, Pt.locs, Pt.cells, Pt.slots] at X115 l115 y115 z115 st115 hQ115
  replace l115 : (((((((((((((([] ++ [⟨b10, ((0 : Int32)).toNatClampNeg⟩]) ++ [⟨b10, ((1 : Int32)).toNatClampNeg⟩]) ++ [⟨b10, ((2 : Int32)).toNatClampNeg⟩]) ++ [⟨b10, ((3 : Int32)).toNatClampNeg⟩]) ++ [⟨b10, ((4 : Int32)).toNatClampNeg⟩]) ++ [⟨b10, ((5 : Int32)).toNatClampNeg⟩]) ++ [⟨b35, ((0 : Int32)).toNatClampNeg⟩]) ++ [⟨b35, ((1 : Int32)).toNatClampNeg⟩]) ++ [⟨b35, ((2 : Int32)).toNatClampNeg⟩]) ++ [⟨b35, ((3 : Int32)).toNatClampNeg⟩]) ++ [⟨b35, ((4 : Int32)).toNatClampNeg⟩]) ++ [⟨b35, ((5 : Int32)).toNatClampNeg⟩]) ++ Lc91) ++ Lc115) = L115 := l115.symm
  subst l115 y115 z115
  obtain ⟨rfl, rfl, e115⟩ := hQ115
  simp only [List.append_nil, Nat.add_zero] at X115
  have G115 := gd X115 hx hby
  obtain ⟨x116, hx116⟩ : ∃ z : Int32, z = (rv5 (([x11, x15, x19, x23, x27, x31] : List Int32).getD x4.toNatClampNeg (0 : Int32)) x7 x3) := ⟨_, rfl⟩
  obtain ⟨_, _, ⟨T117, L117, k117, n117⟩, -, X117, ⟨Lc117, hQ117, l117, y117, z117⟩, st117⟩ := Jvm.LawKit.callS X115 hx (y := (⟨"com/example/oceanus/oceanus/analysis/TakenUnmadePinLaw", "lacks", "(IIZ)Z"⟩ : MethodName)) hown (mvT hZ (wd hw 25 rfl)) (mvT hZ (wd hw 26 rfl)) (mvT hZ (wd hw 27 rfl)) (mvT hZ (wd hw 28 rfl)) (by decide) (backOf (W := 0) (rm5 l Z a0 hw [] ((([x11, x15, x19, x23, x27, x31] : List Int32).getD x5.toNatClampNeg (0 : Int32))) x8 x3 T91.heap n0 Z91k ) hZ (wd hw 28 rfl) (wd hw 27 rfl) (by decide) (by decide)) (g := (mkF m 383 #[iv p0, iv p1, iv p2, iv p3, iv (0 : Int32), iv x3, iv x4, iv x5, iv x6, iv x7, iv x8, iv x9, rv b10, rv b35, rv b79, rv b82, rv b86, iv (-1 : Int32), iv x116, .unset, .unset, .unset] [(.int x3), (.int x8), (.int (([x11, x15, x19, x23, x27, x31] : List Int32).getD x5.toNatClampNeg (0 : Int32)))])) rfl (by rw [hml]; rfl) (argsL := [(.int (([x11, x15, x19, x23, x27, x31] : List Int32).getD x5.toNatClampNeg (0 : Int32))), (.int x8), (.int x3)]) (rest := []) (lenOf pd_3 rfl) rfl (by show 2 * 0 + _ ≤ _; exact Nat.le_of_eq rfl) (hb hby at_383) (fun _ _ => ⟨rfl, e115, (by decide : 5 + 0 ≤ _), (by decide : 14 + 0 ≤ _)⟩)
  dsimp only [Pt.U, Pt.locs, Pt.cells, Pt.slots] at X117 l117 y117 z117 st117 hQ117
  replace l117 : (((((((((((((([] ++ [⟨b10, ((0 : Int32)).toNatClampNeg⟩]) ++ [⟨b10, ((1 : Int32)).toNatClampNeg⟩]) ++ [⟨b10, ((2 : Int32)).toNatClampNeg⟩]) ++ [⟨b10, ((3 : Int32)).toNatClampNeg⟩]) ++ [⟨b10, ((4 : Int32)).toNatClampNeg⟩]) ++ [⟨b10, ((5 : Int32)).toNatClampNeg⟩]) ++ [⟨b35, ((0 : Int32)).toNatClampNeg⟩]) ++ [⟨b35, ((1 : Int32)).toNatClampNeg⟩]) ++ [⟨b35, ((2 : Int32)).toNatClampNeg⟩]) ++ [⟨b35, ((3 : Int32)).toNatClampNeg⟩]) ++ [⟨b35, ((4 : Int32)).toNatClampNeg⟩]) ++ [⟨b35, ((5 : Int32)).toNatClampNeg⟩]) ++ Lc91) ++ Lc117) = L117 := l117.symm
  subst l117 y117 z117
  obtain ⟨rfl, rfl, e117⟩ := hQ117
  simp only [List.append_nil, Nat.add_zero] at X117
  have G117 := gd X117 hx hby
  obtain ⟨x118, hx118⟩ : ∃ z : Int32, z = (rv5 (([x11, x15, x19, x23, x27, x31] : List Int32).getD x5.toNatClampNeg (0 : Int32)) x8 x3) := ⟨_, rfl⟩
  obtain ⟨_, _, ⟨T119, L119, k119, n119⟩, -, X119, ⟨Lc119, hQ119, l119, y119, z119⟩, st119⟩ := Jvm.LawKit.callS X117 hx (y := (⟨"com/example/oceanus/oceanus/analysis/TakenUnmadePinLaw", "lacks", "(IIZ)Z"⟩ : MethodName)) hown (mvT hZ (wd hw 25 rfl)) (mvT hZ (wd hw 26 rfl)) (mvT hZ (wd hw 27 rfl)) (mvT hZ (wd hw 28 rfl)) (by decide) (backOf (W := 0) (rm5 l Z a0 hw [] ((([x11, x15, x19, x23, x27, x31] : List Int32).getD x6.toNatClampNeg (0 : Int32))) x9 x3 T91.heap n0 Z91k ) hZ (wd hw 28 rfl) (wd hw 27 rfl) (by decide) (by decide)) (g := (mkF m 397 #[iv p0, iv p1, iv p2, iv p3, iv (0 : Int32), iv x3, iv x4, iv x5, iv x6, iv x7, iv x8, iv x9, rv b10, rv b35, rv b79, rv b82, rv b86, iv (-1 : Int32), iv x116, iv x118, .unset, .unset] [(.int x3), (.int x9), (.int (([x11, x15, x19, x23, x27, x31] : List Int32).getD x6.toNatClampNeg (0 : Int32)))])) rfl (by rw [hml]; rfl) (argsL := [(.int (([x11, x15, x19, x23, x27, x31] : List Int32).getD x6.toNatClampNeg (0 : Int32))), (.int x9), (.int x3)]) (rest := []) (lenOf pd_3 rfl) rfl (by show 2 * 0 + _ ≤ _; exact Nat.le_of_eq rfl) (hb hby at_397) (fun _ _ => ⟨rfl, e117, (by decide : 5 + 0 ≤ _), (by decide : 14 + 0 ≤ _)⟩)
  dsimp only [Pt.U, Pt.locs, Pt.cells, Pt.slots] at X119 l119 y119 z119 st119 hQ119
  replace l119 : (((((((((((((([] ++ [⟨b10, ((0 : Int32)).toNatClampNeg⟩]) ++ [⟨b10, ((1 : Int32)).toNatClampNeg⟩]) ++ [⟨b10, ((2 : Int32)).toNatClampNeg⟩]) ++ [⟨b10, ((3 : Int32)).toNatClampNeg⟩]) ++ [⟨b10, ((4 : Int32)).toNatClampNeg⟩]) ++ [⟨b10, ((5 : Int32)).toNatClampNeg⟩]) ++ [⟨b35, ((0 : Int32)).toNatClampNeg⟩]) ++ [⟨b35, ((1 : Int32)).toNatClampNeg⟩]) ++ [⟨b35, ((2 : Int32)).toNatClampNeg⟩]) ++ [⟨b35, ((3 : Int32)).toNatClampNeg⟩]) ++ [⟨b35, ((4 : Int32)).toNatClampNeg⟩]) ++ [⟨b35, ((5 : Int32)).toNatClampNeg⟩]) ++ Lc91) ++ Lc119) = L119 := l119.symm
  subst l119 y119 z119
  obtain ⟨rfl, rfl, e119⟩ := hQ119
  simp only [List.append_nil, Nat.add_zero] at X119
  have G119 := gd X119 hx hby
  obtain ⟨x120, hx120⟩ : ∃ z : Int32, z = (rv5 (([x11, x15, x19, x23, x27, x31] : List Int32).getD x6.toNatClampNeg (0 : Int32)) x9 x3) := ⟨_, rfl⟩
  obtain ⟨fs, hr, hrun, hended, hW, hsame⟩ := X119.leave (v := some (.int (1 : Int32))) (fun h => by rw [Bd.returns] at h; cases h)
  refine ⟨_, _, pre0 _ ?_, hrun, hended, _, _, rfl, ?_, ⟨_, rfl⟩, hW, hsame.mono (by decide) (by decide)⟩
  · show Steps p.tables e below (s₁.setTop (mkF m 0 #[iv p0, iv p1, iv p2, iv p3, .unset, .unset, .unset, .unset, .unset, .unset, .unset, .unset, .unset, .unset, .unset, .unset, .unset, .unset, .unset, .unset, .unset, .unset] [])) _
    refine miloadN 1 G0 at_0 rfl rfl ?_
    refine miconst 2 G0 at_1 (v := (3 : Int32)) rfl rfl ?_
    refine miand 3 G0 at_2 rfl rfl ?_
    refine castTop (g' := (mkF m 3 #[iv p0, iv p1, iv p2, iv p3, .unset, .unset, .unset, .unset, .unset, .unset, .unset, .unset, .unset, .unset, .unset, .unset, .unset, .unset, .unset, .unset, .unset, .unset] [(.int (0 : Int32))])) (by rw [hpin3]) ?_
    refine mistore 5 G0 at_3 #[iv p0, iv p1, iv p2, iv p3, iv (0 : Int32), .unset, .unset, .unset, .unset, .unset, .unset, .unset, .unset, .unset, .unset, .unset, .unset, .unset, .unset, .unset, .unset, .unset] rfl rfl ?_
    refine miloadN 6 G0 at_5 rfl rfl ?_
    refine miconst 7 G0 at_6 (v := (2 : Int32)) rfl rfl ?_
    refine miushr 8 G0 at_7 rfl rfl ?_
    refine miconst 9 G0 at_8 (v := (1 : Int32)) rfl rfl ?_
    refine miand 10 G0 at_9 rfl rfl ?_
    refine st2 _ ?_
    refine mistore 20 G2 at_18 #[iv p0, iv p1, iv p2, iv p3, iv (0 : Int32), iv x3, .unset, .unset, .unset, .unset, .unset, .unset, .unset, .unset, .unset, .unset, .unset, .unset, .unset, .unset, .unset, .unset] rfl rfl ?_
    refine miloadN 21 G2 at_20 rfl rfl ?_
    refine miconst 22 G2 at_21 (v := (1 : Int32)) rfl rfl ?_
    refine miand 23 G2 at_22 rfl rfl ?_
    refine castTop (g' := (mkF m 23 #[iv p0, iv p1, iv p2, iv p3, iv (0 : Int32), iv x3, .unset, .unset, .unset, .unset, .unset, .unset, .unset, .unset, .unset, .unset, .unset, .unset, .unset, .unset, .unset, .unset] [(.int x4)])) (by rw [hx4]) ?_
    refine mistore 25 G2 at_23 #[iv p0, iv p1, iv p2, iv p3, iv (0 : Int32), iv x3, iv x4, .unset, .unset, .unset, .unset, .unset, .unset, .unset, .unset, .unset, .unset, .unset, .unset, .unset, .unset, .unset] rfl rfl ?_
    refine miload 27 G2 at_25 rfl rfl ?_
    refine miconst 28 G2 at_27 (v := (1 : Int32)) rfl rfl ?_
    refine miadd 29 G2 at_28 rfl rfl ?_
    refine miloadN 30 G2 at_29 rfl rfl ?_
    refine miconst 31 G2 at_30 (v := (1 : Int32)) rfl rfl ?_
    refine miushr 32 G2 at_31 rfl rfl ?_
    refine miconst 33 G2 at_32 (v := (1 : Int32)) rfl rfl ?_
    refine miand 34 G2 at_33 rfl rfl ?_
    refine miadd 35 G2 at_34 rfl rfl ?_
    refine castTop (g' := (mkF m 35 #[iv p0, iv p1, iv p2, iv p3, iv (0 : Int32), iv x3, iv x4, .unset, .unset, .unset, .unset, .unset, .unset, .unset, .unset, .unset, .unset, .unset, .unset, .unset, .unset, .unset] [(.int x5)])) (by rw [hx5]) ?_
    refine mistore 37 G2 at_35 #[iv p0, iv p1, iv p2, iv p3, iv (0 : Int32), iv x3, iv x4, iv x5, .unset, .unset, .unset, .unset, .unset, .unset, .unset, .unset, .unset, .unset, .unset, .unset, .unset, .unset] rfl rfl ?_
    refine miload 39 G2 at_37 rfl rfl ?_
    refine miconst 40 G2 at_39 (v := (1 : Int32)) rfl rfl ?_
    refine miadd 41 G2 at_40 rfl rfl ?_
    refine miloadN 42 G2 at_41 rfl rfl ?_
    refine miconst 43 G2 at_42 (v := (2 : Int32)) rfl rfl ?_
    refine miushr 44 G2 at_43 rfl rfl ?_
    refine miconst 45 G2 at_44 (v := (1 : Int32)) rfl rfl ?_
    refine miand 46 G2 at_45 rfl rfl ?_
    refine miadd 47 G2 at_46 rfl rfl ?_
    refine castTop (g' := (mkF m 47 #[iv p0, iv p1, iv p2, iv p3, iv (0 : Int32), iv x3, iv x4, iv x5, .unset, .unset, .unset, .unset, .unset, .unset, .unset, .unset, .unset, .unset, .unset, .unset, .unset, .unset] [(.int x6)])) (by rw [hx6]) ?_
    refine mistore 49 G2 at_47 #[iv p0, iv p1, iv p2, iv p3, iv (0 : Int32), iv x3, iv x4, iv x5, iv x6, .unset, .unset, .unset, .unset, .unset, .unset, .unset, .unset, .unset, .unset, .unset, .unset, .unset] rfl rfl ?_
    refine miconst 50 G2 at_49 (v := (1 : Int32)) rfl rfl ?_
    refine miloadN 51 G2 at_50 rfl rfl ?_
    refine miconst 52 G2 at_51 (v := (3 : Int32)) rfl rfl ?_
    refine miand 53 G2 at_52 rfl rfl ?_
    refine miadd 54 G2 at_53 rfl rfl ?_
    refine castTop (g' := (mkF m 54 #[iv p0, iv p1, iv p2, iv p3, iv (0 : Int32), iv x3, iv x4, iv x5, iv x6, .unset, .unset, .unset, .unset, .unset, .unset, .unset, .unset, .unset, .unset, .unset, .unset, .unset] [(.int x7)])) (by rw [hx7]) ?_
    refine mistore 56 G2 at_54 #[iv p0, iv p1, iv p2, iv p3, iv (0 : Int32), iv x3, iv x4, iv x5, iv x6, iv x7, .unset, .unset, .unset, .unset, .unset, .unset, .unset, .unset, .unset, .unset, .unset, .unset] rfl rfl ?_
    refine miconst 57 G2 at_56 (v := (1 : Int32)) rfl rfl ?_
    refine miloadN 58 G2 at_57 rfl rfl ?_
    refine miconst 59 G2 at_58 (v := (2 : Int32)) rfl rfl ?_
    refine miushr 60 G2 at_59 rfl rfl ?_
    refine miconst 61 G2 at_60 (v := (3 : Int32)) rfl rfl ?_
    refine miand 62 G2 at_61 rfl rfl ?_
    refine miadd 63 G2 at_62 rfl rfl ?_
    refine castTop (g' := (mkF m 63 #[iv p0, iv p1, iv p2, iv p3, iv (0 : Int32), iv x3, iv x4, iv x5, iv x6, iv x7, .unset, .unset, .unset, .unset, .unset, .unset, .unset, .unset, .unset, .unset, .unset, .unset] [(.int x8)])) (by rw [hx8]) ?_
    refine mistore 65 G2 at_63 #[iv p0, iv p1, iv p2, iv p3, iv (0 : Int32), iv x3, iv x4, iv x5, iv x6, iv x7, iv x8, .unset, .unset, .unset, .unset, .unset, .unset, .unset, .unset, .unset, .unset, .unset] rfl rfl ?_
    refine miconst 66 G2 at_65 (v := (1 : Int32)) rfl rfl ?_
    refine miloadN 67 G2 at_66 rfl rfl ?_
    refine miconst 68 G2 at_67 (v := (4 : Int32)) rfl rfl ?_
    refine miushr 69 G2 at_68 rfl rfl ?_
    refine miconst 70 G2 at_69 (v := (3 : Int32)) rfl rfl ?_
    refine miand 71 G2 at_70 rfl rfl ?_
    refine miadd 72 G2 at_71 rfl rfl ?_
    refine castTop (g' := (mkF m 72 #[iv p0, iv p1, iv p2, iv p3, iv (0 : Int32), iv x3, iv x4, iv x5, iv x6, iv x7, iv x8, .unset, .unset, .unset, .unset, .unset, .unset, .unset, .unset, .unset, .unset, .unset] [(.int x9)])) (by rw [hx9]) ?_
    refine mistore 74 G2 at_72 #[iv p0, iv p1, iv p2, iv p3, iv (0 : Int32), iv x3, iv x4, iv x5, iv x6, iv x7, iv x8, iv x9, .unset, .unset, .unset, .unset, .unset, .unset, .unset, .unset, .unset, .unset] rfl rfl ?_
    refine mbipush 76 G2 at_74 (v := (6 : Int32)) rfl rfl ?_
    refine st10 _ ?_
    show Steps p.tables e below (T10.setTop (mkF m 78 #[iv p0, iv p1, iv p2, iv p3, iv (0 : Int32), iv x3, iv x4, iv x5, iv x6, iv x7, iv x8, iv x9, .unset, .unset, .unset, .unset, .unset, .unset, .unset, .unset, .unset, .unset] [(.ref b10)])) _
    refine mastore 80 G10 at_78 rfl #[iv p0, iv p1, iv p2, iv p3, iv (0 : Int32), iv x3, iv x4, iv x5, iv x6, iv x7, iv x8, iv x9, rv b10, .unset, .unset, .unset, .unset, .unset, .unset, .unset, .unset, .unset] rfl rfl ?_
    refine maload 82 G10 at_80 rfl rfl rfl ?_
    refine miconst 83 G10 at_82 (v := (0 : Int32)) rfl rfl ?_
    refine miloadN 84 G10 at_83 rfl rfl ?_
    refine mbipush 86 G10 at_84 (v := (7 : Int32)) rfl rfl ?_
    refine miand 87 G10 at_86 rfl rfl ?_
    refine castTop (g' := (mkF m 87 #[iv p0, iv p1, iv p2, iv p3, iv (0 : Int32), iv x3, iv x4, iv x5, iv x6, iv x7, iv x8, iv x9, rv b10, .unset, .unset, .unset, .unset, .unset, .unset, .unset, .unset, .unset] [(.int x11), (.int (0 : Int32)), (.ref b10)])) (by rw [hx11]) ?_
    refine st12 _ ?_
    refine maload 90 G12 at_88 rfl rfl rfl ?_
    refine miconst 91 G12 at_90 (v := (1 : Int32)) rfl rfl ?_
    refine miloadN 92 G12 at_91 rfl rfl ?_
    refine miconst 93 G12 at_92 (v := (3 : Int32)) rfl rfl ?_
    refine miushr 94 G12 at_93 rfl rfl ?_
    refine mbipush 96 G12 at_94 (v := (7 : Int32)) rfl rfl ?_
    refine miand 97 G12 at_96 rfl rfl ?_
    refine castTop (g' := (mkF m 97 #[iv p0, iv p1, iv p2, iv p3, iv (0 : Int32), iv x3, iv x4, iv x5, iv x6, iv x7, iv x8, iv x9, rv b10, .unset, .unset, .unset, .unset, .unset, .unset, .unset, .unset, .unset] [(.int x15), (.int (1 : Int32)), (.ref b10)])) (by rw [hx15]) ?_
    refine st16 _ ?_
    refine maload 100 G16 at_98 rfl rfl rfl ?_
    refine miconst 101 G16 at_100 (v := (2 : Int32)) rfl rfl ?_
    refine miloadN 102 G16 at_101 rfl rfl ?_
    refine mbipush 104 G16 at_102 (v := (6 : Int32)) rfl rfl ?_
    refine miushr 105 G16 at_104 rfl rfl ?_
    refine mbipush 107 G16 at_105 (v := (7 : Int32)) rfl rfl ?_
    refine miand 108 G16 at_107 rfl rfl ?_
    refine castTop (g' := (mkF m 108 #[iv p0, iv p1, iv p2, iv p3, iv (0 : Int32), iv x3, iv x4, iv x5, iv x6, iv x7, iv x8, iv x9, rv b10, .unset, .unset, .unset, .unset, .unset, .unset, .unset, .unset, .unset] [(.int x19), (.int (2 : Int32)), (.ref b10)])) (by rw [hx19]) ?_
    refine st20 _ ?_
    refine maload 111 G20 at_109 rfl rfl rfl ?_
    refine miconst 112 G20 at_111 (v := (3 : Int32)) rfl rfl ?_
    refine miloadN 113 G20 at_112 rfl rfl ?_
    refine mbipush 115 G20 at_113 (v := (9 : Int32)) rfl rfl ?_
    refine miushr 116 G20 at_115 rfl rfl ?_
    refine mbipush 118 G20 at_116 (v := (7 : Int32)) rfl rfl ?_
    refine miand 119 G20 at_118 rfl rfl ?_
    refine castTop (g' := (mkF m 119 #[iv p0, iv p1, iv p2, iv p3, iv (0 : Int32), iv x3, iv x4, iv x5, iv x6, iv x7, iv x8, iv x9, rv b10, .unset, .unset, .unset, .unset, .unset, .unset, .unset, .unset, .unset] [(.int x23), (.int (3 : Int32)), (.ref b10)])) (by rw [hx23]) ?_
    refine st24 _ ?_
    refine maload 122 G24 at_120 rfl rfl rfl ?_
    refine miconst 123 G24 at_122 (v := (4 : Int32)) rfl rfl ?_
    refine miloadN 124 G24 at_123 rfl rfl ?_
    refine mbipush 126 G24 at_124 (v := (12 : Int32)) rfl rfl ?_
    refine miushr 127 G24 at_126 rfl rfl ?_
    refine mbipush 129 G24 at_127 (v := (7 : Int32)) rfl rfl ?_
    refine miand 130 G24 at_129 rfl rfl ?_
    refine castTop (g' := (mkF m 130 #[iv p0, iv p1, iv p2, iv p3, iv (0 : Int32), iv x3, iv x4, iv x5, iv x6, iv x7, iv x8, iv x9, rv b10, .unset, .unset, .unset, .unset, .unset, .unset, .unset, .unset, .unset] [(.int x27), (.int (4 : Int32)), (.ref b10)])) (by rw [hx27]) ?_
    refine st28 _ ?_
    refine maload 133 G28 at_131 rfl rfl rfl ?_
    refine miconst 134 G28 at_133 (v := (5 : Int32)) rfl rfl ?_
    refine miloadN 135 G28 at_134 rfl rfl ?_
    refine mbipush 137 G28 at_135 (v := (15 : Int32)) rfl rfl ?_
    refine miushr 138 G28 at_137 rfl rfl ?_
    refine mbipush 140 G28 at_138 (v := (7 : Int32)) rfl rfl ?_
    refine miand 141 G28 at_140 rfl rfl ?_
    refine castTop (g' := (mkF m 141 #[iv p0, iv p1, iv p2, iv p3, iv (0 : Int32), iv x3, iv x4, iv x5, iv x6, iv x7, iv x8, iv x9, rv b10, .unset, .unset, .unset, .unset, .unset, .unset, .unset, .unset, .unset] [(.int x31), (.int (5 : Int32)), (.ref b10)])) (by rw [hx31]) ?_
    refine st32 _ ?_
    refine mbipush 144 G32 at_142 (v := (6 : Int32)) rfl rfl ?_
    refine st35 _ ?_
    show Steps p.tables e below (T35.setTop (mkF m 146 #[iv p0, iv p1, iv p2, iv p3, iv (0 : Int32), iv x3, iv x4, iv x5, iv x6, iv x7, iv x8, iv x9, rv b10, .unset, .unset, .unset, .unset, .unset, .unset, .unset, .unset, .unset] [(.ref b35)])) _
    refine mdup 147 G35 at_146 rfl rfl ?_
    refine miconst 148 G35 at_147 (v := (0 : Int32)) rfl rfl ?_
    refine maload 150 G35 at_148 rfl rfl rfl ?_
    refine miconst 151 G35 at_150 (v := (0 : Int32)) rfl rfl ?_
    refine miaload 152 X35 hx hby hZ e35 f36 (v := x11) at_151 ⟨by decide, by decide⟩ rfl rfl ?_
    refine mi2d 153 G35 at_152 rfl ?_
    refine castTop (g' := (mkF m 153 #[iv p0, iv p1, iv p2, iv p3, iv (0 : Int32), iv x3, iv x4, iv x5, iv x6, iv x7, iv x8, iv x9, rv b10, .unset, .unset, .unset, .unset, .unset, .unset, .unset, .unset, .unset] [(.double x37), (.int (0 : Int32)), (.ref b35), (.ref b35)])) (by rw [hx37]) ?_
    refine st38 _ ?_
    refine mdup 155 G38 at_154 rfl rfl ?_
    refine miconst 156 G38 at_155 (v := (1 : Int32)) rfl rfl ?_
    refine maload 158 G38 at_156 rfl rfl rfl ?_
    refine miconst 159 G38 at_158 (v := (1 : Int32)) rfl rfl ?_
    refine miaload 160 X38 hx hby hZ e38 f40 (v := x15) at_159 ⟨by decide, by decide⟩ rfl rfl ?_
    refine mi2d 161 G38 at_160 rfl ?_
    refine castTop (g' := (mkF m 161 #[iv p0, iv p1, iv p2, iv p3, iv (0 : Int32), iv x3, iv x4, iv x5, iv x6, iv x7, iv x8, iv x9, rv b10, .unset, .unset, .unset, .unset, .unset, .unset, .unset, .unset, .unset] [(.double x44), (.int (1 : Int32)), (.ref b35), (.ref b35)])) (by rw [hx44]) ?_
    refine st45 _ ?_
    refine mdup 163 G45 at_162 rfl rfl ?_
    refine miconst 164 G45 at_163 (v := (2 : Int32)) rfl rfl ?_
    refine maload 166 G45 at_164 rfl rfl rfl ?_
    refine miconst 167 G45 at_166 (v := (2 : Int32)) rfl rfl ?_
    refine miaload 168 X45 hx hby hZ e45 f47 (v := x19) at_167 ⟨by decide, by decide⟩ rfl rfl ?_
    refine mi2d 169 G45 at_168 rfl ?_
    refine castTop (g' := (mkF m 169 #[iv p0, iv p1, iv p2, iv p3, iv (0 : Int32), iv x3, iv x4, iv x5, iv x6, iv x7, iv x8, iv x9, rv b10, .unset, .unset, .unset, .unset, .unset, .unset, .unset, .unset, .unset] [(.double x51), (.int (2 : Int32)), (.ref b35), (.ref b35)])) (by rw [hx51]) ?_
    refine st52 _ ?_
    refine mdup 171 G52 at_170 rfl rfl ?_
    refine miconst 172 G52 at_171 (v := (3 : Int32)) rfl rfl ?_
    refine maload 174 G52 at_172 rfl rfl rfl ?_
    refine miconst 175 G52 at_174 (v := (3 : Int32)) rfl rfl ?_
    refine miaload 176 X52 hx hby hZ e52 f54 (v := x23) at_175 ⟨by decide, by decide⟩ rfl rfl ?_
    refine mi2d 177 G52 at_176 rfl ?_
    refine castTop (g' := (mkF m 177 #[iv p0, iv p1, iv p2, iv p3, iv (0 : Int32), iv x3, iv x4, iv x5, iv x6, iv x7, iv x8, iv x9, rv b10, .unset, .unset, .unset, .unset, .unset, .unset, .unset, .unset, .unset] [(.double x58), (.int (3 : Int32)), (.ref b35), (.ref b35)])) (by rw [hx58]) ?_
    refine st59 _ ?_
    refine mdup 179 G59 at_178 rfl rfl ?_
    refine miconst 180 G59 at_179 (v := (4 : Int32)) rfl rfl ?_
    refine maload 182 G59 at_180 rfl rfl rfl ?_
    refine miconst 183 G59 at_182 (v := (4 : Int32)) rfl rfl ?_
    refine miaload 184 X59 hx hby hZ e59 f61 (v := x27) at_183 ⟨by decide, by decide⟩ rfl rfl ?_
    refine mi2d 185 G59 at_184 rfl ?_
    refine castTop (g' := (mkF m 185 #[iv p0, iv p1, iv p2, iv p3, iv (0 : Int32), iv x3, iv x4, iv x5, iv x6, iv x7, iv x8, iv x9, rv b10, .unset, .unset, .unset, .unset, .unset, .unset, .unset, .unset, .unset] [(.double x65), (.int (4 : Int32)), (.ref b35), (.ref b35)])) (by rw [hx65]) ?_
    refine st66 _ ?_
    refine mdup 187 G66 at_186 rfl rfl ?_
    refine miconst 188 G66 at_187 (v := (5 : Int32)) rfl rfl ?_
    refine maload 190 G66 at_188 rfl rfl rfl ?_
    refine miconst 191 G66 at_190 (v := (5 : Int32)) rfl rfl ?_
    refine miaload 192 X66 hx hby hZ e66 f68 (v := x31) at_191 ⟨by decide, by decide⟩ rfl rfl ?_
    refine mi2d 193 G66 at_192 rfl ?_
    refine castTop (g' := (mkF m 193 #[iv p0, iv p1, iv p2, iv p3, iv (0 : Int32), iv x3, iv x4, iv x5, iv x6, iv x7, iv x8, iv x9, rv b10, .unset, .unset, .unset, .unset, .unset, .unset, .unset, .unset, .unset] [(.double x72), (.int (5 : Int32)), (.ref b35), (.ref b35)])) (by rw [hx72]) ?_
    refine st73 _ ?_
    refine mastore 196 G73 at_194 rfl #[iv p0, iv p1, iv p2, iv p3, iv (0 : Int32), iv x3, iv x4, iv x5, iv x6, iv x7, iv x8, iv x9, rv b10, rv b35, .unset, .unset, .unset, .unset, .unset, .unset, .unset, .unset] rfl rfl ?_
    refine miload 198 G73 at_196 rfl rfl ?_
    refine mifNo 201 G73 at_198 ((if0 _ _).trans (teq (by decide : (0 : Int32) = (0 : Int32))).2) rfl ?_
    refine miconst 202 G73 at_201 (v := (0 : Int32)) rfl rfl ?_
    refine st79 _ ?_
    show Steps p.tables e below (T79.setTop (mkF m 204 #[iv p0, iv p1, iv p2, iv p3, iv (0 : Int32), iv x3, iv x4, iv x5, iv x6, iv x7, iv x8, iv x9, rv b10, rv b35, .unset, .unset, .unset, .unset, .unset, .unset, .unset, .unset] [(.ref b79)])) _
    refine mgoto 264 G79 at_204 (by decide) rfl ?_
    refine mastore 266 G79 at_264 rfl #[iv p0, iv p1, iv p2, iv p3, iv (0 : Int32), iv x3, iv x4, iv x5, iv x6, iv x7, iv x8, iv x9, rv b10, rv b35, rv b79, .unset, .unset, .unset, .unset, .unset, .unset, .unset] rfl rfl ?_
    refine miload 268 G79 at_266 rfl rfl ?_
    refine mifNo 271 G79 at_268 ((if0 _ _).trans (teq (by decide : (0 : Int32) = (0 : Int32))).2) rfl ?_
    refine miconst 272 G79 at_271 (v := (0 : Int32)) rfl rfl ?_
    refine st82 _ ?_
    show Steps p.tables e below (T82.setTop (mkF m 274 #[iv p0, iv p1, iv p2, iv p3, iv (0 : Int32), iv x3, iv x4, iv x5, iv x6, iv x7, iv x8, iv x9, rv b10, rv b35, rv b79, .unset, .unset, .unset, .unset, .unset, .unset, .unset] [(.ref b82)])) _
    refine mgoto 334 G82 at_274 (by decide) rfl ?_
    refine mastore 336 G82 at_334 rfl #[iv p0, iv p1, iv p2, iv p3, iv (0 : Int32), iv x3, iv x4, iv x5, iv x6, iv x7, iv x8, iv x9, rv b10, rv b35, rv b79, rv b82, .unset, .unset, .unset, .unset, .unset, .unset] rfl rfl ?_
    refine st86 _ ?_
    show Steps p.tables e below (T86.setTop (mkF m 339 #[iv p0, iv p1, iv p2, iv p3, iv (0 : Int32), iv x3, iv x4, iv x5, iv x6, iv x7, iv x8, iv x9, rv b10, rv b35, rv b79, rv b82, .unset, .unset, .unset, .unset, .unset, .unset] [(.ref b86)])) _
    refine mdup 340 G86 at_339 rfl rfl ?_
    refine maload 342 G86 at_340 rfl rfl rfl ?_
    refine maload 344 G86 at_342 rfl rfl rfl ?_
    refine st91.trans ?_
    show Steps p.tables e below (T91.setTop (mkF m 347 #[iv p0, iv p1, iv p2, iv p3, iv (0 : Int32), iv x3, iv x4, iv x5, iv x6, iv x7, iv x8, iv x9, rv b10, rv b35, rv b79, rv b82, .unset, .unset, .unset, .unset, .unset, .unset] [(.ref b86)])) _
    refine mastore 349 G91 at_347 rfl #[iv p0, iv p1, iv p2, iv p3, iv (0 : Int32), iv x3, iv x4, iv x5, iv x6, iv x7, iv x8, iv x9, rv b10, rv b35, rv b79, rv b82, rv b86, .unset, .unset, .unset, .unset, .unset] rfl rfl ?_
    refine maload 351 G91 at_349 rfl rfl rfl ?_
    refine maload 353 G91 at_351 rfl rfl rfl ?_
    refine miload 355 G91 at_353 rfl rfl ?_
    refine st114.trans ?_
    show Steps p.tables e below (T114.setTop (mkF m 358 #[iv p0, iv p1, iv p2, iv p3, iv (0 : Int32), iv x3, iv x4, iv x5, iv x6, iv x7, iv x8, iv x9, rv b10, rv b35, rv b79, rv b82, rv b86, .unset, .unset, .unset, .unset, .unset] [(.int (-1 : Int32))])) _
    refine mistore 360 G114 at_358 #[iv p0, iv p1, iv p2, iv p3, iv (0 : Int32), iv x3, iv x4, iv x5, iv x6, iv x7, iv x8, iv x9, rv b10, rv b35, rv b79, rv b82, rv b86, iv (-1 : Int32), .unset, .unset, .unset, .unset] rfl rfl ?_
    refine maload 362 G114 at_360 rfl rfl rfl ?_
    refine miload 364 G114 at_362 rfl rfl ?_
    refine miaload 365 X114 hx hby hZ e114 f93 (v := (([x11, x15, x19, x23, x27, x31] : List Int32).getD x4.toNatClampNeg (0 : Int32))) at_364 (own_rm0_0_hin364 p0 p1 p2 p3 x3 hx3 x4 hx4 x5 hx5 x6 hx6 x7 hx7 x8 hx8 x9 hx9 x11 hx11 x15 hx15 x19 hx19 x23 hx23 x27 hx27 x31 hx31 x37 hx37 x44 hx44 x51 hx51 x58 hx58 x65 hx65 x72 hx72 hpin3) (own_getDI ([x11, x15, x19, x23, x27, x31] : List Int32) _ _) rfl ?_
    refine miload 367 G114 at_365 rfl rfl ?_
    refine miload 369 G114 at_367 rfl rfl ?_
    refine st115 _ ?_
    show Steps p.tables e below (T115.setTop (mkF m 372 #[iv p0, iv p1, iv p2, iv p3, iv (0 : Int32), iv x3, iv x4, iv x5, iv x6, iv x7, iv x8, iv x9, rv b10, rv b35, rv b79, rv b82, rv b86, iv (-1 : Int32), .unset, .unset, .unset, .unset] [(.int (rv5 (([x11, x15, x19, x23, x27, x31] : List Int32).getD x4.toNatClampNeg (0 : Int32)) x7 x3))])) _
    refine castTop (g' := (mkF m 372 #[iv p0, iv p1, iv p2, iv p3, iv (0 : Int32), iv x3, iv x4, iv x5, iv x6, iv x7, iv x8, iv x9, rv b10, rv b35, rv b79, rv b82, rv b86, iv (-1 : Int32), .unset, .unset, .unset, .unset] [(.int x116)])) (by rw [hx116]) ?_
    refine mistore 374 G115 at_372 #[iv p0, iv p1, iv p2, iv p3, iv (0 : Int32), iv x3, iv x4, iv x5, iv x6, iv x7, iv x8, iv x9, rv b10, rv b35, rv b79, rv b82, rv b86, iv (-1 : Int32), iv x116, .unset, .unset, .unset] rfl rfl ?_
    refine maload 376 G115 at_374 rfl rfl rfl ?_
    refine miload 378 G115 at_376 rfl rfl ?_
    refine miaload 379 X115 hx hby hZ e115 f93 (v := (([x11, x15, x19, x23, x27, x31] : List Int32).getD x5.toNatClampNeg (0 : Int32))) at_378 (own_rm0_0_hin378 p0 p1 p2 p3 x3 hx3 x4 hx4 x5 hx5 x6 hx6 x7 hx7 x8 hx8 x9 hx9 x11 hx11 x15 hx15 x19 hx19 x23 hx23 x27 hx27 x31 hx31 x37 hx37 x44 hx44 x51 hx51 x58 hx58 x65 hx65 x72 hx72 x116 hx116 hpin3) (own_getDI ([x11, x15, x19, x23, x27, x31] : List Int32) _ _) rfl ?_
    refine miload 381 G115 at_379 rfl rfl ?_
    refine miload 383 G115 at_381 rfl rfl ?_
    refine st117 _ ?_
    show Steps p.tables e below (T117.setTop (mkF m 386 #[iv p0, iv p1, iv p2, iv p3, iv (0 : Int32), iv x3, iv x4, iv x5, iv x6, iv x7, iv x8, iv x9, rv b10, rv b35, rv b79, rv b82, rv b86, iv (-1 : Int32), iv x116, .unset, .unset, .unset] [(.int (rv5 (([x11, x15, x19, x23, x27, x31] : List Int32).getD x5.toNatClampNeg (0 : Int32)) x8 x3))])) _
    refine castTop (g' := (mkF m 386 #[iv p0, iv p1, iv p2, iv p3, iv (0 : Int32), iv x3, iv x4, iv x5, iv x6, iv x7, iv x8, iv x9, rv b10, rv b35, rv b79, rv b82, rv b86, iv (-1 : Int32), iv x116, .unset, .unset, .unset] [(.int x118)])) (by rw [hx118]) ?_
    refine mistore 388 G117 at_386 #[iv p0, iv p1, iv p2, iv p3, iv (0 : Int32), iv x3, iv x4, iv x5, iv x6, iv x7, iv x8, iv x9, rv b10, rv b35, rv b79, rv b82, rv b86, iv (-1 : Int32), iv x116, iv x118, .unset, .unset] rfl rfl ?_
    refine maload 390 G117 at_388 rfl rfl rfl ?_
    refine miload 392 G117 at_390 rfl rfl ?_
    refine miaload 393 X117 hx hby hZ e117 f93 (v := (([x11, x15, x19, x23, x27, x31] : List Int32).getD x6.toNatClampNeg (0 : Int32))) at_392 (own_rm0_0_hin392 p0 p1 p2 p3 x3 hx3 x4 hx4 x5 hx5 x6 hx6 x7 hx7 x8 hx8 x9 hx9 x11 hx11 x15 hx15 x19 hx19 x23 hx23 x27 hx27 x31 hx31 x37 hx37 x44 hx44 x51 hx51 x58 hx58 x65 hx65 x72 hx72 x116 hx116 x118 hx118 hpin3) (own_getDI ([x11, x15, x19, x23, x27, x31] : List Int32) _ _) rfl ?_
    refine miload 395 G117 at_393 rfl rfl ?_
    refine miload 397 G117 at_395 rfl rfl ?_
    refine st119 _ ?_
    show Steps p.tables e below (T119.setTop (mkF m 400 #[iv p0, iv p1, iv p2, iv p3, iv (0 : Int32), iv x3, iv x4, iv x5, iv x6, iv x7, iv x8, iv x9, rv b10, rv b35, rv b79, rv b82, rv b86, iv (-1 : Int32), iv x116, iv x118, .unset, .unset] [(.int (rv5 (([x11, x15, x19, x23, x27, x31] : List Int32).getD x6.toNatClampNeg (0 : Int32)) x9 x3))])) _
    refine castTop (g' := (mkF m 400 #[iv p0, iv p1, iv p2, iv p3, iv (0 : Int32), iv x3, iv x4, iv x5, iv x6, iv x7, iv x8, iv x9, rv b10, rv b35, rv b79, rv b82, rv b86, iv (-1 : Int32), iv x116, iv x118, .unset, .unset] [(.int x120)])) (by rw [hx120]) ?_
    refine mistore 402 G119 at_400 #[iv p0, iv p1, iv p2, iv p3, iv (0 : Int32), iv x3, iv x4, iv x5, iv x6, iv x7, iv x8, iv x9, rv b10, rv b35, rv b79, rv b82, rv b86, iv (-1 : Int32), iv x116, iv x118, iv x120, .unset] rfl rfl ?_
    refine miload 404 G119 at_402 rfl rfl ?_
    refine mifYes 416 G119 at_404 ((if0 _ _).trans (flt (by decide : ¬ ((0 : Int32) < (0 : Int32)))).2.2.2) (by decide) rfl ?_
    refine miload 418 G119 at_416 rfl rfl ?_
    refine miconst 419 G119 at_418 (v := (1 : Int32)) rfl rfl ?_
    refine micmpYes 431 G119 at_419 (flt (by decide : ¬ ((1 : Int32) < (0 : Int32)))).2.2.2 (by decide) rfl ?_
    refine miload 433 G119 at_431 rfl rfl ?_
    refine miconst 434 G119 at_433 (v := (2 : Int32)) rfl rfl ?_
    refine micmpYes 446 G119 at_434 (flt (by decide : ¬ ((2 : Int32) < (0 : Int32)))).2.2.2 (by decide) rfl ?_
    refine miconst 447 G119 at_446 (v := (-1 : Int32)) rfl rfl ?_
    refine mistore 449 G119 at_447 #[iv p0, iv p1, iv p2, iv p3, iv (0 : Int32), iv x3, iv x4, iv x5, iv x6, iv x7, iv x8, iv x9, rv b10, rv b35, rv b79, rv b82, rv b86, iv (-1 : Int32), iv x116, iv x118, iv x120, iv (-1 : Int32)] rfl rfl ?_
    refine miload 451 G119 at_449 rfl rfl ?_
    refine miload 453 G119 at_451 rfl rfl ?_
    refine micmpNo 456 G119 at_453 (teq (by decide : (-1 : Int32) = (-1 : Int32))).2 rfl ?_
    refine miconst 457 G119 at_456 (v := (1 : Int32)) rfl rfl ?_
    refine mgoto 461 G119 at_457 (by decide) rfl ?_
    exact retN X119 hx (t := .boolean) Bd.returns (by simp) (hb hby at_461) hr
  · show Q0 Z p0 p1 p2 p3 h0 n0 _ T119.heap _
    rw [e119]
    exact ⟨rfl, N91⟩
theorem d4_11 : decode prog_26_method_4_code 11 = .ok (.aload_n 1, 1) := by decide +kernel
theorem d4_12 : decode prog_26_method_4_code 12 = .ok (.aload_n 0, 1) := by decide +kernel
theorem d4_13 : decode prog_26_method_4_code 13 = .ok (.getfield 7, 3) := by decide +kernel
theorem d4_16 : decode prog_26_method_4_code 16 = .ok (.iload_n 3, 1) := by decide +kernel
theorem d4_17 : decode prog_26_method_4_code 17 = .ok (.iaload, 1) := by decide +kernel
theorem d4_18 : decode prog_26_method_4_code 18 = .ok (.daload, 1) := by decide +kernel
theorem d4_19 : decode prog_26_method_4_code 19 = .ok (.dstore 4, 2) := by decide +kernel
theorem d4_21 : decode prog_26_method_4_code 21 = .ok (.iload_n 2, 1) := by decide +kernel
theorem d4_22 : decode prog_26_method_4_code 22 = .ok (.ifCond .eq 19, 3) := by decide +kernel
theorem d4_25 : decode prog_26_method_4_code 25 = .ok (.dload 4, 2) := by decide +kernel
theorem d4_27 : decode prog_26_method_4_code 27 = .ok (.aload_n 0, 1) := by decide +kernel
theorem d4_28 : decode prog_26_method_4_code 28 = .ok (.getfield 13, 3) := by decide +kernel
theorem d4_31 : decode prog_26_method_4_code 31 = .ok (.iload_n 3, 1) := by decide +kernel
theorem d4_32 : decode prog_26_method_4_code 32 = .ok (.iaload, 1) := by decide +kernel
theorem d4_33 : decode prog_26_method_4_code 33 = .ok (.i2d, 1) := by decide +kernel
theorem d4_34 : decode prog_26_method_4_code 34 = .ok (.dcmp .g, 1) := by decide +kernel
theorem d4_35 : decode prog_26_method_4_code 35 = .ok (.ifCond .ge 15, 3) := by decide +kernel
theorem d4_38 : decode prog_26_method_4_code 38 = .ok (.goto 10, 3) := by decide +kernel
theorem d4_41 : decode prog_26_method_4_code 41 = .ok (.dload 4, 2) := by decide +kernel
theorem d4_43 : decode prog_26_method_4_code 43 = .ok (.dconst 0, 1) := by decide +kernel
theorem d4_44 : decode prog_26_method_4_code 44 = .ok (.dcmp .l, 1) := by decide +kernel
theorem d4_45 : decode prog_26_method_4_code 45 = .ok (.ifCond .ne 5, 3) := by decide +kernel
theorem d4_48 : decode prog_26_method_4_code 48 = .ok (.iload_n 3, 1) := by decide +kernel
theorem d4_49 : decode prog_26_method_4_code 49 = .ok (.ireturn, 1) := by decide +kernel
theorem d4_50 : decode prog_26_method_4_code 50 = .ok (.iinc 3 1, 3) := by decide +kernel
theorem d4_53 : decode prog_26_method_4_code 53 = .ok (.goto (-51), 3) := by decide +kernel
theorem ef4_1 (m : MethodId) (o0 : Addr) (o1 : Addr) (p2 : Int32) : entryFrame m #[(.ref o0), (.ref o1), (.int p2)] 6 = mkF m 0 #[rv o0, rv o1, iv p2, .unset, .unset, .unset] [] := by first | (simp [entryFrame, mkF, argsToLocals, Value.category]; done) | rfl
abbrev room_of_4_1 : Room := { frames := 0, cells := 0, slots := 0, locals := 0 }
def rv4_1 (p2 : Int32) (s0_ : Int32) (a0_ : Int32) (c0_ : UInt64) (c1_ : UInt64) (c2_ : UInt64) (c3_ : UInt64) (c4_ : UInt64) (c5_ : UInt64) : Int32 := (if p2 = (0 : Int32) then (if (cmpValue (FP.dcmp (([c0_, c1_, c2_, c3_, c4_, c5_] : List UInt64).getD s0_.toNatClampNeg (0 : UInt64)) (0 : UInt64)) .l) = (0 : Int32) then (0 : Int32) else (-1 : Int32)) else (if (cmpValue (FP.dcmp (([c0_, c1_, c2_, c3_, c4_, c5_] : List UInt64).getD s0_.toNatClampNeg (0 : UInt64)) (FP.i2d a0_)) .g) < (0 : Int32) then (0 : Int32) else (-1 : Int32)))
def Q4_1 (Z : State) (o0 : Addr) (o1 : Addr) (p2 : Int32) (w1 : Addr) (w2 : Addr) (k1 : ClassId) (s0_ : Int32) (k2 : ClassId) (a0_ : Int32) (k3 : ClassId) (c0_ : UInt64) (c1_ : UInt64) (c2_ : UInt64) (c3_ : UInt64) (c4_ : UInt64) (c5_ : UInt64) (h0 : Heap) (n0 : Nat) (v : Option Value) (h : Heap) (L : List Loc) : Prop := v = some (.int (rv4_1 p2 s0_ a0_ c0_ c1_ c2_ c3_ c4_ c5_)) ∧ L = [] ∧ h = h0
set_option maxRecDepth 65536 in
set_option maxHeartbeats 40000000 in
theorem rm4_1 (l : Launch) (Z : State) (a0 : Array Value) (hw : ∀ d ∈ tables_1, d.before a0 Z = true) (ws : List Jvm.Cond) (o0 : Addr) (o1 : Addr) (p2 : Int32) {w1 : Addr} {w2 : Addr} {k1 : ClassId} {s0_ : Int32} {k2 : ClassId} {a0_ : Int32} {k3 : ClassId} {c0_ : UInt64} {c1_ : UInt64} {c2_ : UInt64} {c3_ : UInt64} {c4_ : UInt64} {c5_ : UInt64} (h0 : Heap) (n0 : Nat) (Z0 : n0 ≤ h0.size) (F_states_o0 : Fld Z h0 o0 "com/example/oceanus/oceanus/analysis/Taken" "states" "[I" (.ref w1)) (F_agents_o0 : Fld Z h0 o0 "com/example/oceanus/oceanus/analysis/Taken" "agents" "[I" (.ref w2)) (V_w1 : Arv Z h0 w1 k1 .int (1 : Int32) [(.int s0_)] (.int (0 : Int32))) (V_w2 : Arv Z h0 w2 k2 .int (1 : Int32) [(.int a0_)] (.int (0 : Int32))) (V_o1 : Arv Z h0 o1 k3 .double (6 : Int32) [(.double c0_), (.double c1_), (.double c2_), (.double c3_), (.double c4_), (.double c5_)] (.double (0 : UInt64))) (hin18 : ¬ s0_ < 0 ∧ s0_ < (6 : Int32)) :
    MetFree l (⟨"com/example/oceanus/oceanus/analysis/Taken", "unmade", "([DZ)I"⟩ : MethodName) (head1 (Jvm.Cond.code (⟨"com/example/oceanus/oceanus/analysis/Taken", "unmade", "([DZ)I"⟩ : MethodName) prog_26_method_4_code 6 (some .int) :: ws) (room_of_4_1)) (fun a U => a = #[(.ref o0), (.ref o1), (.int p2)] ∧ Z.Warmed39 U.vm ∧ U.heap = h0) (fun _ _ _ _ _ => True) (fun _ U o U' => ∃ v L, o = .returned v ∧ Q4_1 Z o0 o1 p2 w1 w2 k1 s0_ k2 a0_ k3 c0_ c1_ c2_ c3_ c4_ c5_ h0 n0 v U'.heap L ∧ FrameEnd U o U' L (room_of_4_1).cells (room_of_4_1).slots) := by
  refine MetFree.of_bodySF (plainFor_of_name pn_4) hisR ?_
  intro p e s m args below meth c s₁ Bd hml0 hP hK
  obtain ⟨rfl, hZ, hh⟩ := hP
  have hx := Bd.exec
  have hby := Bd.bytes
  have hml : c.maxLocals = 6 := hml0
  have hown : s.vm.findClass "com/example/oceanus/oceanus/analysis/Taken" = some m.cls := findClass_of_methodNamed Bd.named
  have hnm := (name_of_methodNamed Bd.named Bd.method).1
  have X0 : Stand p l e (room_of_4_1) s m #[(.ref o0), (.ref o1), (.int p2)] below meth c s₁ [] 0 0 := Stand.of_body Bd
  have e0 : s₁.heap = h0 := by rw [← hh, Bd.state]; rfl
  have N0 := Fr.nil n0
  have G0 := gd X0 hx hby
  have pre0 : ∀ t, Steps p.tables e below (s₁.setTop (mkF m 0 #[rv o0, rv o1, iv p2, .unset, .unset, .unset] [])) t → Steps p.tables e below (s₁.setTop (entryFrame m #[(.ref o0), (.ref o1), (.int p2)] 6)) t := fun t k => castTop (ef4_1 m o0 o1 p2) k
  obtain ⟨T1, X1, e1, st1⟩ := getF X0 hx hZ hown (host := "") (Or.inl (wd hw 16 rfl)) Via.refl e0 F_states_o0 (g := (mkF m 4 #[rv o0, rv o1, iv p2, iv (0 : Int32), .unset, .unset] [(.ref o0), (.int (0 : Int32))])) rfl rfl (hb hby d4_4)
  have G1 := gd X1 hx hby
  obtain ⟨T2, X2, e2, st2⟩ := getF X1 hx hZ hown (host := "") (Or.inl (wd hw 16 rfl)) Via.refl e1 F_states_o0 (g := (mkF m 13 #[rv o0, rv o1, iv p2, iv (0 : Int32), .unset, .unset] [(.ref o0), (.ref o1)])) rfl rfl (hb hby d4_13)
  have G2 := gd X2 hx hby
  by_cases hc22_3 : p2 = (0 : Int32)
  · by_cases hc45_4 : (cmpValue (FP.dcmp (([c0_, c1_, c2_, c3_, c4_, c5_] : List UInt64).getD s0_.toNatClampNeg (0 : UInt64)) (0 : UInt64)) .l) = (0 : Int32)
    · obtain ⟨fs, hr, hrun, hended, hW, hsame⟩ := X2.leave (v := some (.int (0 : Int32))) (fun h => by rw [Bd.returns] at h; cases h)
      refine ⟨_, _, pre0 _ ?_, hrun, hended, _, _, rfl, ?_, ⟨_, rfl⟩, hW, hsame.mono (by decide) (by decide)⟩
      · show Steps p.tables e below (s₁.setTop (mkF m 0 #[rv o0, rv o1, iv p2, .unset, .unset, .unset] [])) _
        refine miconst 1 G0 d4_0 (v := (0 : Int32)) rfl rfl ?_
        refine mistoreN 2 G0 d4_1 #[rv o0, rv o1, iv p2, iv (0 : Int32), .unset, .unset] rfl rfl ?_
        refine miloadN 3 G0 d4_2 rfl rfl ?_
        refine maloadN 4 G0 d4_3 rfl rfl rfl ?_
        refine st1 _ ?_
        show Steps p.tables e below (T1.setTop (mkF m 7 #[rv o0, rv o1, iv p2, iv (0 : Int32), .unset, .unset] [(.ref w1), (.int (0 : Int32))])) _
        refine mlen 8 X1 hx hby hZ e1 V_w1 d4_7 rfl ?_
        refine micmpNo 11 G1 d4_8 (tlt (by decide : (0 : Int32) < (1 : Int32))).2.1 rfl ?_
        refine maloadN 12 G1 d4_11 rfl rfl rfl ?_
        refine maloadN 13 G1 d4_12 rfl rfl rfl ?_
        refine st2 _ ?_
        show Steps p.tables e below (T2.setTop (mkF m 16 #[rv o0, rv o1, iv p2, iv (0 : Int32), .unset, .unset] [(.ref w1), (.ref o1)])) _
        refine miloadN 17 G2 d4_16 rfl rfl ?_
        refine miaload 18 X2 hx hby hZ e2 V_w1 (v := s0_) d4_17 ⟨by decide, by decide⟩ rfl rfl ?_
        refine mdaload 19 X2 hx hby hZ e2 V_o1 (v := (([c0_, c1_, c2_, c3_, c4_, c5_] : List UInt64).getD s0_.toNatClampNeg (0 : UInt64))) d4_18 (hin18) (own_getDD ([c0_, c1_, c2_, c3_, c4_, c5_] : List UInt64) _ _) rfl ?_
        refine mdstore 21 G2 d4_19 #[rv o0, rv o1, iv p2, iv (0 : Int32), dv (([c0_, c1_, c2_, c3_, c4_, c5_] : List UInt64).getD s0_.toNatClampNeg (0 : UInt64)), .second] rfl rfl ?_
        refine miloadN 22 G2 d4_21 rfl rfl ?_
        refine mifYes 41 G2 d4_22 ((if0 _ _).trans (teq hc22_3).1) (by decide) rfl ?_
        refine mdload 43 G2 d4_41 rfl rfl ?_
        refine mdconst0 44 G2 d4_43 (v := (0 : UInt64)) rfl rfl ?_
        refine mdcmp 45 G2 d4_44 rfl ?_
        refine mifNo 48 G2 d4_45 ((if0 _ _).trans (teq hc45_4).2) rfl ?_
        refine miloadN 49 G2 d4_48 rfl rfl ?_
        exact retOut X2 hx Bd.returns rfl (Or.inl ⟨rfl, Or.inl rfl, _, rfl⟩) (hb hby d4_49) hr
      · show Q4_1 Z o0 o1 p2 w1 w2 k1 s0_ k2 a0_ k3 c0_ c1_ c2_ c3_ c4_ c5_ h0 n0 _ T2.heap _
        rw [e2]
        exact ⟨by simp only [rv4_1, if_pos hc22_3, if_pos hc45_4], rfl, rfl⟩
    · obtain ⟨T5, X5, e5, st5⟩ := getF X2 hx hZ hown (host := "") (Or.inl (wd hw 16 rfl)) Via.refl e2 F_states_o0 (g := (mkF m 4 #[rv o0, rv o1, iv p2, iv (1 : Int32), dv (([c0_, c1_, c2_, c3_, c4_, c5_] : List UInt64).getD s0_.toNatClampNeg (0 : UInt64)), .second] [(.ref o0), (.int (1 : Int32))])) rfl rfl (hb hby d4_4)
      have G5 := gd X5 hx hby
      obtain ⟨fs, hr, hrun, hended, hW, hsame⟩ := X5.leave (v := some (.int (-1 : Int32))) (fun h => by rw [Bd.returns] at h; cases h)
      refine ⟨_, _, pre0 _ ?_, hrun, hended, _, _, rfl, ?_, ⟨_, rfl⟩, hW, hsame.mono (by decide) (by decide)⟩
      · show Steps p.tables e below (s₁.setTop (mkF m 0 #[rv o0, rv o1, iv p2, .unset, .unset, .unset] [])) _
        refine miconst 1 G0 d4_0 (v := (0 : Int32)) rfl rfl ?_
        refine mistoreN 2 G0 d4_1 #[rv o0, rv o1, iv p2, iv (0 : Int32), .unset, .unset] rfl rfl ?_
        refine miloadN 3 G0 d4_2 rfl rfl ?_
        refine maloadN 4 G0 d4_3 rfl rfl rfl ?_
        refine st1 _ ?_
        show Steps p.tables e below (T1.setTop (mkF m 7 #[rv o0, rv o1, iv p2, iv (0 : Int32), .unset, .unset] [(.ref w1), (.int (0 : Int32))])) _
        refine mlen 8 X1 hx hby hZ e1 V_w1 d4_7 rfl ?_
        refine micmpNo 11 G1 d4_8 (tlt (by decide : (0 : Int32) < (1 : Int32))).2.1 rfl ?_
        refine maloadN 12 G1 d4_11 rfl rfl rfl ?_
        refine maloadN 13 G1 d4_12 rfl rfl rfl ?_
        refine st2 _ ?_
        show Steps p.tables e below (T2.setTop (mkF m 16 #[rv o0, rv o1, iv p2, iv (0 : Int32), .unset, .unset] [(.ref w1), (.ref o1)])) _
        refine miloadN 17 G2 d4_16 rfl rfl ?_
        refine miaload 18 X2 hx hby hZ e2 V_w1 (v := s0_) d4_17 ⟨by decide, by decide⟩ rfl rfl ?_
        refine mdaload 19 X2 hx hby hZ e2 V_o1 (v := (([c0_, c1_, c2_, c3_, c4_, c5_] : List UInt64).getD s0_.toNatClampNeg (0 : UInt64))) d4_18 (hin18) (own_getDD ([c0_, c1_, c2_, c3_, c4_, c5_] : List UInt64) _ _) rfl ?_
        refine mdstore 21 G2 d4_19 #[rv o0, rv o1, iv p2, iv (0 : Int32), dv (([c0_, c1_, c2_, c3_, c4_, c5_] : List UInt64).getD s0_.toNatClampNeg (0 : UInt64)), .second] rfl rfl ?_
        refine miloadN 22 G2 d4_21 rfl rfl ?_
        refine mifYes 41 G2 d4_22 ((if0 _ _).trans (teq hc22_3).1) (by decide) rfl ?_
        refine mdload 43 G2 d4_41 rfl rfl ?_
        refine mdconst0 44 G2 d4_43 (v := (0 : UInt64)) rfl rfl ?_
        refine mdcmp 45 G2 d4_44 rfl ?_
        refine mifYes 50 G2 d4_45 ((if0 _ _).trans (feq hc45_4).2) (by decide) rfl ?_
        refine miinc 53 G2 d4_50 rfl #[rv o0, rv o1, iv p2, iv (1 : Int32), dv (([c0_, c1_, c2_, c3_, c4_, c5_] : List UInt64).getD s0_.toNatClampNeg (0 : UInt64)), .second] rfl rfl ?_
        refine mgoto 2 G2 d4_53 (by decide) rfl ?_
        refine miloadN 3 G2 d4_2 rfl rfl ?_
        refine maloadN 4 G2 d4_3 rfl rfl rfl ?_
        refine st5 _ ?_
        show Steps p.tables e below (T5.setTop (mkF m 7 #[rv o0, rv o1, iv p2, iv (1 : Int32), dv (([c0_, c1_, c2_, c3_, c4_, c5_] : List UInt64).getD s0_.toNatClampNeg (0 : UInt64)), .second] [(.ref w1), (.int (1 : Int32))])) _
        refine mlen 8 X5 hx hby hZ e5 V_w1 d4_7 rfl ?_
        refine micmpYes 56 G5 d4_8 (flt (by decide : ¬ ((1 : Int32) < (1 : Int32)))).2.1 (by decide) rfl ?_
        refine miconst 57 G5 d4_56 (v := (-1 : Int32)) rfl rfl ?_
        exact retOut X5 hx Bd.returns rfl (Or.inl ⟨rfl, Or.inl rfl, _, rfl⟩) (hb hby d4_57) hr
      · show Q4_1 Z o0 o1 p2 w1 w2 k1 s0_ k2 a0_ k3 c0_ c1_ c2_ c3_ c4_ c5_ h0 n0 _ T5.heap _
        rw [e5]
        exact ⟨by simp only [rv4_1, if_pos hc22_3, if_neg hc45_4], rfl, rfl⟩
  · obtain ⟨T6, X6, e6, st6⟩ := getF X2 hx hZ hown (host := "") (Or.inl (wd hw 18 rfl)) Via.refl e2 F_agents_o0 (g := (mkF m 28 #[rv o0, rv o1, iv p2, iv (0 : Int32), dv (([c0_, c1_, c2_, c3_, c4_, c5_] : List UInt64).getD s0_.toNatClampNeg (0 : UInt64)), .second] [(.ref o0), (.double (([c0_, c1_, c2_, c3_, c4_, c5_] : List UInt64).getD s0_.toNatClampNeg (0 : UInt64)))])) rfl rfl (hb hby d4_28)
    have G6 := gd X6 hx hby
    by_cases hc35_7 : (cmpValue (FP.dcmp (([c0_, c1_, c2_, c3_, c4_, c5_] : List UInt64).getD s0_.toNatClampNeg (0 : UInt64)) (FP.i2d a0_)) .g) < (0 : Int32)
    · obtain ⟨fs, hr, hrun, hended, hW, hsame⟩ := X6.leave (v := some (.int (0 : Int32))) (fun h => by rw [Bd.returns] at h; cases h)
      refine ⟨_, _, pre0 _ ?_, hrun, hended, _, _, rfl, ?_, ⟨_, rfl⟩, hW, hsame.mono (by decide) (by decide)⟩
      · show Steps p.tables e below (s₁.setTop (mkF m 0 #[rv o0, rv o1, iv p2, .unset, .unset, .unset] [])) _
        refine miconst 1 G0 d4_0 (v := (0 : Int32)) rfl rfl ?_
        refine mistoreN 2 G0 d4_1 #[rv o0, rv o1, iv p2, iv (0 : Int32), .unset, .unset] rfl rfl ?_
        refine miloadN 3 G0 d4_2 rfl rfl ?_
        refine maloadN 4 G0 d4_3 rfl rfl rfl ?_
        refine st1 _ ?_
        show Steps p.tables e below (T1.setTop (mkF m 7 #[rv o0, rv o1, iv p2, iv (0 : Int32), .unset, .unset] [(.ref w1), (.int (0 : Int32))])) _
        refine mlen 8 X1 hx hby hZ e1 V_w1 d4_7 rfl ?_
        refine micmpNo 11 G1 d4_8 (tlt (by decide : (0 : Int32) < (1 : Int32))).2.1 rfl ?_
        refine maloadN 12 G1 d4_11 rfl rfl rfl ?_
        refine maloadN 13 G1 d4_12 rfl rfl rfl ?_
        refine st2 _ ?_
        show Steps p.tables e below (T2.setTop (mkF m 16 #[rv o0, rv o1, iv p2, iv (0 : Int32), .unset, .unset] [(.ref w1), (.ref o1)])) _
        refine miloadN 17 G2 d4_16 rfl rfl ?_
        refine miaload 18 X2 hx hby hZ e2 V_w1 (v := s0_) d4_17 ⟨by decide, by decide⟩ rfl rfl ?_
        refine mdaload 19 X2 hx hby hZ e2 V_o1 (v := (([c0_, c1_, c2_, c3_, c4_, c5_] : List UInt64).getD s0_.toNatClampNeg (0 : UInt64))) d4_18 (hin18) (own_getDD ([c0_, c1_, c2_, c3_, c4_, c5_] : List UInt64) _ _) rfl ?_
        refine mdstore 21 G2 d4_19 #[rv o0, rv o1, iv p2, iv (0 : Int32), dv (([c0_, c1_, c2_, c3_, c4_, c5_] : List UInt64).getD s0_.toNatClampNeg (0 : UInt64)), .second] rfl rfl ?_
        refine miloadN 22 G2 d4_21 rfl rfl ?_
        refine mifNo 25 G2 d4_22 ((if0 _ _).trans (feq hc22_3).1) rfl ?_
        refine mdload 27 G2 d4_25 rfl rfl ?_
        refine maloadN 28 G2 d4_27 rfl rfl rfl ?_
        refine st6 _ ?_
        show Steps p.tables e below (T6.setTop (mkF m 31 #[rv o0, rv o1, iv p2, iv (0 : Int32), dv (([c0_, c1_, c2_, c3_, c4_, c5_] : List UInt64).getD s0_.toNatClampNeg (0 : UInt64)), .second] [(.ref w2), (.double (([c0_, c1_, c2_, c3_, c4_, c5_] : List UInt64).getD s0_.toNatClampNeg (0 : UInt64)))])) _
        refine miloadN 32 G6 d4_31 rfl rfl ?_
        refine miaload 33 X6 hx hby hZ e6 V_w2 (v := a0_) d4_32 ⟨by decide, by decide⟩ rfl rfl ?_
        refine mi2d 34 G6 d4_33 rfl ?_
        refine mdcmp 35 G6 d4_34 rfl ?_
        refine mifNo 38 G6 d4_35 ((if0 _ _).trans (tlt hc35_7).2.1) rfl ?_
        refine mgoto 48 G6 d4_38 (by decide) rfl ?_
        refine miloadN 49 G6 d4_48 rfl rfl ?_
        exact retOut X6 hx Bd.returns rfl (Or.inl ⟨rfl, Or.inl rfl, _, rfl⟩) (hb hby d4_49) hr
      · show Q4_1 Z o0 o1 p2 w1 w2 k1 s0_ k2 a0_ k3 c0_ c1_ c2_ c3_ c4_ c5_ h0 n0 _ T6.heap _
        rw [e6]
        exact ⟨by simp only [rv4_1, if_neg hc22_3, if_pos hc35_7], rfl, rfl⟩
    · obtain ⟨T8, X8, e8, st8⟩ := getF X6 hx hZ hown (host := "") (Or.inl (wd hw 16 rfl)) Via.refl e6 F_states_o0 (g := (mkF m 4 #[rv o0, rv o1, iv p2, iv (1 : Int32), dv (([c0_, c1_, c2_, c3_, c4_, c5_] : List UInt64).getD s0_.toNatClampNeg (0 : UInt64)), .second] [(.ref o0), (.int (1 : Int32))])) rfl rfl (hb hby d4_4)
      have G8 := gd X8 hx hby
      obtain ⟨fs, hr, hrun, hended, hW, hsame⟩ := X8.leave (v := some (.int (-1 : Int32))) (fun h => by rw [Bd.returns] at h; cases h)
      refine ⟨_, _, pre0 _ ?_, hrun, hended, _, _, rfl, ?_, ⟨_, rfl⟩, hW, hsame.mono (by decide) (by decide)⟩
      · show Steps p.tables e below (s₁.setTop (mkF m 0 #[rv o0, rv o1, iv p2, .unset, .unset, .unset] [])) _
        refine miconst 1 G0 d4_0 (v := (0 : Int32)) rfl rfl ?_
        refine mistoreN 2 G0 d4_1 #[rv o0, rv o1, iv p2, iv (0 : Int32), .unset, .unset] rfl rfl ?_
        refine miloadN 3 G0 d4_2 rfl rfl ?_
        refine maloadN 4 G0 d4_3 rfl rfl rfl ?_
        refine st1 _ ?_
        show Steps p.tables e below (T1.setTop (mkF m 7 #[rv o0, rv o1, iv p2, iv (0 : Int32), .unset, .unset] [(.ref w1), (.int (0 : Int32))])) _
        refine mlen 8 X1 hx hby hZ e1 V_w1 d4_7 rfl ?_
        refine micmpNo 11 G1 d4_8 (tlt (by decide : (0 : Int32) < (1 : Int32))).2.1 rfl ?_
        refine maloadN 12 G1 d4_11 rfl rfl rfl ?_
        refine maloadN 13 G1 d4_12 rfl rfl rfl ?_
        refine st2 _ ?_
        show Steps p.tables e below (T2.setTop (mkF m 16 #[rv o0, rv o1, iv p2, iv (0 : Int32), .unset, .unset] [(.ref w1), (.ref o1)])) _
        refine miloadN 17 G2 d4_16 rfl rfl ?_
        refine miaload 18 X2 hx hby hZ e2 V_w1 (v := s0_) d4_17 ⟨by decide, by decide⟩ rfl rfl ?_
        refine mdaload 19 X2 hx hby hZ e2 V_o1 (v := (([c0_, c1_, c2_, c3_, c4_, c5_] : List UInt64).getD s0_.toNatClampNeg (0 : UInt64))) d4_18 (hin18) (own_getDD ([c0_, c1_, c2_, c3_, c4_, c5_] : List UInt64) _ _) rfl ?_
        refine mdstore 21 G2 d4_19 #[rv o0, rv o1, iv p2, iv (0 : Int32), dv (([c0_, c1_, c2_, c3_, c4_, c5_] : List UInt64).getD s0_.toNatClampNeg (0 : UInt64)), .second] rfl rfl ?_
        refine miloadN 22 G2 d4_21 rfl rfl ?_
        refine mifNo 25 G2 d4_22 ((if0 _ _).trans (feq hc22_3).1) rfl ?_
        refine mdload 27 G2 d4_25 rfl rfl ?_
        refine maloadN 28 G2 d4_27 rfl rfl rfl ?_
        refine st6 _ ?_
        show Steps p.tables e below (T6.setTop (mkF m 31 #[rv o0, rv o1, iv p2, iv (0 : Int32), dv (([c0_, c1_, c2_, c3_, c4_, c5_] : List UInt64).getD s0_.toNatClampNeg (0 : UInt64)), .second] [(.ref w2), (.double (([c0_, c1_, c2_, c3_, c4_, c5_] : List UInt64).getD s0_.toNatClampNeg (0 : UInt64)))])) _
        refine miloadN 32 G6 d4_31 rfl rfl ?_
        refine miaload 33 X6 hx hby hZ e6 V_w2 (v := a0_) d4_32 ⟨by decide, by decide⟩ rfl rfl ?_
        refine mi2d 34 G6 d4_33 rfl ?_
        refine mdcmp 35 G6 d4_34 rfl ?_
        refine mifYes 50 G6 d4_35 ((if0 _ _).trans (flt hc35_7).2.1) (by decide) rfl ?_
        refine miinc 53 G6 d4_50 rfl #[rv o0, rv o1, iv p2, iv (1 : Int32), dv (([c0_, c1_, c2_, c3_, c4_, c5_] : List UInt64).getD s0_.toNatClampNeg (0 : UInt64)), .second] rfl rfl ?_
        refine mgoto 2 G6 d4_53 (by decide) rfl ?_
        refine miloadN 3 G6 d4_2 rfl rfl ?_
        refine maloadN 4 G6 d4_3 rfl rfl rfl ?_
        refine st8 _ ?_
        show Steps p.tables e below (T8.setTop (mkF m 7 #[rv o0, rv o1, iv p2, iv (1 : Int32), dv (([c0_, c1_, c2_, c3_, c4_, c5_] : List UInt64).getD s0_.toNatClampNeg (0 : UInt64)), .second] [(.ref w1), (.int (1 : Int32))])) _
        refine mlen 8 X8 hx hby hZ e8 V_w1 d4_7 rfl ?_
        refine micmpYes 56 G8 d4_8 (flt (by decide : ¬ ((1 : Int32) < (1 : Int32)))).2.1 (by decide) rfl ?_
        refine miconst 57 G8 d4_56 (v := (-1 : Int32)) rfl rfl ?_
        exact retOut X8 hx Bd.returns rfl (Or.inl ⟨rfl, Or.inl rfl, _, rfl⟩) (hb hby d4_57) hr
      · show Q4_1 Z o0 o1 p2 w1 w2 k1 s0_ k2 a0_ k3 c0_ c1_ c2_ c3_ c4_ c5_ h0 n0 _ T8.heap _
        rw [e8]
        exact ⟨by simp only [rv4_1, if_neg hc22_3, if_neg hc35_7], rfl, rfl⟩
theorem ef0_1 (m : MethodId) (p0 : Int32) (p1 : Int32) (p2 : Int32) (p3 : Int32) : entryFrame m #[(.int p0), (.int p1), (.int p2), (.int p3)] maxLocals = mkF m 0 #[iv p0, iv p1, iv p2, iv p3, .unset, .unset, .unset, .unset, .unset, .unset, .unset, .unset, .unset, .unset, .unset, .unset, .unset, .unset, .unset, .unset, .unset, .unset] [] := by first | (simp [entryFrame, mkF, argsToLocals, Value.category, maxLocals]; done) | rfl
theorem own_rm0_1_hp_hin18_355 (p0 : Int32) (p1 : Int32) (p2 : Int32) (p3 : Int32) (x3 : Int32) (hx3 : x3 = (if (((p0.toUInt32 >>> ((2 : Int32) &&& 31).toUInt32).toInt32) &&& (1 : Int32)) = (0 : Int32) then (0 : Int32) else (1 : Int32))) (x4 : Int32) (hx4 : x4 = (p1 &&& (1 : Int32))) (x5 : Int32) (hx5 : x5 = ((x4 + (1 : Int32)) + (((p1.toUInt32 >>> ((1 : Int32) &&& 31).toUInt32).toInt32) &&& (1 : Int32)))) (x6 : Int32) (hx6 : x6 = ((x5 + (1 : Int32)) + (((p1.toUInt32 >>> ((2 : Int32) &&& 31).toUInt32).toInt32) &&& (1 : Int32)))) (x7 : Int32) (hx7 : x7 = ((1 : Int32) + (p2 &&& (3 : Int32)))) (x8 : Int32) (hx8 : x8 = ((1 : Int32) + (((p2.toUInt32 >>> ((2 : Int32) &&& 31).toUInt32).toInt32) &&& (3 : Int32)))) (x9 : Int32) (hx9 : x9 = ((1 : Int32) + (((p2.toUInt32 >>> ((4 : Int32) &&& 31).toUInt32).toInt32) &&& (3 : Int32)))) (x11 : Int32) (hx11 : x11 = (p3 &&& (7 : Int32))) (x15 : Int32) (hx15 : x15 = (((p3.toUInt32 >>> ((3 : Int32) &&& 31).toUInt32).toInt32) &&& (7 : Int32))) (x19 : Int32) (hx19 : x19 = (((p3.toUInt32 >>> ((6 : Int32) &&& 31).toUInt32).toInt32) &&& (7 : Int32))) (x23 : Int32) (hx23 : x23 = (((p3.toUInt32 >>> ((9 : Int32) &&& 31).toUInt32).toInt32) &&& (7 : Int32))) (x27 : Int32) (hx27 : x27 = (((p3.toUInt32 >>> ((12 : Int32) &&& 31).toUInt32).toInt32) &&& (7 : Int32))) (x31 : Int32) (hx31 : x31 = (((p3.toUInt32 >>> ((15 : Int32) &&& 31).toUInt32).toInt32) &&& (7 : Int32))) (x37 : UInt64) (hx37 : x37 = (FP.i2d x11)) (x44 : UInt64) (hx44 : x44 = (FP.i2d x15)) (x51 : UInt64) (hx51 : x51 = (FP.i2d x19)) (x58 : UInt64) (hx58 : x58 = (FP.i2d x23)) (x65 : UInt64) (hx65 : x65 = (FP.i2d x27)) (x72 : UInt64) (hx72 : x72 = (FP.i2d x31)) (hpin3 : ((p0 &&& (3 : Int32)) = (1 : Int32))) : ¬ x4 < 0 ∧ x4 < (6 : Int32) := own_in (own_s hx4 hx5 hx6).1
theorem own_rm0_1_hin364 (p0 : Int32) (p1 : Int32) (p2 : Int32) (p3 : Int32) (x3 : Int32) (hx3 : x3 = (if (((p0.toUInt32 >>> ((2 : Int32) &&& 31).toUInt32).toInt32) &&& (1 : Int32)) = (0 : Int32) then (0 : Int32) else (1 : Int32))) (x4 : Int32) (hx4 : x4 = (p1 &&& (1 : Int32))) (x5 : Int32) (hx5 : x5 = ((x4 + (1 : Int32)) + (((p1.toUInt32 >>> ((1 : Int32) &&& 31).toUInt32).toInt32) &&& (1 : Int32)))) (x6 : Int32) (hx6 : x6 = ((x5 + (1 : Int32)) + (((p1.toUInt32 >>> ((2 : Int32) &&& 31).toUInt32).toInt32) &&& (1 : Int32)))) (x7 : Int32) (hx7 : x7 = ((1 : Int32) + (p2 &&& (3 : Int32)))) (x8 : Int32) (hx8 : x8 = ((1 : Int32) + (((p2.toUInt32 >>> ((2 : Int32) &&& 31).toUInt32).toInt32) &&& (3 : Int32)))) (x9 : Int32) (hx9 : x9 = ((1 : Int32) + (((p2.toUInt32 >>> ((4 : Int32) &&& 31).toUInt32).toInt32) &&& (3 : Int32)))) (x11 : Int32) (hx11 : x11 = (p3 &&& (7 : Int32))) (x15 : Int32) (hx15 : x15 = (((p3.toUInt32 >>> ((3 : Int32) &&& 31).toUInt32).toInt32) &&& (7 : Int32))) (x19 : Int32) (hx19 : x19 = (((p3.toUInt32 >>> ((6 : Int32) &&& 31).toUInt32).toInt32) &&& (7 : Int32))) (x23 : Int32) (hx23 : x23 = (((p3.toUInt32 >>> ((9 : Int32) &&& 31).toUInt32).toInt32) &&& (7 : Int32))) (x27 : Int32) (hx27 : x27 = (((p3.toUInt32 >>> ((12 : Int32) &&& 31).toUInt32).toInt32) &&& (7 : Int32))) (x31 : Int32) (hx31 : x31 = (((p3.toUInt32 >>> ((15 : Int32) &&& 31).toUInt32).toInt32) &&& (7 : Int32))) (x37 : UInt64) (hx37 : x37 = (FP.i2d x11)) (x44 : UInt64) (hx44 : x44 = (FP.i2d x15)) (x51 : UInt64) (hx51 : x51 = (FP.i2d x19)) (x58 : UInt64) (hx58 : x58 = (FP.i2d x23)) (x65 : UInt64) (hx65 : x65 = (FP.i2d x27)) (x72 : UInt64) (hx72 : x72 = (FP.i2d x31)) (x140 : Int32) (hx140 : x140 = (rv4_1 x3 x4 x7 x37 x44 x51 x58 x65 x72)) (hpin3 : ((p0 &&& (3 : Int32)) = (1 : Int32))) : ¬ x4 < 0 ∧ x4 < (6 : Int32) := own_in (own_s hx4 hx5 hx6).1
theorem own_rm0_1_hin378 (p0 : Int32) (p1 : Int32) (p2 : Int32) (p3 : Int32) (x3 : Int32) (hx3 : x3 = (if (((p0.toUInt32 >>> ((2 : Int32) &&& 31).toUInt32).toInt32) &&& (1 : Int32)) = (0 : Int32) then (0 : Int32) else (1 : Int32))) (x4 : Int32) (hx4 : x4 = (p1 &&& (1 : Int32))) (x5 : Int32) (hx5 : x5 = ((x4 + (1 : Int32)) + (((p1.toUInt32 >>> ((1 : Int32) &&& 31).toUInt32).toInt32) &&& (1 : Int32)))) (x6 : Int32) (hx6 : x6 = ((x5 + (1 : Int32)) + (((p1.toUInt32 >>> ((2 : Int32) &&& 31).toUInt32).toInt32) &&& (1 : Int32)))) (x7 : Int32) (hx7 : x7 = ((1 : Int32) + (p2 &&& (3 : Int32)))) (x8 : Int32) (hx8 : x8 = ((1 : Int32) + (((p2.toUInt32 >>> ((2 : Int32) &&& 31).toUInt32).toInt32) &&& (3 : Int32)))) (x9 : Int32) (hx9 : x9 = ((1 : Int32) + (((p2.toUInt32 >>> ((4 : Int32) &&& 31).toUInt32).toInt32) &&& (3 : Int32)))) (x11 : Int32) (hx11 : x11 = (p3 &&& (7 : Int32))) (x15 : Int32) (hx15 : x15 = (((p3.toUInt32 >>> ((3 : Int32) &&& 31).toUInt32).toInt32) &&& (7 : Int32))) (x19 : Int32) (hx19 : x19 = (((p3.toUInt32 >>> ((6 : Int32) &&& 31).toUInt32).toInt32) &&& (7 : Int32))) (x23 : Int32) (hx23 : x23 = (((p3.toUInt32 >>> ((9 : Int32) &&& 31).toUInt32).toInt32) &&& (7 : Int32))) (x27 : Int32) (hx27 : x27 = (((p3.toUInt32 >>> ((12 : Int32) &&& 31).toUInt32).toInt32) &&& (7 : Int32))) (x31 : Int32) (hx31 : x31 = (((p3.toUInt32 >>> ((15 : Int32) &&& 31).toUInt32).toInt32) &&& (7 : Int32))) (x37 : UInt64) (hx37 : x37 = (FP.i2d x11)) (x44 : UInt64) (hx44 : x44 = (FP.i2d x15)) (x51 : UInt64) (hx51 : x51 = (FP.i2d x19)) (x58 : UInt64) (hx58 : x58 = (FP.i2d x23)) (x65 : UInt64) (hx65 : x65 = (FP.i2d x27)) (x72 : UInt64) (hx72 : x72 = (FP.i2d x31)) (x140 : Int32) (hx140 : x140 = (rv4_1 x3 x4 x7 x37 x44 x51 x58 x65 x72)) (x142 : Int32) (hx142 : x142 = (rv5 (([x11, x15, x19, x23, x27, x31] : List Int32).getD x4.toNatClampNeg (0 : Int32)) x7 x3)) (hpin3 : ((p0 &&& (3 : Int32)) = (1 : Int32))) : ¬ x5 < 0 ∧ x5 < (6 : Int32) := own_in (own_s hx4 hx5 hx6).2.1
theorem own_rm0_1_hin392 (p0 : Int32) (p1 : Int32) (p2 : Int32) (p3 : Int32) (x3 : Int32) (hx3 : x3 = (if (((p0.toUInt32 >>> ((2 : Int32) &&& 31).toUInt32).toInt32) &&& (1 : Int32)) = (0 : Int32) then (0 : Int32) else (1 : Int32))) (x4 : Int32) (hx4 : x4 = (p1 &&& (1 : Int32))) (x5 : Int32) (hx5 : x5 = ((x4 + (1 : Int32)) + (((p1.toUInt32 >>> ((1 : Int32) &&& 31).toUInt32).toInt32) &&& (1 : Int32)))) (x6 : Int32) (hx6 : x6 = ((x5 + (1 : Int32)) + (((p1.toUInt32 >>> ((2 : Int32) &&& 31).toUInt32).toInt32) &&& (1 : Int32)))) (x7 : Int32) (hx7 : x7 = ((1 : Int32) + (p2 &&& (3 : Int32)))) (x8 : Int32) (hx8 : x8 = ((1 : Int32) + (((p2.toUInt32 >>> ((2 : Int32) &&& 31).toUInt32).toInt32) &&& (3 : Int32)))) (x9 : Int32) (hx9 : x9 = ((1 : Int32) + (((p2.toUInt32 >>> ((4 : Int32) &&& 31).toUInt32).toInt32) &&& (3 : Int32)))) (x11 : Int32) (hx11 : x11 = (p3 &&& (7 : Int32))) (x15 : Int32) (hx15 : x15 = (((p3.toUInt32 >>> ((3 : Int32) &&& 31).toUInt32).toInt32) &&& (7 : Int32))) (x19 : Int32) (hx19 : x19 = (((p3.toUInt32 >>> ((6 : Int32) &&& 31).toUInt32).toInt32) &&& (7 : Int32))) (x23 : Int32) (hx23 : x23 = (((p3.toUInt32 >>> ((9 : Int32) &&& 31).toUInt32).toInt32) &&& (7 : Int32))) (x27 : Int32) (hx27 : x27 = (((p3.toUInt32 >>> ((12 : Int32) &&& 31).toUInt32).toInt32) &&& (7 : Int32))) (x31 : Int32) (hx31 : x31 = (((p3.toUInt32 >>> ((15 : Int32) &&& 31).toUInt32).toInt32) &&& (7 : Int32))) (x37 : UInt64) (hx37 : x37 = (FP.i2d x11)) (x44 : UInt64) (hx44 : x44 = (FP.i2d x15)) (x51 : UInt64) (hx51 : x51 = (FP.i2d x19)) (x58 : UInt64) (hx58 : x58 = (FP.i2d x23)) (x65 : UInt64) (hx65 : x65 = (FP.i2d x27)) (x72 : UInt64) (hx72 : x72 = (FP.i2d x31)) (x140 : Int32) (hx140 : x140 = (rv4_1 x3 x4 x7 x37 x44 x51 x58 x65 x72)) (x142 : Int32) (hx142 : x142 = (rv5 (([x11, x15, x19, x23, x27, x31] : List Int32).getD x4.toNatClampNeg (0 : Int32)) x7 x3)) (x144 : Int32) (hx144 : x144 = (rv5 (([x11, x15, x19, x23, x27, x31] : List Int32).getD x5.toNatClampNeg (0 : Int32)) x8 x3)) (hpin3 : ((p0 &&& (3 : Int32)) = (1 : Int32))) : ¬ x6 < 0 ∧ x6 < (6 : Int32) := own_in (own_s hx4 hx5 hx6).2.2
theorem own_rm0_1_end (p0 : Int32) (p1 : Int32) (p2 : Int32) (p3 : Int32) (x3 : Int32) (hx3 : x3 = (if (((p0.toUInt32 >>> ((2 : Int32) &&& 31).toUInt32).toInt32) &&& (1 : Int32)) = (0 : Int32) then (0 : Int32) else (1 : Int32))) (x4 : Int32) (hx4 : x4 = (p1 &&& (1 : Int32))) (x5 : Int32) (hx5 : x5 = ((x4 + (1 : Int32)) + (((p1.toUInt32 >>> ((1 : Int32) &&& 31).toUInt32).toInt32) &&& (1 : Int32)))) (x6 : Int32) (hx6 : x6 = ((x5 + (1 : Int32)) + (((p1.toUInt32 >>> ((2 : Int32) &&& 31).toUInt32).toInt32) &&& (1 : Int32)))) (x7 : Int32) (hx7 : x7 = ((1 : Int32) + (p2 &&& (3 : Int32)))) (x8 : Int32) (hx8 : x8 = ((1 : Int32) + (((p2.toUInt32 >>> ((2 : Int32) &&& 31).toUInt32).toInt32) &&& (3 : Int32)))) (x9 : Int32) (hx9 : x9 = ((1 : Int32) + (((p2.toUInt32 >>> ((4 : Int32) &&& 31).toUInt32).toInt32) &&& (3 : Int32)))) (x11 : Int32) (hx11 : x11 = (p3 &&& (7 : Int32))) (x15 : Int32) (hx15 : x15 = (((p3.toUInt32 >>> ((3 : Int32) &&& 31).toUInt32).toInt32) &&& (7 : Int32))) (x19 : Int32) (hx19 : x19 = (((p3.toUInt32 >>> ((6 : Int32) &&& 31).toUInt32).toInt32) &&& (7 : Int32))) (x23 : Int32) (hx23 : x23 = (((p3.toUInt32 >>> ((9 : Int32) &&& 31).toUInt32).toInt32) &&& (7 : Int32))) (x27 : Int32) (hx27 : x27 = (((p3.toUInt32 >>> ((12 : Int32) &&& 31).toUInt32).toInt32) &&& (7 : Int32))) (x31 : Int32) (hx31 : x31 = (((p3.toUInt32 >>> ((15 : Int32) &&& 31).toUInt32).toInt32) &&& (7 : Int32))) (x37 : UInt64) (hx37 : x37 = (FP.i2d x11)) (x44 : UInt64) (hx44 : x44 = (FP.i2d x15)) (x51 : UInt64) (hx51 : x51 = (FP.i2d x19)) (x58 : UInt64) (hx58 : x58 = (FP.i2d x23)) (x65 : UInt64) (hx65 : x65 = (FP.i2d x27)) (x72 : UInt64) (hx72 : x72 = (FP.i2d x31)) (x140 : Int32) (hx140 : x140 = (rv4_1 x3 x4 x7 x37 x44 x51 x58 x65 x72)) (x142 : Int32) (hx142 : x142 = (rv5 (([x11, x15, x19, x23, x27, x31] : List Int32).getD x4.toNatClampNeg (0 : Int32)) x7 x3)) (x144 : Int32) (hx144 : x144 = (rv5 (([x11, x15, x19, x23, x27, x31] : List Int32).getD x5.toNatClampNeg (0 : Int32)) x8 x3)) (x146 : Int32) (hx146 : x146 = (rv5 (([x11, x15, x19, x23, x27, x31] : List Int32).getD x6.toNatClampNeg (0 : Int32)) x9 x3)) (x149 : Int32) (hx149 : x149 = (if x142 = (0 : Int32) then (-1 : Int32) else (0 : Int32))) (x152 : Int32) (hx152 : x152 = (if x140 = x149 then (1 : Int32) else (0 : Int32))) (hpin3 : ((p0 &&& (3 : Int32)) = (1 : Int32))) : x152 = 1 := by
  subst hx37 hx44 hx51 hx58 hx65 hx72
  have key : x140 = x149 := by
    rw [hx140, hx149, hx142]
    unfold rv4_1 rv5
    simp only [own_gd, own_c0, own_cl]
    have ne : ¬ ((1 : Int32) = 0) := by decide
    have e0 : (0 : Int32) = 0 := rfl
    generalize (([x11, x15, x19, x23, x27, x31] : List Int32).getD x4.toNatClampNeg (0 : Int32)) = V0
    by_cases hz : x3 = 0
    · simp only [if_pos hz]
      by_cases h0 : V0 = 0
      · simp only [if_pos h0, if_neg ne]
      · simp only [if_neg h0, if_pos e0, if_true]
    · simp only [if_neg hz]
      by_cases h0 : V0 < x7
      · simp only [if_pos h0, if_neg ne]
      · simp only [if_neg h0, if_pos e0, if_true]
  rw [hx152, if_pos key]
set_option maxRecDepth 65536 in
set_option maxHeartbeats 40000000 in
theorem rm0_1 (l : Launch) (Z : State) (a0 : Array Value) (hw : ∀ d ∈ tables_1, d.before a0 Z = true) (ws : List Jvm.Cond) (p0 : Int32) (p1 : Int32) (p2 : Int32) (p3 : Int32)  (h0 : Heap) (n0 : Nat) (Z0 : n0 ≤ h0.size) (hpin3 : (p0 &&& (3 : Int32)) = (1 : Int32)) :
    MetFree l x (head1 (Jvm.Cond.code x code maxLocals ret :: ws) room_1) (fun a U => a = #[(.int p0), (.int p1), (.int p2), (.int p3)] ∧ Z.Warmed39 U.vm ∧ U.heap = h0) (fun _ _ _ _ _ => True) (fun _ U o U' => ∃ v L, o = .returned v ∧ Q0 Z p0 p1 p2 p3 h0 n0 v U'.heap L ∧ FrameEnd U o U' L room_1.cells room_1.slots) := by
  refine MetFree.of_bodySF (plainFor_of_name pn_0) hisR ?_
  intro p e s m args below meth c s₁ Bd hml0 hP hK
  obtain ⟨rfl, hZ, hh⟩ := hP
  have hx := Bd.exec
  have hby := Bd.bytes
  have hml : c.maxLocals = 22 := hml0
  have hown : s.vm.findClass "com/example/oceanus/oceanus/analysis/TakenUnmadePinLaw" = some m.cls := findClass_of_methodNamed Bd.named
  have hnm := (name_of_methodNamed Bd.named Bd.method).1
  have X0 : Stand p l e room_1 s m #[(.int p0), (.int p1), (.int p2), (.int p3)] below meth c s₁ [] 0 0 := Stand.of_body Bd
  have e0 : s₁.heap = h0 := by rw [← hh, Bd.state]; rfl
  have N0 := Fr.nil n0
  have G0 := gd X0 hx hby
  have pre0 : ∀ t, Steps p.tables e below (s₁.setTop (mkF m 0 #[iv p0, iv p1, iv p2, iv p3, .unset, .unset, .unset, .unset, .unset, .unset, .unset, .unset, .unset, .unset, .unset, .unset, .unset, .unset, .unset, .unset, .unset, .unset] [])) t → Steps p.tables e below (s₁.setTop (entryFrame m #[(.int p0), (.int p1), (.int p2), (.int p3)] maxLocals)) t := fun t k => castTop (ef0_1 m p0 p1 p2 p3) k
  obtain ⟨x3, hx3⟩ : ∃ z : Int32, z = (if (((p0.toUInt32 >>> ((2 : Int32) &&& 31).toUInt32).toInt32) &&& (1 : Int32)) = (0 : Int32) then (0 : Int32) else (1 : Int32)) := ⟨_, rfl⟩
  obtain ⟨T2, X2, e2, st2⟩ : ∃ T' : State, Stand p l e room_1 s m #[(.int p0), (.int p1), (.int p2), (.int p3)] below meth c T' [] 0 0 ∧ T'.heap = h0 ∧ ∀ target, Steps p.tables e below (T'.setTop (mkF m 18 #[iv p0, iv p1, iv p2, iv p3, iv (1 : Int32), .unset, .unset, .unset, .unset, .unset, .unset, .unset, .unset, .unset, .unset, .unset, .unset, .unset, .unset, .unset, .unset, .unset] [(.int x3)])) target → Steps p.tables e below (s₁.setTop (mkF m 10 #[iv p0, iv p1, iv p2, iv p3, iv (1 : Int32), .unset, .unset, .unset, .unset, .unset, .unset, .unset, .unset, .unset, .unset, .unset, .unset, .unset, .unset, .unset, .unset, .unset] [(.int (((p0.toUInt32 >>> ((2 : Int32) &&& 31).toUInt32).toInt32) &&& (1 : Int32)))])) target := by
    by_cases hc10_1 : (((p0.toUInt32 >>> ((2 : Int32) &&& 31).toUInt32).toInt32) &&& (1 : Int32)) = (0 : Int32)
    · refine ⟨s₁, X0, e0, fun target kt => ?_⟩
      refine mifYes 17 G0 at_10 ((if0 _ _).trans (teq hc10_1).1) (by decide) rfl ?_
      refine miconst 18 G0 at_17 (v := (0 : Int32)) rfl rfl ?_
      exact castTop (g' := (mkF m 18 #[iv p0, iv p1, iv p2, iv p3, iv (1 : Int32), .unset, .unset, .unset, .unset, .unset, .unset, .unset, .unset, .unset, .unset, .unset, .unset, .unset, .unset, .unset, .unset, .unset] [(.int x3)])) (by simp only [hx3, if_pos hc10_1]) kt
    · refine ⟨s₁, X0, e0, fun target kt => ?_⟩
      refine mifNo 13 G0 at_10 ((if0 _ _).trans (feq hc10_1).1) rfl ?_
      refine miconst 14 G0 at_13 (v := (1 : Int32)) rfl rfl ?_
      refine mgoto 18 G0 at_14 (by decide) rfl ?_
      exact castTop (g' := (mkF m 18 #[iv p0, iv p1, iv p2, iv p3, iv (1 : Int32), .unset, .unset, .unset, .unset, .unset, .unset, .unset, .unset, .unset, .unset, .unset, .unset, .unset, .unset, .unset, .unset, .unset] [(.int x3)])) (by simp only [hx3, if_neg hc10_1]) kt
  have G2 := gd X2 hx hby
  obtain ⟨x4, hx4⟩ : ∃ z : Int32, z = (p1 &&& (1 : Int32)) := ⟨_, rfl⟩
  obtain ⟨x5, hx5⟩ : ∃ z : Int32, z = ((x4 + (1 : Int32)) + (((p1.toUInt32 >>> ((1 : Int32) &&& 31).toUInt32).toInt32) &&& (1 : Int32))) := ⟨_, rfl⟩
  obtain ⟨x6, hx6⟩ : ∃ z : Int32, z = ((x5 + (1 : Int32)) + (((p1.toUInt32 >>> ((2 : Int32) &&& 31).toUInt32).toInt32) &&& (1 : Int32))) := ⟨_, rfl⟩
  obtain ⟨x7, hx7⟩ : ∃ z : Int32, z = ((1 : Int32) + (p2 &&& (3 : Int32))) := ⟨_, rfl⟩
  obtain ⟨x8, hx8⟩ : ∃ z : Int32, z = ((1 : Int32) + (((p2.toUInt32 >>> ((2 : Int32) &&& 31).toUInt32).toInt32) &&& (3 : Int32))) := ⟨_, rfl⟩
  obtain ⟨x9, hx9⟩ : ∃ z : Int32, z = ((1 : Int32) + (((p2.toUInt32 >>> ((4 : Int32) &&& 31).toUInt32).toInt32) &&& (3 : Int32))) := ⟨_, rfl⟩
  obtain ⟨T10, h10, k10, X10, e10, E10, A10, st10⟩ := newP X2 hx hZ (wd hw 0 rfl) e2 (g := (mkF m 76 #[iv p0, iv p1, iv p2, iv p3, iv (1 : Int32), iv x3, iv x4, iv x5, iv x6, iv x7, iv x8, iv x9, .unset, .unset, .unset, .unset, .unset, .unset, .unset, .unset, .unset, .unset] [(.int (6 : Int32))])) rfl (hb hby at_76) rfl (by decide) (cap := 6) (by decide) (by decide) (by decide) (by decide)
  have G10 := gd X10 hx hby
  obtain ⟨b10, g10⟩ : ∃ z, z = h0.size := ⟨_, rfl⟩
  rw [← g10] at A10 st10
  have g_b10 : n0 ≤ b10 := Nat.le_trans Z0 (Nat.le_of_eq g10.symm)
  have Z10 := Nat.le_trans Z0 E10.1
  have V_b10 : Arv Z h10 b10 k10 .int (6 : Int32) [(.int (0 : Int32)), (.int (0 : Int32)), (.int (0 : Int32)), (.int (0 : Int32)), (.int (0 : Int32)), (.int (0 : Int32))] (.int (0 : Int32)) := (Arv.new A10 (by decide)).pad (pad_rep [] (.int (0 : Int32)) 6)
  obtain ⟨x11, hx11⟩ : ∃ z : Int32, z = (p3 &&& (7 : Int32)) := ⟨_, rfl⟩
  obtain ⟨T12, h12, X12, e12, W12, Vs12, st12⟩ := own_stI X10 hx hby hZ e10 V_b10 (j := (0 : Int32)) (v := x11) at_87 ⟨by decide, by decide⟩ 0 rfl (Nat.le_of_ble_eq_true rfl) #[iv p0, iv p1, iv p2, iv p3, iv (1 : Int32), iv x3, iv x4, iv x5, iv x6, iv x7, iv x8, iv x9, rv b10, .unset, .unset, .unset, .unset, .unset, .unset, .unset, .unset, .unset] [] 88 rfl
  have G12 := gd X12 hx hby
  have N12 := Fr.snoc X12 N0 g_b10
  have Z12 := Nat.le_trans Z10 (Keep.of_wr W12).1
  have V12 : Arv Z h12 b10 k10 .int (6 : Int32) [(.int x11), (.int (0 : Int32)), (.int (0 : Int32)), (.int (0 : Int32)), (.int (0 : Int32)), (.int (0 : Int32))] (.int (0 : Int32)) := Vs12
  obtain ⟨x15, hx15⟩ : ∃ z : Int32, z = (((p3.toUInt32 >>> ((3 : Int32) &&& 31).toUInt32).toInt32) &&& (7 : Int32)) := ⟨_, rfl⟩
  obtain ⟨T16, h16, X16, e16, W16, Vs16, st16⟩ := own_stI X12 hx hby hZ e12 V12 (j := (1 : Int32)) (v := x15) at_97 ⟨by decide, by decide⟩ 1 rfl (Nat.le_of_ble_eq_true rfl) #[iv p0, iv p1, iv p2, iv p3, iv (1 : Int32), iv x3, iv x4, iv x5, iv x6, iv x7, iv x8, iv x9, rv b10, .unset, .unset, .unset, .unset, .unset, .unset, .unset, .unset, .unset] [] 98 rfl
  have G16 := gd X16 hx hby
  have N16 := Fr.snoc X16 N12 g_b10
  have Z16 := Nat.le_trans Z12 (Keep.of_wr W16).1
  have V16 : Arv Z h16 b10 k10 .int (6 : Int32) [(.int x11), (.int x15), (.int (0 : Int32)), (.int (0 : Int32)), (.int (0 : Int32)), (.int (0 : Int32))] (.int (0 : Int32)) := Vs16
  obtain ⟨x19, hx19⟩ : ∃ z : Int32, z = (((p3.toUInt32 >>> ((6 : Int32) &&& 31).toUInt32).toInt32) &&& (7 : Int32)) := ⟨_, rfl⟩
  obtain ⟨T20, h20, X20, e20, W20, Vs20, st20⟩ := own_stI X16 hx hby hZ e16 V16 (j := (2 : Int32)) (v := x19) at_108 ⟨by decide, by decide⟩ 2 rfl (Nat.le_of_ble_eq_true rfl) #[iv p0, iv p1, iv p2, iv p3, iv (1 : Int32), iv x3, iv x4, iv x5, iv x6, iv x7, iv x8, iv x9, rv b10, .unset, .unset, .unset, .unset, .unset, .unset, .unset, .unset, .unset] [] 109 rfl
  have G20 := gd X20 hx hby
  have N20 := Fr.snoc X20 N16 g_b10
  have Z20 := Nat.le_trans Z16 (Keep.of_wr W20).1
  have V20 : Arv Z h20 b10 k10 .int (6 : Int32) [(.int x11), (.int x15), (.int x19), (.int (0 : Int32)), (.int (0 : Int32)), (.int (0 : Int32))] (.int (0 : Int32)) := Vs20
  obtain ⟨x23, hx23⟩ : ∃ z : Int32, z = (((p3.toUInt32 >>> ((9 : Int32) &&& 31).toUInt32).toInt32) &&& (7 : Int32)) := ⟨_, rfl⟩
  obtain ⟨T24, h24, X24, e24, W24, Vs24, st24⟩ := own_stI X20 hx hby hZ e20 V20 (j := (3 : Int32)) (v := x23) at_119 ⟨by decide, by decide⟩ 3 rfl (Nat.le_of_ble_eq_true rfl) #[iv p0, iv p1, iv p2, iv p3, iv (1 : Int32), iv x3, iv x4, iv x5, iv x6, iv x7, iv x8, iv x9, rv b10, .unset, .unset, .unset, .unset, .unset, .unset, .unset, .unset, .unset] [] 120 rfl
  have G24 := gd X24 hx hby
  have N24 := Fr.snoc X24 N20 g_b10
  have Z24 := Nat.le_trans Z20 (Keep.of_wr W24).1
  have V24 : Arv Z h24 b10 k10 .int (6 : Int32) [(.int x11), (.int x15), (.int x19), (.int x23), (.int (0 : Int32)), (.int (0 : Int32))] (.int (0 : Int32)) := Vs24
  obtain ⟨x27, hx27⟩ : ∃ z : Int32, z = (((p3.toUInt32 >>> ((12 : Int32) &&& 31).toUInt32).toInt32) &&& (7 : Int32)) := ⟨_, rfl⟩
  obtain ⟨T28, h28, X28, e28, W28, Vs28, st28⟩ := own_stI X24 hx hby hZ e24 V24 (j := (4 : Int32)) (v := x27) at_130 ⟨by decide, by decide⟩ 4 rfl (Nat.le_of_ble_eq_true rfl) #[iv p0, iv p1, iv p2, iv p3, iv (1 : Int32), iv x3, iv x4, iv x5, iv x6, iv x7, iv x8, iv x9, rv b10, .unset, .unset, .unset, .unset, .unset, .unset, .unset, .unset, .unset] [] 131 rfl
  have G28 := gd X28 hx hby
  have N28 := Fr.snoc X28 N24 g_b10
  have Z28 := Nat.le_trans Z24 (Keep.of_wr W28).1
  have V28 : Arv Z h28 b10 k10 .int (6 : Int32) [(.int x11), (.int x15), (.int x19), (.int x23), (.int x27), (.int (0 : Int32))] (.int (0 : Int32)) := Vs28
  obtain ⟨x31, hx31⟩ : ∃ z : Int32, z = (((p3.toUInt32 >>> ((15 : Int32) &&& 31).toUInt32).toInt32) &&& (7 : Int32)) := ⟨_, rfl⟩
  obtain ⟨T32, h32, X32, e32, W32, Vs32, st32⟩ := own_stI X28 hx hby hZ e28 V28 (j := (5 : Int32)) (v := x31) at_141 ⟨by decide, by decide⟩ 5 rfl (Nat.le_of_ble_eq_true rfl) #[iv p0, iv p1, iv p2, iv p3, iv (1 : Int32), iv x3, iv x4, iv x5, iv x6, iv x7, iv x8, iv x9, rv b10, .unset, .unset, .unset, .unset, .unset, .unset, .unset, .unset, .unset] [] 142 rfl
  have G32 := gd X32 hx hby
  have N32 := Fr.snoc X32 N28 g_b10
  have Z32 := Nat.le_trans Z28 (Keep.of_wr W32).1
  have V32 : Arv Z h32 b10 k10 .int (6 : Int32) [(.int x11), (.int x15), (.int x19), (.int x23), (.int x27), (.int x31)] (.int (0 : Int32)) := Vs32
  obtain ⟨T35, h35, k35, X35, e35, E35, A35, st35⟩ := newP X32 hx hZ (wd hw 1 rfl) e32 (g := (mkF m 144 #[iv p0, iv p1, iv p2, iv p3, iv (1 : Int32), iv x3, iv x4, iv x5, iv x6, iv x7, iv x8, iv x9, rv b10, .unset, .unset, .unset, .unset, .unset, .unset, .unset, .unset, .unset] [(.int (6 : Int32))])) rfl (hb hby at_144) rfl (by decide) (cap := 6) (by decide) (by decide) (by decide) (by decide)
  have G35 := gd X35 hx hby
  obtain ⟨b35, g35⟩ : ∃ z, z = h32.size := ⟨_, rfl⟩
  rw [← g35] at A35 st35
  have ne_b10_b35 : b10 ≠ b35 := Nat.ne_of_lt (Nat.lt_of_lt_of_le V32.lt (Nat.le_of_eq g35.symm))
  have g_b35 : n0 ≤ b35 := Nat.le_trans Z32 (Nat.le_of_eq g35.symm)
  have f36 := V32.ext E35
  have Z35 := Nat.le_trans Z32 E35.1
  have V_b35 : Arv Z h35 b35 k35 .double (6 : Int32) [(.double (0 : UInt64)), (.double (0 : UInt64)), (.double (0 : UInt64)), (.double (0 : UInt64)), (.double (0 : UInt64)), (.double (0 : UInt64))] (.double (0 : UInt64)) := (Arv.new A35 (by decide)).pad (pad_rep [] (.double (0 : UInt64)) 6)
  obtain ⟨x37, hx37⟩ : ∃ z : UInt64, z = (FP.i2d x11) := ⟨_, rfl⟩
  obtain ⟨T38, h38, X38, e38, W38, Vs38, st38⟩ := own_stD X35 hx hby hZ e35 V_b35 (j := (0 : Int32)) (v := x37) at_153 ⟨by decide, by decide⟩ 0 rfl (Nat.le_of_ble_eq_true rfl) #[iv p0, iv p1, iv p2, iv p3, iv (1 : Int32), iv x3, iv x4, iv x5, iv x6, iv x7, iv x8, iv x9, rv b10, .unset, .unset, .unset, .unset, .unset, .unset, .unset, .unset, .unset] [(.ref b35)] 154 rfl
  have G38 := gd X38 hx hby
  have N38 := Fr.snoc X38 N32 g_b35
  have f40 := f36.other W38 ne_b10_b35
  have Z38 := Nat.le_trans Z35 (Keep.of_wr W38).1
  have V38 : Arv Z h38 b35 k35 .double (6 : Int32) [(.double x37), (.double (0 : UInt64)), (.double (0 : UInt64)), (.double (0 : UInt64)), (.double (0 : UInt64)), (.double (0 : UInt64))] (.double (0 : UInt64)) := Vs38
  obtain ⟨x44, hx44⟩ : ∃ z : UInt64, z = (FP.i2d x15) := ⟨_, rfl⟩
  obtain ⟨T45, h45, X45, e45, W45, Vs45, st45⟩ := own_stD X38 hx hby hZ e38 V38 (j := (1 : Int32)) (v := x44) at_161 ⟨by decide, by decide⟩ 1 rfl (Nat.le_of_ble_eq_true rfl) #[iv p0, iv p1, iv p2, iv p3, iv (1 : Int32), iv x3, iv x4, iv x5, iv x6, iv x7, iv x8, iv x9, rv b10, .unset, .unset, .unset, .unset, .unset, .unset, .unset, .unset, .unset] [(.ref b35)] 162 rfl
  have G45 := gd X45 hx hby
  have N45 := Fr.snoc X45 N38 g_b35
  have f47 := f40.other W45 ne_b10_b35
  have Z45 := Nat.le_trans Z38 (Keep.of_wr W45).1
  have V45 : Arv Z h45 b35 k35 .double (6 : Int32) [(.double x37), (.double x44), (.double (0 : UInt64)), (.double (0 : UInt64)), (.double (0 : UInt64)), (.double (0 : UInt64))] (.double (0 : UInt64)) := Vs45
  obtain ⟨x51, hx51⟩ : ∃ z : UInt64, z = (FP.i2d x19) := ⟨_, rfl⟩
  obtain ⟨T52, h52, X52, e52, W52, Vs52, st52⟩ := own_stD X45 hx hby hZ e45 V45 (j := (2 : Int32)) (v := x51) at_169 ⟨by decide, by decide⟩ 2 rfl (Nat.le_of_ble_eq_true rfl) #[iv p0, iv p1, iv p2, iv p3, iv (1 : Int32), iv x3, iv x4, iv x5, iv x6, iv x7, iv x8, iv x9, rv b10, .unset, .unset, .unset, .unset, .unset, .unset, .unset, .unset, .unset] [(.ref b35)] 170 rfl
  have G52 := gd X52 hx hby
  have N52 := Fr.snoc X52 N45 g_b35
  have f54 := f47.other W52 ne_b10_b35
  have Z52 := Nat.le_trans Z45 (Keep.of_wr W52).1
  have V52 : Arv Z h52 b35 k35 .double (6 : Int32) [(.double x37), (.double x44), (.double x51), (.double (0 : UInt64)), (.double (0 : UInt64)), (.double (0 : UInt64))] (.double (0 : UInt64)) := Vs52
  obtain ⟨x58, hx58⟩ : ∃ z : UInt64, z = (FP.i2d x23) := ⟨_, rfl⟩
  obtain ⟨T59, h59, X59, e59, W59, Vs59, st59⟩ := own_stD X52 hx hby hZ e52 V52 (j := (3 : Int32)) (v := x58) at_177 ⟨by decide, by decide⟩ 3 rfl (Nat.le_of_ble_eq_true rfl) #[iv p0, iv p1, iv p2, iv p3, iv (1 : Int32), iv x3, iv x4, iv x5, iv x6, iv x7, iv x8, iv x9, rv b10, .unset, .unset, .unset, .unset, .unset, .unset, .unset, .unset, .unset] [(.ref b35)] 178 rfl
  have G59 := gd X59 hx hby
  have N59 := Fr.snoc X59 N52 g_b35
  have f61 := f54.other W59 ne_b10_b35
  have Z59 := Nat.le_trans Z52 (Keep.of_wr W59).1
  have V59 : Arv Z h59 b35 k35 .double (6 : Int32) [(.double x37), (.double x44), (.double x51), (.double x58), (.double (0 : UInt64)), (.double (0 : UInt64))] (.double (0 : UInt64)) := Vs59
  obtain ⟨x65, hx65⟩ : ∃ z : UInt64, z = (FP.i2d x27) := ⟨_, rfl⟩
  obtain ⟨T66, h66, X66, e66, W66, Vs66, st66⟩ := own_stD X59 hx hby hZ e59 V59 (j := (4 : Int32)) (v := x65) at_185 ⟨by decide, by decide⟩ 4 rfl (Nat.le_of_ble_eq_true rfl) #[iv p0, iv p1, iv p2, iv p3, iv (1 : Int32), iv x3, iv x4, iv x5, iv x6, iv x7, iv x8, iv x9, rv b10, .unset, .unset, .unset, .unset, .unset, .unset, .unset, .unset, .unset] [(.ref b35)] 186 rfl
  have G66 := gd X66 hx hby
  have N66 := Fr.snoc X66 N59 g_b35
  have f68 := f61.other W66 ne_b10_b35
  have Z66 := Nat.le_trans Z59 (Keep.of_wr W66).1
  have V66 : Arv Z h66 b35 k35 .double (6 : Int32) [(.double x37), (.double x44), (.double x51), (.double x58), (.double x65), (.double (0 : UInt64))] (.double (0 : UInt64)) := Vs66
  obtain ⟨x72, hx72⟩ : ∃ z : UInt64, z = (FP.i2d x31) := ⟨_, rfl⟩
  obtain ⟨T73, h73, X73, e73, W73, Vs73, st73⟩ := own_stD X66 hx hby hZ e66 V66 (j := (5 : Int32)) (v := x72) at_193 ⟨by decide, by decide⟩ 5 rfl (Nat.le_of_ble_eq_true rfl) #[iv p0, iv p1, iv p2, iv p3, iv (1 : Int32), iv x3, iv x4, iv x5, iv x6, iv x7, iv x8, iv x9, rv b10, .unset, .unset, .unset, .unset, .unset, .unset, .unset, .unset, .unset] [(.ref b35)] 194 rfl
  have G73 := gd X73 hx hby
  have N73 := Fr.snoc X73 N66 g_b35
  have f75 := f68.other W73 ne_b10_b35
  have Z73 := Nat.le_trans Z66 (Keep.of_wr W73).1
  have V73 : Arv Z h73 b35 k35 .double (6 : Int32) [(.double x37), (.double x44), (.double x51), (.double x58), (.double x65), (.double x72)] (.double (0 : UInt64)) := Vs73
  obtain ⟨T79, h79, k79, X79, e79, E79, A79, st79⟩ := newP X73 hx hZ (wd hw 0 rfl) e73 (g := (mkF m 214 #[iv p0, iv p1, iv p2, iv p3, iv (1 : Int32), iv x3, iv x4, iv x5, iv x6, iv x7, iv x8, iv x9, rv b10, rv b35, .unset, .unset, .unset, .unset, .unset, .unset, .unset, .unset] [(.int (1 : Int32))])) rfl (hb hby at_214) rfl (by decide) (cap := 1) (by decide) (by decide) (by decide) (by decide)
  have G79 := gd X79 hx hby
  obtain ⟨b79, g79⟩ : ∃ z, z = h73.size := ⟨_, rfl⟩
  rw [← g79] at A79 st79
  have ne_b10_b79 : b10 ≠ b79 := Nat.ne_of_lt (Nat.lt_of_lt_of_le f75.lt (Nat.le_of_eq g79.symm))
  have ne_b35_b79 : b35 ≠ b79 := Nat.ne_of_lt (Nat.lt_of_lt_of_le V73.lt (Nat.le_of_eq g79.symm))
  have g_b79 : n0 ≤ b79 := Nat.le_trans Z73 (Nat.le_of_eq g79.symm)
  have f80 := f75.ext E79
  have f81 := V73.ext E79
  have Z79 := Nat.le_trans Z73 E79.1
  have V_b79 : Arv Z h79 b79 k79 .int (1 : Int32) [(.int (0 : Int32))] (.int (0 : Int32)) := (Arv.new A79 (by decide)).pad (pad_rep [] (.int (0 : Int32)) 1)
  obtain ⟨T82, h82, X82, e82, W82, Vs82, st82⟩ := own_stI X79 hx hby hZ e79 V_b79 (j := (0 : Int32)) (v := x4) at_220 ⟨by decide, by decide⟩ 0 rfl (Nat.le_of_ble_eq_true rfl) #[iv p0, iv p1, iv p2, iv p3, iv (1 : Int32), iv x3, iv x4, iv x5, iv x6, iv x7, iv x8, iv x9, rv b10, rv b35, .unset, .unset, .unset, .unset, .unset, .unset, .unset, .unset] [(.ref b79)] 221 rfl
  have G82 := gd X82 hx hby
  have N82 := Fr.snoc X82 N73 g_b79
  have f84 := f80.other W82 ne_b10_b79
  have f87 := f81.other W82 ne_b35_b79
  have Z82 := Nat.le_trans Z79 (Keep.of_wr W82).1
  have V82 : Arv Z h82 b79 k79 .int (1 : Int32) [(.int x4)] (.int (0 : Int32)) := Vs82
  obtain ⟨T92, h92, k92, X92, e92, E92, A92, st92⟩ := newP X82 hx hZ (wd hw 0 rfl) e82 (g := (mkF m 284 #[iv p0, iv p1, iv p2, iv p3, iv (1 : Int32), iv x3, iv x4, iv x5, iv x6, iv x7, iv x8, iv x9, rv b10, rv b35, rv b79, .unset, .unset, .unset, .unset, .unset, .unset, .unset] [(.int (1 : Int32))])) rfl (hb hby at_284) rfl (by decide) (cap := 1) (by decide) (by decide) (by decide) (by decide)
  have G92 := gd X92 hx hby
  obtain ⟨b92, g92⟩ : ∃ z, z = h82.size := ⟨_, rfl⟩
  rw [← g92] at A92 st92
  have ne_b10_b92 : b10 ≠ b92 := Nat.ne_of_lt (Nat.lt_of_lt_of_le f84.lt (Nat.le_of_eq g92.symm))
  have ne_b35_b92 : b35 ≠ b92 := Nat.ne_of_lt (Nat.lt_of_lt_of_le f87.lt (Nat.le_of_eq g92.symm))
  have ne_b79_b92 : b79 ≠ b92 := Nat.ne_of_lt (Nat.lt_of_lt_of_le V82.lt (Nat.le_of_eq g92.symm))
  have g_b92 : n0 ≤ b92 := Nat.le_trans Z82 (Nat.le_of_eq g92.symm)
  have f93 := f84.ext E92
  have f94 := f87.ext E92
  have f95 := V82.ext E92
  have Z92 := Nat.le_trans Z82 E92.1
  have V_b92 : Arv Z h92 b92 k92 .int (1 : Int32) [(.int (0 : Int32))] (.int (0 : Int32)) := (Arv.new A92 (by decide)).pad (pad_rep [] (.int (0 : Int32)) 1)
  obtain ⟨T96, h96, X96, e96, W96, Vs96, st96⟩ := own_stI X92 hx hby hZ e92 V_b92 (j := (0 : Int32)) (v := x7) at_290 ⟨by decide, by decide⟩ 0 rfl (Nat.le_of_ble_eq_true rfl) #[iv p0, iv p1, iv p2, iv p3, iv (1 : Int32), iv x3, iv x4, iv x5, iv x6, iv x7, iv x8, iv x9, rv b10, rv b35, rv b79, .unset, .unset, .unset, .unset, .unset, .unset, .unset] [(.ref b92)] 291 rfl
  have G96 := gd X96 hx hby
  have N96 := Fr.snoc X96 N82 g_b92
  have f98 := f93.other W96 ne_b10_b92
  have f101 := f94.other W96 ne_b35_b92
  have f105 := f95.other W96 ne_b79_b92
  have Z96 := Nat.le_trans Z92 (Keep.of_wr W96).1
  have V96 : Arv Z h96 b92 k92 .int (1 : Int32) [(.int x7)] (.int (0 : Int32)) := Vs96
  obtain ⟨T111, h111, X111, e111, E111, A111, D111, -, st111⟩ := newO X96 hx hZ hown (wd hw 2 rfl) (wd hw 3 rfl) (wd hw 4 rfl) e96 (g := (mkF m 336 #[iv p0, iv p1, iv p2, iv p3, iv (1 : Int32), iv x3, iv x4, iv x5, iv x6, iv x7, iv x8, iv x9, rv b10, rv b35, rv b79, rv b92, .unset, .unset, .unset, .unset, .unset, .unset] [])) rfl (hb hby at_336) (by decide) (by decide)
  have G111 := gd X111 hx hby
  obtain ⟨b111, g111⟩ : ∃ z, z = h96.size := ⟨_, rfl⟩
  rw [← g111] at A111 D111 st111
  have ne_b10_b111 : b10 ≠ b111 := Nat.ne_of_lt (Nat.lt_of_lt_of_le f98.lt (Nat.le_of_eq g111.symm))
  have ne_b35_b111 : b35 ≠ b111 := Nat.ne_of_lt (Nat.lt_of_lt_of_le f101.lt (Nat.le_of_eq g111.symm))
  have ne_b79_b111 : b79 ≠ b111 := Nat.ne_of_lt (Nat.lt_of_lt_of_le f105.lt (Nat.le_of_eq g111.symm))
  have ne_b92_b111 : b92 ≠ b111 := Nat.ne_of_lt (Nat.lt_of_lt_of_le V96.lt (Nat.le_of_eq g111.symm))
  have g_b111 : n0 ≤ b111 := Nat.le_trans Z96 (Nat.le_of_eq g111.symm)
  have f112 := f98.ext E111
  have f113 := f101.ext E111
  have f114 := f105.ext E111
  have f115 := V96.ext E111
  have Z111 := Nat.le_trans Z96 E111.1
  have F_states_b111 : Fld Z h111 b111 "com/example/oceanus/oceanus/analysis/Taken" "states" "[I" .null := D111 (Or.inr (wd hw 17 rfl)) (ty := (.array .int)) (by decide)
  have F_agents_b111 : Fld Z h111 b111 "com/example/oceanus/oceanus/analysis/Taken" "agents" "[I" .null := D111 (Or.inr (wd hw 19 rfl)) (ty := (.array .int)) (by decide)
  obtain ⟨_, _, ⟨T116, L116, k116, n116⟩, -, X116, ⟨Lc116, hQ116, l116, y116, z116⟩, st116⟩ := X111.specialBack hx (y := (⟨"com/example/oceanus/oceanus/analysis/Taken", "<init>", "([I[I)V"⟩ : MethodName)) rfl hown (mvT hZ (wd hw 5 rfl)) (mvT hZ (wd hw 6 rfl)) (mvT hZ (wd hw 7 rfl)) (by decide) (backOf (W := 1) (rm1 l Z a0 hw [] b111 b79 b92 h111 n0 Z111 A111 g_b111 F_states_b111 F_agents_b111) hZ (wd hw 7 rfl) (wd hw 4 rfl) (by decide) (by decide)) (g := (mkF m 344 #[iv p0, iv p1, iv p2, iv p3, iv (1 : Int32), iv x3, iv x4, iv x5, iv x6, iv x7, iv x8, iv x9, rv b10, rv b35, rv b79, rv b92, .unset, .unset, .unset, .unset, .unset, .unset] [(.ref b92), (.ref b79), (.ref b111), (.ref b111)])) rfl (by rw [hml]; rfl) (Steps.refl _) (a := b111) (argsL := [(.ref b79), (.ref b92)]) (rest := [(.ref b111)]) (lenOf pd_1 rfl) rfl (by show 2 * 0 + _ ≤ _; exact Nat.le_of_eq rfl) (hb hby at_344) (fun _ _ => ⟨rfl, e111, (by decide : 5 + 0 ≤ _), (by decide : 16 + 0 ≤ _)⟩)
  dsimp only [Pt.U, Pt.locs, Pt.cells, Pt.slots] at X116 l116 y116 z116 st116 hQ116
  replace l116 : ((((((((((((((([] ++ [⟨b10, ((0 : Int32)).toNatClampNeg⟩]) ++ [⟨b10, ((1 : Int32)).toNatClampNeg⟩]) ++ [⟨b10, ((2 : Int32)).toNatClampNeg⟩]) ++ [⟨b10, ((3 : Int32)).toNatClampNeg⟩]) ++ [⟨b10, ((4 : Int32)).toNatClampNeg⟩]) ++ [⟨b10, ((5 : Int32)).toNatClampNeg⟩]) ++ [⟨b35, ((0 : Int32)).toNatClampNeg⟩]) ++ [⟨b35, ((1 : Int32)).toNatClampNeg⟩]) ++ [⟨b35, ((2 : Int32)).toNatClampNeg⟩]) ++ [⟨b35, ((3 : Int32)).toNatClampNeg⟩]) ++ [⟨b35, ((4 : Int32)).toNatClampNeg⟩]) ++ [⟨b35, ((5 : Int32)).toNatClampNeg⟩]) ++ [⟨b79, ((0 : Int32)).toNatClampNeg⟩]) ++ [⟨b92, ((0 : Int32)).toNatClampNeg⟩]) ++ Lc116) = L116 := l116.symm
  subst l116 y116 z116
  obtain ⟨rfl, Nq116, K116, Eq116, Fq116_0, Fq116_1⟩ := hQ116
  have N116 := Fr.app N96 Nq116
  have f118 := f112.keep K116 (ninS ne_b10_b111 nin0)
  have f121 := f113.keep K116 (ninS ne_b35_b111 nin0)
  have f125 := f114.keep K116 (ninS ne_b79_b111 nin0)
  have f130 := f115.keep K116 (ninS ne_b92_b111 nin0)
  have f138 := A111.keep K116
  have Z116k := Nat.le_trans Z111 K116.1
  have G116 := gd X116 hx hby
  obtain ⟨cq139, kq139, q139a, q139b, q139c⟩ := isOf hZ rfl Eq116
  obtain ⟨_, _, ⟨T139, L139, k139, n139⟩, -, X139, ⟨Lc139, hQ139, l139, y139, z139⟩, st139⟩ := X116.virtualBack hx (y := (⟨"com/example/oceanus/oceanus/analysis/Taken", "unmade", "([DZ)I"⟩ : MethodName)) (z := (⟨"com/example/oceanus/oceanus/analysis/Taken", "unmade", "([DZ)I"⟩ : MethodName)) hown (mvT hZ (wd hw 20 rfl)) (mvT hZ (wd hw 21 rfl)) (notFace_of_selects (args := #[]) (mvT hZ (wd hw 23 rfl))) (mvT hZ (wd hw 23 rfl)) (mvT hZ (wd hw 22 rfl)) (by decide) (backOf (W := 0) (rm4_1 l Z a0 hw [] b111 b35 x3 T116.heap n0 Z116k Fq116_0 Fq116_1 f125 f130 f121 (own_rm0_1_hp_hin18_355 p0 p1 p2 p3 x3 hx3 x4 hx4 x5 hx5 x6 hx6 x7 hx7 x8 hx8 x9 hx9 x11 hx11 x15 hx15 x19 hx19 x23 hx23 x27 hx27 x31 hx31 x37 hx37 x44 hx44 x51 hx51 x58 hx58 x65 hx65 x72 hx72 hpin3)) hZ (wd hw 24 rfl) (wd hw 4 rfl) (by decide) (by decide)) q139a q139c (g := (mkF m 355 #[iv p0, iv p1, iv p2, iv p3, iv (1 : Int32), iv x3, iv x4, iv x5, iv x6, iv x7, iv x8, iv x9, rv b10, rv b35, rv b79, rv b92, rv b111, .unset, .unset, .unset, .unset, .unset] [(.int x3), (.ref b35), (.ref b111)])) rfl (by rw [hml]; rfl) (Steps.refl _) (argsL := [(.ref b35), (.int x3)]) (rest := []) (lenOf pd_2 rfl) rfl (by show 2 * 0 + _ ≤ _; exact Nat.le_of_eq rfl) (hb hby at_355) (fun _ _ => ⟨rfl, rfl, (by decide : 5 + 0 ≤ _), (by decide : 16 + 0 ≤ _)⟩)
  dsimp only [Pt.U, Pt.locs, Pt.cells, Pt.slots] at X139 l139 y139 z139 st139 hQ139
  replace l139 : (((((((((((((((([] ++ [⟨b10, ((0 : Int32)).toNatClampNeg⟩]) ++ [⟨b10, ((1 : Int32)).toNatClampNeg⟩]) ++ [⟨b10, ((2 : Int32)).toNatClampNeg⟩]) ++ [⟨b10, ((3 : Int32)).toNatClampNeg⟩]) ++ [⟨b10, ((4 : Int32)).toNatClampNeg⟩]) ++ [⟨b10, ((5 : Int32)).toNatClampNeg⟩]) ++ [⟨b35, ((0 : Int32)).toNatClampNeg⟩]) ++ [⟨b35, ((1 : Int32)).toNatClampNeg⟩]) ++ [⟨b35, ((2 : Int32)).toNatClampNeg⟩]) ++ [⟨b35, ((3 : Int32)).toNatClampNeg⟩]) ++ [⟨b35, ((4 : Int32)).toNatClampNeg⟩]) ++ [⟨b35, ((5 : Int32)).toNatClampNeg⟩]) ++ [⟨b79, ((0 : Int32)).toNatClampNeg⟩]) ++ [⟨b92, ((0 : Int32)).toNatClampNeg⟩]) ++ Lc116) ++ Lc139) = L139 := l139.symm
  subst l139 y139 z139
  obtain ⟨rfl, rfl, e139⟩ := hQ139
  simp only [List.append_nil, Nat.add_zero] at X139
  have G139 := gd X139 hx hby
  obtain ⟨x140, hx140⟩ : ∃ z : Int32, z = (rv4_1 x3 x4 x7 x37 x44 x51 x58 x65 x72) := ⟨_, rfl⟩
  obtain ⟨_, _, ⟨T141, L141, k141, n141⟩, -, X141, ⟨Lc141, hQ141, l141, y141, z141⟩, st141⟩ := Jvm.LawKit.callS X139 hx (y := (⟨"com/example/oceanus/oceanus/analysis/TakenUnmadePinLaw", "lacks", "(IIZ)Z"⟩ : MethodName)) hown (mvT hZ (wd hw 25 rfl)) (mvT hZ (wd hw 26 rfl)) (mvT hZ (wd hw 27 rfl)) (mvT hZ (wd hw 28 rfl)) (by decide) (backOf (W := 0) (rm5 l Z a0 hw [] ((([x11, x15, x19, x23, x27, x31] : List Int32).getD x4.toNatClampNeg (0 : Int32))) x7 x3 T116.heap n0 Z116k ) hZ (wd hw 28 rfl) (wd hw 27 rfl) (by decide) (by decide)) (g := (mkF m 369 #[iv p0, iv p1, iv p2, iv p3, iv (1 : Int32), iv x3, iv x4, iv x5, iv x6, iv x7, iv x8, iv x9, rv b10, rv b35, rv b79, rv b92, rv b111, iv x140, .unset, .unset, .unset, .unset] [(.int x3), (.int x7), (.int (([x11, x15, x19, x23, x27, x31] : List Int32).getD x4.toNatClampNeg (0 : Int32)))])) rfl (by rw [hml]; rfl) (argsL := [(.int (([x11, x15, x19, x23, x27, x31] : List Int32).getD x4.toNatClampNeg (0 : Int32))), (.int x7), (.int x3)]) (rest := []) (lenOf pd_3 rfl) rfl (by show 2 * 0 + _ ≤ _; exact Nat.le_of_eq rfl) (hb hby at_369) (fun _ _ => ⟨rfl, e139, (by decide : 5 + 0 ≤ _), (by decide : 16 + 0 ≤ _)⟩)
  dsimp only [Pt.U, Pt.locs, Pt.cells, Pt.slots] at X141 l141 y141 z141 st141 hQ141
  replace l141 : (((((((((((((((([] ++ [⟨b10, ((0 : Int32)).toNatClampNeg⟩]) ++ [⟨b10, ((1 : Int32)).toNatClampNeg⟩]) ++ [⟨b10, ((2 : Int32)).toNatClampNeg⟩]) ++ [⟨b10, ((3 : Int32)).toNatClampNeg⟩]) ++ [⟨b10, ((4 : Int32)).toNatClampNeg⟩]) ++ [⟨b10, ((5 : Int32)).toNatClampNeg⟩]) ++ [⟨b35, ((0 : Int32)).toNatClampNeg⟩]) ++ [⟨b35, ((1 : Int32)).toNatClampNeg⟩]) ++ [⟨b35, ((2 : Int32)).toNatClampNeg⟩]) ++ [⟨b35, ((3 : Int32)).toNatClampNeg⟩]) ++ [⟨b35, ((4 : Int32)).toNatClampNeg⟩]) ++ [⟨b35, ((5 : Int32)).toNatClampNeg⟩]) ++ [⟨b79, ((0 : Int32)).toNatClampNeg⟩]) ++ [⟨b92, ((0 : Int32)).toNatClampNeg⟩]) ++ Lc116) ++ Lc141) = L141 := l141.symm
  subst l141 y141 z141
  obtain ⟨rfl, rfl, e141⟩ := hQ141
  simp only [List.append_nil, Nat.add_zero] at X141
  have G141 := gd X141 hx hby
  obtain ⟨x142, hx142⟩ : ∃ z : Int32, z = (rv5 (([x11, x15, x19, x23, x27, x31] : List Int32).getD x4.toNatClampNeg (0 : Int32)) x7 x3) := ⟨_, rfl⟩
  obtain ⟨_, _, ⟨T143, L143, k143, n143⟩, -, X143, ⟨Lc143, hQ143, l143, y143, z143⟩, st143⟩ := Jvm.LawKit.callS X141 hx (y := (⟨"com/example/oceanus/oceanus/analysis/TakenUnmadePinLaw", "lacks", "(IIZ)Z"⟩ : MethodName)) hown (mvT hZ (wd hw 25 rfl)) (mvT hZ (wd hw 26 rfl)) (mvT hZ (wd hw 27 rfl)) (mvT hZ (wd hw 28 rfl)) (by decide) (backOf (W := 0) (rm5 l Z a0 hw [] ((([x11, x15, x19, x23, x27, x31] : List Int32).getD x5.toNatClampNeg (0 : Int32))) x8 x3 T116.heap n0 Z116k ) hZ (wd hw 28 rfl) (wd hw 27 rfl) (by decide) (by decide)) (g := (mkF m 383 #[iv p0, iv p1, iv p2, iv p3, iv (1 : Int32), iv x3, iv x4, iv x5, iv x6, iv x7, iv x8, iv x9, rv b10, rv b35, rv b79, rv b92, rv b111, iv x140, iv x142, .unset, .unset, .unset] [(.int x3), (.int x8), (.int (([x11, x15, x19, x23, x27, x31] : List Int32).getD x5.toNatClampNeg (0 : Int32)))])) rfl (by rw [hml]; rfl) (argsL := [(.int (([x11, x15, x19, x23, x27, x31] : List Int32).getD x5.toNatClampNeg (0 : Int32))), (.int x8), (.int x3)]) (rest := []) (lenOf pd_3 rfl) rfl (by show 2 * 0 + _ ≤ _; exact Nat.le_of_eq rfl) (hb hby at_383) (fun _ _ => ⟨rfl, e141, (by decide : 5 + 0 ≤ _), (by decide : 16 + 0 ≤ _)⟩)
  dsimp only [Pt.U, Pt.locs, Pt.cells, Pt.slots] at X143 l143 y143 z143 st143 hQ143
  replace l143 : (((((((((((((((([] ++ [⟨b10, ((0 : Int32)).toNatClampNeg⟩]) ++ [⟨b10, ((1 : Int32)).toNatClampNeg⟩]) ++ [⟨b10, ((2 : Int32)).toNatClampNeg⟩]) ++ [⟨b10, ((3 : Int32)).toNatClampNeg⟩]) ++ [⟨b10, ((4 : Int32)).toNatClampNeg⟩]) ++ [⟨b10, ((5 : Int32)).toNatClampNeg⟩]) ++ [⟨b35, ((0 : Int32)).toNatClampNeg⟩]) ++ [⟨b35, ((1 : Int32)).toNatClampNeg⟩]) ++ [⟨b35, ((2 : Int32)).toNatClampNeg⟩]) ++ [⟨b35, ((3 : Int32)).toNatClampNeg⟩]) ++ [⟨b35, ((4 : Int32)).toNatClampNeg⟩]) ++ [⟨b35, ((5 : Int32)).toNatClampNeg⟩]) ++ [⟨b79, ((0 : Int32)).toNatClampNeg⟩]) ++ [⟨b92, ((0 : Int32)).toNatClampNeg⟩]) ++ Lc116) ++ Lc143) = L143 := l143.symm
  subst l143 y143 z143
  obtain ⟨rfl, rfl, e143⟩ := hQ143
  simp only [List.append_nil, Nat.add_zero] at X143
  have G143 := gd X143 hx hby
  obtain ⟨x144, hx144⟩ : ∃ z : Int32, z = (rv5 (([x11, x15, x19, x23, x27, x31] : List Int32).getD x5.toNatClampNeg (0 : Int32)) x8 x3) := ⟨_, rfl⟩
  obtain ⟨_, _, ⟨T145, L145, k145, n145⟩, -, X145, ⟨Lc145, hQ145, l145, y145, z145⟩, st145⟩ := Jvm.LawKit.callS X143 hx (y := (⟨"com/example/oceanus/oceanus/analysis/TakenUnmadePinLaw", "lacks", "(IIZ)Z"⟩ : MethodName)) hown (mvT hZ (wd hw 25 rfl)) (mvT hZ (wd hw 26 rfl)) (mvT hZ (wd hw 27 rfl)) (mvT hZ (wd hw 28 rfl)) (by decide) (backOf (W := 0) (rm5 l Z a0 hw [] ((([x11, x15, x19, x23, x27, x31] : List Int32).getD x6.toNatClampNeg (0 : Int32))) x9 x3 T116.heap n0 Z116k ) hZ (wd hw 28 rfl) (wd hw 27 rfl) (by decide) (by decide)) (g := (mkF m 397 #[iv p0, iv p1, iv p2, iv p3, iv (1 : Int32), iv x3, iv x4, iv x5, iv x6, iv x7, iv x8, iv x9, rv b10, rv b35, rv b79, rv b92, rv b111, iv x140, iv x142, iv x144, .unset, .unset] [(.int x3), (.int x9), (.int (([x11, x15, x19, x23, x27, x31] : List Int32).getD x6.toNatClampNeg (0 : Int32)))])) rfl (by rw [hml]; rfl) (argsL := [(.int (([x11, x15, x19, x23, x27, x31] : List Int32).getD x6.toNatClampNeg (0 : Int32))), (.int x9), (.int x3)]) (rest := []) (lenOf pd_3 rfl) rfl (by show 2 * 0 + _ ≤ _; exact Nat.le_of_eq rfl) (hb hby at_397) (fun _ _ => ⟨rfl, e143, (by decide : 5 + 0 ≤ _), (by decide : 16 + 0 ≤ _)⟩)
  dsimp only [Pt.U, Pt.locs, Pt.cells, Pt.slots] at X145 l145 y145 z145 st145 hQ145
  replace l145 : (((((((((((((((([] ++ [⟨b10, ((0 : Int32)).toNatClampNeg⟩]) ++ [⟨b10, ((1 : Int32)).toNatClampNeg⟩]) ++ [⟨b10, ((2 : Int32)).toNatClampNeg⟩]) ++ [⟨b10, ((3 : Int32)).toNatClampNeg⟩]) ++ [⟨b10, ((4 : Int32)).toNatClampNeg⟩]) ++ [⟨b10, ((5 : Int32)).toNatClampNeg⟩]) ++ [⟨b35, ((0 : Int32)).toNatClampNeg⟩]) ++ [⟨b35, ((1 : Int32)).toNatClampNeg⟩]) ++ [⟨b35, ((2 : Int32)).toNatClampNeg⟩]) ++ [⟨b35, ((3 : Int32)).toNatClampNeg⟩]) ++ [⟨b35, ((4 : Int32)).toNatClampNeg⟩]) ++ [⟨b35, ((5 : Int32)).toNatClampNeg⟩]) ++ [⟨b79, ((0 : Int32)).toNatClampNeg⟩]) ++ [⟨b92, ((0 : Int32)).toNatClampNeg⟩]) ++ Lc116) ++ Lc145) = L145 := l145.symm
  subst l145 y145 z145
  obtain ⟨rfl, rfl, e145⟩ := hQ145
  simp only [List.append_nil, Nat.add_zero] at X145
  have G145 := gd X145 hx hby
  obtain ⟨x146, hx146⟩ : ∃ z : Int32, z = (rv5 (([x11, x15, x19, x23, x27, x31] : List Int32).getD x6.toNatClampNeg (0 : Int32)) x9 x3) := ⟨_, rfl⟩
  obtain ⟨x149, hx149⟩ : ∃ z : Int32, z = (if x142 = (0 : Int32) then (-1 : Int32) else (0 : Int32)) := ⟨_, rfl⟩
  obtain ⟨T148, X148, e148, st148⟩ : ∃ T' : State, Stand p l e room_1 s m #[(.int p0), (.int p1), (.int p2), (.int p3)] below meth c T' ((((((((((((((([] ++ [⟨b10, ((0 : Int32)).toNatClampNeg⟩]) ++ [⟨b10, ((1 : Int32)).toNatClampNeg⟩]) ++ [⟨b10, ((2 : Int32)).toNatClampNeg⟩]) ++ [⟨b10, ((3 : Int32)).toNatClampNeg⟩]) ++ [⟨b10, ((4 : Int32)).toNatClampNeg⟩]) ++ [⟨b10, ((5 : Int32)).toNatClampNeg⟩]) ++ [⟨b35, ((0 : Int32)).toNatClampNeg⟩]) ++ [⟨b35, ((1 : Int32)).toNatClampNeg⟩]) ++ [⟨b35, ((2 : Int32)).toNatClampNeg⟩]) ++ [⟨b35, ((3 : Int32)).toNatClampNeg⟩]) ++ [⟨b35, ((4 : Int32)).toNatClampNeg⟩]) ++ [⟨b35, ((5 : Int32)).toNatClampNeg⟩]) ++ [⟨b79, ((0 : Int32)).toNatClampNeg⟩]) ++ [⟨b92, ((0 : Int32)).toNatClampNeg⟩]) ++ Lc116) 5 16 ∧ T'.heap = T116.heap ∧ ∀ target, Steps p.tables e below (T'.setTop (mkF m 447 #[iv p0, iv p1, iv p2, iv p3, iv (1 : Int32), iv x3, iv x4, iv x5, iv x6, iv x7, iv x8, iv x9, rv b10, rv b35, rv b79, rv b92, rv b111, iv x140, iv x142, iv x144, iv x146, .unset] [(.int x149)])) target → Steps p.tables e below (T145.setTop (mkF m 409 #[iv p0, iv p1, iv p2, iv p3, iv (1 : Int32), iv x3, iv x4, iv x5, iv x6, iv x7, iv x8, iv x9, rv b10, rv b35, rv b79, rv b92, rv b111, iv x140, iv x142, iv x144, iv x146, .unset] [(.int x142)])) target := by
    by_cases hc409_147 : x142 = (0 : Int32)
    · refine ⟨T145, X145, e145, fun target kt => ?_⟩
      refine mifYes 416 G145 at_409 ((if0 _ _).trans (teq hc409_147).1) (by decide) rfl ?_
      refine miload 418 G145 at_416 rfl rfl ?_
      refine miconst 419 G145 at_418 (v := (1 : Int32)) rfl rfl ?_
      refine micmpYes 431 G145 at_419 (flt (by decide : ¬ ((1 : Int32) < (1 : Int32)))).2.2.2 (by decide) rfl ?_
      refine miload 433 G145 at_431 rfl rfl ?_
      refine miconst 434 G145 at_433 (v := (2 : Int32)) rfl rfl ?_
      refine micmpYes 446 G145 at_434 (flt (by decide : ¬ ((2 : Int32) < (1 : Int32)))).2.2.2 (by decide) rfl ?_
      refine miconst 447 G145 at_446 (v := (-1 : Int32)) rfl rfl ?_
      exact castTop (g' := (mkF m 447 #[iv p0, iv p1, iv p2, iv p3, iv (1 : Int32), iv x3, iv x4, iv x5, iv x6, iv x7, iv x8, iv x9, rv b10, rv b35, rv b79, rv b92, rv b111, iv x140, iv x142, iv x144, iv x146, .unset] [(.int x149)])) (by simp only [hx149, if_pos hc409_147]) kt
    · refine ⟨T145, X145, e145, fun target kt => ?_⟩
      refine mifNo 412 G145 at_409 ((if0 _ _).trans (feq hc409_147).1) rfl ?_
      refine miconst 413 G145 at_412 (v := (0 : Int32)) rfl rfl ?_
      refine mgoto 447 G145 at_413 (by decide) rfl ?_
      exact castTop (g' := (mkF m 447 #[iv p0, iv p1, iv p2, iv p3, iv (1 : Int32), iv x3, iv x4, iv x5, iv x6, iv x7, iv x8, iv x9, rv b10, rv b35, rv b79, rv b92, rv b111, iv x140, iv x142, iv x144, iv x146, .unset] [(.int x149)])) (by simp only [hx149, if_neg hc409_147]) kt
  have G148 := gd X148 hx hby
  obtain ⟨x152, hx152⟩ : ∃ z : Int32, z = (if x140 = x149 then (1 : Int32) else (0 : Int32)) := ⟨_, rfl⟩
  obtain ⟨T151, X151, e151, st151⟩ : ∃ T' : State, Stand p l e room_1 s m #[(.int p0), (.int p1), (.int p2), (.int p3)] below meth c T' ((((((((((((((([] ++ [⟨b10, ((0 : Int32)).toNatClampNeg⟩]) ++ [⟨b10, ((1 : Int32)).toNatClampNeg⟩]) ++ [⟨b10, ((2 : Int32)).toNatClampNeg⟩]) ++ [⟨b10, ((3 : Int32)).toNatClampNeg⟩]) ++ [⟨b10, ((4 : Int32)).toNatClampNeg⟩]) ++ [⟨b10, ((5 : Int32)).toNatClampNeg⟩]) ++ [⟨b35, ((0 : Int32)).toNatClampNeg⟩]) ++ [⟨b35, ((1 : Int32)).toNatClampNeg⟩]) ++ [⟨b35, ((2 : Int32)).toNatClampNeg⟩]) ++ [⟨b35, ((3 : Int32)).toNatClampNeg⟩]) ++ [⟨b35, ((4 : Int32)).toNatClampNeg⟩]) ++ [⟨b35, ((5 : Int32)).toNatClampNeg⟩]) ++ [⟨b79, ((0 : Int32)).toNatClampNeg⟩]) ++ [⟨b92, ((0 : Int32)).toNatClampNeg⟩]) ++ Lc116) 5 16 ∧ T'.heap = T116.heap ∧ ∀ target, Steps p.tables e below (T'.setTop (mkF m 461 #[iv p0, iv p1, iv p2, iv p3, iv (1 : Int32), iv x3, iv x4, iv x5, iv x6, iv x7, iv x8, iv x9, rv b10, rv b35, rv b79, rv b92, rv b111, iv x140, iv x142, iv x144, iv x146, iv x149] [(.int x152)])) target → Steps p.tables e below (T148.setTop (mkF m 453 #[iv p0, iv p1, iv p2, iv p3, iv (1 : Int32), iv x3, iv x4, iv x5, iv x6, iv x7, iv x8, iv x9, rv b10, rv b35, rv b79, rv b92, rv b111, iv x140, iv x142, iv x144, iv x146, iv x149] [(.int x149), (.int x140)])) target := by
    by_cases hc453_150 : x140 = x149
    · refine ⟨T148, X148, e148, fun target kt => ?_⟩
      refine micmpNo 456 G148 at_453 (teq hc453_150).2 rfl ?_
      refine miconst 457 G148 at_456 (v := (1 : Int32)) rfl rfl ?_
      refine mgoto 461 G148 at_457 (by decide) rfl ?_
      exact castTop (g' := (mkF m 461 #[iv p0, iv p1, iv p2, iv p3, iv (1 : Int32), iv x3, iv x4, iv x5, iv x6, iv x7, iv x8, iv x9, rv b10, rv b35, rv b79, rv b92, rv b111, iv x140, iv x142, iv x144, iv x146, iv x149] [(.int x152)])) (by simp only [hx152, if_pos hc453_150]) kt
    · refine ⟨T148, X148, e148, fun target kt => ?_⟩
      refine micmpYes 460 G148 at_453 (feq hc453_150).2 (by decide) rfl ?_
      refine miconst 461 G148 at_460 (v := (0 : Int32)) rfl rfl ?_
      exact castTop (g' := (mkF m 461 #[iv p0, iv p1, iv p2, iv p3, iv (1 : Int32), iv x3, iv x4, iv x5, iv x6, iv x7, iv x8, iv x9, rv b10, rv b35, rv b79, rv b92, rv b111, iv x140, iv x142, iv x144, iv x146, iv x149] [(.int x152)])) (by simp only [hx152, if_neg hc453_150]) kt
  have G151 := gd X151 hx hby
  have hend : x152 = 1 := (own_rm0_1_end p0 p1 p2 p3 x3 hx3 x4 hx4 x5 hx5 x6 hx6 x7 hx7 x8 hx8 x9 hx9 x11 hx11 x15 hx15 x19 hx19 x23 hx23 x27 hx27 x31 hx31 x37 hx37 x44 hx44 x51 hx51 x58 hx58 x65 hx65 x72 hx72 x140 hx140 x142 hx142 x144 hx144 x146 hx146 x149 hx149 x152 hx152 hpin3)
  obtain ⟨fs, hr, hrun, hended, hW, hsame⟩ := X151.leave (v := some (.int (1 : Int32))) (fun h => by rw [Bd.returns] at h; cases h)
  refine ⟨_, _, pre0 _ ?_, hrun, hended, _, _, rfl, ?_, ⟨_, rfl⟩, hW, hsame.mono (by decide) (by decide)⟩
  · show Steps p.tables e below (s₁.setTop (mkF m 0 #[iv p0, iv p1, iv p2, iv p3, .unset, .unset, .unset, .unset, .unset, .unset, .unset, .unset, .unset, .unset, .unset, .unset, .unset, .unset, .unset, .unset, .unset, .unset] [])) _
    refine miloadN 1 G0 at_0 rfl rfl ?_
    refine miconst 2 G0 at_1 (v := (3 : Int32)) rfl rfl ?_
    refine miand 3 G0 at_2 rfl rfl ?_
    refine castTop (g' := (mkF m 3 #[iv p0, iv p1, iv p2, iv p3, .unset, .unset, .unset, .unset, .unset, .unset, .unset, .unset, .unset, .unset, .unset, .unset, .unset, .unset, .unset, .unset, .unset, .unset] [(.int (1 : Int32))])) (by rw [hpin3]) ?_
    refine mistore 5 G0 at_3 #[iv p0, iv p1, iv p2, iv p3, iv (1 : Int32), .unset, .unset, .unset, .unset, .unset, .unset, .unset, .unset, .unset, .unset, .unset, .unset, .unset, .unset, .unset, .unset, .unset] rfl rfl ?_
    refine miloadN 6 G0 at_5 rfl rfl ?_
    refine miconst 7 G0 at_6 (v := (2 : Int32)) rfl rfl ?_
    refine miushr 8 G0 at_7 rfl rfl ?_
    refine miconst 9 G0 at_8 (v := (1 : Int32)) rfl rfl ?_
    refine miand 10 G0 at_9 rfl rfl ?_
    refine st2 _ ?_
    refine mistore 20 G2 at_18 #[iv p0, iv p1, iv p2, iv p3, iv (1 : Int32), iv x3, .unset, .unset, .unset, .unset, .unset, .unset, .unset, .unset, .unset, .unset, .unset, .unset, .unset, .unset, .unset, .unset] rfl rfl ?_
    refine miloadN 21 G2 at_20 rfl rfl ?_
    refine miconst 22 G2 at_21 (v := (1 : Int32)) rfl rfl ?_
    refine miand 23 G2 at_22 rfl rfl ?_
    refine castTop (g' := (mkF m 23 #[iv p0, iv p1, iv p2, iv p3, iv (1 : Int32), iv x3, .unset, .unset, .unset, .unset, .unset, .unset, .unset, .unset, .unset, .unset, .unset, .unset, .unset, .unset, .unset, .unset] [(.int x4)])) (by rw [hx4]) ?_
    refine mistore 25 G2 at_23 #[iv p0, iv p1, iv p2, iv p3, iv (1 : Int32), iv x3, iv x4, .unset, .unset, .unset, .unset, .unset, .unset, .unset, .unset, .unset, .unset, .unset, .unset, .unset, .unset, .unset] rfl rfl ?_
    refine miload 27 G2 at_25 rfl rfl ?_
    refine miconst 28 G2 at_27 (v := (1 : Int32)) rfl rfl ?_
    refine miadd 29 G2 at_28 rfl rfl ?_
    refine miloadN 30 G2 at_29 rfl rfl ?_
    refine miconst 31 G2 at_30 (v := (1 : Int32)) rfl rfl ?_
    refine miushr 32 G2 at_31 rfl rfl ?_
    refine miconst 33 G2 at_32 (v := (1 : Int32)) rfl rfl ?_
    refine miand 34 G2 at_33 rfl rfl ?_
    refine miadd 35 G2 at_34 rfl rfl ?_
    refine castTop (g' := (mkF m 35 #[iv p0, iv p1, iv p2, iv p3, iv (1 : Int32), iv x3, iv x4, .unset, .unset, .unset, .unset, .unset, .unset, .unset, .unset, .unset, .unset, .unset, .unset, .unset, .unset, .unset] [(.int x5)])) (by rw [hx5]) ?_
    refine mistore 37 G2 at_35 #[iv p0, iv p1, iv p2, iv p3, iv (1 : Int32), iv x3, iv x4, iv x5, .unset, .unset, .unset, .unset, .unset, .unset, .unset, .unset, .unset, .unset, .unset, .unset, .unset, .unset] rfl rfl ?_
    refine miload 39 G2 at_37 rfl rfl ?_
    refine miconst 40 G2 at_39 (v := (1 : Int32)) rfl rfl ?_
    refine miadd 41 G2 at_40 rfl rfl ?_
    refine miloadN 42 G2 at_41 rfl rfl ?_
    refine miconst 43 G2 at_42 (v := (2 : Int32)) rfl rfl ?_
    refine miushr 44 G2 at_43 rfl rfl ?_
    refine miconst 45 G2 at_44 (v := (1 : Int32)) rfl rfl ?_
    refine miand 46 G2 at_45 rfl rfl ?_
    refine miadd 47 G2 at_46 rfl rfl ?_
    refine castTop (g' := (mkF m 47 #[iv p0, iv p1, iv p2, iv p3, iv (1 : Int32), iv x3, iv x4, iv x5, .unset, .unset, .unset, .unset, .unset, .unset, .unset, .unset, .unset, .unset, .unset, .unset, .unset, .unset] [(.int x6)])) (by rw [hx6]) ?_
    refine mistore 49 G2 at_47 #[iv p0, iv p1, iv p2, iv p3, iv (1 : Int32), iv x3, iv x4, iv x5, iv x6, .unset, .unset, .unset, .unset, .unset, .unset, .unset, .unset, .unset, .unset, .unset, .unset, .unset] rfl rfl ?_
    refine miconst 50 G2 at_49 (v := (1 : Int32)) rfl rfl ?_
    refine miloadN 51 G2 at_50 rfl rfl ?_
    refine miconst 52 G2 at_51 (v := (3 : Int32)) rfl rfl ?_
    refine miand 53 G2 at_52 rfl rfl ?_
    refine miadd 54 G2 at_53 rfl rfl ?_
    refine castTop (g' := (mkF m 54 #[iv p0, iv p1, iv p2, iv p3, iv (1 : Int32), iv x3, iv x4, iv x5, iv x6, .unset, .unset, .unset, .unset, .unset, .unset, .unset, .unset, .unset, .unset, .unset, .unset, .unset] [(.int x7)])) (by rw [hx7]) ?_
    refine mistore 56 G2 at_54 #[iv p0, iv p1, iv p2, iv p3, iv (1 : Int32), iv x3, iv x4, iv x5, iv x6, iv x7, .unset, .unset, .unset, .unset, .unset, .unset, .unset, .unset, .unset, .unset, .unset, .unset] rfl rfl ?_
    refine miconst 57 G2 at_56 (v := (1 : Int32)) rfl rfl ?_
    refine miloadN 58 G2 at_57 rfl rfl ?_
    refine miconst 59 G2 at_58 (v := (2 : Int32)) rfl rfl ?_
    refine miushr 60 G2 at_59 rfl rfl ?_
    refine miconst 61 G2 at_60 (v := (3 : Int32)) rfl rfl ?_
    refine miand 62 G2 at_61 rfl rfl ?_
    refine miadd 63 G2 at_62 rfl rfl ?_
    refine castTop (g' := (mkF m 63 #[iv p0, iv p1, iv p2, iv p3, iv (1 : Int32), iv x3, iv x4, iv x5, iv x6, iv x7, .unset, .unset, .unset, .unset, .unset, .unset, .unset, .unset, .unset, .unset, .unset, .unset] [(.int x8)])) (by rw [hx8]) ?_
    refine mistore 65 G2 at_63 #[iv p0, iv p1, iv p2, iv p3, iv (1 : Int32), iv x3, iv x4, iv x5, iv x6, iv x7, iv x8, .unset, .unset, .unset, .unset, .unset, .unset, .unset, .unset, .unset, .unset, .unset] rfl rfl ?_
    refine miconst 66 G2 at_65 (v := (1 : Int32)) rfl rfl ?_
    refine miloadN 67 G2 at_66 rfl rfl ?_
    refine miconst 68 G2 at_67 (v := (4 : Int32)) rfl rfl ?_
    refine miushr 69 G2 at_68 rfl rfl ?_
    refine miconst 70 G2 at_69 (v := (3 : Int32)) rfl rfl ?_
    refine miand 71 G2 at_70 rfl rfl ?_
    refine miadd 72 G2 at_71 rfl rfl ?_
    refine castTop (g' := (mkF m 72 #[iv p0, iv p1, iv p2, iv p3, iv (1 : Int32), iv x3, iv x4, iv x5, iv x6, iv x7, iv x8, .unset, .unset, .unset, .unset, .unset, .unset, .unset, .unset, .unset, .unset, .unset] [(.int x9)])) (by rw [hx9]) ?_
    refine mistore 74 G2 at_72 #[iv p0, iv p1, iv p2, iv p3, iv (1 : Int32), iv x3, iv x4, iv x5, iv x6, iv x7, iv x8, iv x9, .unset, .unset, .unset, .unset, .unset, .unset, .unset, .unset, .unset, .unset] rfl rfl ?_
    refine mbipush 76 G2 at_74 (v := (6 : Int32)) rfl rfl ?_
    refine st10 _ ?_
    show Steps p.tables e below (T10.setTop (mkF m 78 #[iv p0, iv p1, iv p2, iv p3, iv (1 : Int32), iv x3, iv x4, iv x5, iv x6, iv x7, iv x8, iv x9, .unset, .unset, .unset, .unset, .unset, .unset, .unset, .unset, .unset, .unset] [(.ref b10)])) _
    refine mastore 80 G10 at_78 rfl #[iv p0, iv p1, iv p2, iv p3, iv (1 : Int32), iv x3, iv x4, iv x5, iv x6, iv x7, iv x8, iv x9, rv b10, .unset, .unset, .unset, .unset, .unset, .unset, .unset, .unset, .unset] rfl rfl ?_
    refine maload 82 G10 at_80 rfl rfl rfl ?_
    refine miconst 83 G10 at_82 (v := (0 : Int32)) rfl rfl ?_
    refine miloadN 84 G10 at_83 rfl rfl ?_
    refine mbipush 86 G10 at_84 (v := (7 : Int32)) rfl rfl ?_
    refine miand 87 G10 at_86 rfl rfl ?_
    refine castTop (g' := (mkF m 87 #[iv p0, iv p1, iv p2, iv p3, iv (1 : Int32), iv x3, iv x4, iv x5, iv x6, iv x7, iv x8, iv x9, rv b10, .unset, .unset, .unset, .unset, .unset, .unset, .unset, .unset, .unset] [(.int x11), (.int (0 : Int32)), (.ref b10)])) (by rw [hx11]) ?_
    refine st12 _ ?_
    refine maload 90 G12 at_88 rfl rfl rfl ?_
    refine miconst 91 G12 at_90 (v := (1 : Int32)) rfl rfl ?_
    refine miloadN 92 G12 at_91 rfl rfl ?_
    refine miconst 93 G12 at_92 (v := (3 : Int32)) rfl rfl ?_
    refine miushr 94 G12 at_93 rfl rfl ?_
    refine mbipush 96 G12 at_94 (v := (7 : Int32)) rfl rfl ?_
    refine miand 97 G12 at_96 rfl rfl ?_
    refine castTop (g' := (mkF m 97 #[iv p0, iv p1, iv p2, iv p3, iv (1 : Int32), iv x3, iv x4, iv x5, iv x6, iv x7, iv x8, iv x9, rv b10, .unset, .unset, .unset, .unset, .unset, .unset, .unset, .unset, .unset] [(.int x15), (.int (1 : Int32)), (.ref b10)])) (by rw [hx15]) ?_
    refine st16 _ ?_
    refine maload 100 G16 at_98 rfl rfl rfl ?_
    refine miconst 101 G16 at_100 (v := (2 : Int32)) rfl rfl ?_
    refine miloadN 102 G16 at_101 rfl rfl ?_
    refine mbipush 104 G16 at_102 (v := (6 : Int32)) rfl rfl ?_
    refine miushr 105 G16 at_104 rfl rfl ?_
    refine mbipush 107 G16 at_105 (v := (7 : Int32)) rfl rfl ?_
    refine miand 108 G16 at_107 rfl rfl ?_
    refine castTop (g' := (mkF m 108 #[iv p0, iv p1, iv p2, iv p3, iv (1 : Int32), iv x3, iv x4, iv x5, iv x6, iv x7, iv x8, iv x9, rv b10, .unset, .unset, .unset, .unset, .unset, .unset, .unset, .unset, .unset] [(.int x19), (.int (2 : Int32)), (.ref b10)])) (by rw [hx19]) ?_
    refine st20 _ ?_
    refine maload 111 G20 at_109 rfl rfl rfl ?_
    refine miconst 112 G20 at_111 (v := (3 : Int32)) rfl rfl ?_
    refine miloadN 113 G20 at_112 rfl rfl ?_
    refine mbipush 115 G20 at_113 (v := (9 : Int32)) rfl rfl ?_
    refine miushr 116 G20 at_115 rfl rfl ?_
    refine mbipush 118 G20 at_116 (v := (7 : Int32)) rfl rfl ?_
    refine miand 119 G20 at_118 rfl rfl ?_
    refine castTop (g' := (mkF m 119 #[iv p0, iv p1, iv p2, iv p3, iv (1 : Int32), iv x3, iv x4, iv x5, iv x6, iv x7, iv x8, iv x9, rv b10, .unset, .unset, .unset, .unset, .unset, .unset, .unset, .unset, .unset] [(.int x23), (.int (3 : Int32)), (.ref b10)])) (by rw [hx23]) ?_
    refine st24 _ ?_
    refine maload 122 G24 at_120 rfl rfl rfl ?_
    refine miconst 123 G24 at_122 (v := (4 : Int32)) rfl rfl ?_
    refine miloadN 124 G24 at_123 rfl rfl ?_
    refine mbipush 126 G24 at_124 (v := (12 : Int32)) rfl rfl ?_
    refine miushr 127 G24 at_126 rfl rfl ?_
    refine mbipush 129 G24 at_127 (v := (7 : Int32)) rfl rfl ?_
    refine miand 130 G24 at_129 rfl rfl ?_
    refine castTop (g' := (mkF m 130 #[iv p0, iv p1, iv p2, iv p3, iv (1 : Int32), iv x3, iv x4, iv x5, iv x6, iv x7, iv x8, iv x9, rv b10, .unset, .unset, .unset, .unset, .unset, .unset, .unset, .unset, .unset] [(.int x27), (.int (4 : Int32)), (.ref b10)])) (by rw [hx27]) ?_
    refine st28 _ ?_
    refine maload 133 G28 at_131 rfl rfl rfl ?_
    refine miconst 134 G28 at_133 (v := (5 : Int32)) rfl rfl ?_
    refine miloadN 135 G28 at_134 rfl rfl ?_
    refine mbipush 137 G28 at_135 (v := (15 : Int32)) rfl rfl ?_
    refine miushr 138 G28 at_137 rfl rfl ?_
    refine mbipush 140 G28 at_138 (v := (7 : Int32)) rfl rfl ?_
    refine miand 141 G28 at_140 rfl rfl ?_
    refine castTop (g' := (mkF m 141 #[iv p0, iv p1, iv p2, iv p3, iv (1 : Int32), iv x3, iv x4, iv x5, iv x6, iv x7, iv x8, iv x9, rv b10, .unset, .unset, .unset, .unset, .unset, .unset, .unset, .unset, .unset] [(.int x31), (.int (5 : Int32)), (.ref b10)])) (by rw [hx31]) ?_
    refine st32 _ ?_
    refine mbipush 144 G32 at_142 (v := (6 : Int32)) rfl rfl ?_
    refine st35 _ ?_
    show Steps p.tables e below (T35.setTop (mkF m 146 #[iv p0, iv p1, iv p2, iv p3, iv (1 : Int32), iv x3, iv x4, iv x5, iv x6, iv x7, iv x8, iv x9, rv b10, .unset, .unset, .unset, .unset, .unset, .unset, .unset, .unset, .unset] [(.ref b35)])) _
    refine mdup 147 G35 at_146 rfl rfl ?_
    refine miconst 148 G35 at_147 (v := (0 : Int32)) rfl rfl ?_
    refine maload 150 G35 at_148 rfl rfl rfl ?_
    refine miconst 151 G35 at_150 (v := (0 : Int32)) rfl rfl ?_
    refine miaload 152 X35 hx hby hZ e35 f36 (v := x11) at_151 ⟨by decide, by decide⟩ rfl rfl ?_
    refine mi2d 153 G35 at_152 rfl ?_
    refine castTop (g' := (mkF m 153 #[iv p0, iv p1, iv p2, iv p3, iv (1 : Int32), iv x3, iv x4, iv x5, iv x6, iv x7, iv x8, iv x9, rv b10, .unset, .unset, .unset, .unset, .unset, .unset, .unset, .unset, .unset] [(.double x37), (.int (0 : Int32)), (.ref b35), (.ref b35)])) (by rw [hx37]) ?_
    refine st38 _ ?_
    refine mdup 155 G38 at_154 rfl rfl ?_
    refine miconst 156 G38 at_155 (v := (1 : Int32)) rfl rfl ?_
    refine maload 158 G38 at_156 rfl rfl rfl ?_
    refine miconst 159 G38 at_158 (v := (1 : Int32)) rfl rfl ?_
    refine miaload 160 X38 hx hby hZ e38 f40 (v := x15) at_159 ⟨by decide, by decide⟩ rfl rfl ?_
    refine mi2d 161 G38 at_160 rfl ?_
    refine castTop (g' := (mkF m 161 #[iv p0, iv p1, iv p2, iv p3, iv (1 : Int32), iv x3, iv x4, iv x5, iv x6, iv x7, iv x8, iv x9, rv b10, .unset, .unset, .unset, .unset, .unset, .unset, .unset, .unset, .unset] [(.double x44), (.int (1 : Int32)), (.ref b35), (.ref b35)])) (by rw [hx44]) ?_
    refine st45 _ ?_
    refine mdup 163 G45 at_162 rfl rfl ?_
    refine miconst 164 G45 at_163 (v := (2 : Int32)) rfl rfl ?_
    refine maload 166 G45 at_164 rfl rfl rfl ?_
    refine miconst 167 G45 at_166 (v := (2 : Int32)) rfl rfl ?_
    refine miaload 168 X45 hx hby hZ e45 f47 (v := x19) at_167 ⟨by decide, by decide⟩ rfl rfl ?_
    refine mi2d 169 G45 at_168 rfl ?_
    refine castTop (g' := (mkF m 169 #[iv p0, iv p1, iv p2, iv p3, iv (1 : Int32), iv x3, iv x4, iv x5, iv x6, iv x7, iv x8, iv x9, rv b10, .unset, .unset, .unset, .unset, .unset, .unset, .unset, .unset, .unset] [(.double x51), (.int (2 : Int32)), (.ref b35), (.ref b35)])) (by rw [hx51]) ?_
    refine st52 _ ?_
    refine mdup 171 G52 at_170 rfl rfl ?_
    refine miconst 172 G52 at_171 (v := (3 : Int32)) rfl rfl ?_
    refine maload 174 G52 at_172 rfl rfl rfl ?_
    refine miconst 175 G52 at_174 (v := (3 : Int32)) rfl rfl ?_
    refine miaload 176 X52 hx hby hZ e52 f54 (v := x23) at_175 ⟨by decide, by decide⟩ rfl rfl ?_
    refine mi2d 177 G52 at_176 rfl ?_
    refine castTop (g' := (mkF m 177 #[iv p0, iv p1, iv p2, iv p3, iv (1 : Int32), iv x3, iv x4, iv x5, iv x6, iv x7, iv x8, iv x9, rv b10, .unset, .unset, .unset, .unset, .unset, .unset, .unset, .unset, .unset] [(.double x58), (.int (3 : Int32)), (.ref b35), (.ref b35)])) (by rw [hx58]) ?_
    refine st59 _ ?_
    refine mdup 179 G59 at_178 rfl rfl ?_
    refine miconst 180 G59 at_179 (v := (4 : Int32)) rfl rfl ?_
    refine maload 182 G59 at_180 rfl rfl rfl ?_
    refine miconst 183 G59 at_182 (v := (4 : Int32)) rfl rfl ?_
    refine miaload 184 X59 hx hby hZ e59 f61 (v := x27) at_183 ⟨by decide, by decide⟩ rfl rfl ?_
    refine mi2d 185 G59 at_184 rfl ?_
    refine castTop (g' := (mkF m 185 #[iv p0, iv p1, iv p2, iv p3, iv (1 : Int32), iv x3, iv x4, iv x5, iv x6, iv x7, iv x8, iv x9, rv b10, .unset, .unset, .unset, .unset, .unset, .unset, .unset, .unset, .unset] [(.double x65), (.int (4 : Int32)), (.ref b35), (.ref b35)])) (by rw [hx65]) ?_
    refine st66 _ ?_
    refine mdup 187 G66 at_186 rfl rfl ?_
    refine miconst 188 G66 at_187 (v := (5 : Int32)) rfl rfl ?_
    refine maload 190 G66 at_188 rfl rfl rfl ?_
    refine miconst 191 G66 at_190 (v := (5 : Int32)) rfl rfl ?_
    refine miaload 192 X66 hx hby hZ e66 f68 (v := x31) at_191 ⟨by decide, by decide⟩ rfl rfl ?_
    refine mi2d 193 G66 at_192 rfl ?_
    refine castTop (g' := (mkF m 193 #[iv p0, iv p1, iv p2, iv p3, iv (1 : Int32), iv x3, iv x4, iv x5, iv x6, iv x7, iv x8, iv x9, rv b10, .unset, .unset, .unset, .unset, .unset, .unset, .unset, .unset, .unset] [(.double x72), (.int (5 : Int32)), (.ref b35), (.ref b35)])) (by rw [hx72]) ?_
    refine st73 _ ?_
    refine mastore 196 G73 at_194 rfl #[iv p0, iv p1, iv p2, iv p3, iv (1 : Int32), iv x3, iv x4, iv x5, iv x6, iv x7, iv x8, iv x9, rv b10, rv b35, .unset, .unset, .unset, .unset, .unset, .unset, .unset, .unset] rfl rfl ?_
    refine miload 198 G73 at_196 rfl rfl ?_
    refine mifYes 207 G73 at_198 ((if0 _ _).trans (feq (by decide : ¬ ((1 : Int32) = (0 : Int32)))).2) (by decide) rfl ?_
    refine miload 209 G73 at_207 rfl rfl ?_
    refine miconst 210 G73 at_209 (v := (1 : Int32)) rfl rfl ?_
    refine micmpNo 213 G73 at_210 (teq (by decide : (1 : Int32) = (1 : Int32))).2 rfl ?_
    refine miconst 214 G73 at_213 (v := (1 : Int32)) rfl rfl ?_
    refine st79 _ ?_
    show Steps p.tables e below (T79.setTop (mkF m 216 #[iv p0, iv p1, iv p2, iv p3, iv (1 : Int32), iv x3, iv x4, iv x5, iv x6, iv x7, iv x8, iv x9, rv b10, rv b35, .unset, .unset, .unset, .unset, .unset, .unset, .unset, .unset] [(.ref b79)])) _
    refine mdup 217 G79 at_216 rfl rfl ?_
    refine miconst 218 G79 at_217 (v := (0 : Int32)) rfl rfl ?_
    refine miload 220 G79 at_218 rfl rfl ?_
    refine st82 _ ?_
    refine mgoto 264 G82 at_221 (by decide) rfl ?_
    refine mastore 266 G82 at_264 rfl #[iv p0, iv p1, iv p2, iv p3, iv (1 : Int32), iv x3, iv x4, iv x5, iv x6, iv x7, iv x8, iv x9, rv b10, rv b35, rv b79, .unset, .unset, .unset, .unset, .unset, .unset, .unset] rfl rfl ?_
    refine miload 268 G82 at_266 rfl rfl ?_
    refine mifYes 277 G82 at_268 ((if0 _ _).trans (feq (by decide : ¬ ((1 : Int32) = (0 : Int32)))).2) (by decide) rfl ?_
    refine miload 279 G82 at_277 rfl rfl ?_
    refine miconst 280 G82 at_279 (v := (1 : Int32)) rfl rfl ?_
    refine micmpNo 283 G82 at_280 (teq (by decide : (1 : Int32) = (1 : Int32))).2 rfl ?_
    refine miconst 284 G82 at_283 (v := (1 : Int32)) rfl rfl ?_
    refine st92 _ ?_
    show Steps p.tables e below (T92.setTop (mkF m 286 #[iv p0, iv p1, iv p2, iv p3, iv (1 : Int32), iv x3, iv x4, iv x5, iv x6, iv x7, iv x8, iv x9, rv b10, rv b35, rv b79, .unset, .unset, .unset, .unset, .unset, .unset, .unset] [(.ref b92)])) _
    refine mdup 287 G92 at_286 rfl rfl ?_
    refine miconst 288 G92 at_287 (v := (0 : Int32)) rfl rfl ?_
    refine miload 290 G92 at_288 rfl rfl ?_
    refine st96 _ ?_
    refine mgoto 334 G96 at_291 (by decide) rfl ?_
    refine mastore 336 G96 at_334 rfl #[iv p0, iv p1, iv p2, iv p3, iv (1 : Int32), iv x3, iv x4, iv x5, iv x6, iv x7, iv x8, iv x9, rv b10, rv b35, rv b79, rv b92, .unset, .unset, .unset, .unset, .unset, .unset] rfl rfl ?_
    refine st111 _ ?_
    show Steps p.tables e below (T111.setTop (mkF m 339 #[iv p0, iv p1, iv p2, iv p3, iv (1 : Int32), iv x3, iv x4, iv x5, iv x6, iv x7, iv x8, iv x9, rv b10, rv b35, rv b79, rv b92, .unset, .unset, .unset, .unset, .unset, .unset] [(.ref b111)])) _
    refine mdup 340 G111 at_339 rfl rfl ?_
    refine maload 342 G111 at_340 rfl rfl rfl ?_
    refine maload 344 G111 at_342 rfl rfl rfl ?_
    refine st116.trans ?_
    show Steps p.tables e below (T116.setTop (mkF m 347 #[iv p0, iv p1, iv p2, iv p3, iv (1 : Int32), iv x3, iv x4, iv x5, iv x6, iv x7, iv x8, iv x9, rv b10, rv b35, rv b79, rv b92, .unset, .unset, .unset, .unset, .unset, .unset] [(.ref b111)])) _
    refine mastore 349 G116 at_347 rfl #[iv p0, iv p1, iv p2, iv p3, iv (1 : Int32), iv x3, iv x4, iv x5, iv x6, iv x7, iv x8, iv x9, rv b10, rv b35, rv b79, rv b92, rv b111, .unset, .unset, .unset, .unset, .unset] rfl rfl ?_
    refine maload 351 G116 at_349 rfl rfl rfl ?_
    refine maload 353 G116 at_351 rfl rfl rfl ?_
    refine miload 355 G116 at_353 rfl rfl ?_
    refine st139.trans ?_
    show Steps p.tables e below (T139.setTop (mkF m 358 #[iv p0, iv p1, iv p2, iv p3, iv (1 : Int32), iv x3, iv x4, iv x5, iv x6, iv x7, iv x8, iv x9, rv b10, rv b35, rv b79, rv b92, rv b111, .unset, .unset, .unset, .unset, .unset] [(.int (rv4_1 x3 x4 x7 x37 x44 x51 x58 x65 x72))])) _
    refine castTop (g' := (mkF m 358 #[iv p0, iv p1, iv p2, iv p3, iv (1 : Int32), iv x3, iv x4, iv x5, iv x6, iv x7, iv x8, iv x9, rv b10, rv b35, rv b79, rv b92, rv b111, .unset, .unset, .unset, .unset, .unset] [(.int x140)])) (by rw [hx140]) ?_
    refine mistore 360 G139 at_358 #[iv p0, iv p1, iv p2, iv p3, iv (1 : Int32), iv x3, iv x4, iv x5, iv x6, iv x7, iv x8, iv x9, rv b10, rv b35, rv b79, rv b92, rv b111, iv x140, .unset, .unset, .unset, .unset] rfl rfl ?_
    refine maload 362 G139 at_360 rfl rfl rfl ?_
    refine miload 364 G139 at_362 rfl rfl ?_
    refine miaload 365 X139 hx hby hZ e139 f118 (v := (([x11, x15, x19, x23, x27, x31] : List Int32).getD x4.toNatClampNeg (0 : Int32))) at_364 (own_rm0_1_hin364 p0 p1 p2 p3 x3 hx3 x4 hx4 x5 hx5 x6 hx6 x7 hx7 x8 hx8 x9 hx9 x11 hx11 x15 hx15 x19 hx19 x23 hx23 x27 hx27 x31 hx31 x37 hx37 x44 hx44 x51 hx51 x58 hx58 x65 hx65 x72 hx72 x140 hx140 hpin3) (own_getDI ([x11, x15, x19, x23, x27, x31] : List Int32) _ _) rfl ?_
    refine miload 367 G139 at_365 rfl rfl ?_
    refine miload 369 G139 at_367 rfl rfl ?_
    refine st141 _ ?_
    show Steps p.tables e below (T141.setTop (mkF m 372 #[iv p0, iv p1, iv p2, iv p3, iv (1 : Int32), iv x3, iv x4, iv x5, iv x6, iv x7, iv x8, iv x9, rv b10, rv b35, rv b79, rv b92, rv b111, iv x140, .unset, .unset, .unset, .unset] [(.int (rv5 (([x11, x15, x19, x23, x27, x31] : List Int32).getD x4.toNatClampNeg (0 : Int32)) x7 x3))])) _
    refine castTop (g' := (mkF m 372 #[iv p0, iv p1, iv p2, iv p3, iv (1 : Int32), iv x3, iv x4, iv x5, iv x6, iv x7, iv x8, iv x9, rv b10, rv b35, rv b79, rv b92, rv b111, iv x140, .unset, .unset, .unset, .unset] [(.int x142)])) (by rw [hx142]) ?_
    refine mistore 374 G141 at_372 #[iv p0, iv p1, iv p2, iv p3, iv (1 : Int32), iv x3, iv x4, iv x5, iv x6, iv x7, iv x8, iv x9, rv b10, rv b35, rv b79, rv b92, rv b111, iv x140, iv x142, .unset, .unset, .unset] rfl rfl ?_
    refine maload 376 G141 at_374 rfl rfl rfl ?_
    refine miload 378 G141 at_376 rfl rfl ?_
    refine miaload 379 X141 hx hby hZ e141 f118 (v := (([x11, x15, x19, x23, x27, x31] : List Int32).getD x5.toNatClampNeg (0 : Int32))) at_378 (own_rm0_1_hin378 p0 p1 p2 p3 x3 hx3 x4 hx4 x5 hx5 x6 hx6 x7 hx7 x8 hx8 x9 hx9 x11 hx11 x15 hx15 x19 hx19 x23 hx23 x27 hx27 x31 hx31 x37 hx37 x44 hx44 x51 hx51 x58 hx58 x65 hx65 x72 hx72 x140 hx140 x142 hx142 hpin3) (own_getDI ([x11, x15, x19, x23, x27, x31] : List Int32) _ _) rfl ?_
    refine miload 381 G141 at_379 rfl rfl ?_
    refine miload 383 G141 at_381 rfl rfl ?_
    refine st143 _ ?_
    show Steps p.tables e below (T143.setTop (mkF m 386 #[iv p0, iv p1, iv p2, iv p3, iv (1 : Int32), iv x3, iv x4, iv x5, iv x6, iv x7, iv x8, iv x9, rv b10, rv b35, rv b79, rv b92, rv b111, iv x140, iv x142, .unset, .unset, .unset] [(.int (rv5 (([x11, x15, x19, x23, x27, x31] : List Int32).getD x5.toNatClampNeg (0 : Int32)) x8 x3))])) _
    refine castTop (g' := (mkF m 386 #[iv p0, iv p1, iv p2, iv p3, iv (1 : Int32), iv x3, iv x4, iv x5, iv x6, iv x7, iv x8, iv x9, rv b10, rv b35, rv b79, rv b92, rv b111, iv x140, iv x142, .unset, .unset, .unset] [(.int x144)])) (by rw [hx144]) ?_
    refine mistore 388 G143 at_386 #[iv p0, iv p1, iv p2, iv p3, iv (1 : Int32), iv x3, iv x4, iv x5, iv x6, iv x7, iv x8, iv x9, rv b10, rv b35, rv b79, rv b92, rv b111, iv x140, iv x142, iv x144, .unset, .unset] rfl rfl ?_
    refine maload 390 G143 at_388 rfl rfl rfl ?_
    refine miload 392 G143 at_390 rfl rfl ?_
    refine miaload 393 X143 hx hby hZ e143 f118 (v := (([x11, x15, x19, x23, x27, x31] : List Int32).getD x6.toNatClampNeg (0 : Int32))) at_392 (own_rm0_1_hin392 p0 p1 p2 p3 x3 hx3 x4 hx4 x5 hx5 x6 hx6 x7 hx7 x8 hx8 x9 hx9 x11 hx11 x15 hx15 x19 hx19 x23 hx23 x27 hx27 x31 hx31 x37 hx37 x44 hx44 x51 hx51 x58 hx58 x65 hx65 x72 hx72 x140 hx140 x142 hx142 x144 hx144 hpin3) (own_getDI ([x11, x15, x19, x23, x27, x31] : List Int32) _ _) rfl ?_
    refine miload 395 G143 at_393 rfl rfl ?_
    refine miload 397 G143 at_395 rfl rfl ?_
    refine st145 _ ?_
    show Steps p.tables e below (T145.setTop (mkF m 400 #[iv p0, iv p1, iv p2, iv p3, iv (1 : Int32), iv x3, iv x4, iv x5, iv x6, iv x7, iv x8, iv x9, rv b10, rv b35, rv b79, rv b92, rv b111, iv x140, iv x142, iv x144, .unset, .unset] [(.int (rv5 (([x11, x15, x19, x23, x27, x31] : List Int32).getD x6.toNatClampNeg (0 : Int32)) x9 x3))])) _
    refine castTop (g' := (mkF m 400 #[iv p0, iv p1, iv p2, iv p3, iv (1 : Int32), iv x3, iv x4, iv x5, iv x6, iv x7, iv x8, iv x9, rv b10, rv b35, rv b79, rv b92, rv b111, iv x140, iv x142, iv x144, .unset, .unset] [(.int x146)])) (by rw [hx146]) ?_
    refine mistore 402 G145 at_400 #[iv p0, iv p1, iv p2, iv p3, iv (1 : Int32), iv x3, iv x4, iv x5, iv x6, iv x7, iv x8, iv x9, rv b10, rv b35, rv b79, rv b92, rv b111, iv x140, iv x142, iv x144, iv x146, .unset] rfl rfl ?_
    refine miload 404 G145 at_402 rfl rfl ?_
    refine mifNo 407 G145 at_404 ((if0 _ _).trans (tlt (by decide : (0 : Int32) < (1 : Int32))).2.2.2) rfl ?_
    refine miload 409 G145 at_407 rfl rfl ?_
    refine st148 _ ?_
    refine mistore 449 G148 at_447 #[iv p0, iv p1, iv p2, iv p3, iv (1 : Int32), iv x3, iv x4, iv x5, iv x6, iv x7, iv x8, iv x9, rv b10, rv b35, rv b79, rv b92, rv b111, iv x140, iv x142, iv x144, iv x146, iv x149] rfl rfl ?_
    refine miload 451 G148 at_449 rfl rfl ?_
    refine miload 453 G148 at_451 rfl rfl ?_
    refine st151 _ ?_
    refine castTop (g' := (mkF m 461 #[iv p0, iv p1, iv p2, iv p3, iv (1 : Int32), iv x3, iv x4, iv x5, iv x6, iv x7, iv x8, iv x9, rv b10, rv b35, rv b79, rv b92, rv b111, iv x140, iv x142, iv x144, iv x146, iv x149] [(.int (1 : Int32))])) (by rw [hend]) ?_
    exact retN X151 hx (t := .boolean) Bd.returns (by simp) (hb hby at_461) hr
  · show Q0 Z p0 p1 p2 p3 h0 n0 _ T151.heap _
    rw [e151]
    exact ⟨rfl, N116⟩
theorem ef4_2 (m : MethodId) (o0 : Addr) (o1 : Addr) (p2 : Int32) : entryFrame m #[(.ref o0), (.ref o1), (.int p2)] 6 = mkF m 0 #[rv o0, rv o1, iv p2, .unset, .unset, .unset] [] := by first | (simp [entryFrame, mkF, argsToLocals, Value.category]; done) | rfl
abbrev room_of_4_2 : Room := { frames := 0, cells := 0, slots := 0, locals := 0 }
def rv4_2 (p2 : Int32) (s0_ : Int32) (s1_ : Int32) (a0_ : Int32) (a1_ : Int32) (c0_ : UInt64) (c1_ : UInt64) (c2_ : UInt64) (c3_ : UInt64) (c4_ : UInt64) (c5_ : UInt64) : Int32 := (if p2 = (0 : Int32) then (if (cmpValue (FP.dcmp (([c0_, c1_, c2_, c3_, c4_, c5_] : List UInt64).getD s0_.toNatClampNeg (0 : UInt64)) (0 : UInt64)) .l) = (0 : Int32) then (0 : Int32) else (if (cmpValue (FP.dcmp (([c0_, c1_, c2_, c3_, c4_, c5_] : List UInt64).getD s1_.toNatClampNeg (0 : UInt64)) (0 : UInt64)) .l) = (0 : Int32) then (1 : Int32) else (-1 : Int32))) else (if (cmpValue (FP.dcmp (([c0_, c1_, c2_, c3_, c4_, c5_] : List UInt64).getD s0_.toNatClampNeg (0 : UInt64)) (FP.i2d a0_)) .g) < (0 : Int32) then (0 : Int32) else (if (cmpValue (FP.dcmp (([c0_, c1_, c2_, c3_, c4_, c5_] : List UInt64).getD s1_.toNatClampNeg (0 : UInt64)) (FP.i2d a1_)) .g) < (0 : Int32) then (1 : Int32) else (-1 : Int32))))
def Q4_2 (Z : State) (o0 : Addr) (o1 : Addr) (p2 : Int32) (w1 : Addr) (w2 : Addr) (k1 : ClassId) (s0_ : Int32) (s1_ : Int32) (k2 : ClassId) (a0_ : Int32) (a1_ : Int32) (k3 : ClassId) (c0_ : UInt64) (c1_ : UInt64) (c2_ : UInt64) (c3_ : UInt64) (c4_ : UInt64) (c5_ : UInt64) (h0 : Heap) (n0 : Nat) (v : Option Value) (h : Heap) (L : List Loc) : Prop := v = some (.int (rv4_2 p2 s0_ s1_ a0_ a1_ c0_ c1_ c2_ c3_ c4_ c5_)) ∧ L = [] ∧ h = h0
set_option maxRecDepth 65536 in
set_option maxHeartbeats 40000000 in
theorem rm4_2 (l : Launch) (Z : State) (a0 : Array Value) (hw : ∀ d ∈ tables_1, d.before a0 Z = true) (ws : List Jvm.Cond) (o0 : Addr) (o1 : Addr) (p2 : Int32) {w1 : Addr} {w2 : Addr} {k1 : ClassId} {s0_ : Int32} {s1_ : Int32} {k2 : ClassId} {a0_ : Int32} {a1_ : Int32} {k3 : ClassId} {c0_ : UInt64} {c1_ : UInt64} {c2_ : UInt64} {c3_ : UInt64} {c4_ : UInt64} {c5_ : UInt64} (h0 : Heap) (n0 : Nat) (Z0 : n0 ≤ h0.size) (F_states_o0 : Fld Z h0 o0 "com/example/oceanus/oceanus/analysis/Taken" "states" "[I" (.ref w1)) (F_agents_o0 : Fld Z h0 o0 "com/example/oceanus/oceanus/analysis/Taken" "agents" "[I" (.ref w2)) (V_w1 : Arv Z h0 w1 k1 .int (2 : Int32) [(.int s0_), (.int s1_)] (.int (0 : Int32))) (V_w2 : Arv Z h0 w2 k2 .int (2 : Int32) [(.int a0_), (.int a1_)] (.int (0 : Int32))) (V_o1 : Arv Z h0 o1 k3 .double (6 : Int32) [(.double c0_), (.double c1_), (.double c2_), (.double c3_), (.double c4_), (.double c5_)] (.double (0 : UInt64))) (hin18 : ¬ s0_ < 0 ∧ s0_ < (6 : Int32)) (hin18' : (p2 = (0 : Int32)) → (¬ ((cmpValue (FP.dcmp (([c0_, c1_, c2_, c3_, c4_, c5_] : List UInt64).getD s0_.toNatClampNeg (0 : UInt64)) (0 : UInt64)) .l) = (0 : Int32))) → ¬ s1_ < 0 ∧ s1_ < (6 : Int32)) (hin18'' : (¬ (p2 = (0 : Int32))) → (¬ ((cmpValue (FP.dcmp (([c0_, c1_, c2_, c3_, c4_, c5_] : List UInt64).getD s0_.toNatClampNeg (0 : UInt64)) (FP.i2d a0_)) .g) < (0 : Int32))) → ¬ s1_ < 0 ∧ s1_ < (6 : Int32)) :
    MetFree l (⟨"com/example/oceanus/oceanus/analysis/Taken", "unmade", "([DZ)I"⟩ : MethodName) (head1 (Jvm.Cond.code (⟨"com/example/oceanus/oceanus/analysis/Taken", "unmade", "([DZ)I"⟩ : MethodName) prog_26_method_4_code 6 (some .int) :: ws) (room_of_4_2)) (fun a U => a = #[(.ref o0), (.ref o1), (.int p2)] ∧ Z.Warmed39 U.vm ∧ U.heap = h0) (fun _ _ _ _ _ => True) (fun _ U o U' => ∃ v L, o = .returned v ∧ Q4_2 Z o0 o1 p2 w1 w2 k1 s0_ s1_ k2 a0_ a1_ k3 c0_ c1_ c2_ c3_ c4_ c5_ h0 n0 v U'.heap L ∧ FrameEnd U o U' L (room_of_4_2).cells (room_of_4_2).slots) := by
  refine MetFree.of_bodySF (plainFor_of_name pn_4) hisR ?_
  intro p e s m args below meth c s₁ Bd hml0 hP hK
  obtain ⟨rfl, hZ, hh⟩ := hP
  have hx := Bd.exec
  have hby := Bd.bytes
  have hml : c.maxLocals = 6 := hml0
  have hown : s.vm.findClass "com/example/oceanus/oceanus/analysis/Taken" = some m.cls := findClass_of_methodNamed Bd.named
  have hnm := (name_of_methodNamed Bd.named Bd.method).1
  have X0 : Stand p l e (room_of_4_2) s m #[(.ref o0), (.ref o1), (.int p2)] below meth c s₁ [] 0 0 := Stand.of_body Bd
  have e0 : s₁.heap = h0 := by rw [← hh, Bd.state]; rfl
  have N0 := Fr.nil n0
  have G0 := gd X0 hx hby
  have pre0 : ∀ t, Steps p.tables e below (s₁.setTop (mkF m 0 #[rv o0, rv o1, iv p2, .unset, .unset, .unset] [])) t → Steps p.tables e below (s₁.setTop (entryFrame m #[(.ref o0), (.ref o1), (.int p2)] 6)) t := fun t k => castTop (ef4_2 m o0 o1 p2) k
  obtain ⟨T1, X1, e1, st1⟩ := getF X0 hx hZ hown (host := "") (Or.inl (wd hw 16 rfl)) Via.refl e0 F_states_o0 (g := (mkF m 4 #[rv o0, rv o1, iv p2, iv (0 : Int32), .unset, .unset] [(.ref o0), (.int (0 : Int32))])) rfl rfl (hb hby d4_4)
  have G1 := gd X1 hx hby
  obtain ⟨T2, X2, e2, st2⟩ := getF X1 hx hZ hown (host := "") (Or.inl (wd hw 16 rfl)) Via.refl e1 F_states_o0 (g := (mkF m 13 #[rv o0, rv o1, iv p2, iv (0 : Int32), .unset, .unset] [(.ref o0), (.ref o1)])) rfl rfl (hb hby d4_13)
  have G2 := gd X2 hx hby
  by_cases hc22_3 : p2 = (0 : Int32)
  · by_cases hc45_4 : (cmpValue (FP.dcmp (([c0_, c1_, c2_, c3_, c4_, c5_] : List UInt64).getD s0_.toNatClampNeg (0 : UInt64)) (0 : UInt64)) .l) = (0 : Int32)
    · obtain ⟨fs, hr, hrun, hended, hW, hsame⟩ := X2.leave (v := some (.int (0 : Int32))) (fun h => by rw [Bd.returns] at h; cases h)
      refine ⟨_, _, pre0 _ ?_, hrun, hended, _, _, rfl, ?_, ⟨_, rfl⟩, hW, hsame.mono (by decide) (by decide)⟩
      · show Steps p.tables e below (s₁.setTop (mkF m 0 #[rv o0, rv o1, iv p2, .unset, .unset, .unset] [])) _
        refine miconst 1 G0 d4_0 (v := (0 : Int32)) rfl rfl ?_
        refine mistoreN 2 G0 d4_1 #[rv o0, rv o1, iv p2, iv (0 : Int32), .unset, .unset] rfl rfl ?_
        refine miloadN 3 G0 d4_2 rfl rfl ?_
        refine maloadN 4 G0 d4_3 rfl rfl rfl ?_
        refine st1 _ ?_
        show Steps p.tables e below (T1.setTop (mkF m 7 #[rv o0, rv o1, iv p2, iv (0 : Int32), .unset, .unset] [(.ref w1), (.int (0 : Int32))])) _
        refine mlen 8 X1 hx hby hZ e1 V_w1 d4_7 rfl ?_
        refine micmpNo 11 G1 d4_8 (tlt (by decide : (0 : Int32) < (2 : Int32))).2.1 rfl ?_
        refine maloadN 12 G1 d4_11 rfl rfl rfl ?_
        refine maloadN 13 G1 d4_12 rfl rfl rfl ?_
        refine st2 _ ?_
        show Steps p.tables e below (T2.setTop (mkF m 16 #[rv o0, rv o1, iv p2, iv (0 : Int32), .unset, .unset] [(.ref w1), (.ref o1)])) _
        refine miloadN 17 G2 d4_16 rfl rfl ?_
        refine miaload 18 X2 hx hby hZ e2 V_w1 (v := s0_) d4_17 ⟨by decide, by decide⟩ rfl rfl ?_
        refine mdaload 19 X2 hx hby hZ e2 V_o1 (v := (([c0_, c1_, c2_, c3_, c4_, c5_] : List UInt64).getD s0_.toNatClampNeg (0 : UInt64))) d4_18 (hin18) (own_getDD ([c0_, c1_, c2_, c3_, c4_, c5_] : List UInt64) _ _) rfl ?_
        refine mdstore 21 G2 d4_19 #[rv o0, rv o1, iv p2, iv (0 : Int32), dv (([c0_, c1_, c2_, c3_, c4_, c5_] : List UInt64).getD s0_.toNatClampNeg (0 : UInt64)), .second] rfl rfl ?_
        refine miloadN 22 G2 d4_21 rfl rfl ?_
        refine mifYes 41 G2 d4_22 ((if0 _ _).trans (teq hc22_3).1) (by decide) rfl ?_
        refine mdload 43 G2 d4_41 rfl rfl ?_
        refine mdconst0 44 G2 d4_43 (v := (0 : UInt64)) rfl rfl ?_
        refine mdcmp 45 G2 d4_44 rfl ?_
        refine mifNo 48 G2 d4_45 ((if0 _ _).trans (teq hc45_4).2) rfl ?_
        refine miloadN 49 G2 d4_48 rfl rfl ?_
        exact retOut X2 hx Bd.returns rfl (Or.inl ⟨rfl, Or.inl rfl, _, rfl⟩) (hb hby d4_49) hr
      · show Q4_2 Z o0 o1 p2 w1 w2 k1 s0_ s1_ k2 a0_ a1_ k3 c0_ c1_ c2_ c3_ c4_ c5_ h0 n0 _ T2.heap _
        rw [e2]
        exact ⟨by simp only [rv4_2, if_pos hc22_3, if_pos hc45_4], rfl, rfl⟩
    · obtain ⟨T5, X5, e5, st5⟩ := getF X2 hx hZ hown (host := "") (Or.inl (wd hw 16 rfl)) Via.refl e2 F_states_o0 (g := (mkF m 4 #[rv o0, rv o1, iv p2, iv (1 : Int32), dv (([c0_, c1_, c2_, c3_, c4_, c5_] : List UInt64).getD s0_.toNatClampNeg (0 : UInt64)), .second] [(.ref o0), (.int (1 : Int32))])) rfl rfl (hb hby d4_4)
      have G5 := gd X5 hx hby
      obtain ⟨T6, X6, e6, st6⟩ := getF X5 hx hZ hown (host := "") (Or.inl (wd hw 16 rfl)) Via.refl e5 F_states_o0 (g := (mkF m 13 #[rv o0, rv o1, iv p2, iv (1 : Int32), dv (([c0_, c1_, c2_, c3_, c4_, c5_] : List UInt64).getD s0_.toNatClampNeg (0 : UInt64)), .second] [(.ref o0), (.ref o1)])) rfl rfl (hb hby d4_13)
      have G6 := gd X6 hx hby
      by_cases hc45_7 : (cmpValue (FP.dcmp (([c0_, c1_, c2_, c3_, c4_, c5_] : List UInt64).getD s1_.toNatClampNeg (0 : UInt64)) (0 : UInt64)) .l) = (0 : Int32)
      · obtain ⟨fs, hr, hrun, hended, hW, hsame⟩ := X6.leave (v := some (.int (1 : Int32))) (fun h => by rw [Bd.returns] at h; cases h)
        refine ⟨_, _, pre0 _ ?_, hrun, hended, _, _, rfl, ?_, ⟨_, rfl⟩, hW, hsame.mono (by decide) (by decide)⟩
        · show Steps p.tables e below (s₁.setTop (mkF m 0 #[rv o0, rv o1, iv p2, .unset, .unset, .unset] [])) _
          refine miconst 1 G0 d4_0 (v := (0 : Int32)) rfl rfl ?_
          refine mistoreN 2 G0 d4_1 #[rv o0, rv o1, iv p2, iv (0 : Int32), .unset, .unset] rfl rfl ?_
          refine miloadN 3 G0 d4_2 rfl rfl ?_
          refine maloadN 4 G0 d4_3 rfl rfl rfl ?_
          refine st1 _ ?_
          show Steps p.tables e below (T1.setTop (mkF m 7 #[rv o0, rv o1, iv p2, iv (0 : Int32), .unset, .unset] [(.ref w1), (.int (0 : Int32))])) _
          refine mlen 8 X1 hx hby hZ e1 V_w1 d4_7 rfl ?_
          refine micmpNo 11 G1 d4_8 (tlt (by decide : (0 : Int32) < (2 : Int32))).2.1 rfl ?_
          refine maloadN 12 G1 d4_11 rfl rfl rfl ?_
          refine maloadN 13 G1 d4_12 rfl rfl rfl ?_
          refine st2 _ ?_
          show Steps p.tables e below (T2.setTop (mkF m 16 #[rv o0, rv o1, iv p2, iv (0 : Int32), .unset, .unset] [(.ref w1), (.ref o1)])) _
          refine miloadN 17 G2 d4_16 rfl rfl ?_
          refine miaload 18 X2 hx hby hZ e2 V_w1 (v := s0_) d4_17 ⟨by decide, by decide⟩ rfl rfl ?_
          refine mdaload 19 X2 hx hby hZ e2 V_o1 (v := (([c0_, c1_, c2_, c3_, c4_, c5_] : List UInt64).getD s0_.toNatClampNeg (0 : UInt64))) d4_18 (hin18) (own_getDD ([c0_, c1_, c2_, c3_, c4_, c5_] : List UInt64) _ _) rfl ?_
          refine mdstore 21 G2 d4_19 #[rv o0, rv o1, iv p2, iv (0 : Int32), dv (([c0_, c1_, c2_, c3_, c4_, c5_] : List UInt64).getD s0_.toNatClampNeg (0 : UInt64)), .second] rfl rfl ?_
          refine miloadN 22 G2 d4_21 rfl rfl ?_
          refine mifYes 41 G2 d4_22 ((if0 _ _).trans (teq hc22_3).1) (by decide) rfl ?_
          refine mdload 43 G2 d4_41 rfl rfl ?_
          refine mdconst0 44 G2 d4_43 (v := (0 : UInt64)) rfl rfl ?_
          refine mdcmp 45 G2 d4_44 rfl ?_
          refine mifYes 50 G2 d4_45 ((if0 _ _).trans (feq hc45_4).2) (by decide) rfl ?_
          refine miinc 53 G2 d4_50 rfl #[rv o0, rv o1, iv p2, iv (1 : Int32), dv (([c0_, c1_, c2_, c3_, c4_, c5_] : List UInt64).getD s0_.toNatClampNeg (0 : UInt64)), .second] rfl rfl ?_
          refine mgoto 2 G2 d4_53 (by decide) rfl ?_
          refine miloadN 3 G2 d4_2 rfl rfl ?_
          refine maloadN 4 G2 d4_3 rfl rfl rfl ?_
          refine st5 _ ?_
          show Steps p.tables e below (T5.setTop (mkF m 7 #[rv o0, rv o1, iv p2, iv (1 : Int32), dv (([c0_, c1_, c2_, c3_, c4_, c5_] : List UInt64).getD s0_.toNatClampNeg (0 : UInt64)), .second] [(.ref w1), (.int (1 : Int32))])) _
          refine mlen 8 X5 hx hby hZ e5 V_w1 d4_7 rfl ?_
          refine micmpNo 11 G5 d4_8 (tlt (by decide : (1 : Int32) < (2 : Int32))).2.1 rfl ?_
          refine maloadN 12 G5 d4_11 rfl rfl rfl ?_
          refine maloadN 13 G5 d4_12 rfl rfl rfl ?_
          refine st6 _ ?_
          show Steps p.tables e below (T6.setTop (mkF m 16 #[rv o0, rv o1, iv p2, iv (1 : Int32), dv (([c0_, c1_, c2_, c3_, c4_, c5_] : List UInt64).getD s0_.toNatClampNeg (0 : UInt64)), .second] [(.ref w1), (.ref o1)])) _
          refine miloadN 17 G6 d4_16 rfl rfl ?_
          refine miaload 18 X6 hx hby hZ e6 V_w1 (v := s1_) d4_17 ⟨by decide, by decide⟩ rfl rfl ?_
          refine mdaload 19 X6 hx hby hZ e6 V_o1 (v := (([c0_, c1_, c2_, c3_, c4_, c5_] : List UInt64).getD s1_.toNatClampNeg (0 : UInt64))) d4_18 (hin18' hc22_3 hc45_4) (own_getDD ([c0_, c1_, c2_, c3_, c4_, c5_] : List UInt64) _ _) rfl ?_
          refine mdstore 21 G6 d4_19 #[rv o0, rv o1, iv p2, iv (1 : Int32), dv (([c0_, c1_, c2_, c3_, c4_, c5_] : List UInt64).getD s1_.toNatClampNeg (0 : UInt64)), .second] rfl rfl ?_
          refine miloadN 22 G6 d4_21 rfl rfl ?_
          refine mifYes 41 G6 d4_22 ((if0 _ _).trans (teq hc22_3).1) (by decide) rfl ?_
          refine mdload 43 G6 d4_41 rfl rfl ?_
          refine mdconst0 44 G6 d4_43 (v := (0 : UInt64)) rfl rfl ?_
          refine mdcmp 45 G6 d4_44 rfl ?_
          refine mifNo 48 G6 d4_45 ((if0 _ _).trans (teq hc45_7).2) rfl ?_
          refine miloadN 49 G6 d4_48 rfl rfl ?_
          exact retOut X6 hx Bd.returns rfl (Or.inl ⟨rfl, Or.inl rfl, _, rfl⟩) (hb hby d4_49) hr
        · show Q4_2 Z o0 o1 p2 w1 w2 k1 s0_ s1_ k2 a0_ a1_ k3 c0_ c1_ c2_ c3_ c4_ c5_ h0 n0 _ T6.heap _
          rw [e6]
          exact ⟨by simp only [rv4_2, if_pos hc22_3, if_neg hc45_4, if_pos hc45_7], rfl, rfl⟩
      · obtain ⟨T8, X8, e8, st8⟩ := getF X6 hx hZ hown (host := "") (Or.inl (wd hw 16 rfl)) Via.refl e6 F_states_o0 (g := (mkF m 4 #[rv o0, rv o1, iv p2, iv (2 : Int32), dv (([c0_, c1_, c2_, c3_, c4_, c5_] : List UInt64).getD s1_.toNatClampNeg (0 : UInt64)), .second] [(.ref o0), (.int (2 : Int32))])) rfl rfl (hb hby d4_4)
        have G8 := gd X8 hx hby
        obtain ⟨fs, hr, hrun, hended, hW, hsame⟩ := X8.leave (v := some (.int (-1 : Int32))) (fun h => by rw [Bd.returns] at h; cases h)
        refine ⟨_, _, pre0 _ ?_, hrun, hended, _, _, rfl, ?_, ⟨_, rfl⟩, hW, hsame.mono (by decide) (by decide)⟩
        · show Steps p.tables e below (s₁.setTop (mkF m 0 #[rv o0, rv o1, iv p2, .unset, .unset, .unset] [])) _
          refine miconst 1 G0 d4_0 (v := (0 : Int32)) rfl rfl ?_
          refine mistoreN 2 G0 d4_1 #[rv o0, rv o1, iv p2, iv (0 : Int32), .unset, .unset] rfl rfl ?_
          refine miloadN 3 G0 d4_2 rfl rfl ?_
          refine maloadN 4 G0 d4_3 rfl rfl rfl ?_
          refine st1 _ ?_
          show Steps p.tables e below (T1.setTop (mkF m 7 #[rv o0, rv o1, iv p2, iv (0 : Int32), .unset, .unset] [(.ref w1), (.int (0 : Int32))])) _
          refine mlen 8 X1 hx hby hZ e1 V_w1 d4_7 rfl ?_
          refine micmpNo 11 G1 d4_8 (tlt (by decide : (0 : Int32) < (2 : Int32))).2.1 rfl ?_
          refine maloadN 12 G1 d4_11 rfl rfl rfl ?_
          refine maloadN 13 G1 d4_12 rfl rfl rfl ?_
          refine st2 _ ?_
          show Steps p.tables e below (T2.setTop (mkF m 16 #[rv o0, rv o1, iv p2, iv (0 : Int32), .unset, .unset] [(.ref w1), (.ref o1)])) _
          refine miloadN 17 G2 d4_16 rfl rfl ?_
          refine miaload 18 X2 hx hby hZ e2 V_w1 (v := s0_) d4_17 ⟨by decide, by decide⟩ rfl rfl ?_
          refine mdaload 19 X2 hx hby hZ e2 V_o1 (v := (([c0_, c1_, c2_, c3_, c4_, c5_] : List UInt64).getD s0_.toNatClampNeg (0 : UInt64))) d4_18 (hin18) (own_getDD ([c0_, c1_, c2_, c3_, c4_, c5_] : List UInt64) _ _) rfl ?_
          refine mdstore 21 G2 d4_19 #[rv o0, rv o1, iv p2, iv (0 : Int32), dv (([c0_, c1_, c2_, c3_, c4_, c5_] : List UInt64).getD s0_.toNatClampNeg (0 : UInt64)), .second] rfl rfl ?_
          refine miloadN 22 G2 d4_21 rfl rfl ?_
          refine mifYes 41 G2 d4_22 ((if0 _ _).trans (teq hc22_3).1) (by decide) rfl ?_
          refine mdload 43 G2 d4_41 rfl rfl ?_
          refine mdconst0 44 G2 d4_43 (v := (0 : UInt64)) rfl rfl ?_
          refine mdcmp 45 G2 d4_44 rfl ?_
          refine mifYes 50 G2 d4_45 ((if0 _ _).trans (feq hc45_4).2) (by decide) rfl ?_
          refine miinc 53 G2 d4_50 rfl #[rv o0, rv o1, iv p2, iv (1 : Int32), dv (([c0_, c1_, c2_, c3_, c4_, c5_] : List UInt64).getD s0_.toNatClampNeg (0 : UInt64)), .second] rfl rfl ?_
          refine mgoto 2 G2 d4_53 (by decide) rfl ?_
          refine miloadN 3 G2 d4_2 rfl rfl ?_
          refine maloadN 4 G2 d4_3 rfl rfl rfl ?_
          refine st5 _ ?_
          show Steps p.tables e below (T5.setTop (mkF m 7 #[rv o0, rv o1, iv p2, iv (1 : Int32), dv (([c0_, c1_, c2_, c3_, c4_, c5_] : List UInt64).getD s0_.toNatClampNeg (0 : UInt64)), .second] [(.ref w1), (.int (1 : Int32))])) _
          refine mlen 8 X5 hx hby hZ e5 V_w1 d4_7 rfl ?_
          refine micmpNo 11 G5 d4_8 (tlt (by decide : (1 : Int32) < (2 : Int32))).2.1 rfl ?_
          refine maloadN 12 G5 d4_11 rfl rfl rfl ?_
          refine maloadN 13 G5 d4_12 rfl rfl rfl ?_
          refine st6 _ ?_
          show Steps p.tables e below (T6.setTop (mkF m 16 #[rv o0, rv o1, iv p2, iv (1 : Int32), dv (([c0_, c1_, c2_, c3_, c4_, c5_] : List UInt64).getD s0_.toNatClampNeg (0 : UInt64)), .second] [(.ref w1), (.ref o1)])) _
          refine miloadN 17 G6 d4_16 rfl rfl ?_
          refine miaload 18 X6 hx hby hZ e6 V_w1 (v := s1_) d4_17 ⟨by decide, by decide⟩ rfl rfl ?_
          refine mdaload 19 X6 hx hby hZ e6 V_o1 (v := (([c0_, c1_, c2_, c3_, c4_, c5_] : List UInt64).getD s1_.toNatClampNeg (0 : UInt64))) d4_18 (hin18' hc22_3 hc45_4) (own_getDD ([c0_, c1_, c2_, c3_, c4_, c5_] : List UInt64) _ _) rfl ?_
          refine mdstore 21 G6 d4_19 #[rv o0, rv o1, iv p2, iv (1 : Int32), dv (([c0_, c1_, c2_, c3_, c4_, c5_] : List UInt64).getD s1_.toNatClampNeg (0 : UInt64)), .second] rfl rfl ?_
          refine miloadN 22 G6 d4_21 rfl rfl ?_
          refine mifYes 41 G6 d4_22 ((if0 _ _).trans (teq hc22_3).1) (by decide) rfl ?_
          refine mdload 43 G6 d4_41 rfl rfl ?_
          refine mdconst0 44 G6 d4_43 (v := (0 : UInt64)) rfl rfl ?_
          refine mdcmp 45 G6 d4_44 rfl ?_
          refine mifYes 50 G6 d4_45 ((if0 _ _).trans (feq hc45_7).2) (by decide) rfl ?_
          refine miinc 53 G6 d4_50 rfl #[rv o0, rv o1, iv p2, iv (2 : Int32), dv (([c0_, c1_, c2_, c3_, c4_, c5_] : List UInt64).getD s1_.toNatClampNeg (0 : UInt64)), .second] rfl rfl ?_
          refine mgoto 2 G6 d4_53 (by decide) rfl ?_
          refine miloadN 3 G6 d4_2 rfl rfl ?_
          refine maloadN 4 G6 d4_3 rfl rfl rfl ?_
          refine st8 _ ?_
          show Steps p.tables e below (T8.setTop (mkF m 7 #[rv o0, rv o1, iv p2, iv (2 : Int32), dv (([c0_, c1_, c2_, c3_, c4_, c5_] : List UInt64).getD s1_.toNatClampNeg (0 : UInt64)), .second] [(.ref w1), (.int (2 : Int32))])) _
          refine mlen 8 X8 hx hby hZ e8 V_w1 d4_7 rfl ?_
          refine micmpYes 56 G8 d4_8 (flt (by decide : ¬ ((2 : Int32) < (2 : Int32)))).2.1 (by decide) rfl ?_
          refine miconst 57 G8 d4_56 (v := (-1 : Int32)) rfl rfl ?_
          exact retOut X8 hx Bd.returns rfl (Or.inl ⟨rfl, Or.inl rfl, _, rfl⟩) (hb hby d4_57) hr
        · show Q4_2 Z o0 o1 p2 w1 w2 k1 s0_ s1_ k2 a0_ a1_ k3 c0_ c1_ c2_ c3_ c4_ c5_ h0 n0 _ T8.heap _
          rw [e8]
          exact ⟨by simp only [rv4_2, if_pos hc22_3, if_neg hc45_4, if_neg hc45_7], rfl, rfl⟩
  · obtain ⟨T9, X9, e9, st9⟩ := getF X2 hx hZ hown (host := "") (Or.inl (wd hw 18 rfl)) Via.refl e2 F_agents_o0 (g := (mkF m 28 #[rv o0, rv o1, iv p2, iv (0 : Int32), dv (([c0_, c1_, c2_, c3_, c4_, c5_] : List UInt64).getD s0_.toNatClampNeg (0 : UInt64)), .second] [(.ref o0), (.double (([c0_, c1_, c2_, c3_, c4_, c5_] : List UInt64).getD s0_.toNatClampNeg (0 : UInt64)))])) rfl rfl (hb hby d4_28)
    have G9 := gd X9 hx hby
    by_cases hc35_10 : (cmpValue (FP.dcmp (([c0_, c1_, c2_, c3_, c4_, c5_] : List UInt64).getD s0_.toNatClampNeg (0 : UInt64)) (FP.i2d a0_)) .g) < (0 : Int32)
    · obtain ⟨fs, hr, hrun, hended, hW, hsame⟩ := X9.leave (v := some (.int (0 : Int32))) (fun h => by rw [Bd.returns] at h; cases h)
      refine ⟨_, _, pre0 _ ?_, hrun, hended, _, _, rfl, ?_, ⟨_, rfl⟩, hW, hsame.mono (by decide) (by decide)⟩
      · show Steps p.tables e below (s₁.setTop (mkF m 0 #[rv o0, rv o1, iv p2, .unset, .unset, .unset] [])) _
        refine miconst 1 G0 d4_0 (v := (0 : Int32)) rfl rfl ?_
        refine mistoreN 2 G0 d4_1 #[rv o0, rv o1, iv p2, iv (0 : Int32), .unset, .unset] rfl rfl ?_
        refine miloadN 3 G0 d4_2 rfl rfl ?_
        refine maloadN 4 G0 d4_3 rfl rfl rfl ?_
        refine st1 _ ?_
        show Steps p.tables e below (T1.setTop (mkF m 7 #[rv o0, rv o1, iv p2, iv (0 : Int32), .unset, .unset] [(.ref w1), (.int (0 : Int32))])) _
        refine mlen 8 X1 hx hby hZ e1 V_w1 d4_7 rfl ?_
        refine micmpNo 11 G1 d4_8 (tlt (by decide : (0 : Int32) < (2 : Int32))).2.1 rfl ?_
        refine maloadN 12 G1 d4_11 rfl rfl rfl ?_
        refine maloadN 13 G1 d4_12 rfl rfl rfl ?_
        refine st2 _ ?_
        show Steps p.tables e below (T2.setTop (mkF m 16 #[rv o0, rv o1, iv p2, iv (0 : Int32), .unset, .unset] [(.ref w1), (.ref o1)])) _
        refine miloadN 17 G2 d4_16 rfl rfl ?_
        refine miaload 18 X2 hx hby hZ e2 V_w1 (v := s0_) d4_17 ⟨by decide, by decide⟩ rfl rfl ?_
        refine mdaload 19 X2 hx hby hZ e2 V_o1 (v := (([c0_, c1_, c2_, c3_, c4_, c5_] : List UInt64).getD s0_.toNatClampNeg (0 : UInt64))) d4_18 (hin18) (own_getDD ([c0_, c1_, c2_, c3_, c4_, c5_] : List UInt64) _ _) rfl ?_
        refine mdstore 21 G2 d4_19 #[rv o0, rv o1, iv p2, iv (0 : Int32), dv (([c0_, c1_, c2_, c3_, c4_, c5_] : List UInt64).getD s0_.toNatClampNeg (0 : UInt64)), .second] rfl rfl ?_
        refine miloadN 22 G2 d4_21 rfl rfl ?_
        refine mifNo 25 G2 d4_22 ((if0 _ _).trans (feq hc22_3).1) rfl ?_
        refine mdload 27 G2 d4_25 rfl rfl ?_
        refine maloadN 28 G2 d4_27 rfl rfl rfl ?_
        refine st9 _ ?_
        show Steps p.tables e below (T9.setTop (mkF m 31 #[rv o0, rv o1, iv p2, iv (0 : Int32), dv (([c0_, c1_, c2_, c3_, c4_, c5_] : List UInt64).getD s0_.toNatClampNeg (0 : UInt64)), .second] [(.ref w2), (.double (([c0_, c1_, c2_, c3_, c4_, c5_] : List UInt64).getD s0_.toNatClampNeg (0 : UInt64)))])) _
        refine miloadN 32 G9 d4_31 rfl rfl ?_
        refine miaload 33 X9 hx hby hZ e9 V_w2 (v := a0_) d4_32 ⟨by decide, by decide⟩ rfl rfl ?_
        refine mi2d 34 G9 d4_33 rfl ?_
        refine mdcmp 35 G9 d4_34 rfl ?_
        refine mifNo 38 G9 d4_35 ((if0 _ _).trans (tlt hc35_10).2.1) rfl ?_
        refine mgoto 48 G9 d4_38 (by decide) rfl ?_
        refine miloadN 49 G9 d4_48 rfl rfl ?_
        exact retOut X9 hx Bd.returns rfl (Or.inl ⟨rfl, Or.inl rfl, _, rfl⟩) (hb hby d4_49) hr
      · show Q4_2 Z o0 o1 p2 w1 w2 k1 s0_ s1_ k2 a0_ a1_ k3 c0_ c1_ c2_ c3_ c4_ c5_ h0 n0 _ T9.heap _
        rw [e9]
        exact ⟨by simp only [rv4_2, if_neg hc22_3, if_pos hc35_10], rfl, rfl⟩
    · obtain ⟨T11, X11, e11, st11⟩ := getF X9 hx hZ hown (host := "") (Or.inl (wd hw 16 rfl)) Via.refl e9 F_states_o0 (g := (mkF m 4 #[rv o0, rv o1, iv p2, iv (1 : Int32), dv (([c0_, c1_, c2_, c3_, c4_, c5_] : List UInt64).getD s0_.toNatClampNeg (0 : UInt64)), .second] [(.ref o0), (.int (1 : Int32))])) rfl rfl (hb hby d4_4)
      have G11 := gd X11 hx hby
      obtain ⟨T12, X12, e12, st12⟩ := getF X11 hx hZ hown (host := "") (Or.inl (wd hw 16 rfl)) Via.refl e11 F_states_o0 (g := (mkF m 13 #[rv o0, rv o1, iv p2, iv (1 : Int32), dv (([c0_, c1_, c2_, c3_, c4_, c5_] : List UInt64).getD s0_.toNatClampNeg (0 : UInt64)), .second] [(.ref o0), (.ref o1)])) rfl rfl (hb hby d4_13)
      have G12 := gd X12 hx hby
      obtain ⟨T13, X13, e13, st13⟩ := getF X12 hx hZ hown (host := "") (Or.inl (wd hw 18 rfl)) Via.refl e12 F_agents_o0 (g := (mkF m 28 #[rv o0, rv o1, iv p2, iv (1 : Int32), dv (([c0_, c1_, c2_, c3_, c4_, c5_] : List UInt64).getD s1_.toNatClampNeg (0 : UInt64)), .second] [(.ref o0), (.double (([c0_, c1_, c2_, c3_, c4_, c5_] : List UInt64).getD s1_.toNatClampNeg (0 : UInt64)))])) rfl rfl (hb hby d4_28)
      have G13 := gd X13 hx hby
      by_cases hc35_14 : (cmpValue (FP.dcmp (([c0_, c1_, c2_, c3_, c4_, c5_] : List UInt64).getD s1_.toNatClampNeg (0 : UInt64)) (FP.i2d a1_)) .g) < (0 : Int32)
      · obtain ⟨fs, hr, hrun, hended, hW, hsame⟩ := X13.leave (v := some (.int (1 : Int32))) (fun h => by rw [Bd.returns] at h; cases h)
        refine ⟨_, _, pre0 _ ?_, hrun, hended, _, _, rfl, ?_, ⟨_, rfl⟩, hW, hsame.mono (by decide) (by decide)⟩
        · show Steps p.tables e below (s₁.setTop (mkF m 0 #[rv o0, rv o1, iv p2, .unset, .unset, .unset] [])) _
          refine miconst 1 G0 d4_0 (v := (0 : Int32)) rfl rfl ?_
          refine mistoreN 2 G0 d4_1 #[rv o0, rv o1, iv p2, iv (0 : Int32), .unset, .unset] rfl rfl ?_
          refine miloadN 3 G0 d4_2 rfl rfl ?_
          refine maloadN 4 G0 d4_3 rfl rfl rfl ?_
          refine st1 _ ?_
          show Steps p.tables e below (T1.setTop (mkF m 7 #[rv o0, rv o1, iv p2, iv (0 : Int32), .unset, .unset] [(.ref w1), (.int (0 : Int32))])) _
          refine mlen 8 X1 hx hby hZ e1 V_w1 d4_7 rfl ?_
          refine micmpNo 11 G1 d4_8 (tlt (by decide : (0 : Int32) < (2 : Int32))).2.1 rfl ?_
          refine maloadN 12 G1 d4_11 rfl rfl rfl ?_
          refine maloadN 13 G1 d4_12 rfl rfl rfl ?_
          refine st2 _ ?_
          show Steps p.tables e below (T2.setTop (mkF m 16 #[rv o0, rv o1, iv p2, iv (0 : Int32), .unset, .unset] [(.ref w1), (.ref o1)])) _
          refine miloadN 17 G2 d4_16 rfl rfl ?_
          refine miaload 18 X2 hx hby hZ e2 V_w1 (v := s0_) d4_17 ⟨by decide, by decide⟩ rfl rfl ?_
          refine mdaload 19 X2 hx hby hZ e2 V_o1 (v := (([c0_, c1_, c2_, c3_, c4_, c5_] : List UInt64).getD s0_.toNatClampNeg (0 : UInt64))) d4_18 (hin18) (own_getDD ([c0_, c1_, c2_, c3_, c4_, c5_] : List UInt64) _ _) rfl ?_
          refine mdstore 21 G2 d4_19 #[rv o0, rv o1, iv p2, iv (0 : Int32), dv (([c0_, c1_, c2_, c3_, c4_, c5_] : List UInt64).getD s0_.toNatClampNeg (0 : UInt64)), .second] rfl rfl ?_
          refine miloadN 22 G2 d4_21 rfl rfl ?_
          refine mifNo 25 G2 d4_22 ((if0 _ _).trans (feq hc22_3).1) rfl ?_
          refine mdload 27 G2 d4_25 rfl rfl ?_
          refine maloadN 28 G2 d4_27 rfl rfl rfl ?_
          refine st9 _ ?_
          show Steps p.tables e below (T9.setTop (mkF m 31 #[rv o0, rv o1, iv p2, iv (0 : Int32), dv (([c0_, c1_, c2_, c3_, c4_, c5_] : List UInt64).getD s0_.toNatClampNeg (0 : UInt64)), .second] [(.ref w2), (.double (([c0_, c1_, c2_, c3_, c4_, c5_] : List UInt64).getD s0_.toNatClampNeg (0 : UInt64)))])) _
          refine miloadN 32 G9 d4_31 rfl rfl ?_
          refine miaload 33 X9 hx hby hZ e9 V_w2 (v := a0_) d4_32 ⟨by decide, by decide⟩ rfl rfl ?_
          refine mi2d 34 G9 d4_33 rfl ?_
          refine mdcmp 35 G9 d4_34 rfl ?_
          refine mifYes 50 G9 d4_35 ((if0 _ _).trans (flt hc35_10).2.1) (by decide) rfl ?_
          refine miinc 53 G9 d4_50 rfl #[rv o0, rv o1, iv p2, iv (1 : Int32), dv (([c0_, c1_, c2_, c3_, c4_, c5_] : List UInt64).getD s0_.toNatClampNeg (0 : UInt64)), .second] rfl rfl ?_
          refine mgoto 2 G9 d4_53 (by decide) rfl ?_
          refine miloadN 3 G9 d4_2 rfl rfl ?_
          refine maloadN 4 G9 d4_3 rfl rfl rfl ?_
          refine st11 _ ?_
          show Steps p.tables e below (T11.setTop (mkF m 7 #[rv o0, rv o1, iv p2, iv (1 : Int32), dv (([c0_, c1_, c2_, c3_, c4_, c5_] : List UInt64).getD s0_.toNatClampNeg (0 : UInt64)), .second] [(.ref w1), (.int (1 : Int32))])) _
          refine mlen 8 X11 hx hby hZ e11 V_w1 d4_7 rfl ?_
          refine micmpNo 11 G11 d4_8 (tlt (by decide : (1 : Int32) < (2 : Int32))).2.1 rfl ?_
          refine maloadN 12 G11 d4_11 rfl rfl rfl ?_
          refine maloadN 13 G11 d4_12 rfl rfl rfl ?_
          refine st12 _ ?_
          show Steps p.tables e below (T12.setTop (mkF m 16 #[rv o0, rv o1, iv p2, iv (1 : Int32), dv (([c0_, c1_, c2_, c3_, c4_, c5_] : List UInt64).getD s0_.toNatClampNeg (0 : UInt64)), .second] [(.ref w1), (.ref o1)])) _
          refine miloadN 17 G12 d4_16 rfl rfl ?_
          refine miaload 18 X12 hx hby hZ e12 V_w1 (v := s1_) d4_17 ⟨by decide, by decide⟩ rfl rfl ?_
          refine mdaload 19 X12 hx hby hZ e12 V_o1 (v := (([c0_, c1_, c2_, c3_, c4_, c5_] : List UInt64).getD s1_.toNatClampNeg (0 : UInt64))) d4_18 (hin18'' hc22_3 hc35_10) (own_getDD ([c0_, c1_, c2_, c3_, c4_, c5_] : List UInt64) _ _) rfl ?_
          refine mdstore 21 G12 d4_19 #[rv o0, rv o1, iv p2, iv (1 : Int32), dv (([c0_, c1_, c2_, c3_, c4_, c5_] : List UInt64).getD s1_.toNatClampNeg (0 : UInt64)), .second] rfl rfl ?_
          refine miloadN 22 G12 d4_21 rfl rfl ?_
          refine mifNo 25 G12 d4_22 ((if0 _ _).trans (feq hc22_3).1) rfl ?_
          refine mdload 27 G12 d4_25 rfl rfl ?_
          refine maloadN 28 G12 d4_27 rfl rfl rfl ?_
          refine st13 _ ?_
          show Steps p.tables e below (T13.setTop (mkF m 31 #[rv o0, rv o1, iv p2, iv (1 : Int32), dv (([c0_, c1_, c2_, c3_, c4_, c5_] : List UInt64).getD s1_.toNatClampNeg (0 : UInt64)), .second] [(.ref w2), (.double (([c0_, c1_, c2_, c3_, c4_, c5_] : List UInt64).getD s1_.toNatClampNeg (0 : UInt64)))])) _
          refine miloadN 32 G13 d4_31 rfl rfl ?_
          refine miaload 33 X13 hx hby hZ e13 V_w2 (v := a1_) d4_32 ⟨by decide, by decide⟩ rfl rfl ?_
          refine mi2d 34 G13 d4_33 rfl ?_
          refine mdcmp 35 G13 d4_34 rfl ?_
          refine mifNo 38 G13 d4_35 ((if0 _ _).trans (tlt hc35_14).2.1) rfl ?_
          refine mgoto 48 G13 d4_38 (by decide) rfl ?_
          refine miloadN 49 G13 d4_48 rfl rfl ?_
          exact retOut X13 hx Bd.returns rfl (Or.inl ⟨rfl, Or.inl rfl, _, rfl⟩) (hb hby d4_49) hr
        · show Q4_2 Z o0 o1 p2 w1 w2 k1 s0_ s1_ k2 a0_ a1_ k3 c0_ c1_ c2_ c3_ c4_ c5_ h0 n0 _ T13.heap _
          rw [e13]
          exact ⟨by simp only [rv4_2, if_neg hc22_3, if_neg hc35_10, if_pos hc35_14], rfl, rfl⟩
      · obtain ⟨T15, X15, e15, st15⟩ := getF X13 hx hZ hown (host := "") (Or.inl (wd hw 16 rfl)) Via.refl e13 F_states_o0 (g := (mkF m 4 #[rv o0, rv o1, iv p2, iv (2 : Int32), dv (([c0_, c1_, c2_, c3_, c4_, c5_] : List UInt64).getD s1_.toNatClampNeg (0 : UInt64)), .second] [(.ref o0), (.int (2 : Int32))])) rfl rfl (hb hby d4_4)
        have G15 := gd X15 hx hby
        obtain ⟨fs, hr, hrun, hended, hW, hsame⟩ := X15.leave (v := some (.int (-1 : Int32))) (fun h => by rw [Bd.returns] at h; cases h)
        refine ⟨_, _, pre0 _ ?_, hrun, hended, _, _, rfl, ?_, ⟨_, rfl⟩, hW, hsame.mono (by decide) (by decide)⟩
        · show Steps p.tables e below (s₁.setTop (mkF m 0 #[rv o0, rv o1, iv p2, .unset, .unset, .unset] [])) _
          refine miconst 1 G0 d4_0 (v := (0 : Int32)) rfl rfl ?_
          refine mistoreN 2 G0 d4_1 #[rv o0, rv o1, iv p2, iv (0 : Int32), .unset, .unset] rfl rfl ?_
          refine miloadN 3 G0 d4_2 rfl rfl ?_
          refine maloadN 4 G0 d4_3 rfl rfl rfl ?_
          refine st1 _ ?_
          show Steps p.tables e below (T1.setTop (mkF m 7 #[rv o0, rv o1, iv p2, iv (0 : Int32), .unset, .unset] [(.ref w1), (.int (0 : Int32))])) _
          refine mlen 8 X1 hx hby hZ e1 V_w1 d4_7 rfl ?_
          refine micmpNo 11 G1 d4_8 (tlt (by decide : (0 : Int32) < (2 : Int32))).2.1 rfl ?_
          refine maloadN 12 G1 d4_11 rfl rfl rfl ?_
          refine maloadN 13 G1 d4_12 rfl rfl rfl ?_
          refine st2 _ ?_
          show Steps p.tables e below (T2.setTop (mkF m 16 #[rv o0, rv o1, iv p2, iv (0 : Int32), .unset, .unset] [(.ref w1), (.ref o1)])) _
          refine miloadN 17 G2 d4_16 rfl rfl ?_
          refine miaload 18 X2 hx hby hZ e2 V_w1 (v := s0_) d4_17 ⟨by decide, by decide⟩ rfl rfl ?_
          refine mdaload 19 X2 hx hby hZ e2 V_o1 (v := (([c0_, c1_, c2_, c3_, c4_, c5_] : List UInt64).getD s0_.toNatClampNeg (0 : UInt64))) d4_18 (hin18) (own_getDD ([c0_, c1_, c2_, c3_, c4_, c5_] : List UInt64) _ _) rfl ?_
          refine mdstore 21 G2 d4_19 #[rv o0, rv o1, iv p2, iv (0 : Int32), dv (([c0_, c1_, c2_, c3_, c4_, c5_] : List UInt64).getD s0_.toNatClampNeg (0 : UInt64)), .second] rfl rfl ?_
          refine miloadN 22 G2 d4_21 rfl rfl ?_
          refine mifNo 25 G2 d4_22 ((if0 _ _).trans (feq hc22_3).1) rfl ?_
          refine mdload 27 G2 d4_25 rfl rfl ?_
          refine maloadN 28 G2 d4_27 rfl rfl rfl ?_
          refine st9 _ ?_
          show Steps p.tables e below (T9.setTop (mkF m 31 #[rv o0, rv o1, iv p2, iv (0 : Int32), dv (([c0_, c1_, c2_, c3_, c4_, c5_] : List UInt64).getD s0_.toNatClampNeg (0 : UInt64)), .second] [(.ref w2), (.double (([c0_, c1_, c2_, c3_, c4_, c5_] : List UInt64).getD s0_.toNatClampNeg (0 : UInt64)))])) _
          refine miloadN 32 G9 d4_31 rfl rfl ?_
          refine miaload 33 X9 hx hby hZ e9 V_w2 (v := a0_) d4_32 ⟨by decide, by decide⟩ rfl rfl ?_
          refine mi2d 34 G9 d4_33 rfl ?_
          refine mdcmp 35 G9 d4_34 rfl ?_
          refine mifYes 50 G9 d4_35 ((if0 _ _).trans (flt hc35_10).2.1) (by decide) rfl ?_
          refine miinc 53 G9 d4_50 rfl #[rv o0, rv o1, iv p2, iv (1 : Int32), dv (([c0_, c1_, c2_, c3_, c4_, c5_] : List UInt64).getD s0_.toNatClampNeg (0 : UInt64)), .second] rfl rfl ?_
          refine mgoto 2 G9 d4_53 (by decide) rfl ?_
          refine miloadN 3 G9 d4_2 rfl rfl ?_
          refine maloadN 4 G9 d4_3 rfl rfl rfl ?_
          refine st11 _ ?_
          show Steps p.tables e below (T11.setTop (mkF m 7 #[rv o0, rv o1, iv p2, iv (1 : Int32), dv (([c0_, c1_, c2_, c3_, c4_, c5_] : List UInt64).getD s0_.toNatClampNeg (0 : UInt64)), .second] [(.ref w1), (.int (1 : Int32))])) _
          refine mlen 8 X11 hx hby hZ e11 V_w1 d4_7 rfl ?_
          refine micmpNo 11 G11 d4_8 (tlt (by decide : (1 : Int32) < (2 : Int32))).2.1 rfl ?_
          refine maloadN 12 G11 d4_11 rfl rfl rfl ?_
          refine maloadN 13 G11 d4_12 rfl rfl rfl ?_
          refine st12 _ ?_
          show Steps p.tables e below (T12.setTop (mkF m 16 #[rv o0, rv o1, iv p2, iv (1 : Int32), dv (([c0_, c1_, c2_, c3_, c4_, c5_] : List UInt64).getD s0_.toNatClampNeg (0 : UInt64)), .second] [(.ref w1), (.ref o1)])) _
          refine miloadN 17 G12 d4_16 rfl rfl ?_
          refine miaload 18 X12 hx hby hZ e12 V_w1 (v := s1_) d4_17 ⟨by decide, by decide⟩ rfl rfl ?_
          refine mdaload 19 X12 hx hby hZ e12 V_o1 (v := (([c0_, c1_, c2_, c3_, c4_, c5_] : List UInt64).getD s1_.toNatClampNeg (0 : UInt64))) d4_18 (hin18'' hc22_3 hc35_10) (own_getDD ([c0_, c1_, c2_, c3_, c4_, c5_] : List UInt64) _ _) rfl ?_
          refine mdstore 21 G12 d4_19 #[rv o0, rv o1, iv p2, iv (1 : Int32), dv (([c0_, c1_, c2_, c3_, c4_, c5_] : List UInt64).getD s1_.toNatClampNeg (0 : UInt64)), .second] rfl rfl ?_
          refine miloadN 22 G12 d4_21 rfl rfl ?_
          refine mifNo 25 G12 d4_22 ((if0 _ _).trans (feq hc22_3).1) rfl ?_
          refine mdload 27 G12 d4_25 rfl rfl ?_
          refine maloadN 28 G12 d4_27 rfl rfl rfl ?_
          refine st13 _ ?_
          show Steps p.tables e below (T13.setTop (mkF m 31 #[rv o0, rv o1, iv p2, iv (1 : Int32), dv (([c0_, c1_, c2_, c3_, c4_, c5_] : List UInt64).getD s1_.toNatClampNeg (0 : UInt64)), .second] [(.ref w2), (.double (([c0_, c1_, c2_, c3_, c4_, c5_] : List UInt64).getD s1_.toNatClampNeg (0 : UInt64)))])) _
          refine miloadN 32 G13 d4_31 rfl rfl ?_
          refine miaload 33 X13 hx hby hZ e13 V_w2 (v := a1_) d4_32 ⟨by decide, by decide⟩ rfl rfl ?_
          refine mi2d 34 G13 d4_33 rfl ?_
          refine mdcmp 35 G13 d4_34 rfl ?_
          refine mifYes 50 G13 d4_35 ((if0 _ _).trans (flt hc35_14).2.1) (by decide) rfl ?_
          refine miinc 53 G13 d4_50 rfl #[rv o0, rv o1, iv p2, iv (2 : Int32), dv (([c0_, c1_, c2_, c3_, c4_, c5_] : List UInt64).getD s1_.toNatClampNeg (0 : UInt64)), .second] rfl rfl ?_
          refine mgoto 2 G13 d4_53 (by decide) rfl ?_
          refine miloadN 3 G13 d4_2 rfl rfl ?_
          refine maloadN 4 G13 d4_3 rfl rfl rfl ?_
          refine st15 _ ?_
          show Steps p.tables e below (T15.setTop (mkF m 7 #[rv o0, rv o1, iv p2, iv (2 : Int32), dv (([c0_, c1_, c2_, c3_, c4_, c5_] : List UInt64).getD s1_.toNatClampNeg (0 : UInt64)), .second] [(.ref w1), (.int (2 : Int32))])) _
          refine mlen 8 X15 hx hby hZ e15 V_w1 d4_7 rfl ?_
          refine micmpYes 56 G15 d4_8 (flt (by decide : ¬ ((2 : Int32) < (2 : Int32)))).2.1 (by decide) rfl ?_
          refine miconst 57 G15 d4_56 (v := (-1 : Int32)) rfl rfl ?_
          exact retOut X15 hx Bd.returns rfl (Or.inl ⟨rfl, Or.inl rfl, _, rfl⟩) (hb hby d4_57) hr
        · show Q4_2 Z o0 o1 p2 w1 w2 k1 s0_ s1_ k2 a0_ a1_ k3 c0_ c1_ c2_ c3_ c4_ c5_ h0 n0 _ T15.heap _
          rw [e15]
          exact ⟨by simp only [rv4_2, if_neg hc22_3, if_neg hc35_10, if_neg hc35_14], rfl, rfl⟩
theorem ef0_2 (m : MethodId) (p0 : Int32) (p1 : Int32) (p2 : Int32) (p3 : Int32) : entryFrame m #[(.int p0), (.int p1), (.int p2), (.int p3)] maxLocals = mkF m 0 #[iv p0, iv p1, iv p2, iv p3, .unset, .unset, .unset, .unset, .unset, .unset, .unset, .unset, .unset, .unset, .unset, .unset, .unset, .unset, .unset, .unset, .unset, .unset] [] := by first | (simp [entryFrame, mkF, argsToLocals, Value.category, maxLocals]; done) | rfl
theorem own_rm0_2_hp_hin18_355 (p0 : Int32) (p1 : Int32) (p2 : Int32) (p3 : Int32) (x3 : Int32) (hx3 : x3 = (if (((p0.toUInt32 >>> ((2 : Int32) &&& 31).toUInt32).toInt32) &&& (1 : Int32)) = (0 : Int32) then (0 : Int32) else (1 : Int32))) (x4 : Int32) (hx4 : x4 = (p1 &&& (1 : Int32))) (x5 : Int32) (hx5 : x5 = ((x4 + (1 : Int32)) + (((p1.toUInt32 >>> ((1 : Int32) &&& 31).toUInt32).toInt32) &&& (1 : Int32)))) (x6 : Int32) (hx6 : x6 = ((x5 + (1 : Int32)) + (((p1.toUInt32 >>> ((2 : Int32) &&& 31).toUInt32).toInt32) &&& (1 : Int32)))) (x7 : Int32) (hx7 : x7 = ((1 : Int32) + (p2 &&& (3 : Int32)))) (x8 : Int32) (hx8 : x8 = ((1 : Int32) + (((p2.toUInt32 >>> ((2 : Int32) &&& 31).toUInt32).toInt32) &&& (3 : Int32)))) (x9 : Int32) (hx9 : x9 = ((1 : Int32) + (((p2.toUInt32 >>> ((4 : Int32) &&& 31).toUInt32).toInt32) &&& (3 : Int32)))) (x11 : Int32) (hx11 : x11 = (p3 &&& (7 : Int32))) (x15 : Int32) (hx15 : x15 = (((p3.toUInt32 >>> ((3 : Int32) &&& 31).toUInt32).toInt32) &&& (7 : Int32))) (x19 : Int32) (hx19 : x19 = (((p3.toUInt32 >>> ((6 : Int32) &&& 31).toUInt32).toInt32) &&& (7 : Int32))) (x23 : Int32) (hx23 : x23 = (((p3.toUInt32 >>> ((9 : Int32) &&& 31).toUInt32).toInt32) &&& (7 : Int32))) (x27 : Int32) (hx27 : x27 = (((p3.toUInt32 >>> ((12 : Int32) &&& 31).toUInt32).toInt32) &&& (7 : Int32))) (x31 : Int32) (hx31 : x31 = (((p3.toUInt32 >>> ((15 : Int32) &&& 31).toUInt32).toInt32) &&& (7 : Int32))) (x37 : UInt64) (hx37 : x37 = (FP.i2d x11)) (x44 : UInt64) (hx44 : x44 = (FP.i2d x15)) (x51 : UInt64) (hx51 : x51 = (FP.i2d x19)) (x58 : UInt64) (hx58 : x58 = (FP.i2d x23)) (x65 : UInt64) (hx65 : x65 = (FP.i2d x27)) (x72 : UInt64) (hx72 : x72 = (FP.i2d x31)) (hpin3 : ((p0 &&& (3 : Int32)) = (2 : Int32))) : ¬ x4 < 0 ∧ x4 < (6 : Int32) := own_in (own_s hx4 hx5 hx6).1
theorem own_rm0_2_hp_hin18_355_1 (p0 : Int32) (p1 : Int32) (p2 : Int32) (p3 : Int32) (x3 : Int32) (hx3 : x3 = (if (((p0.toUInt32 >>> ((2 : Int32) &&& 31).toUInt32).toInt32) &&& (1 : Int32)) = (0 : Int32) then (0 : Int32) else (1 : Int32))) (x4 : Int32) (hx4 : x4 = (p1 &&& (1 : Int32))) (x5 : Int32) (hx5 : x5 = ((x4 + (1 : Int32)) + (((p1.toUInt32 >>> ((1 : Int32) &&& 31).toUInt32).toInt32) &&& (1 : Int32)))) (x6 : Int32) (hx6 : x6 = ((x5 + (1 : Int32)) + (((p1.toUInt32 >>> ((2 : Int32) &&& 31).toUInt32).toInt32) &&& (1 : Int32)))) (x7 : Int32) (hx7 : x7 = ((1 : Int32) + (p2 &&& (3 : Int32)))) (x8 : Int32) (hx8 : x8 = ((1 : Int32) + (((p2.toUInt32 >>> ((2 : Int32) &&& 31).toUInt32).toInt32) &&& (3 : Int32)))) (x9 : Int32) (hx9 : x9 = ((1 : Int32) + (((p2.toUInt32 >>> ((4 : Int32) &&& 31).toUInt32).toInt32) &&& (3 : Int32)))) (x11 : Int32) (hx11 : x11 = (p3 &&& (7 : Int32))) (x15 : Int32) (hx15 : x15 = (((p3.toUInt32 >>> ((3 : Int32) &&& 31).toUInt32).toInt32) &&& (7 : Int32))) (x19 : Int32) (hx19 : x19 = (((p3.toUInt32 >>> ((6 : Int32) &&& 31).toUInt32).toInt32) &&& (7 : Int32))) (x23 : Int32) (hx23 : x23 = (((p3.toUInt32 >>> ((9 : Int32) &&& 31).toUInt32).toInt32) &&& (7 : Int32))) (x27 : Int32) (hx27 : x27 = (((p3.toUInt32 >>> ((12 : Int32) &&& 31).toUInt32).toInt32) &&& (7 : Int32))) (x31 : Int32) (hx31 : x31 = (((p3.toUInt32 >>> ((15 : Int32) &&& 31).toUInt32).toInt32) &&& (7 : Int32))) (x37 : UInt64) (hx37 : x37 = (FP.i2d x11)) (x44 : UInt64) (hx44 : x44 = (FP.i2d x15)) (x51 : UInt64) (hx51 : x51 = (FP.i2d x19)) (x58 : UInt64) (hx58 : x58 = (FP.i2d x23)) (x65 : UInt64) (hx65 : x65 = (FP.i2d x27)) (x72 : UInt64) (hx72 : x72 = (FP.i2d x31)) (hpin3 : ((p0 &&& (3 : Int32)) = (2 : Int32))) : (x3 = (0 : Int32)) → (¬ ((cmpValue (FP.dcmp (([x37, x44, x51, x58, x65, x72] : List UInt64).getD x4.toNatClampNeg (0 : UInt64)) (0 : UInt64)) .l) = (0 : Int32))) → ¬ x5 < 0 ∧ x5 < (6 : Int32) := fun _ _ => own_in (own_s hx4 hx5 hx6).2.1
theorem own_rm0_2_hp_hin18_355_2 (p0 : Int32) (p1 : Int32) (p2 : Int32) (p3 : Int32) (x3 : Int32) (hx3 : x3 = (if (((p0.toUInt32 >>> ((2 : Int32) &&& 31).toUInt32).toInt32) &&& (1 : Int32)) = (0 : Int32) then (0 : Int32) else (1 : Int32))) (x4 : Int32) (hx4 : x4 = (p1 &&& (1 : Int32))) (x5 : Int32) (hx5 : x5 = ((x4 + (1 : Int32)) + (((p1.toUInt32 >>> ((1 : Int32) &&& 31).toUInt32).toInt32) &&& (1 : Int32)))) (x6 : Int32) (hx6 : x6 = ((x5 + (1 : Int32)) + (((p1.toUInt32 >>> ((2 : Int32) &&& 31).toUInt32).toInt32) &&& (1 : Int32)))) (x7 : Int32) (hx7 : x7 = ((1 : Int32) + (p2 &&& (3 : Int32)))) (x8 : Int32) (hx8 : x8 = ((1 : Int32) + (((p2.toUInt32 >>> ((2 : Int32) &&& 31).toUInt32).toInt32) &&& (3 : Int32)))) (x9 : Int32) (hx9 : x9 = ((1 : Int32) + (((p2.toUInt32 >>> ((4 : Int32) &&& 31).toUInt32).toInt32) &&& (3 : Int32)))) (x11 : Int32) (hx11 : x11 = (p3 &&& (7 : Int32))) (x15 : Int32) (hx15 : x15 = (((p3.toUInt32 >>> ((3 : Int32) &&& 31).toUInt32).toInt32) &&& (7 : Int32))) (x19 : Int32) (hx19 : x19 = (((p3.toUInt32 >>> ((6 : Int32) &&& 31).toUInt32).toInt32) &&& (7 : Int32))) (x23 : Int32) (hx23 : x23 = (((p3.toUInt32 >>> ((9 : Int32) &&& 31).toUInt32).toInt32) &&& (7 : Int32))) (x27 : Int32) (hx27 : x27 = (((p3.toUInt32 >>> ((12 : Int32) &&& 31).toUInt32).toInt32) &&& (7 : Int32))) (x31 : Int32) (hx31 : x31 = (((p3.toUInt32 >>> ((15 : Int32) &&& 31).toUInt32).toInt32) &&& (7 : Int32))) (x37 : UInt64) (hx37 : x37 = (FP.i2d x11)) (x44 : UInt64) (hx44 : x44 = (FP.i2d x15)) (x51 : UInt64) (hx51 : x51 = (FP.i2d x19)) (x58 : UInt64) (hx58 : x58 = (FP.i2d x23)) (x65 : UInt64) (hx65 : x65 = (FP.i2d x27)) (x72 : UInt64) (hx72 : x72 = (FP.i2d x31)) (hpin3 : ((p0 &&& (3 : Int32)) = (2 : Int32))) : (¬ (x3 = (0 : Int32))) → (¬ ((cmpValue (FP.dcmp (([x37, x44, x51, x58, x65, x72] : List UInt64).getD x4.toNatClampNeg (0 : UInt64)) (FP.i2d x7)) .g) < (0 : Int32))) → ¬ x5 < 0 ∧ x5 < (6 : Int32) := fun _ _ => own_in (own_s hx4 hx5 hx6).2.1
theorem own_rm0_2_hin364 (p0 : Int32) (p1 : Int32) (p2 : Int32) (p3 : Int32) (x3 : Int32) (hx3 : x3 = (if (((p0.toUInt32 >>> ((2 : Int32) &&& 31).toUInt32).toInt32) &&& (1 : Int32)) = (0 : Int32) then (0 : Int32) else (1 : Int32))) (x4 : Int32) (hx4 : x4 = (p1 &&& (1 : Int32))) (x5 : Int32) (hx5 : x5 = ((x4 + (1 : Int32)) + (((p1.toUInt32 >>> ((1 : Int32) &&& 31).toUInt32).toInt32) &&& (1 : Int32)))) (x6 : Int32) (hx6 : x6 = ((x5 + (1 : Int32)) + (((p1.toUInt32 >>> ((2 : Int32) &&& 31).toUInt32).toInt32) &&& (1 : Int32)))) (x7 : Int32) (hx7 : x7 = ((1 : Int32) + (p2 &&& (3 : Int32)))) (x8 : Int32) (hx8 : x8 = ((1 : Int32) + (((p2.toUInt32 >>> ((2 : Int32) &&& 31).toUInt32).toInt32) &&& (3 : Int32)))) (x9 : Int32) (hx9 : x9 = ((1 : Int32) + (((p2.toUInt32 >>> ((4 : Int32) &&& 31).toUInt32).toInt32) &&& (3 : Int32)))) (x11 : Int32) (hx11 : x11 = (p3 &&& (7 : Int32))) (x15 : Int32) (hx15 : x15 = (((p3.toUInt32 >>> ((3 : Int32) &&& 31).toUInt32).toInt32) &&& (7 : Int32))) (x19 : Int32) (hx19 : x19 = (((p3.toUInt32 >>> ((6 : Int32) &&& 31).toUInt32).toInt32) &&& (7 : Int32))) (x23 : Int32) (hx23 : x23 = (((p3.toUInt32 >>> ((9 : Int32) &&& 31).toUInt32).toInt32) &&& (7 : Int32))) (x27 : Int32) (hx27 : x27 = (((p3.toUInt32 >>> ((12 : Int32) &&& 31).toUInt32).toInt32) &&& (7 : Int32))) (x31 : Int32) (hx31 : x31 = (((p3.toUInt32 >>> ((15 : Int32) &&& 31).toUInt32).toInt32) &&& (7 : Int32))) (x37 : UInt64) (hx37 : x37 = (FP.i2d x11)) (x44 : UInt64) (hx44 : x44 = (FP.i2d x15)) (x51 : UInt64) (hx51 : x51 = (FP.i2d x19)) (x58 : UInt64) (hx58 : x58 = (FP.i2d x23)) (x65 : UInt64) (hx65 : x65 = (FP.i2d x27)) (x72 : UInt64) (hx72 : x72 = (FP.i2d x31)) (x165 : Int32) (hx165 : x165 = (rv4_2 x3 x4 x5 x7 x8 x37 x44 x51 x58 x65 x72)) (hpin3 : ((p0 &&& (3 : Int32)) = (2 : Int32))) : ¬ x4 < 0 ∧ x4 < (6 : Int32) := own_in (own_s hx4 hx5 hx6).1
theorem own_rm0_2_hin378 (p0 : Int32) (p1 : Int32) (p2 : Int32) (p3 : Int32) (x3 : Int32) (hx3 : x3 = (if (((p0.toUInt32 >>> ((2 : Int32) &&& 31).toUInt32).toInt32) &&& (1 : Int32)) = (0 : Int32) then (0 : Int32) else (1 : Int32))) (x4 : Int32) (hx4 : x4 = (p1 &&& (1 : Int32))) (x5 : Int32) (hx5 : x5 = ((x4 + (1 : Int32)) + (((p1.toUInt32 >>> ((1 : Int32) &&& 31).toUInt32).toInt32) &&& (1 : Int32)))) (x6 : Int32) (hx6 : x6 = ((x5 + (1 : Int32)) + (((p1.toUInt32 >>> ((2 : Int32) &&& 31).toUInt32).toInt32) &&& (1 : Int32)))) (x7 : Int32) (hx7 : x7 = ((1 : Int32) + (p2 &&& (3 : Int32)))) (x8 : Int32) (hx8 : x8 = ((1 : Int32) + (((p2.toUInt32 >>> ((2 : Int32) &&& 31).toUInt32).toInt32) &&& (3 : Int32)))) (x9 : Int32) (hx9 : x9 = ((1 : Int32) + (((p2.toUInt32 >>> ((4 : Int32) &&& 31).toUInt32).toInt32) &&& (3 : Int32)))) (x11 : Int32) (hx11 : x11 = (p3 &&& (7 : Int32))) (x15 : Int32) (hx15 : x15 = (((p3.toUInt32 >>> ((3 : Int32) &&& 31).toUInt32).toInt32) &&& (7 : Int32))) (x19 : Int32) (hx19 : x19 = (((p3.toUInt32 >>> ((6 : Int32) &&& 31).toUInt32).toInt32) &&& (7 : Int32))) (x23 : Int32) (hx23 : x23 = (((p3.toUInt32 >>> ((9 : Int32) &&& 31).toUInt32).toInt32) &&& (7 : Int32))) (x27 : Int32) (hx27 : x27 = (((p3.toUInt32 >>> ((12 : Int32) &&& 31).toUInt32).toInt32) &&& (7 : Int32))) (x31 : Int32) (hx31 : x31 = (((p3.toUInt32 >>> ((15 : Int32) &&& 31).toUInt32).toInt32) &&& (7 : Int32))) (x37 : UInt64) (hx37 : x37 = (FP.i2d x11)) (x44 : UInt64) (hx44 : x44 = (FP.i2d x15)) (x51 : UInt64) (hx51 : x51 = (FP.i2d x19)) (x58 : UInt64) (hx58 : x58 = (FP.i2d x23)) (x65 : UInt64) (hx65 : x65 = (FP.i2d x27)) (x72 : UInt64) (hx72 : x72 = (FP.i2d x31)) (x165 : Int32) (hx165 : x165 = (rv4_2 x3 x4 x5 x7 x8 x37 x44 x51 x58 x65 x72)) (x167 : Int32) (hx167 : x167 = (rv5 (([x11, x15, x19, x23, x27, x31] : List Int32).getD x4.toNatClampNeg (0 : Int32)) x7 x3)) (hpin3 : ((p0 &&& (3 : Int32)) = (2 : Int32))) : ¬ x5 < 0 ∧ x5 < (6 : Int32) := own_in (own_s hx4 hx5 hx6).2.1
theorem own_rm0_2_hin392 (p0 : Int32) (p1 : Int32) (p2 : Int32) (p3 : Int32) (x3 : Int32) (hx3 : x3 = (if (((p0.toUInt32 >>> ((2 : Int32) &&& 31).toUInt32).toInt32) &&& (1 : Int32)) = (0 : Int32) then (0 : Int32) else (1 : Int32))) (x4 : Int32) (hx4 : x4 = (p1 &&& (1 : Int32))) (x5 : Int32) (hx5 : x5 = ((x4 + (1 : Int32)) + (((p1.toUInt32 >>> ((1 : Int32) &&& 31).toUInt32).toInt32) &&& (1 : Int32)))) (x6 : Int32) (hx6 : x6 = ((x5 + (1 : Int32)) + (((p1.toUInt32 >>> ((2 : Int32) &&& 31).toUInt32).toInt32) &&& (1 : Int32)))) (x7 : Int32) (hx7 : x7 = ((1 : Int32) + (p2 &&& (3 : Int32)))) (x8 : Int32) (hx8 : x8 = ((1 : Int32) + (((p2.toUInt32 >>> ((2 : Int32) &&& 31).toUInt32).toInt32) &&& (3 : Int32)))) (x9 : Int32) (hx9 : x9 = ((1 : Int32) + (((p2.toUInt32 >>> ((4 : Int32) &&& 31).toUInt32).toInt32) &&& (3 : Int32)))) (x11 : Int32) (hx11 : x11 = (p3 &&& (7 : Int32))) (x15 : Int32) (hx15 : x15 = (((p3.toUInt32 >>> ((3 : Int32) &&& 31).toUInt32).toInt32) &&& (7 : Int32))) (x19 : Int32) (hx19 : x19 = (((p3.toUInt32 >>> ((6 : Int32) &&& 31).toUInt32).toInt32) &&& (7 : Int32))) (x23 : Int32) (hx23 : x23 = (((p3.toUInt32 >>> ((9 : Int32) &&& 31).toUInt32).toInt32) &&& (7 : Int32))) (x27 : Int32) (hx27 : x27 = (((p3.toUInt32 >>> ((12 : Int32) &&& 31).toUInt32).toInt32) &&& (7 : Int32))) (x31 : Int32) (hx31 : x31 = (((p3.toUInt32 >>> ((15 : Int32) &&& 31).toUInt32).toInt32) &&& (7 : Int32))) (x37 : UInt64) (hx37 : x37 = (FP.i2d x11)) (x44 : UInt64) (hx44 : x44 = (FP.i2d x15)) (x51 : UInt64) (hx51 : x51 = (FP.i2d x19)) (x58 : UInt64) (hx58 : x58 = (FP.i2d x23)) (x65 : UInt64) (hx65 : x65 = (FP.i2d x27)) (x72 : UInt64) (hx72 : x72 = (FP.i2d x31)) (x165 : Int32) (hx165 : x165 = (rv4_2 x3 x4 x5 x7 x8 x37 x44 x51 x58 x65 x72)) (x167 : Int32) (hx167 : x167 = (rv5 (([x11, x15, x19, x23, x27, x31] : List Int32).getD x4.toNatClampNeg (0 : Int32)) x7 x3)) (x169 : Int32) (hx169 : x169 = (rv5 (([x11, x15, x19, x23, x27, x31] : List Int32).getD x5.toNatClampNeg (0 : Int32)) x8 x3)) (hpin3 : ((p0 &&& (3 : Int32)) = (2 : Int32))) : ¬ x6 < 0 ∧ x6 < (6 : Int32) := own_in (own_s hx4 hx5 hx6).2.2
theorem own_rm0_2_end (p0 : Int32) (p1 : Int32) (p2 : Int32) (p3 : Int32) (x3 : Int32) (hx3 : x3 = (if (((p0.toUInt32 >>> ((2 : Int32) &&& 31).toUInt32).toInt32) &&& (1 : Int32)) = (0 : Int32) then (0 : Int32) else (1 : Int32))) (x4 : Int32) (hx4 : x4 = (p1 &&& (1 : Int32))) (x5 : Int32) (hx5 : x5 = ((x4 + (1 : Int32)) + (((p1.toUInt32 >>> ((1 : Int32) &&& 31).toUInt32).toInt32) &&& (1 : Int32)))) (x6 : Int32) (hx6 : x6 = ((x5 + (1 : Int32)) + (((p1.toUInt32 >>> ((2 : Int32) &&& 31).toUInt32).toInt32) &&& (1 : Int32)))) (x7 : Int32) (hx7 : x7 = ((1 : Int32) + (p2 &&& (3 : Int32)))) (x8 : Int32) (hx8 : x8 = ((1 : Int32) + (((p2.toUInt32 >>> ((2 : Int32) &&& 31).toUInt32).toInt32) &&& (3 : Int32)))) (x9 : Int32) (hx9 : x9 = ((1 : Int32) + (((p2.toUInt32 >>> ((4 : Int32) &&& 31).toUInt32).toInt32) &&& (3 : Int32)))) (x11 : Int32) (hx11 : x11 = (p3 &&& (7 : Int32))) (x15 : Int32) (hx15 : x15 = (((p3.toUInt32 >>> ((3 : Int32) &&& 31).toUInt32).toInt32) &&& (7 : Int32))) (x19 : Int32) (hx19 : x19 = (((p3.toUInt32 >>> ((6 : Int32) &&& 31).toUInt32).toInt32) &&& (7 : Int32))) (x23 : Int32) (hx23 : x23 = (((p3.toUInt32 >>> ((9 : Int32) &&& 31).toUInt32).toInt32) &&& (7 : Int32))) (x27 : Int32) (hx27 : x27 = (((p3.toUInt32 >>> ((12 : Int32) &&& 31).toUInt32).toInt32) &&& (7 : Int32))) (x31 : Int32) (hx31 : x31 = (((p3.toUInt32 >>> ((15 : Int32) &&& 31).toUInt32).toInt32) &&& (7 : Int32))) (x37 : UInt64) (hx37 : x37 = (FP.i2d x11)) (x44 : UInt64) (hx44 : x44 = (FP.i2d x15)) (x51 : UInt64) (hx51 : x51 = (FP.i2d x19)) (x58 : UInt64) (hx58 : x58 = (FP.i2d x23)) (x65 : UInt64) (hx65 : x65 = (FP.i2d x27)) (x72 : UInt64) (hx72 : x72 = (FP.i2d x31)) (x165 : Int32) (hx165 : x165 = (rv4_2 x3 x4 x5 x7 x8 x37 x44 x51 x58 x65 x72)) (x167 : Int32) (hx167 : x167 = (rv5 (([x11, x15, x19, x23, x27, x31] : List Int32).getD x4.toNatClampNeg (0 : Int32)) x7 x3)) (x169 : Int32) (hx169 : x169 = (rv5 (([x11, x15, x19, x23, x27, x31] : List Int32).getD x5.toNatClampNeg (0 : Int32)) x8 x3)) (x171 : Int32) (hx171 : x171 = (rv5 (([x11, x15, x19, x23, x27, x31] : List Int32).getD x6.toNatClampNeg (0 : Int32)) x9 x3)) (x174 : Int32) (hx174 : x174 = (if x167 = (0 : Int32) then (if x169 = (0 : Int32) then (-1 : Int32) else (1 : Int32)) else (0 : Int32))) (x178 : Int32) (hx178 : x178 = (if x165 = x174 then (1 : Int32) else (0 : Int32))) (hpin3 : ((p0 &&& (3 : Int32)) = (2 : Int32))) : x178 = 1 := by
  subst hx37 hx44 hx51 hx58 hx65 hx72
  have key : x165 = x174 := by
    rw [hx165, hx174, hx167, hx169]
    unfold rv4_2 rv5
    simp only [own_gd, own_c0, own_cl]
    have ne : ¬ ((1 : Int32) = 0) := by decide
    have e0 : (0 : Int32) = 0 := rfl
    generalize (([x11, x15, x19, x23, x27, x31] : List Int32).getD x4.toNatClampNeg (0 : Int32)) = V0
    generalize (([x11, x15, x19, x23, x27, x31] : List Int32).getD x5.toNatClampNeg (0 : Int32)) = V1
    by_cases hz : x3 = 0
    · simp only [if_pos hz]
      by_cases h0 : V0 = 0
      · simp only [if_pos h0, if_neg ne]
      · have _k := h0
        by_cases h1 : V1 = 0
        · simp only [if_neg h0, if_pos h1, if_neg ne, if_pos e0, if_true]
        · simp only [if_neg h0, if_neg h1, if_pos e0, if_true]
    · simp only [if_neg hz]
      by_cases h0 : V0 < x7
      · simp only [if_pos h0, if_neg ne]
      · have _k := h0
        by_cases h1 : V1 < x8
        · simp only [if_neg h0, if_pos h1, if_neg ne, if_pos e0, if_true]
        · simp only [if_neg h0, if_neg h1, if_pos e0, if_true]
  rw [hx178, if_pos key]
set_option maxRecDepth 65536 in
set_option maxHeartbeats 40000000 in
theorem rm0_2 (l : Launch) (Z : State) (a0 : Array Value) (hw : ∀ d ∈ tables_1, d.before a0 Z = true) (ws : List Jvm.Cond) (p0 : Int32) (p1 : Int32) (p2 : Int32) (p3 : Int32)  (h0 : Heap) (n0 : Nat) (Z0 : n0 ≤ h0.size) (hpin3 : (p0 &&& (3 : Int32)) = (2 : Int32)) :
    MetFree l x (head1 (Jvm.Cond.code x code maxLocals ret :: ws) room_1) (fun a U => a = #[(.int p0), (.int p1), (.int p2), (.int p3)] ∧ Z.Warmed39 U.vm ∧ U.heap = h0) (fun _ _ _ _ _ => True) (fun _ U o U' => ∃ v L, o = .returned v ∧ Q0 Z p0 p1 p2 p3 h0 n0 v U'.heap L ∧ FrameEnd U o U' L room_1.cells room_1.slots) := by
  refine MetFree.of_bodySF (plainFor_of_name pn_0) hisR ?_
  intro p e s m args below meth c s₁ Bd hml0 hP hK
  obtain ⟨rfl, hZ, hh⟩ := hP
  have hx := Bd.exec
  have hby := Bd.bytes
  have hml : c.maxLocals = 22 := hml0
  have hown : s.vm.findClass "com/example/oceanus/oceanus/analysis/TakenUnmadePinLaw" = some m.cls := findClass_of_methodNamed Bd.named
  have hnm := (name_of_methodNamed Bd.named Bd.method).1
  have X0 : Stand p l e room_1 s m #[(.int p0), (.int p1), (.int p2), (.int p3)] below meth c s₁ [] 0 0 := Stand.of_body Bd
  have e0 : s₁.heap = h0 := by rw [← hh, Bd.state]; rfl
  have N0 := Fr.nil n0
  have G0 := gd X0 hx hby
  have pre0 : ∀ t, Steps p.tables e below (s₁.setTop (mkF m 0 #[iv p0, iv p1, iv p2, iv p3, .unset, .unset, .unset, .unset, .unset, .unset, .unset, .unset, .unset, .unset, .unset, .unset, .unset, .unset, .unset, .unset, .unset, .unset] [])) t → Steps p.tables e below (s₁.setTop (entryFrame m #[(.int p0), (.int p1), (.int p2), (.int p3)] maxLocals)) t := fun t k => castTop (ef0_2 m p0 p1 p2 p3) k
  obtain ⟨x3, hx3⟩ : ∃ z : Int32, z = (if (((p0.toUInt32 >>> ((2 : Int32) &&& 31).toUInt32).toInt32) &&& (1 : Int32)) = (0 : Int32) then (0 : Int32) else (1 : Int32)) := ⟨_, rfl⟩
  obtain ⟨T2, X2, e2, st2⟩ : ∃ T' : State, Stand p l e room_1 s m #[(.int p0), (.int p1), (.int p2), (.int p3)] below meth c T' [] 0 0 ∧ T'.heap = h0 ∧ ∀ target, Steps p.tables e below (T'.setTop (mkF m 18 #[iv p0, iv p1, iv p2, iv p3, iv (2 : Int32), .unset, .unset, .unset, .unset, .unset, .unset, .unset, .unset, .unset, .unset, .unset, .unset, .unset, .unset, .unset, .unset, .unset] [(.int x3)])) target → Steps p.tables e below (s₁.setTop (mkF m 10 #[iv p0, iv p1, iv p2, iv p3, iv (2 : Int32), .unset, .unset, .unset, .unset, .unset, .unset, .unset, .unset, .unset, .unset, .unset, .unset, .unset, .unset, .unset, .unset, .unset] [(.int (((p0.toUInt32 >>> ((2 : Int32) &&& 31).toUInt32).toInt32) &&& (1 : Int32)))])) target := by
    by_cases hc10_1 : (((p0.toUInt32 >>> ((2 : Int32) &&& 31).toUInt32).toInt32) &&& (1 : Int32)) = (0 : Int32)
    · refine ⟨s₁, X0, e0, fun target kt => ?_⟩
      refine mifYes 17 G0 at_10 ((if0 _ _).trans (teq hc10_1).1) (by decide) rfl ?_
      refine miconst 18 G0 at_17 (v := (0 : Int32)) rfl rfl ?_
      exact castTop (g' := (mkF m 18 #[iv p0, iv p1, iv p2, iv p3, iv (2 : Int32), .unset, .unset, .unset, .unset, .unset, .unset, .unset, .unset, .unset, .unset, .unset, .unset, .unset, .unset, .unset, .unset, .unset] [(.int x3)])) (by simp only [hx3, if_pos hc10_1]) kt
    · refine ⟨s₁, X0, e0, fun target kt => ?_⟩
      refine mifNo 13 G0 at_10 ((if0 _ _).trans (feq hc10_1).1) rfl ?_
      refine miconst 14 G0 at_13 (v := (1 : Int32)) rfl rfl ?_
      refine mgoto 18 G0 at_14 (by decide) rfl ?_
      exact castTop (g' := (mkF m 18 #[iv p0, iv p1, iv p2, iv p3, iv (2 : Int32), .unset, .unset, .unset, .unset, .unset, .unset, .unset, .unset, .unset, .unset, .unset, .unset, .unset, .unset, .unset, .unset, .unset] [(.int x3)])) (by simp only [hx3, if_neg hc10_1]) kt
  have G2 := gd X2 hx hby
  obtain ⟨x4, hx4⟩ : ∃ z : Int32, z = (p1 &&& (1 : Int32)) := ⟨_, rfl⟩
  obtain ⟨x5, hx5⟩ : ∃ z : Int32, z = ((x4 + (1 : Int32)) + (((p1.toUInt32 >>> ((1 : Int32) &&& 31).toUInt32).toInt32) &&& (1 : Int32))) := ⟨_, rfl⟩
  obtain ⟨x6, hx6⟩ : ∃ z : Int32, z = ((x5 + (1 : Int32)) + (((p1.toUInt32 >>> ((2 : Int32) &&& 31).toUInt32).toInt32) &&& (1 : Int32))) := ⟨_, rfl⟩
  obtain ⟨x7, hx7⟩ : ∃ z : Int32, z = ((1 : Int32) + (p2 &&& (3 : Int32))) := ⟨_, rfl⟩
  obtain ⟨x8, hx8⟩ : ∃ z : Int32, z = ((1 : Int32) + (((p2.toUInt32 >>> ((2 : Int32) &&& 31).toUInt32).toInt32) &&& (3 : Int32))) := ⟨_, rfl⟩
  obtain ⟨x9, hx9⟩ : ∃ z : Int32, z = ((1 : Int32) + (((p2.toUInt32 >>> ((4 : Int32) &&& 31).toUInt32).toInt32) &&& (3 : Int32))) := ⟨_, rfl⟩
  obtain ⟨T10, h10, k10, X10, e10, E10, A10, st10⟩ := newP X2 hx hZ (wd hw 0 rfl) e2 (g := (mkF m 76 #[iv p0, iv p1, iv p2, iv p3, iv (2 : Int32), iv x3, iv x4, iv x5, iv x6, iv x7, iv x8, iv x9, .unset, .unset, .unset, .unset, .unset, .unset, .unset, .unset, .unset, .unset] [(.int (6 : Int32))])) rfl (hb hby at_76) rfl (by decide) (cap := 6) (by decide) (by decide) (by decide) (by decide)
  have G10 := gd X10 hx hby
  obtain ⟨b10, g10⟩ : ∃ z, z = h0.size := ⟨_, rfl⟩
  rw [← g10] at A10 st10
  have g_b10 : n0 ≤ b10 := Nat.le_trans Z0 (Nat.le_of_eq g10.symm)
  have Z10 := Nat.le_trans Z0 E10.1
  have V_b10 : Arv Z h10 b10 k10 .int (6 : Int32) [(.int (0 : Int32)), (.int (0 : Int32)), (.int (0 : Int32)), (.int (0 : Int32)), (.int (0 : Int32)), (.int (0 : Int32))] (.int (0 : Int32)) := (Arv.new A10 (by decide)).pad (pad_rep [] (.int (0 : Int32)) 6)
  obtain ⟨x11, hx11⟩ : ∃ z : Int32, z = (p3 &&& (7 : Int32)) := ⟨_, rfl⟩
  obtain ⟨T12, h12, X12, e12, W12, Vs12, st12⟩ := own_stI X10 hx hby hZ e10 V_b10 (j := (0 : Int32)) (v := x11) at_87 ⟨by decide, by decide⟩ 0 rfl (Nat.le_of_ble_eq_true rfl) #[iv p0, iv p1, iv p2, iv p3, iv (2 : Int32), iv x3, iv x4, iv x5, iv x6, iv x7, iv x8, iv x9, rv b10, .unset, .unset, .unset, .unset, .unset, .unset, .unset, .unset, .unset] [] 88 rfl
  have G12 := gd X12 hx hby
  have N12 := Fr.snoc X12 N0 g_b10
  have Z12 := Nat.le_trans Z10 (Keep.of_wr W12).1
  have V12 : Arv Z h12 b10 k10 .int (6 : Int32) [(.int x11), (.int (0 : Int32)), (.int (0 : Int32)), (.int (0 : Int32)), (.int (0 : Int32)), (.int (0 : Int32))] (.int (0 : Int32)) := Vs12
  obtain ⟨x15, hx15⟩ : ∃ z : Int32, z = (((p3.toUInt32 >>> ((3 : Int32) &&& 31).toUInt32).toInt32) &&& (7 : Int32)) := ⟨_, rfl⟩
  obtain ⟨T16, h16, X16, e16, W16, Vs16, st16⟩ := own_stI X12 hx hby hZ e12 V12 (j := (1 : Int32)) (v := x15) at_97 ⟨by decide, by decide⟩ 1 rfl (Nat.le_of_ble_eq_true rfl) #[iv p0, iv p1, iv p2, iv p3, iv (2 : Int32), iv x3, iv x4, iv x5, iv x6, iv x7, iv x8, iv x9, rv b10, .unset, .unset, .unset, .unset, .unset, .unset, .unset, .unset, .unset] [] 98 rfl
  have G16 := gd X16 hx hby
  have N16 := Fr.snoc X16 N12 g_b10
  have Z16 := Nat.le_trans Z12 (Keep.of_wr W16).1
  have V16 : Arv Z h16 b10 k10 .int (6 : Int32) [(.int x11), (.int x15), (.int (0 : Int32)), (.int (0 : Int32)), (.int (0 : Int32)), (.int (0 : Int32))] (.int (0 : Int32)) := Vs16
  obtain ⟨x19, hx19⟩ : ∃ z : Int32, z = (((p3.toUInt32 >>> ((6 : Int32) &&& 31).toUInt32).toInt32) &&& (7 : Int32)) := ⟨_, rfl⟩
  obtain ⟨T20, h20, X20, e20, W20, Vs20, st20⟩ := own_stI X16 hx hby hZ e16 V16 (j := (2 : Int32)) (v := x19) at_108 ⟨by decide, by decide⟩ 2 rfl (Nat.le_of_ble_eq_true rfl) #[iv p0, iv p1, iv p2, iv p3, iv (2 : Int32), iv x3, iv x4, iv x5, iv x6, iv x7, iv x8, iv x9, rv b10, .unset, .unset, .unset, .unset, .unset, .unset, .unset, .unset, .unset] [] 109 rfl
  have G20 := gd X20 hx hby
  have N20 := Fr.snoc X20 N16 g_b10
  have Z20 := Nat.le_trans Z16 (Keep.of_wr W20).1
  have V20 : Arv Z h20 b10 k10 .int (6 : Int32) [(.int x11), (.int x15), (.int x19), (.int (0 : Int32)), (.int (0 : Int32)), (.int (0 : Int32))] (.int (0 : Int32)) := Vs20
  obtain ⟨x23, hx23⟩ : ∃ z : Int32, z = (((p3.toUInt32 >>> ((9 : Int32) &&& 31).toUInt32).toInt32) &&& (7 : Int32)) := ⟨_, rfl⟩
  obtain ⟨T24, h24, X24, e24, W24, Vs24, st24⟩ := own_stI X20 hx hby hZ e20 V20 (j := (3 : Int32)) (v := x23) at_119 ⟨by decide, by decide⟩ 3 rfl (Nat.le_of_ble_eq_true rfl) #[iv p0, iv p1, iv p2, iv p3, iv (2 : Int32), iv x3, iv x4, iv x5, iv x6, iv x7, iv x8, iv x9, rv b10, .unset, .unset, .unset, .unset, .unset, .unset, .unset, .unset, .unset] [] 120 rfl
  have G24 := gd X24 hx hby
  have N24 := Fr.snoc X24 N20 g_b10
  have Z24 := Nat.le_trans Z20 (Keep.of_wr W24).1
  have V24 : Arv Z h24 b10 k10 .int (6 : Int32) [(.int x11), (.int x15), (.int x19), (.int x23), (.int (0 : Int32)), (.int (0 : Int32))] (.int (0 : Int32)) := Vs24
  obtain ⟨x27, hx27⟩ : ∃ z : Int32, z = (((p3.toUInt32 >>> ((12 : Int32) &&& 31).toUInt32).toInt32) &&& (7 : Int32)) := ⟨_, rfl⟩
  obtain ⟨T28, h28, X28, e28, W28, Vs28, st28⟩ := own_stI X24 hx hby hZ e24 V24 (j := (4 : Int32)) (v := x27) at_130 ⟨by decide, by decide⟩ 4 rfl (Nat.le_of_ble_eq_true rfl) #[iv p0, iv p1, iv p2, iv p3, iv (2 : Int32), iv x3, iv x4, iv x5, iv x6, iv x7, iv x8, iv x9, rv b10, .unset, .unset, .unset, .unset, .unset, .unset, .unset, .unset, .unset] [] 131 rfl
  have G28 := gd X28 hx hby
  have N28 := Fr.snoc X28 N24 g_b10
  have Z28 := Nat.le_trans Z24 (Keep.of_wr W28).1
  have V28 : Arv Z h28 b10 k10 .int (6 : Int32) [(.int x11), (.int x15), (.int x19), (.int x23), (.int x27), (.int (0 : Int32))] (.int (0 : Int32)) := Vs28
  obtain ⟨x31, hx31⟩ : ∃ z : Int32, z = (((p3.toUInt32 >>> ((15 : Int32) &&& 31).toUInt32).toInt32) &&& (7 : Int32)) := ⟨_, rfl⟩
  obtain ⟨T32, h32, X32, e32, W32, Vs32, st32⟩ := own_stI X28 hx hby hZ e28 V28 (j := (5 : Int32)) (v := x31) at_141 ⟨by decide, by decide⟩ 5 rfl (Nat.le_of_ble_eq_true rfl) #[iv p0, iv p1, iv p2, iv p3, iv (2 : Int32), iv x3, iv x4, iv x5, iv x6, iv x7, iv x8, iv x9, rv b10, .unset, .unset, .unset, .unset, .unset, .unset, .unset, .unset, .unset] [] 142 rfl
  have G32 := gd X32 hx hby
  have N32 := Fr.snoc X32 N28 g_b10
  have Z32 := Nat.le_trans Z28 (Keep.of_wr W32).1
  have V32 : Arv Z h32 b10 k10 .int (6 : Int32) [(.int x11), (.int x15), (.int x19), (.int x23), (.int x27), (.int x31)] (.int (0 : Int32)) := Vs32
  obtain ⟨T35, h35, k35, X35, e35, E35, A35, st35⟩ := newP X32 hx hZ (wd hw 1 rfl) e32 (g := (mkF m 144 #[iv p0, iv p1, iv p2, iv p3, iv (2 : Int32), iv x3, iv x4, iv x5, iv x6, iv x7, iv x8, iv x9, rv b10, .unset, .unset, .unset, .unset, .unset, .unset, .unset, .unset, .unset] [(.int (6 : Int32))])) rfl (hb hby at_144) rfl (by decide) (cap := 6) (by decide) (by decide) (by decide) (by decide)
  have G35 := gd X35 hx hby
  obtain ⟨b35, g35⟩ : ∃ z, z = h32.size := ⟨_, rfl⟩
  rw [← g35] at A35 st35
  have ne_b10_b35 : b10 ≠ b35 := Nat.ne_of_lt (Nat.lt_of_lt_of_le V32.lt (Nat.le_of_eq g35.symm))
  have g_b35 : n0 ≤ b35 := Nat.le_trans Z32 (Nat.le_of_eq g35.symm)
  have f36 := V32.ext E35
  have Z35 := Nat.le_trans Z32 E35.1
  have V_b35 : Arv Z h35 b35 k35 .double (6 : Int32) [(.double (0 : UInt64)), (.double (0 : UInt64)), (.double (0 : UInt64)), (.double (0 : UInt64)), (.double (0 : UInt64)), (.double (0 : UInt64))] (.double (0 : UInt64)) := (Arv.new A35 (by decide)).pad (pad_rep [] (.double (0 : UInt64)) 6)
  obtain ⟨x37, hx37⟩ : ∃ z : UInt64, z = (FP.i2d x11) := ⟨_, rfl⟩
  obtain ⟨T38, h38, X38, e38, W38, Vs38, st38⟩ := own_stD X35 hx hby hZ e35 V_b35 (j := (0 : Int32)) (v := x37) at_153 ⟨by decide, by decide⟩ 0 rfl (Nat.le_of_ble_eq_true rfl) #[iv p0, iv p1, iv p2, iv p3, iv (2 : Int32), iv x3, iv x4, iv x5, iv x6, iv x7, iv x8, iv x9, rv b10, .unset, .unset, .unset, .unset, .unset, .unset, .unset, .unset, .unset] [(.ref b35)] 154 rfl
  have G38 := gd X38 hx hby
  have N38 := Fr.snoc X38 N32 g_b35
  have f40 := f36.other W38 ne_b10_b35
  have Z38 := Nat.le_trans Z35 (Keep.of_wr W38).1
  have V38 : Arv Z h38 b35 k35 .double (6 : Int32) [(.double x37), (.double (0 : UInt64)), (.double (0 : UInt64)), (.double (0 : UInt64)), (.double (0 : UInt64)), (.double (0 : UInt64))] (.double (0 : UInt64)) := Vs38
  obtain ⟨x44, hx44⟩ : ∃ z : UInt64, z = (FP.i2d x15) := ⟨_, rfl⟩
  obtain ⟨T45, h45, X45, e45, W45, Vs45, st45⟩ := own_stD X38 hx hby hZ e38 V38 (j := (1 : Int32)) (v := x44) at_161 ⟨by decide, by decide⟩ 1 rfl (Nat.le_of_ble_eq_true rfl) #[iv p0, iv p1, iv p2, iv p3, iv (2 : Int32), iv x3, iv x4, iv x5, iv x6, iv x7, iv x8, iv x9, rv b10, .unset, .unset, .unset, .unset, .unset, .unset, .unset, .unset, .unset] [(.ref b35)] 162 rfl
  have G45 := gd X45 hx hby
  have N45 := Fr.snoc X45 N38 g_b35
  have f47 := f40.other W45 ne_b10_b35
  have Z45 := Nat.le_trans Z38 (Keep.of_wr W45).1
  have V45 : Arv Z h45 b35 k35 .double (6 : Int32) [(.double x37), (.double x44), (.double (0 : UInt64)), (.double (0 : UInt64)), (.double (0 : UInt64)), (.double (0 : UInt64))] (.double (0 : UInt64)) := Vs45
  obtain ⟨x51, hx51⟩ : ∃ z : UInt64, z = (FP.i2d x19) := ⟨_, rfl⟩
  obtain ⟨T52, h52, X52, e52, W52, Vs52, st52⟩ := own_stD X45 hx hby hZ e45 V45 (j := (2 : Int32)) (v := x51) at_169 ⟨by decide, by decide⟩ 2 rfl (Nat.le_of_ble_eq_true rfl) #[iv p0, iv p1, iv p2, iv p3, iv (2 : Int32), iv x3, iv x4, iv x5, iv x6, iv x7, iv x8, iv x9, rv b10, .unset, .unset, .unset, .unset, .unset, .unset, .unset, .unset, .unset] [(.ref b35)] 170 rfl
  have G52 := gd X52 hx hby
  have N52 := Fr.snoc X52 N45 g_b35
  have f54 := f47.other W52 ne_b10_b35
  have Z52 := Nat.le_trans Z45 (Keep.of_wr W52).1
  have V52 : Arv Z h52 b35 k35 .double (6 : Int32) [(.double x37), (.double x44), (.double x51), (.double (0 : UInt64)), (.double (0 : UInt64)), (.double (0 : UInt64))] (.double (0 : UInt64)) := Vs52
  obtain ⟨x58, hx58⟩ : ∃ z : UInt64, z = (FP.i2d x23) := ⟨_, rfl⟩
  obtain ⟨T59, h59, X59, e59, W59, Vs59, st59⟩ := own_stD X52 hx hby hZ e52 V52 (j := (3 : Int32)) (v := x58) at_177 ⟨by decide, by decide⟩ 3 rfl (Nat.le_of_ble_eq_true rfl) #[iv p0, iv p1, iv p2, iv p3, iv (2 : Int32), iv x3, iv x4, iv x5, iv x6, iv x7, iv x8, iv x9, rv b10, .unset, .unset, .unset, .unset, .unset, .unset, .unset, .unset, .unset] [(.ref b35)] 178 rfl
  have G59 := gd X59 hx hby
  have N59 := Fr.snoc X59 N52 g_b35
  have f61 := f54.other W59 ne_b10_b35
  have Z59 := Nat.le_trans Z52 (Keep.of_wr W59).1
  have V59 : Arv Z h59 b35 k35 .double (6 : Int32) [(.double x37), (.double x44), (.double x51), (.double x58), (.double (0 : UInt64)), (.double (0 : UInt64))] (.double (0 : UInt64)) := Vs59
  obtain ⟨x65, hx65⟩ : ∃ z : UInt64, z = (FP.i2d x27) := ⟨_, rfl⟩
  obtain ⟨T66, h66, X66, e66, W66, Vs66, st66⟩ := own_stD X59 hx hby hZ e59 V59 (j := (4 : Int32)) (v := x65) at_185 ⟨by decide, by decide⟩ 4 rfl (Nat.le_of_ble_eq_true rfl) #[iv p0, iv p1, iv p2, iv p3, iv (2 : Int32), iv x3, iv x4, iv x5, iv x6, iv x7, iv x8, iv x9, rv b10, .unset, .unset, .unset, .unset, .unset, .unset, .unset, .unset, .unset] [(.ref b35)] 186 rfl
  have G66 := gd X66 hx hby
  have N66 := Fr.snoc X66 N59 g_b35
  have f68 := f61.other W66 ne_b10_b35
  have Z66 := Nat.le_trans Z59 (Keep.of_wr W66).1
  have V66 : Arv Z h66 b35 k35 .double (6 : Int32) [(.double x37), (.double x44), (.double x51), (.double x58), (.double x65), (.double (0 : UInt64))] (.double (0 : UInt64)) := Vs66
  obtain ⟨x72, hx72⟩ : ∃ z : UInt64, z = (FP.i2d x31) := ⟨_, rfl⟩
  obtain ⟨T73, h73, X73, e73, W73, Vs73, st73⟩ := own_stD X66 hx hby hZ e66 V66 (j := (5 : Int32)) (v := x72) at_193 ⟨by decide, by decide⟩ 5 rfl (Nat.le_of_ble_eq_true rfl) #[iv p0, iv p1, iv p2, iv p3, iv (2 : Int32), iv x3, iv x4, iv x5, iv x6, iv x7, iv x8, iv x9, rv b10, .unset, .unset, .unset, .unset, .unset, .unset, .unset, .unset, .unset] [(.ref b35)] 194 rfl
  have G73 := gd X73 hx hby
  have N73 := Fr.snoc X73 N66 g_b35
  have f75 := f68.other W73 ne_b10_b35
  have Z73 := Nat.le_trans Z66 (Keep.of_wr W73).1
  have V73 : Arv Z h73 b35 k35 .double (6 : Int32) [(.double x37), (.double x44), (.double x51), (.double x58), (.double x65), (.double x72)] (.double (0 : UInt64)) := Vs73
  obtain ⟨T79, h79, k79, X79, e79, E79, A79, st79⟩ := newP X73 hx hZ (wd hw 0 rfl) e73 (g := (mkF m 231 #[iv p0, iv p1, iv p2, iv p3, iv (2 : Int32), iv x3, iv x4, iv x5, iv x6, iv x7, iv x8, iv x9, rv b10, rv b35, .unset, .unset, .unset, .unset, .unset, .unset, .unset, .unset] [(.int (2 : Int32))])) rfl (hb hby at_231) rfl (by decide) (cap := 2) (by decide) (by decide) (by decide) (by decide)
  have G79 := gd X79 hx hby
  obtain ⟨b79, g79⟩ : ∃ z, z = h73.size := ⟨_, rfl⟩
  rw [← g79] at A79 st79
  have ne_b10_b79 : b10 ≠ b79 := Nat.ne_of_lt (Nat.lt_of_lt_of_le f75.lt (Nat.le_of_eq g79.symm))
  have ne_b35_b79 : b35 ≠ b79 := Nat.ne_of_lt (Nat.lt_of_lt_of_le V73.lt (Nat.le_of_eq g79.symm))
  have g_b79 : n0 ≤ b79 := Nat.le_trans Z73 (Nat.le_of_eq g79.symm)
  have f80 := f75.ext E79
  have f81 := V73.ext E79
  have Z79 := Nat.le_trans Z73 E79.1
  have V_b79 : Arv Z h79 b79 k79 .int (2 : Int32) [(.int (0 : Int32)), (.int (0 : Int32))] (.int (0 : Int32)) := (Arv.new A79 (by decide)).pad (pad_rep [] (.int (0 : Int32)) 2)
  obtain ⟨T82, h82, X82, e82, W82, Vs82, st82⟩ := own_stI X79 hx hby hZ e79 V_b79 (j := (0 : Int32)) (v := x4) at_237 ⟨by decide, by decide⟩ 0 rfl (Nat.le_of_ble_eq_true rfl) #[iv p0, iv p1, iv p2, iv p3, iv (2 : Int32), iv x3, iv x4, iv x5, iv x6, iv x7, iv x8, iv x9, rv b10, rv b35, .unset, .unset, .unset, .unset, .unset, .unset, .unset, .unset] [(.ref b79)] 238 rfl
  have G82 := gd X82 hx hby
  have N82 := Fr.snoc X82 N73 g_b79
  have f84 := f80.other W82 ne_b10_b79
  have f87 := f81.other W82 ne_b35_b79
  have Z82 := Nat.le_trans Z79 (Keep.of_wr W82).1
  have V82 : Arv Z h82 b79 k79 .int (2 : Int32) [(.int x4), (.int (0 : Int32))] (.int (0 : Int32)) := Vs82
  obtain ⟨T92, h92, X92, e92, W92, Vs92, st92⟩ := own_stI X82 hx hby hZ e82 V82 (j := (1 : Int32)) (v := x5) at_242 ⟨by decide, by decide⟩ 1 rfl (Nat.le_of_ble_eq_true rfl) #[iv p0, iv p1, iv p2, iv p3, iv (2 : Int32), iv x3, iv x4, iv x5, iv x6, iv x7, iv x8, iv x9, rv b10, rv b35, .unset, .unset, .unset, .unset, .unset, .unset, .unset, .unset] [(.ref b79)] 243 rfl
  have G92 := gd X92 hx hby
  have N92 := Fr.snoc X92 N82 g_b79
  have f94 := f84.other W92 ne_b10_b79
  have f97 := f87.other W92 ne_b35_b79
  have Z92 := Nat.le_trans Z82 (Keep.of_wr W92).1
  have V92 : Arv Z h92 b79 k79 .int (2 : Int32) [(.int x4), (.int x5)] (.int (0 : Int32)) := Vs92
  obtain ⟨T102, h102, k102, X102, e102, E102, A102, st102⟩ := newP X92 hx hZ (wd hw 0 rfl) e92 (g := (mkF m 301 #[iv p0, iv p1, iv p2, iv p3, iv (2 : Int32), iv x3, iv x4, iv x5, iv x6, iv x7, iv x8, iv x9, rv b10, rv b35, rv b79, .unset, .unset, .unset, .unset, .unset, .unset, .unset] [(.int (2 : Int32))])) rfl (hb hby at_301) rfl (by decide) (cap := 2) (by decide) (by decide) (by decide) (by decide)
  have G102 := gd X102 hx hby
  obtain ⟨b102, g102⟩ : ∃ z, z = h92.size := ⟨_, rfl⟩
  rw [← g102] at A102 st102
  have ne_b10_b102 : b10 ≠ b102 := Nat.ne_of_lt (Nat.lt_of_lt_of_le f94.lt (Nat.le_of_eq g102.symm))
  have ne_b35_b102 : b35 ≠ b102 := Nat.ne_of_lt (Nat.lt_of_lt_of_le f97.lt (Nat.le_of_eq g102.symm))
  have ne_b79_b102 : b79 ≠ b102 := Nat.ne_of_lt (Nat.lt_of_lt_of_le V92.lt (Nat.le_of_eq g102.symm))
  have g_b102 : n0 ≤ b102 := Nat.le_trans Z92 (Nat.le_of_eq g102.symm)
  have f103 := f94.ext E102
  have f104 := f97.ext E102
  have f105 := V92.ext E102
  have Z102 := Nat.le_trans Z92 E102.1
  have V_b102 : Arv Z h102 b102 k102 .int (2 : Int32) [(.int (0 : Int32)), (.int (0 : Int32))] (.int (0 : Int32)) := (Arv.new A102 (by decide)).pad (pad_rep [] (.int (0 : Int32)) 2)
  obtain ⟨T106, h106, X106, e106, W106, Vs106, st106⟩ := own_stI X102 hx hby hZ e102 V_b102 (j := (0 : Int32)) (v := x7) at_307 ⟨by decide, by decide⟩ 0 rfl (Nat.le_of_ble_eq_true rfl) #[iv p0, iv p1, iv p2, iv p3, iv (2 : Int32), iv x3, iv x4, iv x5, iv x6, iv x7, iv x8, iv x9, rv b10, rv b35, rv b79, .unset, .unset, .unset, .unset, .unset, .unset, .unset] [(.ref b102)] 308 rfl
  have G106 := gd X106 hx hby
  have N106 := Fr.snoc X106 N92 g_b102
  have f108 := f103.other W106 ne_b10_b102
  have f111 := f104.other W106 ne_b35_b102
  have f115 := f105.other W106 ne_b79_b102
  have Z106 := Nat.le_trans Z102 (Keep.of_wr W106).1
  have V106 : Arv Z h106 b102 k102 .int (2 : Int32) [(.int x7), (.int (0 : Int32))] (.int (0 : Int32)) := Vs106
  obtain ⟨T121, h121, X121, e121, W121, Vs121, st121⟩ := own_stI X106 hx hby hZ e106 V106 (j := (1 : Int32)) (v := x8) at_312 ⟨by decide, by decide⟩ 1 rfl (Nat.le_of_ble_eq_true rfl) #[iv p0, iv p1, iv p2, iv p3, iv (2 : Int32), iv x3, iv x4, iv x5, iv x6, iv x7, iv x8, iv x9, rv b10, rv b35, rv b79, .unset, .unset, .unset, .unset, .unset, .unset, .unset] [(.ref b102)] 313 rfl
  have G121 := gd X121 hx hby
  have N121 := Fr.snoc X121 N106 g_b102
  have f123 := f108.other W121 ne_b10_b102
  have f126 := f111.other W121 ne_b35_b102
  have f130 := f115.other W121 ne_b79_b102
  have Z121 := Nat.le_trans Z106 (Keep.of_wr W121).1
  have V121 : Arv Z h121 b102 k102 .int (2 : Int32) [(.int x7), (.int x8)] (.int (0 : Int32)) := Vs121
  obtain ⟨T136, h136, X136, e136, E136, A136, D136, -, st136⟩ := newO X121 hx hZ hown (wd hw 2 rfl) (wd hw 3 rfl) (wd hw 4 rfl) e121 (g := (mkF m 336 #[iv p0, iv p1, iv p2, iv p3, iv (2 : Int32), iv x3, iv x4, iv x5, iv x6, iv x7, iv x8, iv x9, rv b10, rv b35, rv b79, rv b102, .unset, .unset, .unset, .unset, .unset, .unset] [])) rfl (hb hby at_336) (by decide) (by decide)
  have G136 := gd X136 hx hby
  obtain ⟨b136, g136⟩ : ∃ z, z = h121.size := ⟨_, rfl⟩
  rw [← g136] at A136 D136 st136
  have ne_b10_b136 : b10 ≠ b136 := Nat.ne_of_lt (Nat.lt_of_lt_of_le f123.lt (Nat.le_of_eq g136.symm))
  have ne_b35_b136 : b35 ≠ b136 := Nat.ne_of_lt (Nat.lt_of_lt_of_le f126.lt (Nat.le_of_eq g136.symm))
  have ne_b79_b136 : b79 ≠ b136 := Nat.ne_of_lt (Nat.lt_of_lt_of_le f130.lt (Nat.le_of_eq g136.symm))
  have ne_b102_b136 : b102 ≠ b136 := Nat.ne_of_lt (Nat.lt_of_lt_of_le V121.lt (Nat.le_of_eq g136.symm))
  have g_b136 : n0 ≤ b136 := Nat.le_trans Z121 (Nat.le_of_eq g136.symm)
  have f137 := f123.ext E136
  have f138 := f126.ext E136
  have f139 := f130.ext E136
  have f140 := V121.ext E136
  have Z136 := Nat.le_trans Z121 E136.1
  have F_states_b136 : Fld Z h136 b136 "com/example/oceanus/oceanus/analysis/Taken" "states" "[I" .null := D136 (Or.inr (wd hw 17 rfl)) (ty := (.array .int)) (by decide)
  have F_agents_b136 : Fld Z h136 b136 "com/example/oceanus/oceanus/analysis/Taken" "agents" "[I" .null := D136 (Or.inr (wd hw 19 rfl)) (ty := (.array .int)) (by decide)
  obtain ⟨_, _, ⟨T141, L141, k141, n141⟩, -, X141, ⟨Lc141, hQ141, l141, y141, z141⟩, st141⟩ := X136.specialBack hx (y := (⟨"com/example/oceanus/oceanus/analysis/Taken", "<init>", "([I[I)V"⟩ : MethodName)) rfl hown (mvT hZ (wd hw 5 rfl)) (mvT hZ (wd hw 6 rfl)) (mvT hZ (wd hw 7 rfl)) (by decide) (backOf (W := 1) (rm1 l Z a0 hw [] b136 b79 b102 h136 n0 Z136 A136 g_b136 F_states_b136 F_agents_b136) hZ (wd hw 7 rfl) (wd hw 4 rfl) (by decide) (by decide)) (g := (mkF m 344 #[iv p0, iv p1, iv p2, iv p3, iv (2 : Int32), iv x3, iv x4, iv x5, iv x6, iv x7, iv x8, iv x9, rv b10, rv b35, rv b79, rv b102, .unset, .unset, .unset, .unset, .unset, .unset] [(.ref b102), (.ref b79), (.ref b136), (.ref b136)])) rfl (by rw [hml]; rfl) (Steps.refl _) (a := b136) (argsL := [(.ref b79), (.ref b102)]) (rest := [(.ref b136)]) (lenOf pd_1 rfl) rfl (by show 2 * 0 + _ ≤ _; exact Nat.le_of_eq rfl) (hb hby at_344) (fun _ _ => ⟨rfl, e136, (by decide : 5 + 0 ≤ _), (by decide : 18 + 0 ≤ _)⟩)
  dsimp only [Pt.U, Pt.locs, Pt.cells, Pt.slots] at X141 l141 y141 z141 st141 hQ141
  replace l141 : ((((((((((((((((([] ++ [⟨b10, ((0 : Int32)).toNatClampNeg⟩]) ++ [⟨b10, ((1 : Int32)).toNatClampNeg⟩]) ++ [⟨b10, ((2 : Int32)).toNatClampNeg⟩]) ++ [⟨b10, ((3 : Int32)).toNatClampNeg⟩]) ++ [⟨b10, ((4 : Int32)).toNatClampNeg⟩]) ++ [⟨b10, ((5 : Int32)).toNatClampNeg⟩]) ++ [⟨b35, ((0 : Int32)).toNatClampNeg⟩]) ++ [⟨b35, ((1 : Int32)).toNatClampNeg⟩]) ++ [⟨b35, ((2 : Int32)).toNatClampNeg⟩]) ++ [⟨b35, ((3 : Int32)).toNatClampNeg⟩]) ++ [⟨b35, ((4 : Int32)).toNatClampNeg⟩]) ++ [⟨b35, ((5 : Int32)).toNatClampNeg⟩]) ++ [⟨b79, ((0 : Int32)).toNatClampNeg⟩]) ++ [⟨b79, ((1 : Int32)).toNatClampNeg⟩]) ++ [⟨b102, ((0 : Int32)).toNatClampNeg⟩]) ++ [⟨b102, ((1 : Int32)).toNatClampNeg⟩]) ++ Lc141) = L141 := l141.symm
  subst l141 y141 z141
  obtain ⟨rfl, Nq141, K141, Eq141, Fq141_0, Fq141_1⟩ := hQ141
  have N141 := Fr.app N121 Nq141
  have f143 := f137.keep K141 (ninS ne_b10_b136 nin0)
  have f146 := f138.keep K141 (ninS ne_b35_b136 nin0)
  have f150 := f139.keep K141 (ninS ne_b79_b136 nin0)
  have f155 := f140.keep K141 (ninS ne_b102_b136 nin0)
  have f163 := A136.keep K141
  have Z141k := Nat.le_trans Z136 K141.1
  have G141 := gd X141 hx hby
  obtain ⟨cq164, kq164, q164a, q164b, q164c⟩ := isOf hZ rfl Eq141
  obtain ⟨_, _, ⟨T164, L164, k164, n164⟩, -, X164, ⟨Lc164, hQ164, l164, y164, z164⟩, st164⟩ := X141.virtualBack hx (y := (⟨"com/example/oceanus/oceanus/analysis/Taken", "unmade", "([DZ)I"⟩ : MethodName)) (z := (⟨"com/example/oceanus/oceanus/analysis/Taken", "unmade", "([DZ)I"⟩ : MethodName)) hown (mvT hZ (wd hw 20 rfl)) (mvT hZ (wd hw 21 rfl)) (notFace_of_selects (args := #[]) (mvT hZ (wd hw 23 rfl))) (mvT hZ (wd hw 23 rfl)) (mvT hZ (wd hw 22 rfl)) (by decide) (backOf (W := 0) (rm4_2 l Z a0 hw [] b136 b35 x3 T141.heap n0 Z141k Fq141_0 Fq141_1 f150 f155 f146 (own_rm0_2_hp_hin18_355 p0 p1 p2 p3 x3 hx3 x4 hx4 x5 hx5 x6 hx6 x7 hx7 x8 hx8 x9 hx9 x11 hx11 x15 hx15 x19 hx19 x23 hx23 x27 hx27 x31 hx31 x37 hx37 x44 hx44 x51 hx51 x58 hx58 x65 hx65 x72 hx72 hpin3) (own_rm0_2_hp_hin18_355_1 p0 p1 p2 p3 x3 hx3 x4 hx4 x5 hx5 x6 hx6 x7 hx7 x8 hx8 x9 hx9 x11 hx11 x15 hx15 x19 hx19 x23 hx23 x27 hx27 x31 hx31 x37 hx37 x44 hx44 x51 hx51 x58 hx58 x65 hx65 x72 hx72 hpin3) (own_rm0_2_hp_hin18_355_2 p0 p1 p2 p3 x3 hx3 x4 hx4 x5 hx5 x6 hx6 x7 hx7 x8 hx8 x9 hx9 x11 hx11 x15 hx15 x19 hx19 x23 hx23 x27 hx27 x31 hx31 x37 hx37 x44 hx44 x51 hx51 x58 hx58 x65 hx65 x72 hx72 hpin3)) hZ (wd hw 24 rfl) (wd hw 4 rfl) (by decide) (by decide)) q164a q164c (g := (mkF m 355 #[iv p0, iv p1, iv p2, iv p3, iv (2 : Int32), iv x3, iv x4, iv x5, iv x6, iv x7, iv x8, iv x9, rv b10, rv b35, rv b79, rv b102, rv b136, .unset, .unset, .unset, .unset, .unset] [(.int x3), (.ref b35), (.ref b136)])) rfl (by rw [hml]; rfl) (Steps.refl _) (argsL := [(.ref b35), (.int x3)]) (rest := []) (lenOf pd_2 rfl) rfl (by show 2 * 0 + _ ≤ _; exact Nat.le_of_eq rfl) (hb hby at_355) (fun _ _ => ⟨rfl, rfl, (by decide : 5 + 0 ≤ _), (by decide : 18 + 0 ≤ _)⟩)
  dsimp only [Pt.U, Pt.locs, Pt.cells, Pt.slots] at X164 l164 y164 z164 st164 hQ164
  replace l164 : (((((((((((((((((([] ++ [⟨b10, ((0 : Int32)).toNatClampNeg⟩]) ++ [⟨b10, ((1 : Int32)).toNatClampNeg⟩]) ++ [⟨b10, ((2 : Int32)).toNatClampNeg⟩]) ++ [⟨b10, ((3 : Int32)).toNatClampNeg⟩]) ++ [⟨b10, ((4 : Int32)).toNatClampNeg⟩]) ++ [⟨b10, ((5 : Int32)).toNatClampNeg⟩]) ++ [⟨b35, ((0 : Int32)).toNatClampNeg⟩]) ++ [⟨b35, ((1 : Int32)).toNatClampNeg⟩]) ++ [⟨b35, ((2 : Int32)).toNatClampNeg⟩]) ++ [⟨b35, ((3 : Int32)).toNatClampNeg⟩]) ++ [⟨b35, ((4 : Int32)).toNatClampNeg⟩]) ++ [⟨b35, ((5 : Int32)).toNatClampNeg⟩]) ++ [⟨b79, ((0 : Int32)).toNatClampNeg⟩]) ++ [⟨b79, ((1 : Int32)).toNatClampNeg⟩]) ++ [⟨b102, ((0 : Int32)).toNatClampNeg⟩]) ++ [⟨b102, ((1 : Int32)).toNatClampNeg⟩]) ++ Lc141) ++ Lc164) = L164 := l164.symm
  subst l164 y164 z164
  obtain ⟨rfl, rfl, e164⟩ := hQ164
  simp only [List.append_nil, Nat.add_zero] at X164
  have G164 := gd X164 hx hby
  obtain ⟨x165, hx165⟩ : ∃ z : Int32, z = (rv4_2 x3 x4 x5 x7 x8 x37 x44 x51 x58 x65 x72) := ⟨_, rfl⟩
  obtain ⟨_, _, ⟨T166, L166, k166, n166⟩, -, X166, ⟨Lc166, hQ166, l166, y166, z166⟩, st166⟩ := Jvm.LawKit.callS X164 hx (y := (⟨"com/example/oceanus/oceanus/analysis/TakenUnmadePinLaw", "lacks", "(IIZ)Z"⟩ : MethodName)) hown (mvT hZ (wd hw 25 rfl)) (mvT hZ (wd hw 26 rfl)) (mvT hZ (wd hw 27 rfl)) (mvT hZ (wd hw 28 rfl)) (by decide) (backOf (W := 0) (rm5 l Z a0 hw [] ((([x11, x15, x19, x23, x27, x31] : List Int32).getD x4.toNatClampNeg (0 : Int32))) x7 x3 T141.heap n0 Z141k ) hZ (wd hw 28 rfl) (wd hw 27 rfl) (by decide) (by decide)) (g := (mkF m 369 #[iv p0, iv p1, iv p2, iv p3, iv (2 : Int32), iv x3, iv x4, iv x5, iv x6, iv x7, iv x8, iv x9, rv b10, rv b35, rv b79, rv b102, rv b136, iv x165, .unset, .unset, .unset, .unset] [(.int x3), (.int x7), (.int (([x11, x15, x19, x23, x27, x31] : List Int32).getD x4.toNatClampNeg (0 : Int32)))])) rfl (by rw [hml]; rfl) (argsL := [(.int (([x11, x15, x19, x23, x27, x31] : List Int32).getD x4.toNatClampNeg (0 : Int32))), (.int x7), (.int x3)]) (rest := []) (lenOf pd_3 rfl) rfl (by show 2 * 0 + _ ≤ _; exact Nat.le_of_eq rfl) (hb hby at_369) (fun _ _ => ⟨rfl, e164, (by decide : 5 + 0 ≤ _), (by decide : 18 + 0 ≤ _)⟩)
  dsimp only [Pt.U, Pt.locs, Pt.cells, Pt.slots] at X166 l166 y166 z166 st166 hQ166
  replace l166 : (((((((((((((((((([] ++ [⟨b10, ((0 : Int32)).toNatClampNeg⟩]) ++ [⟨b10, ((1 : Int32)).toNatClampNeg⟩]) ++ [⟨b10, ((2 : Int32)).toNatClampNeg⟩]) ++ [⟨b10, ((3 : Int32)).toNatClampNeg⟩]) ++ [⟨b10, ((4 : Int32)).toNatClampNeg⟩]) ++ [⟨b10, ((5 : Int32)).toNatClampNeg⟩]) ++ [⟨b35, ((0 : Int32)).toNatClampNeg⟩]) ++ [⟨b35, ((1 : Int32)).toNatClampNeg⟩]) ++ [⟨b35, ((2 : Int32)).toNatClampNeg⟩]) ++ [⟨b35, ((3 : Int32)).toNatClampNeg⟩]) ++ [⟨b35, ((4 : Int32)).toNatClampNeg⟩]) ++ [⟨b35, ((5 : Int32)).toNatClampNeg⟩]) ++ [⟨b79, ((0 : Int32)).toNatClampNeg⟩]) ++ [⟨b79, ((1 : Int32)).toNatClampNeg⟩]) ++ [⟨b102, ((0 : Int32)).toNatClampNeg⟩]) ++ [⟨b102, ((1 : Int32)).toNatClampNeg⟩]) ++ Lc141) ++ Lc166) = L166 := l166.symm
  subst l166 y166 z166
  obtain ⟨rfl, rfl, e166⟩ := hQ166
  simp only [List.append_nil, Nat.add_zero] at X166
  have G166 := gd X166 hx hby
  obtain ⟨x167, hx167⟩ : ∃ z : Int32, z = (rv5 (([x11, x15, x19, x23, x27, x31] : List Int32).getD x4.toNatClampNeg (0 : Int32)) x7 x3) := ⟨_, rfl⟩
  obtain ⟨_, _, ⟨T168, L168, k168, n168⟩, -, X168, ⟨Lc168, hQ168, l168, y168, z168⟩, st168⟩ := Jvm.LawKit.callS X166 hx (y := (⟨"com/example/oceanus/oceanus/analysis/TakenUnmadePinLaw", "lacks", "(IIZ)Z"⟩ : MethodName)) hown (mvT hZ (wd hw 25 rfl)) (mvT hZ (wd hw 26 rfl)) (mvT hZ (wd hw 27 rfl)) (mvT hZ (wd hw 28 rfl)) (by decide) (backOf (W := 0) (rm5 l Z a0 hw [] ((([x11, x15, x19, x23, x27, x31] : List Int32).getD x5.toNatClampNeg (0 : Int32))) x8 x3 T141.heap n0 Z141k ) hZ (wd hw 28 rfl) (wd hw 27 rfl) (by decide) (by decide)) (g := (mkF m 383 #[iv p0, iv p1, iv p2, iv p3, iv (2 : Int32), iv x3, iv x4, iv x5, iv x6, iv x7, iv x8, iv x9, rv b10, rv b35, rv b79, rv b102, rv b136, iv x165, iv x167, .unset, .unset, .unset] [(.int x3), (.int x8), (.int (([x11, x15, x19, x23, x27, x31] : List Int32).getD x5.toNatClampNeg (0 : Int32)))])) rfl (by rw [hml]; rfl) (argsL := [(.int (([x11, x15, x19, x23, x27, x31] : List Int32).getD x5.toNatClampNeg (0 : Int32))), (.int x8), (.int x3)]) (rest := []) (lenOf pd_3 rfl) rfl (by show 2 * 0 + _ ≤ _; exact Nat.le_of_eq rfl) (hb hby at_383) (fun _ _ => ⟨rfl, e166, (by decide : 5 + 0 ≤ _), (by decide : 18 + 0 ≤ _)⟩)
  dsimp only [Pt.U, Pt.locs, Pt.cells, Pt.slots] at X168 l168 y168 z168 st168 hQ168
  replace l168 : (((((((((((((((((([] ++ [⟨b10, ((0 : Int32)).toNatClampNeg⟩]) ++ [⟨b10, ((1 : Int32)).toNatClampNeg⟩]) ++ [⟨b10, ((2 : Int32)).toNatClampNeg⟩]) ++ [⟨b10, ((3 : Int32)).toNatClampNeg⟩]) ++ [⟨b10, ((4 : Int32)).toNatClampNeg⟩]) ++ [⟨b10, ((5 : Int32)).toNatClampNeg⟩]) ++ [⟨b35, ((0 : Int32)).toNatClampNeg⟩]) ++ [⟨b35, ((1 : Int32)).toNatClampNeg⟩]) ++ [⟨b35, ((2 : Int32)).toNatClampNeg⟩]) ++ [⟨b35, ((3 : Int32)).toNatClampNeg⟩]) ++ [⟨b35, ((4 : Int32)).toNatClampNeg⟩]) ++ [⟨b35, ((5 : Int32)).toNatClampNeg⟩]) ++ [⟨b79, ((0 : Int32)).toNatClampNeg⟩]) ++ [⟨b79, ((1 : Int32)).toNatClampNeg⟩]) ++ [⟨b102, ((0 : Int32)).toNatClampNeg⟩]) ++ [⟨b102, ((1 : Int32)).toNatClampNeg⟩]) ++ Lc141) ++ Lc168) = L168 := l168.symm
  subst l168 y168 z168
  obtain ⟨rfl, rfl, e168⟩ := hQ168
  simp only [List.append_nil, Nat.add_zero] at X168
  have G168 := gd X168 hx hby
  obtain ⟨x169, hx169⟩ : ∃ z : Int32, z = (rv5 (([x11, x15, x19, x23, x27, x31] : List Int32).getD x5.toNatClampNeg (0 : Int32)) x8 x3) := ⟨_, rfl⟩
  obtain ⟨_, _, ⟨T170, L170, k170, n170⟩, -, X170, ⟨Lc170, hQ170, l170, y170, z170⟩, st170⟩ := Jvm.LawKit.callS X168 hx (y := (⟨"com/example/oceanus/oceanus/analysis/TakenUnmadePinLaw", "lacks", "(IIZ)Z"⟩ : MethodName)) hown (mvT hZ (wd hw 25 rfl)) (mvT hZ (wd hw 26 rfl)) (mvT hZ (wd hw 27 rfl)) (mvT hZ (wd hw 28 rfl)) (by decide) (backOf (W := 0) (rm5 l Z a0 hw [] ((([x11, x15, x19, x23, x27, x31] : List Int32).getD x6.toNatClampNeg (0 : Int32))) x9 x3 T141.heap n0 Z141k ) hZ (wd hw 28 rfl) (wd hw 27 rfl) (by decide) (by decide)) (g := (mkF m 397 #[iv p0, iv p1, iv p2, iv p3, iv (2 : Int32), iv x3, iv x4, iv x5, iv x6, iv x7, iv x8, iv x9, rv b10, rv b35, rv b79, rv b102, rv b136, iv x165, iv x167, iv x169, .unset, .unset] [(.int x3), (.int x9), (.int (([x11, x15, x19, x23, x27, x31] : List Int32).getD x6.toNatClampNeg (0 : Int32)))])) rfl (by rw [hml]; rfl) (argsL := [(.int (([x11, x15, x19, x23, x27, x31] : List Int32).getD x6.toNatClampNeg (0 : Int32))), (.int x9), (.int x3)]) (rest := []) (lenOf pd_3 rfl) rfl (by show 2 * 0 + _ ≤ _; exact Nat.le_of_eq rfl) (hb hby at_397) (fun _ _ => ⟨rfl, e168, (by decide : 5 + 0 ≤ _), (by decide : 18 + 0 ≤ _)⟩)
  dsimp only [Pt.U, Pt.locs, Pt.cells, Pt.slots] at X170 l170 y170 z170 st170 hQ170
  replace l170 : (((((((((((((((((([] ++ [⟨b10, ((0 : Int32)).toNatClampNeg⟩]) ++ [⟨b10, ((1 : Int32)).toNatClampNeg⟩]) ++ [⟨b10, ((2 : Int32)).toNatClampNeg⟩]) ++ [⟨b10, ((3 : Int32)).toNatClampNeg⟩]) ++ [⟨b10, ((4 : Int32)).toNatClampNeg⟩]) ++ [⟨b10, ((5 : Int32)).toNatClampNeg⟩]) ++ [⟨b35, ((0 : Int32)).toNatClampNeg⟩]) ++ [⟨b35, ((1 : Int32)).toNatClampNeg⟩]) ++ [⟨b35, ((2 : Int32)).toNatClampNeg⟩]) ++ [⟨b35, ((3 : Int32)).toNatClampNeg⟩]) ++ [⟨b35, ((4 : Int32)).toNatClampNeg⟩]) ++ [⟨b35, ((5 : Int32)).toNatClampNeg⟩]) ++ [⟨b79, ((0 : Int32)).toNatClampNeg⟩]) ++ [⟨b79, ((1 : Int32)).toNatClampNeg⟩]) ++ [⟨b102, ((0 : Int32)).toNatClampNeg⟩]) ++ [⟨b102, ((1 : Int32)).toNatClampNeg⟩]) ++ Lc141) ++ Lc170) = L170 := l170.symm
  subst l170 y170 z170
  obtain ⟨rfl, rfl, e170⟩ := hQ170
  simp only [List.append_nil, Nat.add_zero] at X170
  have G170 := gd X170 hx hby
  obtain ⟨x171, hx171⟩ : ∃ z : Int32, z = (rv5 (([x11, x15, x19, x23, x27, x31] : List Int32).getD x6.toNatClampNeg (0 : Int32)) x9 x3) := ⟨_, rfl⟩
  obtain ⟨x174, hx174⟩ : ∃ z : Int32, z = (if x167 = (0 : Int32) then (if x169 = (0 : Int32) then (-1 : Int32) else (1 : Int32)) else (0 : Int32)) := ⟨_, rfl⟩
  obtain ⟨T173, X173, e173, st173⟩ : ∃ T' : State, Stand p l e room_1 s m #[(.int p0), (.int p1), (.int p2), (.int p3)] below meth c T' ((((((((((((((((([] ++ [⟨b10, ((0 : Int32)).toNatClampNeg⟩]) ++ [⟨b10, ((1 : Int32)).toNatClampNeg⟩]) ++ [⟨b10, ((2 : Int32)).toNatClampNeg⟩]) ++ [⟨b10, ((3 : Int32)).toNatClampNeg⟩]) ++ [⟨b10, ((4 : Int32)).toNatClampNeg⟩]) ++ [⟨b10, ((5 : Int32)).toNatClampNeg⟩]) ++ [⟨b35, ((0 : Int32)).toNatClampNeg⟩]) ++ [⟨b35, ((1 : Int32)).toNatClampNeg⟩]) ++ [⟨b35, ((2 : Int32)).toNatClampNeg⟩]) ++ [⟨b35, ((3 : Int32)).toNatClampNeg⟩]) ++ [⟨b35, ((4 : Int32)).toNatClampNeg⟩]) ++ [⟨b35, ((5 : Int32)).toNatClampNeg⟩]) ++ [⟨b79, ((0 : Int32)).toNatClampNeg⟩]) ++ [⟨b79, ((1 : Int32)).toNatClampNeg⟩]) ++ [⟨b102, ((0 : Int32)).toNatClampNeg⟩]) ++ [⟨b102, ((1 : Int32)).toNatClampNeg⟩]) ++ Lc141) 5 18 ∧ T'.heap = T141.heap ∧ ∀ target, Steps p.tables e below (T'.setTop (mkF m 447 #[iv p0, iv p1, iv p2, iv p3, iv (2 : Int32), iv x3, iv x4, iv x5, iv x6, iv x7, iv x8, iv x9, rv b10, rv b35, rv b79, rv b102, rv b136, iv x165, iv x167, iv x169, iv x171, .unset] [(.int x174)])) target → Steps p.tables e below (T170.setTop (mkF m 409 #[iv p0, iv p1, iv p2, iv p3, iv (2 : Int32), iv x3, iv x4, iv x5, iv x6, iv x7, iv x8, iv x9, rv b10, rv b35, rv b79, rv b102, rv b136, iv x165, iv x167, iv x169, iv x171, .unset] [(.int x167)])) target := by
    by_cases hc409_172 : x167 = (0 : Int32)
    · by_cases hc424_175 : x169 = (0 : Int32)
      · refine ⟨T170, X170, e170, fun target kt => ?_⟩
        refine mifYes 416 G170 at_409 ((if0 _ _).trans (teq hc409_172).1) (by decide) rfl ?_
        refine miload 418 G170 at_416 rfl rfl ?_
        refine miconst 419 G170 at_418 (v := (1 : Int32)) rfl rfl ?_
        refine micmpNo 422 G170 at_419 (tlt (by decide : (1 : Int32) < (2 : Int32))).2.2.2 rfl ?_
        refine miload 424 G170 at_422 rfl rfl ?_
        refine mifYes 431 G170 at_424 ((if0 _ _).trans (teq hc424_175).1) (by decide) rfl ?_
        refine miload 433 G170 at_431 rfl rfl ?_
        refine miconst 434 G170 at_433 (v := (2 : Int32)) rfl rfl ?_
        refine micmpYes 446 G170 at_434 (flt (by decide : ¬ ((2 : Int32) < (2 : Int32)))).2.2.2 (by decide) rfl ?_
        refine miconst 447 G170 at_446 (v := (-1 : Int32)) rfl rfl ?_
        exact castTop (g' := (mkF m 447 #[iv p0, iv p1, iv p2, iv p3, iv (2 : Int32), iv x3, iv x4, iv x5, iv x6, iv x7, iv x8, iv x9, rv b10, rv b35, rv b79, rv b102, rv b136, iv x165, iv x167, iv x169, iv x171, .unset] [(.int x174)])) (by simp only [hx174, if_pos hc409_172, if_pos hc424_175]) kt
      · refine ⟨T170, X170, e170, fun target kt => ?_⟩
        refine mifYes 416 G170 at_409 ((if0 _ _).trans (teq hc409_172).1) (by decide) rfl ?_
        refine miload 418 G170 at_416 rfl rfl ?_
        refine miconst 419 G170 at_418 (v := (1 : Int32)) rfl rfl ?_
        refine micmpNo 422 G170 at_419 (tlt (by decide : (1 : Int32) < (2 : Int32))).2.2.2 rfl ?_
        refine miload 424 G170 at_422 rfl rfl ?_
        refine mifNo 427 G170 at_424 ((if0 _ _).trans (feq hc424_175).1) rfl ?_
        refine miconst 428 G170 at_427 (v := (1 : Int32)) rfl rfl ?_
        refine mgoto 447 G170 at_428 (by decide) rfl ?_
        exact castTop (g' := (mkF m 447 #[iv p0, iv p1, iv p2, iv p3, iv (2 : Int32), iv x3, iv x4, iv x5, iv x6, iv x7, iv x8, iv x9, rv b10, rv b35, rv b79, rv b102, rv b136, iv x165, iv x167, iv x169, iv x171, .unset] [(.int x174)])) (by simp only [hx174, if_pos hc409_172, if_neg hc424_175]) kt
    · refine ⟨T170, X170, e170, fun target kt => ?_⟩
      refine mifNo 412 G170 at_409 ((if0 _ _).trans (feq hc409_172).1) rfl ?_
      refine miconst 413 G170 at_412 (v := (0 : Int32)) rfl rfl ?_
      refine mgoto 447 G170 at_413 (by decide) rfl ?_
      exact castTop (g' := (mkF m 447 #[iv p0, iv p1, iv p2, iv p3, iv (2 : Int32), iv x3, iv x4, iv x5, iv x6, iv x7, iv x8, iv x9, rv b10, rv b35, rv b79, rv b102, rv b136, iv x165, iv x167, iv x169, iv x171, .unset] [(.int x174)])) (by simp only [hx174, if_neg hc409_172]) kt
  have G173 := gd X173 hx hby
  obtain ⟨x178, hx178⟩ : ∃ z : Int32, z = (if x165 = x174 then (1 : Int32) else (0 : Int32)) := ⟨_, rfl⟩
  obtain ⟨T177, X177, e177, st177⟩ : ∃ T' : State, Stand p l e room_1 s m #[(.int p0), (.int p1), (.int p2), (.int p3)] below meth c T' ((((((((((((((((([] ++ [⟨b10, ((0 : Int32)).toNatClampNeg⟩]) ++ [⟨b10, ((1 : Int32)).toNatClampNeg⟩]) ++ [⟨b10, ((2 : Int32)).toNatClampNeg⟩]) ++ [⟨b10, ((3 : Int32)).toNatClampNeg⟩]) ++ [⟨b10, ((4 : Int32)).toNatClampNeg⟩]) ++ [⟨b10, ((5 : Int32)).toNatClampNeg⟩]) ++ [⟨b35, ((0 : Int32)).toNatClampNeg⟩]) ++ [⟨b35, ((1 : Int32)).toNatClampNeg⟩]) ++ [⟨b35, ((2 : Int32)).toNatClampNeg⟩]) ++ [⟨b35, ((3 : Int32)).toNatClampNeg⟩]) ++ [⟨b35, ((4 : Int32)).toNatClampNeg⟩]) ++ [⟨b35, ((5 : Int32)).toNatClampNeg⟩]) ++ [⟨b79, ((0 : Int32)).toNatClampNeg⟩]) ++ [⟨b79, ((1 : Int32)).toNatClampNeg⟩]) ++ [⟨b102, ((0 : Int32)).toNatClampNeg⟩]) ++ [⟨b102, ((1 : Int32)).toNatClampNeg⟩]) ++ Lc141) 5 18 ∧ T'.heap = T141.heap ∧ ∀ target, Steps p.tables e below (T'.setTop (mkF m 461 #[iv p0, iv p1, iv p2, iv p3, iv (2 : Int32), iv x3, iv x4, iv x5, iv x6, iv x7, iv x8, iv x9, rv b10, rv b35, rv b79, rv b102, rv b136, iv x165, iv x167, iv x169, iv x171, iv x174] [(.int x178)])) target → Steps p.tables e below (T173.setTop (mkF m 453 #[iv p0, iv p1, iv p2, iv p3, iv (2 : Int32), iv x3, iv x4, iv x5, iv x6, iv x7, iv x8, iv x9, rv b10, rv b35, rv b79, rv b102, rv b136, iv x165, iv x167, iv x169, iv x171, iv x174] [(.int x174), (.int x165)])) target := by
    by_cases hc453_176 : x165 = x174
    · refine ⟨T173, X173, e173, fun target kt => ?_⟩
      refine micmpNo 456 G173 at_453 (teq hc453_176).2 rfl ?_
      refine miconst 457 G173 at_456 (v := (1 : Int32)) rfl rfl ?_
      refine mgoto 461 G173 at_457 (by decide) rfl ?_
      exact castTop (g' := (mkF m 461 #[iv p0, iv p1, iv p2, iv p3, iv (2 : Int32), iv x3, iv x4, iv x5, iv x6, iv x7, iv x8, iv x9, rv b10, rv b35, rv b79, rv b102, rv b136, iv x165, iv x167, iv x169, iv x171, iv x174] [(.int x178)])) (by simp only [hx178, if_pos hc453_176]) kt
    · refine ⟨T173, X173, e173, fun target kt => ?_⟩
      refine micmpYes 460 G173 at_453 (feq hc453_176).2 (by decide) rfl ?_
      refine miconst 461 G173 at_460 (v := (0 : Int32)) rfl rfl ?_
      exact castTop (g' := (mkF m 461 #[iv p0, iv p1, iv p2, iv p3, iv (2 : Int32), iv x3, iv x4, iv x5, iv x6, iv x7, iv x8, iv x9, rv b10, rv b35, rv b79, rv b102, rv b136, iv x165, iv x167, iv x169, iv x171, iv x174] [(.int x178)])) (by simp only [hx178, if_neg hc453_176]) kt
  have G177 := gd X177 hx hby
  have hend : x178 = 1 := (own_rm0_2_end p0 p1 p2 p3 x3 hx3 x4 hx4 x5 hx5 x6 hx6 x7 hx7 x8 hx8 x9 hx9 x11 hx11 x15 hx15 x19 hx19 x23 hx23 x27 hx27 x31 hx31 x37 hx37 x44 hx44 x51 hx51 x58 hx58 x65 hx65 x72 hx72 x165 hx165 x167 hx167 x169 hx169 x171 hx171 x174 hx174 x178 hx178 hpin3)
  obtain ⟨fs, hr, hrun, hended, hW, hsame⟩ := X177.leave (v := some (.int (1 : Int32))) (fun h => by rw [Bd.returns] at h; cases h)
  refine ⟨_, _, pre0 _ ?_, hrun, hended, _, _, rfl, ?_, ⟨_, rfl⟩, hW, hsame.mono (by decide) (by decide)⟩
  · show Steps p.tables e below (s₁.setTop (mkF m 0 #[iv p0, iv p1, iv p2, iv p3, .unset, .unset, .unset, .unset, .unset, .unset, .unset, .unset, .unset, .unset, .unset, .unset, .unset, .unset, .unset, .unset, .unset, .unset] [])) _
    refine miloadN 1 G0 at_0 rfl rfl ?_
    refine miconst 2 G0 at_1 (v := (3 : Int32)) rfl rfl ?_
    refine miand 3 G0 at_2 rfl rfl ?_
    refine castTop (g' := (mkF m 3 #[iv p0, iv p1, iv p2, iv p3, .unset, .unset, .unset, .unset, .unset, .unset, .unset, .unset, .unset, .unset, .unset, .unset, .unset, .unset, .unset, .unset, .unset, .unset] [(.int (2 : Int32))])) (by rw [hpin3]) ?_
    refine mistore 5 G0 at_3 #[iv p0, iv p1, iv p2, iv p3, iv (2 : Int32), .unset, .unset, .unset, .unset, .unset, .unset, .unset, .unset, .unset, .unset, .unset, .unset, .unset, .unset, .unset, .unset, .unset] rfl rfl ?_
    refine miloadN 6 G0 at_5 rfl rfl ?_
    refine miconst 7 G0 at_6 (v := (2 : Int32)) rfl rfl ?_
    refine miushr 8 G0 at_7 rfl rfl ?_
    refine miconst 9 G0 at_8 (v := (1 : Int32)) rfl rfl ?_
    refine miand 10 G0 at_9 rfl rfl ?_
    refine st2 _ ?_
    refine mistore 20 G2 at_18 #[iv p0, iv p1, iv p2, iv p3, iv (2 : Int32), iv x3, .unset, .unset, .unset, .unset, .unset, .unset, .unset, .unset, .unset, .unset, .unset, .unset, .unset, .unset, .unset, .unset] rfl rfl ?_
    refine miloadN 21 G2 at_20 rfl rfl ?_
    refine miconst 22 G2 at_21 (v := (1 : Int32)) rfl rfl ?_
    refine miand 23 G2 at_22 rfl rfl ?_
    refine castTop (g' := (mkF m 23 #[iv p0, iv p1, iv p2, iv p3, iv (2 : Int32), iv x3, .unset, .unset, .unset, .unset, .unset, .unset, .unset, .unset, .unset, .unset, .unset, .unset, .unset, .unset, .unset, .unset] [(.int x4)])) (by rw [hx4]) ?_
    refine mistore 25 G2 at_23 #[iv p0, iv p1, iv p2, iv p3, iv (2 : Int32), iv x3, iv x4, .unset, .unset, .unset, .unset, .unset, .unset, .unset, .unset, .unset, .unset, .unset, .unset, .unset, .unset, .unset] rfl rfl ?_
    refine miload 27 G2 at_25 rfl rfl ?_
    refine miconst 28 G2 at_27 (v := (1 : Int32)) rfl rfl ?_
    refine miadd 29 G2 at_28 rfl rfl ?_
    refine miloadN 30 G2 at_29 rfl rfl ?_
    refine miconst 31 G2 at_30 (v := (1 : Int32)) rfl rfl ?_
    refine miushr 32 G2 at_31 rfl rfl ?_
    refine miconst 33 G2 at_32 (v := (1 : Int32)) rfl rfl ?_
    refine miand 34 G2 at_33 rfl rfl ?_
    refine miadd 35 G2 at_34 rfl rfl ?_
    refine castTop (g' := (mkF m 35 #[iv p0, iv p1, iv p2, iv p3, iv (2 : Int32), iv x3, iv x4, .unset, .unset, .unset, .unset, .unset, .unset, .unset, .unset, .unset, .unset, .unset, .unset, .unset, .unset, .unset] [(.int x5)])) (by rw [hx5]) ?_
    refine mistore 37 G2 at_35 #[iv p0, iv p1, iv p2, iv p3, iv (2 : Int32), iv x3, iv x4, iv x5, .unset, .unset, .unset, .unset, .unset, .unset, .unset, .unset, .unset, .unset, .unset, .unset, .unset, .unset] rfl rfl ?_
    refine miload 39 G2 at_37 rfl rfl ?_
    refine miconst 40 G2 at_39 (v := (1 : Int32)) rfl rfl ?_
    refine miadd 41 G2 at_40 rfl rfl ?_
    refine miloadN 42 G2 at_41 rfl rfl ?_
    refine miconst 43 G2 at_42 (v := (2 : Int32)) rfl rfl ?_
    refine miushr 44 G2 at_43 rfl rfl ?_
    refine miconst 45 G2 at_44 (v := (1 : Int32)) rfl rfl ?_
    refine miand 46 G2 at_45 rfl rfl ?_
    refine miadd 47 G2 at_46 rfl rfl ?_
    refine castTop (g' := (mkF m 47 #[iv p0, iv p1, iv p2, iv p3, iv (2 : Int32), iv x3, iv x4, iv x5, .unset, .unset, .unset, .unset, .unset, .unset, .unset, .unset, .unset, .unset, .unset, .unset, .unset, .unset] [(.int x6)])) (by rw [hx6]) ?_
    refine mistore 49 G2 at_47 #[iv p0, iv p1, iv p2, iv p3, iv (2 : Int32), iv x3, iv x4, iv x5, iv x6, .unset, .unset, .unset, .unset, .unset, .unset, .unset, .unset, .unset, .unset, .unset, .unset, .unset] rfl rfl ?_
    refine miconst 50 G2 at_49 (v := (1 : Int32)) rfl rfl ?_
    refine miloadN 51 G2 at_50 rfl rfl ?_
    refine miconst 52 G2 at_51 (v := (3 : Int32)) rfl rfl ?_
    refine miand 53 G2 at_52 rfl rfl ?_
    refine miadd 54 G2 at_53 rfl rfl ?_
    refine castTop (g' := (mkF m 54 #[iv p0, iv p1, iv p2, iv p3, iv (2 : Int32), iv x3, iv x4, iv x5, iv x6, .unset, .unset, .unset, .unset, .unset, .unset, .unset, .unset, .unset, .unset, .unset, .unset, .unset] [(.int x7)])) (by rw [hx7]) ?_
    refine mistore 56 G2 at_54 #[iv p0, iv p1, iv p2, iv p3, iv (2 : Int32), iv x3, iv x4, iv x5, iv x6, iv x7, .unset, .unset, .unset, .unset, .unset, .unset, .unset, .unset, .unset, .unset, .unset, .unset] rfl rfl ?_
    refine miconst 57 G2 at_56 (v := (1 : Int32)) rfl rfl ?_
    refine miloadN 58 G2 at_57 rfl rfl ?_
    refine miconst 59 G2 at_58 (v := (2 : Int32)) rfl rfl ?_
    refine miushr 60 G2 at_59 rfl rfl ?_
    refine miconst 61 G2 at_60 (v := (3 : Int32)) rfl rfl ?_
    refine miand 62 G2 at_61 rfl rfl ?_
    refine miadd 63 G2 at_62 rfl rfl ?_
    refine castTop (g' := (mkF m 63 #[iv p0, iv p1, iv p2, iv p3, iv (2 : Int32), iv x3, iv x4, iv x5, iv x6, iv x7, .unset, .unset, .unset, .unset, .unset, .unset, .unset, .unset, .unset, .unset, .unset, .unset] [(.int x8)])) (by rw [hx8]) ?_
    refine mistore 65 G2 at_63 #[iv p0, iv p1, iv p2, iv p3, iv (2 : Int32), iv x3, iv x4, iv x5, iv x6, iv x7, iv x8, .unset, .unset, .unset, .unset, .unset, .unset, .unset, .unset, .unset, .unset, .unset] rfl rfl ?_
    refine miconst 66 G2 at_65 (v := (1 : Int32)) rfl rfl ?_
    refine miloadN 67 G2 at_66 rfl rfl ?_
    refine miconst 68 G2 at_67 (v := (4 : Int32)) rfl rfl ?_
    refine miushr 69 G2 at_68 rfl rfl ?_
    refine miconst 70 G2 at_69 (v := (3 : Int32)) rfl rfl ?_
    refine miand 71 G2 at_70 rfl rfl ?_
    refine miadd 72 G2 at_71 rfl rfl ?_
    refine castTop (g' := (mkF m 72 #[iv p0, iv p1, iv p2, iv p3, iv (2 : Int32), iv x3, iv x4, iv x5, iv x6, iv x7, iv x8, .unset, .unset, .unset, .unset, .unset, .unset, .unset, .unset, .unset, .unset, .unset] [(.int x9)])) (by rw [hx9]) ?_
    refine mistore 74 G2 at_72 #[iv p0, iv p1, iv p2, iv p3, iv (2 : Int32), iv x3, iv x4, iv x5, iv x6, iv x7, iv x8, iv x9, .unset, .unset, .unset, .unset, .unset, .unset, .unset, .unset, .unset, .unset] rfl rfl ?_
    refine mbipush 76 G2 at_74 (v := (6 : Int32)) rfl rfl ?_
    refine st10 _ ?_
    show Steps p.tables e below (T10.setTop (mkF m 78 #[iv p0, iv p1, iv p2, iv p3, iv (2 : Int32), iv x3, iv x4, iv x5, iv x6, iv x7, iv x8, iv x9, .unset, .unset, .unset, .unset, .unset, .unset, .unset, .unset, .unset, .unset] [(.ref b10)])) _
    refine mastore 80 G10 at_78 rfl #[iv p0, iv p1, iv p2, iv p3, iv (2 : Int32), iv x3, iv x4, iv x5, iv x6, iv x7, iv x8, iv x9, rv b10, .unset, .unset, .unset, .unset, .unset, .unset, .unset, .unset, .unset] rfl rfl ?_
    refine maload 82 G10 at_80 rfl rfl rfl ?_
    refine miconst 83 G10 at_82 (v := (0 : Int32)) rfl rfl ?_
    refine miloadN 84 G10 at_83 rfl rfl ?_
    refine mbipush 86 G10 at_84 (v := (7 : Int32)) rfl rfl ?_
    refine miand 87 G10 at_86 rfl rfl ?_
    refine castTop (g' := (mkF m 87 #[iv p0, iv p1, iv p2, iv p3, iv (2 : Int32), iv x3, iv x4, iv x5, iv x6, iv x7, iv x8, iv x9, rv b10, .unset, .unset, .unset, .unset, .unset, .unset, .unset, .unset, .unset] [(.int x11), (.int (0 : Int32)), (.ref b10)])) (by rw [hx11]) ?_
    refine st12 _ ?_
    refine maload 90 G12 at_88 rfl rfl rfl ?_
    refine miconst 91 G12 at_90 (v := (1 : Int32)) rfl rfl ?_
    refine miloadN 92 G12 at_91 rfl rfl ?_
    refine miconst 93 G12 at_92 (v := (3 : Int32)) rfl rfl ?_
    refine miushr 94 G12 at_93 rfl rfl ?_
    refine mbipush 96 G12 at_94 (v := (7 : Int32)) rfl rfl ?_
    refine miand 97 G12 at_96 rfl rfl ?_
    refine castTop (g' := (mkF m 97 #[iv p0, iv p1, iv p2, iv p3, iv (2 : Int32), iv x3, iv x4, iv x5, iv x6, iv x7, iv x8, iv x9, rv b10, .unset, .unset, .unset, .unset, .unset, .unset, .unset, .unset, .unset] [(.int x15), (.int (1 : Int32)), (.ref b10)])) (by rw [hx15]) ?_
    refine st16 _ ?_
    refine maload 100 G16 at_98 rfl rfl rfl ?_
    refine miconst 101 G16 at_100 (v := (2 : Int32)) rfl rfl ?_
    refine miloadN 102 G16 at_101 rfl rfl ?_
    refine mbipush 104 G16 at_102 (v := (6 : Int32)) rfl rfl ?_
    refine miushr 105 G16 at_104 rfl rfl ?_
    refine mbipush 107 G16 at_105 (v := (7 : Int32)) rfl rfl ?_
    refine miand 108 G16 at_107 rfl rfl ?_
    refine castTop (g' := (mkF m 108 #[iv p0, iv p1, iv p2, iv p3, iv (2 : Int32), iv x3, iv x4, iv x5, iv x6, iv x7, iv x8, iv x9, rv b10, .unset, .unset, .unset, .unset, .unset, .unset, .unset, .unset, .unset] [(.int x19), (.int (2 : Int32)), (.ref b10)])) (by rw [hx19]) ?_
    refine st20 _ ?_
    refine maload 111 G20 at_109 rfl rfl rfl ?_
    refine miconst 112 G20 at_111 (v := (3 : Int32)) rfl rfl ?_
    refine miloadN 113 G20 at_112 rfl rfl ?_
    refine mbipush 115 G20 at_113 (v := (9 : Int32)) rfl rfl ?_
    refine miushr 116 G20 at_115 rfl rfl ?_
    refine mbipush 118 G20 at_116 (v := (7 : Int32)) rfl rfl ?_
    refine miand 119 G20 at_118 rfl rfl ?_
    refine castTop (g' := (mkF m 119 #[iv p0, iv p1, iv p2, iv p3, iv (2 : Int32), iv x3, iv x4, iv x5, iv x6, iv x7, iv x8, iv x9, rv b10, .unset, .unset, .unset, .unset, .unset, .unset, .unset, .unset, .unset] [(.int x23), (.int (3 : Int32)), (.ref b10)])) (by rw [hx23]) ?_
    refine st24 _ ?_
    refine maload 122 G24 at_120 rfl rfl rfl ?_
    refine miconst 123 G24 at_122 (v := (4 : Int32)) rfl rfl ?_
    refine miloadN 124 G24 at_123 rfl rfl ?_
    refine mbipush 126 G24 at_124 (v := (12 : Int32)) rfl rfl ?_
    refine miushr 127 G24 at_126 rfl rfl ?_
    refine mbipush 129 G24 at_127 (v := (7 : Int32)) rfl rfl ?_
    refine miand 130 G24 at_129 rfl rfl ?_
    refine castTop (g' := (mkF m 130 #[iv p0, iv p1, iv p2, iv p3, iv (2 : Int32), iv x3, iv x4, iv x5, iv x6, iv x7, iv x8, iv x9, rv b10, .unset, .unset, .unset, .unset, .unset, .unset, .unset, .unset, .unset] [(.int x27), (.int (4 : Int32)), (.ref b10)])) (by rw [hx27]) ?_
    refine st28 _ ?_
    refine maload 133 G28 at_131 rfl rfl rfl ?_
    refine miconst 134 G28 at_133 (v := (5 : Int32)) rfl rfl ?_
    refine miloadN 135 G28 at_134 rfl rfl ?_
    refine mbipush 137 G28 at_135 (v := (15 : Int32)) rfl rfl ?_
    refine miushr 138 G28 at_137 rfl rfl ?_
    refine mbipush 140 G28 at_138 (v := (7 : Int32)) rfl rfl ?_
    refine miand 141 G28 at_140 rfl rfl ?_
    refine castTop (g' := (mkF m 141 #[iv p0, iv p1, iv p2, iv p3, iv (2 : Int32), iv x3, iv x4, iv x5, iv x6, iv x7, iv x8, iv x9, rv b10, .unset, .unset, .unset, .unset, .unset, .unset, .unset, .unset, .unset] [(.int x31), (.int (5 : Int32)), (.ref b10)])) (by rw [hx31]) ?_
    refine st32 _ ?_
    refine mbipush 144 G32 at_142 (v := (6 : Int32)) rfl rfl ?_
    refine st35 _ ?_
    show Steps p.tables e below (T35.setTop (mkF m 146 #[iv p0, iv p1, iv p2, iv p3, iv (2 : Int32), iv x3, iv x4, iv x5, iv x6, iv x7, iv x8, iv x9, rv b10, .unset, .unset, .unset, .unset, .unset, .unset, .unset, .unset, .unset] [(.ref b35)])) _
    refine mdup 147 G35 at_146 rfl rfl ?_
    refine miconst 148 G35 at_147 (v := (0 : Int32)) rfl rfl ?_
    refine maload 150 G35 at_148 rfl rfl rfl ?_
    refine miconst 151 G35 at_150 (v := (0 : Int32)) rfl rfl ?_
    refine miaload 152 X35 hx hby hZ e35 f36 (v := x11) at_151 ⟨by decide, by decide⟩ rfl rfl ?_
    refine mi2d 153 G35 at_152 rfl ?_
    refine castTop (g' := (mkF m 153 #[iv p0, iv p1, iv p2, iv p3, iv (2 : Int32), iv x3, iv x4, iv x5, iv x6, iv x7, iv x8, iv x9, rv b10, .unset, .unset, .unset, .unset, .unset, .unset, .unset, .unset, .unset] [(.double x37), (.int (0 : Int32)), (.ref b35), (.ref b35)])) (by rw [hx37]) ?_
    refine st38 _ ?_
    refine mdup 155 G38 at_154 rfl rfl ?_
    refine miconst 156 G38 at_155 (v := (1 : Int32)) rfl rfl ?_
    refine maload 158 G38 at_156 rfl rfl rfl ?_
    refine miconst 159 G38 at_158 (v := (1 : Int32)) rfl rfl ?_
    refine miaload 160 X38 hx hby hZ e38 f40 (v := x15) at_159 ⟨by decide, by decide⟩ rfl rfl ?_
    refine mi2d 161 G38 at_160 rfl ?_
    refine castTop (g' := (mkF m 161 #[iv p0, iv p1, iv p2, iv p3, iv (2 : Int32), iv x3, iv x4, iv x5, iv x6, iv x7, iv x8, iv x9, rv b10, .unset, .unset, .unset, .unset, .unset, .unset, .unset, .unset, .unset] [(.double x44), (.int (1 : Int32)), (.ref b35), (.ref b35)])) (by rw [hx44]) ?_
    refine st45 _ ?_
    refine mdup 163 G45 at_162 rfl rfl ?_
    refine miconst 164 G45 at_163 (v := (2 : Int32)) rfl rfl ?_
    refine maload 166 G45 at_164 rfl rfl rfl ?_
    refine miconst 167 G45 at_166 (v := (2 : Int32)) rfl rfl ?_
    refine miaload 168 X45 hx hby hZ e45 f47 (v := x19) at_167 ⟨by decide, by decide⟩ rfl rfl ?_
    refine mi2d 169 G45 at_168 rfl ?_
    refine castTop (g' := (mkF m 169 #[iv p0, iv p1, iv p2, iv p3, iv (2 : Int32), iv x3, iv x4, iv x5, iv x6, iv x7, iv x8, iv x9, rv b10, .unset, .unset, .unset, .unset, .unset, .unset, .unset, .unset, .unset] [(.double x51), (.int (2 : Int32)), (.ref b35), (.ref b35)])) (by rw [hx51]) ?_
    refine st52 _ ?_
    refine mdup 171 G52 at_170 rfl rfl ?_
    refine miconst 172 G52 at_171 (v := (3 : Int32)) rfl rfl ?_
    refine maload 174 G52 at_172 rfl rfl rfl ?_
    refine miconst 175 G52 at_174 (v := (3 : Int32)) rfl rfl ?_
    refine miaload 176 X52 hx hby hZ e52 f54 (v := x23) at_175 ⟨by decide, by decide⟩ rfl rfl ?_
    refine mi2d 177 G52 at_176 rfl ?_
    refine castTop (g' := (mkF m 177 #[iv p0, iv p1, iv p2, iv p3, iv (2 : Int32), iv x3, iv x4, iv x5, iv x6, iv x7, iv x8, iv x9, rv b10, .unset, .unset, .unset, .unset, .unset, .unset, .unset, .unset, .unset] [(.double x58), (.int (3 : Int32)), (.ref b35), (.ref b35)])) (by rw [hx58]) ?_
    refine st59 _ ?_
    refine mdup 179 G59 at_178 rfl rfl ?_
    refine miconst 180 G59 at_179 (v := (4 : Int32)) rfl rfl ?_
    refine maload 182 G59 at_180 rfl rfl rfl ?_
    refine miconst 183 G59 at_182 (v := (4 : Int32)) rfl rfl ?_
    refine miaload 184 X59 hx hby hZ e59 f61 (v := x27) at_183 ⟨by decide, by decide⟩ rfl rfl ?_
    refine mi2d 185 G59 at_184 rfl ?_
    refine castTop (g' := (mkF m 185 #[iv p0, iv p1, iv p2, iv p3, iv (2 : Int32), iv x3, iv x4, iv x5, iv x6, iv x7, iv x8, iv x9, rv b10, .unset, .unset, .unset, .unset, .unset, .unset, .unset, .unset, .unset] [(.double x65), (.int (4 : Int32)), (.ref b35), (.ref b35)])) (by rw [hx65]) ?_
    refine st66 _ ?_
    refine mdup 187 G66 at_186 rfl rfl ?_
    refine miconst 188 G66 at_187 (v := (5 : Int32)) rfl rfl ?_
    refine maload 190 G66 at_188 rfl rfl rfl ?_
    refine miconst 191 G66 at_190 (v := (5 : Int32)) rfl rfl ?_
    refine miaload 192 X66 hx hby hZ e66 f68 (v := x31) at_191 ⟨by decide, by decide⟩ rfl rfl ?_
    refine mi2d 193 G66 at_192 rfl ?_
    refine castTop (g' := (mkF m 193 #[iv p0, iv p1, iv p2, iv p3, iv (2 : Int32), iv x3, iv x4, iv x5, iv x6, iv x7, iv x8, iv x9, rv b10, .unset, .unset, .unset, .unset, .unset, .unset, .unset, .unset, .unset] [(.double x72), (.int (5 : Int32)), (.ref b35), (.ref b35)])) (by rw [hx72]) ?_
    refine st73 _ ?_
    refine mastore 196 G73 at_194 rfl #[iv p0, iv p1, iv p2, iv p3, iv (2 : Int32), iv x3, iv x4, iv x5, iv x6, iv x7, iv x8, iv x9, rv b10, rv b35, .unset, .unset, .unset, .unset, .unset, .unset, .unset, .unset] rfl rfl ?_
    refine miload 198 G73 at_196 rfl rfl ?_
    refine mifYes 207 G73 at_198 ((if0 _ _).trans (feq (by decide : ¬ ((2 : Int32) = (0 : Int32)))).2) (by decide) rfl ?_
    refine miload 209 G73 at_207 rfl rfl ?_
    refine miconst 210 G73 at_209 (v := (1 : Int32)) rfl rfl ?_
    refine micmpYes 224 G73 at_210 (feq (by decide : ¬ ((2 : Int32) = (1 : Int32)))).2 (by decide) rfl ?_
    refine miload 226 G73 at_224 rfl rfl ?_
    refine miconst 227 G73 at_226 (v := (2 : Int32)) rfl rfl ?_
    refine micmpNo 230 G73 at_227 (teq (by decide : (2 : Int32) = (2 : Int32))).2 rfl ?_
    refine miconst 231 G73 at_230 (v := (2 : Int32)) rfl rfl ?_
    refine st79 _ ?_
    show Steps p.tables e below (T79.setTop (mkF m 233 #[iv p0, iv p1, iv p2, iv p3, iv (2 : Int32), iv x3, iv x4, iv x5, iv x6, iv x7, iv x8, iv x9, rv b10, rv b35, .unset, .unset, .unset, .unset, .unset, .unset, .unset, .unset] [(.ref b79)])) _
    refine mdup 234 G79 at_233 rfl rfl ?_
    refine miconst 235 G79 at_234 (v := (0 : Int32)) rfl rfl ?_
    refine miload 237 G79 at_235 rfl rfl ?_
    refine st82 _ ?_
    refine mdup 239 G82 at_238 rfl rfl ?_
    refine miconst 240 G82 at_239 (v := (1 : Int32)) rfl rfl ?_
    refine miload 242 G82 at_240 rfl rfl ?_
    refine st92 _ ?_
    refine mgoto 264 G92 at_243 (by decide) rfl ?_
    refine mastore 266 G92 at_264 rfl #[iv p0, iv p1, iv p2, iv p3, iv (2 : Int32), iv x3, iv x4, iv x5, iv x6, iv x7, iv x8, iv x9, rv b10, rv b35, rv b79, .unset, .unset, .unset, .unset, .unset, .unset, .unset] rfl rfl ?_
    refine miload 268 G92 at_266 rfl rfl ?_
    refine mifYes 277 G92 at_268 ((if0 _ _).trans (feq (by decide : ¬ ((2 : Int32) = (0 : Int32)))).2) (by decide) rfl ?_
    refine miload 279 G92 at_277 rfl rfl ?_
    refine miconst 280 G92 at_279 (v := (1 : Int32)) rfl rfl ?_
    refine micmpYes 294 G92 at_280 (feq (by decide : ¬ ((2 : Int32) = (1 : Int32)))).2 (by decide) rfl ?_
    refine miload 296 G92 at_294 rfl rfl ?_
    refine miconst 297 G92 at_296 (v := (2 : Int32)) rfl rfl ?_
    refine micmpNo 300 G92 at_297 (teq (by decide : (2 : Int32) = (2 : Int32))).2 rfl ?_
    refine miconst 301 G92 at_300 (v := (2 : Int32)) rfl rfl ?_
    refine st102 _ ?_
    show Steps p.tables e below (T102.setTop (mkF m 303 #[iv p0, iv p1, iv p2, iv p3, iv (2 : Int32), iv x3, iv x4, iv x5, iv x6, iv x7, iv x8, iv x9, rv b10, rv b35, rv b79, .unset, .unset, .unset, .unset, .unset, .unset, .unset] [(.ref b102)])) _
    refine mdup 304 G102 at_303 rfl rfl ?_
    refine miconst 305 G102 at_304 (v := (0 : Int32)) rfl rfl ?_
    refine miload 307 G102 at_305 rfl rfl ?_
    refine st106 _ ?_
    refine mdup 309 G106 at_308 rfl rfl ?_
    refine miconst 310 G106 at_309 (v := (1 : Int32)) rfl rfl ?_
    refine miload 312 G106 at_310 rfl rfl ?_
    refine st121 _ ?_
    refine mgoto 334 G121 at_313 (by decide) rfl ?_
    refine mastore 336 G121 at_334 rfl #[iv p0, iv p1, iv p2, iv p3, iv (2 : Int32), iv x3, iv x4, iv x5, iv x6, iv x7, iv x8, iv x9, rv b10, rv b35, rv b79, rv b102, .unset, .unset, .unset, .unset, .unset, .unset] rfl rfl ?_
    refine st136 _ ?_
    show Steps p.tables e below (T136.setTop (mkF m 339 #[iv p0, iv p1, iv p2, iv p3, iv (2 : Int32), iv x3, iv x4, iv x5, iv x6, iv x7, iv x8, iv x9, rv b10, rv b35, rv b79, rv b102, .unset, .unset, .unset, .unset, .unset, .unset] [(.ref b136)])) _
    refine mdup 340 G136 at_339 rfl rfl ?_
    refine maload 342 G136 at_340 rfl rfl rfl ?_
    refine maload 344 G136 at_342 rfl rfl rfl ?_
    refine st141.trans ?_
    show Steps p.tables e below (T141.setTop (mkF m 347 #[iv p0, iv p1, iv p2, iv p3, iv (2 : Int32), iv x3, iv x4, iv x5, iv x6, iv x7, iv x8, iv x9, rv b10, rv b35, rv b79, rv b102, .unset, .unset, .unset, .unset, .unset, .unset] [(.ref b136)])) _
    refine mastore 349 G141 at_347 rfl #[iv p0, iv p1, iv p2, iv p3, iv (2 : Int32), iv x3, iv x4, iv x5, iv x6, iv x7, iv x8, iv x9, rv b10, rv b35, rv b79, rv b102, rv b136, .unset, .unset, .unset, .unset, .unset] rfl rfl ?_
    refine maload 351 G141 at_349 rfl rfl rfl ?_
    refine maload 353 G141 at_351 rfl rfl rfl ?_
    refine miload 355 G141 at_353 rfl rfl ?_
    refine st164.trans ?_
    show Steps p.tables e below (T164.setTop (mkF m 358 #[iv p0, iv p1, iv p2, iv p3, iv (2 : Int32), iv x3, iv x4, iv x5, iv x6, iv x7, iv x8, iv x9, rv b10, rv b35, rv b79, rv b102, rv b136, .unset, .unset, .unset, .unset, .unset] [(.int (rv4_2 x3 x4 x5 x7 x8 x37 x44 x51 x58 x65 x72))])) _
    refine castTop (g' := (mkF m 358 #[iv p0, iv p1, iv p2, iv p3, iv (2 : Int32), iv x3, iv x4, iv x5, iv x6, iv x7, iv x8, iv x9, rv b10, rv b35, rv b79, rv b102, rv b136, .unset, .unset, .unset, .unset, .unset] [(.int x165)])) (by rw [hx165]) ?_
    refine mistore 360 G164 at_358 #[iv p0, iv p1, iv p2, iv p3, iv (2 : Int32), iv x3, iv x4, iv x5, iv x6, iv x7, iv x8, iv x9, rv b10, rv b35, rv b79, rv b102, rv b136, iv x165, .unset, .unset, .unset, .unset] rfl rfl ?_
    refine maload 362 G164 at_360 rfl rfl rfl ?_
    refine miload 364 G164 at_362 rfl rfl ?_
    refine miaload 365 X164 hx hby hZ e164 f143 (v := (([x11, x15, x19, x23, x27, x31] : List Int32).getD x4.toNatClampNeg (0 : Int32))) at_364 (own_rm0_2_hin364 p0 p1 p2 p3 x3 hx3 x4 hx4 x5 hx5 x6 hx6 x7 hx7 x8 hx8 x9 hx9 x11 hx11 x15 hx15 x19 hx19 x23 hx23 x27 hx27 x31 hx31 x37 hx37 x44 hx44 x51 hx51 x58 hx58 x65 hx65 x72 hx72 x165 hx165 hpin3) (own_getDI ([x11, x15, x19, x23, x27, x31] : List Int32) _ _) rfl ?_
    refine miload 367 G164 at_365 rfl rfl ?_
    refine miload 369 G164 at_367 rfl rfl ?_
    refine st166 _ ?_
    show Steps p.tables e below (T166.setTop (mkF m 372 #[iv p0, iv p1, iv p2, iv p3, iv (2 : Int32), iv x3, iv x4, iv x5, iv x6, iv x7, iv x8, iv x9, rv b10, rv b35, rv b79, rv b102, rv b136, iv x165, .unset, .unset, .unset, .unset] [(.int (rv5 (([x11, x15, x19, x23, x27, x31] : List Int32).getD x4.toNatClampNeg (0 : Int32)) x7 x3))])) _
    refine castTop (g' := (mkF m 372 #[iv p0, iv p1, iv p2, iv p3, iv (2 : Int32), iv x3, iv x4, iv x5, iv x6, iv x7, iv x8, iv x9, rv b10, rv b35, rv b79, rv b102, rv b136, iv x165, .unset, .unset, .unset, .unset] [(.int x167)])) (by rw [hx167]) ?_
    refine mistore 374 G166 at_372 #[iv p0, iv p1, iv p2, iv p3, iv (2 : Int32), iv x3, iv x4, iv x5, iv x6, iv x7, iv x8, iv x9, rv b10, rv b35, rv b79, rv b102, rv b136, iv x165, iv x167, .unset, .unset, .unset] rfl rfl ?_
    refine maload 376 G166 at_374 rfl rfl rfl ?_
    refine miload 378 G166 at_376 rfl rfl ?_
    refine miaload 379 X166 hx hby hZ e166 f143 (v := (([x11, x15, x19, x23, x27, x31] : List Int32).getD x5.toNatClampNeg (0 : Int32))) at_378 (own_rm0_2_hin378 p0 p1 p2 p3 x3 hx3 x4 hx4 x5 hx5 x6 hx6 x7 hx7 x8 hx8 x9 hx9 x11 hx11 x15 hx15 x19 hx19 x23 hx23 x27 hx27 x31 hx31 x37 hx37 x44 hx44 x51 hx51 x58 hx58 x65 hx65 x72 hx72 x165 hx165 x167 hx167 hpin3) (own_getDI ([x11, x15, x19, x23, x27, x31] : List Int32) _ _) rfl ?_
    refine miload 381 G166 at_379 rfl rfl ?_
    refine miload 383 G166 at_381 rfl rfl ?_
    refine st168 _ ?_
    show Steps p.tables e below (T168.setTop (mkF m 386 #[iv p0, iv p1, iv p2, iv p3, iv (2 : Int32), iv x3, iv x4, iv x5, iv x6, iv x7, iv x8, iv x9, rv b10, rv b35, rv b79, rv b102, rv b136, iv x165, iv x167, .unset, .unset, .unset] [(.int (rv5 (([x11, x15, x19, x23, x27, x31] : List Int32).getD x5.toNatClampNeg (0 : Int32)) x8 x3))])) _
    refine castTop (g' := (mkF m 386 #[iv p0, iv p1, iv p2, iv p3, iv (2 : Int32), iv x3, iv x4, iv x5, iv x6, iv x7, iv x8, iv x9, rv b10, rv b35, rv b79, rv b102, rv b136, iv x165, iv x167, .unset, .unset, .unset] [(.int x169)])) (by rw [hx169]) ?_
    refine mistore 388 G168 at_386 #[iv p0, iv p1, iv p2, iv p3, iv (2 : Int32), iv x3, iv x4, iv x5, iv x6, iv x7, iv x8, iv x9, rv b10, rv b35, rv b79, rv b102, rv b136, iv x165, iv x167, iv x169, .unset, .unset] rfl rfl ?_
    refine maload 390 G168 at_388 rfl rfl rfl ?_
    refine miload 392 G168 at_390 rfl rfl ?_
    refine miaload 393 X168 hx hby hZ e168 f143 (v := (([x11, x15, x19, x23, x27, x31] : List Int32).getD x6.toNatClampNeg (0 : Int32))) at_392 (own_rm0_2_hin392 p0 p1 p2 p3 x3 hx3 x4 hx4 x5 hx5 x6 hx6 x7 hx7 x8 hx8 x9 hx9 x11 hx11 x15 hx15 x19 hx19 x23 hx23 x27 hx27 x31 hx31 x37 hx37 x44 hx44 x51 hx51 x58 hx58 x65 hx65 x72 hx72 x165 hx165 x167 hx167 x169 hx169 hpin3) (own_getDI ([x11, x15, x19, x23, x27, x31] : List Int32) _ _) rfl ?_
    refine miload 395 G168 at_393 rfl rfl ?_
    refine miload 397 G168 at_395 rfl rfl ?_
    refine st170 _ ?_
    show Steps p.tables e below (T170.setTop (mkF m 400 #[iv p0, iv p1, iv p2, iv p3, iv (2 : Int32), iv x3, iv x4, iv x5, iv x6, iv x7, iv x8, iv x9, rv b10, rv b35, rv b79, rv b102, rv b136, iv x165, iv x167, iv x169, .unset, .unset] [(.int (rv5 (([x11, x15, x19, x23, x27, x31] : List Int32).getD x6.toNatClampNeg (0 : Int32)) x9 x3))])) _
    refine castTop (g' := (mkF m 400 #[iv p0, iv p1, iv p2, iv p3, iv (2 : Int32), iv x3, iv x4, iv x5, iv x6, iv x7, iv x8, iv x9, rv b10, rv b35, rv b79, rv b102, rv b136, iv x165, iv x167, iv x169, .unset, .unset] [(.int x171)])) (by rw [hx171]) ?_
    refine mistore 402 G170 at_400 #[iv p0, iv p1, iv p2, iv p3, iv (2 : Int32), iv x3, iv x4, iv x5, iv x6, iv x7, iv x8, iv x9, rv b10, rv b35, rv b79, rv b102, rv b136, iv x165, iv x167, iv x169, iv x171, .unset] rfl rfl ?_
    refine miload 404 G170 at_402 rfl rfl ?_
    refine mifNo 407 G170 at_404 ((if0 _ _).trans (tlt (by decide : (0 : Int32) < (2 : Int32))).2.2.2) rfl ?_
    refine miload 409 G170 at_407 rfl rfl ?_
    refine st173 _ ?_
    refine mistore 449 G173 at_447 #[iv p0, iv p1, iv p2, iv p3, iv (2 : Int32), iv x3, iv x4, iv x5, iv x6, iv x7, iv x8, iv x9, rv b10, rv b35, rv b79, rv b102, rv b136, iv x165, iv x167, iv x169, iv x171, iv x174] rfl rfl ?_
    refine miload 451 G173 at_449 rfl rfl ?_
    refine miload 453 G173 at_451 rfl rfl ?_
    refine st177 _ ?_
    refine castTop (g' := (mkF m 461 #[iv p0, iv p1, iv p2, iv p3, iv (2 : Int32), iv x3, iv x4, iv x5, iv x6, iv x7, iv x8, iv x9, rv b10, rv b35, rv b79, rv b102, rv b136, iv x165, iv x167, iv x169, iv x171, iv x174] [(.int (1 : Int32))])) (by rw [hend]) ?_
    exact retN X177 hx (t := .boolean) Bd.returns (by simp) (hb hby at_461) hr
  · show Q0 Z p0 p1 p2 p3 h0 n0 _ T177.heap _
    rw [e177]
    exact ⟨rfl, N141⟩
theorem ef4_3 (m : MethodId) (o0 : Addr) (o1 : Addr) (p2 : Int32) : entryFrame m #[(.ref o0), (.ref o1), (.int p2)] 6 = mkF m 0 #[rv o0, rv o1, iv p2, .unset, .unset, .unset] [] := by first | (simp [entryFrame, mkF, argsToLocals, Value.category]; done) | rfl
abbrev room_of_4_3 : Room := { frames := 0, cells := 0, slots := 0, locals := 0 }
def rv4_3 (p2 : Int32) (s0_ : Int32) (s1_ : Int32) (s2_ : Int32) (a0_ : Int32) (a1_ : Int32) (a2_ : Int32) (c0_ : UInt64) (c1_ : UInt64) (c2_ : UInt64) (c3_ : UInt64) (c4_ : UInt64) (c5_ : UInt64) : Int32 := (if p2 = (0 : Int32) then (if (cmpValue (FP.dcmp (([c0_, c1_, c2_, c3_, c4_, c5_] : List UInt64).getD s0_.toNatClampNeg (0 : UInt64)) (0 : UInt64)) .l) = (0 : Int32) then (0 : Int32) else (if (cmpValue (FP.dcmp (([c0_, c1_, c2_, c3_, c4_, c5_] : List UInt64).getD s1_.toNatClampNeg (0 : UInt64)) (0 : UInt64)) .l) = (0 : Int32) then (1 : Int32) else (if (cmpValue (FP.dcmp (([c0_, c1_, c2_, c3_, c4_, c5_] : List UInt64).getD s2_.toNatClampNeg (0 : UInt64)) (0 : UInt64)) .l) = (0 : Int32) then (2 : Int32) else (-1 : Int32)))) else (if (cmpValue (FP.dcmp (([c0_, c1_, c2_, c3_, c4_, c5_] : List UInt64).getD s0_.toNatClampNeg (0 : UInt64)) (FP.i2d a0_)) .g) < (0 : Int32) then (0 : Int32) else (if (cmpValue (FP.dcmp (([c0_, c1_, c2_, c3_, c4_, c5_] : List UInt64).getD s1_.toNatClampNeg (0 : UInt64)) (FP.i2d a1_)) .g) < (0 : Int32) then (1 : Int32) else (if (cmpValue (FP.dcmp (([c0_, c1_, c2_, c3_, c4_, c5_] : List UInt64).getD s2_.toNatClampNeg (0 : UInt64)) (FP.i2d a2_)) .g) < (0 : Int32) then (2 : Int32) else (-1 : Int32)))))
def Q4_3 (Z : State) (o0 : Addr) (o1 : Addr) (p2 : Int32) (w1 : Addr) (w2 : Addr) (k1 : ClassId) (s0_ : Int32) (s1_ : Int32) (s2_ : Int32) (k2 : ClassId) (a0_ : Int32) (a1_ : Int32) (a2_ : Int32) (k3 : ClassId) (c0_ : UInt64) (c1_ : UInt64) (c2_ : UInt64) (c3_ : UInt64) (c4_ : UInt64) (c5_ : UInt64) (h0 : Heap) (n0 : Nat) (v : Option Value) (h : Heap) (L : List Loc) : Prop := v = some (.int (rv4_3 p2 s0_ s1_ s2_ a0_ a1_ a2_ c0_ c1_ c2_ c3_ c4_ c5_)) ∧ L = [] ∧ h = h0
set_option maxRecDepth 65536 in
set_option maxHeartbeats 40000000 in
theorem rm4_3 (l : Launch) (Z : State) (a0 : Array Value) (hw : ∀ d ∈ tables_1, d.before a0 Z = true) (ws : List Jvm.Cond) (o0 : Addr) (o1 : Addr) (p2 : Int32) {w1 : Addr} {w2 : Addr} {k1 : ClassId} {s0_ : Int32} {s1_ : Int32} {s2_ : Int32} {k2 : ClassId} {a0_ : Int32} {a1_ : Int32} {a2_ : Int32} {k3 : ClassId} {c0_ : UInt64} {c1_ : UInt64} {c2_ : UInt64} {c3_ : UInt64} {c4_ : UInt64} {c5_ : UInt64} (h0 : Heap) (n0 : Nat) (Z0 : n0 ≤ h0.size) (F_states_o0 : Fld Z h0 o0 "com/example/oceanus/oceanus/analysis/Taken" "states" "[I" (.ref w1)) (F_agents_o0 : Fld Z h0 o0 "com/example/oceanus/oceanus/analysis/Taken" "agents" "[I" (.ref w2)) (V_w1 : Arv Z h0 w1 k1 .int (3 : Int32) [(.int s0_), (.int s1_), (.int s2_)] (.int (0 : Int32))) (V_w2 : Arv Z h0 w2 k2 .int (3 : Int32) [(.int a0_), (.int a1_), (.int a2_)] (.int (0 : Int32))) (V_o1 : Arv Z h0 o1 k3 .double (6 : Int32) [(.double c0_), (.double c1_), (.double c2_), (.double c3_), (.double c4_), (.double c5_)] (.double (0 : UInt64))) (hin18 : ¬ s0_ < 0 ∧ s0_ < (6 : Int32)) (hin18' : (p2 = (0 : Int32)) → (¬ ((cmpValue (FP.dcmp (([c0_, c1_, c2_, c3_, c4_, c5_] : List UInt64).getD s0_.toNatClampNeg (0 : UInt64)) (0 : UInt64)) .l) = (0 : Int32))) → ¬ s1_ < 0 ∧ s1_ < (6 : Int32)) (hin18'' : (p2 = (0 : Int32)) → (¬ ((cmpValue (FP.dcmp (([c0_, c1_, c2_, c3_, c4_, c5_] : List UInt64).getD s0_.toNatClampNeg (0 : UInt64)) (0 : UInt64)) .l) = (0 : Int32))) → (¬ ((cmpValue (FP.dcmp (([c0_, c1_, c2_, c3_, c4_, c5_] : List UInt64).getD s1_.toNatClampNeg (0 : UInt64)) (0 : UInt64)) .l) = (0 : Int32))) → ¬ s2_ < 0 ∧ s2_ < (6 : Int32)) (hin18''' : (¬ (p2 = (0 : Int32))) → (¬ ((cmpValue (FP.dcmp (([c0_, c1_, c2_, c3_, c4_, c5_] : List UInt64).getD s0_.toNatClampNeg (0 : UInt64)) (FP.i2d a0_)) .g) < (0 : Int32))) → ¬ s1_ < 0 ∧ s1_ < (6 : Int32)) (hin18'''' : (¬ (p2 = (0 : Int32))) → (¬ ((cmpValue (FP.dcmp (([c0_, c1_, c2_, c3_, c4_, c5_] : List UInt64).getD s0_.toNatClampNeg (0 : UInt64)) (FP.i2d a0_)) .g) < (0 : Int32))) → (¬ ((cmpValue (FP.dcmp (([c0_, c1_, c2_, c3_, c4_, c5_] : List UInt64).getD s1_.toNatClampNeg (0 : UInt64)) (FP.i2d a1_)) .g) < (0 : Int32))) → ¬ s2_ < 0 ∧ s2_ < (6 : Int32)) :
    MetFree l (⟨"com/example/oceanus/oceanus/analysis/Taken", "unmade", "([DZ)I"⟩ : MethodName) (head1 (Jvm.Cond.code (⟨"com/example/oceanus/oceanus/analysis/Taken", "unmade", "([DZ)I"⟩ : MethodName) prog_26_method_4_code 6 (some .int) :: ws) (room_of_4_3)) (fun a U => a = #[(.ref o0), (.ref o1), (.int p2)] ∧ Z.Warmed39 U.vm ∧ U.heap = h0) (fun _ _ _ _ _ => True) (fun _ U o U' => ∃ v L, o = .returned v ∧ Q4_3 Z o0 o1 p2 w1 w2 k1 s0_ s1_ s2_ k2 a0_ a1_ a2_ k3 c0_ c1_ c2_ c3_ c4_ c5_ h0 n0 v U'.heap L ∧ FrameEnd U o U' L (room_of_4_3).cells (room_of_4_3).slots) := by
  refine MetFree.of_bodySF (plainFor_of_name pn_4) hisR ?_
  intro p e s m args below meth c s₁ Bd hml0 hP hK
  obtain ⟨rfl, hZ, hh⟩ := hP
  have hx := Bd.exec
  have hby := Bd.bytes
  have hml : c.maxLocals = 6 := hml0
  have hown : s.vm.findClass "com/example/oceanus/oceanus/analysis/Taken" = some m.cls := findClass_of_methodNamed Bd.named
  have hnm := (name_of_methodNamed Bd.named Bd.method).1
  have X0 : Stand p l e (room_of_4_3) s m #[(.ref o0), (.ref o1), (.int p2)] below meth c s₁ [] 0 0 := Stand.of_body Bd
  have e0 : s₁.heap = h0 := by rw [← hh, Bd.state]; rfl
  have N0 := Fr.nil n0
  have G0 := gd X0 hx hby
  have pre0 : ∀ t, Steps p.tables e below (s₁.setTop (mkF m 0 #[rv o0, rv o1, iv p2, .unset, .unset, .unset] [])) t → Steps p.tables e below (s₁.setTop (entryFrame m #[(.ref o0), (.ref o1), (.int p2)] 6)) t := fun t k => castTop (ef4_3 m o0 o1 p2) k
  obtain ⟨T1, X1, e1, st1⟩ := getF X0 hx hZ hown (host := "") (Or.inl (wd hw 16 rfl)) Via.refl e0 F_states_o0 (g := (mkF m 4 #[rv o0, rv o1, iv p2, iv (0 : Int32), .unset, .unset] [(.ref o0), (.int (0 : Int32))])) rfl rfl (hb hby d4_4)
  have G1 := gd X1 hx hby
  obtain ⟨T2, X2, e2, st2⟩ := getF X1 hx hZ hown (host := "") (Or.inl (wd hw 16 rfl)) Via.refl e1 F_states_o0 (g := (mkF m 13 #[rv o0, rv o1, iv p2, iv (0 : Int32), .unset, .unset] [(.ref o0), (.ref o1)])) rfl rfl (hb hby d4_13)
  have G2 := gd X2 hx hby
  by_cases hc22_3 : p2 = (0 : Int32)
  · by_cases hc45_4 : (cmpValue (FP.dcmp (([c0_, c1_, c2_, c3_, c4_, c5_] : List UInt64).getD s0_.toNatClampNeg (0 : UInt64)) (0 : UInt64)) .l) = (0 : Int32)
    · obtain ⟨fs, hr, hrun, hended, hW, hsame⟩ := X2.leave (v := some (.int (0 : Int32))) (fun h => by rw [Bd.returns] at h; cases h)
      refine ⟨_, _, pre0 _ ?_, hrun, hended, _, _, rfl, ?_, ⟨_, rfl⟩, hW, hsame.mono (by decide) (by decide)⟩
      · show Steps p.tables e below (s₁.setTop (mkF m 0 #[rv o0, rv o1, iv p2, .unset, .unset, .unset] [])) _
        refine miconst 1 G0 d4_0 (v := (0 : Int32)) rfl rfl ?_
        refine mistoreN 2 G0 d4_1 #[rv o0, rv o1, iv p2, iv (0 : Int32), .unset, .unset] rfl rfl ?_
        refine miloadN 3 G0 d4_2 rfl rfl ?_
        refine maloadN 4 G0 d4_3 rfl rfl rfl ?_
        refine st1 _ ?_
        show Steps p.tables e below (T1.setTop (mkF m 7 #[rv o0, rv o1, iv p2, iv (0 : Int32), .unset, .unset] [(.ref w1), (.int (0 : Int32))])) _
        refine mlen 8 X1 hx hby hZ e1 V_w1 d4_7 rfl ?_
        refine micmpNo 11 G1 d4_8 (tlt (by decide : (0 : Int32) < (3 : Int32))).2.1 rfl ?_
        refine maloadN 12 G1 d4_11 rfl rfl rfl ?_
        refine maloadN 13 G1 d4_12 rfl rfl rfl ?_
        refine st2 _ ?_
        show Steps p.tables e below (T2.setTop (mkF m 16 #[rv o0, rv o1, iv p2, iv (0 : Int32), .unset, .unset] [(.ref w1), (.ref o1)])) _
        refine miloadN 17 G2 d4_16 rfl rfl ?_
        refine miaload 18 X2 hx hby hZ e2 V_w1 (v := s0_) d4_17 ⟨by decide, by decide⟩ rfl rfl ?_
        refine mdaload 19 X2 hx hby hZ e2 V_o1 (v := (([c0_, c1_, c2_, c3_, c4_, c5_] : List UInt64).getD s0_.toNatClampNeg (0 : UInt64))) d4_18 (hin18) (own_getDD ([c0_, c1_, c2_, c3_, c4_, c5_] : List UInt64) _ _) rfl ?_
        refine mdstore 21 G2 d4_19 #[rv o0, rv o1, iv p2, iv (0 : Int32), dv (([c0_, c1_, c2_, c3_, c4_, c5_] : List UInt64).getD s0_.toNatClampNeg (0 : UInt64)), .second] rfl rfl ?_
        refine miloadN 22 G2 d4_21 rfl rfl ?_
        refine mifYes 41 G2 d4_22 ((if0 _ _).trans (teq hc22_3).1) (by decide) rfl ?_
        refine mdload 43 G2 d4_41 rfl rfl ?_
        refine mdconst0 44 G2 d4_43 (v := (0 : UInt64)) rfl rfl ?_
        refine mdcmp 45 G2 d4_44 rfl ?_
        refine mifNo 48 G2 d4_45 ((if0 _ _).trans (teq hc45_4).2) rfl ?_
        refine miloadN 49 G2 d4_48 rfl rfl ?_
        exact retOut X2 hx Bd.returns rfl (Or.inl ⟨rfl, Or.inl rfl, _, rfl⟩) (hb hby d4_49) hr
      · show Q4_3 Z o0 o1 p2 w1 w2 k1 s0_ s1_ s2_ k2 a0_ a1_ a2_ k3 c0_ c1_ c2_ c3_ c4_ c5_ h0 n0 _ T2.heap _
        rw [e2]
        exact ⟨by simp only [rv4_3, if_pos hc22_3, if_pos hc45_4], rfl, rfl⟩
    · obtain ⟨T5, X5, e5, st5⟩ := getF X2 hx hZ hown (host := "") (Or.inl (wd hw 16 rfl)) Via.refl e2 F_states_o0 (g := (mkF m 4 #[rv o0, rv o1, iv p2, iv (1 : Int32), dv (([c0_, c1_, c2_, c3_, c4_, c5_] : List UInt64).getD s0_.toNatClampNeg (0 : UInt64)), .second] [(.ref o0), (.int (1 : Int32))])) rfl rfl (hb hby d4_4)
      have G5 := gd X5 hx hby
      obtain ⟨T6, X6, e6, st6⟩ := getF X5 hx hZ hown (host := "") (Or.inl (wd hw 16 rfl)) Via.refl e5 F_states_o0 (g := (mkF m 13 #[rv o0, rv o1, iv p2, iv (1 : Int32), dv (([c0_, c1_, c2_, c3_, c4_, c5_] : List UInt64).getD s0_.toNatClampNeg (0 : UInt64)), .second] [(.ref o0), (.ref o1)])) rfl rfl (hb hby d4_13)
      have G6 := gd X6 hx hby
      by_cases hc45_7 : (cmpValue (FP.dcmp (([c0_, c1_, c2_, c3_, c4_, c5_] : List UInt64).getD s1_.toNatClampNeg (0 : UInt64)) (0 : UInt64)) .l) = (0 : Int32)
      · obtain ⟨fs, hr, hrun, hended, hW, hsame⟩ := X6.leave (v := some (.int (1 : Int32))) (fun h => by rw [Bd.returns] at h; cases h)
        refine ⟨_, _, pre0 _ ?_, hrun, hended, _, _, rfl, ?_, ⟨_, rfl⟩, hW, hsame.mono (by decide) (by decide)⟩
        · show Steps p.tables e below (s₁.setTop (mkF m 0 #[rv o0, rv o1, iv p2, .unset, .unset, .unset] [])) _
          refine miconst 1 G0 d4_0 (v := (0 : Int32)) rfl rfl ?_
          refine mistoreN 2 G0 d4_1 #[rv o0, rv o1, iv p2, iv (0 : Int32), .unset, .unset] rfl rfl ?_
          refine miloadN 3 G0 d4_2 rfl rfl ?_
          refine maloadN 4 G0 d4_3 rfl rfl rfl ?_
          refine st1 _ ?_
          show Steps p.tables e below (T1.setTop (mkF m 7 #[rv o0, rv o1, iv p2, iv (0 : Int32), .unset, .unset] [(.ref w1), (.int (0 : Int32))])) _
          refine mlen 8 X1 hx hby hZ e1 V_w1 d4_7 rfl ?_
          refine micmpNo 11 G1 d4_8 (tlt (by decide : (0 : Int32) < (3 : Int32))).2.1 rfl ?_
          refine maloadN 12 G1 d4_11 rfl rfl rfl ?_
          refine maloadN 13 G1 d4_12 rfl rfl rfl ?_
          refine st2 _ ?_
          show Steps p.tables e below (T2.setTop (mkF m 16 #[rv o0, rv o1, iv p2, iv (0 : Int32), .unset, .unset] [(.ref w1), (.ref o1)])) _
          refine miloadN 17 G2 d4_16 rfl rfl ?_
          refine miaload 18 X2 hx hby hZ e2 V_w1 (v := s0_) d4_17 ⟨by decide, by decide⟩ rfl rfl ?_
          refine mdaload 19 X2 hx hby hZ e2 V_o1 (v := (([c0_, c1_, c2_, c3_, c4_, c5_] : List UInt64).getD s0_.toNatClampNeg (0 : UInt64))) d4_18 (hin18) (own_getDD ([c0_, c1_, c2_, c3_, c4_, c5_] : List UInt64) _ _) rfl ?_
          refine mdstore 21 G2 d4_19 #[rv o0, rv o1, iv p2, iv (0 : Int32), dv (([c0_, c1_, c2_, c3_, c4_, c5_] : List UInt64).getD s0_.toNatClampNeg (0 : UInt64)), .second] rfl rfl ?_
          refine miloadN 22 G2 d4_21 rfl rfl ?_
          refine mifYes 41 G2 d4_22 ((if0 _ _).trans (teq hc22_3).1) (by decide) rfl ?_
          refine mdload 43 G2 d4_41 rfl rfl ?_
          refine mdconst0 44 G2 d4_43 (v := (0 : UInt64)) rfl rfl ?_
          refine mdcmp 45 G2 d4_44 rfl ?_
          refine mifYes 50 G2 d4_45 ((if0 _ _).trans (feq hc45_4).2) (by decide) rfl ?_
          refine miinc 53 G2 d4_50 rfl #[rv o0, rv o1, iv p2, iv (1 : Int32), dv (([c0_, c1_, c2_, c3_, c4_, c5_] : List UInt64).getD s0_.toNatClampNeg (0 : UInt64)), .second] rfl rfl ?_
          refine mgoto 2 G2 d4_53 (by decide) rfl ?_
          refine miloadN 3 G2 d4_2 rfl rfl ?_
          refine maloadN 4 G2 d4_3 rfl rfl rfl ?_
          refine st5 _ ?_
          show Steps p.tables e below (T5.setTop (mkF m 7 #[rv o0, rv o1, iv p2, iv (1 : Int32), dv (([c0_, c1_, c2_, c3_, c4_, c5_] : List UInt64).getD s0_.toNatClampNeg (0 : UInt64)), .second] [(.ref w1), (.int (1 : Int32))])) _
          refine mlen 8 X5 hx hby hZ e5 V_w1 d4_7 rfl ?_
          refine micmpNo 11 G5 d4_8 (tlt (by decide : (1 : Int32) < (3 : Int32))).2.1 rfl ?_
          refine maloadN 12 G5 d4_11 rfl rfl rfl ?_
          refine maloadN 13 G5 d4_12 rfl rfl rfl ?_
          refine st6 _ ?_
          show Steps p.tables e below (T6.setTop (mkF m 16 #[rv o0, rv o1, iv p2, iv (1 : Int32), dv (([c0_, c1_, c2_, c3_, c4_, c5_] : List UInt64).getD s0_.toNatClampNeg (0 : UInt64)), .second] [(.ref w1), (.ref o1)])) _
          refine miloadN 17 G6 d4_16 rfl rfl ?_
          refine miaload 18 X6 hx hby hZ e6 V_w1 (v := s1_) d4_17 ⟨by decide, by decide⟩ rfl rfl ?_
          refine mdaload 19 X6 hx hby hZ e6 V_o1 (v := (([c0_, c1_, c2_, c3_, c4_, c5_] : List UInt64).getD s1_.toNatClampNeg (0 : UInt64))) d4_18 (hin18' hc22_3 hc45_4) (own_getDD ([c0_, c1_, c2_, c3_, c4_, c5_] : List UInt64) _ _) rfl ?_
          refine mdstore 21 G6 d4_19 #[rv o0, rv o1, iv p2, iv (1 : Int32), dv (([c0_, c1_, c2_, c3_, c4_, c5_] : List UInt64).getD s1_.toNatClampNeg (0 : UInt64)), .second] rfl rfl ?_
          refine miloadN 22 G6 d4_21 rfl rfl ?_
          refine mifYes 41 G6 d4_22 ((if0 _ _).trans (teq hc22_3).1) (by decide) rfl ?_
          refine mdload 43 G6 d4_41 rfl rfl ?_
          refine mdconst0 44 G6 d4_43 (v := (0 : UInt64)) rfl rfl ?_
          refine mdcmp 45 G6 d4_44 rfl ?_
          refine mifNo 48 G6 d4_45 ((if0 _ _).trans (teq hc45_7).2) rfl ?_
          refine miloadN 49 G6 d4_48 rfl rfl ?_
          exact retOut X6 hx Bd.returns rfl (Or.inl ⟨rfl, Or.inl rfl, _, rfl⟩) (hb hby d4_49) hr
        · show Q4_3 Z o0 o1 p2 w1 w2 k1 s0_ s1_ s2_ k2 a0_ a1_ a2_ k3 c0_ c1_ c2_ c3_ c4_ c5_ h0 n0 _ T6.heap _
          rw [e6]
          exact ⟨by simp only [rv4_3, if_pos hc22_3, if_neg hc45_4, if_pos hc45_7], rfl, rfl⟩
      · obtain ⟨T8, X8, e8, st8⟩ := getF X6 hx hZ hown (host := "") (Or.inl (wd hw 16 rfl)) Via.refl e6 F_states_o0 (g := (mkF m 4 #[rv o0, rv o1, iv p2, iv (2 : Int32), dv (([c0_, c1_, c2_, c3_, c4_, c5_] : List UInt64).getD s1_.toNatClampNeg (0 : UInt64)), .second] [(.ref o0), (.int (2 : Int32))])) rfl rfl (hb hby d4_4)
        have G8 := gd X8 hx hby
        obtain ⟨T9, X9, e9, st9⟩ := getF X8 hx hZ hown (host := "") (Or.inl (wd hw 16 rfl)) Via.refl e8 F_states_o0 (g := (mkF m 13 #[rv o0, rv o1, iv p2, iv (2 : Int32), dv (([c0_, c1_, c2_, c3_, c4_, c5_] : List UInt64).getD s1_.toNatClampNeg (0 : UInt64)), .second] [(.ref o0), (.ref o1)])) rfl rfl (hb hby d4_13)
        have G9 := gd X9 hx hby
        by_cases hc45_10 : (cmpValue (FP.dcmp (([c0_, c1_, c2_, c3_, c4_, c5_] : List UInt64).getD s2_.toNatClampNeg (0 : UInt64)) (0 : UInt64)) .l) = (0 : Int32)
        · obtain ⟨fs, hr, hrun, hended, hW, hsame⟩ := X9.leave (v := some (.int (2 : Int32))) (fun h => by rw [Bd.returns] at h; cases h)
          refine ⟨_, _, pre0 _ ?_, hrun, hended, _, _, rfl, ?_, ⟨_, rfl⟩, hW, hsame.mono (by decide) (by decide)⟩
          · show Steps p.tables e below (s₁.setTop (mkF m 0 #[rv o0, rv o1, iv p2, .unset, .unset, .unset] [])) _
            refine miconst 1 G0 d4_0 (v := (0 : Int32)) rfl rfl ?_
            refine mistoreN 2 G0 d4_1 #[rv o0, rv o1, iv p2, iv (0 : Int32), .unset, .unset] rfl rfl ?_
            refine miloadN 3 G0 d4_2 rfl rfl ?_
            refine maloadN 4 G0 d4_3 rfl rfl rfl ?_
            refine st1 _ ?_
            show Steps p.tables e below (T1.setTop (mkF m 7 #[rv o0, rv o1, iv p2, iv (0 : Int32), .unset, .unset] [(.ref w1), (.int (0 : Int32))])) _
            refine mlen 8 X1 hx hby hZ e1 V_w1 d4_7 rfl ?_
            refine micmpNo 11 G1 d4_8 (tlt (by decide : (0 : Int32) < (3 : Int32))).2.1 rfl ?_
            refine maloadN 12 G1 d4_11 rfl rfl rfl ?_
            refine maloadN 13 G1 d4_12 rfl rfl rfl ?_
            refine st2 _ ?_
            show Steps p.tables e below (T2.setTop (mkF m 16 #[rv o0, rv o1, iv p2, iv (0 : Int32), .unset, .unset] [(.ref w1), (.ref o1)])) _
            refine miloadN 17 G2 d4_16 rfl rfl ?_
            refine miaload 18 X2 hx hby hZ e2 V_w1 (v := s0_) d4_17 ⟨by decide, by decide⟩ rfl rfl ?_
            refine mdaload 19 X2 hx hby hZ e2 V_o1 (v := (([c0_, c1_, c2_, c3_, c4_, c5_] : List UInt64).getD s0_.toNatClampNeg (0 : UInt64))) d4_18 (hin18) (own_getDD ([c0_, c1_, c2_, c3_, c4_, c5_] : List UInt64) _ _) rfl ?_
            refine mdstore 21 G2 d4_19 #[rv o0, rv o1, iv p2, iv (0 : Int32), dv (([c0_, c1_, c2_, c3_, c4_, c5_] : List UInt64).getD s0_.toNatClampNeg (0 : UInt64)), .second] rfl rfl ?_
            refine miloadN 22 G2 d4_21 rfl rfl ?_
            refine mifYes 41 G2 d4_22 ((if0 _ _).trans (teq hc22_3).1) (by decide) rfl ?_
            refine mdload 43 G2 d4_41 rfl rfl ?_
            refine mdconst0 44 G2 d4_43 (v := (0 : UInt64)) rfl rfl ?_
            refine mdcmp 45 G2 d4_44 rfl ?_
            refine mifYes 50 G2 d4_45 ((if0 _ _).trans (feq hc45_4).2) (by decide) rfl ?_
            refine miinc 53 G2 d4_50 rfl #[rv o0, rv o1, iv p2, iv (1 : Int32), dv (([c0_, c1_, c2_, c3_, c4_, c5_] : List UInt64).getD s0_.toNatClampNeg (0 : UInt64)), .second] rfl rfl ?_
            refine mgoto 2 G2 d4_53 (by decide) rfl ?_
            refine miloadN 3 G2 d4_2 rfl rfl ?_
            refine maloadN 4 G2 d4_3 rfl rfl rfl ?_
            refine st5 _ ?_
            show Steps p.tables e below (T5.setTop (mkF m 7 #[rv o0, rv o1, iv p2, iv (1 : Int32), dv (([c0_, c1_, c2_, c3_, c4_, c5_] : List UInt64).getD s0_.toNatClampNeg (0 : UInt64)), .second] [(.ref w1), (.int (1 : Int32))])) _
            refine mlen 8 X5 hx hby hZ e5 V_w1 d4_7 rfl ?_
            refine micmpNo 11 G5 d4_8 (tlt (by decide : (1 : Int32) < (3 : Int32))).2.1 rfl ?_
            refine maloadN 12 G5 d4_11 rfl rfl rfl ?_
            refine maloadN 13 G5 d4_12 rfl rfl rfl ?_
            refine st6 _ ?_
            show Steps p.tables e below (T6.setTop (mkF m 16 #[rv o0, rv o1, iv p2, iv (1 : Int32), dv (([c0_, c1_, c2_, c3_, c4_, c5_] : List UInt64).getD s0_.toNatClampNeg (0 : UInt64)), .second] [(.ref w1), (.ref o1)])) _
            refine miloadN 17 G6 d4_16 rfl rfl ?_
            refine miaload 18 X6 hx hby hZ e6 V_w1 (v := s1_) d4_17 ⟨by decide, by decide⟩ rfl rfl ?_
            refine mdaload 19 X6 hx hby hZ e6 V_o1 (v := (([c0_, c1_, c2_, c3_, c4_, c5_] : List UInt64).getD s1_.toNatClampNeg (0 : UInt64))) d4_18 (hin18' hc22_3 hc45_4) (own_getDD ([c0_, c1_, c2_, c3_, c4_, c5_] : List UInt64) _ _) rfl ?_
            refine mdstore 21 G6 d4_19 #[rv o0, rv o1, iv p2, iv (1 : Int32), dv (([c0_, c1_, c2_, c3_, c4_, c5_] : List UInt64).getD s1_.toNatClampNeg (0 : UInt64)), .second] rfl rfl ?_
            refine miloadN 22 G6 d4_21 rfl rfl ?_
            refine mifYes 41 G6 d4_22 ((if0 _ _).trans (teq hc22_3).1) (by decide) rfl ?_
            refine mdload 43 G6 d4_41 rfl rfl ?_
            refine mdconst0 44 G6 d4_43 (v := (0 : UInt64)) rfl rfl ?_
            refine mdcmp 45 G6 d4_44 rfl ?_
            refine mifYes 50 G6 d4_45 ((if0 _ _).trans (feq hc45_7).2) (by decide) rfl ?_
            refine miinc 53 G6 d4_50 rfl #[rv o0, rv o1, iv p2, iv (2 : Int32), dv (([c0_, c1_, c2_, c3_, c4_, c5_] : List UInt64).getD s1_.toNatClampNeg (0 : UInt64)), .second] rfl rfl ?_
            refine mgoto 2 G6 d4_53 (by decide) rfl ?_
            refine miloadN 3 G6 d4_2 rfl rfl ?_
            refine maloadN 4 G6 d4_3 rfl rfl rfl ?_
            refine st8 _ ?_
            show Steps p.tables e below (T8.setTop (mkF m 7 #[rv o0, rv o1, iv p2, iv (2 : Int32), dv (([c0_, c1_, c2_, c3_, c4_, c5_] : List UInt64).getD s1_.toNatClampNeg (0 : UInt64)), .second] [(.ref w1), (.int (2 : Int32))])) _
            refine mlen 8 X8 hx hby hZ e8 V_w1 d4_7 rfl ?_
            refine micmpNo 11 G8 d4_8 (tlt (by decide : (2 : Int32) < (3 : Int32))).2.1 rfl ?_
            refine maloadN 12 G8 d4_11 rfl rfl rfl ?_
            refine maloadN 13 G8 d4_12 rfl rfl rfl ?_
            refine st9 _ ?_
            show Steps p.tables e below (T9.setTop (mkF m 16 #[rv o0, rv o1, iv p2, iv (2 : Int32), dv (([c0_, c1_, c2_, c3_, c4_, c5_] : List UInt64).getD s1_.toNatClampNeg (0 : UInt64)), .second] [(.ref w1), (.ref o1)])) _
            refine miloadN 17 G9 d4_16 rfl rfl ?_
            refine miaload 18 X9 hx hby hZ e9 V_w1 (v := s2_) d4_17 ⟨by decide, by decide⟩ rfl rfl ?_
            refine mdaload 19 X9 hx hby hZ e9 V_o1 (v := (([c0_, c1_, c2_, c3_, c4_, c5_] : List UInt64).getD s2_.toNatClampNeg (0 : UInt64))) d4_18 (hin18'' hc22_3 hc45_4 hc45_7) (own_getDD ([c0_, c1_, c2_, c3_, c4_, c5_] : List UInt64) _ _) rfl ?_
            refine mdstore 21 G9 d4_19 #[rv o0, rv o1, iv p2, iv (2 : Int32), dv (([c0_, c1_, c2_, c3_, c4_, c5_] : List UInt64).getD s2_.toNatClampNeg (0 : UInt64)), .second] rfl rfl ?_
            refine miloadN 22 G9 d4_21 rfl rfl ?_
            refine mifYes 41 G9 d4_22 ((if0 _ _).trans (teq hc22_3).1) (by decide) rfl ?_
            refine mdload 43 G9 d4_41 rfl rfl ?_
            refine mdconst0 44 G9 d4_43 (v := (0 : UInt64)) rfl rfl ?_
            refine mdcmp 45 G9 d4_44 rfl ?_
            refine mifNo 48 G9 d4_45 ((if0 _ _).trans (teq hc45_10).2) rfl ?_
            refine miloadN 49 G9 d4_48 rfl rfl ?_
            exact retOut X9 hx Bd.returns rfl (Or.inl ⟨rfl, Or.inl rfl, _, rfl⟩) (hb hby d4_49) hr
          · show Q4_3 Z o0 o1 p2 w1 w2 k1 s0_ s1_ s2_ k2 a0_ a1_ a2_ k3 c0_ c1_ c2_ c3_ c4_ c5_ h0 n0 _ T9.heap _
            rw [e9]
            exact ⟨by simp only [rv4_3, if_pos hc22_3, if_neg hc45_4, if_neg hc45_7, if_pos hc45_10], rfl, rfl⟩
        · obtain ⟨T11, X11, e11, st11⟩ := getF X9 hx hZ hown (host := "") (Or.inl (wd hw 16 rfl)) Via.refl e9 F_states_o0 (g := (mkF m 4 #[rv o0, rv o1, iv p2, iv (3 : Int32), dv (([c0_, c1_, c2_, c3_, c4_, c5_] : List UInt64).getD s2_.toNatClampNeg (0 : UInt64)), .second] [(.ref o0), (.int (3 : Int32))])) rfl rfl (hb hby d4_4)
          have G11 := gd X11 hx hby
          obtain ⟨fs, hr, hrun, hended, hW, hsame⟩ := X11.leave (v := some (.int (-1 : Int32))) (fun h => by rw [Bd.returns] at h; cases h)
          refine ⟨_, _, pre0 _ ?_, hrun, hended, _, _, rfl, ?_, ⟨_, rfl⟩, hW, hsame.mono (by decide) (by decide)⟩
          · show Steps p.tables e below (s₁.setTop (mkF m 0 #[rv o0, rv o1, iv p2, .unset, .unset, .unset] [])) _
            refine miconst 1 G0 d4_0 (v := (0 : Int32)) rfl rfl ?_
            refine mistoreN 2 G0 d4_1 #[rv o0, rv o1, iv p2, iv (0 : Int32), .unset, .unset] rfl rfl ?_
            refine miloadN 3 G0 d4_2 rfl rfl ?_
            refine maloadN 4 G0 d4_3 rfl rfl rfl ?_
            refine st1 _ ?_
            show Steps p.tables e below (T1.setTop (mkF m 7 #[rv o0, rv o1, iv p2, iv (0 : Int32), .unset, .unset] [(.ref w1), (.int (0 : Int32))])) _
            refine mlen 8 X1 hx hby hZ e1 V_w1 d4_7 rfl ?_
            refine micmpNo 11 G1 d4_8 (tlt (by decide : (0 : Int32) < (3 : Int32))).2.1 rfl ?_
            refine maloadN 12 G1 d4_11 rfl rfl rfl ?_
            refine maloadN 13 G1 d4_12 rfl rfl rfl ?_
            refine st2 _ ?_
            show Steps p.tables e below (T2.setTop (mkF m 16 #[rv o0, rv o1, iv p2, iv (0 : Int32), .unset, .unset] [(.ref w1), (.ref o1)])) _
            refine miloadN 17 G2 d4_16 rfl rfl ?_
            refine miaload 18 X2 hx hby hZ e2 V_w1 (v := s0_) d4_17 ⟨by decide, by decide⟩ rfl rfl ?_
            refine mdaload 19 X2 hx hby hZ e2 V_o1 (v := (([c0_, c1_, c2_, c3_, c4_, c5_] : List UInt64).getD s0_.toNatClampNeg (0 : UInt64))) d4_18 (hin18) (own_getDD ([c0_, c1_, c2_, c3_, c4_, c5_] : List UInt64) _ _) rfl ?_
            refine mdstore 21 G2 d4_19 #[rv o0, rv o1, iv p2, iv (0 : Int32), dv (([c0_, c1_, c2_, c3_, c4_, c5_] : List UInt64).getD s0_.toNatClampNeg (0 : UInt64)), .second] rfl rfl ?_
            refine miloadN 22 G2 d4_21 rfl rfl ?_
            refine mifYes 41 G2 d4_22 ((if0 _ _).trans (teq hc22_3).1) (by decide) rfl ?_
            refine mdload 43 G2 d4_41 rfl rfl ?_
            refine mdconst0 44 G2 d4_43 (v := (0 : UInt64)) rfl rfl ?_
            refine mdcmp 45 G2 d4_44 rfl ?_
            refine mifYes 50 G2 d4_45 ((if0 _ _).trans (feq hc45_4).2) (by decide) rfl ?_
            refine miinc 53 G2 d4_50 rfl #[rv o0, rv o1, iv p2, iv (1 : Int32), dv (([c0_, c1_, c2_, c3_, c4_, c5_] : List UInt64).getD s0_.toNatClampNeg (0 : UInt64)), .second] rfl rfl ?_
            refine mgoto 2 G2 d4_53 (by decide) rfl ?_
            refine miloadN 3 G2 d4_2 rfl rfl ?_
            refine maloadN 4 G2 d4_3 rfl rfl rfl ?_
            refine st5 _ ?_
            show Steps p.tables e below (T5.setTop (mkF m 7 #[rv o0, rv o1, iv p2, iv (1 : Int32), dv (([c0_, c1_, c2_, c3_, c4_, c5_] : List UInt64).getD s0_.toNatClampNeg (0 : UInt64)), .second] [(.ref w1), (.int (1 : Int32))])) _
            refine mlen 8 X5 hx hby hZ e5 V_w1 d4_7 rfl ?_
            refine micmpNo 11 G5 d4_8 (tlt (by decide : (1 : Int32) < (3 : Int32))).2.1 rfl ?_
            refine maloadN 12 G5 d4_11 rfl rfl rfl ?_
            refine maloadN 13 G5 d4_12 rfl rfl rfl ?_
            refine st6 _ ?_
            show Steps p.tables e below (T6.setTop (mkF m 16 #[rv o0, rv o1, iv p2, iv (1 : Int32), dv (([c0_, c1_, c2_, c3_, c4_, c5_] : List UInt64).getD s0_.toNatClampNeg (0 : UInt64)), .second] [(.ref w1), (.ref o1)])) _
            refine miloadN 17 G6 d4_16 rfl rfl ?_
            refine miaload 18 X6 hx hby hZ e6 V_w1 (v := s1_) d4_17 ⟨by decide, by decide⟩ rfl rfl ?_
            refine mdaload 19 X6 hx hby hZ e6 V_o1 (v := (([c0_, c1_, c2_, c3_, c4_, c5_] : List UInt64).getD s1_.toNatClampNeg (0 : UInt64))) d4_18 (hin18' hc22_3 hc45_4) (own_getDD ([c0_, c1_, c2_, c3_, c4_, c5_] : List UInt64) _ _) rfl ?_
            refine mdstore 21 G6 d4_19 #[rv o0, rv o1, iv p2, iv (1 : Int32), dv (([c0_, c1_, c2_, c3_, c4_, c5_] : List UInt64).getD s1_.toNatClampNeg (0 : UInt64)), .second] rfl rfl ?_
            refine miloadN 22 G6 d4_21 rfl rfl ?_
            refine mifYes 41 G6 d4_22 ((if0 _ _).trans (teq hc22_3).1) (by decide) rfl ?_
            refine mdload 43 G6 d4_41 rfl rfl ?_
            refine mdconst0 44 G6 d4_43 (v := (0 : UInt64)) rfl rfl ?_
            refine mdcmp 45 G6 d4_44 rfl ?_
            refine mifYes 50 G6 d4_45 ((if0 _ _).trans (feq hc45_7).2) (by decide) rfl ?_
            refine miinc 53 G6 d4_50 rfl #[rv o0, rv o1, iv p2, iv (2 : Int32), dv (([c0_, c1_, c2_, c3_, c4_, c5_] : List UInt64).getD s1_.toNatClampNeg (0 : UInt64)), .second] rfl rfl ?_
            refine mgoto 2 G6 d4_53 (by decide) rfl ?_
            refine miloadN 3 G6 d4_2 rfl rfl ?_
            refine maloadN 4 G6 d4_3 rfl rfl rfl ?_
            refine st8 _ ?_
            show Steps p.tables e below (T8.setTop (mkF m 7 #[rv o0, rv o1, iv p2, iv (2 : Int32), dv (([c0_, c1_, c2_, c3_, c4_, c5_] : List UInt64).getD s1_.toNatClampNeg (0 : UInt64)), .second] [(.ref w1), (.int (2 : Int32))])) _
            refine mlen 8 X8 hx hby hZ e8 V_w1 d4_7 rfl ?_
            refine micmpNo 11 G8 d4_8 (tlt (by decide : (2 : Int32) < (3 : Int32))).2.1 rfl ?_
            refine maloadN 12 G8 d4_11 rfl rfl rfl ?_
            refine maloadN 13 G8 d4_12 rfl rfl rfl ?_
            refine st9 _ ?_
            show Steps p.tables e below (T9.setTop (mkF m 16 #[rv o0, rv o1, iv p2, iv (2 : Int32), dv (([c0_, c1_, c2_, c3_, c4_, c5_] : List UInt64).getD s1_.toNatClampNeg (0 : UInt64)), .second] [(.ref w1), (.ref o1)])) _
            refine miloadN 17 G9 d4_16 rfl rfl ?_
            refine miaload 18 X9 hx hby hZ e9 V_w1 (v := s2_) d4_17 ⟨by decide, by decide⟩ rfl rfl ?_
            refine mdaload 19 X9 hx hby hZ e9 V_o1 (v := (([c0_, c1_, c2_, c3_, c4_, c5_] : List UInt64).getD s2_.toNatClampNeg (0 : UInt64))) d4_18 (hin18'' hc22_3 hc45_4 hc45_7) (own_getDD ([c0_, c1_, c2_, c3_, c4_, c5_] : List UInt64) _ _) rfl ?_
            refine mdstore 21 G9 d4_19 #[rv o0, rv o1, iv p2, iv (2 : Int32), dv (([c0_, c1_, c2_, c3_, c4_, c5_] : List UInt64).getD s2_.toNatClampNeg (0 : UInt64)), .second] rfl rfl ?_
            refine miloadN 22 G9 d4_21 rfl rfl ?_
            refine mifYes 41 G9 d4_22 ((if0 _ _).trans (teq hc22_3).1) (by decide) rfl ?_
            refine mdload 43 G9 d4_41 rfl rfl ?_
            refine mdconst0 44 G9 d4_43 (v := (0 : UInt64)) rfl rfl ?_
            refine mdcmp 45 G9 d4_44 rfl ?_
            refine mifYes 50 G9 d4_45 ((if0 _ _).trans (feq hc45_10).2) (by decide) rfl ?_
            refine miinc 53 G9 d4_50 rfl #[rv o0, rv o1, iv p2, iv (3 : Int32), dv (([c0_, c1_, c2_, c3_, c4_, c5_] : List UInt64).getD s2_.toNatClampNeg (0 : UInt64)), .second] rfl rfl ?_
            refine mgoto 2 G9 d4_53 (by decide) rfl ?_
            refine miloadN 3 G9 d4_2 rfl rfl ?_
            refine maloadN 4 G9 d4_3 rfl rfl rfl ?_
            refine st11 _ ?_
            show Steps p.tables e below (T11.setTop (mkF m 7 #[rv o0, rv o1, iv p2, iv (3 : Int32), dv (([c0_, c1_, c2_, c3_, c4_, c5_] : List UInt64).getD s2_.toNatClampNeg (0 : UInt64)), .second] [(.ref w1), (.int (3 : Int32))])) _
            refine mlen 8 X11 hx hby hZ e11 V_w1 d4_7 rfl ?_
            refine micmpYes 56 G11 d4_8 (flt (by decide : ¬ ((3 : Int32) < (3 : Int32)))).2.1 (by decide) rfl ?_
            refine miconst 57 G11 d4_56 (v := (-1 : Int32)) rfl rfl ?_
            exact retOut X11 hx Bd.returns rfl (Or.inl ⟨rfl, Or.inl rfl, _, rfl⟩) (hb hby d4_57) hr
          · show Q4_3 Z o0 o1 p2 w1 w2 k1 s0_ s1_ s2_ k2 a0_ a1_ a2_ k3 c0_ c1_ c2_ c3_ c4_ c5_ h0 n0 _ T11.heap _
            rw [e11]
            exact ⟨by simp only [rv4_3, if_pos hc22_3, if_neg hc45_4, if_neg hc45_7, if_neg hc45_10], rfl, rfl⟩
  · obtain ⟨T12, X12, e12, st12⟩ := getF X2 hx hZ hown (host := "") (Or.inl (wd hw 18 rfl)) Via.refl e2 F_agents_o0 (g := (mkF m 28 #[rv o0, rv o1, iv p2, iv (0 : Int32), dv (([c0_, c1_, c2_, c3_, c4_, c5_] : List UInt64).getD s0_.toNatClampNeg (0 : UInt64)), .second] [(.ref o0), (.double (([c0_, c1_, c2_, c3_, c4_, c5_] : List UInt64).getD s0_.toNatClampNeg (0 : UInt64)))])) rfl rfl (hb hby d4_28)
    have G12 := gd X12 hx hby
    by_cases hc35_13 : (cmpValue (FP.dcmp (([c0_, c1_, c2_, c3_, c4_, c5_] : List UInt64).getD s0_.toNatClampNeg (0 : UInt64)) (FP.i2d a0_)) .g) < (0 : Int32)
    · obtain ⟨fs, hr, hrun, hended, hW, hsame⟩ := X12.leave (v := some (.int (0 : Int32))) (fun h => by rw [Bd.returns] at h; cases h)
      refine ⟨_, _, pre0 _ ?_, hrun, hended, _, _, rfl, ?_, ⟨_, rfl⟩, hW, hsame.mono (by decide) (by decide)⟩
      · show Steps p.tables e below (s₁.setTop (mkF m 0 #[rv o0, rv o1, iv p2, .unset, .unset, .unset] [])) _
        refine miconst 1 G0 d4_0 (v := (0 : Int32)) rfl rfl ?_
        refine mistoreN 2 G0 d4_1 #[rv o0, rv o1, iv p2, iv (0 : Int32), .unset, .unset] rfl rfl ?_
        refine miloadN 3 G0 d4_2 rfl rfl ?_
        refine maloadN 4 G0 d4_3 rfl rfl rfl ?_
        refine st1 _ ?_
        show Steps p.tables e below (T1.setTop (mkF m 7 #[rv o0, rv o1, iv p2, iv (0 : Int32), .unset, .unset] [(.ref w1), (.int (0 : Int32))])) _
        refine mlen 8 X1 hx hby hZ e1 V_w1 d4_7 rfl ?_
        refine micmpNo 11 G1 d4_8 (tlt (by decide : (0 : Int32) < (3 : Int32))).2.1 rfl ?_
        refine maloadN 12 G1 d4_11 rfl rfl rfl ?_
        refine maloadN 13 G1 d4_12 rfl rfl rfl ?_
        refine st2 _ ?_
        show Steps p.tables e below (T2.setTop (mkF m 16 #[rv o0, rv o1, iv p2, iv (0 : Int32), .unset, .unset] [(.ref w1), (.ref o1)])) _
        refine miloadN 17 G2 d4_16 rfl rfl ?_
        refine miaload 18 X2 hx hby hZ e2 V_w1 (v := s0_) d4_17 ⟨by decide, by decide⟩ rfl rfl ?_
        refine mdaload 19 X2 hx hby hZ e2 V_o1 (v := (([c0_, c1_, c2_, c3_, c4_, c5_] : List UInt64).getD s0_.toNatClampNeg (0 : UInt64))) d4_18 (hin18) (own_getDD ([c0_, c1_, c2_, c3_, c4_, c5_] : List UInt64) _ _) rfl ?_
        refine mdstore 21 G2 d4_19 #[rv o0, rv o1, iv p2, iv (0 : Int32), dv (([c0_, c1_, c2_, c3_, c4_, c5_] : List UInt64).getD s0_.toNatClampNeg (0 : UInt64)), .second] rfl rfl ?_
        refine miloadN 22 G2 d4_21 rfl rfl ?_
        refine mifNo 25 G2 d4_22 ((if0 _ _).trans (feq hc22_3).1) rfl ?_
        refine mdload 27 G2 d4_25 rfl rfl ?_
        refine maloadN 28 G2 d4_27 rfl rfl rfl ?_
        refine st12 _ ?_
        show Steps p.tables e below (T12.setTop (mkF m 31 #[rv o0, rv o1, iv p2, iv (0 : Int32), dv (([c0_, c1_, c2_, c3_, c4_, c5_] : List UInt64).getD s0_.toNatClampNeg (0 : UInt64)), .second] [(.ref w2), (.double (([c0_, c1_, c2_, c3_, c4_, c5_] : List UInt64).getD s0_.toNatClampNeg (0 : UInt64)))])) _
        refine miloadN 32 G12 d4_31 rfl rfl ?_
        refine miaload 33 X12 hx hby hZ e12 V_w2 (v := a0_) d4_32 ⟨by decide, by decide⟩ rfl rfl ?_
        refine mi2d 34 G12 d4_33 rfl ?_
        refine mdcmp 35 G12 d4_34 rfl ?_
        refine mifNo 38 G12 d4_35 ((if0 _ _).trans (tlt hc35_13).2.1) rfl ?_
        refine mgoto 48 G12 d4_38 (by decide) rfl ?_
        refine miloadN 49 G12 d4_48 rfl rfl ?_
        exact retOut X12 hx Bd.returns rfl (Or.inl ⟨rfl, Or.inl rfl, _, rfl⟩) (hb hby d4_49) hr
      · show Q4_3 Z o0 o1 p2 w1 w2 k1 s0_ s1_ s2_ k2 a0_ a1_ a2_ k3 c0_ c1_ c2_ c3_ c4_ c5_ h0 n0 _ T12.heap _
        rw [e12]
        exact ⟨by simp only [rv4_3, if_neg hc22_3, if_pos hc35_13], rfl, rfl⟩
    · obtain ⟨T14, X14, e14, st14⟩ := getF X12 hx hZ hown (host := "") (Or.inl (wd hw 16 rfl)) Via.refl e12 F_states_o0 (g := (mkF m 4 #[rv o0, rv o1, iv p2, iv (1 : Int32), dv (([c0_, c1_, c2_, c3_, c4_, c5_] : List UInt64).getD s0_.toNatClampNeg (0 : UInt64)), .second] [(.ref o0), (.int (1 : Int32))])) rfl rfl (hb hby d4_4)
      have G14 := gd X14 hx hby
      obtain ⟨T15, X15, e15, st15⟩ := getF X14 hx hZ hown (host := "") (Or.inl (wd hw 16 rfl)) Via.refl e14 F_states_o0 (g := (mkF m 13 #[rv o0, rv o1, iv p2, iv (1 : Int32), dv (([c0_, c1_, c2_, c3_, c4_, c5_] : List UInt64).getD s0_.toNatClampNeg (0 : UInt64)), .second] [(.ref o0), (.ref o1)])) rfl rfl (hb hby d4_13)
      have G15 := gd X15 hx hby
      obtain ⟨T16, X16, e16, st16⟩ := getF X15 hx hZ hown (host := "") (Or.inl (wd hw 18 rfl)) Via.refl e15 F_agents_o0 (g := (mkF m 28 #[rv o0, rv o1, iv p2, iv (1 : Int32), dv (([c0_, c1_, c2_, c3_, c4_, c5_] : List UInt64).getD s1_.toNatClampNeg (0 : UInt64)), .second] [(.ref o0), (.double (([c0_, c1_, c2_, c3_, c4_, c5_] : List UInt64).getD s1_.toNatClampNeg (0 : UInt64)))])) rfl rfl (hb hby d4_28)
      have G16 := gd X16 hx hby
      by_cases hc35_17 : (cmpValue (FP.dcmp (([c0_, c1_, c2_, c3_, c4_, c5_] : List UInt64).getD s1_.toNatClampNeg (0 : UInt64)) (FP.i2d a1_)) .g) < (0 : Int32)
      · obtain ⟨fs, hr, hrun, hended, hW, hsame⟩ := X16.leave (v := some (.int (1 : Int32))) (fun h => by rw [Bd.returns] at h; cases h)
        refine ⟨_, _, pre0 _ ?_, hrun, hended, _, _, rfl, ?_, ⟨_, rfl⟩, hW, hsame.mono (by decide) (by decide)⟩
        · show Steps p.tables e below (s₁.setTop (mkF m 0 #[rv o0, rv o1, iv p2, .unset, .unset, .unset] [])) _
          refine miconst 1 G0 d4_0 (v := (0 : Int32)) rfl rfl ?_
          refine mistoreN 2 G0 d4_1 #[rv o0, rv o1, iv p2, iv (0 : Int32), .unset, .unset] rfl rfl ?_
          refine miloadN 3 G0 d4_2 rfl rfl ?_
          refine maloadN 4 G0 d4_3 rfl rfl rfl ?_
          refine st1 _ ?_
          show Steps p.tables e below (T1.setTop (mkF m 7 #[rv o0, rv o1, iv p2, iv (0 : Int32), .unset, .unset] [(.ref w1), (.int (0 : Int32))])) _
          refine mlen 8 X1 hx hby hZ e1 V_w1 d4_7 rfl ?_
          refine micmpNo 11 G1 d4_8 (tlt (by decide : (0 : Int32) < (3 : Int32))).2.1 rfl ?_
          refine maloadN 12 G1 d4_11 rfl rfl rfl ?_
          refine maloadN 13 G1 d4_12 rfl rfl rfl ?_
          refine st2 _ ?_
          show Steps p.tables e below (T2.setTop (mkF m 16 #[rv o0, rv o1, iv p2, iv (0 : Int32), .unset, .unset] [(.ref w1), (.ref o1)])) _
          refine miloadN 17 G2 d4_16 rfl rfl ?_
          refine miaload 18 X2 hx hby hZ e2 V_w1 (v := s0_) d4_17 ⟨by decide, by decide⟩ rfl rfl ?_
          refine mdaload 19 X2 hx hby hZ e2 V_o1 (v := (([c0_, c1_, c2_, c3_, c4_, c5_] : List UInt64).getD s0_.toNatClampNeg (0 : UInt64))) d4_18 (hin18) (own_getDD ([c0_, c1_, c2_, c3_, c4_, c5_] : List UInt64) _ _) rfl ?_
          refine mdstore 21 G2 d4_19 #[rv o0, rv o1, iv p2, iv (0 : Int32), dv (([c0_, c1_, c2_, c3_, c4_, c5_] : List UInt64).getD s0_.toNatClampNeg (0 : UInt64)), .second] rfl rfl ?_
          refine miloadN 22 G2 d4_21 rfl rfl ?_
          refine mifNo 25 G2 d4_22 ((if0 _ _).trans (feq hc22_3).1) rfl ?_
          refine mdload 27 G2 d4_25 rfl rfl ?_
          refine maloadN 28 G2 d4_27 rfl rfl rfl ?_
          refine st12 _ ?_
          show Steps p.tables e below (T12.setTop (mkF m 31 #[rv o0, rv o1, iv p2, iv (0 : Int32), dv (([c0_, c1_, c2_, c3_, c4_, c5_] : List UInt64).getD s0_.toNatClampNeg (0 : UInt64)), .second] [(.ref w2), (.double (([c0_, c1_, c2_, c3_, c4_, c5_] : List UInt64).getD s0_.toNatClampNeg (0 : UInt64)))])) _
          refine miloadN 32 G12 d4_31 rfl rfl ?_
          refine miaload 33 X12 hx hby hZ e12 V_w2 (v := a0_) d4_32 ⟨by decide, by decide⟩ rfl rfl ?_
          refine mi2d 34 G12 d4_33 rfl ?_
          refine mdcmp 35 G12 d4_34 rfl ?_
          refine mifYes 50 G12 d4_35 ((if0 _ _).trans (flt hc35_13).2.1) (by decide) rfl ?_
          refine miinc 53 G12 d4_50 rfl #[rv o0, rv o1, iv p2, iv (1 : Int32), dv (([c0_, c1_, c2_, c3_, c4_, c5_] : List UInt64).getD s0_.toNatClampNeg (0 : UInt64)), .second] rfl rfl ?_
          refine mgoto 2 G12 d4_53 (by decide) rfl ?_
          refine miloadN 3 G12 d4_2 rfl rfl ?_
          refine maloadN 4 G12 d4_3 rfl rfl rfl ?_
          refine st14 _ ?_
          show Steps p.tables e below (T14.setTop (mkF m 7 #[rv o0, rv o1, iv p2, iv (1 : Int32), dv (([c0_, c1_, c2_, c3_, c4_, c5_] : List UInt64).getD s0_.toNatClampNeg (0 : UInt64)), .second] [(.ref w1), (.int (1 : Int32))])) _
          refine mlen 8 X14 hx hby hZ e14 V_w1 d4_7 rfl ?_
          refine micmpNo 11 G14 d4_8 (tlt (by decide : (1 : Int32) < (3 : Int32))).2.1 rfl ?_
          refine maloadN 12 G14 d4_11 rfl rfl rfl ?_
          refine maloadN 13 G14 d4_12 rfl rfl rfl ?_
          refine st15 _ ?_
          show Steps p.tables e below (T15.setTop (mkF m 16 #[rv o0, rv o1, iv p2, iv (1 : Int32), dv (([c0_, c1_, c2_, c3_, c4_, c5_] : List UInt64).getD s0_.toNatClampNeg (0 : UInt64)), .second] [(.ref w1), (.ref o1)])) _
          refine miloadN 17 G15 d4_16 rfl rfl ?_
          refine miaload 18 X15 hx hby hZ e15 V_w1 (v := s1_) d4_17 ⟨by decide, by decide⟩ rfl rfl ?_
          refine mdaload 19 X15 hx hby hZ e15 V_o1 (v := (([c0_, c1_, c2_, c3_, c4_, c5_] : List UInt64).getD s1_.toNatClampNeg (0 : UInt64))) d4_18 (hin18''' hc22_3 hc35_13) (own_getDD ([c0_, c1_, c2_, c3_, c4_, c5_] : List UInt64) _ _) rfl ?_
          refine mdstore 21 G15 d4_19 #[rv o0, rv o1, iv p2, iv (1 : Int32), dv (([c0_, c1_, c2_, c3_, c4_, c5_] : List UInt64).getD s1_.toNatClampNeg (0 : UInt64)), .second] rfl rfl ?_
          refine miloadN 22 G15 d4_21 rfl rfl ?_
          refine mifNo 25 G15 d4_22 ((if0 _ _).trans (feq hc22_3).1) rfl ?_
          refine mdload 27 G15 d4_25 rfl rfl ?_
          refine maloadN 28 G15 d4_27 rfl rfl rfl ?_
          refine st16 _ ?_
          show Steps p.tables e below (T16.setTop (mkF m 31 #[rv o0, rv o1, iv p2, iv (1 : Int32), dv (([c0_, c1_, c2_, c3_, c4_, c5_] : List UInt64).getD s1_.toNatClampNeg (0 : UInt64)), .second] [(.ref w2), (.double (([c0_, c1_, c2_, c3_, c4_, c5_] : List UInt64).getD s1_.toNatClampNeg (0 : UInt64)))])) _
          refine miloadN 32 G16 d4_31 rfl rfl ?_
          refine miaload 33 X16 hx hby hZ e16 V_w2 (v := a1_) d4_32 ⟨by decide, by decide⟩ rfl rfl ?_
          refine mi2d 34 G16 d4_33 rfl ?_
          refine mdcmp 35 G16 d4_34 rfl ?_
          refine mifNo 38 G16 d4_35 ((if0 _ _).trans (tlt hc35_17).2.1) rfl ?_
          refine mgoto 48 G16 d4_38 (by decide) rfl ?_
          refine miloadN 49 G16 d4_48 rfl rfl ?_
          exact retOut X16 hx Bd.returns rfl (Or.inl ⟨rfl, Or.inl rfl, _, rfl⟩) (hb hby d4_49) hr
        · show Q4_3 Z o0 o1 p2 w1 w2 k1 s0_ s1_ s2_ k2 a0_ a1_ a2_ k3 c0_ c1_ c2_ c3_ c4_ c5_ h0 n0 _ T16.heap _
          rw [e16]
          exact ⟨by simp only [rv4_3, if_neg hc22_3, if_neg hc35_13, if_pos hc35_17], rfl, rfl⟩
      · obtain ⟨T18, X18, e18, st18⟩ := getF X16 hx hZ hown (host := "") (Or.inl (wd hw 16 rfl)) Via.refl e16 F_states_o0 (g := (mkF m 4 #[rv o0, rv o1, iv p2, iv (2 : Int32), dv (([c0_, c1_, c2_, c3_, c4_, c5_] : List UInt64).getD s1_.toNatClampNeg (0 : UInt64)), .second] [(.ref o0), (.int (2 : Int32))])) rfl rfl (hb hby d4_4)
        have G18 := gd X18 hx hby
        obtain ⟨T19, X19, e19, st19⟩ := getF X18 hx hZ hown (host := "") (Or.inl (wd hw 16 rfl)) Via.refl e18 F_states_o0 (g := (mkF m 13 #[rv o0, rv o1, iv p2, iv (2 : Int32), dv (([c0_, c1_, c2_, c3_, c4_, c5_] : List UInt64).getD s1_.toNatClampNeg (0 : UInt64)), .second] [(.ref o0), (.ref o1)])) rfl rfl (hb hby d4_13)
        have G19 := gd X19 hx hby
        obtain ⟨T20, X20, e20, st20⟩ := getF X19 hx hZ hown (host := "") (Or.inl (wd hw 18 rfl)) Via.refl e19 F_agents_o0 (g := (mkF m 28 #[rv o0, rv o1, iv p2, iv (2 : Int32), dv (([c0_, c1_, c2_, c3_, c4_, c5_] : List UInt64).getD s2_.toNatClampNeg (0 : UInt64)), .second] [(.ref o0), (.double (([c0_, c1_, c2_, c3_, c4_, c5_] : List UInt64).getD s2_.toNatClampNeg (0 : UInt64)))])) rfl rfl (hb hby d4_28)
        have G20 := gd X20 hx hby
        by_cases hc35_21 : (cmpValue (FP.dcmp (([c0_, c1_, c2_, c3_, c4_, c5_] : List UInt64).getD s2_.toNatClampNeg (0 : UInt64)) (FP.i2d a2_)) .g) < (0 : Int32)
        · obtain ⟨fs, hr, hrun, hended, hW, hsame⟩ := X20.leave (v := some (.int (2 : Int32))) (fun h => by rw [Bd.returns] at h; cases h)
          refine ⟨_, _, pre0 _ ?_, hrun, hended, _, _, rfl, ?_, ⟨_, rfl⟩, hW, hsame.mono (by decide) (by decide)⟩
          · show Steps p.tables e below (s₁.setTop (mkF m 0 #[rv o0, rv o1, iv p2, .unset, .unset, .unset] [])) _
            refine miconst 1 G0 d4_0 (v := (0 : Int32)) rfl rfl ?_
            refine mistoreN 2 G0 d4_1 #[rv o0, rv o1, iv p2, iv (0 : Int32), .unset, .unset] rfl rfl ?_
            refine miloadN 3 G0 d4_2 rfl rfl ?_
            refine maloadN 4 G0 d4_3 rfl rfl rfl ?_
            refine st1 _ ?_
            show Steps p.tables e below (T1.setTop (mkF m 7 #[rv o0, rv o1, iv p2, iv (0 : Int32), .unset, .unset] [(.ref w1), (.int (0 : Int32))])) _
            refine mlen 8 X1 hx hby hZ e1 V_w1 d4_7 rfl ?_
            refine micmpNo 11 G1 d4_8 (tlt (by decide : (0 : Int32) < (3 : Int32))).2.1 rfl ?_
            refine maloadN 12 G1 d4_11 rfl rfl rfl ?_
            refine maloadN 13 G1 d4_12 rfl rfl rfl ?_
            refine st2 _ ?_
            show Steps p.tables e below (T2.setTop (mkF m 16 #[rv o0, rv o1, iv p2, iv (0 : Int32), .unset, .unset] [(.ref w1), (.ref o1)])) _
            refine miloadN 17 G2 d4_16 rfl rfl ?_
            refine miaload 18 X2 hx hby hZ e2 V_w1 (v := s0_) d4_17 ⟨by decide, by decide⟩ rfl rfl ?_
            refine mdaload 19 X2 hx hby hZ e2 V_o1 (v := (([c0_, c1_, c2_, c3_, c4_, c5_] : List UInt64).getD s0_.toNatClampNeg (0 : UInt64))) d4_18 (hin18) (own_getDD ([c0_, c1_, c2_, c3_, c4_, c5_] : List UInt64) _ _) rfl ?_
            refine mdstore 21 G2 d4_19 #[rv o0, rv o1, iv p2, iv (0 : Int32), dv (([c0_, c1_, c2_, c3_, c4_, c5_] : List UInt64).getD s0_.toNatClampNeg (0 : UInt64)), .second] rfl rfl ?_
            refine miloadN 22 G2 d4_21 rfl rfl ?_
            refine mifNo 25 G2 d4_22 ((if0 _ _).trans (feq hc22_3).1) rfl ?_
            refine mdload 27 G2 d4_25 rfl rfl ?_
            refine maloadN 28 G2 d4_27 rfl rfl rfl ?_
            refine st12 _ ?_
            show Steps p.tables e below (T12.setTop (mkF m 31 #[rv o0, rv o1, iv p2, iv (0 : Int32), dv (([c0_, c1_, c2_, c3_, c4_, c5_] : List UInt64).getD s0_.toNatClampNeg (0 : UInt64)), .second] [(.ref w2), (.double (([c0_, c1_, c2_, c3_, c4_, c5_] : List UInt64).getD s0_.toNatClampNeg (0 : UInt64)))])) _
            refine miloadN 32 G12 d4_31 rfl rfl ?_
            refine miaload 33 X12 hx hby hZ e12 V_w2 (v := a0_) d4_32 ⟨by decide, by decide⟩ rfl rfl ?_
            refine mi2d 34 G12 d4_33 rfl ?_
            refine mdcmp 35 G12 d4_34 rfl ?_
            refine mifYes 50 G12 d4_35 ((if0 _ _).trans (flt hc35_13).2.1) (by decide) rfl ?_
            refine miinc 53 G12 d4_50 rfl #[rv o0, rv o1, iv p2, iv (1 : Int32), dv (([c0_, c1_, c2_, c3_, c4_, c5_] : List UInt64).getD s0_.toNatClampNeg (0 : UInt64)), .second] rfl rfl ?_
            refine mgoto 2 G12 d4_53 (by decide) rfl ?_
            refine miloadN 3 G12 d4_2 rfl rfl ?_
            refine maloadN 4 G12 d4_3 rfl rfl rfl ?_
            refine st14 _ ?_
            show Steps p.tables e below (T14.setTop (mkF m 7 #[rv o0, rv o1, iv p2, iv (1 : Int32), dv (([c0_, c1_, c2_, c3_, c4_, c5_] : List UInt64).getD s0_.toNatClampNeg (0 : UInt64)), .second] [(.ref w1), (.int (1 : Int32))])) _
            refine mlen 8 X14 hx hby hZ e14 V_w1 d4_7 rfl ?_
            refine micmpNo 11 G14 d4_8 (tlt (by decide : (1 : Int32) < (3 : Int32))).2.1 rfl ?_
            refine maloadN 12 G14 d4_11 rfl rfl rfl ?_
            refine maloadN 13 G14 d4_12 rfl rfl rfl ?_
            refine st15 _ ?_
            show Steps p.tables e below (T15.setTop (mkF m 16 #[rv o0, rv o1, iv p2, iv (1 : Int32), dv (([c0_, c1_, c2_, c3_, c4_, c5_] : List UInt64).getD s0_.toNatClampNeg (0 : UInt64)), .second] [(.ref w1), (.ref o1)])) _
            refine miloadN 17 G15 d4_16 rfl rfl ?_
            refine miaload 18 X15 hx hby hZ e15 V_w1 (v := s1_) d4_17 ⟨by decide, by decide⟩ rfl rfl ?_
            refine mdaload 19 X15 hx hby hZ e15 V_o1 (v := (([c0_, c1_, c2_, c3_, c4_, c5_] : List UInt64).getD s1_.toNatClampNeg (0 : UInt64))) d4_18 (hin18''' hc22_3 hc35_13) (own_getDD ([c0_, c1_, c2_, c3_, c4_, c5_] : List UInt64) _ _) rfl ?_
            refine mdstore 21 G15 d4_19 #[rv o0, rv o1, iv p2, iv (1 : Int32), dv (([c0_, c1_, c2_, c3_, c4_, c5_] : List UInt64).getD s1_.toNatClampNeg (0 : UInt64)), .second] rfl rfl ?_
            refine miloadN 22 G15 d4_21 rfl rfl ?_
            refine mifNo 25 G15 d4_22 ((if0 _ _).trans (feq hc22_3).1) rfl ?_
            refine mdload 27 G15 d4_25 rfl rfl ?_
            refine maloadN 28 G15 d4_27 rfl rfl rfl ?_
            refine st16 _ ?_
            show Steps p.tables e below (T16.setTop (mkF m 31 #[rv o0, rv o1, iv p2, iv (1 : Int32), dv (([c0_, c1_, c2_, c3_, c4_, c5_] : List UInt64).getD s1_.toNatClampNeg (0 : UInt64)), .second] [(.ref w2), (.double (([c0_, c1_, c2_, c3_, c4_, c5_] : List UInt64).getD s1_.toNatClampNeg (0 : UInt64)))])) _
            refine miloadN 32 G16 d4_31 rfl rfl ?_
            refine miaload 33 X16 hx hby hZ e16 V_w2 (v := a1_) d4_32 ⟨by decide, by decide⟩ rfl rfl ?_
            refine mi2d 34 G16 d4_33 rfl ?_
            refine mdcmp 35 G16 d4_34 rfl ?_
            refine mifYes 50 G16 d4_35 ((if0 _ _).trans (flt hc35_17).2.1) (by decide) rfl ?_
            refine miinc 53 G16 d4_50 rfl #[rv o0, rv o1, iv p2, iv (2 : Int32), dv (([c0_, c1_, c2_, c3_, c4_, c5_] : List UInt64).getD s1_.toNatClampNeg (0 : UInt64)), .second] rfl rfl ?_
            refine mgoto 2 G16 d4_53 (by decide) rfl ?_
            refine miloadN 3 G16 d4_2 rfl rfl ?_
            refine maloadN 4 G16 d4_3 rfl rfl rfl ?_
            refine st18 _ ?_
            show Steps p.tables e below (T18.setTop (mkF m 7 #[rv o0, rv o1, iv p2, iv (2 : Int32), dv (([c0_, c1_, c2_, c3_, c4_, c5_] : List UInt64).getD s1_.toNatClampNeg (0 : UInt64)), .second] [(.ref w1), (.int (2 : Int32))])) _
            refine mlen 8 X18 hx hby hZ e18 V_w1 d4_7 rfl ?_
            refine micmpNo 11 G18 d4_8 (tlt (by decide : (2 : Int32) < (3 : Int32))).2.1 rfl ?_
            refine maloadN 12 G18 d4_11 rfl rfl rfl ?_
            refine maloadN 13 G18 d4_12 rfl rfl rfl ?_
            refine st19 _ ?_
            show Steps p.tables e below (T19.setTop (mkF m 16 #[rv o0, rv o1, iv p2, iv (2 : Int32), dv (([c0_, c1_, c2_, c3_, c4_, c5_] : List UInt64).getD s1_.toNatClampNeg (0 : UInt64)), .second] [(.ref w1), (.ref o1)])) _
            refine miloadN 17 G19 d4_16 rfl rfl ?_
            refine miaload 18 X19 hx hby hZ e19 V_w1 (v := s2_) d4_17 ⟨by decide, by decide⟩ rfl rfl ?_
            refine mdaload 19 X19 hx hby hZ e19 V_o1 (v := (([c0_, c1_, c2_, c3_, c4_, c5_] : List UInt64).getD s2_.toNatClampNeg (0 : UInt64))) d4_18 (hin18'''' hc22_3 hc35_13 hc35_17) (own_getDD ([c0_, c1_, c2_, c3_, c4_, c5_] : List UInt64) _ _) rfl ?_
            refine mdstore 21 G19 d4_19 #[rv o0, rv o1, iv p2, iv (2 : Int32), dv (([c0_, c1_, c2_, c3_, c4_, c5_] : List UInt64).getD s2_.toNatClampNeg (0 : UInt64)), .second] rfl rfl ?_
            refine miloadN 22 G19 d4_21 rfl rfl ?_
            refine mifNo 25 G19 d4_22 ((if0 _ _).trans (feq hc22_3).1) rfl ?_
            refine mdload 27 G19 d4_25 rfl rfl ?_
            refine maloadN 28 G19 d4_27 rfl rfl rfl ?_
            refine st20 _ ?_
            show Steps p.tables e below (T20.setTop (mkF m 31 #[rv o0, rv o1, iv p2, iv (2 : Int32), dv (([c0_, c1_, c2_, c3_, c4_, c5_] : List UInt64).getD s2_.toNatClampNeg (0 : UInt64)), .second] [(.ref w2), (.double (([c0_, c1_, c2_, c3_, c4_, c5_] : List UInt64).getD s2_.toNatClampNeg (0 : UInt64)))])) _
            refine miloadN 32 G20 d4_31 rfl rfl ?_
            refine miaload 33 X20 hx hby hZ e20 V_w2 (v := a2_) d4_32 ⟨by decide, by decide⟩ rfl rfl ?_
            refine mi2d 34 G20 d4_33 rfl ?_
            refine mdcmp 35 G20 d4_34 rfl ?_
            refine mifNo 38 G20 d4_35 ((if0 _ _).trans (tlt hc35_21).2.1) rfl ?_
            refine mgoto 48 G20 d4_38 (by decide) rfl ?_
            refine miloadN 49 G20 d4_48 rfl rfl ?_
            exact retOut X20 hx Bd.returns rfl (Or.inl ⟨rfl, Or.inl rfl, _, rfl⟩) (hb hby d4_49) hr
          · show Q4_3 Z o0 o1 p2 w1 w2 k1 s0_ s1_ s2_ k2 a0_ a1_ a2_ k3 c0_ c1_ c2_ c3_ c4_ c5_ h0 n0 _ T20.heap _
            rw [e20]
            exact ⟨by simp only [rv4_3, if_neg hc22_3, if_neg hc35_13, if_neg hc35_17, if_pos hc35_21], rfl, rfl⟩
        · obtain ⟨T22, X22, e22, st22⟩ := getF X20 hx hZ hown (host := "") (Or.inl (wd hw 16 rfl)) Via.refl e20 F_states_o0 (g := (mkF m 4 #[rv o0, rv o1, iv p2, iv (3 : Int32), dv (([c0_, c1_, c2_, c3_, c4_, c5_] : List UInt64).getD s2_.toNatClampNeg (0 : UInt64)), .second] [(.ref o0), (.int (3 : Int32))])) rfl rfl (hb hby d4_4)
          have G22 := gd X22 hx hby
          obtain ⟨fs, hr, hrun, hended, hW, hsame⟩ := X22.leave (v := some (.int (-1 : Int32))) (fun h => by rw [Bd.returns] at h; cases h)
          refine ⟨_, _, pre0 _ ?_, hrun, hended, _, _, rfl, ?_, ⟨_, rfl⟩, hW, hsame.mono (by decide) (by decide)⟩
          · show Steps p.tables e below (s₁.setTop (mkF m 0 #[rv o0, rv o1, iv p2, .unset, .unset, .unset] [])) _
            refine miconst 1 G0 d4_0 (v := (0 : Int32)) rfl rfl ?_
            refine mistoreN 2 G0 d4_1 #[rv o0, rv o1, iv p2, iv (0 : Int32), .unset, .unset] rfl rfl ?_
            refine miloadN 3 G0 d4_2 rfl rfl ?_
            refine maloadN 4 G0 d4_3 rfl rfl rfl ?_
            refine st1 _ ?_
            show Steps p.tables e below (T1.setTop (mkF m 7 #[rv o0, rv o1, iv p2, iv (0 : Int32), .unset, .unset] [(.ref w1), (.int (0 : Int32))])) _
            refine mlen 8 X1 hx hby hZ e1 V_w1 d4_7 rfl ?_
            refine micmpNo 11 G1 d4_8 (tlt (by decide : (0 : Int32) < (3 : Int32))).2.1 rfl ?_
            refine maloadN 12 G1 d4_11 rfl rfl rfl ?_
            refine maloadN 13 G1 d4_12 rfl rfl rfl ?_
            refine st2 _ ?_
            show Steps p.tables e below (T2.setTop (mkF m 16 #[rv o0, rv o1, iv p2, iv (0 : Int32), .unset, .unset] [(.ref w1), (.ref o1)])) _
            refine miloadN 17 G2 d4_16 rfl rfl ?_
            refine miaload 18 X2 hx hby hZ e2 V_w1 (v := s0_) d4_17 ⟨by decide, by decide⟩ rfl rfl ?_
            refine mdaload 19 X2 hx hby hZ e2 V_o1 (v := (([c0_, c1_, c2_, c3_, c4_, c5_] : List UInt64).getD s0_.toNatClampNeg (0 : UInt64))) d4_18 (hin18) (own_getDD ([c0_, c1_, c2_, c3_, c4_, c5_] : List UInt64) _ _) rfl ?_
            refine mdstore 21 G2 d4_19 #[rv o0, rv o1, iv p2, iv (0 : Int32), dv (([c0_, c1_, c2_, c3_, c4_, c5_] : List UInt64).getD s0_.toNatClampNeg (0 : UInt64)), .second] rfl rfl ?_
            refine miloadN 22 G2 d4_21 rfl rfl ?_
            refine mifNo 25 G2 d4_22 ((if0 _ _).trans (feq hc22_3).1) rfl ?_
            refine mdload 27 G2 d4_25 rfl rfl ?_
            refine maloadN 28 G2 d4_27 rfl rfl rfl ?_
            refine st12 _ ?_
            show Steps p.tables e below (T12.setTop (mkF m 31 #[rv o0, rv o1, iv p2, iv (0 : Int32), dv (([c0_, c1_, c2_, c3_, c4_, c5_] : List UInt64).getD s0_.toNatClampNeg (0 : UInt64)), .second] [(.ref w2), (.double (([c0_, c1_, c2_, c3_, c4_, c5_] : List UInt64).getD s0_.toNatClampNeg (0 : UInt64)))])) _
            refine miloadN 32 G12 d4_31 rfl rfl ?_
            refine miaload 33 X12 hx hby hZ e12 V_w2 (v := a0_) d4_32 ⟨by decide, by decide⟩ rfl rfl ?_
            refine mi2d 34 G12 d4_33 rfl ?_
            refine mdcmp 35 G12 d4_34 rfl ?_
            refine mifYes 50 G12 d4_35 ((if0 _ _).trans (flt hc35_13).2.1) (by decide) rfl ?_
            refine miinc 53 G12 d4_50 rfl #[rv o0, rv o1, iv p2, iv (1 : Int32), dv (([c0_, c1_, c2_, c3_, c4_, c5_] : List UInt64).getD s0_.toNatClampNeg (0 : UInt64)), .second] rfl rfl ?_
            refine mgoto 2 G12 d4_53 (by decide) rfl ?_
            refine miloadN 3 G12 d4_2 rfl rfl ?_
            refine maloadN 4 G12 d4_3 rfl rfl rfl ?_
            refine st14 _ ?_
            show Steps p.tables e below (T14.setTop (mkF m 7 #[rv o0, rv o1, iv p2, iv (1 : Int32), dv (([c0_, c1_, c2_, c3_, c4_, c5_] : List UInt64).getD s0_.toNatClampNeg (0 : UInt64)), .second] [(.ref w1), (.int (1 : Int32))])) _
            refine mlen 8 X14 hx hby hZ e14 V_w1 d4_7 rfl ?_
            refine micmpNo 11 G14 d4_8 (tlt (by decide : (1 : Int32) < (3 : Int32))).2.1 rfl ?_
            refine maloadN 12 G14 d4_11 rfl rfl rfl ?_
            refine maloadN 13 G14 d4_12 rfl rfl rfl ?_
            refine st15 _ ?_
            show Steps p.tables e below (T15.setTop (mkF m 16 #[rv o0, rv o1, iv p2, iv (1 : Int32), dv (([c0_, c1_, c2_, c3_, c4_, c5_] : List UInt64).getD s0_.toNatClampNeg (0 : UInt64)), .second] [(.ref w1), (.ref o1)])) _
            refine miloadN 17 G15 d4_16 rfl rfl ?_
            refine miaload 18 X15 hx hby hZ e15 V_w1 (v := s1_) d4_17 ⟨by decide, by decide⟩ rfl rfl ?_
            refine mdaload 19 X15 hx hby hZ e15 V_o1 (v := (([c0_, c1_, c2_, c3_, c4_, c5_] : List UInt64).getD s1_.toNatClampNeg (0 : UInt64))) d4_18 (hin18''' hc22_3 hc35_13) (own_getDD ([c0_, c1_, c2_, c3_, c4_, c5_] : List UInt64) _ _) rfl ?_
            refine mdstore 21 G15 d4_19 #[rv o0, rv o1, iv p2, iv (1 : Int32), dv (([c0_, c1_, c2_, c3_, c4_, c5_] : List UInt64).getD s1_.toNatClampNeg (0 : UInt64)), .second] rfl rfl ?_
            refine miloadN 22 G15 d4_21 rfl rfl ?_
            refine mifNo 25 G15 d4_22 ((if0 _ _).trans (feq hc22_3).1) rfl ?_
            refine mdload 27 G15 d4_25 rfl rfl ?_
            refine maloadN 28 G15 d4_27 rfl rfl rfl ?_
            refine st16 _ ?_
            show Steps p.tables e below (T16.setTop (mkF m 31 #[rv o0, rv o1, iv p2, iv (1 : Int32), dv (([c0_, c1_, c2_, c3_, c4_, c5_] : List UInt64).getD s1_.toNatClampNeg (0 : UInt64)), .second] [(.ref w2), (.double (([c0_, c1_, c2_, c3_, c4_, c5_] : List UInt64).getD s1_.toNatClampNeg (0 : UInt64)))])) _
            refine miloadN 32 G16 d4_31 rfl rfl ?_
            refine miaload 33 X16 hx hby hZ e16 V_w2 (v := a1_) d4_32 ⟨by decide, by decide⟩ rfl rfl ?_
            refine mi2d 34 G16 d4_33 rfl ?_
            refine mdcmp 35 G16 d4_34 rfl ?_
            refine mifYes 50 G16 d4_35 ((if0 _ _).trans (flt hc35_17).2.1) (by decide) rfl ?_
            refine miinc 53 G16 d4_50 rfl #[rv o0, rv o1, iv p2, iv (2 : Int32), dv (([c0_, c1_, c2_, c3_, c4_, c5_] : List UInt64).getD s1_.toNatClampNeg (0 : UInt64)), .second] rfl rfl ?_
            refine mgoto 2 G16 d4_53 (by decide) rfl ?_
            refine miloadN 3 G16 d4_2 rfl rfl ?_
            refine maloadN 4 G16 d4_3 rfl rfl rfl ?_
            refine st18 _ ?_
            show Steps p.tables e below (T18.setTop (mkF m 7 #[rv o0, rv o1, iv p2, iv (2 : Int32), dv (([c0_, c1_, c2_, c3_, c4_, c5_] : List UInt64).getD s1_.toNatClampNeg (0 : UInt64)), .second] [(.ref w1), (.int (2 : Int32))])) _
            refine mlen 8 X18 hx hby hZ e18 V_w1 d4_7 rfl ?_
            refine micmpNo 11 G18 d4_8 (tlt (by decide : (2 : Int32) < (3 : Int32))).2.1 rfl ?_
            refine maloadN 12 G18 d4_11 rfl rfl rfl ?_
            refine maloadN 13 G18 d4_12 rfl rfl rfl ?_
            refine st19 _ ?_
            show Steps p.tables e below (T19.setTop (mkF m 16 #[rv o0, rv o1, iv p2, iv (2 : Int32), dv (([c0_, c1_, c2_, c3_, c4_, c5_] : List UInt64).getD s1_.toNatClampNeg (0 : UInt64)), .second] [(.ref w1), (.ref o1)])) _
            refine miloadN 17 G19 d4_16 rfl rfl ?_
            refine miaload 18 X19 hx hby hZ e19 V_w1 (v := s2_) d4_17 ⟨by decide, by decide⟩ rfl rfl ?_
            refine mdaload 19 X19 hx hby hZ e19 V_o1 (v := (([c0_, c1_, c2_, c3_, c4_, c5_] : List UInt64).getD s2_.toNatClampNeg (0 : UInt64))) d4_18 (hin18'''' hc22_3 hc35_13 hc35_17) (own_getDD ([c0_, c1_, c2_, c3_, c4_, c5_] : List UInt64) _ _) rfl ?_
            refine mdstore 21 G19 d4_19 #[rv o0, rv o1, iv p2, iv (2 : Int32), dv (([c0_, c1_, c2_, c3_, c4_, c5_] : List UInt64).getD s2_.toNatClampNeg (0 : UInt64)), .second] rfl rfl ?_
            refine miloadN 22 G19 d4_21 rfl rfl ?_
            refine mifNo 25 G19 d4_22 ((if0 _ _).trans (feq hc22_3).1) rfl ?_
            refine mdload 27 G19 d4_25 rfl rfl ?_
            refine maloadN 28 G19 d4_27 rfl rfl rfl ?_
            refine st20 _ ?_
            show Steps p.tables e below (T20.setTop (mkF m 31 #[rv o0, rv o1, iv p2, iv (2 : Int32), dv (([c0_, c1_, c2_, c3_, c4_, c5_] : List UInt64).getD s2_.toNatClampNeg (0 : UInt64)), .second] [(.ref w2), (.double (([c0_, c1_, c2_, c3_, c4_, c5_] : List UInt64).getD s2_.toNatClampNeg (0 : UInt64)))])) _
            refine miloadN 32 G20 d4_31 rfl rfl ?_
            refine miaload 33 X20 hx hby hZ e20 V_w2 (v := a2_) d4_32 ⟨by decide, by decide⟩ rfl rfl ?_
            refine mi2d 34 G20 d4_33 rfl ?_
            refine mdcmp 35 G20 d4_34 rfl ?_
            refine mifYes 50 G20 d4_35 ((if0 _ _).trans (flt hc35_21).2.1) (by decide) rfl ?_
            refine miinc 53 G20 d4_50 rfl #[rv o0, rv o1, iv p2, iv (3 : Int32), dv (([c0_, c1_, c2_, c3_, c4_, c5_] : List UInt64).getD s2_.toNatClampNeg (0 : UInt64)), .second] rfl rfl ?_
            refine mgoto 2 G20 d4_53 (by decide) rfl ?_
            refine miloadN 3 G20 d4_2 rfl rfl ?_
            refine maloadN 4 G20 d4_3 rfl rfl rfl ?_
            refine st22 _ ?_
            show Steps p.tables e below (T22.setTop (mkF m 7 #[rv o0, rv o1, iv p2, iv (3 : Int32), dv (([c0_, c1_, c2_, c3_, c4_, c5_] : List UInt64).getD s2_.toNatClampNeg (0 : UInt64)), .second] [(.ref w1), (.int (3 : Int32))])) _
            refine mlen 8 X22 hx hby hZ e22 V_w1 d4_7 rfl ?_
            refine micmpYes 56 G22 d4_8 (flt (by decide : ¬ ((3 : Int32) < (3 : Int32)))).2.1 (by decide) rfl ?_
            refine miconst 57 G22 d4_56 (v := (-1 : Int32)) rfl rfl ?_
            exact retOut X22 hx Bd.returns rfl (Or.inl ⟨rfl, Or.inl rfl, _, rfl⟩) (hb hby d4_57) hr
          · show Q4_3 Z o0 o1 p2 w1 w2 k1 s0_ s1_ s2_ k2 a0_ a1_ a2_ k3 c0_ c1_ c2_ c3_ c4_ c5_ h0 n0 _ T22.heap _
            rw [e22]
            exact ⟨by simp only [rv4_3, if_neg hc22_3, if_neg hc35_13, if_neg hc35_17, if_neg hc35_21], rfl, rfl⟩
theorem ef0_3 (m : MethodId) (p0 : Int32) (p1 : Int32) (p2 : Int32) (p3 : Int32) : entryFrame m #[(.int p0), (.int p1), (.int p2), (.int p3)] maxLocals = mkF m 0 #[iv p0, iv p1, iv p2, iv p3, .unset, .unset, .unset, .unset, .unset, .unset, .unset, .unset, .unset, .unset, .unset, .unset, .unset, .unset, .unset, .unset, .unset, .unset] [] := by first | (simp [entryFrame, mkF, argsToLocals, Value.category, maxLocals]; done) | rfl
theorem own_rm0_3_hp_hin18_355 (p0 : Int32) (p1 : Int32) (p2 : Int32) (p3 : Int32) (x3 : Int32) (hx3 : x3 = (if (((p0.toUInt32 >>> ((2 : Int32) &&& 31).toUInt32).toInt32) &&& (1 : Int32)) = (0 : Int32) then (0 : Int32) else (1 : Int32))) (x4 : Int32) (hx4 : x4 = (p1 &&& (1 : Int32))) (x5 : Int32) (hx5 : x5 = ((x4 + (1 : Int32)) + (((p1.toUInt32 >>> ((1 : Int32) &&& 31).toUInt32).toInt32) &&& (1 : Int32)))) (x6 : Int32) (hx6 : x6 = ((x5 + (1 : Int32)) + (((p1.toUInt32 >>> ((2 : Int32) &&& 31).toUInt32).toInt32) &&& (1 : Int32)))) (x7 : Int32) (hx7 : x7 = ((1 : Int32) + (p2 &&& (3 : Int32)))) (x8 : Int32) (hx8 : x8 = ((1 : Int32) + (((p2.toUInt32 >>> ((2 : Int32) &&& 31).toUInt32).toInt32) &&& (3 : Int32)))) (x9 : Int32) (hx9 : x9 = ((1 : Int32) + (((p2.toUInt32 >>> ((4 : Int32) &&& 31).toUInt32).toInt32) &&& (3 : Int32)))) (x11 : Int32) (hx11 : x11 = (p3 &&& (7 : Int32))) (x15 : Int32) (hx15 : x15 = (((p3.toUInt32 >>> ((3 : Int32) &&& 31).toUInt32).toInt32) &&& (7 : Int32))) (x19 : Int32) (hx19 : x19 = (((p3.toUInt32 >>> ((6 : Int32) &&& 31).toUInt32).toInt32) &&& (7 : Int32))) (x23 : Int32) (hx23 : x23 = (((p3.toUInt32 >>> ((9 : Int32) &&& 31).toUInt32).toInt32) &&& (7 : Int32))) (x27 : Int32) (hx27 : x27 = (((p3.toUInt32 >>> ((12 : Int32) &&& 31).toUInt32).toInt32) &&& (7 : Int32))) (x31 : Int32) (hx31 : x31 = (((p3.toUInt32 >>> ((15 : Int32) &&& 31).toUInt32).toInt32) &&& (7 : Int32))) (x37 : UInt64) (hx37 : x37 = (FP.i2d x11)) (x44 : UInt64) (hx44 : x44 = (FP.i2d x15)) (x51 : UInt64) (hx51 : x51 = (FP.i2d x19)) (x58 : UInt64) (hx58 : x58 = (FP.i2d x23)) (x65 : UInt64) (hx65 : x65 = (FP.i2d x27)) (x72 : UInt64) (hx72 : x72 = (FP.i2d x31)) (hpin3 : ((p0 &&& (3 : Int32)) = (3 : Int32))) : ¬ x4 < 0 ∧ x4 < (6 : Int32) := own_in (own_s hx4 hx5 hx6).1
theorem own_rm0_3_hp_hin18_355_1 (p0 : Int32) (p1 : Int32) (p2 : Int32) (p3 : Int32) (x3 : Int32) (hx3 : x3 = (if (((p0.toUInt32 >>> ((2 : Int32) &&& 31).toUInt32).toInt32) &&& (1 : Int32)) = (0 : Int32) then (0 : Int32) else (1 : Int32))) (x4 : Int32) (hx4 : x4 = (p1 &&& (1 : Int32))) (x5 : Int32) (hx5 : x5 = ((x4 + (1 : Int32)) + (((p1.toUInt32 >>> ((1 : Int32) &&& 31).toUInt32).toInt32) &&& (1 : Int32)))) (x6 : Int32) (hx6 : x6 = ((x5 + (1 : Int32)) + (((p1.toUInt32 >>> ((2 : Int32) &&& 31).toUInt32).toInt32) &&& (1 : Int32)))) (x7 : Int32) (hx7 : x7 = ((1 : Int32) + (p2 &&& (3 : Int32)))) (x8 : Int32) (hx8 : x8 = ((1 : Int32) + (((p2.toUInt32 >>> ((2 : Int32) &&& 31).toUInt32).toInt32) &&& (3 : Int32)))) (x9 : Int32) (hx9 : x9 = ((1 : Int32) + (((p2.toUInt32 >>> ((4 : Int32) &&& 31).toUInt32).toInt32) &&& (3 : Int32)))) (x11 : Int32) (hx11 : x11 = (p3 &&& (7 : Int32))) (x15 : Int32) (hx15 : x15 = (((p3.toUInt32 >>> ((3 : Int32) &&& 31).toUInt32).toInt32) &&& (7 : Int32))) (x19 : Int32) (hx19 : x19 = (((p3.toUInt32 >>> ((6 : Int32) &&& 31).toUInt32).toInt32) &&& (7 : Int32))) (x23 : Int32) (hx23 : x23 = (((p3.toUInt32 >>> ((9 : Int32) &&& 31).toUInt32).toInt32) &&& (7 : Int32))) (x27 : Int32) (hx27 : x27 = (((p3.toUInt32 >>> ((12 : Int32) &&& 31).toUInt32).toInt32) &&& (7 : Int32))) (x31 : Int32) (hx31 : x31 = (((p3.toUInt32 >>> ((15 : Int32) &&& 31).toUInt32).toInt32) &&& (7 : Int32))) (x37 : UInt64) (hx37 : x37 = (FP.i2d x11)) (x44 : UInt64) (hx44 : x44 = (FP.i2d x15)) (x51 : UInt64) (hx51 : x51 = (FP.i2d x19)) (x58 : UInt64) (hx58 : x58 = (FP.i2d x23)) (x65 : UInt64) (hx65 : x65 = (FP.i2d x27)) (x72 : UInt64) (hx72 : x72 = (FP.i2d x31)) (hpin3 : ((p0 &&& (3 : Int32)) = (3 : Int32))) : (x3 = (0 : Int32)) → (¬ ((cmpValue (FP.dcmp (([x37, x44, x51, x58, x65, x72] : List UInt64).getD x4.toNatClampNeg (0 : UInt64)) (0 : UInt64)) .l) = (0 : Int32))) → ¬ x5 < 0 ∧ x5 < (6 : Int32) := fun _ _ => own_in (own_s hx4 hx5 hx6).2.1
theorem own_rm0_3_hp_hin18_355_2 (p0 : Int32) (p1 : Int32) (p2 : Int32) (p3 : Int32) (x3 : Int32) (hx3 : x3 = (if (((p0.toUInt32 >>> ((2 : Int32) &&& 31).toUInt32).toInt32) &&& (1 : Int32)) = (0 : Int32) then (0 : Int32) else (1 : Int32))) (x4 : Int32) (hx4 : x4 = (p1 &&& (1 : Int32))) (x5 : Int32) (hx5 : x5 = ((x4 + (1 : Int32)) + (((p1.toUInt32 >>> ((1 : Int32) &&& 31).toUInt32).toInt32) &&& (1 : Int32)))) (x6 : Int32) (hx6 : x6 = ((x5 + (1 : Int32)) + (((p1.toUInt32 >>> ((2 : Int32) &&& 31).toUInt32).toInt32) &&& (1 : Int32)))) (x7 : Int32) (hx7 : x7 = ((1 : Int32) + (p2 &&& (3 : Int32)))) (x8 : Int32) (hx8 : x8 = ((1 : Int32) + (((p2.toUInt32 >>> ((2 : Int32) &&& 31).toUInt32).toInt32) &&& (3 : Int32)))) (x9 : Int32) (hx9 : x9 = ((1 : Int32) + (((p2.toUInt32 >>> ((4 : Int32) &&& 31).toUInt32).toInt32) &&& (3 : Int32)))) (x11 : Int32) (hx11 : x11 = (p3 &&& (7 : Int32))) (x15 : Int32) (hx15 : x15 = (((p3.toUInt32 >>> ((3 : Int32) &&& 31).toUInt32).toInt32) &&& (7 : Int32))) (x19 : Int32) (hx19 : x19 = (((p3.toUInt32 >>> ((6 : Int32) &&& 31).toUInt32).toInt32) &&& (7 : Int32))) (x23 : Int32) (hx23 : x23 = (((p3.toUInt32 >>> ((9 : Int32) &&& 31).toUInt32).toInt32) &&& (7 : Int32))) (x27 : Int32) (hx27 : x27 = (((p3.toUInt32 >>> ((12 : Int32) &&& 31).toUInt32).toInt32) &&& (7 : Int32))) (x31 : Int32) (hx31 : x31 = (((p3.toUInt32 >>> ((15 : Int32) &&& 31).toUInt32).toInt32) &&& (7 : Int32))) (x37 : UInt64) (hx37 : x37 = (FP.i2d x11)) (x44 : UInt64) (hx44 : x44 = (FP.i2d x15)) (x51 : UInt64) (hx51 : x51 = (FP.i2d x19)) (x58 : UInt64) (hx58 : x58 = (FP.i2d x23)) (x65 : UInt64) (hx65 : x65 = (FP.i2d x27)) (x72 : UInt64) (hx72 : x72 = (FP.i2d x31)) (hpin3 : ((p0 &&& (3 : Int32)) = (3 : Int32))) : (x3 = (0 : Int32)) → (¬ ((cmpValue (FP.dcmp (([x37, x44, x51, x58, x65, x72] : List UInt64).getD x4.toNatClampNeg (0 : UInt64)) (0 : UInt64)) .l) = (0 : Int32))) → (¬ ((cmpValue (FP.dcmp (([x37, x44, x51, x58, x65, x72] : List UInt64).getD x5.toNatClampNeg (0 : UInt64)) (0 : UInt64)) .l) = (0 : Int32))) → ¬ x6 < 0 ∧ x6 < (6 : Int32) := fun _ _ _ => own_in (own_s hx4 hx5 hx6).2.2
theorem own_rm0_3_hp_hin18_355_3 (p0 : Int32) (p1 : Int32) (p2 : Int32) (p3 : Int32) (x3 : Int32) (hx3 : x3 = (if (((p0.toUInt32 >>> ((2 : Int32) &&& 31).toUInt32).toInt32) &&& (1 : Int32)) = (0 : Int32) then (0 : Int32) else (1 : Int32))) (x4 : Int32) (hx4 : x4 = (p1 &&& (1 : Int32))) (x5 : Int32) (hx5 : x5 = ((x4 + (1 : Int32)) + (((p1.toUInt32 >>> ((1 : Int32) &&& 31).toUInt32).toInt32) &&& (1 : Int32)))) (x6 : Int32) (hx6 : x6 = ((x5 + (1 : Int32)) + (((p1.toUInt32 >>> ((2 : Int32) &&& 31).toUInt32).toInt32) &&& (1 : Int32)))) (x7 : Int32) (hx7 : x7 = ((1 : Int32) + (p2 &&& (3 : Int32)))) (x8 : Int32) (hx8 : x8 = ((1 : Int32) + (((p2.toUInt32 >>> ((2 : Int32) &&& 31).toUInt32).toInt32) &&& (3 : Int32)))) (x9 : Int32) (hx9 : x9 = ((1 : Int32) + (((p2.toUInt32 >>> ((4 : Int32) &&& 31).toUInt32).toInt32) &&& (3 : Int32)))) (x11 : Int32) (hx11 : x11 = (p3 &&& (7 : Int32))) (x15 : Int32) (hx15 : x15 = (((p3.toUInt32 >>> ((3 : Int32) &&& 31).toUInt32).toInt32) &&& (7 : Int32))) (x19 : Int32) (hx19 : x19 = (((p3.toUInt32 >>> ((6 : Int32) &&& 31).toUInt32).toInt32) &&& (7 : Int32))) (x23 : Int32) (hx23 : x23 = (((p3.toUInt32 >>> ((9 : Int32) &&& 31).toUInt32).toInt32) &&& (7 : Int32))) (x27 : Int32) (hx27 : x27 = (((p3.toUInt32 >>> ((12 : Int32) &&& 31).toUInt32).toInt32) &&& (7 : Int32))) (x31 : Int32) (hx31 : x31 = (((p3.toUInt32 >>> ((15 : Int32) &&& 31).toUInt32).toInt32) &&& (7 : Int32))) (x37 : UInt64) (hx37 : x37 = (FP.i2d x11)) (x44 : UInt64) (hx44 : x44 = (FP.i2d x15)) (x51 : UInt64) (hx51 : x51 = (FP.i2d x19)) (x58 : UInt64) (hx58 : x58 = (FP.i2d x23)) (x65 : UInt64) (hx65 : x65 = (FP.i2d x27)) (x72 : UInt64) (hx72 : x72 = (FP.i2d x31)) (hpin3 : ((p0 &&& (3 : Int32)) = (3 : Int32))) : (¬ (x3 = (0 : Int32))) → (¬ ((cmpValue (FP.dcmp (([x37, x44, x51, x58, x65, x72] : List UInt64).getD x4.toNatClampNeg (0 : UInt64)) (FP.i2d x7)) .g) < (0 : Int32))) → ¬ x5 < 0 ∧ x5 < (6 : Int32) := fun _ _ => own_in (own_s hx4 hx5 hx6).2.1
theorem own_rm0_3_hp_hin18_355_4 (p0 : Int32) (p1 : Int32) (p2 : Int32) (p3 : Int32) (x3 : Int32) (hx3 : x3 = (if (((p0.toUInt32 >>> ((2 : Int32) &&& 31).toUInt32).toInt32) &&& (1 : Int32)) = (0 : Int32) then (0 : Int32) else (1 : Int32))) (x4 : Int32) (hx4 : x4 = (p1 &&& (1 : Int32))) (x5 : Int32) (hx5 : x5 = ((x4 + (1 : Int32)) + (((p1.toUInt32 >>> ((1 : Int32) &&& 31).toUInt32).toInt32) &&& (1 : Int32)))) (x6 : Int32) (hx6 : x6 = ((x5 + (1 : Int32)) + (((p1.toUInt32 >>> ((2 : Int32) &&& 31).toUInt32).toInt32) &&& (1 : Int32)))) (x7 : Int32) (hx7 : x7 = ((1 : Int32) + (p2 &&& (3 : Int32)))) (x8 : Int32) (hx8 : x8 = ((1 : Int32) + (((p2.toUInt32 >>> ((2 : Int32) &&& 31).toUInt32).toInt32) &&& (3 : Int32)))) (x9 : Int32) (hx9 : x9 = ((1 : Int32) + (((p2.toUInt32 >>> ((4 : Int32) &&& 31).toUInt32).toInt32) &&& (3 : Int32)))) (x11 : Int32) (hx11 : x11 = (p3 &&& (7 : Int32))) (x15 : Int32) (hx15 : x15 = (((p3.toUInt32 >>> ((3 : Int32) &&& 31).toUInt32).toInt32) &&& (7 : Int32))) (x19 : Int32) (hx19 : x19 = (((p3.toUInt32 >>> ((6 : Int32) &&& 31).toUInt32).toInt32) &&& (7 : Int32))) (x23 : Int32) (hx23 : x23 = (((p3.toUInt32 >>> ((9 : Int32) &&& 31).toUInt32).toInt32) &&& (7 : Int32))) (x27 : Int32) (hx27 : x27 = (((p3.toUInt32 >>> ((12 : Int32) &&& 31).toUInt32).toInt32) &&& (7 : Int32))) (x31 : Int32) (hx31 : x31 = (((p3.toUInt32 >>> ((15 : Int32) &&& 31).toUInt32).toInt32) &&& (7 : Int32))) (x37 : UInt64) (hx37 : x37 = (FP.i2d x11)) (x44 : UInt64) (hx44 : x44 = (FP.i2d x15)) (x51 : UInt64) (hx51 : x51 = (FP.i2d x19)) (x58 : UInt64) (hx58 : x58 = (FP.i2d x23)) (x65 : UInt64) (hx65 : x65 = (FP.i2d x27)) (x72 : UInt64) (hx72 : x72 = (FP.i2d x31)) (hpin3 : ((p0 &&& (3 : Int32)) = (3 : Int32))) : (¬ (x3 = (0 : Int32))) → (¬ ((cmpValue (FP.dcmp (([x37, x44, x51, x58, x65, x72] : List UInt64).getD x4.toNatClampNeg (0 : UInt64)) (FP.i2d x7)) .g) < (0 : Int32))) → (¬ ((cmpValue (FP.dcmp (([x37, x44, x51, x58, x65, x72] : List UInt64).getD x5.toNatClampNeg (0 : UInt64)) (FP.i2d x8)) .g) < (0 : Int32))) → ¬ x6 < 0 ∧ x6 < (6 : Int32) := fun _ _ _ => own_in (own_s hx4 hx5 hx6).2.2
theorem own_rm0_3_hin364 (p0 : Int32) (p1 : Int32) (p2 : Int32) (p3 : Int32) (x3 : Int32) (hx3 : x3 = (if (((p0.toUInt32 >>> ((2 : Int32) &&& 31).toUInt32).toInt32) &&& (1 : Int32)) = (0 : Int32) then (0 : Int32) else (1 : Int32))) (x4 : Int32) (hx4 : x4 = (p1 &&& (1 : Int32))) (x5 : Int32) (hx5 : x5 = ((x4 + (1 : Int32)) + (((p1.toUInt32 >>> ((1 : Int32) &&& 31).toUInt32).toInt32) &&& (1 : Int32)))) (x6 : Int32) (hx6 : x6 = ((x5 + (1 : Int32)) + (((p1.toUInt32 >>> ((2 : Int32) &&& 31).toUInt32).toInt32) &&& (1 : Int32)))) (x7 : Int32) (hx7 : x7 = ((1 : Int32) + (p2 &&& (3 : Int32)))) (x8 : Int32) (hx8 : x8 = ((1 : Int32) + (((p2.toUInt32 >>> ((2 : Int32) &&& 31).toUInt32).toInt32) &&& (3 : Int32)))) (x9 : Int32) (hx9 : x9 = ((1 : Int32) + (((p2.toUInt32 >>> ((4 : Int32) &&& 31).toUInt32).toInt32) &&& (3 : Int32)))) (x11 : Int32) (hx11 : x11 = (p3 &&& (7 : Int32))) (x15 : Int32) (hx15 : x15 = (((p3.toUInt32 >>> ((3 : Int32) &&& 31).toUInt32).toInt32) &&& (7 : Int32))) (x19 : Int32) (hx19 : x19 = (((p3.toUInt32 >>> ((6 : Int32) &&& 31).toUInt32).toInt32) &&& (7 : Int32))) (x23 : Int32) (hx23 : x23 = (((p3.toUInt32 >>> ((9 : Int32) &&& 31).toUInt32).toInt32) &&& (7 : Int32))) (x27 : Int32) (hx27 : x27 = (((p3.toUInt32 >>> ((12 : Int32) &&& 31).toUInt32).toInt32) &&& (7 : Int32))) (x31 : Int32) (hx31 : x31 = (((p3.toUInt32 >>> ((15 : Int32) &&& 31).toUInt32).toInt32) &&& (7 : Int32))) (x37 : UInt64) (hx37 : x37 = (FP.i2d x11)) (x44 : UInt64) (hx44 : x44 = (FP.i2d x15)) (x51 : UInt64) (hx51 : x51 = (FP.i2d x19)) (x58 : UInt64) (hx58 : x58 = (FP.i2d x23)) (x65 : UInt64) (hx65 : x65 = (FP.i2d x27)) (x72 : UInt64) (hx72 : x72 = (FP.i2d x31)) (x190 : Int32) (hx190 : x190 = (rv4_3 x3 x4 x5 x6 x7 x8 x9 x37 x44 x51 x58 x65 x72)) (hpin3 : ((p0 &&& (3 : Int32)) = (3 : Int32))) : ¬ x4 < 0 ∧ x4 < (6 : Int32) := own_in (own_s hx4 hx5 hx6).1
theorem own_rm0_3_hin378 (p0 : Int32) (p1 : Int32) (p2 : Int32) (p3 : Int32) (x3 : Int32) (hx3 : x3 = (if (((p0.toUInt32 >>> ((2 : Int32) &&& 31).toUInt32).toInt32) &&& (1 : Int32)) = (0 : Int32) then (0 : Int32) else (1 : Int32))) (x4 : Int32) (hx4 : x4 = (p1 &&& (1 : Int32))) (x5 : Int32) (hx5 : x5 = ((x4 + (1 : Int32)) + (((p1.toUInt32 >>> ((1 : Int32) &&& 31).toUInt32).toInt32) &&& (1 : Int32)))) (x6 : Int32) (hx6 : x6 = ((x5 + (1 : Int32)) + (((p1.toUInt32 >>> ((2 : Int32) &&& 31).toUInt32).toInt32) &&& (1 : Int32)))) (x7 : Int32) (hx7 : x7 = ((1 : Int32) + (p2 &&& (3 : Int32)))) (x8 : Int32) (hx8 : x8 = ((1 : Int32) + (((p2.toUInt32 >>> ((2 : Int32) &&& 31).toUInt32).toInt32) &&& (3 : Int32)))) (x9 : Int32) (hx9 : x9 = ((1 : Int32) + (((p2.toUInt32 >>> ((4 : Int32) &&& 31).toUInt32).toInt32) &&& (3 : Int32)))) (x11 : Int32) (hx11 : x11 = (p3 &&& (7 : Int32))) (x15 : Int32) (hx15 : x15 = (((p3.toUInt32 >>> ((3 : Int32) &&& 31).toUInt32).toInt32) &&& (7 : Int32))) (x19 : Int32) (hx19 : x19 = (((p3.toUInt32 >>> ((6 : Int32) &&& 31).toUInt32).toInt32) &&& (7 : Int32))) (x23 : Int32) (hx23 : x23 = (((p3.toUInt32 >>> ((9 : Int32) &&& 31).toUInt32).toInt32) &&& (7 : Int32))) (x27 : Int32) (hx27 : x27 = (((p3.toUInt32 >>> ((12 : Int32) &&& 31).toUInt32).toInt32) &&& (7 : Int32))) (x31 : Int32) (hx31 : x31 = (((p3.toUInt32 >>> ((15 : Int32) &&& 31).toUInt32).toInt32) &&& (7 : Int32))) (x37 : UInt64) (hx37 : x37 = (FP.i2d x11)) (x44 : UInt64) (hx44 : x44 = (FP.i2d x15)) (x51 : UInt64) (hx51 : x51 = (FP.i2d x19)) (x58 : UInt64) (hx58 : x58 = (FP.i2d x23)) (x65 : UInt64) (hx65 : x65 = (FP.i2d x27)) (x72 : UInt64) (hx72 : x72 = (FP.i2d x31)) (x190 : Int32) (hx190 : x190 = (rv4_3 x3 x4 x5 x6 x7 x8 x9 x37 x44 x51 x58 x65 x72)) (x192 : Int32) (hx192 : x192 = (rv5 (([x11, x15, x19, x23, x27, x31] : List Int32).getD x4.toNatClampNeg (0 : Int32)) x7 x3)) (hpin3 : ((p0 &&& (3 : Int32)) = (3 : Int32))) : ¬ x5 < 0 ∧ x5 < (6 : Int32) := own_in (own_s hx4 hx5 hx6).2.1
theorem own_rm0_3_hin392 (p0 : Int32) (p1 : Int32) (p2 : Int32) (p3 : Int32) (x3 : Int32) (hx3 : x3 = (if (((p0.toUInt32 >>> ((2 : Int32) &&& 31).toUInt32).toInt32) &&& (1 : Int32)) = (0 : Int32) then (0 : Int32) else (1 : Int32))) (x4 : Int32) (hx4 : x4 = (p1 &&& (1 : Int32))) (x5 : Int32) (hx5 : x5 = ((x4 + (1 : Int32)) + (((p1.toUInt32 >>> ((1 : Int32) &&& 31).toUInt32).toInt32) &&& (1 : Int32)))) (x6 : Int32) (hx6 : x6 = ((x5 + (1 : Int32)) + (((p1.toUInt32 >>> ((2 : Int32) &&& 31).toUInt32).toInt32) &&& (1 : Int32)))) (x7 : Int32) (hx7 : x7 = ((1 : Int32) + (p2 &&& (3 : Int32)))) (x8 : Int32) (hx8 : x8 = ((1 : Int32) + (((p2.toUInt32 >>> ((2 : Int32) &&& 31).toUInt32).toInt32) &&& (3 : Int32)))) (x9 : Int32) (hx9 : x9 = ((1 : Int32) + (((p2.toUInt32 >>> ((4 : Int32) &&& 31).toUInt32).toInt32) &&& (3 : Int32)))) (x11 : Int32) (hx11 : x11 = (p3 &&& (7 : Int32))) (x15 : Int32) (hx15 : x15 = (((p3.toUInt32 >>> ((3 : Int32) &&& 31).toUInt32).toInt32) &&& (7 : Int32))) (x19 : Int32) (hx19 : x19 = (((p3.toUInt32 >>> ((6 : Int32) &&& 31).toUInt32).toInt32) &&& (7 : Int32))) (x23 : Int32) (hx23 : x23 = (((p3.toUInt32 >>> ((9 : Int32) &&& 31).toUInt32).toInt32) &&& (7 : Int32))) (x27 : Int32) (hx27 : x27 = (((p3.toUInt32 >>> ((12 : Int32) &&& 31).toUInt32).toInt32) &&& (7 : Int32))) (x31 : Int32) (hx31 : x31 = (((p3.toUInt32 >>> ((15 : Int32) &&& 31).toUInt32).toInt32) &&& (7 : Int32))) (x37 : UInt64) (hx37 : x37 = (FP.i2d x11)) (x44 : UInt64) (hx44 : x44 = (FP.i2d x15)) (x51 : UInt64) (hx51 : x51 = (FP.i2d x19)) (x58 : UInt64) (hx58 : x58 = (FP.i2d x23)) (x65 : UInt64) (hx65 : x65 = (FP.i2d x27)) (x72 : UInt64) (hx72 : x72 = (FP.i2d x31)) (x190 : Int32) (hx190 : x190 = (rv4_3 x3 x4 x5 x6 x7 x8 x9 x37 x44 x51 x58 x65 x72)) (x192 : Int32) (hx192 : x192 = (rv5 (([x11, x15, x19, x23, x27, x31] : List Int32).getD x4.toNatClampNeg (0 : Int32)) x7 x3)) (x194 : Int32) (hx194 : x194 = (rv5 (([x11, x15, x19, x23, x27, x31] : List Int32).getD x5.toNatClampNeg (0 : Int32)) x8 x3)) (hpin3 : ((p0 &&& (3 : Int32)) = (3 : Int32))) : ¬ x6 < 0 ∧ x6 < (6 : Int32) := own_in (own_s hx4 hx5 hx6).2.2
theorem own_rm0_3_end (p0 : Int32) (p1 : Int32) (p2 : Int32) (p3 : Int32) (x3 : Int32) (hx3 : x3 = (if (((p0.toUInt32 >>> ((2 : Int32) &&& 31).toUInt32).toInt32) &&& (1 : Int32)) = (0 : Int32) then (0 : Int32) else (1 : Int32))) (x4 : Int32) (hx4 : x4 = (p1 &&& (1 : Int32))) (x5 : Int32) (hx5 : x5 = ((x4 + (1 : Int32)) + (((p1.toUInt32 >>> ((1 : Int32) &&& 31).toUInt32).toInt32) &&& (1 : Int32)))) (x6 : Int32) (hx6 : x6 = ((x5 + (1 : Int32)) + (((p1.toUInt32 >>> ((2 : Int32) &&& 31).toUInt32).toInt32) &&& (1 : Int32)))) (x7 : Int32) (hx7 : x7 = ((1 : Int32) + (p2 &&& (3 : Int32)))) (x8 : Int32) (hx8 : x8 = ((1 : Int32) + (((p2.toUInt32 >>> ((2 : Int32) &&& 31).toUInt32).toInt32) &&& (3 : Int32)))) (x9 : Int32) (hx9 : x9 = ((1 : Int32) + (((p2.toUInt32 >>> ((4 : Int32) &&& 31).toUInt32).toInt32) &&& (3 : Int32)))) (x11 : Int32) (hx11 : x11 = (p3 &&& (7 : Int32))) (x15 : Int32) (hx15 : x15 = (((p3.toUInt32 >>> ((3 : Int32) &&& 31).toUInt32).toInt32) &&& (7 : Int32))) (x19 : Int32) (hx19 : x19 = (((p3.toUInt32 >>> ((6 : Int32) &&& 31).toUInt32).toInt32) &&& (7 : Int32))) (x23 : Int32) (hx23 : x23 = (((p3.toUInt32 >>> ((9 : Int32) &&& 31).toUInt32).toInt32) &&& (7 : Int32))) (x27 : Int32) (hx27 : x27 = (((p3.toUInt32 >>> ((12 : Int32) &&& 31).toUInt32).toInt32) &&& (7 : Int32))) (x31 : Int32) (hx31 : x31 = (((p3.toUInt32 >>> ((15 : Int32) &&& 31).toUInt32).toInt32) &&& (7 : Int32))) (x37 : UInt64) (hx37 : x37 = (FP.i2d x11)) (x44 : UInt64) (hx44 : x44 = (FP.i2d x15)) (x51 : UInt64) (hx51 : x51 = (FP.i2d x19)) (x58 : UInt64) (hx58 : x58 = (FP.i2d x23)) (x65 : UInt64) (hx65 : x65 = (FP.i2d x27)) (x72 : UInt64) (hx72 : x72 = (FP.i2d x31)) (x190 : Int32) (hx190 : x190 = (rv4_3 x3 x4 x5 x6 x7 x8 x9 x37 x44 x51 x58 x65 x72)) (x192 : Int32) (hx192 : x192 = (rv5 (([x11, x15, x19, x23, x27, x31] : List Int32).getD x4.toNatClampNeg (0 : Int32)) x7 x3)) (x194 : Int32) (hx194 : x194 = (rv5 (([x11, x15, x19, x23, x27, x31] : List Int32).getD x5.toNatClampNeg (0 : Int32)) x8 x3)) (x196 : Int32) (hx196 : x196 = (rv5 (([x11, x15, x19, x23, x27, x31] : List Int32).getD x6.toNatClampNeg (0 : Int32)) x9 x3)) (x199 : Int32) (hx199 : x199 = (if x192 = (0 : Int32) then (if x194 = (0 : Int32) then (if x196 = (0 : Int32) then (-1 : Int32) else (2 : Int32)) else (1 : Int32)) else (0 : Int32))) (x204 : Int32) (hx204 : x204 = (if x190 = x199 then (1 : Int32) else (0 : Int32))) (hpin3 : ((p0 &&& (3 : Int32)) = (3 : Int32))) : x204 = 1 := by
  subst hx37 hx44 hx51 hx58 hx65 hx72
  have key : x190 = x199 := by
    rw [hx190, hx199, hx192, hx194, hx196]
    unfold rv4_3 rv5
    simp only [own_gd, own_c0, own_cl]
    have ne : ¬ ((1 : Int32) = 0) := by decide
    have e0 : (0 : Int32) = 0 := rfl
    generalize (([x11, x15, x19, x23, x27, x31] : List Int32).getD x4.toNatClampNeg (0 : Int32)) = V0
    generalize (([x11, x15, x19, x23, x27, x31] : List Int32).getD x5.toNatClampNeg (0 : Int32)) = V1
    generalize (([x11, x15, x19, x23, x27, x31] : List Int32).getD x6.toNatClampNeg (0 : Int32)) = V2
    by_cases hz : x3 = 0
    · simp only [if_pos hz]
      by_cases h0 : V0 = 0
      · simp only [if_pos h0, if_neg ne]
      · have _k := h0
        by_cases h1 : V1 = 0
        · simp only [if_neg h0, if_pos h1, if_neg ne, if_pos e0, if_true]
        · have _k := h1
          by_cases h2 : V2 = 0
          · simp only [if_neg h0, if_neg h1, if_pos h2, if_neg ne, if_pos e0, if_true]
          · simp only [if_neg h0, if_neg h1, if_neg h2, if_pos e0, if_true]
    · simp only [if_neg hz]
      by_cases h0 : V0 < x7
      · simp only [if_pos h0, if_neg ne]
      · have _k := h0
        by_cases h1 : V1 < x8
        · simp only [if_neg h0, if_pos h1, if_neg ne, if_pos e0, if_true]
        · have _k := h1
          by_cases h2 : V2 < x9
          · simp only [if_neg h0, if_neg h1, if_pos h2, if_neg ne, if_pos e0, if_true]
          · simp only [if_neg h0, if_neg h1, if_neg h2, if_pos e0, if_true]
  rw [hx204, if_pos key]
set_option maxRecDepth 65536 in
set_option maxHeartbeats 40000000 in
theorem rm0_3 (l : Launch) (Z : State) (a0 : Array Value) (hw : ∀ d ∈ tables_1, d.before a0 Z = true) (ws : List Jvm.Cond) (p0 : Int32) (p1 : Int32) (p2 : Int32) (p3 : Int32)  (h0 : Heap) (n0 : Nat) (Z0 : n0 ≤ h0.size) (hpin3 : (p0 &&& (3 : Int32)) = (3 : Int32)) :
    MetFree l x (head1 (Jvm.Cond.code x code maxLocals ret :: ws) room_1) (fun a U => a = #[(.int p0), (.int p1), (.int p2), (.int p3)] ∧ Z.Warmed39 U.vm ∧ U.heap = h0) (fun _ _ _ _ _ => True) (fun _ U o U' => ∃ v L, o = .returned v ∧ Q0 Z p0 p1 p2 p3 h0 n0 v U'.heap L ∧ FrameEnd U o U' L room_1.cells room_1.slots) := by
  refine MetFree.of_bodySF (plainFor_of_name pn_0) hisR ?_
  intro p e s m args below meth c s₁ Bd hml0 hP hK
  obtain ⟨rfl, hZ, hh⟩ := hP
  have hx := Bd.exec
  have hby := Bd.bytes
  have hml : c.maxLocals = 22 := hml0
  have hown : s.vm.findClass "com/example/oceanus/oceanus/analysis/TakenUnmadePinLaw" = some m.cls := findClass_of_methodNamed Bd.named
  have hnm := (name_of_methodNamed Bd.named Bd.method).1
  have X0 : Stand p l e room_1 s m #[(.int p0), (.int p1), (.int p2), (.int p3)] below meth c s₁ [] 0 0 := Stand.of_body Bd
  have e0 : s₁.heap = h0 := by rw [← hh, Bd.state]; rfl
  have N0 := Fr.nil n0
  have G0 := gd X0 hx hby
  have pre0 : ∀ t, Steps p.tables e below (s₁.setTop (mkF m 0 #[iv p0, iv p1, iv p2, iv p3, .unset, .unset, .unset, .unset, .unset, .unset, .unset, .unset, .unset, .unset, .unset, .unset, .unset, .unset, .unset, .unset, .unset, .unset] [])) t → Steps p.tables e below (s₁.setTop (entryFrame m #[(.int p0), (.int p1), (.int p2), (.int p3)] maxLocals)) t := fun t k => castTop (ef0_3 m p0 p1 p2 p3) k
  obtain ⟨x3, hx3⟩ : ∃ z : Int32, z = (if (((p0.toUInt32 >>> ((2 : Int32) &&& 31).toUInt32).toInt32) &&& (1 : Int32)) = (0 : Int32) then (0 : Int32) else (1 : Int32)) := ⟨_, rfl⟩
  obtain ⟨T2, X2, e2, st2⟩ : ∃ T' : State, Stand p l e room_1 s m #[(.int p0), (.int p1), (.int p2), (.int p3)] below meth c T' [] 0 0 ∧ T'.heap = h0 ∧ ∀ target, Steps p.tables e below (T'.setTop (mkF m 18 #[iv p0, iv p1, iv p2, iv p3, iv (3 : Int32), .unset, .unset, .unset, .unset, .unset, .unset, .unset, .unset, .unset, .unset, .unset, .unset, .unset, .unset, .unset, .unset, .unset] [(.int x3)])) target → Steps p.tables e below (s₁.setTop (mkF m 10 #[iv p0, iv p1, iv p2, iv p3, iv (3 : Int32), .unset, .unset, .unset, .unset, .unset, .unset, .unset, .unset, .unset, .unset, .unset, .unset, .unset, .unset, .unset, .unset, .unset] [(.int (((p0.toUInt32 >>> ((2 : Int32) &&& 31).toUInt32).toInt32) &&& (1 : Int32)))])) target := by
    by_cases hc10_1 : (((p0.toUInt32 >>> ((2 : Int32) &&& 31).toUInt32).toInt32) &&& (1 : Int32)) = (0 : Int32)
    · refine ⟨s₁, X0, e0, fun target kt => ?_⟩
      refine mifYes 17 G0 at_10 ((if0 _ _).trans (teq hc10_1).1) (by decide) rfl ?_
      refine miconst 18 G0 at_17 (v := (0 : Int32)) rfl rfl ?_
      exact castTop (g' := (mkF m 18 #[iv p0, iv p1, iv p2, iv p3, iv (3 : Int32), .unset, .unset, .unset, .unset, .unset, .unset, .unset, .unset, .unset, .unset, .unset, .unset, .unset, .unset, .unset, .unset, .unset] [(.int x3)])) (by simp only [hx3, if_pos hc10_1]) kt
    · refine ⟨s₁, X0, e0, fun target kt => ?_⟩
      refine mifNo 13 G0 at_10 ((if0 _ _).trans (feq hc10_1).1) rfl ?_
      refine miconst 14 G0 at_13 (v := (1 : Int32)) rfl rfl ?_
      refine mgoto 18 G0 at_14 (by decide) rfl ?_
      exact castTop (g' := (mkF m 18 #[iv p0, iv p1, iv p2, iv p3, iv (3 : Int32), .unset, .unset, .unset, .unset, .unset, .unset, .unset, .unset, .unset, .unset, .unset, .unset, .unset, .unset, .unset, .unset, .unset] [(.int x3)])) (by simp only [hx3, if_neg hc10_1]) kt
  have G2 := gd X2 hx hby
  obtain ⟨x4, hx4⟩ : ∃ z : Int32, z = (p1 &&& (1 : Int32)) := ⟨_, rfl⟩
  obtain ⟨x5, hx5⟩ : ∃ z : Int32, z = ((x4 + (1 : Int32)) + (((p1.toUInt32 >>> ((1 : Int32) &&& 31).toUInt32).toInt32) &&& (1 : Int32))) := ⟨_, rfl⟩
  obtain ⟨x6, hx6⟩ : ∃ z : Int32, z = ((x5 + (1 : Int32)) + (((p1.toUInt32 >>> ((2 : Int32) &&& 31).toUInt32).toInt32) &&& (1 : Int32))) := ⟨_, rfl⟩
  obtain ⟨x7, hx7⟩ : ∃ z : Int32, z = ((1 : Int32) + (p2 &&& (3 : Int32))) := ⟨_, rfl⟩
  obtain ⟨x8, hx8⟩ : ∃ z : Int32, z = ((1 : Int32) + (((p2.toUInt32 >>> ((2 : Int32) &&& 31).toUInt32).toInt32) &&& (3 : Int32))) := ⟨_, rfl⟩
  obtain ⟨x9, hx9⟩ : ∃ z : Int32, z = ((1 : Int32) + (((p2.toUInt32 >>> ((4 : Int32) &&& 31).toUInt32).toInt32) &&& (3 : Int32))) := ⟨_, rfl⟩
  obtain ⟨T10, h10, k10, X10, e10, E10, A10, st10⟩ := newP X2 hx hZ (wd hw 0 rfl) e2 (g := (mkF m 76 #[iv p0, iv p1, iv p2, iv p3, iv (3 : Int32), iv x3, iv x4, iv x5, iv x6, iv x7, iv x8, iv x9, .unset, .unset, .unset, .unset, .unset, .unset, .unset, .unset, .unset, .unset] [(.int (6 : Int32))])) rfl (hb hby at_76) rfl (by decide) (cap := 6) (by decide) (by decide) (by decide) (by decide)
  have G10 := gd X10 hx hby
  obtain ⟨b10, g10⟩ : ∃ z, z = h0.size := ⟨_, rfl⟩
  rw [← g10] at A10 st10
  have g_b10 : n0 ≤ b10 := Nat.le_trans Z0 (Nat.le_of_eq g10.symm)
  have Z10 := Nat.le_trans Z0 E10.1
  have V_b10 : Arv Z h10 b10 k10 .int (6 : Int32) [(.int (0 : Int32)), (.int (0 : Int32)), (.int (0 : Int32)), (.int (0 : Int32)), (.int (0 : Int32)), (.int (0 : Int32))] (.int (0 : Int32)) := (Arv.new A10 (by decide)).pad (pad_rep [] (.int (0 : Int32)) 6)
  obtain ⟨x11, hx11⟩ : ∃ z : Int32, z = (p3 &&& (7 : Int32)) := ⟨_, rfl⟩
  obtain ⟨T12, h12, X12, e12, W12, Vs12, st12⟩ := own_stI X10 hx hby hZ e10 V_b10 (j := (0 : Int32)) (v := x11) at_87 ⟨by decide, by decide⟩ 0 rfl (Nat.le_of_ble_eq_true rfl) #[iv p0, iv p1, iv p2, iv p3, iv (3 : Int32), iv x3, iv x4, iv x5, iv x6, iv x7, iv x8, iv x9, rv b10, .unset, .unset, .unset, .unset, .unset, .unset, .unset, .unset, .unset] [] 88 rfl
  have G12 := gd X12 hx hby
  have N12 := Fr.snoc X12 N0 g_b10
  have Z12 := Nat.le_trans Z10 (Keep.of_wr W12).1
  have V12 : Arv Z h12 b10 k10 .int (6 : Int32) [(.int x11), (.int (0 : Int32)), (.int (0 : Int32)), (.int (0 : Int32)), (.int (0 : Int32)), (.int (0 : Int32))] (.int (0 : Int32)) := Vs12
  obtain ⟨x15, hx15⟩ : ∃ z : Int32, z = (((p3.toUInt32 >>> ((3 : Int32) &&& 31).toUInt32).toInt32) &&& (7 : Int32)) := ⟨_, rfl⟩
  obtain ⟨T16, h16, X16, e16, W16, Vs16, st16⟩ := own_stI X12 hx hby hZ e12 V12 (j := (1 : Int32)) (v := x15) at_97 ⟨by decide, by decide⟩ 1 rfl (Nat.le_of_ble_eq_true rfl) #[iv p0, iv p1, iv p2, iv p3, iv (3 : Int32), iv x3, iv x4, iv x5, iv x6, iv x7, iv x8, iv x9, rv b10, .unset, .unset, .unset, .unset, .unset, .unset, .unset, .unset, .unset] [] 98 rfl
  have G16 := gd X16 hx hby
  have N16 := Fr.snoc X16 N12 g_b10
  have Z16 := Nat.le_trans Z12 (Keep.of_wr W16).1
  have V16 : Arv Z h16 b10 k10 .int (6 : Int32) [(.int x11), (.int x15), (.int (0 : Int32)), (.int (0 : Int32)), (.int (0 : Int32)), (.int (0 : Int32))] (.int (0 : Int32)) := Vs16
  obtain ⟨x19, hx19⟩ : ∃ z : Int32, z = (((p3.toUInt32 >>> ((6 : Int32) &&& 31).toUInt32).toInt32) &&& (7 : Int32)) := ⟨_, rfl⟩
  obtain ⟨T20, h20, X20, e20, W20, Vs20, st20⟩ := own_stI X16 hx hby hZ e16 V16 (j := (2 : Int32)) (v := x19) at_108 ⟨by decide, by decide⟩ 2 rfl (Nat.le_of_ble_eq_true rfl) #[iv p0, iv p1, iv p2, iv p3, iv (3 : Int32), iv x3, iv x4, iv x5, iv x6, iv x7, iv x8, iv x9, rv b10, .unset, .unset, .unset, .unset, .unset, .unset, .unset, .unset, .unset] [] 109 rfl
  have G20 := gd X20 hx hby
  have N20 := Fr.snoc X20 N16 g_b10
  have Z20 := Nat.le_trans Z16 (Keep.of_wr W20).1
  have V20 : Arv Z h20 b10 k10 .int (6 : Int32) [(.int x11), (.int x15), (.int x19), (.int (0 : Int32)), (.int (0 : Int32)), (.int (0 : Int32))] (.int (0 : Int32)) := Vs20
  obtain ⟨x23, hx23⟩ : ∃ z : Int32, z = (((p3.toUInt32 >>> ((9 : Int32) &&& 31).toUInt32).toInt32) &&& (7 : Int32)) := ⟨_, rfl⟩
  obtain ⟨T24, h24, X24, e24, W24, Vs24, st24⟩ := own_stI X20 hx hby hZ e20 V20 (j := (3 : Int32)) (v := x23) at_119 ⟨by decide, by decide⟩ 3 rfl (Nat.le_of_ble_eq_true rfl) #[iv p0, iv p1, iv p2, iv p3, iv (3 : Int32), iv x3, iv x4, iv x5, iv x6, iv x7, iv x8, iv x9, rv b10, .unset, .unset, .unset, .unset, .unset, .unset, .unset, .unset, .unset] [] 120 rfl
  have G24 := gd X24 hx hby
  have N24 := Fr.snoc X24 N20 g_b10
  have Z24 := Nat.le_trans Z20 (Keep.of_wr W24).1
  have V24 : Arv Z h24 b10 k10 .int (6 : Int32) [(.int x11), (.int x15), (.int x19), (.int x23), (.int (0 : Int32)), (.int (0 : Int32))] (.int (0 : Int32)) := Vs24
  obtain ⟨x27, hx27⟩ : ∃ z : Int32, z = (((p3.toUInt32 >>> ((12 : Int32) &&& 31).toUInt32).toInt32) &&& (7 : Int32)) := ⟨_, rfl⟩
  obtain ⟨T28, h28, X28, e28, W28, Vs28, st28⟩ := own_stI X24 hx hby hZ e24 V24 (j := (4 : Int32)) (v := x27) at_130 ⟨by decide, by decide⟩ 4 rfl (Nat.le_of_ble_eq_true rfl) #[iv p0, iv p1, iv p2, iv p3, iv (3 : Int32), iv x3, iv x4, iv x5, iv x6, iv x7, iv x8, iv x9, rv b10, .unset, .unset, .unset, .unset, .unset, .unset, .unset, .unset, .unset] [] 131 rfl
  have G28 := gd X28 hx hby
  have N28 := Fr.snoc X28 N24 g_b10
  have Z28 := Nat.le_trans Z24 (Keep.of_wr W28).1
  have V28 : Arv Z h28 b10 k10 .int (6 : Int32) [(.int x11), (.int x15), (.int x19), (.int x23), (.int x27), (.int (0 : Int32))] (.int (0 : Int32)) := Vs28
  obtain ⟨x31, hx31⟩ : ∃ z : Int32, z = (((p3.toUInt32 >>> ((15 : Int32) &&& 31).toUInt32).toInt32) &&& (7 : Int32)) := ⟨_, rfl⟩
  obtain ⟨T32, h32, X32, e32, W32, Vs32, st32⟩ := own_stI X28 hx hby hZ e28 V28 (j := (5 : Int32)) (v := x31) at_141 ⟨by decide, by decide⟩ 5 rfl (Nat.le_of_ble_eq_true rfl) #[iv p0, iv p1, iv p2, iv p3, iv (3 : Int32), iv x3, iv x4, iv x5, iv x6, iv x7, iv x8, iv x9, rv b10, .unset, .unset, .unset, .unset, .unset, .unset, .unset, .unset, .unset] [] 142 rfl
  have G32 := gd X32 hx hby
  have N32 := Fr.snoc X32 N28 g_b10
  have Z32 := Nat.le_trans Z28 (Keep.of_wr W32).1
  have V32 : Arv Z h32 b10 k10 .int (6 : Int32) [(.int x11), (.int x15), (.int x19), (.int x23), (.int x27), (.int x31)] (.int (0 : Int32)) := Vs32
  obtain ⟨T35, h35, k35, X35, e35, E35, A35, st35⟩ := newP X32 hx hZ (wd hw 1 rfl) e32 (g := (mkF m 144 #[iv p0, iv p1, iv p2, iv p3, iv (3 : Int32), iv x3, iv x4, iv x5, iv x6, iv x7, iv x8, iv x9, rv b10, .unset, .unset, .unset, .unset, .unset, .unset, .unset, .unset, .unset] [(.int (6 : Int32))])) rfl (hb hby at_144) rfl (by decide) (cap := 6) (by decide) (by decide) (by decide) (by decide)
  have G35 := gd X35 hx hby
  obtain ⟨b35, g35⟩ : ∃ z, z = h32.size := ⟨_, rfl⟩
  rw [← g35] at A35 st35
  have ne_b10_b35 : b10 ≠ b35 := Nat.ne_of_lt (Nat.lt_of_lt_of_le V32.lt (Nat.le_of_eq g35.symm))
  have g_b35 : n0 ≤ b35 := Nat.le_trans Z32 (Nat.le_of_eq g35.symm)
  have f36 := V32.ext E35
  have Z35 := Nat.le_trans Z32 E35.1
  have V_b35 : Arv Z h35 b35 k35 .double (6 : Int32) [(.double (0 : UInt64)), (.double (0 : UInt64)), (.double (0 : UInt64)), (.double (0 : UInt64)), (.double (0 : UInt64)), (.double (0 : UInt64))] (.double (0 : UInt64)) := (Arv.new A35 (by decide)).pad (pad_rep [] (.double (0 : UInt64)) 6)
  obtain ⟨x37, hx37⟩ : ∃ z : UInt64, z = (FP.i2d x11) := ⟨_, rfl⟩
  obtain ⟨T38, h38, X38, e38, W38, Vs38, st38⟩ := own_stD X35 hx hby hZ e35 V_b35 (j := (0 : Int32)) (v := x37) at_153 ⟨by decide, by decide⟩ 0 rfl (Nat.le_of_ble_eq_true rfl) #[iv p0, iv p1, iv p2, iv p3, iv (3 : Int32), iv x3, iv x4, iv x5, iv x6, iv x7, iv x8, iv x9, rv b10, .unset, .unset, .unset, .unset, .unset, .unset, .unset, .unset, .unset] [(.ref b35)] 154 rfl
  have G38 := gd X38 hx hby
  have N38 := Fr.snoc X38 N32 g_b35
  have f40 := f36.other W38 ne_b10_b35
  have Z38 := Nat.le_trans Z35 (Keep.of_wr W38).1
  have V38 : Arv Z h38 b35 k35 .double (6 : Int32) [(.double x37), (.double (0 : UInt64)), (.double (0 : UInt64)), (.double (0 : UInt64)), (.double (0 : UInt64)), (.double (0 : UInt64))] (.double (0 : UInt64)) := Vs38
  obtain ⟨x44, hx44⟩ : ∃ z : UInt64, z = (FP.i2d x15) := ⟨_, rfl⟩
  obtain ⟨T45, h45, X45, e45, W45, Vs45, st45⟩ := own_stD X38 hx hby hZ e38 V38 (j := (1 : Int32)) (v := x44) at_161 ⟨by decide, by decide⟩ 1 rfl (Nat.le_of_ble_eq_true rfl) #[iv p0, iv p1, iv p2, iv p3, iv (3 : Int32), iv x3, iv x4, iv x5, iv x6, iv x7, iv x8, iv x9, rv b10, .unset, .unset, .unset, .unset, .unset, .unset, .unset, .unset, .unset] [(.ref b35)] 162 rfl
  have G45 := gd X45 hx hby
  have N45 := Fr.snoc X45 N38 g_b35
  have f47 := f40.other W45 ne_b10_b35
  have Z45 := Nat.le_trans Z38 (Keep.of_wr W45).1
  have V45 : Arv Z h45 b35 k35 .double (6 : Int32) [(.double x37), (.double x44), (.double (0 : UInt64)), (.double (0 : UInt64)), (.double (0 : UInt64)), (.double (0 : UInt64))] (.double (0 : UInt64)) := Vs45
  obtain ⟨x51, hx51⟩ : ∃ z : UInt64, z = (FP.i2d x19) := ⟨_, rfl⟩
  obtain ⟨T52, h52, X52, e52, W52, Vs52, st52⟩ := own_stD X45 hx hby hZ e45 V45 (j := (2 : Int32)) (v := x51) at_169 ⟨by decide, by decide⟩ 2 rfl (Nat.le_of_ble_eq_true rfl) #[iv p0, iv p1, iv p2, iv p3, iv (3 : Int32), iv x3, iv x4, iv x5, iv x6, iv x7, iv x8, iv x9, rv b10, .unset, .unset, .unset, .unset, .unset, .unset, .unset, .unset, .unset] [(.ref b35)] 170 rfl
  have G52 := gd X52 hx hby
  have N52 := Fr.snoc X52 N45 g_b35
  have f54 := f47.other W52 ne_b10_b35
  have Z52 := Nat.le_trans Z45 (Keep.of_wr W52).1
  have V52 : Arv Z h52 b35 k35 .double (6 : Int32) [(.double x37), (.double x44), (.double x51), (.double (0 : UInt64)), (.double (0 : UInt64)), (.double (0 : UInt64))] (.double (0 : UInt64)) := Vs52
  obtain ⟨x58, hx58⟩ : ∃ z : UInt64, z = (FP.i2d x23) := ⟨_, rfl⟩
  obtain ⟨T59, h59, X59, e59, W59, Vs59, st59⟩ := own_stD X52 hx hby hZ e52 V52 (j := (3 : Int32)) (v := x58) at_177 ⟨by decide, by decide⟩ 3 rfl (Nat.le_of_ble_eq_true rfl) #[iv p0, iv p1, iv p2, iv p3, iv (3 : Int32), iv x3, iv x4, iv x5, iv x6, iv x7, iv x8, iv x9, rv b10, .unset, .unset, .unset, .unset, .unset, .unset, .unset, .unset, .unset] [(.ref b35)] 178 rfl
  have G59 := gd X59 hx hby
  have N59 := Fr.snoc X59 N52 g_b35
  have f61 := f54.other W59 ne_b10_b35
  have Z59 := Nat.le_trans Z52 (Keep.of_wr W59).1
  have V59 : Arv Z h59 b35 k35 .double (6 : Int32) [(.double x37), (.double x44), (.double x51), (.double x58), (.double (0 : UInt64)), (.double (0 : UInt64))] (.double (0 : UInt64)) := Vs59
  obtain ⟨x65, hx65⟩ : ∃ z : UInt64, z = (FP.i2d x27) := ⟨_, rfl⟩
  obtain ⟨T66, h66, X66, e66, W66, Vs66, st66⟩ := own_stD X59 hx hby hZ e59 V59 (j := (4 : Int32)) (v := x65) at_185 ⟨by decide, by decide⟩ 4 rfl (Nat.le_of_ble_eq_true rfl) #[iv p0, iv p1, iv p2, iv p3, iv (3 : Int32), iv x3, iv x4, iv x5, iv x6, iv x7, iv x8, iv x9, rv b10, .unset, .unset, .unset, .unset, .unset, .unset, .unset, .unset, .unset] [(.ref b35)] 186 rfl
  have G66 := gd X66 hx hby
  have N66 := Fr.snoc X66 N59 g_b35
  have f68 := f61.other W66 ne_b10_b35
  have Z66 := Nat.le_trans Z59 (Keep.of_wr W66).1
  have V66 : Arv Z h66 b35 k35 .double (6 : Int32) [(.double x37), (.double x44), (.double x51), (.double x58), (.double x65), (.double (0 : UInt64))] (.double (0 : UInt64)) := Vs66
  obtain ⟨x72, hx72⟩ : ∃ z : UInt64, z = (FP.i2d x31) := ⟨_, rfl⟩
  obtain ⟨T73, h73, X73, e73, W73, Vs73, st73⟩ := own_stD X66 hx hby hZ e66 V66 (j := (5 : Int32)) (v := x72) at_193 ⟨by decide, by decide⟩ 5 rfl (Nat.le_of_ble_eq_true rfl) #[iv p0, iv p1, iv p2, iv p3, iv (3 : Int32), iv x3, iv x4, iv x5, iv x6, iv x7, iv x8, iv x9, rv b10, .unset, .unset, .unset, .unset, .unset, .unset, .unset, .unset, .unset] [(.ref b35)] 194 rfl
  have G73 := gd X73 hx hby
  have N73 := Fr.snoc X73 N66 g_b35
  have f75 := f68.other W73 ne_b10_b35
  have Z73 := Nat.le_trans Z66 (Keep.of_wr W73).1
  have V73 : Arv Z h73 b35 k35 .double (6 : Int32) [(.double x37), (.double x44), (.double x51), (.double x58), (.double x65), (.double x72)] (.double (0 : UInt64)) := Vs73
  obtain ⟨T79, h79, k79, X79, e79, E79, A79, st79⟩ := newP X73 hx hZ (wd hw 0 rfl) e73 (g := (mkF m 247 #[iv p0, iv p1, iv p2, iv p3, iv (3 : Int32), iv x3, iv x4, iv x5, iv x6, iv x7, iv x8, iv x9, rv b10, rv b35, .unset, .unset, .unset, .unset, .unset, .unset, .unset, .unset] [(.int (3 : Int32))])) rfl (hb hby at_247) rfl (by decide) (cap := 3) (by decide) (by decide) (by decide) (by decide)
  have G79 := gd X79 hx hby
  obtain ⟨b79, g79⟩ : ∃ z, z = h73.size := ⟨_, rfl⟩
  rw [← g79] at A79 st79
  have ne_b10_b79 : b10 ≠ b79 := Nat.ne_of_lt (Nat.lt_of_lt_of_le f75.lt (Nat.le_of_eq g79.symm))
  have ne_b35_b79 : b35 ≠ b79 := Nat.ne_of_lt (Nat.lt_of_lt_of_le V73.lt (Nat.le_of_eq g79.symm))
  have g_b79 : n0 ≤ b79 := Nat.le_trans Z73 (Nat.le_of_eq g79.symm)
  have f80 := f75.ext E79
  have f81 := V73.ext E79
  have Z79 := Nat.le_trans Z73 E79.1
  have V_b79 : Arv Z h79 b79 k79 .int (3 : Int32) [(.int (0 : Int32)), (.int (0 : Int32)), (.int (0 : Int32))] (.int (0 : Int32)) := (Arv.new A79 (by decide)).pad (pad_rep [] (.int (0 : Int32)) 3)
  obtain ⟨T82, h82, X82, e82, W82, Vs82, st82⟩ := own_stI X79 hx hby hZ e79 V_b79 (j := (0 : Int32)) (v := x4) at_253 ⟨by decide, by decide⟩ 0 rfl (Nat.le_of_ble_eq_true rfl) #[iv p0, iv p1, iv p2, iv p3, iv (3 : Int32), iv x3, iv x4, iv x5, iv x6, iv x7, iv x8, iv x9, rv b10, rv b35, .unset, .unset, .unset, .unset, .unset, .unset, .unset, .unset] [(.ref b79)] 254 rfl
  have G82 := gd X82 hx hby
  have N82 := Fr.snoc X82 N73 g_b79
  have f84 := f80.other W82 ne_b10_b79
  have f87 := f81.other W82 ne_b35_b79
  have Z82 := Nat.le_trans Z79 (Keep.of_wr W82).1
  have V82 : Arv Z h82 b79 k79 .int (3 : Int32) [(.int x4), (.int (0 : Int32)), (.int (0 : Int32))] (.int (0 : Int32)) := Vs82
  obtain ⟨T92, h92, X92, e92, W92, Vs92, st92⟩ := own_stI X82 hx hby hZ e82 V82 (j := (1 : Int32)) (v := x5) at_258 ⟨by decide, by decide⟩ 1 rfl (Nat.le_of_ble_eq_true rfl) #[iv p0, iv p1, iv p2, iv p3, iv (3 : Int32), iv x3, iv x4, iv x5, iv x6, iv x7, iv x8, iv x9, rv b10, rv b35, .unset, .unset, .unset, .unset, .unset, .unset, .unset, .unset] [(.ref b79)] 259 rfl
  have G92 := gd X92 hx hby
  have N92 := Fr.snoc X92 N82 g_b79
  have f94 := f84.other W92 ne_b10_b79
  have f97 := f87.other W92 ne_b35_b79
  have Z92 := Nat.le_trans Z82 (Keep.of_wr W92).1
  have V92 : Arv Z h92 b79 k79 .int (3 : Int32) [(.int x4), (.int x5), (.int (0 : Int32))] (.int (0 : Int32)) := Vs92
  obtain ⟨T102, h102, X102, e102, W102, Vs102, st102⟩ := own_stI X92 hx hby hZ e92 V92 (j := (2 : Int32)) (v := x6) at_263 ⟨by decide, by decide⟩ 2 rfl (Nat.le_of_ble_eq_true rfl) #[iv p0, iv p1, iv p2, iv p3, iv (3 : Int32), iv x3, iv x4, iv x5, iv x6, iv x7, iv x8, iv x9, rv b10, rv b35, .unset, .unset, .unset, .unset, .unset, .unset, .unset, .unset] [(.ref b79)] 264 rfl
  have G102 := gd X102 hx hby
  have N102 := Fr.snoc X102 N92 g_b79
  have f104 := f94.other W102 ne_b10_b79
  have f107 := f97.other W102 ne_b35_b79
  have Z102 := Nat.le_trans Z92 (Keep.of_wr W102).1
  have V102 : Arv Z h102 b79 k79 .int (3 : Int32) [(.int x4), (.int x5), (.int x6)] (.int (0 : Int32)) := Vs102
  obtain ⟨T112, h112, k112, X112, e112, E112, A112, st112⟩ := newP X102 hx hZ (wd hw 0 rfl) e102 (g := (mkF m 317 #[iv p0, iv p1, iv p2, iv p3, iv (3 : Int32), iv x3, iv x4, iv x5, iv x6, iv x7, iv x8, iv x9, rv b10, rv b35, rv b79, .unset, .unset, .unset, .unset, .unset, .unset, .unset] [(.int (3 : Int32))])) rfl (hb hby at_317) rfl (by decide) (cap := 3) (by decide) (by decide) (by decide) (by decide)
  have G112 := gd X112 hx hby
  obtain ⟨b112, g112⟩ : ∃ z, z = h102.size := ⟨_, rfl⟩
  rw [← g112] at A112 st112
  have ne_b10_b112 : b10 ≠ b112 := Nat.ne_of_lt (Nat.lt_of_lt_of_le f104.lt (Nat.le_of_eq g112.symm))
  have ne_b35_b112 : b35 ≠ b112 := Nat.ne_of_lt (Nat.lt_of_lt_of_le f107.lt (Nat.le_of_eq g112.symm))
  have ne_b79_b112 : b79 ≠ b112 := Nat.ne_of_lt (Nat.lt_of_lt_of_le V102.lt (Nat.le_of_eq g112.symm))
  have g_b112 : n0 ≤ b112 := Nat.le_trans Z102 (Nat.le_of_eq g112.symm)
  have f113 := f104.ext E112
  have f114 := f107.ext E112
  have f115 := V102.ext E112
  have Z112 := Nat.le_trans Z102 E112.1
  have V_b112 : Arv Z h112 b112 k112 .int (3 : Int32) [(.int (0 : Int32)), (.int (0 : Int32)), (.int (0 : Int32))] (.int (0 : Int32)) := (Arv.new A112 (by decide)).pad (pad_rep [] (.int (0 : Int32)) 3)
  obtain ⟨T116, h116, X116, e116, W116, Vs116, st116⟩ := own_stI X112 hx hby hZ e112 V_b112 (j := (0 : Int32)) (v := x7) at_323 ⟨by decide, by decide⟩ 0 rfl (Nat.le_of_ble_eq_true rfl) #[iv p0, iv p1, iv p2, iv p3, iv (3 : Int32), iv x3, iv x4, iv x5, iv x6, iv x7, iv x8, iv x9, rv b10, rv b35, rv b79, .unset, .unset, .unset, .unset, .unset, .unset, .unset] [(.ref b112)] 324 rfl
  have G116 := gd X116 hx hby
  have N116 := Fr.snoc X116 N102 g_b112
  have f118 := f113.other W116 ne_b10_b112
  have f121 := f114.other W116 ne_b35_b112
  have f125 := f115.other W116 ne_b79_b112
  have Z116 := Nat.le_trans Z112 (Keep.of_wr W116).1
  have V116 : Arv Z h116 b112 k112 .int (3 : Int32) [(.int x7), (.int (0 : Int32)), (.int (0 : Int32))] (.int (0 : Int32)) := Vs116
  obtain ⟨T131, h131, X131, e131, W131, Vs131, st131⟩ := own_stI X116 hx hby hZ e116 V116 (j := (1 : Int32)) (v := x8) at_328 ⟨by decide, by decide⟩ 1 rfl (Nat.le_of_ble_eq_true rfl) #[iv p0, iv p1, iv p2, iv p3, iv (3 : Int32), iv x3, iv x4, iv x5, iv x6, iv x7, iv x8, iv x9, rv b10, rv b35, rv b79, .unset, .unset, .unset, .unset, .unset, .unset, .unset] [(.ref b112)] 329 rfl
  have G131 := gd X131 hx hby
  have N131 := Fr.snoc X131 N116 g_b112
  have f133 := f118.other W131 ne_b10_b112
  have f136 := f121.other W131 ne_b35_b112
  have f140 := f125.other W131 ne_b79_b112
  have Z131 := Nat.le_trans Z116 (Keep.of_wr W131).1
  have V131 : Arv Z h131 b112 k112 .int (3 : Int32) [(.int x7), (.int x8), (.int (0 : Int32))] (.int (0 : Int32)) := Vs131
  obtain ⟨T146, h146, X146, e146, W146, Vs146, st146⟩ := own_stI X131 hx hby hZ e131 V131 (j := (2 : Int32)) (v := x9) at_333 ⟨by decide, by decide⟩ 2 rfl (Nat.le_of_ble_eq_true rfl) #[iv p0, iv p1, iv p2, iv p3, iv (3 : Int32), iv x3, iv x4, iv x5, iv x6, iv x7, iv x8, iv x9, rv b10, rv b35, rv b79, .unset, .unset, .unset, .unset, .unset, .unset, .unset] [(.ref b112)] 334 rfl
  have G146 := gd X146 hx hby
  have N146 := Fr.snoc X146 N131 g_b112
  have f148 := f133.other W146 ne_b10_b112
  have f151 := f136.other W146 ne_b35_b112
  have f155 := f140.other W146 ne_b79_b112
  have Z146 := Nat.le_trans Z131 (Keep.of_wr W146).1
  have V146 : Arv Z h146 b112 k112 .int (3 : Int32) [(.int x7), (.int x8), (.int x9)] (.int (0 : Int32)) := Vs146
  obtain ⟨T161, h161, X161, e161, E161, A161, D161, -, st161⟩ := newO X146 hx hZ hown (wd hw 2 rfl) (wd hw 3 rfl) (wd hw 4 rfl) e146 (g := (mkF m 336 #[iv p0, iv p1, iv p2, iv p3, iv (3 : Int32), iv x3, iv x4, iv x5, iv x6, iv x7, iv x8, iv x9, rv b10, rv b35, rv b79, rv b112, .unset, .unset, .unset, .unset, .unset, .unset] [])) rfl (hb hby at_336) (by decide) (by decide)
  have G161 := gd X161 hx hby
  obtain ⟨b161, g161⟩ : ∃ z, z = h146.size := ⟨_, rfl⟩
  rw [← g161] at A161 D161 st161
  have ne_b10_b161 : b10 ≠ b161 := Nat.ne_of_lt (Nat.lt_of_lt_of_le f148.lt (Nat.le_of_eq g161.symm))
  have ne_b35_b161 : b35 ≠ b161 := Nat.ne_of_lt (Nat.lt_of_lt_of_le f151.lt (Nat.le_of_eq g161.symm))
  have ne_b79_b161 : b79 ≠ b161 := Nat.ne_of_lt (Nat.lt_of_lt_of_le f155.lt (Nat.le_of_eq g161.symm))
  have ne_b112_b161 : b112 ≠ b161 := Nat.ne_of_lt (Nat.lt_of_lt_of_le V146.lt (Nat.le_of_eq g161.symm))
  have g_b161 : n0 ≤ b161 := Nat.le_trans Z146 (Nat.le_of_eq g161.symm)
  have f162 := f148.ext E161
  have f163 := f151.ext E161
  have f164 := f155.ext E161
  have f165 := V146.ext E161
  have Z161 := Nat.le_trans Z146 E161.1
  have F_states_b161 : Fld Z h161 b161 "com/example/oceanus/oceanus/analysis/Taken" "states" "[I" .null := D161 (Or.inr (wd hw 17 rfl)) (ty := (.array .int)) (by decide)
  have F_agents_b161 : Fld Z h161 b161 "com/example/oceanus/oceanus/analysis/Taken" "agents" "[I" .null := D161 (Or.inr (wd hw 19 rfl)) (ty := (.array .int)) (by decide)
  obtain ⟨_, _, ⟨T166, L166, k166, n166⟩, -, X166, ⟨Lc166, hQ166, l166, y166, z166⟩, st166⟩ := X161.specialBack hx (y := (⟨"com/example/oceanus/oceanus/analysis/Taken", "<init>", "([I[I)V"⟩ : MethodName)) rfl hown (mvT hZ (wd hw 5 rfl)) (mvT hZ (wd hw 6 rfl)) (mvT hZ (wd hw 7 rfl)) (by decide) (backOf (W := 1) (rm1 l Z a0 hw [] b161 b79 b112 h161 n0 Z161 A161 g_b161 F_states_b161 F_agents_b161) hZ (wd hw 7 rfl) (wd hw 4 rfl) (by decide) (by decide)) (g := (mkF m 344 #[iv p0, iv p1, iv p2, iv p3, iv (3 : Int32), iv x3, iv x4, iv x5, iv x6, iv x7, iv x8, iv x9, rv b10, rv b35, rv b79, rv b112, .unset, .unset, .unset, .unset, .unset, .unset] [(.ref b112), (.ref b79), (.ref b161), (.ref b161)])) rfl (by rw [hml]; rfl) (Steps.refl _) (a := b161) (argsL := [(.ref b79), (.ref b112)]) (rest := [(.ref b161)]) (lenOf pd_1 rfl) rfl (by show 2 * 0 + _ ≤ _; exact Nat.le_of_eq rfl) (hb hby at_344) (fun _ _ => ⟨rfl, e161, (by decide : 5 + 0 ≤ _), (by decide : 20 + 0 ≤ _)⟩)
  dsimp only [Pt.U, Pt.locs, Pt.cells, Pt.slots] at X166 l166 y166 z166 st166 hQ166
  replace l166 : ((((((((((((((((((([] ++ [⟨b10, ((0 : Int32)).toNatClampNeg⟩]) ++ [⟨b10, ((1 : Int32)).toNatClampNeg⟩]) ++ [⟨b10, ((2 : Int32)).toNatClampNeg⟩]) ++ [⟨b10, ((3 : Int32)).toNatClampNeg⟩]) ++ [⟨b10, ((4 : Int32)).toNatClampNeg⟩]) ++ [⟨b10, ((5 : Int32)).toNatClampNeg⟩]) ++ [⟨b35, ((0 : Int32)).toNatClampNeg⟩]) ++ [⟨b35, ((1 : Int32)).toNatClampNeg⟩]) ++ [⟨b35, ((2 : Int32)).toNatClampNeg⟩]) ++ [⟨b35, ((3 : Int32)).toNatClampNeg⟩]) ++ [⟨b35, ((4 : Int32)).toNatClampNeg⟩]) ++ [⟨b35, ((5 : Int32)).toNatClampNeg⟩]) ++ [⟨b79, ((0 : Int32)).toNatClampNeg⟩]) ++ [⟨b79, ((1 : Int32)).toNatClampNeg⟩]) ++ [⟨b79, ((2 : Int32)).toNatClampNeg⟩]) ++ [⟨b112, ((0 : Int32)).toNatClampNeg⟩]) ++ [⟨b112, ((1 : Int32)).toNatClampNeg⟩]) ++ [⟨b112, ((2 : Int32)).toNatClampNeg⟩]) ++ Lc166) = L166 := l166.symm
  subst l166 y166 z166
  obtain ⟨rfl, Nq166, K166, Eq166, Fq166_0, Fq166_1⟩ := hQ166
  have N166 := Fr.app N146 Nq166
  have f168 := f162.keep K166 (ninS ne_b10_b161 nin0)
  have f171 := f163.keep K166 (ninS ne_b35_b161 nin0)
  have f175 := f164.keep K166 (ninS ne_b79_b161 nin0)
  have f180 := f165.keep K166 (ninS ne_b112_b161 nin0)
  have f188 := A161.keep K166
  have Z166k := Nat.le_trans Z161 K166.1
  have G166 := gd X166 hx hby
  obtain ⟨cq189, kq189, q189a, q189b, q189c⟩ := isOf hZ rfl Eq166
  obtain ⟨_, _, ⟨T189, L189, k189, n189⟩, -, X189, ⟨Lc189, hQ189, l189, y189, z189⟩, st189⟩ := X166.virtualBack hx (y := (⟨"com/example/oceanus/oceanus/analysis/Taken", "unmade", "([DZ)I"⟩ : MethodName)) (z := (⟨"com/example/oceanus/oceanus/analysis/Taken", "unmade", "([DZ)I"⟩ : MethodName)) hown (mvT hZ (wd hw 20 rfl)) (mvT hZ (wd hw 21 rfl)) (notFace_of_selects (args := #[]) (mvT hZ (wd hw 23 rfl))) (mvT hZ (wd hw 23 rfl)) (mvT hZ (wd hw 22 rfl)) (by decide) (backOf (W := 0) (rm4_3 l Z a0 hw [] b161 b35 x3 T166.heap n0 Z166k Fq166_0 Fq166_1 f175 f180 f171 (own_rm0_3_hp_hin18_355 p0 p1 p2 p3 x3 hx3 x4 hx4 x5 hx5 x6 hx6 x7 hx7 x8 hx8 x9 hx9 x11 hx11 x15 hx15 x19 hx19 x23 hx23 x27 hx27 x31 hx31 x37 hx37 x44 hx44 x51 hx51 x58 hx58 x65 hx65 x72 hx72 hpin3) (own_rm0_3_hp_hin18_355_1 p0 p1 p2 p3 x3 hx3 x4 hx4 x5 hx5 x6 hx6 x7 hx7 x8 hx8 x9 hx9 x11 hx11 x15 hx15 x19 hx19 x23 hx23 x27 hx27 x31 hx31 x37 hx37 x44 hx44 x51 hx51 x58 hx58 x65 hx65 x72 hx72 hpin3) (own_rm0_3_hp_hin18_355_2 p0 p1 p2 p3 x3 hx3 x4 hx4 x5 hx5 x6 hx6 x7 hx7 x8 hx8 x9 hx9 x11 hx11 x15 hx15 x19 hx19 x23 hx23 x27 hx27 x31 hx31 x37 hx37 x44 hx44 x51 hx51 x58 hx58 x65 hx65 x72 hx72 hpin3) (own_rm0_3_hp_hin18_355_3 p0 p1 p2 p3 x3 hx3 x4 hx4 x5 hx5 x6 hx6 x7 hx7 x8 hx8 x9 hx9 x11 hx11 x15 hx15 x19 hx19 x23 hx23 x27 hx27 x31 hx31 x37 hx37 x44 hx44 x51 hx51 x58 hx58 x65 hx65 x72 hx72 hpin3) (own_rm0_3_hp_hin18_355_4 p0 p1 p2 p3 x3 hx3 x4 hx4 x5 hx5 x6 hx6 x7 hx7 x8 hx8 x9 hx9 x11 hx11 x15 hx15 x19 hx19 x23 hx23 x27 hx27 x31 hx31 x37 hx37 x44 hx44 x51 hx51 x58 hx58 x65 hx65 x72 hx72 hpin3)) hZ (wd hw 24 rfl) (wd hw 4 rfl) (by decide) (by decide)) q189a q189c (g := (mkF m 355 #[iv p0, iv p1, iv p2, iv p3, iv (3 : Int32), iv x3, iv x4, iv x5, iv x6, iv x7, iv x8, iv x9, rv b10, rv b35, rv b79, rv b112, rv b161, .unset, .unset, .unset, .unset, .unset] [(.int x3), (.ref b35), (.ref b161)])) rfl (by rw [hml]; rfl) (Steps.refl _) (argsL := [(.ref b35), (.int x3)]) (rest := []) (lenOf pd_2 rfl) rfl (by show 2 * 0 + _ ≤ _; exact Nat.le_of_eq rfl) (hb hby at_355) (fun _ _ => ⟨rfl, rfl, (by decide : 5 + 0 ≤ _), (by decide : 20 + 0 ≤ _)⟩)
  dsimp only [Pt.U, Pt.locs, Pt.cells, Pt.slots] at X189 l189 y189 z189 st189 hQ189
  replace l189 : (((((((((((((((((((([] ++ [⟨b10, ((0 : Int32)).toNatClampNeg⟩]) ++ [⟨b10, ((1 : Int32)).toNatClampNeg⟩]) ++ [⟨b10, ((2 : Int32)).toNatClampNeg⟩]) ++ [⟨b10, ((3 : Int32)).toNatClampNeg⟩]) ++ [⟨b10, ((4 : Int32)).toNatClampNeg⟩]) ++ [⟨b10, ((5 : Int32)).toNatClampNeg⟩]) ++ [⟨b35, ((0 : Int32)).toNatClampNeg⟩]) ++ [⟨b35, ((1 : Int32)).toNatClampNeg⟩]) ++ [⟨b35, ((2 : Int32)).toNatClampNeg⟩]) ++ [⟨b35, ((3 : Int32)).toNatClampNeg⟩]) ++ [⟨b35, ((4 : Int32)).toNatClampNeg⟩]) ++ [⟨b35, ((5 : Int32)).toNatClampNeg⟩]) ++ [⟨b79, ((0 : Int32)).toNatClampNeg⟩]) ++ [⟨b79, ((1 : Int32)).toNatClampNeg⟩]) ++ [⟨b79, ((2 : Int32)).toNatClampNeg⟩]) ++ [⟨b112, ((0 : Int32)).toNatClampNeg⟩]) ++ [⟨b112, ((1 : Int32)).toNatClampNeg⟩]) ++ [⟨b112, ((2 : Int32)).toNatClampNeg⟩]) ++ Lc166) ++ Lc189) = L189 := l189.symm
  subst l189 y189 z189
  obtain ⟨rfl, rfl, e189⟩ := hQ189
  simp only [List.append_nil, Nat.add_zero] at X189
  have G189 := gd X189 hx hby
  obtain ⟨x190, hx190⟩ : ∃ z : Int32, z = (rv4_3 x3 x4 x5 x6 x7 x8 x9 x37 x44 x51 x58 x65 x72) := ⟨_, rfl⟩
  obtain ⟨_, _, ⟨T191, L191, k191, n191⟩, -, X191, ⟨Lc191, hQ191, l191, y191, z191⟩, st191⟩ := Jvm.LawKit.callS X189 hx (y := (⟨"com/example/oceanus/oceanus/analysis/TakenUnmadePinLaw", "lacks", "(IIZ)Z"⟩ : MethodName)) hown (mvT hZ (wd hw 25 rfl)) (mvT hZ (wd hw 26 rfl)) (mvT hZ (wd hw 27 rfl)) (mvT hZ (wd hw 28 rfl)) (by decide) (backOf (W := 0) (rm5 l Z a0 hw [] ((([x11, x15, x19, x23, x27, x31] : List Int32).getD x4.toNatClampNeg (0 : Int32))) x7 x3 T166.heap n0 Z166k ) hZ (wd hw 28 rfl) (wd hw 27 rfl) (by decide) (by decide)) (g := (mkF m 369 #[iv p0, iv p1, iv p2, iv p3, iv (3 : Int32), iv x3, iv x4, iv x5, iv x6, iv x7, iv x8, iv x9, rv b10, rv b35, rv b79, rv b112, rv b161, iv x190, .unset, .unset, .unset, .unset] [(.int x3), (.int x7), (.int (([x11, x15, x19, x23, x27, x31] : List Int32).getD x4.toNatClampNeg (0 : Int32)))])) rfl (by rw [hml]; rfl) (argsL := [(.int (([x11, x15, x19, x23, x27, x31] : List Int32).getD x4.toNatClampNeg (0 : Int32))), (.int x7), (.int x3)]) (rest := []) (lenOf pd_3 rfl) rfl (by show 2 * 0 + _ ≤ _; exact Nat.le_of_eq rfl) (hb hby at_369) (fun _ _ => ⟨rfl, e189, (by decide : 5 + 0 ≤ _), (by decide : 20 + 0 ≤ _)⟩)
  dsimp only [Pt.U, Pt.locs, Pt.cells, Pt.slots] at X191 l191 y191 z191 st191 hQ191
  replace l191 : (((((((((((((((((((([] ++ [⟨b10, ((0 : Int32)).toNatClampNeg⟩]) ++ [⟨b10, ((1 : Int32)).toNatClampNeg⟩]) ++ [⟨b10, ((2 : Int32)).toNatClampNeg⟩]) ++ [⟨b10, ((3 : Int32)).toNatClampNeg⟩]) ++ [⟨b10, ((4 : Int32)).toNatClampNeg⟩]) ++ [⟨b10, ((5 : Int32)).toNatClampNeg⟩]) ++ [⟨b35, ((0 : Int32)).toNatClampNeg⟩]) ++ [⟨b35, ((1 : Int32)).toNatClampNeg⟩]) ++ [⟨b35, ((2 : Int32)).toNatClampNeg⟩]) ++ [⟨b35, ((3 : Int32)).toNatClampNeg⟩]) ++ [⟨b35, ((4 : Int32)).toNatClampNeg⟩]) ++ [⟨b35, ((5 : Int32)).toNatClampNeg⟩]) ++ [⟨b79, ((0 : Int32)).toNatClampNeg⟩]) ++ [⟨b79, ((1 : Int32)).toNatClampNeg⟩]) ++ [⟨b79, ((2 : Int32)).toNatClampNeg⟩]) ++ [⟨b112, ((0 : Int32)).toNatClampNeg⟩]) ++ [⟨b112, ((1 : Int32)).toNatClampNeg⟩]) ++ [⟨b112, ((2 : Int32)).toNatClampNeg⟩]) ++ Lc166) ++ Lc191) = L191 := l191.symm
  subst l191 y191 z191
  obtain ⟨rfl, rfl, e191⟩ := hQ191
  simp only [List.append_nil, Nat.add_zero] at X191
  have G191 := gd X191 hx hby
  obtain ⟨x192, hx192⟩ : ∃ z : Int32, z = (rv5 (([x11, x15, x19, x23, x27, x31] : List Int32).getD x4.toNatClampNeg (0 : Int32)) x7 x3) := ⟨_, rfl⟩
  obtain ⟨_, _, ⟨T193, L193, k193, n193⟩, -, X193, ⟨Lc193, hQ193, l193, y193, z193⟩, st193⟩ := Jvm.LawKit.callS X191 hx (y := (⟨"com/example/oceanus/oceanus/analysis/TakenUnmadePinLaw", "lacks", "(IIZ)Z"⟩ : MethodName)) hown (mvT hZ (wd hw 25 rfl)) (mvT hZ (wd hw 26 rfl)) (mvT hZ (wd hw 27 rfl)) (mvT hZ (wd hw 28 rfl)) (by decide) (backOf (W := 0) (rm5 l Z a0 hw [] ((([x11, x15, x19, x23, x27, x31] : List Int32).getD x5.toNatClampNeg (0 : Int32))) x8 x3 T166.heap n0 Z166k ) hZ (wd hw 28 rfl) (wd hw 27 rfl) (by decide) (by decide)) (g := (mkF m 383 #[iv p0, iv p1, iv p2, iv p3, iv (3 : Int32), iv x3, iv x4, iv x5, iv x6, iv x7, iv x8, iv x9, rv b10, rv b35, rv b79, rv b112, rv b161, iv x190, iv x192, .unset, .unset, .unset] [(.int x3), (.int x8), (.int (([x11, x15, x19, x23, x27, x31] : List Int32).getD x5.toNatClampNeg (0 : Int32)))])) rfl (by rw [hml]; rfl) (argsL := [(.int (([x11, x15, x19, x23, x27, x31] : List Int32).getD x5.toNatClampNeg (0 : Int32))), (.int x8), (.int x3)]) (rest := []) (lenOf pd_3 rfl) rfl (by show 2 * 0 + _ ≤ _; exact Nat.le_of_eq rfl) (hb hby at_383) (fun _ _ => ⟨rfl, e191, (by decide : 5 + 0 ≤ _), (by decide : 20 + 0 ≤ _)⟩)
  dsimp only [Pt.U, Pt.locs, Pt.cells, Pt.slots] at X193 l193 y193 z193 st193 hQ193
  replace l193 : (((((((((((((((((((([] ++ [⟨b10, ((0 : Int32)).toNatClampNeg⟩]) ++ [⟨b10, ((1 : Int32)).toNatClampNeg⟩]) ++ [⟨b10, ((2 : Int32)).toNatClampNeg⟩]) ++ [⟨b10, ((3 : Int32)).toNatClampNeg⟩]) ++ [⟨b10, ((4 : Int32)).toNatClampNeg⟩]) ++ [⟨b10, ((5 : Int32)).toNatClampNeg⟩]) ++ [⟨b35, ((0 : Int32)).toNatClampNeg⟩]) ++ [⟨b35, ((1 : Int32)).toNatClampNeg⟩]) ++ [⟨b35, ((2 : Int32)).toNatClampNeg⟩]) ++ [⟨b35, ((3 : Int32)).toNatClampNeg⟩]) ++ [⟨b35, ((4 : Int32)).toNatClampNeg⟩]) ++ [⟨b35, ((5 : Int32)).toNatClampNeg⟩]) ++ [⟨b79, ((0 : Int32)).toNatClampNeg⟩]) ++ [⟨b79, ((1 : Int32)).toNatClampNeg⟩]) ++ [⟨b79, ((2 : Int32)).toNatClampNeg⟩]) ++ [⟨b112, ((0 : Int32)).toNatClampNeg⟩]) ++ [⟨b112, ((1 : Int32)).toNatClampNeg⟩]) ++ [⟨b112, ((2 : Int32)).toNatClampNeg⟩]) ++ Lc166) ++ Lc193) = L193 := l193.symm
  subst l193 y193 z193
  obtain ⟨rfl, rfl, e193⟩ := hQ193
  simp only [List.append_nil, Nat.add_zero] at X193
  have G193 := gd X193 hx hby
  obtain ⟨x194, hx194⟩ : ∃ z : Int32, z = (rv5 (([x11, x15, x19, x23, x27, x31] : List Int32).getD x5.toNatClampNeg (0 : Int32)) x8 x3) := ⟨_, rfl⟩
  obtain ⟨_, _, ⟨T195, L195, k195, n195⟩, -, X195, ⟨Lc195, hQ195, l195, y195, z195⟩, st195⟩ := Jvm.LawKit.callS X193 hx (y := (⟨"com/example/oceanus/oceanus/analysis/TakenUnmadePinLaw", "lacks", "(IIZ)Z"⟩ : MethodName)) hown (mvT hZ (wd hw 25 rfl)) (mvT hZ (wd hw 26 rfl)) (mvT hZ (wd hw 27 rfl)) (mvT hZ (wd hw 28 rfl)) (by decide) (backOf (W := 0) (rm5 l Z a0 hw [] ((([x11, x15, x19, x23, x27, x31] : List Int32).getD x6.toNatClampNeg (0 : Int32))) x9 x3 T166.heap n0 Z166k ) hZ (wd hw 28 rfl) (wd hw 27 rfl) (by decide) (by decide)) (g := (mkF m 397 #[iv p0, iv p1, iv p2, iv p3, iv (3 : Int32), iv x3, iv x4, iv x5, iv x6, iv x7, iv x8, iv x9, rv b10, rv b35, rv b79, rv b112, rv b161, iv x190, iv x192, iv x194, .unset, .unset] [(.int x3), (.int x9), (.int (([x11, x15, x19, x23, x27, x31] : List Int32).getD x6.toNatClampNeg (0 : Int32)))])) rfl (by rw [hml]; rfl) (argsL := [(.int (([x11, x15, x19, x23, x27, x31] : List Int32).getD x6.toNatClampNeg (0 : Int32))), (.int x9), (.int x3)]) (rest := []) (lenOf pd_3 rfl) rfl (by show 2 * 0 + _ ≤ _; exact Nat.le_of_eq rfl) (hb hby at_397) (fun _ _ => ⟨rfl, e193, (by decide : 5 + 0 ≤ _), (by decide : 20 + 0 ≤ _)⟩)
  dsimp only [Pt.U, Pt.locs, Pt.cells, Pt.slots] at X195 l195 y195 z195 st195 hQ195
  replace l195 : (((((((((((((((((((([] ++ [⟨b10, ((0 : Int32)).toNatClampNeg⟩]) ++ [⟨b10, ((1 : Int32)).toNatClampNeg⟩]) ++ [⟨b10, ((2 : Int32)).toNatClampNeg⟩]) ++ [⟨b10, ((3 : Int32)).toNatClampNeg⟩]) ++ [⟨b10, ((4 : Int32)).toNatClampNeg⟩]) ++ [⟨b10, ((5 : Int32)).toNatClampNeg⟩]) ++ [⟨b35, ((0 : Int32)).toNatClampNeg⟩]) ++ [⟨b35, ((1 : Int32)).toNatClampNeg⟩]) ++ [⟨b35, ((2 : Int32)).toNatClampNeg⟩]) ++ [⟨b35, ((3 : Int32)).toNatClampNeg⟩]) ++ [⟨b35, ((4 : Int32)).toNatClampNeg⟩]) ++ [⟨b35, ((5 : Int32)).toNatClampNeg⟩]) ++ [⟨b79, ((0 : Int32)).toNatClampNeg⟩]) ++ [⟨b79, ((1 : Int32)).toNatClampNeg⟩]) ++ [⟨b79, ((2 : Int32)).toNatClampNeg⟩]) ++ [⟨b112, ((0 : Int32)).toNatClampNeg⟩]) ++ [⟨b112, ((1 : Int32)).toNatClampNeg⟩]) ++ [⟨b112, ((2 : Int32)).toNatClampNeg⟩]) ++ Lc166) ++ Lc195) = L195 := l195.symm
  subst l195 y195 z195
  obtain ⟨rfl, rfl, e195⟩ := hQ195
  simp only [List.append_nil, Nat.add_zero] at X195
  have G195 := gd X195 hx hby
  obtain ⟨x196, hx196⟩ : ∃ z : Int32, z = (rv5 (([x11, x15, x19, x23, x27, x31] : List Int32).getD x6.toNatClampNeg (0 : Int32)) x9 x3) := ⟨_, rfl⟩
  obtain ⟨x199, hx199⟩ : ∃ z : Int32, z = (if x192 = (0 : Int32) then (if x194 = (0 : Int32) then (if x196 = (0 : Int32) then (-1 : Int32) else (2 : Int32)) else (1 : Int32)) else (0 : Int32)) := ⟨_, rfl⟩
  obtain ⟨T198, X198, e198, st198⟩ : ∃ T' : State, Stand p l e room_1 s m #[(.int p0), (.int p1), (.int p2), (.int p3)] below meth c T' ((((((((((((((((((([] ++ [⟨b10, ((0 : Int32)).toNatClampNeg⟩]) ++ [⟨b10, ((1 : Int32)).toNatClampNeg⟩]) ++ [⟨b10, ((2 : Int32)).toNatClampNeg⟩]) ++ [⟨b10, ((3 : Int32)).toNatClampNeg⟩]) ++ [⟨b10, ((4 : Int32)).toNatClampNeg⟩]) ++ [⟨b10, ((5 : Int32)).toNatClampNeg⟩]) ++ [⟨b35, ((0 : Int32)).toNatClampNeg⟩]) ++ [⟨b35, ((1 : Int32)).toNatClampNeg⟩]) ++ [⟨b35, ((2 : Int32)).toNatClampNeg⟩]) ++ [⟨b35, ((3 : Int32)).toNatClampNeg⟩]) ++ [⟨b35, ((4 : Int32)).toNatClampNeg⟩]) ++ [⟨b35, ((5 : Int32)).toNatClampNeg⟩]) ++ [⟨b79, ((0 : Int32)).toNatClampNeg⟩]) ++ [⟨b79, ((1 : Int32)).toNatClampNeg⟩]) ++ [⟨b79, ((2 : Int32)).toNatClampNeg⟩]) ++ [⟨b112, ((0 : Int32)).toNatClampNeg⟩]) ++ [⟨b112, ((1 : Int32)).toNatClampNeg⟩]) ++ [⟨b112, ((2 : Int32)).toNatClampNeg⟩]) ++ Lc166) 5 20 ∧ T'.heap = T166.heap ∧ ∀ target, Steps p.tables e below (T'.setTop (mkF m 447 #[iv p0, iv p1, iv p2, iv p3, iv (3 : Int32), iv x3, iv x4, iv x5, iv x6, iv x7, iv x8, iv x9, rv b10, rv b35, rv b79, rv b112, rv b161, iv x190, iv x192, iv x194, iv x196, .unset] [(.int x199)])) target → Steps p.tables e below (T195.setTop (mkF m 409 #[iv p0, iv p1, iv p2, iv p3, iv (3 : Int32), iv x3, iv x4, iv x5, iv x6, iv x7, iv x8, iv x9, rv b10, rv b35, rv b79, rv b112, rv b161, iv x190, iv x192, iv x194, iv x196, .unset] [(.int x192)])) target := by
    by_cases hc409_197 : x192 = (0 : Int32)
    · by_cases hc424_200 : x194 = (0 : Int32)
      · by_cases hc439_201 : x196 = (0 : Int32)
        · refine ⟨T195, X195, e195, fun target kt => ?_⟩
          refine mifYes 416 G195 at_409 ((if0 _ _).trans (teq hc409_197).1) (by decide) rfl ?_
          refine miload 418 G195 at_416 rfl rfl ?_
          refine miconst 419 G195 at_418 (v := (1 : Int32)) rfl rfl ?_
          refine micmpNo 422 G195 at_419 (tlt (by decide : (1 : Int32) < (3 : Int32))).2.2.2 rfl ?_
          refine miload 424 G195 at_422 rfl rfl ?_
          refine mifYes 431 G195 at_424 ((if0 _ _).trans (teq hc424_200).1) (by decide) rfl ?_
          refine miload 433 G195 at_431 rfl rfl ?_
          refine miconst 434 G195 at_433 (v := (2 : Int32)) rfl rfl ?_
          refine micmpNo 437 G195 at_434 (tlt (by decide : (2 : Int32) < (3 : Int32))).2.2.2 rfl ?_
          refine miload 439 G195 at_437 rfl rfl ?_
          refine mifYes 446 G195 at_439 ((if0 _ _).trans (teq hc439_201).1) (by decide) rfl ?_
          refine miconst 447 G195 at_446 (v := (-1 : Int32)) rfl rfl ?_
          exact castTop (g' := (mkF m 447 #[iv p0, iv p1, iv p2, iv p3, iv (3 : Int32), iv x3, iv x4, iv x5, iv x6, iv x7, iv x8, iv x9, rv b10, rv b35, rv b79, rv b112, rv b161, iv x190, iv x192, iv x194, iv x196, .unset] [(.int x199)])) (by simp only [hx199, if_pos hc409_197, if_pos hc424_200, if_pos hc439_201]) kt
        · refine ⟨T195, X195, e195, fun target kt => ?_⟩
          refine mifYes 416 G195 at_409 ((if0 _ _).trans (teq hc409_197).1) (by decide) rfl ?_
          refine miload 418 G195 at_416 rfl rfl ?_
          refine miconst 419 G195 at_418 (v := (1 : Int32)) rfl rfl ?_
          refine micmpNo 422 G195 at_419 (tlt (by decide : (1 : Int32) < (3 : Int32))).2.2.2 rfl ?_
          refine miload 424 G195 at_422 rfl rfl ?_
          refine mifYes 431 G195 at_424 ((if0 _ _).trans (teq hc424_200).1) (by decide) rfl ?_
          refine miload 433 G195 at_431 rfl rfl ?_
          refine miconst 434 G195 at_433 (v := (2 : Int32)) rfl rfl ?_
          refine micmpNo 437 G195 at_434 (tlt (by decide : (2 : Int32) < (3 : Int32))).2.2.2 rfl ?_
          refine miload 439 G195 at_437 rfl rfl ?_
          refine mifNo 442 G195 at_439 ((if0 _ _).trans (feq hc439_201).1) rfl ?_
          refine miconst 443 G195 at_442 (v := (2 : Int32)) rfl rfl ?_
          refine mgoto 447 G195 at_443 (by decide) rfl ?_
          exact castTop (g' := (mkF m 447 #[iv p0, iv p1, iv p2, iv p3, iv (3 : Int32), iv x3, iv x4, iv x5, iv x6, iv x7, iv x8, iv x9, rv b10, rv b35, rv b79, rv b112, rv b161, iv x190, iv x192, iv x194, iv x196, .unset] [(.int x199)])) (by simp only [hx199, if_pos hc409_197, if_pos hc424_200, if_neg hc439_201]) kt
      · refine ⟨T195, X195, e195, fun target kt => ?_⟩
        refine mifYes 416 G195 at_409 ((if0 _ _).trans (teq hc409_197).1) (by decide) rfl ?_
        refine miload 418 G195 at_416 rfl rfl ?_
        refine miconst 419 G195 at_418 (v := (1 : Int32)) rfl rfl ?_
        refine micmpNo 422 G195 at_419 (tlt (by decide : (1 : Int32) < (3 : Int32))).2.2.2 rfl ?_
        refine miload 424 G195 at_422 rfl rfl ?_
        refine mifNo 427 G195 at_424 ((if0 _ _).trans (feq hc424_200).1) rfl ?_
        refine miconst 428 G195 at_427 (v := (1 : Int32)) rfl rfl ?_
        refine mgoto 447 G195 at_428 (by decide) rfl ?_
        exact castTop (g' := (mkF m 447 #[iv p0, iv p1, iv p2, iv p3, iv (3 : Int32), iv x3, iv x4, iv x5, iv x6, iv x7, iv x8, iv x9, rv b10, rv b35, rv b79, rv b112, rv b161, iv x190, iv x192, iv x194, iv x196, .unset] [(.int x199)])) (by simp only [hx199, if_pos hc409_197, if_neg hc424_200]) kt
    · refine ⟨T195, X195, e195, fun target kt => ?_⟩
      refine mifNo 412 G195 at_409 ((if0 _ _).trans (feq hc409_197).1) rfl ?_
      refine miconst 413 G195 at_412 (v := (0 : Int32)) rfl rfl ?_
      refine mgoto 447 G195 at_413 (by decide) rfl ?_
      exact castTop (g' := (mkF m 447 #[iv p0, iv p1, iv p2, iv p3, iv (3 : Int32), iv x3, iv x4, iv x5, iv x6, iv x7, iv x8, iv x9, rv b10, rv b35, rv b79, rv b112, rv b161, iv x190, iv x192, iv x194, iv x196, .unset] [(.int x199)])) (by simp only [hx199, if_neg hc409_197]) kt
  have G198 := gd X198 hx hby
  obtain ⟨x204, hx204⟩ : ∃ z : Int32, z = (if x190 = x199 then (1 : Int32) else (0 : Int32)) := ⟨_, rfl⟩
  obtain ⟨T203, X203, e203, st203⟩ : ∃ T' : State, Stand p l e room_1 s m #[(.int p0), (.int p1), (.int p2), (.int p3)] below meth c T' ((((((((((((((((((([] ++ [⟨b10, ((0 : Int32)).toNatClampNeg⟩]) ++ [⟨b10, ((1 : Int32)).toNatClampNeg⟩]) ++ [⟨b10, ((2 : Int32)).toNatClampNeg⟩]) ++ [⟨b10, ((3 : Int32)).toNatClampNeg⟩]) ++ [⟨b10, ((4 : Int32)).toNatClampNeg⟩]) ++ [⟨b10, ((5 : Int32)).toNatClampNeg⟩]) ++ [⟨b35, ((0 : Int32)).toNatClampNeg⟩]) ++ [⟨b35, ((1 : Int32)).toNatClampNeg⟩]) ++ [⟨b35, ((2 : Int32)).toNatClampNeg⟩]) ++ [⟨b35, ((3 : Int32)).toNatClampNeg⟩]) ++ [⟨b35, ((4 : Int32)).toNatClampNeg⟩]) ++ [⟨b35, ((5 : Int32)).toNatClampNeg⟩]) ++ [⟨b79, ((0 : Int32)).toNatClampNeg⟩]) ++ [⟨b79, ((1 : Int32)).toNatClampNeg⟩]) ++ [⟨b79, ((2 : Int32)).toNatClampNeg⟩]) ++ [⟨b112, ((0 : Int32)).toNatClampNeg⟩]) ++ [⟨b112, ((1 : Int32)).toNatClampNeg⟩]) ++ [⟨b112, ((2 : Int32)).toNatClampNeg⟩]) ++ Lc166) 5 20 ∧ T'.heap = T166.heap ∧ ∀ target, Steps p.tables e below (T'.setTop (mkF m 461 #[iv p0, iv p1, iv p2, iv p3, iv (3 : Int32), iv x3, iv x4, iv x5, iv x6, iv x7, iv x8, iv x9, rv b10, rv b35, rv b79, rv b112, rv b161, iv x190, iv x192, iv x194, iv x196, iv x199] [(.int x204)])) target → Steps p.tables e below (T198.setTop (mkF m 453 #[iv p0, iv p1, iv p2, iv p3, iv (3 : Int32), iv x3, iv x4, iv x5, iv x6, iv x7, iv x8, iv x9, rv b10, rv b35, rv b79, rv b112, rv b161, iv x190, iv x192, iv x194, iv x196, iv x199] [(.int x199), (.int x190)])) target := by
    by_cases hc453_202 : x190 = x199
    · refine ⟨T198, X198, e198, fun target kt => ?_⟩
      refine micmpNo 456 G198 at_453 (teq hc453_202).2 rfl ?_
      refine miconst 457 G198 at_456 (v := (1 : Int32)) rfl rfl ?_
      refine mgoto 461 G198 at_457 (by decide) rfl ?_
      exact castTop (g' := (mkF m 461 #[iv p0, iv p1, iv p2, iv p3, iv (3 : Int32), iv x3, iv x4, iv x5, iv x6, iv x7, iv x8, iv x9, rv b10, rv b35, rv b79, rv b112, rv b161, iv x190, iv x192, iv x194, iv x196, iv x199] [(.int x204)])) (by simp only [hx204, if_pos hc453_202]) kt
    · refine ⟨T198, X198, e198, fun target kt => ?_⟩
      refine micmpYes 460 G198 at_453 (feq hc453_202).2 (by decide) rfl ?_
      refine miconst 461 G198 at_460 (v := (0 : Int32)) rfl rfl ?_
      exact castTop (g' := (mkF m 461 #[iv p0, iv p1, iv p2, iv p3, iv (3 : Int32), iv x3, iv x4, iv x5, iv x6, iv x7, iv x8, iv x9, rv b10, rv b35, rv b79, rv b112, rv b161, iv x190, iv x192, iv x194, iv x196, iv x199] [(.int x204)])) (by simp only [hx204, if_neg hc453_202]) kt
  have G203 := gd X203 hx hby
  have hend : x204 = 1 := (own_rm0_3_end p0 p1 p2 p3 x3 hx3 x4 hx4 x5 hx5 x6 hx6 x7 hx7 x8 hx8 x9 hx9 x11 hx11 x15 hx15 x19 hx19 x23 hx23 x27 hx27 x31 hx31 x37 hx37 x44 hx44 x51 hx51 x58 hx58 x65 hx65 x72 hx72 x190 hx190 x192 hx192 x194 hx194 x196 hx196 x199 hx199 x204 hx204 hpin3)
  obtain ⟨fs, hr, hrun, hended, hW, hsame⟩ := X203.leave (v := some (.int (1 : Int32))) (fun h => by rw [Bd.returns] at h; cases h)
  refine ⟨_, _, pre0 _ ?_, hrun, hended, _, _, rfl, ?_, ⟨_, rfl⟩, hW, hsame.mono (by decide) (by decide)⟩
  · show Steps p.tables e below (s₁.setTop (mkF m 0 #[iv p0, iv p1, iv p2, iv p3, .unset, .unset, .unset, .unset, .unset, .unset, .unset, .unset, .unset, .unset, .unset, .unset, .unset, .unset, .unset, .unset, .unset, .unset] [])) _
    refine miloadN 1 G0 at_0 rfl rfl ?_
    refine miconst 2 G0 at_1 (v := (3 : Int32)) rfl rfl ?_
    refine miand 3 G0 at_2 rfl rfl ?_
    refine castTop (g' := (mkF m 3 #[iv p0, iv p1, iv p2, iv p3, .unset, .unset, .unset, .unset, .unset, .unset, .unset, .unset, .unset, .unset, .unset, .unset, .unset, .unset, .unset, .unset, .unset, .unset] [(.int (3 : Int32))])) (by rw [hpin3]) ?_
    refine mistore 5 G0 at_3 #[iv p0, iv p1, iv p2, iv p3, iv (3 : Int32), .unset, .unset, .unset, .unset, .unset, .unset, .unset, .unset, .unset, .unset, .unset, .unset, .unset, .unset, .unset, .unset, .unset] rfl rfl ?_
    refine miloadN 6 G0 at_5 rfl rfl ?_
    refine miconst 7 G0 at_6 (v := (2 : Int32)) rfl rfl ?_
    refine miushr 8 G0 at_7 rfl rfl ?_
    refine miconst 9 G0 at_8 (v := (1 : Int32)) rfl rfl ?_
    refine miand 10 G0 at_9 rfl rfl ?_
    refine st2 _ ?_
    refine mistore 20 G2 at_18 #[iv p0, iv p1, iv p2, iv p3, iv (3 : Int32), iv x3, .unset, .unset, .unset, .unset, .unset, .unset, .unset, .unset, .unset, .unset, .unset, .unset, .unset, .unset, .unset, .unset] rfl rfl ?_
    refine miloadN 21 G2 at_20 rfl rfl ?_
    refine miconst 22 G2 at_21 (v := (1 : Int32)) rfl rfl ?_
    refine miand 23 G2 at_22 rfl rfl ?_
    refine castTop (g' := (mkF m 23 #[iv p0, iv p1, iv p2, iv p3, iv (3 : Int32), iv x3, .unset, .unset, .unset, .unset, .unset, .unset, .unset, .unset, .unset, .unset, .unset, .unset, .unset, .unset, .unset, .unset] [(.int x4)])) (by rw [hx4]) ?_
    refine mistore 25 G2 at_23 #[iv p0, iv p1, iv p2, iv p3, iv (3 : Int32), iv x3, iv x4, .unset, .unset, .unset, .unset, .unset, .unset, .unset, .unset, .unset, .unset, .unset, .unset, .unset, .unset, .unset] rfl rfl ?_
    refine miload 27 G2 at_25 rfl rfl ?_
    refine miconst 28 G2 at_27 (v := (1 : Int32)) rfl rfl ?_
    refine miadd 29 G2 at_28 rfl rfl ?_
    refine miloadN 30 G2 at_29 rfl rfl ?_
    refine miconst 31 G2 at_30 (v := (1 : Int32)) rfl rfl ?_
    refine miushr 32 G2 at_31 rfl rfl ?_
    refine miconst 33 G2 at_32 (v := (1 : Int32)) rfl rfl ?_
    refine miand 34 G2 at_33 rfl rfl ?_
    refine miadd 35 G2 at_34 rfl rfl ?_
    refine castTop (g' := (mkF m 35 #[iv p0, iv p1, iv p2, iv p3, iv (3 : Int32), iv x3, iv x4, .unset, .unset, .unset, .unset, .unset, .unset, .unset, .unset, .unset, .unset, .unset, .unset, .unset, .unset, .unset] [(.int x5)])) (by rw [hx5]) ?_
    refine mistore 37 G2 at_35 #[iv p0, iv p1, iv p2, iv p3, iv (3 : Int32), iv x3, iv x4, iv x5, .unset, .unset, .unset, .unset, .unset, .unset, .unset, .unset, .unset, .unset, .unset, .unset, .unset, .unset] rfl rfl ?_
    refine miload 39 G2 at_37 rfl rfl ?_
    refine miconst 40 G2 at_39 (v := (1 : Int32)) rfl rfl ?_
    refine miadd 41 G2 at_40 rfl rfl ?_
    refine miloadN 42 G2 at_41 rfl rfl ?_
    refine miconst 43 G2 at_42 (v := (2 : Int32)) rfl rfl ?_
    refine miushr 44 G2 at_43 rfl rfl ?_
    refine miconst 45 G2 at_44 (v := (1 : Int32)) rfl rfl ?_
    refine miand 46 G2 at_45 rfl rfl ?_
    refine miadd 47 G2 at_46 rfl rfl ?_
    refine castTop (g' := (mkF m 47 #[iv p0, iv p1, iv p2, iv p3, iv (3 : Int32), iv x3, iv x4, iv x5, .unset, .unset, .unset, .unset, .unset, .unset, .unset, .unset, .unset, .unset, .unset, .unset, .unset, .unset] [(.int x6)])) (by rw [hx6]) ?_
    refine mistore 49 G2 at_47 #[iv p0, iv p1, iv p2, iv p3, iv (3 : Int32), iv x3, iv x4, iv x5, iv x6, .unset, .unset, .unset, .unset, .unset, .unset, .unset, .unset, .unset, .unset, .unset, .unset, .unset] rfl rfl ?_
    refine miconst 50 G2 at_49 (v := (1 : Int32)) rfl rfl ?_
    refine miloadN 51 G2 at_50 rfl rfl ?_
    refine miconst 52 G2 at_51 (v := (3 : Int32)) rfl rfl ?_
    refine miand 53 G2 at_52 rfl rfl ?_
    refine miadd 54 G2 at_53 rfl rfl ?_
    refine castTop (g' := (mkF m 54 #[iv p0, iv p1, iv p2, iv p3, iv (3 : Int32), iv x3, iv x4, iv x5, iv x6, .unset, .unset, .unset, .unset, .unset, .unset, .unset, .unset, .unset, .unset, .unset, .unset, .unset] [(.int x7)])) (by rw [hx7]) ?_
    refine mistore 56 G2 at_54 #[iv p0, iv p1, iv p2, iv p3, iv (3 : Int32), iv x3, iv x4, iv x5, iv x6, iv x7, .unset, .unset, .unset, .unset, .unset, .unset, .unset, .unset, .unset, .unset, .unset, .unset] rfl rfl ?_
    refine miconst 57 G2 at_56 (v := (1 : Int32)) rfl rfl ?_
    refine miloadN 58 G2 at_57 rfl rfl ?_
    refine miconst 59 G2 at_58 (v := (2 : Int32)) rfl rfl ?_
    refine miushr 60 G2 at_59 rfl rfl ?_
    refine miconst 61 G2 at_60 (v := (3 : Int32)) rfl rfl ?_
    refine miand 62 G2 at_61 rfl rfl ?_
    refine miadd 63 G2 at_62 rfl rfl ?_
    refine castTop (g' := (mkF m 63 #[iv p0, iv p1, iv p2, iv p3, iv (3 : Int32), iv x3, iv x4, iv x5, iv x6, iv x7, .unset, .unset, .unset, .unset, .unset, .unset, .unset, .unset, .unset, .unset, .unset, .unset] [(.int x8)])) (by rw [hx8]) ?_
    refine mistore 65 G2 at_63 #[iv p0, iv p1, iv p2, iv p3, iv (3 : Int32), iv x3, iv x4, iv x5, iv x6, iv x7, iv x8, .unset, .unset, .unset, .unset, .unset, .unset, .unset, .unset, .unset, .unset, .unset] rfl rfl ?_
    refine miconst 66 G2 at_65 (v := (1 : Int32)) rfl rfl ?_
    refine miloadN 67 G2 at_66 rfl rfl ?_
    refine miconst 68 G2 at_67 (v := (4 : Int32)) rfl rfl ?_
    refine miushr 69 G2 at_68 rfl rfl ?_
    refine miconst 70 G2 at_69 (v := (3 : Int32)) rfl rfl ?_
    refine miand 71 G2 at_70 rfl rfl ?_
    refine miadd 72 G2 at_71 rfl rfl ?_
    refine castTop (g' := (mkF m 72 #[iv p0, iv p1, iv p2, iv p3, iv (3 : Int32), iv x3, iv x4, iv x5, iv x6, iv x7, iv x8, .unset, .unset, .unset, .unset, .unset, .unset, .unset, .unset, .unset, .unset, .unset] [(.int x9)])) (by rw [hx9]) ?_
    refine mistore 74 G2 at_72 #[iv p0, iv p1, iv p2, iv p3, iv (3 : Int32), iv x3, iv x4, iv x5, iv x6, iv x7, iv x8, iv x9, .unset, .unset, .unset, .unset, .unset, .unset, .unset, .unset, .unset, .unset] rfl rfl ?_
    refine mbipush 76 G2 at_74 (v := (6 : Int32)) rfl rfl ?_
    refine st10 _ ?_
    show Steps p.tables e below (T10.setTop (mkF m 78 #[iv p0, iv p1, iv p2, iv p3, iv (3 : Int32), iv x3, iv x4, iv x5, iv x6, iv x7, iv x8, iv x9, .unset, .unset, .unset, .unset, .unset, .unset, .unset, .unset, .unset, .unset] [(.ref b10)])) _
    refine mastore 80 G10 at_78 rfl #[iv p0, iv p1, iv p2, iv p3, iv (3 : Int32), iv x3, iv x4, iv x5, iv x6, iv x7, iv x8, iv x9, rv b10, .unset, .unset, .unset, .unset, .unset, .unset, .unset, .unset, .unset] rfl rfl ?_
    refine maload 82 G10 at_80 rfl rfl rfl ?_
    refine miconst 83 G10 at_82 (v := (0 : Int32)) rfl rfl ?_
    refine miloadN 84 G10 at_83 rfl rfl ?_
    refine mbipush 86 G10 at_84 (v := (7 : Int32)) rfl rfl ?_
    refine miand 87 G10 at_86 rfl rfl ?_
    refine castTop (g' := (mkF m 87 #[iv p0, iv p1, iv p2, iv p3, iv (3 : Int32), iv x3, iv x4, iv x5, iv x6, iv x7, iv x8, iv x9, rv b10, .unset, .unset, .unset, .unset, .unset, .unset, .unset, .unset, .unset] [(.int x11), (.int (0 : Int32)), (.ref b10)])) (by rw [hx11]) ?_
    refine st12 _ ?_
    refine maload 90 G12 at_88 rfl rfl rfl ?_
    refine miconst 91 G12 at_90 (v := (1 : Int32)) rfl rfl ?_
    refine miloadN 92 G12 at_91 rfl rfl ?_
    refine miconst 93 G12 at_92 (v := (3 : Int32)) rfl rfl ?_
    refine miushr 94 G12 at_93 rfl rfl ?_
    refine mbipush 96 G12 at_94 (v := (7 : Int32)) rfl rfl ?_
    refine miand 97 G12 at_96 rfl rfl ?_
    refine castTop (g' := (mkF m 97 #[iv p0, iv p1, iv p2, iv p3, iv (3 : Int32), iv x3, iv x4, iv x5, iv x6, iv x7, iv x8, iv x9, rv b10, .unset, .unset, .unset, .unset, .unset, .unset, .unset, .unset, .unset] [(.int x15), (.int (1 : Int32)), (.ref b10)])) (by rw [hx15]) ?_
    refine st16 _ ?_
    refine maload 100 G16 at_98 rfl rfl rfl ?_
    refine miconst 101 G16 at_100 (v := (2 : Int32)) rfl rfl ?_
    refine miloadN 102 G16 at_101 rfl rfl ?_
    refine mbipush 104 G16 at_102 (v := (6 : Int32)) rfl rfl ?_
    refine miushr 105 G16 at_104 rfl rfl ?_
    refine mbipush 107 G16 at_105 (v := (7 : Int32)) rfl rfl ?_
    refine miand 108 G16 at_107 rfl rfl ?_
    refine castTop (g' := (mkF m 108 #[iv p0, iv p1, iv p2, iv p3, iv (3 : Int32), iv x3, iv x4, iv x5, iv x6, iv x7, iv x8, iv x9, rv b10, .unset, .unset, .unset, .unset, .unset, .unset, .unset, .unset, .unset] [(.int x19), (.int (2 : Int32)), (.ref b10)])) (by rw [hx19]) ?_
    refine st20 _ ?_
    refine maload 111 G20 at_109 rfl rfl rfl ?_
    refine miconst 112 G20 at_111 (v := (3 : Int32)) rfl rfl ?_
    refine miloadN 113 G20 at_112 rfl rfl ?_
    refine mbipush 115 G20 at_113 (v := (9 : Int32)) rfl rfl ?_
    refine miushr 116 G20 at_115 rfl rfl ?_
    refine mbipush 118 G20 at_116 (v := (7 : Int32)) rfl rfl ?_
    refine miand 119 G20 at_118 rfl rfl ?_
    refine castTop (g' := (mkF m 119 #[iv p0, iv p1, iv p2, iv p3, iv (3 : Int32), iv x3, iv x4, iv x5, iv x6, iv x7, iv x8, iv x9, rv b10, .unset, .unset, .unset, .unset, .unset, .unset, .unset, .unset, .unset] [(.int x23), (.int (3 : Int32)), (.ref b10)])) (by rw [hx23]) ?_
    refine st24 _ ?_
    refine maload 122 G24 at_120 rfl rfl rfl ?_
    refine miconst 123 G24 at_122 (v := (4 : Int32)) rfl rfl ?_
    refine miloadN 124 G24 at_123 rfl rfl ?_
    refine mbipush 126 G24 at_124 (v := (12 : Int32)) rfl rfl ?_
    refine miushr 127 G24 at_126 rfl rfl ?_
    refine mbipush 129 G24 at_127 (v := (7 : Int32)) rfl rfl ?_
    refine miand 130 G24 at_129 rfl rfl ?_
    refine castTop (g' := (mkF m 130 #[iv p0, iv p1, iv p2, iv p3, iv (3 : Int32), iv x3, iv x4, iv x5, iv x6, iv x7, iv x8, iv x9, rv b10, .unset, .unset, .unset, .unset, .unset, .unset, .unset, .unset, .unset] [(.int x27), (.int (4 : Int32)), (.ref b10)])) (by rw [hx27]) ?_
    refine st28 _ ?_
    refine maload 133 G28 at_131 rfl rfl rfl ?_
    refine miconst 134 G28 at_133 (v := (5 : Int32)) rfl rfl ?_
    refine miloadN 135 G28 at_134 rfl rfl ?_
    refine mbipush 137 G28 at_135 (v := (15 : Int32)) rfl rfl ?_
    refine miushr 138 G28 at_137 rfl rfl ?_
    refine mbipush 140 G28 at_138 (v := (7 : Int32)) rfl rfl ?_
    refine miand 141 G28 at_140 rfl rfl ?_
    refine castTop (g' := (mkF m 141 #[iv p0, iv p1, iv p2, iv p3, iv (3 : Int32), iv x3, iv x4, iv x5, iv x6, iv x7, iv x8, iv x9, rv b10, .unset, .unset, .unset, .unset, .unset, .unset, .unset, .unset, .unset] [(.int x31), (.int (5 : Int32)), (.ref b10)])) (by rw [hx31]) ?_
    refine st32 _ ?_
    refine mbipush 144 G32 at_142 (v := (6 : Int32)) rfl rfl ?_
    refine st35 _ ?_
    show Steps p.tables e below (T35.setTop (mkF m 146 #[iv p0, iv p1, iv p2, iv p3, iv (3 : Int32), iv x3, iv x4, iv x5, iv x6, iv x7, iv x8, iv x9, rv b10, .unset, .unset, .unset, .unset, .unset, .unset, .unset, .unset, .unset] [(.ref b35)])) _
    refine mdup 147 G35 at_146 rfl rfl ?_
    refine miconst 148 G35 at_147 (v := (0 : Int32)) rfl rfl ?_
    refine maload 150 G35 at_148 rfl rfl rfl ?_
    refine miconst 151 G35 at_150 (v := (0 : Int32)) rfl rfl ?_
    refine miaload 152 X35 hx hby hZ e35 f36 (v := x11) at_151 ⟨by decide, by decide⟩ rfl rfl ?_
    refine mi2d 153 G35 at_152 rfl ?_
    refine castTop (g' := (mkF m 153 #[iv p0, iv p1, iv p2, iv p3, iv (3 : Int32), iv x3, iv x4, iv x5, iv x6, iv x7, iv x8, iv x9, rv b10, .unset, .unset, .unset, .unset, .unset, .unset, .unset, .unset, .unset] [(.double x37), (.int (0 : Int32)), (.ref b35), (.ref b35)])) (by rw [hx37]) ?_
    refine st38 _ ?_
    refine mdup 155 G38 at_154 rfl rfl ?_
    refine miconst 156 G38 at_155 (v := (1 : Int32)) rfl rfl ?_
    refine maload 158 G38 at_156 rfl rfl rfl ?_
    refine miconst 159 G38 at_158 (v := (1 : Int32)) rfl rfl ?_
    refine miaload 160 X38 hx hby hZ e38 f40 (v := x15) at_159 ⟨by decide, by decide⟩ rfl rfl ?_
    refine mi2d 161 G38 at_160 rfl ?_
    refine castTop (g' := (mkF m 161 #[iv p0, iv p1, iv p2, iv p3, iv (3 : Int32), iv x3, iv x4, iv x5, iv x6, iv x7, iv x8, iv x9, rv b10, .unset, .unset, .unset, .unset, .unset, .unset, .unset, .unset, .unset] [(.double x44), (.int (1 : Int32)), (.ref b35), (.ref b35)])) (by rw [hx44]) ?_
    refine st45 _ ?_
    refine mdup 163 G45 at_162 rfl rfl ?_
    refine miconst 164 G45 at_163 (v := (2 : Int32)) rfl rfl ?_
    refine maload 166 G45 at_164 rfl rfl rfl ?_
    refine miconst 167 G45 at_166 (v := (2 : Int32)) rfl rfl ?_
    refine miaload 168 X45 hx hby hZ e45 f47 (v := x19) at_167 ⟨by decide, by decide⟩ rfl rfl ?_
    refine mi2d 169 G45 at_168 rfl ?_
    refine castTop (g' := (mkF m 169 #[iv p0, iv p1, iv p2, iv p3, iv (3 : Int32), iv x3, iv x4, iv x5, iv x6, iv x7, iv x8, iv x9, rv b10, .unset, .unset, .unset, .unset, .unset, .unset, .unset, .unset, .unset] [(.double x51), (.int (2 : Int32)), (.ref b35), (.ref b35)])) (by rw [hx51]) ?_
    refine st52 _ ?_
    refine mdup 171 G52 at_170 rfl rfl ?_
    refine miconst 172 G52 at_171 (v := (3 : Int32)) rfl rfl ?_
    refine maload 174 G52 at_172 rfl rfl rfl ?_
    refine miconst 175 G52 at_174 (v := (3 : Int32)) rfl rfl ?_
    refine miaload 176 X52 hx hby hZ e52 f54 (v := x23) at_175 ⟨by decide, by decide⟩ rfl rfl ?_
    refine mi2d 177 G52 at_176 rfl ?_
    refine castTop (g' := (mkF m 177 #[iv p0, iv p1, iv p2, iv p3, iv (3 : Int32), iv x3, iv x4, iv x5, iv x6, iv x7, iv x8, iv x9, rv b10, .unset, .unset, .unset, .unset, .unset, .unset, .unset, .unset, .unset] [(.double x58), (.int (3 : Int32)), (.ref b35), (.ref b35)])) (by rw [hx58]) ?_
    refine st59 _ ?_
    refine mdup 179 G59 at_178 rfl rfl ?_
    refine miconst 180 G59 at_179 (v := (4 : Int32)) rfl rfl ?_
    refine maload 182 G59 at_180 rfl rfl rfl ?_
    refine miconst 183 G59 at_182 (v := (4 : Int32)) rfl rfl ?_
    refine miaload 184 X59 hx hby hZ e59 f61 (v := x27) at_183 ⟨by decide, by decide⟩ rfl rfl ?_
    refine mi2d 185 G59 at_184 rfl ?_
    refine castTop (g' := (mkF m 185 #[iv p0, iv p1, iv p2, iv p3, iv (3 : Int32), iv x3, iv x4, iv x5, iv x6, iv x7, iv x8, iv x9, rv b10, .unset, .unset, .unset, .unset, .unset, .unset, .unset, .unset, .unset] [(.double x65), (.int (4 : Int32)), (.ref b35), (.ref b35)])) (by rw [hx65]) ?_
    refine st66 _ ?_
    refine mdup 187 G66 at_186 rfl rfl ?_
    refine miconst 188 G66 at_187 (v := (5 : Int32)) rfl rfl ?_
    refine maload 190 G66 at_188 rfl rfl rfl ?_
    refine miconst 191 G66 at_190 (v := (5 : Int32)) rfl rfl ?_
    refine miaload 192 X66 hx hby hZ e66 f68 (v := x31) at_191 ⟨by decide, by decide⟩ rfl rfl ?_
    refine mi2d 193 G66 at_192 rfl ?_
    refine castTop (g' := (mkF m 193 #[iv p0, iv p1, iv p2, iv p3, iv (3 : Int32), iv x3, iv x4, iv x5, iv x6, iv x7, iv x8, iv x9, rv b10, .unset, .unset, .unset, .unset, .unset, .unset, .unset, .unset, .unset] [(.double x72), (.int (5 : Int32)), (.ref b35), (.ref b35)])) (by rw [hx72]) ?_
    refine st73 _ ?_
    refine mastore 196 G73 at_194 rfl #[iv p0, iv p1, iv p2, iv p3, iv (3 : Int32), iv x3, iv x4, iv x5, iv x6, iv x7, iv x8, iv x9, rv b10, rv b35, .unset, .unset, .unset, .unset, .unset, .unset, .unset, .unset] rfl rfl ?_
    refine miload 198 G73 at_196 rfl rfl ?_
    refine mifYes 207 G73 at_198 ((if0 _ _).trans (feq (by decide : ¬ ((3 : Int32) = (0 : Int32)))).2) (by decide) rfl ?_
    refine miload 209 G73 at_207 rfl rfl ?_
    refine miconst 210 G73 at_209 (v := (1 : Int32)) rfl rfl ?_
    refine micmpYes 224 G73 at_210 (feq (by decide : ¬ ((3 : Int32) = (1 : Int32)))).2 (by decide) rfl ?_
    refine miload 226 G73 at_224 rfl rfl ?_
    refine miconst 227 G73 at_226 (v := (2 : Int32)) rfl rfl ?_
    refine micmpYes 246 G73 at_227 (feq (by decide : ¬ ((3 : Int32) = (2 : Int32)))).2 (by decide) rfl ?_
    refine miconst 247 G73 at_246 (v := (3 : Int32)) rfl rfl ?_
    refine st79 _ ?_
    show Steps p.tables e below (T79.setTop (mkF m 249 #[iv p0, iv p1, iv p2, iv p3, iv (3 : Int32), iv x3, iv x4, iv x5, iv x6, iv x7, iv x8, iv x9, rv b10, rv b35, .unset, .unset, .unset, .unset, .unset, .unset, .unset, .unset] [(.ref b79)])) _
    refine mdup 250 G79 at_249 rfl rfl ?_
    refine miconst 251 G79 at_250 (v := (0 : Int32)) rfl rfl ?_
    refine miload 253 G79 at_251 rfl rfl ?_
    refine st82 _ ?_
    refine mdup 255 G82 at_254 rfl rfl ?_
    refine miconst 256 G82 at_255 (v := (1 : Int32)) rfl rfl ?_
    refine miload 258 G82 at_256 rfl rfl ?_
    refine st92 _ ?_
    refine mdup 260 G92 at_259 rfl rfl ?_
    refine miconst 261 G92 at_260 (v := (2 : Int32)) rfl rfl ?_
    refine miload 263 G92 at_261 rfl rfl ?_
    refine st102 _ ?_
    refine mastore 266 G102 at_264 rfl #[iv p0, iv p1, iv p2, iv p3, iv (3 : Int32), iv x3, iv x4, iv x5, iv x6, iv x7, iv x8, iv x9, rv b10, rv b35, rv b79, .unset, .unset, .unset, .unset, .unset, .unset, .unset] rfl rfl ?_
    refine miload 268 G102 at_266 rfl rfl ?_
    refine mifYes 277 G102 at_268 ((if0 _ _).trans (feq (by decide : ¬ ((3 : Int32) = (0 : Int32)))).2) (by decide) rfl ?_
    refine miload 279 G102 at_277 rfl rfl ?_
    refine miconst 280 G102 at_279 (v := (1 : Int32)) rfl rfl ?_
    refine micmpYes 294 G102 at_280 (feq (by decide : ¬ ((3 : Int32) = (1 : Int32)))).2 (by decide) rfl ?_
    refine miload 296 G102 at_294 rfl rfl ?_
    refine miconst 297 G102 at_296 (v := (2 : Int32)) rfl rfl ?_
    refine micmpYes 316 G102 at_297 (feq (by decide : ¬ ((3 : Int32) = (2 : Int32)))).2 (by decide) rfl ?_
    refine miconst 317 G102 at_316 (v := (3 : Int32)) rfl rfl ?_
    refine st112 _ ?_
    show Steps p.tables e below (T112.setTop (mkF m 319 #[iv p0, iv p1, iv p2, iv p3, iv (3 : Int32), iv x3, iv x4, iv x5, iv x6, iv x7, iv x8, iv x9, rv b10, rv b35, rv b79, .unset, .unset, .unset, .unset, .unset, .unset, .unset] [(.ref b112)])) _
    refine mdup 320 G112 at_319 rfl rfl ?_
    refine miconst 321 G112 at_320 (v := (0 : Int32)) rfl rfl ?_
    refine miload 323 G112 at_321 rfl rfl ?_
    refine st116 _ ?_
    refine mdup 325 G116 at_324 rfl rfl ?_
    refine miconst 326 G116 at_325 (v := (1 : Int32)) rfl rfl ?_
    refine miload 328 G116 at_326 rfl rfl ?_
    refine st131 _ ?_
    refine mdup 330 G131 at_329 rfl rfl ?_
    refine miconst 331 G131 at_330 (v := (2 : Int32)) rfl rfl ?_
    refine miload 333 G131 at_331 rfl rfl ?_
    refine st146 _ ?_
    refine mastore 336 G146 at_334 rfl #[iv p0, iv p1, iv p2, iv p3, iv (3 : Int32), iv x3, iv x4, iv x5, iv x6, iv x7, iv x8, iv x9, rv b10, rv b35, rv b79, rv b112, .unset, .unset, .unset, .unset, .unset, .unset] rfl rfl ?_
    refine st161 _ ?_
    show Steps p.tables e below (T161.setTop (mkF m 339 #[iv p0, iv p1, iv p2, iv p3, iv (3 : Int32), iv x3, iv x4, iv x5, iv x6, iv x7, iv x8, iv x9, rv b10, rv b35, rv b79, rv b112, .unset, .unset, .unset, .unset, .unset, .unset] [(.ref b161)])) _
    refine mdup 340 G161 at_339 rfl rfl ?_
    refine maload 342 G161 at_340 rfl rfl rfl ?_
    refine maload 344 G161 at_342 rfl rfl rfl ?_
    refine st166.trans ?_
    show Steps p.tables e below (T166.setTop (mkF m 347 #[iv p0, iv p1, iv p2, iv p3, iv (3 : Int32), iv x3, iv x4, iv x5, iv x6, iv x7, iv x8, iv x9, rv b10, rv b35, rv b79, rv b112, .unset, .unset, .unset, .unset, .unset, .unset] [(.ref b161)])) _
    refine mastore 349 G166 at_347 rfl #[iv p0, iv p1, iv p2, iv p3, iv (3 : Int32), iv x3, iv x4, iv x5, iv x6, iv x7, iv x8, iv x9, rv b10, rv b35, rv b79, rv b112, rv b161, .unset, .unset, .unset, .unset, .unset] rfl rfl ?_
    refine maload 351 G166 at_349 rfl rfl rfl ?_
    refine maload 353 G166 at_351 rfl rfl rfl ?_
    refine miload 355 G166 at_353 rfl rfl ?_
    refine st189.trans ?_
    show Steps p.tables e below (T189.setTop (mkF m 358 #[iv p0, iv p1, iv p2, iv p3, iv (3 : Int32), iv x3, iv x4, iv x5, iv x6, iv x7, iv x8, iv x9, rv b10, rv b35, rv b79, rv b112, rv b161, .unset, .unset, .unset, .unset, .unset] [(.int (rv4_3 x3 x4 x5 x6 x7 x8 x9 x37 x44 x51 x58 x65 x72))])) _
    refine castTop (g' := (mkF m 358 #[iv p0, iv p1, iv p2, iv p3, iv (3 : Int32), iv x3, iv x4, iv x5, iv x6, iv x7, iv x8, iv x9, rv b10, rv b35, rv b79, rv b112, rv b161, .unset, .unset, .unset, .unset, .unset] [(.int x190)])) (by rw [hx190]) ?_
    refine mistore 360 G189 at_358 #[iv p0, iv p1, iv p2, iv p3, iv (3 : Int32), iv x3, iv x4, iv x5, iv x6, iv x7, iv x8, iv x9, rv b10, rv b35, rv b79, rv b112, rv b161, iv x190, .unset, .unset, .unset, .unset] rfl rfl ?_
    refine maload 362 G189 at_360 rfl rfl rfl ?_
    refine miload 364 G189 at_362 rfl rfl ?_
    refine miaload 365 X189 hx hby hZ e189 f168 (v := (([x11, x15, x19, x23, x27, x31] : List Int32).getD x4.toNatClampNeg (0 : Int32))) at_364 (own_rm0_3_hin364 p0 p1 p2 p3 x3 hx3 x4 hx4 x5 hx5 x6 hx6 x7 hx7 x8 hx8 x9 hx9 x11 hx11 x15 hx15 x19 hx19 x23 hx23 x27 hx27 x31 hx31 x37 hx37 x44 hx44 x51 hx51 x58 hx58 x65 hx65 x72 hx72 x190 hx190 hpin3) (own_getDI ([x11, x15, x19, x23, x27, x31] : List Int32) _ _) rfl ?_
    refine miload 367 G189 at_365 rfl rfl ?_
    refine miload 369 G189 at_367 rfl rfl ?_
    refine st191 _ ?_
    show Steps p.tables e below (T191.setTop (mkF m 372 #[iv p0, iv p1, iv p2, iv p3, iv (3 : Int32), iv x3, iv x4, iv x5, iv x6, iv x7, iv x8, iv x9, rv b10, rv b35, rv b79, rv b112, rv b161, iv x190, .unset, .unset, .unset, .unset] [(.int (rv5 (([x11, x15, x19, x23, x27, x31] : List Int32).getD x4.toNatClampNeg (0 : Int32)) x7 x3))])) _
    refine castTop (g' := (mkF m 372 #[iv p0, iv p1, iv p2, iv p3, iv (3 : Int32), iv x3, iv x4, iv x5, iv x6, iv x7, iv x8, iv x9, rv b10, rv b35, rv b79, rv b112, rv b161, iv x190, .unset, .unset, .unset, .unset] [(.int x192)])) (by rw [hx192]) ?_
    refine mistore 374 G191 at_372 #[iv p0, iv p1, iv p2, iv p3, iv (3 : Int32), iv x3, iv x4, iv x5, iv x6, iv x7, iv x8, iv x9, rv b10, rv b35, rv b79, rv b112, rv b161, iv x190, iv x192, .unset, .unset, .unset] rfl rfl ?_
    refine maload 376 G191 at_374 rfl rfl rfl ?_
    refine miload 378 G191 at_376 rfl rfl ?_
    refine miaload 379 X191 hx hby hZ e191 f168 (v := (([x11, x15, x19, x23, x27, x31] : List Int32).getD x5.toNatClampNeg (0 : Int32))) at_378 (own_rm0_3_hin378 p0 p1 p2 p3 x3 hx3 x4 hx4 x5 hx5 x6 hx6 x7 hx7 x8 hx8 x9 hx9 x11 hx11 x15 hx15 x19 hx19 x23 hx23 x27 hx27 x31 hx31 x37 hx37 x44 hx44 x51 hx51 x58 hx58 x65 hx65 x72 hx72 x190 hx190 x192 hx192 hpin3) (own_getDI ([x11, x15, x19, x23, x27, x31] : List Int32) _ _) rfl ?_
    refine miload 381 G191 at_379 rfl rfl ?_
    refine miload 383 G191 at_381 rfl rfl ?_
    refine st193 _ ?_
    show Steps p.tables e below (T193.setTop (mkF m 386 #[iv p0, iv p1, iv p2, iv p3, iv (3 : Int32), iv x3, iv x4, iv x5, iv x6, iv x7, iv x8, iv x9, rv b10, rv b35, rv b79, rv b112, rv b161, iv x190, iv x192, .unset, .unset, .unset] [(.int (rv5 (([x11, x15, x19, x23, x27, x31] : List Int32).getD x5.toNatClampNeg (0 : Int32)) x8 x3))])) _
    refine castTop (g' := (mkF m 386 #[iv p0, iv p1, iv p2, iv p3, iv (3 : Int32), iv x3, iv x4, iv x5, iv x6, iv x7, iv x8, iv x9, rv b10, rv b35, rv b79, rv b112, rv b161, iv x190, iv x192, .unset, .unset, .unset] [(.int x194)])) (by rw [hx194]) ?_
    refine mistore 388 G193 at_386 #[iv p0, iv p1, iv p2, iv p3, iv (3 : Int32), iv x3, iv x4, iv x5, iv x6, iv x7, iv x8, iv x9, rv b10, rv b35, rv b79, rv b112, rv b161, iv x190, iv x192, iv x194, .unset, .unset] rfl rfl ?_
    refine maload 390 G193 at_388 rfl rfl rfl ?_
    refine miload 392 G193 at_390 rfl rfl ?_
    refine miaload 393 X193 hx hby hZ e193 f168 (v := (([x11, x15, x19, x23, x27, x31] : List Int32).getD x6.toNatClampNeg (0 : Int32))) at_392 (own_rm0_3_hin392 p0 p1 p2 p3 x3 hx3 x4 hx4 x5 hx5 x6 hx6 x7 hx7 x8 hx8 x9 hx9 x11 hx11 x15 hx15 x19 hx19 x23 hx23 x27 hx27 x31 hx31 x37 hx37 x44 hx44 x51 hx51 x58 hx58 x65 hx65 x72 hx72 x190 hx190 x192 hx192 x194 hx194 hpin3) (own_getDI ([x11, x15, x19, x23, x27, x31] : List Int32) _ _) rfl ?_
    refine miload 395 G193 at_393 rfl rfl ?_
    refine miload 397 G193 at_395 rfl rfl ?_
    refine st195 _ ?_
    show Steps p.tables e below (T195.setTop (mkF m 400 #[iv p0, iv p1, iv p2, iv p3, iv (3 : Int32), iv x3, iv x4, iv x5, iv x6, iv x7, iv x8, iv x9, rv b10, rv b35, rv b79, rv b112, rv b161, iv x190, iv x192, iv x194, .unset, .unset] [(.int (rv5 (([x11, x15, x19, x23, x27, x31] : List Int32).getD x6.toNatClampNeg (0 : Int32)) x9 x3))])) _
    refine castTop (g' := (mkF m 400 #[iv p0, iv p1, iv p2, iv p3, iv (3 : Int32), iv x3, iv x4, iv x5, iv x6, iv x7, iv x8, iv x9, rv b10, rv b35, rv b79, rv b112, rv b161, iv x190, iv x192, iv x194, .unset, .unset] [(.int x196)])) (by rw [hx196]) ?_
    refine mistore 402 G195 at_400 #[iv p0, iv p1, iv p2, iv p3, iv (3 : Int32), iv x3, iv x4, iv x5, iv x6, iv x7, iv x8, iv x9, rv b10, rv b35, rv b79, rv b112, rv b161, iv x190, iv x192, iv x194, iv x196, .unset] rfl rfl ?_
    refine miload 404 G195 at_402 rfl rfl ?_
    refine mifNo 407 G195 at_404 ((if0 _ _).trans (tlt (by decide : (0 : Int32) < (3 : Int32))).2.2.2) rfl ?_
    refine miload 409 G195 at_407 rfl rfl ?_
    refine st198 _ ?_
    refine mistore 449 G198 at_447 #[iv p0, iv p1, iv p2, iv p3, iv (3 : Int32), iv x3, iv x4, iv x5, iv x6, iv x7, iv x8, iv x9, rv b10, rv b35, rv b79, rv b112, rv b161, iv x190, iv x192, iv x194, iv x196, iv x199] rfl rfl ?_
    refine miload 451 G198 at_449 rfl rfl ?_
    refine miload 453 G198 at_451 rfl rfl ?_
    refine st203 _ ?_
    refine castTop (g' := (mkF m 461 #[iv p0, iv p1, iv p2, iv p3, iv (3 : Int32), iv x3, iv x4, iv x5, iv x6, iv x7, iv x8, iv x9, rv b10, rv b35, rv b79, rv b112, rv b161, iv x190, iv x192, iv x194, iv x196, iv x199] [(.int (1 : Int32))])) (by rw [hend]) ?_
    exact retN X203 hx (t := .boolean) Bd.returns (by simp) (hb hby at_461) hr
  · show Q0 Z p0 p1 p2 p3 h0 n0 _ T203.heap _
    rw [e203]
    exact ⟨rfl, N166⟩
theorem rm0 (l : Launch) (Z : State) (a0 : Array Value) (hw : ∀ d ∈ tables_1, d.before a0 Z = true) (ws : List Jvm.Cond) (p0 : Int32) (p1 : Int32) (p2 : Int32) (p3 : Int32)  (h0 : Heap) (n0 : Nat) (Z0 : n0 ≤ h0.size) :
    MetFree l x (head1 (Jvm.Cond.code x code maxLocals ret :: ws) room_1) (fun a U => a = #[(.int p0), (.int p1), (.int p2), (.int p3)] ∧ Z.Warmed39 U.vm ∧ U.heap = h0) (fun _ _ _ _ _ => True) (fun _ U o U' => ∃ v L, o = .returned v ∧ Q0 Z p0 p1 p2 p3 h0 n0 v U'.heap L ∧ FrameEnd U o U' L room_1.cells room_1.slots) := by
  rcases own_cases p0 with h0_ | h0_ | h0_ | h0_
  · exact rm0_0 l Z a0 hw ws p0 p1 p2 p3 h0 n0 Z0  h0_
  · exact rm0_1 l Z a0 hw ws p0 p1 p2 p3 h0 n0 Z0  h0_
  · exact rm0_2 l Z a0 hw ws p0 p1 p2 p3 h0 n0 Z0  h0_
  · exact rm0_3 l Z a0 hw ws p0 p1 p2 p3 h0 n0 Z0  h0_
set_option maxRecDepth 65536 in
set_option maxHeartbeats 40000000 in
theorem comes_1 {Post : Tables → Env → Array Value → State → Outcome → State → Prop} (hpost : ∀ tb e args s v u, (limb_1_1.after args s (.returned v) u = true ∧ limb_1_2.after args s (.returned v) u = true ∧ True) → FrameEnd s (.returned v) u (Jvm.fieldLocs frame_1_writes args s ++ Jvm.arrayLocs frame_1_arrays args s ++ Jvm.staticLocs frame_1_statics s) 24 128 → Post tb e args s (.returned v) u) :
    ArmFor flags0 classFile x code maxLocals ret World_1 tables_1 room_1 Calls_1 rest_1 Pre_1 Post := by
  intro l hfl _ _ p e ha hc hk s m args below hf hA hF happ hP
  obtain ⟨hcalls, hrest, hpre⟩ := hP
  obtain ⟨-, -, -, hnamed, -, -, -, hat⟩ := (Spec.applies_iff hf).mp happ
  obtain ⟨hg, hn⟩ := and_e (Cond.before_iff.mp (show (Jvm.Cond.and given_1 narrow_1).before args s = true from hpre))
  obtain ⟨g1, g2⟩ := and_e hg
  obtain ⟨g3, g4⟩ := and_e g2
  obtain ⟨g5, g6⟩ := and_e g4
  obtain ⟨g7, g8⟩ := and_e g6
  obtain ⟨w0, w1, w2, w3, rfl⟩ : ∃ w0 w1 w2 w3 : Value, args = #[w0, w1, w2, w3] := by
    have hs : args.size = 4 := by simpa [Cond.value, given_1] using g1
    obtain ⟨L⟩ := args
    match L, hs with
    | [w0, w1, w2, w3], _ => exact ⟨w0, w1, w2, w3, rfl⟩
  have hw := fun d (hd : d ∈ tables_1) => atoms_spec (ws := Jvm.Cond.code x code maxLocals ret :: tables_1) hat d (List.mem_cons_of_mem _ hd)
  have hfit : Fit s := fun {y c} hc i hi => by
    obtain ⟨ha, rfl⟩ := Array.getElem?_eq_some_iff.mp hc
    have q := List.all_eq_true.mp ((Array.all_eq_true_iff_forall_mem.mp hF) _ (Array.getElem_mem ha)) i (List.mem_range.mpr hi)
    simpa [Array.getElem?_eq_getElem hi] using q
  obtain ⟨i0, ei0⟩ := is_v g3
  obtain rfl : w0 = (.int i0) := Option.some.inj ei0
  obtain ⟨i1, ei1⟩ := is_v g5
  obtain rfl : w1 = (.int i1) := Option.some.inj ei1
  obtain ⟨i2, ei2⟩ := is_v g7
  obtain rfl : w2 = (.int i2) := Option.some.inj ei2
  obtain ⟨i3, ei3⟩ := is_v g8
  obtain rfl : w3 = (.int i3) := Option.some.inj ei3
  obtain ⟨n, o, h1, h2, h3, _, L, rfl, ⟨rfl, N⟩, hq⟩ := rm0 l s _ hw tables_1 i0 i1 i2 i3 s.heap s.heap.size (Nat.le_refl _)  p e ha hc hk s m _ below hf ((Spec.applies_iff_loose hf).mp happ).1 ⟨rfl, State.Warmed39.refl s, rfl⟩ trivial
  refine ⟨n, _, h1, h2, h3, hpost _ _ _ _ _ _ ⟨Cond.after_iff.mpr rfl, Cond.after_iff.mpr (eq_i res_at (Term.int_eval (1)) rfl), trivial⟩ ⟨hq.1, hq.2.1, (hq.2.2.sift fun y hy => Or.inr (N y hy)).mono (by decide) (by decide)⟩⟩
theorem main_1_1 : Claimed_1_1 := comes_1 fun _ _ _ _ _ _ h hF => ⟨h.1, hF⟩
theorem main_1_2 : Claimed_1_2 := comes_1 fun _ _ _ _ _ _ h hF => ⟨h.2.1, hF⟩
end Jvm.Pilot.@@N@@
namespace Jvm.Pilot.@@N@@
open Jvm Jvm.ClassFile Sem Op Lib Jvm.Free Jvm.Stand Jvm.Pilot.@@N@@.Jvm.D
/-! MADE BY PROGRAM (witnessworld.py) out of the Statement's table words and the real class files: 12 classes; the members and pool entries that the words name. The judged class is class 1, her method 1. -/
namespace start1
open Jvm.ClassFile
def u (s : String) : CpInfo := .utf8 (stringToUtf16 s)
/-- a pool by its gaps: so many unusable entries, then the entry; so many at the end -/
def gap : Nat → List CpInfo → List CpInfo
  | 0, r => r
  | n + 1, r => .unusable :: gap n r
def poolList (es : List (Nat × CpInfo)) (last : Nat) : List CpInfo := es.foldr (fun e r => gap e.1 (e.2 :: r)) (gap last [])
def pool (es : List (Nat × CpInfo)) (last : Nat) : Array CpInfo := ⟨poolList es last⟩
def fileOf (pool : Array CpInfo) (this : Nat) (attrs : Array Attribute := #[]) (ms : Array MethodInfo := #[]) (fl : Nat := 33) (sup : Nat := 0) (ifs : Array Nat := #[]) (fds : Array FieldInfo := #[]) : ClassFile where
  minorVersion := 0
  majorVersion := 65
  constantPool := pool
  accessFlags := fl
  thisClass := this
  superClass := sup
  interfaces := ifs
  fields := fds
  methods := ms
  attributes := attrs
def plain (name : String) (sup : Option ClassId) : Class where
  name := name
  kind := .ordinary
  loader := none
  accessFlags := 33
  super := sup
  interfaces := #[]
  cf := none
  fields := #[]
  methods := #[]
  instanceTypes := #[]
  staticTypes := #[]
  resolved := #[]
  callSites := []
  init := .initialized
  statics := none
  mirror := none

def pool0 : Array CpInfo := pool [(5, u "<init>"), (0, u "()V"), (1, .class_ 10), (1, u "java/lang/Object")] 113

def k0c0 : Code := { maxStack := 0, maxLocals := 1, code := object_method_1_code, exceptionTable := #[], attributes := #[] }
def k0m0 : Method := { name := "<init>", desc := "()V", sig := { parameters := [], returnType := none }, accessFlags := 1, code := some k0c0 }
/-- java/lang/Object -/
def k0 : Class := { plain "java/lang/Object" none with
  accessFlags := 33
  interfaces := #[]
  cf := some (fileOf pool0 8 #[] #[{ accessFlags := 1, nameIndex := 5, descriptorIndex := 6, attributes := #[] }] 33 0 #[] #[])
  fields := #[]
  methods := #[k0m0]
  instanceTypes := #[]
  staticTypes := #[]
  resolved := Array.replicate 124 none
  statics := none }

def pool1 : Array CpInfo := pool [(2, .class_ 4), (1, u "java/lang/Object"), (0, u "<init>"), (0, u "()V"), (0, .class_ 8), (0, u "com/example/oceanus/oceanus/analysis/Taken"), (0, .methodref 7 10), (0, .nameAndType 5 11), (0, u "([I[I)V"), (0, .methodref 7 13), (0, .nameAndType 14 15), (0, u "unmade"), (0, u "([DZ)I"), (0, .methodref 17 18), (0, .class_ 19), (0, .nameAndType 20 21), (0, u "com/example/oceanus/oceanus/analysis/TakenUnmadePinLaw"), (0, u "lacks"), (0, u "(IIZ)Z"), (2, u "law"), (0, u "(IIII)Z")] 7

def k1m0 : Method := { name := "<init>", desc := "()V", sig := { parameters := [], returnType := none }, accessFlags := 1, code := none }
def k1c1 : Code := { maxStack := 5, maxLocals := 22, code := code, exceptionTable := #[], attributes := #[] }
def k1m1 : Method := { name := "law", desc := "(IIII)Z", sig := { parameters := [.int, .int, .int, .int], returnType := some .boolean }, accessFlags := 9, code := some k1c1 }
def k1c2 : Code := { maxStack := 2, maxLocals := 3, code := method_3_code, exceptionTable := #[], attributes := #[] }
def k1m2 : Method := { name := "lacks", desc := "(IIZ)Z", sig := { parameters := [.int, .int, .boolean], returnType := some .boolean }, accessFlags := 10, code := some k1c2 }
/-- com/example/oceanus/oceanus/analysis/TakenUnmadePinLaw -/
def k1 : Class := { plain "com/example/oceanus/oceanus/analysis/TakenUnmadePinLaw" (some 0) with
  accessFlags := 49
  interfaces := #[]
  cf := some (fileOf pool1 17 #[] #[{ accessFlags := 1, nameIndex := 5, descriptorIndex := 6, attributes := #[] }, { accessFlags := 9, nameIndex := 24, descriptorIndex := 25, attributes := #[] }, { accessFlags := 10, nameIndex := 20, descriptorIndex := 21, attributes := #[] }] 49 2 #[] #[])
  fields := #[]
  methods := #[k1m0, k1m1, k1m2]
  instanceTypes := #[]
  staticTypes := #[]
  resolved := Array.replicate 33 none
  statics := none }

def pool2 : Array CpInfo := pool [(1, .methodref 2 3), (0, .class_ 4), (0, .nameAndType 5 6), (0, u "java/lang/Object"), (0, u "<init>"), (0, u "()V"), (0, .class_ 8), (0, u "java/lang/Record")] 13

def k2c0 : Code := { maxStack := 1, maxLocals := 1, code := jdk_30_method_1_code, exceptionTable := #[], attributes := #[] }
def k2m0 : Method := { name := "<init>", desc := "()V", sig := { parameters := [], returnType := none }, accessFlags := 4, code := some k2c0 }
/-- java/lang/Record -/
def k2 : Class := { plain "java/lang/Record" (some 0) with
  accessFlags := 1057
  interfaces := #[]
  cf := some (fileOf pool2 7 #[] #[{ accessFlags := 4, nameIndex := 5, descriptorIndex := 6, attributes := #[] }] 1057 2 #[] #[])
  fields := #[]
  methods := #[k2m0]
  instanceTypes := #[]
  staticTypes := #[]
  resolved := Array.replicate 22 none
  statics := none }

def pool3 : Array CpInfo := pool [(1, .methodref 2 3), (0, .class_ 4), (0, .nameAndType 5 6), (0, u "java/lang/Record"), (0, u "<init>"), (0, u "()V"), (0, .fieldref 8 9), (0, .class_ 10), (0, .nameAndType 11 12), (0, u "com/example/oceanus/oceanus/analysis/Taken"), (0, u "states"), (0, u "[I"), (0, .fieldref 8 14), (0, .nameAndType 15 12), (0, u "agents"), (48, u "([I[I)V"), (20, u "unmade"), (0, u "([DZ)I")] 27

def k3c0 : Code := { maxStack := 2, maxLocals := 3, code := prog_26_method_1_code, exceptionTable := #[], attributes := #[] }
def k3m0 : Method := { name := "<init>", desc := "([I[I)V", sig := { parameters := [(.array .int), (.array .int)], returnType := none }, accessFlags := 0, code := some k3c0 }
def k3c1 : Code := { maxStack := 4, maxLocals := 6, code := prog_26_method_4_code, exceptionTable := #[], attributes := #[] }
def k3m1 : Method := { name := "unmade", desc := "([DZ)I", sig := { parameters := [(.array .double), .boolean], returnType := some .int }, accessFlags := 0, code := some k3c1 }
/-- com/example/oceanus/oceanus/analysis/Taken -/
def k3 : Class := { plain "com/example/oceanus/oceanus/analysis/Taken" (some 2) with
  accessFlags := 48
  interfaces := #[]
  cf := some (fileOf pool3 8 #[] #[{ accessFlags := 0, nameIndex := 5, descriptorIndex := 64, attributes := #[] }, { accessFlags := 0, nameIndex := 85, descriptorIndex := 86, attributes := #[] }] 48 2 #[] #[{ accessFlags := 18, nameIndex := 11, descriptorIndex := 12, attributes := #[] }, { accessFlags := 18, nameIndex := 15, descriptorIndex := 12, attributes := #[] }])
  fields := #[{ name := "states", type := (.array .int), accessFlags := 18, slot := 0, constantValue := 0 }, { name := "agents", type := (.array .int), accessFlags := 18, slot := 1, constantValue := 0 }]
  methods := #[k3m0, k3m1]
  instanceTypes := #[(.array .int), (.array .int)]
  staticTypes := #[]
  resolved := Array.replicate 114 none
  statics := none }

def pool4 : Array CpInfo := pool [(1, u "java/lang/Cloneable"), (0, .class_ 1), (0, u "java/lang/Object"), (0, .class_ 3)] 3

/-- java/lang/Cloneable -/
def k4 : Class := { plain "java/lang/Cloneable" (some 0) with
  accessFlags := 1537
  interfaces := #[]
  cf := some (fileOf pool4 2 #[] #[] 1537 4 #[] #[])
  fields := #[]
  methods := #[]
  instanceTypes := #[]
  staticTypes := #[]
  resolved := Array.replicate 8 none
  statics := none }

def pool5 : Array CpInfo := pool [(1, u "java/io/Serializable"), (0, .class_ 1), (0, u "java/lang/Object"), (0, .class_ 3)] 3

/-- java/io/Serializable -/
def k5 : Class := { plain "java/io/Serializable" (some 0) with
  accessFlags := 1537
  interfaces := #[]
  cf := some (fileOf pool5 2 #[] #[] 1537 4 #[] #[])
  fields := #[]
  methods := #[]
  instanceTypes := #[]
  staticTypes := #[]
  resolved := Array.replicate 8 none
  statics := none }

/-- the primitive byte -/
def k6 : Class := { plain "byte" none with kind := .primitive 'B', accessFlags := 0x411 }
/-- [B -/
def k7 : Class := { plain "[B" (some 0) with kind := .array 6 .byte, interfaces := #[4, 5], accessFlags := 1041 }

/-- the primitive double -/
def k8 : Class := { plain "double" none with kind := .primitive 'D', accessFlags := 0x411 }
/-- [D -/
def k9 : Class := { plain "[D" (some 0) with kind := .array 8 .double, interfaces := #[4, 5], accessFlags := 1041 }

/-- the primitive int -/
def k10 : Class := { plain "int" none with kind := .primitive 'I', accessFlags := 0x411 }
/-- [I -/
def k11 : Class := { plain "[I" (some 0) with kind := .array 10 .int, interfaces := #[4, 5], accessFlags := 1041 }

def heap : Heap := #[]
def classes : Array Class := #[k0, k1, k2, k3, k4, k5, k6, k7, k8, k9, k10, k11]
def interned : List (Array UInt16 × Addr) := []
def slotsUsed : Nat := 0
def theMethod : MethodId := ⟨1, 1⟩
def args0 : Array Value := #[.int 5, .int 5, .int 5, .int 5]
def aboutOver (below : List Frame) : State where
  vm := { classes := classes, interned := interned.toArray }
  heap := heap
  slotsUsed := slotsUsed
  threads := #[{ frames := .invoking theMethod args0 :: below }]
def below0 : List Frame := [.native { method := ⟨0, 0⟩, args := #[] }]
def about1 : State := aboutOver below0
def p0 : Program := .bare "" "" ""
def e0 : Env := launch0.env 0 0 0
theorem w_frames : about1.frames = Frame.invoking theMethod args0 :: below0 := rfl
set_option maxRecDepth 65536 in
theorem w_args : argsFit about1.vm theMethod args0 = true := by decide +kernel
set_option maxRecDepth 65536 in
theorem w_heap : heapFits about1 = true := by decide +kernel
set_option maxRecDepth 65536 in
theorem w_runnable : about1.curStatus? = some .runnable := by decide +kernel
set_option maxRecDepth 65536 in
theorem w_alone : about1.alone = true := by decide +kernel
set_option maxRecDepth 65536 in
theorem w_named : about1.methodNamed? x = some theMethod := by decide +kernel
set_option maxRecDepth 65536 in
theorem w_hears : about1.hears theMethod below0 = true := by decide +kernel
set_option maxRecDepth 65536 in
theorem w_ripe : about1.ripe theMethod args0 below0 = true := by decide +kernel
theorem w_running : about1.status = .running := rfl
set_option maxRecDepth 65536 in
theorem w_room : about1.hasRoom e0.platform room_1 = true :=
  launch0.hasRoom_least _ room_1 (by decide +kernel) (by decide +kernel) (by decide +kernel) (by decide +kernel) (by decide +kernel) (by decide +kernel)
theorem allAtoms_all (ts : List Jvm.Cond) (a : Array Jvm.Value) (st : Jvm.State) : (allAtoms ts).before a st = ts.all (fun c => c.before a st) := by
  induction ts with
  | nil => rfl
  | cons c t ih =>
    show (Jvm.Cond.and c (allAtoms t)).before a st = _
    rw [Jvm.Cond.before_and, ih, List.all_cons]
def words1 : List Jvm.Cond := Jvm.Cond.code x code maxLocals ret :: tables_1
/-- a 'code' word, met by the world's own term for the bytes: nothing is compared byte by byte -/
theorem code_word {y : MethodName} {bytes : ByteArray} {mx : Nat} {rt : Option FieldType} {a : Array Value} {s : State} {m : MethodId} {meth : Method} {c : Code} (h1 : s.methodNamed? y = some m) (h2 : s.vm.method? m = some meth) (h3 : meth.code = some c) (h4 : c.code = bytes)
    (h5 : (c.maxLocals == mx && c.exceptionTable.isEmpty && decide (c.maxStack ≤ mostOperands) && decide (meth.sig.returnType = rt) && !meth.locks && decide (parseMethodDescriptor y.desc = some meth.sig)) = true) : (Jvm.Cond.code y bytes mx rt).before a s = true := by
  simp only [Bool.and_eq_true, beq_iff_eq, Bool.not_eq_true', decide_eq_true_eq] at h5
  obtain ⟨⟨⟨⟨⟨g1, g2⟩, g3⟩, g4⟩, g5⟩, g6⟩ := h5
  simp [Cond.before, Cond.holds, Cond.value, h1, h2, h3, h4, g1, g2, g3, g4, g5, g6]
def isCode : Jvm.Cond → Bool
  | .code _ _ _ _ => true
  | _ => false
theorem all_split {L : List Jvm.Cond} {P : Jvm.Cond → Bool} (h1 : L.all (fun c => isCode c || P c) = true) (h2 : ∀ c ∈ L.filter isCode, P c = true) : L.all P = true := by
  refine List.all_eq_true.mpr fun c hc => ?_
  have h := List.all_eq_true.mp h1 c hc
  rcases Bool.eq_false_or_eq_true (isCode c) with hi | hi
  · exact h2 c (List.mem_filter.mpr ⟨hc, hi⟩)
  · simpa [hi] using h
set_option maxRecDepth 65536 in
theorem w_c0 : (Jvm.Cond.code x code maxLocals ret).before args0 about1 = true := code_word (m := ⟨1, 1⟩) (meth := k1m1) (c := k1c1) (by decide +kernel) rfl rfl rfl (by decide +kernel)
set_option maxRecDepth 65536 in
theorem w_c1 : (Jvm.Cond.code ({ cls := "com/example/oceanus/oceanus/analysis/Taken", name := "<init>", desc := "([I[I)V" } : Jvm.MethodName) prog_26_method_1_code (3 : Nat) (Option.none : Option Jvm.ClassFile.FieldType)).before args0 about1 = true := code_word (m := ⟨3, 0⟩) (meth := k3m0) (c := k3c0) (by decide +kernel) rfl rfl rfl (by decide +kernel)
set_option maxRecDepth 65536 in
theorem w_c2 : (Jvm.Cond.code ({ cls := "java/lang/Record", name := "<init>", desc := "()V" } : Jvm.MethodName) jdk_30_method_1_code (1 : Nat) (Option.none : Option Jvm.ClassFile.FieldType)).before args0 about1 = true := code_word (m := ⟨2, 0⟩) (meth := k2m0) (c := k2c0) (by decide +kernel) rfl rfl rfl (by decide +kernel)
set_option maxRecDepth 65536 in
theorem w_c3 : (Jvm.Cond.code ({ cls := "java/lang/Object", name := "<init>", desc := "()V" } : Jvm.MethodName) object_method_1_code (1 : Nat) (Option.none : Option Jvm.ClassFile.FieldType)).before args0 about1 = true := code_word (m := ⟨0, 0⟩) (meth := k0m0) (c := k0c0) (by decide +kernel) rfl rfl rfl (by decide +kernel)
set_option maxRecDepth 65536 in
theorem w_c4 : (Jvm.Cond.code ({ cls := "com/example/oceanus/oceanus/analysis/Taken", name := "unmade", desc := "([DZ)I" } : Jvm.MethodName) prog_26_method_4_code (6 : Nat) (Option.some Jvm.ClassFile.FieldType.int)).before args0 about1 = true := code_word (m := ⟨3, 1⟩) (meth := k3m1) (c := k3c1) (by decide +kernel) rfl rfl rfl (by decide +kernel)
set_option maxRecDepth 65536 in
theorem w_c5 : (Jvm.Cond.code ({ cls := "com/example/oceanus/oceanus/analysis/TakenUnmadePinLaw", name := "lacks", desc := "(IIZ)Z" } : Jvm.MethodName) method_3_code (3 : Nat) (Option.some Jvm.ClassFile.FieldType.boolean)).before args0 about1 = true := code_word (m := ⟨1, 2⟩) (meth := k1m2) (c := k1c2) (by decide +kernel) rfl rfl rfl (by decide +kernel)
def codes1 : List Jvm.Cond := [Jvm.Cond.code x code maxLocals ret, Jvm.Cond.code ({ cls := "com/example/oceanus/oceanus/analysis/Taken", name := "<init>", desc := "([I[I)V" } : Jvm.MethodName) prog_26_method_1_code (3 : Nat) (Option.none : Option Jvm.ClassFile.FieldType), Jvm.Cond.code ({ cls := "java/lang/Record", name := "<init>", desc := "()V" } : Jvm.MethodName) jdk_30_method_1_code (1 : Nat) (Option.none : Option Jvm.ClassFile.FieldType), Jvm.Cond.code ({ cls := "java/lang/Object", name := "<init>", desc := "()V" } : Jvm.MethodName) object_method_1_code (1 : Nat) (Option.none : Option Jvm.ClassFile.FieldType), Jvm.Cond.code ({ cls := "com/example/oceanus/oceanus/analysis/Taken", name := "unmade", desc := "([DZ)I" } : Jvm.MethodName) prog_26_method_4_code (6 : Nat) (Option.some Jvm.ClassFile.FieldType.int), Jvm.Cond.code ({ cls := "com/example/oceanus/oceanus/analysis/TakenUnmadePinLaw", name := "lacks", desc := "(IIZ)Z" } : Jvm.MethodName) method_3_code (3 : Nat) (Option.some Jvm.ClassFile.FieldType.boolean)]
set_option maxRecDepth 65536 in
theorem codes_eq : words1.filter isCode = codes1 := rfl
theorem w_codes : ∀ c ∈ words1.filter isCode, c.before args0 about1 = true := by
  rw [codes_eq]
  intro c hc
  simp only [codes1, List.mem_cons, List.not_mem_nil, or_false] at hc
  rcases hc with rfl | rfl | rfl | rfl | rfl | rfl
  · exact w_c0
  · exact w_c1
  · exact w_c2
  · exact w_c3
  · exact w_c4
  · exact w_c5
set_option maxRecDepth 65536 in
theorem w_t1 : (words1.take 24).all (fun c => isCode c || c.before args0 about1) = true := by decide +kernel
set_option maxRecDepth 65536 in
theorem w_t2 : (words1.drop 24).all (fun c => isCode c || c.before args0 about1) = true := by decide +kernel
theorem w_tables : (allAtoms (Jvm.Cond.code x code maxLocals ret :: tables_1)).before args0 about1 = true := by
  rw [allAtoms_all]
  show words1.all (fun c => c.before args0 about1) = true
  refine all_split ?_ w_codes
  rw [← List.take_append_drop 24 words1, List.all_append, w_t1, w_t2]
  rfl
set_option maxRecDepth 65536 in
theorem w_case : (Jvm.Cond.and given_1 narrow_1).before args0 about1 = true := by decide +kernel
theorem w_applies : (headSpec (Jvm.Cond.code x code maxLocals ret :: tables_1) room_1).applies x e0.platform about1 = true :=
  (Spec.applies_iff w_frames).mpr ⟨w_running, w_runnable, w_alone, w_named, w_hears, w_ripe, w_room, w_tables⟩
theorem atStart : AtStart classFile x code maxLocals ret World_1 tables_1 room_1 Calls_1 rest_1 Pre_1 launch0 p0 e0 about1 theMethod args0 below0 :=
  ⟨lists_1, trivial, launch0.admits_env _ _ _, launch0.least_env, fairChoices_fair.cas, fairChoices_fair.clock, w_frames, w_args, w_heap, w_applies, trivial, trivial, w_case⟩
end start1
theorem witness_1 : WitnessClaimed_1 := ⟨start1.p0, start1.e0, start1.about1, start1.theMethod, start1.args0, start1.below0, start1.atStart⟩
end Jvm.Pilot.@@N@@
