import JvmDerived
import JvmDerived.Pilot.@@N@@Statement
import JvmDerived.Pilot.@@N@@Code
set_option linter.unusedVariables false
set_option linter.unusedSimpArgs false
namespace Jvm.RoadKit
open Sem ClassFile Op Lib Jvm.Stand Jvm.Free Jvm.LawKit
theorem own_getDI (L : List Int32) (i : Nat) (d : Int32) : (L.map Value.int).getD i (.int d) = .int (L.getD i d) := by simp [List.getD, List.getElem?_map]
theorem own_getDJ (L : List Int64) (i : Nat) (d : Int64) : (L.map Value.long).getD i (.long d) = .long (L.getD i d) := by simp [List.getD, List.getElem?_map]
theorem own_getDD (L : List UInt64) (i : Nat) (d : UInt64) : (L.map Value.double).getD i (.double d) = .double (L.getD i d) := by simp [List.getD, List.getElem?_map]
end Jvm.RoadKit
@@BLOCK:NumsL.lean.txt@@
namespace Jvm.OwnSt
open Sem ClassFile Op Lib Jvm.Free Jvm.Stand Jvm.RoadKit
abbrev lv (x : Int64) : Slot := .val (.long x)
abbrev dv (x : UInt64) : Slot := .val (.double x)
def Gd (tb : Tables) (T : State) (m : MethodId) (c : Code) (below : List Frame) (code : ByteArray) : Prop := At T m c below ∧ tb.exec = Jvm.exec ∧ c.code = code
theorem gd {p : Program} {l : Launch} {e : Env} {R : Room} {s : State} {m : MethodId} {args : Array Value} {below : List Frame} {meth : Method} {c : Code} {T : State} {locs : List Loc} {cells slots : Nat} {code : ByteArray} (X : Stand p l e R s m args below meth c T locs cells slots) (hx : p.tables.exec = Jvm.exec) (hby : c.code = code) : Gd p.tables T m c below code := ⟨X.here, hx, hby⟩
section Steps
variable {tb : Tables} [Ours tb] {e : Env} {below : List Frame} {T target : State} {m : MethodId} {c : Code} {pc : Nat} {L L' : Array Slot} {S : List Value} {code : ByteArray}
theorem miload (pc' : Nat) (G : Gd tb T m c below code) {k : Nat} {v : Int32} (hd : decode code pc = .ok (.iload k, 2)) (hl : L[k]? = some (.val (.int v))) (hp : pc + 2 = pc') (hr : Steps tb e below (T.setTop (mkF m pc' L (.int v :: S))) target) : Steps tb e below (T.setTop (mkF m pc L S)) target := by
  subst hp; exact XS.iload G.1 G.2.1 rfl (hb G.2.2 hd) hl hr
theorem miloadN (pc' : Nat) (G : Gd tb T m c below code) {k : Fin 4} {v : Int32} (hd : decode code pc = .ok (.iload_n k, 1)) (hl : L[k.val]? = some (.val (.int v))) (hp : pc + 1 = pc') (hr : Steps tb e below (T.setTop (mkF m pc' L (.int v :: S))) target) : Steps tb e below (T.setTop (mkF m pc L S)) target := by
  subst hp; exact XS.iloadN G.1 G.2.1 rfl (hb G.2.2 hd) hl hr
theorem mistore (pc' : Nat) (G : Gd tb T m c below code) {k : Nat} {x : Int32} (hd : decode code pc = .ok (.istore k, 2)) (L' : Array Slot) (hl : storeLocals L k (.int x) = some L') (hp : pc + 2 = pc') (hr : Steps tb e below (T.setTop (mkF m pc' L' S)) target) : Steps tb e below (T.setTop (mkF m pc L (.int x :: S))) target := by
  subst hp; exact XS.istore G.1 G.2.1 rfl (hb G.2.2 hd) rfl hl hr
theorem mistoreN (pc' : Nat) (G : Gd tb T m c below code) {k : Fin 4} {x : Int32} (hd : decode code pc = .ok (.istore_n k, 1)) (L' : Array Slot) (hl : storeLocals L k.val (.int x) = some L') (hp : pc + 1 = pc') (hr : Steps tb e below (T.setTop (mkF m pc' L' S)) target) : Steps tb e below (T.setTop (mkF m pc L (.int x :: S))) target := by
  subst hp; exact XS.istoreN G.1 G.2.1 rfl (hb G.2.2 hd) rfl hl hr
theorem mlload (pc' : Nat) (G : Gd tb T m c below code) {k : Nat} {v : Int64} (hd : decode code pc = .ok (.lload k, 2)) (hl : L[k]? = some (.val (.long v))) (hp : pc + 2 = pc') (hr : Steps tb e below (T.setTop (mkF m pc' L (.long v :: S))) target) : Steps tb e below (T.setTop (mkF m pc L S)) target := by
  subst hp; exact XS.lload G.1 G.2.1 rfl (hb G.2.2 hd) hl hr
theorem mlloadN (pc' : Nat) (G : Gd tb T m c below code) {k : Fin 4} {v : Int64} (hd : decode code pc = .ok (.lload_n k, 1)) (hl : L[k.val]? = some (.val (.long v))) (hp : pc + 1 = pc') (hr : Steps tb e below (T.setTop (mkF m pc' L (.long v :: S))) target) : Steps tb e below (T.setTop (mkF m pc L S)) target := by
  subst hp; exact XS.lloadN G.1 G.2.1 rfl (hb G.2.2 hd) hl hr
theorem mlstore (pc' : Nat) (G : Gd tb T m c below code) {k : Nat} {x : Int64} (hd : decode code pc = .ok (.lstore k, 2)) (L' : Array Slot) (hl : storeLocals L k (.long x) = some L') (hp : pc + 2 = pc') (hr : Steps tb e below (T.setTop (mkF m pc' L' S)) target) : Steps tb e below (T.setTop (mkF m pc L (.long x :: S))) target := by
  subst hp; exact XS.lstore G.1 G.2.1 rfl (hb G.2.2 hd) rfl hl hr
theorem mlstoreN (pc' : Nat) (G : Gd tb T m c below code) {k : Fin 4} {x : Int64} (hd : decode code pc = .ok (.lstore_n k, 1)) (L' : Array Slot) (hl : storeLocals L k.val (.long x) = some L') (hp : pc + 1 = pc') (hr : Steps tb e below (T.setTop (mkF m pc' L' S)) target) : Steps tb e below (T.setTop (mkF m pc L (.long x :: S))) target := by
  subst hp; exact XS.lstoreN G.1 G.2.1 rfl (hb G.2.2 hd) rfl hl hr
theorem mdload (pc' : Nat) (G : Gd tb T m c below code) {k : Nat} {v : UInt64} (hd : decode code pc = .ok (.dload k, 2)) (hl : L[k]? = some (.val (.double v))) (hp : pc + 2 = pc') (hr : Steps tb e below (T.setTop (mkF m pc' L (.double v :: S))) target) : Steps tb e below (T.setTop (mkF m pc L S)) target := by
  subst hp; exact XS.dload G.1 G.2.1 rfl (hb G.2.2 hd) hl hr
theorem mdloadN (pc' : Nat) (G : Gd tb T m c below code) {k : Fin 4} {v : UInt64} (hd : decode code pc = .ok (.dload_n k, 1)) (hl : L[k.val]? = some (.val (.double v))) (hp : pc + 1 = pc') (hr : Steps tb e below (T.setTop (mkF m pc' L (.double v :: S))) target) : Steps tb e below (T.setTop (mkF m pc L S)) target := by
  subst hp; exact XS.dloadN G.1 G.2.1 rfl (hb G.2.2 hd) hl hr
theorem mdstore (pc' : Nat) (G : Gd tb T m c below code) {k : Nat} {x : UInt64} (hd : decode code pc = .ok (.dstore k, 2)) (L' : Array Slot) (hl : storeLocals L k (.double x) = some L') (hp : pc + 2 = pc') (hr : Steps tb e below (T.setTop (mkF m pc' L' S)) target) : Steps tb e below (T.setTop (mkF m pc L (.double x :: S))) target := by
  subst hp; exact XS.dstore G.1 G.2.1 rfl (hb G.2.2 hd) rfl hl hr
theorem mdstoreN (pc' : Nat) (G : Gd tb T m c below code) {k : Fin 4} {x : UInt64} (hd : decode code pc = .ok (.dstore_n k, 1)) (L' : Array Slot) (hl : storeLocals L k.val (.double x) = some L') (hp : pc + 1 = pc') (hr : Steps tb e below (T.setTop (mkF m pc' L' S)) target) : Steps tb e below (T.setTop (mkF m pc L (.double x :: S))) target := by
  subst hp; exact XS.dstoreN G.1 G.2.1 rfl (hb G.2.2 hd) rfl hl hr
theorem maload (pc' : Nat) (G : Gd tb T m c below code) {k : Nat} {v : Value} (hd : decode code pc = .ok (.aload k, 2)) (hl : L[k]? = some (.val v)) (hv : v.isRef = true) (hp : pc + 2 = pc') (hr : Steps tb e below (T.setTop (mkF m pc' L (v :: S))) target) : Steps tb e below (T.setTop (mkF m pc L S)) target := by
  subst hp; exact XS.aload G.1 G.2.1 rfl (hb G.2.2 hd) hl hv hr
theorem maloadN (pc' : Nat) (G : Gd tb T m c below code) {k : Fin 4} {v : Value} (hd : decode code pc = .ok (.aload_n k, 1)) (hl : L[k.val]? = some (.val v)) (hv : v.isRef = true) (hp : pc + 1 = pc') (hr : Steps tb e below (T.setTop (mkF m pc' L (v :: S))) target) : Steps tb e below (T.setTop (mkF m pc L S)) target := by
  subst hp; exact XS.aloadN G.1 G.2.1 rfl (hb G.2.2 hd) hl hv hr
theorem mastore (pc' : Nat) (G : Gd tb T m c below code) {k : Nat} {x : Value} (hd : decode code pc = .ok (.astore k, 2)) (hv : x.isRef = true) (L' : Array Slot) (hl : storeLocals L k x = some L') (hp : pc + 2 = pc') (hr : Steps tb e below (T.setTop (mkF m pc' L' S)) target) : Steps tb e below (T.setTop (mkF m pc L (x :: S))) target := by
  subst hp; exact XS.astore G.1 G.2.1 rfl (hb G.2.2 hd) rfl hv hl hr
theorem mastoreN (pc' : Nat) (G : Gd tb T m c below code) {k : Fin 4} {x : Value} (hd : decode code pc = .ok (.astore_n k, 1)) (hv : x.isRef = true) (L' : Array Slot) (hl : storeLocals L k.val x = some L') (hp : pc + 1 = pc') (hr : Steps tb e below (T.setTop (mkF m pc' L' S)) target) : Steps tb e below (T.setTop (mkF m pc L (x :: S))) target := by
  subst hp; exact XS.astoreN G.1 G.2.1 rfl (hb G.2.2 hd) rfl hv hl hr
theorem miconst (pc' : Nat) (G : Gd tb T m c below code) {i : Int} {v : Int32} (hd : decode code pc = .ok (.iconst i, 1)) (hv : Int32.ofInt i = v) (hp : pc + 1 = pc') (hr : Steps tb e below (T.setTop (mkF m pc' L (.int v :: S))) target) : Steps tb e below (T.setTop (mkF m pc L S)) target := by
  subst hp; subst hv; exact XS.iconst G.1 G.2.1 rfl (hb G.2.2 hd) hr
theorem mbipush (pc' : Nat) (G : Gd tb T m c below code) {i : Int} {v : Int32} (hd : decode code pc = .ok (.bipush i, 2)) (hv : (Int8.ofInt i).toInt32 = v) (hp : pc + 2 = pc') (hr : Steps tb e below (T.setTop (mkF m pc' L (.int v :: S))) target) : Steps tb e below (T.setTop (mkF m pc L S)) target := by
  subst hp; subst hv; exact XS.bipush G.1 G.2.1 rfl (hb G.2.2 hd) hr
theorem msipush (pc' : Nat) (G : Gd tb T m c below code) {i : Int} {v : Int32} (hd : decode code pc = .ok (.sipush i, 3)) (hv : (Int16.ofInt i).toInt32 = v) (hp : pc + 3 = pc') (hr : Steps tb e below (T.setTop (mkF m pc' L (.int v :: S))) target) : Steps tb e below (T.setTop (mkF m pc L S)) target := by
  subst hp; subst hv; exact XS.sipush G.1 G.2.1 rfl (hb G.2.2 hd) hr
theorem mlconst (pc' : Nat) (G : Gd tb T m c below code) {k : Fin 2} {v : Int64} (hd : decode code pc = .ok (.lconst k, 1)) (hv : Int64.ofNat k = v) (hp : pc + 1 = pc') (hr : Steps tb e below (T.setTop (mkF m pc' L (.long v :: S))) target) : Steps tb e below (T.setTop (mkF m pc L S)) target := by
  subst hp; subst hv; exact XS.lconst G.1 G.2.1 rfl (hb G.2.2 hd) hr
theorem mdconst0 (pc' : Nat) (G : Gd tb T m c below code) {v : UInt64} (hd : decode code pc = .ok (.dconst 0, 1)) (hv : FP.dconst0 = v) (hp : pc + 1 = pc') (hr : Steps tb e below (T.setTop (mkF m pc' L (.double v :: S))) target) : Steps tb e below (T.setTop (mkF m pc L S)) target := by
  subst hp; exact XS.dconst0 G.1 G.2.1 rfl (hb G.2.2 hd) hv hr
theorem mdconst1 (pc' : Nat) (G : Gd tb T m c below code) {v : UInt64} (hd : decode code pc = .ok (.dconst 1, 1)) (hv : FP.dconst1 = v) (hp : pc + 1 = pc') (hr : Steps tb e below (T.setTop (mkF m pc' L (.double v :: S))) target) : Steps tb e below (T.setTop (mkF m pc L S)) target := by
  subst hp; exact XS.dconst1 G.1 G.2.1 rfl (hb G.2.2 hd) hv hr
theorem maconst_null (pc' : Nat) (G : Gd tb T m c below code)  (hd : decode code pc = .ok (.aconst_null, 1)) (hp : pc + 1 = pc') (hr : Steps tb e below (T.setTop (mkF m pc' L (.null :: S))) target) : Steps tb e below (T.setTop (mkF m pc L S)) target := by
  subst hp; exact XS.aconstNull G.1 G.2.1 rfl (hb G.2.2 hd)  hr
theorem miadd (pc' : Nat) (G : Gd tb T m c below code) {x : Int32} {y : Int32} {v : Int32} (hd : decode code pc = .ok (.iadd, 1)) (hv : x + y = v) (hp : pc + 1 = pc') (hr : Steps tb e below (T.setTop (mkF m pc' L (.int v :: S))) target) : Steps tb e below (T.setTop (mkF m pc L (.int y :: .int x :: S))) target := by
  subst hp; subst hv; exact XS.iadd G.1 G.2.1 rfl (hb G.2.2 hd) rfl  hr
theorem misub (pc' : Nat) (G : Gd tb T m c below code) {x : Int32} {y : Int32} {v : Int32} (hd : decode code pc = .ok (.isub, 1)) (hv : x - y = v) (hp : pc + 1 = pc') (hr : Steps tb e below (T.setTop (mkF m pc' L (.int v :: S))) target) : Steps tb e below (T.setTop (mkF m pc L (.int y :: .int x :: S))) target := by
  subst hp; subst hv; exact XS.isub G.1 G.2.1 rfl (hb G.2.2 hd) rfl  hr
theorem mimul (pc' : Nat) (G : Gd tb T m c below code) {x : Int32} {y : Int32} {v : Int32} (hd : decode code pc = .ok (.imul, 1)) (hv : x * y = v) (hp : pc + 1 = pc') (hr : Steps tb e below (T.setTop (mkF m pc' L (.int v :: S))) target) : Steps tb e below (T.setTop (mkF m pc L (.int y :: .int x :: S))) target := by
  subst hp; subst hv; exact XS.imul G.1 G.2.1 rfl (hb G.2.2 hd) rfl  hr
theorem miand (pc' : Nat) (G : Gd tb T m c below code) {x : Int32} {y : Int32} {v : Int32} (hd : decode code pc = .ok (.iand, 1)) (hv : x &&& y = v) (hp : pc + 1 = pc') (hr : Steps tb e below (T.setTop (mkF m pc' L (.int v :: S))) target) : Steps tb e below (T.setTop (mkF m pc L (.int y :: .int x :: S))) target := by
  subst hp; subst hv; exact XS.iand G.1 G.2.1 rfl (hb G.2.2 hd) rfl  hr
theorem mior (pc' : Nat) (G : Gd tb T m c below code) {x : Int32} {y : Int32} {v : Int32} (hd : decode code pc = .ok (.ior, 1)) (hv : x ||| y = v) (hp : pc + 1 = pc') (hr : Steps tb e below (T.setTop (mkF m pc' L (.int v :: S))) target) : Steps tb e below (T.setTop (mkF m pc L (.int y :: .int x :: S))) target := by
  subst hp; subst hv; exact XS.ior G.1 G.2.1 rfl (hb G.2.2 hd) rfl  hr
theorem mixor (pc' : Nat) (G : Gd tb T m c below code) {x : Int32} {y : Int32} {v : Int32} (hd : decode code pc = .ok (.ixor, 1)) (hv : x ^^^ y = v) (hp : pc + 1 = pc') (hr : Steps tb e below (T.setTop (mkF m pc' L (.int v :: S))) target) : Steps tb e below (T.setTop (mkF m pc L (.int y :: .int x :: S))) target := by
  subst hp; subst hv; exact XS.ixor G.1 G.2.1 rfl (hb G.2.2 hd) rfl  hr
theorem midiv (pc' : Nat) (G : Gd tb T m c below code) {x : Int32} {y : Int32} {v : Int32} (hd : decode code pc = .ok (.idiv, 1)) (hz : y ≠ 0) (hv : x / y = v) (hp : pc + 1 = pc') (hr : Steps tb e below (T.setTop (mkF m pc' L (.int v :: S))) target) : Steps tb e below (T.setTop (mkF m pc L (.int y :: .int x :: S))) target := by
  subst hp; subst hv; exact XS.idiv G.1 G.2.1 rfl (hb G.2.2 hd) rfl hz hr
theorem mladd (pc' : Nat) (G : Gd tb T m c below code) {x : Int64} {y : Int64} {v : Int64} (hd : decode code pc = .ok (.ladd, 1)) (hv : x + y = v) (hp : pc + 1 = pc') (hr : Steps tb e below (T.setTop (mkF m pc' L (.long v :: S))) target) : Steps tb e below (T.setTop (mkF m pc L (.long y :: .long x :: S))) target := by
  subst hp; subst hv; exact XS.ladd G.1 G.2.1 rfl (hb G.2.2 hd) rfl  hr
theorem mlsub (pc' : Nat) (G : Gd tb T m c below code) {x : Int64} {y : Int64} {v : Int64} (hd : decode code pc = .ok (.lsub, 1)) (hv : x - y = v) (hp : pc + 1 = pc') (hr : Steps tb e below (T.setTop (mkF m pc' L (.long v :: S))) target) : Steps tb e below (T.setTop (mkF m pc L (.long y :: .long x :: S))) target := by
  subst hp; subst hv; exact XS.lsub G.1 G.2.1 rfl (hb G.2.2 hd) rfl  hr
theorem mlmul (pc' : Nat) (G : Gd tb T m c below code) {x : Int64} {y : Int64} {v : Int64} (hd : decode code pc = .ok (.lmul, 1)) (hv : x * y = v) (hp : pc + 1 = pc') (hr : Steps tb e below (T.setTop (mkF m pc' L (.long v :: S))) target) : Steps tb e below (T.setTop (mkF m pc L (.long y :: .long x :: S))) target := by
  subst hp; subst hv; exact XS.lmul G.1 G.2.1 rfl (hb G.2.2 hd) rfl  hr
theorem mland (pc' : Nat) (G : Gd tb T m c below code) {x : Int64} {y : Int64} {v : Int64} (hd : decode code pc = .ok (.land, 1)) (hv : x &&& y = v) (hp : pc + 1 = pc') (hr : Steps tb e below (T.setTop (mkF m pc' L (.long v :: S))) target) : Steps tb e below (T.setTop (mkF m pc L (.long y :: .long x :: S))) target := by
  subst hp; subst hv; exact XS.land G.1 G.2.1 rfl (hb G.2.2 hd) rfl  hr
theorem mlor (pc' : Nat) (G : Gd tb T m c below code) {x : Int64} {y : Int64} {v : Int64} (hd : decode code pc = .ok (.lor, 1)) (hv : x ||| y = v) (hp : pc + 1 = pc') (hr : Steps tb e below (T.setTop (mkF m pc' L (.long v :: S))) target) : Steps tb e below (T.setTop (mkF m pc L (.long y :: .long x :: S))) target := by
  subst hp; subst hv; exact XS.lor G.1 G.2.1 rfl (hb G.2.2 hd) rfl  hr
theorem mlxor (pc' : Nat) (G : Gd tb T m c below code) {x : Int64} {y : Int64} {v : Int64} (hd : decode code pc = .ok (.lxor, 1)) (hv : x ^^^ y = v) (hp : pc + 1 = pc') (hr : Steps tb e below (T.setTop (mkF m pc' L (.long v :: S))) target) : Steps tb e below (T.setTop (mkF m pc L (.long y :: .long x :: S))) target := by
  subst hp; subst hv; exact XS.lxor G.1 G.2.1 rfl (hb G.2.2 hd) rfl  hr
theorem mldiv (pc' : Nat) (G : Gd tb T m c below code) {x : Int64} {y : Int64} {v : Int64} (hd : decode code pc = .ok (.ldiv, 1)) (hz : y ≠ 0) (hv : x / y = v) (hp : pc + 1 = pc') (hr : Steps tb e below (T.setTop (mkF m pc' L (.long v :: S))) target) : Steps tb e below (T.setTop (mkF m pc L (.long y :: .long x :: S))) target := by
  subst hp; subst hv; exact XS.ldiv G.1 G.2.1 rfl (hb G.2.2 hd) rfl hz hr
theorem mlrem (pc' : Nat) (G : Gd tb T m c below code) {x : Int64} {y : Int64} {v : Int64} (hd : decode code pc = .ok (.lrem, 1)) (hz : y ≠ 0) (hv : x - (x / y) * y = v) (hp : pc + 1 = pc') (hr : Steps tb e below (T.setTop (mkF m pc' L (.long v :: S))) target) : Steps tb e below (T.setTop (mkF m pc L (.long y :: .long x :: S))) target := by
  subst hp; subst hv; exact XS.lrem G.1 G.2.1 rfl (hb G.2.2 hd) rfl hz hr
theorem mirem (pc' : Nat) (G : Gd tb T m c below code) {x : Int32} {y : Int32} {v : Int32} (hd : decode code pc = .ok (.irem, 1)) (hz : y ≠ 0) (hv : x - (x / y) * y = v) (hp : pc + 1 = pc') (hr : Steps tb e below (T.setTop (mkF m pc' L (.int v :: S))) target) : Steps tb e below (T.setTop (mkF m pc L (.int y :: .int x :: S))) target := by
  subst hp; subst hv; exact XS.irem G.1 G.2.1 rfl (hb G.2.2 hd) rfl hz hr
theorem mishl (pc' : Nat) (G : Gd tb T m c below code) {x : Int32} {y : Int32} {v : Int32} (hd : decode code pc = .ok (.ishl, 1)) (hv : x <<< (y &&& 31) = v) (hp : pc + 1 = pc') (hr : Steps tb e below (T.setTop (mkF m pc' L (.int v :: S))) target) : Steps tb e below (T.setTop (mkF m pc L (.int y :: .int x :: S))) target := by
  subst hp; subst hv; exact XS.ishl G.1 G.2.1 rfl (hb G.2.2 hd) rfl  hr
theorem mishr (pc' : Nat) (G : Gd tb T m c below code) {x : Int32} {y : Int32} {v : Int32} (hd : decode code pc = .ok (.ishr, 1)) (hv : x >>> (y &&& 31) = v) (hp : pc + 1 = pc') (hr : Steps tb e below (T.setTop (mkF m pc' L (.int v :: S))) target) : Steps tb e below (T.setTop (mkF m pc L (.int y :: .int x :: S))) target := by
  subst hp; subst hv; exact XS.ishr G.1 G.2.1 rfl (hb G.2.2 hd) rfl  hr
theorem miushr (pc' : Nat) (G : Gd tb T m c below code) {x : Int32} {y : Int32} {v : Int32} (hd : decode code pc = .ok (.iushr, 1)) (hv : (x.toUInt32 >>> (y &&& 31).toUInt32).toInt32 = v) (hp : pc + 1 = pc') (hr : Steps tb e below (T.setTop (mkF m pc' L (.int v :: S))) target) : Steps tb e below (T.setTop (mkF m pc L (.int y :: .int x :: S))) target := by
  subst hp; subst hv; exact XS.iushr G.1 G.2.1 rfl (hb G.2.2 hd) rfl  hr
theorem mlshl (pc' : Nat) (G : Gd tb T m c below code) {x : Int64} {y : Int32} {v : Int64} (hd : decode code pc = .ok (.lshl, 1)) (hv : x <<< (y &&& 0x3f).toInt64 = v) (hp : pc + 1 = pc') (hr : Steps tb e below (T.setTop (mkF m pc' L (.long v :: S))) target) : Steps tb e below (T.setTop (mkF m pc L (.int y :: .long x :: S))) target := by
  subst hp; subst hv; exact XS.lshl G.1 G.2.1 rfl (hb G.2.2 hd) rfl  hr
theorem mlshr (pc' : Nat) (G : Gd tb T m c below code) {x : Int64} {y : Int32} {v : Int64} (hd : decode code pc = .ok (.lshr, 1)) (hv : x >>> (y &&& 0x3f).toInt64 = v) (hp : pc + 1 = pc') (hr : Steps tb e below (T.setTop (mkF m pc' L (.long v :: S))) target) : Steps tb e below (T.setTop (mkF m pc L (.int y :: .long x :: S))) target := by
  subst hp; subst hv; exact XS.lshr G.1 G.2.1 rfl (hb G.2.2 hd) rfl  hr
theorem mlushr (pc' : Nat) (G : Gd tb T m c below code) {x : Int64} {y : Int32} {v : Int64} (hd : decode code pc = .ok (.lushr, 1)) (hv : (x.toUInt64 >>> (y &&& 0x3f).toInt64.toUInt64).toInt64 = v) (hp : pc + 1 = pc') (hr : Steps tb e below (T.setTop (mkF m pc' L (.long v :: S))) target) : Steps tb e below (T.setTop (mkF m pc L (.int y :: .long x :: S))) target := by
  subst hp; subst hv; exact XS.lushr G.1 G.2.1 rfl (hb G.2.2 hd) rfl  hr
theorem mineg (pc' : Nat) (G : Gd tb T m c below code) {x : Int32} (hd : decode code pc = .ok (.ineg, 1)) (hp : pc + 1 = pc') (hr : Steps tb e below (T.setTop (mkF m pc' L (.int (-x) :: S))) target) : Steps tb e below (T.setTop (mkF m pc L (.int x :: S))) target := by
  subst hp; exact XS.ineg G.1 G.2.1 rfl (hb G.2.2 hd) rfl hr
theorem mlneg (pc' : Nat) (G : Gd tb T m c below code) {x : Int64} (hd : decode code pc = .ok (.lneg, 1)) (hp : pc + 1 = pc') (hr : Steps tb e below (T.setTop (mkF m pc' L (.long (-x) :: S))) target) : Steps tb e below (T.setTop (mkF m pc L (.long x :: S))) target := by
  subst hp; exact XS.lneg G.1 G.2.1 rfl (hb G.2.2 hd) rfl hr
theorem mi2l (pc' : Nat) (G : Gd tb T m c below code) {x : Int32} (hd : decode code pc = .ok (.i2l, 1)) (hp : pc + 1 = pc') (hr : Steps tb e below (T.setTop (mkF m pc' L (.long (x.toInt64) :: S))) target) : Steps tb e below (T.setTop (mkF m pc L (.int x :: S))) target := by
  subst hp; exact XS.i2l G.1 G.2.1 rfl (hb G.2.2 hd) rfl hr
theorem ml2i (pc' : Nat) (G : Gd tb T m c below code) {x : Int64} (hd : decode code pc = .ok (.l2i, 1)) (hp : pc + 1 = pc') (hr : Steps tb e below (T.setTop (mkF m pc' L (.int (x.toInt32) :: S))) target) : Steps tb e below (T.setTop (mkF m pc L (.long x :: S))) target := by
  subst hp; exact XS.l2i G.1 G.2.1 rfl (hb G.2.2 hd) rfl hr
theorem mi2d (pc' : Nat) (G : Gd tb T m c below code) {x : Int32} (hd : decode code pc = .ok (.i2d, 1)) (hp : pc + 1 = pc') (hr : Steps tb e below (T.setTop (mkF m pc' L (.double (FP.i2d x) :: S))) target) : Steps tb e below (T.setTop (mkF m pc L (.int x :: S))) target := by
  subst hp; exact XS.i2dS G.1 G.2.1 rfl (hb G.2.2 hd) rfl rfl hr
theorem ml2d (pc' : Nat) (G : Gd tb T m c below code) {x : Int64} (hd : decode code pc = .ok (.l2d, 1)) (hp : pc + 1 = pc') (hr : Steps tb e below (T.setTop (mkF m pc' L (.double (FP.l2d x) :: S))) target) : Steps tb e below (T.setTop (mkF m pc L (.long x :: S))) target := by
  subst hp; exact XS.l2dS G.1 G.2.1 rfl (hb G.2.2 hd) rfl rfl hr
theorem mdneg (pc' : Nat) (G : Gd tb T m c below code) {x : UInt64} (hd : decode code pc = .ok (.dneg, 1)) (hp : pc + 1 = pc') (hr : Steps tb e below (T.setTop (mkF m pc' L (.double (FP.dneg x) :: S))) target) : Steps tb e below (T.setTop (mkF m pc L (.double x :: S))) target := by
  subst hp; exact XS.dnegS G.1 G.2.1 rfl (hb G.2.2 hd) rfl rfl hr
theorem md2i (pc' : Nat) (G : Gd tb T m c below code) {x : UInt64} (hd : decode code pc = .ok (.d2i, 1)) (hp : pc + 1 = pc') (hr : Steps tb e below (T.setTop (mkF m pc' L (.int (FP.d2i x) :: S))) target) : Steps tb e below (T.setTop (mkF m pc L (.double x :: S))) target := by
  subst hp; exact XS.d2iS G.1 G.2.1 rfl (hb G.2.2 hd) rfl rfl hr
theorem md2l (pc' : Nat) (G : Gd tb T m c below code) {x : UInt64} (hd : decode code pc = .ok (.d2l, 1)) (hp : pc + 1 = pc') (hr : Steps tb e below (T.setTop (mkF m pc' L (.long (FP.d2l x) :: S))) target) : Steps tb e below (T.setTop (mkF m pc L (.double x :: S))) target := by
  subst hp; exact XS.d2lS G.1 G.2.1 rfl (hb G.2.2 hd) rfl rfl hr
theorem mdadd (pc' : Nat) (G : Gd tb T m c below code) {x y : UInt64} (hd : decode code pc = .ok (.dadd, 1)) (hn : Jvm.Free.Fl.NoNaN64 (FP.dadd x y)) (hp : pc + 1 = pc') (hr : Steps tb e below (T.setTop (mkF m pc' L (.double (FP.dadd x y) :: S))) target) : Steps tb e below (T.setTop (mkF m pc L (.double y :: .double x :: S))) target := by
  subst hp; exact XS.daddS G.1 G.2.1 rfl (hb G.2.2 hd) rfl hn rfl hr
theorem mdsub (pc' : Nat) (G : Gd tb T m c below code) {x y : UInt64} (hd : decode code pc = .ok (.dsub, 1)) (hn : Jvm.Free.Fl.NoNaN64 (FP.dsub x y)) (hp : pc + 1 = pc') (hr : Steps tb e below (T.setTop (mkF m pc' L (.double (FP.dsub x y) :: S))) target) : Steps tb e below (T.setTop (mkF m pc L (.double y :: .double x :: S))) target := by
  subst hp; exact XS.dsubS G.1 G.2.1 rfl (hb G.2.2 hd) rfl hn rfl hr
theorem mdmul (pc' : Nat) (G : Gd tb T m c below code) {x y : UInt64} (hd : decode code pc = .ok (.dmul, 1)) (hn : Jvm.Free.Fl.NoNaN64 (FP.dmul x y)) (hp : pc + 1 = pc') (hr : Steps tb e below (T.setTop (mkF m pc' L (.double (FP.dmul x y) :: S))) target) : Steps tb e below (T.setTop (mkF m pc L (.double y :: .double x :: S))) target := by
  subst hp; exact XS.dmulS G.1 G.2.1 rfl (hb G.2.2 hd) rfl hn rfl hr
theorem mddiv (pc' : Nat) (G : Gd tb T m c below code) {x y : UInt64} (hd : decode code pc = .ok (.ddiv, 1)) (hn : Jvm.Free.Fl.NoNaN64 (FP.ddiv x y)) (hp : pc + 1 = pc') (hr : Steps tb e below (T.setTop (mkF m pc' L (.double (FP.ddiv x y) :: S))) target) : Steps tb e below (T.setTop (mkF m pc L (.double y :: .double x :: S))) target := by
  subst hp; exact XS.ddivS G.1 G.2.1 rfl (hb G.2.2 hd) rfl hn rfl hr
theorem mdcmp (pc' : Nat) (G : Gd tb T m c below code) {o : CmpOp} {x y : UInt64} (hd : decode code pc = .ok (.dcmp o, 1)) (hp : pc + 1 = pc') (hr : Steps tb e below (T.setTop (mkF m pc' L (.int (cmpValue (FP.dcmp x y) o) :: S))) target) : Steps tb e below (T.setTop (mkF m pc L (.double y :: .double x :: S))) target := by
  subst hp; exact XS.dcmpS G.1 G.2.1 rfl (hb G.2.2 hd) rfl rfl hr
theorem mlcmp (pc' : Nat) (G : Gd tb T m c below code) {x y : Int64} (hd : decode code pc = .ok (.lcmp, 1)) (hp : pc + 1 = pc') (hr : Steps tb e below (T.setTop (mkF m pc' L (.int (lcmpW x y) :: S))) target) : Steps tb e below (T.setTop (mkF m pc L (.long y :: .long x :: S))) target := by
  subst hp; exact XS.lcmp G.1 G.2.1 rfl (hb G.2.2 hd) rfl hr
theorem mdup (pc' : Nat) (G : Gd tb T m c below code) {x : Value} (hd : decode code pc = .ok (.dup, 1)) (hc : x.category = 1) (hp : pc + 1 = pc') (hr : Steps tb e below (T.setTop (mkF m pc' L (x :: x :: S))) target) : Steps tb e below (T.setTop (mkF m pc L (x :: S))) target := by
  subst hp; exact XS.dup G.1 G.2.1 rfl (hb G.2.2 hd) rfl hc hr
theorem mpop (pc' : Nat) (G : Gd tb T m c below code) {x : Value} (hd : decode code pc = .ok (.pop, 1)) (hc : x.category = 1) (hp : pc + 1 = pc') (hr : Steps tb e below (T.setTop (mkF m pc' L S)) target) : Steps tb e below (T.setTop (mkF m pc L (x :: S))) target := by
  subst hp; exact XS.pop G.1 G.2.1 rfl (hb G.2.2 hd) rfl hc hr
theorem mdup_x1 (pc' : Nat) (G : Gd tb T m c below code) {x y : Value} (hd : decode code pc = .ok (.dup_x1, 1)) (hc : x.category = 1) (hc' : y.category = 1) (hp : pc + 1 = pc') (hr : Steps tb e below (T.setTop (mkF m pc' L (x :: y :: x :: S))) target) : Steps tb e below (T.setTop (mkF m pc L (x :: y :: S))) target := by
  subst hp; exact XS.dupX1 G.1 G.2.1 rfl (hb G.2.2 hd) rfl hc hc' hr
theorem miinc (pc' : Nat) (G : Gd tb T m c below code) {k : Nat} {i : Int} {x : Int32} (hd : decode code pc = .ok (.iinc k i, 3)) (hl : L[k]? = some (.val (.int x))) (L' : Array Slot) (hl' : storeLocals L k (.int (x + Int32.ofInt i)) = some L') (hp : pc + 3 = pc') (hr : Steps tb e below (T.setTop (mkF m pc' L' S)) target) : Steps tb e below (T.setTop (mkF m pc L S)) target := by
  subst hp; exact XS.iinc G.1 G.2.1 rfl (hb G.2.2 hd) hl hl' hr
theorem mgoto (pc' : Nat) (G : Gd tb T m c below code) {o : Int} (hd : decode code pc = .ok (.goto o, 3)) (ho : 0 ≤ (pc : Int) + o) (hp : ((pc : Int) + o).toNat = pc') (hr : Steps tb e below (T.setTop (mkF m pc' L S)) target) : Steps tb e below (T.setTop (mkF m pc L S)) target := XS.goto G.1 G.2.1 rfl rfl (hb G.2.2 hd) ho hp hr
theorem mifYes (pc' : Nat) (G : Gd tb T m c below code) {cd : ClassFile.Cond} {o : Int} {x : Int32} (hd : decode code pc = .ok (.ifCond cd o, 3)) (hc : ifCond.holds cd x = true) (ho : 0 ≤ (pc : Int) + o) (hp : ((pc : Int) + o).toNat = pc') (hr : Steps tb e below (T.setTop (mkF m pc' L S)) target) : Steps tb e below (T.setTop (mkF m pc L (.int x :: S))) target := XS.ifYes G.1 G.2.1 rfl rfl (hb G.2.2 hd) rfl hc ho hp hr
theorem mifNo (pc' : Nat) (G : Gd tb T m c below code) {cd : ClassFile.Cond} {o : Int} {x : Int32} (hd : decode code pc = .ok (.ifCond cd o, 3)) (hc : ifCond.holds cd x = false) (hp : pc + 3 = pc') (hr : Steps tb e below (T.setTop (mkF m pc' L S)) target) : Steps tb e below (T.setTop (mkF m pc L (.int x :: S))) target := by
  subst hp; exact XS.ifNo G.1 G.2.1 rfl (hb G.2.2 hd) rfl hc hr
theorem micmpYes (pc' : Nat) (G : Gd tb T m c below code) {cd : ClassFile.Cond} {o : Int} {x y : Int32} (hd : decode code pc = .ok (.if_icmp cd o, 3)) (hc : if_icmp.holds cd x y = true) (ho : 0 ≤ (pc : Int) + o) (hp : ((pc : Int) + o).toNat = pc') (hr : Steps tb e below (T.setTop (mkF m pc' L S)) target) : Steps tb e below (T.setTop (mkF m pc L (.int y :: .int x :: S))) target := XS.icmpYes G.1 G.2.1 rfl rfl (hb G.2.2 hd) rfl hc ho hp hr
theorem micmpNo (pc' : Nat) (G : Gd tb T m c below code) {cd : ClassFile.Cond} {o : Int} {x y : Int32} (hd : decode code pc = .ok (.if_icmp cd o, 3)) (hc : if_icmp.holds cd x y = false) (hp : pc + 3 = pc') (hr : Steps tb e below (T.setTop (mkF m pc' L S)) target) : Steps tb e below (T.setTop (mkF m pc L (.int y :: .int x :: S))) target := by
  subst hp; exact XS.icmpNo G.1 G.2.1 rfl (hb G.2.2 hd) rfl hc hr
end Steps
section Arrays
variable {p : Program} {l : Launch} {e : Env} {R : Room} {s : State} {m : MethodId} {args : Array Value} {below : List Frame} {meth : Method} {c : Code} {T : State} {locs : List Loc} {cells slots : Nat} {Z : State} {h : Heap} {a : Addr} {k : ClassId} {z j : Int32} {vs : List Value} {dv : Value} {pc : Nat} {L : Array Slot} {S : List Value} {code : ByteArray} {target : State}
theorem wd {ws : List Cond} {a0 : Array Value} (hw : ∀ d ∈ ws, d.before a0 Z = true) (i : Nat) {d : Cond} (q : ws[i]? = some d) : d.before a0 Z = true := hw d (List.mem_of_getElem? q)
theorem miaload (pc' : Nat) (X : Stand p l e R s m args below meth c T locs cells slots) (hx : p.tables.exec = Jvm.exec) (hby : c.code = code) (hZ : Z.Warmed39 s.vm) (eT : T.heap = h) (F : Arv Z h a k .int z vs dv) {v : Int32} (hd : decode code pc = .ok (.iaload, 1)) (hin : ¬ j < 0 ∧ j < z) (hv : vs.getD j.toNatClampNeg dv = .int v) (hp : pc + 1 = pc') (hr : Steps p.tables e below (T.setTop (mkF m pc' L (.int v :: S))) target) : Steps p.tables e below (T.setTop (mkF m pc L (.int j :: .ref a :: S))) target := by
  subst hp
  obtain ⟨cl, A, -, q2, q3, H, -⟩ := F
  have hb' := inb_of q2 hin
  exact X.iaload hx (j := j) (v := .int v) (by rw [eT]; exact A.1) (State.isArrayOf_alike hZ.alike A.2.1) A.2.2 hb' (H.at hb' hv) (g := mkF m pc L (.int j :: .ref a :: S)) rfl rfl (hb hby hd) _ hr
theorem own_stI (X : Stand p l e R s m args below meth c T locs cells slots) (hx : p.tables.exec = Jvm.exec) (hby : c.code = code) (hZ : Z.Warmed39 s.vm) (eT : T.heap = h) (F : Arv Z h a k .int z vs dv) {v : Int32} (hd : decode code pc = .ok (.iastore, 1)) (hin : ¬ j < 0 ∧ j < z) (i : Nat) (hj : j.toNatClampNeg = i) (hi : i < vs.length) (L : Array Slot) (S : List Value) (pc' : Nat) (hp : pc + 1 = pc') :
    ∃ T' h', Stand p l e R s m args below meth c T' (locs ++ [⟨a, j.toNatClampNeg⟩]) cells slots ∧ T'.heap = h' ∧ Wr h h' a j.toNatClampNeg (.int v) ∧ Arv Z h' a k .int z (vs.set i (.int v)) dv ∧ ∀ target, Steps p.tables e below (T'.setTop (mkF m pc' L S)) target → Steps p.tables e below (T.setTop (mkF m pc L (.int v :: .int j :: .ref a :: S))) target := by
  subst hp
  obtain ⟨cl, A, q1, q2, q3, H, G⟩ := F
  obtain ⟨T', h', X', e', W, st⟩ := Jvm.RoadKit.stI X hx hZ eT A (j := j) (inb_of q2 hin) (g := mkF m pc L (.int v :: .int j :: .ref a :: S)) rfl rfl (hb hby hd)
  exact ⟨T', h', X', e', W, Arv.set A q1 q2 q3 H G rfl W i hj hi, st⟩
theorem mlaload (pc' : Nat) (X : Stand p l e R s m args below meth c T locs cells slots) (hx : p.tables.exec = Jvm.exec) (hby : c.code = code) (hZ : Z.Warmed39 s.vm) (eT : T.heap = h) (F : Arv Z h a k .long z vs dv) {v : Int64} (hd : decode code pc = .ok (.laload, 1)) (hin : ¬ j < 0 ∧ j < z) (hv : vs.getD j.toNatClampNeg dv = .long v) (hp : pc + 1 = pc') (hr : Steps p.tables e below (T.setTop (mkF m pc' L (.long v :: S))) target) : Steps p.tables e below (T.setTop (mkF m pc L (.int j :: .ref a :: S))) target := by
  subst hp
  obtain ⟨cl, A, -, q2, q3, H, -⟩ := F
  have hb' := inb_of q2 hin
  exact X.laload hx (j := j) (v := .long v) (by rw [eT]; exact A.1) (State.isArrayOf_alike hZ.alike A.2.1) A.2.2 hb' (H.at hb' hv) (g := mkF m pc L (.int j :: .ref a :: S)) rfl rfl (hb hby hd) _ hr
theorem own_stJ (X : Stand p l e R s m args below meth c T locs cells slots) (hx : p.tables.exec = Jvm.exec) (hby : c.code = code) (hZ : Z.Warmed39 s.vm) (eT : T.heap = h) (F : Arv Z h a k .long z vs dv) {v : Int64} (hd : decode code pc = .ok (.lastore, 1)) (hin : ¬ j < 0 ∧ j < z) (i : Nat) (hj : j.toNatClampNeg = i) (hi : i < vs.length) (L : Array Slot) (S : List Value) (pc' : Nat) (hp : pc + 1 = pc') :
    ∃ T' h', Stand p l e R s m args below meth c T' (locs ++ [⟨a, j.toNatClampNeg⟩]) cells slots ∧ T'.heap = h' ∧ Wr h h' a j.toNatClampNeg (.long v) ∧ Arv Z h' a k .long z (vs.set i (.long v)) dv ∧ ∀ target, Steps p.tables e below (T'.setTop (mkF m pc' L S)) target → Steps p.tables e below (T.setTop (mkF m pc L (.long v :: .int j :: .ref a :: S))) target := by
  subst hp
  obtain ⟨cl, A, q1, q2, q3, H, G⟩ := F
  obtain ⟨T', h', X', e', W, st⟩ := Jvm.RoadKit.stJ X hx hZ eT A (j := j) (inb_of q2 hin) (g := mkF m pc L (.long v :: .int j :: .ref a :: S)) rfl rfl (hb hby hd)
  exact ⟨T', h', X', e', W, Arv.set A q1 q2 q3 H G rfl W i hj hi, st⟩
theorem mdaload (pc' : Nat) (X : Stand p l e R s m args below meth c T locs cells slots) (hx : p.tables.exec = Jvm.exec) (hby : c.code = code) (hZ : Z.Warmed39 s.vm) (eT : T.heap = h) (F : Arv Z h a k .double z vs dv) {v : UInt64} (hd : decode code pc = .ok (.daload, 1)) (hin : ¬ j < 0 ∧ j < z) (hv : vs.getD j.toNatClampNeg dv = .double v) (hp : pc + 1 = pc') (hr : Steps p.tables e below (T.setTop (mkF m pc' L (.double v :: S))) target) : Steps p.tables e below (T.setTop (mkF m pc L (.int j :: .ref a :: S))) target := by
  subst hp
  obtain ⟨cl, A, -, q2, q3, H, -⟩ := F
  have hb' := inb_of q2 hin
  exact X.daload hx (j := j) (v := .double v) (by rw [eT]; exact A.1) (State.isArrayOf_alike hZ.alike A.2.1) A.2.2 hb' (H.at hb' hv) (g := mkF m pc L (.int j :: .ref a :: S)) rfl rfl (hb hby hd) _ hr
theorem own_stD (X : Stand p l e R s m args below meth c T locs cells slots) (hx : p.tables.exec = Jvm.exec) (hby : c.code = code) (hZ : Z.Warmed39 s.vm) (eT : T.heap = h) (F : Arv Z h a k .double z vs dv) {v : UInt64} (hd : decode code pc = .ok (.dastore, 1)) (hin : ¬ j < 0 ∧ j < z) (i : Nat) (hj : j.toNatClampNeg = i) (hi : i < vs.length) (L : Array Slot) (S : List Value) (pc' : Nat) (hp : pc + 1 = pc') :
    ∃ T' h', Stand p l e R s m args below meth c T' (locs ++ [⟨a, j.toNatClampNeg⟩]) cells slots ∧ T'.heap = h' ∧ Wr h h' a j.toNatClampNeg (.double v) ∧ Arv Z h' a k .double z (vs.set i (.double v)) dv ∧ ∀ target, Steps p.tables e below (T'.setTop (mkF m pc' L S)) target → Steps p.tables e below (T.setTop (mkF m pc L (.double v :: .int j :: .ref a :: S))) target := by
  subst hp
  obtain ⟨cl, A, q1, q2, q3, H, G⟩ := F
  obtain ⟨T', h', X', e', W, st⟩ := Jvm.RoadKit.stD X hx hZ eT A (j := j) (inb_of q2 hin) (g := mkF m pc L (.double v :: .int j :: .ref a :: S)) rfl rfl (hb hby hd)
  exact ⟨T', h', X', e', W, Arv.set A q1 q2 q3 H G rfl W i hj hi, st⟩
theorem mlen {ty : FieldType} (pc' : Nat) (X : Stand p l e R s m args below meth c T locs cells slots) (hx : p.tables.exec = Jvm.exec) (hby : c.code = code) (hZ : Z.Warmed39 s.vm) (eT : T.heap = h) (F : Arv Z h a k ty z vs dv) (hd : decode code pc = .ok (.arraylength, 1)) (hp : pc + 1 = pc') (hr : Steps p.tables e below (T.setTop (mkF m pc' L (.int z :: S))) target) : Steps p.tables e below (T.setTop (mkF m pc L (.ref a :: S))) target := by
  subst hp
  obtain ⟨cl, A, -, q2, q3, -, -⟩ := F
  refine X.arraylength hx (by rw [eT]; exact A.1) (State.isArrayOf_alike hZ.alike A.2.1) (g := mkF m pc L (.ref a :: S)) rfl rfl (hb hby hd) _ ?_
  rw [len_of q2 q3]
  exact hr
end Arrays
end Jvm.OwnSt
namespace Jvm.OwnFl
open Jvm.FP Jvm.FP.Core Jvm.Free.Fl Jvm.Op
/-- a double's value, in units of 2^-1074 -/
def zv (a : UInt64) : Int := zval b64 (val64 a)
theorem vv_ddiv (a b : UInt64) : val64 (FP.ddiv a b) = quotient b64 (val64 a) (val64 b) := val64_ddiv a b
theorem vv_dmul (a b : UInt64) : val64 (FP.dmul a b) = round b64 (exactProduct (val64 a) (val64 b)) := val64_dmul a b
theorem vv_dadd (a b : UInt64) : val64 (FP.dadd a b) = round b64 (exactSum (val64 a) (val64 b)) := val64_dadd a b
theorem vv_dsub (a b : UInt64) : val64 (FP.dsub a b) = round b64 (exactSum (val64 a) (negate (val64 b))) := val64_dsub a b
/-- one, in these units -/
def ONE : Int := (one64 : Int)
theorem one_pos : 0 < ONE := Int.natCast_pos.mpr one64_pos
theorem qm : b64.qmin = -1074 := qmin_b64
theorem one_qm : (2 : Nat) ^ (-b64.qmin).toNat = one64 := pow_qmin64
theorem own_quot (f : Fmt) (s t : Bool) (c d : Nat) (q r : Int) : quotient f (.fin s c q) (.fin t d r) = if d = 0 then (if c = 0 then .nan else .inf (s != t)) else roundRatio f (s != t) c d (q - r) := rfl
theorem own_inU (c : Nat) (q e : Int) : inUnits c q e = c * 2 ^ (q - e).toNat := rfl
theorem pow3 {a b c d : Nat} (x : Nat) (h : a + b = c + d) : x * 2 ^ a * 2 ^ b = x * 2 ^ c * 2 ^ d := by
  rw [Nat.mul_assoc, ← Nat.pow_add, h, Nat.pow_add, ← Nat.mul_assoc]
section Mag
variable {s t : Bool} {c d : Nat} {q r : Int} {V : Datum}
theorem scale_quot (h1 : b64.qmin ≤ q) (h2 : b64.qmin ≤ r) :
    c * 2 ^ (q - r - min b64.qmin (q - r)).toNat * 2 ^ (r - b64.qmin).toNat = c * 2 ^ (q - b64.qmin).toNat * one64 * 2 ^ (b64.qmin - min b64.qmin (q - r)).toNat := by
  rw [← one_qm]
  have e : (q - r - min b64.qmin (q - r)).toNat + (r - b64.qmin).toNat = ((q - b64.qmin).toNat + (-b64.qmin).toNat) + (b64.qmin - min b64.qmin (q - r)).toNat := by
    have := qm; omega
  rw [Nat.mul_assoc, ← Nat.pow_add, e, Nat.pow_add, Nat.pow_add]
  simp only [Nat.mul_assoc]
theorem quot_mag_le (hx : FP.Core.fits b64 (.fin s c q)) (hy : FP.Core.fits b64 (.fin t d r)) (hd : d ≠ 0) (hV : FP.Core.fits b64 V) (hn : V ≠ .nan)
    (h : inUnits c q b64.qmin * one64 ≤ zmag b64 V * inUnits d r b64.qmin) : zmag b64 (roundRatio b64 (s != t) c d (q - r)) ≤ zmag b64 V := by
  refine zmag_roundRatio_le good_b64 (e0 := min b64.qmin (q - r)) (Nat.pos_of_ne_zero hd) hV hn (by omega) (by omega) ?_
  have h1 := hx.2.1
  have h2 := hy.2.1
  have hP := Nat.two_pow_pos (r - b64.qmin).toNat
  refine Nat.le_of_mul_le_mul_right (c := 2 ^ (r - b64.qmin).toNat) ?_ hP
  rw [own_inU] at h ⊢
  rw [own_inU] at h
  rw [scale_quot h1 h2]
  have := Nat.mul_le_mul_right (2 ^ (b64.qmin - min b64.qmin (q - r)).toNat) h
  refine Nat.le_trans this (Nat.le_of_eq ?_)
  simp only [Nat.mul_assoc, Nat.mul_left_comm, Nat.mul_comm]
theorem quot_mag_ge (hx : FP.Core.fits b64 (.fin s c q)) (hy : FP.Core.fits b64 (.fin t d r)) (hd : d ≠ 0) (hV : FP.Core.fits b64 V)
    (h : zmag b64 V * inUnits d r b64.qmin ≤ inUnits c q b64.qmin * one64) : zmag b64 V ≤ zmag b64 (roundRatio b64 (s != t) c d (q - r)) := by
  refine zmag_roundRatio_ge good_b64 (e0 := min b64.qmin (q - r)) (Nat.pos_of_ne_zero hd) hV (by omega) (by omega) ?_
  have h1 := hx.2.1
  have h2 := hy.2.1
  have hP := Nat.two_pow_pos (r - b64.qmin).toNat
  refine Nat.le_of_mul_le_mul_right (c := 2 ^ (r - b64.qmin).toNat) ?_ hP
  rw [own_inU] at h ⊢
  rw [own_inU] at h
  rw [scale_quot h1 h2]
  have := Nat.mul_le_mul_right (2 ^ (b64.qmin - min b64.qmin (q - r)).toNat) h
  refine Nat.le_trans (Nat.le_of_eq ?_) this
  simp only [Nat.mul_assoc, Nat.mul_left_comm, Nat.mul_comm]
end Mag
theorem fin_at {a : UInt64} (h : DFin a) : ∃ s c q, val64 a = .fin s c q ∧ FP.Core.fits b64 (.fin s c q) ∧ zv a = signed s (inUnits c q b64.qmin) := by
  obtain ⟨s, c, q, e⟩ := h
  have f := val64_fits a
  rw [e] at f
  exact ⟨s, c, q, e, f, by unfold zv; rw [e]; rfl⟩
theorem units_zero {d : Nat} {r : Int} : inUnits d r b64.qmin = 0 ↔ d = 0 := by
  rw [own_inU]
  have hP := Nat.two_pow_pos (r - b64.qmin).toNat
  constructor
  · intro h
    rcases Nat.mul_eq_zero.mp h with h | h
    · exact h
    · omega
  · rintro rfl; simp
theorem div_core {a b V : UInt64} (ha : DFin a) (hb : DFin b) (hz : zv b ≠ 0) (hV : val64 V ≠ .nan) :
    ∃ (U A D W : Nat) (s t w : Bool) (M : Nat), ONE = (U : Int) ∧ zv a = signed s A ∧ zv b = signed t D ∧ 0 < D ∧ zv V = signed w W ∧ val64 (FP.ddiv a b) ≠ .nan ∧ zv (FP.ddiv a b) = signed (s != t) M ∧ (A * U ≤ W * D → M ≤ W) ∧ (W * D ≤ A * U → W ≤ M) := by
  obtain ⟨s, c, q, e1, f1, z1⟩ := fin_at ha
  obtain ⟨t, d, r, e2, f2, z2⟩ := fin_at hb
  have hd : d ≠ 0 := by
    rintro rfl
    apply hz; rw [z2, units_zero.mpr rfl]; exact signed_zero t
  have e3 : val64 (FP.ddiv a b) = roundRatio b64 (s != t) c d (q - r) := by
    rw [vv_ddiv, e1, e2, own_quot, if_neg hd]
  have fV := val64_fits V
  refine ⟨one64, _, _, zmag b64 (val64 V), s, t, sgn (val64 V), zmag b64 (roundRatio b64 (s != t) c d (q - r)), rfl, z1, z2, ?_, rfl, ?_, ?_, quot_mag_le f1 f2 hd fV hV, quot_mag_ge f1 f2 hd fV⟩
  · exact Nat.pos_of_ne_zero fun h => hd (units_zero.mp h)
  · rw [e3]; exact roundRatio_ne_nan _ _ _ _ _
  · unfold zv; rw [e3]; unfold zval; rw [sgn_roundRatio]
theorem sg_t (n : Nat) : signed true n = -(n : Int) := rfl
theorem sg_f (n : Nat) : signed false n = (n : Int) := rfl
theorem div_le_pos {a b V : UInt64} (ha : DFin a) (hb : DFin b) (hz : 0 < zv b) (hV : val64 V ≠ .nan) (h : zv a * ONE ≤ zv V * zv b) : zv (FP.ddiv a b) ≤ zv V := by
  obtain ⟨U, A, D, W, s, t, w, M, e0, e1, e2, hD, e3, -, e4, l1, l2⟩ := div_core ha hb (by omega) hV
  rw [e1, e2, e3] at h
  rw [e2] at hz
  rw [e3, e4]
  obtain rfl : t = false := by cases t <;> simp only [sg_t, sg_f] at hz <;> first | rfl | omega
  rw [sg_f, e0, ← signed_mul, ← signed_mul] at h
  have hz2 : W * D = 0 → W = 0 := fun x => (Nat.mul_eq_zero.mp x).elim id (fun y => by omega)
  generalize A * U = P at *
  generalize W * D = R at *
  cases s <;> cases w <;> simp only [sg_t, sg_f, Bool.bne_false, bne_self_eq_false] at h ⊢
  · have := l1 (by omega); omega
  · have := l1 (by omega); have := hz2 (by omega); omega
  · omega
  · have := l2 (by omega); omega
theorem div_ge_pos {a b V : UInt64} (ha : DFin a) (hb : DFin b) (hz : 0 < zv b) (hV : val64 V ≠ .nan) (h : zv V * zv b ≤ zv a * ONE) : zv V ≤ zv (FP.ddiv a b) := by
  obtain ⟨U, A, D, W, s, t, w, M, e0, e1, e2, hD, e3, -, e4, l1, l2⟩ := div_core ha hb (by omega) hV
  rw [e1, e2, e3] at h
  rw [e2] at hz
  rw [e3, e4]
  obtain rfl : t = false := by cases t <;> simp only [sg_t, sg_f] at hz <;> first | rfl | omega
  rw [sg_f, e0, ← signed_mul, ← signed_mul] at h
  have hz2 : W * D = 0 → W = 0 := fun x => (Nat.mul_eq_zero.mp x).elim id (fun y => by omega)
  generalize A * U = P at *
  generalize W * D = R at *
  cases s <;> cases w <;> simp only [sg_t, sg_f, Bool.bne_false, bne_self_eq_false] at h ⊢
  · have := l2 (by omega); omega
  · omega
  · have := l1 (by omega); have := hz2 (by omega); omega
  · have := l1 (by omega); omega
theorem div_le_neg {a b V : UInt64} (ha : DFin a) (hb : DFin b) (hz : zv b < 0) (hV : val64 V ≠ .nan) (h : zv V * zv b ≤ zv a * ONE) : zv (FP.ddiv a b) ≤ zv V := by
  obtain ⟨U, A, D, W, s, t, w, M, e0, e1, e2, hD, e3, -, e4, l1, l2⟩ := div_core ha hb (by omega) hV
  rw [e1, e2, e3] at h
  rw [e2] at hz
  rw [e3, e4]
  obtain rfl : t = true := by cases t <;> simp only [sg_t, sg_f] at hz <;> first | rfl | omega
  rw [sg_t, Int.mul_neg, e0, ← signed_mul, ← signed_mul] at h
  have hz2 : W * D = 0 → W = 0 := fun x => (Nat.mul_eq_zero.mp x).elim id (fun y => by omega)
  generalize A * U = P at *
  generalize W * D = R at *
  cases s <;> cases w <;> simp only [sg_t, sg_f, Bool.bne_true, Bool.not_true, Bool.not_false] at h ⊢
  · omega
  · have := l2 (by omega); omega
  · have := l1 (by omega); omega
  · have := l1 (by omega); have := hz2 (by omega); omega
theorem div_ge_neg {a b V : UInt64} (ha : DFin a) (hb : DFin b) (hz : zv b < 0) (hV : val64 V ≠ .nan) (h : zv a * ONE ≤ zv V * zv b) : zv V ≤ zv (FP.ddiv a b) := by
  obtain ⟨U, A, D, W, s, t, w, M, e0, e1, e2, hD, e3, -, e4, l1, l2⟩ := div_core ha hb (by omega) hV
  rw [e1, e2, e3] at h
  rw [e2] at hz
  rw [e3, e4]
  obtain rfl : t = true := by cases t <;> simp only [sg_t, sg_f] at hz <;> first | rfl | omega
  rw [sg_t, Int.mul_neg, e0, ← signed_mul, ← signed_mul] at h
  have hz2 : W * D = 0 → W = 0 := fun x => (Nat.mul_eq_zero.mp x).elim id (fun y => by omega)
  generalize A * U = P at *
  generalize W * D = R at *
  cases s <;> cases w <;> simp only [sg_t, sg_f, Bool.bne_true, Bool.not_true, Bool.not_false] at h ⊢
  · have := l1 (by omega); have := hz2 (by omega); omega
  · have := l1 (by omega); omega
  · have := l2 (by omega); omega
  · omega
theorem div_nan {a b : UInt64} (ha : DFin a) (hb : DFin b) (hz : zv b ≠ 0) : val64 (FP.ddiv a b) ≠ .nan := by
  obtain ⟨U, A, D, W, s, t, w, M, -, -, -, -, -, h, -⟩ := div_core (V := a) ha hb hz ha.ne_nan
  exact h
theorem no_of {x : UInt64} (h : val64 x ≠ .nan) : NoNaN64 x := noNaN64_no.mpr ((notNaN_iff x).mpr h)
theorem of_no {x : UInt64} (h : NoNaN64 x) : val64 x ≠ .nan := (notNaN_iff x).mp (noNaN64_no.mp h)
theorem fin_no {x : UInt64} (h : DFin x) : NoNaN64 x := no_of h.ne_nan
/-- as great as a finite one: finite -/
theorem fin_of_eq {a V : UInt64} (hn : val64 a ≠ .nan) (hV : DFin V) (h : zv a = zv V) : DFin a := by
  cases e : val64 a with
  | nan => exact absurd e hn
  | fin s c q => exact ⟨s, c, q, e⟩
  | inf s =>
    exfalso
    have h1 := hV.zval_lt
    have h2 : (zv a).natAbs = b64.tails * 2 ^ (b64.exps - 2) := by unfold zv; rw [e]; exact natAbs_signed _ _
    have h3 : (zv V).natAbs = zmag b64 (val64 V) := natAbs_signed _ _
    rw [h] at h2
    omega
theorem fin_of_le {a V W : UInt64} (hn : val64 a ≠ .nan) (hV : DFin V) (hW : DFin W) (h : zv V ≤ zv a) (h' : zv a ≤ zv W) : DFin a := by
  cases e : val64 a with
  | nan => exact absurd e hn
  | fin s c q => exact ⟨s, c, q, e⟩
  | inf s =>
    exfalso
    have h1 := hV.zval_lt
    have h1' := hW.zval_lt
    have h2 : (zv a).natAbs = b64.tails * 2 ^ (b64.exps - 2) := by unfold zv; rw [e]; exact natAbs_signed _ _
    have h3 : (zv V).natAbs = zmag b64 (val64 V) := natAbs_signed _ _
    have h3' : (zv W).natAbs = zmag b64 (val64 W) := natAbs_signed _ _
    omega
/-! a finite double of a known value -/
def Dy (a : UInt64) (x : Int) : Prop := DFin a ∧ zv a = x
def Rep (x : Int) : Prop := ∃ V, Dy V x
theorem Dy.rep {a : UInt64} {x : Int} (h : Dy a x) : Rep x := ⟨a, h⟩
theorem Dy.no {a : UInt64} {x : Int} (h : Dy a x) : NoNaN64 a := fin_no h.1
theorem Dy.nn {a : UInt64} {x : Int} (h : Dy a x) : val64 a ≠ .nan := h.1.ne_nan
theorem dy_div {a b : UInt64} {x y z : Int} (ha : Dy a x) (hb : Dy b y) (hy : y ≠ 0) (hz : Rep z) (h : z * y = x * ONE) : Dy (FP.ddiv a b) z := by
  obtain ⟨V, fV, rfl⟩ := hz
  obtain ⟨fa, rfl⟩ := ha
  obtain ⟨fb, rfl⟩ := hb
  have hn := div_nan fa fb hy
  have e : zv (FP.ddiv a b) = zv V := by
    rcases Int.lt_or_gt_of_ne hy with q | q
    · exact Int.le_antisymm (div_le_neg fa fb q fV.ne_nan (Int.le_of_eq h)) (div_ge_neg fa fb q fV.ne_nan (Int.le_of_eq h.symm))
    · exact Int.le_antisymm (div_le_pos fa fb q fV.ne_nan (Int.le_of_eq h.symm)) (div_ge_pos fa fb q fV.ne_nan (Int.le_of_eq h))
  exact ⟨fin_of_eq hn fV e, e⟩
theorem mul_le {a b V : UInt64} (ha : DFin a) (hb : DFin b) (hV : val64 V ≠ .nan) (h : zv a * zv b ≤ zv V * ONE) : zv (FP.dmul a b) ≤ zv V := by
  obtain ⟨s, c, q, e1, f1, z1⟩ := fin_at ha
  obtain ⟨t, d, r, e2, f2, z2⟩ := fin_at hb
  obtain ⟨p1, p2, p3⟩ := product_units f1 f2
  unfold zv
  rw [vv_dmul, e1, e2, p1]
  refine zval_round_le good_b64 (val64_fits V) hV (e0 := 2 * b64.qmin) (by have := qm; omega) p2 ?_
  rw [p3, signed_xor, show (b64.qmin - 2 * b64.qmin).toNat = (-b64.qmin).toNat by omega, one_qm]
  rw [z1, z2] at h
  exact h
theorem mul_ge {a b V : UInt64} (ha : DFin a) (hb : DFin b) (hV : val64 V ≠ .nan) (h : zv V * ONE ≤ zv a * zv b) : zv V ≤ zv (FP.dmul a b) := by
  obtain ⟨s, c, q, e1, f1, z1⟩ := fin_at ha
  obtain ⟨t, d, r, e2, f2, z2⟩ := fin_at hb
  obtain ⟨p1, p2, p3⟩ := product_units f1 f2
  unfold zv
  rw [vv_dmul, e1, e2, p1]
  refine zval_round_ge good_b64 (val64_fits V) hV (e0 := 2 * b64.qmin) (by have := qm; omega) p2 ?_
  rw [p3, signed_xor, show (b64.qmin - 2 * b64.qmin).toNat = (-b64.qmin).toNat by omega, one_qm]
  rw [z1, z2] at h
  exact h
theorem mul_nan {a b : UInt64} (ha : DFin a) (hb : DFin b) : val64 (FP.dmul a b) ≠ .nan := (notNaN_iff _).mp (dmul_out ha hb)
theorem dy_mul {a b : UInt64} {x y z : Int} (ha : Dy a x) (hb : Dy b y) (hz : Rep z) (h : z * ONE = x * y) : Dy (FP.dmul a b) z := by
  obtain ⟨V, fV, rfl⟩ := hz
  obtain ⟨fa, rfl⟩ := ha
  obtain ⟨fb, rfl⟩ := hb
  have e : zv (FP.dmul a b) = zv V := Int.le_antisymm (mul_le fa fb fV.ne_nan (Int.le_of_eq h.symm)) (mul_ge fa fb fV.ne_nan (Int.le_of_eq h))
  exact ⟨fin_of_eq (mul_nan fa fb) fV e, e⟩
theorem add_le {a b V : UInt64} (ha : DFin a) (hb : DFin b) (hV : val64 V ≠ .nan) (h : zv a + zv b ≤ zv V) : zv (FP.dadd a b) ≤ zv V := by
  unfold zv
  rw [vv_dadd]
  exact sum_le good_b64 ha hb (val64_fits a) (val64_fits b) (val64_fits V) hV h
theorem add_ge {a b V : UInt64} (ha : DFin a) (hb : DFin b) (hV : val64 V ≠ .nan) (h : zv V ≤ zv a + zv b) : zv V ≤ zv (FP.dadd a b) := by
  unfold zv
  rw [vv_dadd]
  exact sum_ge good_b64 ha hb (val64_fits a) (val64_fits b) (val64_fits V) hV h
theorem add_nan {a b : UInt64} (ha : DFin a) (hb : DFin b) : val64 (FP.dadd a b) ≠ .nan := (notNaN_iff _).mp (dadd_out ha.notNaN hb)
theorem dy_add {a b : UInt64} {x y : Int} (ha : Dy a x) (hb : Dy b y) (hz : Rep (x + y)) : Dy (FP.dadd a b) (x + y) := by
  obtain ⟨V, fV, e0⟩ := hz
  obtain ⟨fa, rfl⟩ := ha
  obtain ⟨fb, rfl⟩ := hb
  have e : zv (FP.dadd a b) = zv V := Int.le_antisymm (add_le fa fb fV.ne_nan (Int.le_of_eq e0.symm)) (add_ge fa fb fV.ne_nan (Int.le_of_eq e0))
  exact ⟨fin_of_eq (add_nan fa fb) fV e, e.trans e0⟩
theorem neg_fin {b : UInt64} (hb : DFin b) : ∃ s c q, negate (val64 b) = .fin s c q := by
  obtain ⟨s, c, q, e⟩ := hb
  exact ⟨!s, c, q, by rw [e]; rfl⟩
theorem sub_le {a b V : UInt64} (ha : DFin a) (hb : DFin b) (hV : val64 V ≠ .nan) (h : zv a - zv b ≤ zv V) : zv (FP.dsub a b) ≤ zv V := by
  unfold zv
  rw [vv_dsub]
  refine sum_le good_b64 ha (neg_fin hb) (val64_fits a) (negate_fits (val64_fits b)) (val64_fits V) hV ?_
  rw [zval_negate]; unfold zv at h; omega
theorem sub_ge {a b V : UInt64} (ha : DFin a) (hb : DFin b) (hV : val64 V ≠ .nan) (h : zv V ≤ zv a - zv b) : zv V ≤ zv (FP.dsub a b) := by
  unfold zv
  rw [vv_dsub]
  refine sum_ge good_b64 ha (neg_fin hb) (val64_fits a) (negate_fits (val64_fits b)) (val64_fits V) hV ?_
  rw [zval_negate]; unfold zv at h; omega
theorem sub_nan {a b : UInt64} (ha : DFin a) (hb : DFin b) : val64 (FP.dsub a b) ≠ .nan := (notNaN_iff _).mp (dsub_out ha.notNaN hb)
theorem dy_sub {a b : UInt64} {x y : Int} (ha : Dy a x) (hb : Dy b y) (hz : Rep (x - y)) : Dy (FP.dsub a b) (x - y) := by
  obtain ⟨V, fV, e0⟩ := hz
  obtain ⟨fa, rfl⟩ := ha
  obtain ⟨fb, rfl⟩ := hb
  have e : zv (FP.dsub a b) = zv V := Int.le_antisymm (sub_le fa fb fV.ne_nan (Int.le_of_eq e0.symm)) (sub_ge fa fb fV.ne_nan (Int.le_of_eq e0))
  exact ⟨fin_of_eq (sub_nan fa fb) fV e, e.trans e0⟩
theorem dy_i2d (n : Int32) : Dy (FP.i2d n) (n.toInt * ONE) := ⟨Core.i2d_fin n, DInt_zval (i2d_int n)⟩
theorem dy_l2d {n : Int64} (h : n.toInt.natAbs ≤ 2 ^ 53) : Dy (FP.l2d n) (n.toInt * ONE) := ⟨Core.l2d_fin n, DInt_zval (l2d_int h)⟩
theorem rep_nat (s : Bool) (n j : Nat) (hn : n < 2 ^ 53) (hj : j ≤ 1074) : Rep (signed s (n * 2 ^ (1074 - j))) := by
  obtain ⟨c, q, h1, h2⟩ := round_exact good_b64 s (c := n) (q := -(j : Int)) hn (by rw [qm]; omega) (by rw [show b64.qmax = 971 by decide +kernel]; omega)
  have e : val64 (of64 (round b64 (.fin s n (-(j : Int))))) = .fin s c q := by rw [val64_of64 (round_fits good_b64 _), h1]
  refine ⟨of64 (round b64 (.fin s n (-(j : Int)))), ⟨s, c, q, e⟩, ?_⟩
  unfold zv; rw [e]
  show signed s (inUnits c q b64.qmin) = _
  rw [h2, own_inU, qm, show (-(j : Int) - -1074).toNat = 1074 - j by omega]
/-- n / 2^j is a double -/
theorem rep_int (n : Int) (j : Nat) (hn : n.natAbs < 2 ^ 53) (hj : j ≤ 1074) : Rep (n * ((2 ^ (1074 - j) : Nat) : Int)) := by
  have h := rep_nat (decide (n < 0)) n.natAbs j hn hj
  rw [signed_mul] at h
  have e : signed (decide (n < 0)) n.natAbs = n := by
    by_cases q : n < 0
    · simp only [q, decide_true, sg_t]; omega
    · simp only [q, decide_false, sg_f]; omega
  rwa [e] at h
theorem rep_whole (n : Int) (hn : n.natAbs < 2 ^ 53) : Rep (n * ONE) := rep_int n 0 hn (by decide)
theorem cv {a b : UInt64} (ha : val64 a ≠ .nan) (hb : val64 b ≠ .nan) (o : ClassFile.CmpOp) : cmpValue (FP.dcmp a b) o = if zv a < zv b then -1 else if zv a = zv b then 0 else 1 := by
  rw [show FP.dcmp a b = some (compare (zv a) (zv b)) from dcmp_zval ha hb, compare_ite]
  by_cases h1 : zv a < zv b
  · rw [if_pos h1, if_pos h1]; rfl
  · rw [if_neg h1, if_neg h1]
    by_cases h2 : zv a = zv b
    · rw [if_pos h2, if_pos h2]; rfl
    · rw [if_neg h2, if_neg h2]; rfl
theorem cv_lt {a b : UInt64} (ha : val64 a ≠ .nan) (hb : val64 b ≠ .nan) (o : ClassFile.CmpOp) : cmpValue (FP.dcmp a b) o < 0 ↔ zv a < zv b := by
  rw [cv ha hb]
  by_cases h1 : zv a < zv b
  · rw [if_pos h1]; exact ⟨fun _ => h1, fun _ => by decide⟩
  · by_cases h2 : zv a = zv b
    · rw [if_neg h1, if_pos h2]; exact ⟨fun h => absurd h (by decide), fun h => absurd h h1⟩
    · rw [if_neg h1, if_neg h2]; exact ⟨fun h => absurd h (by decide), fun h => absurd h h1⟩
theorem cv_gt {a b : UInt64} (ha : val64 a ≠ .nan) (hb : val64 b ≠ .nan) (o : ClassFile.CmpOp) : 0 < cmpValue (FP.dcmp a b) o ↔ zv b < zv a := by
  rw [cv ha hb]
  by_cases h1 : zv a < zv b
  · rw [if_pos h1]; exact ⟨fun h => absurd h (by decide), fun h => by omega⟩
  · by_cases h2 : zv a = zv b
    · rw [if_neg h1, if_pos h2]; exact ⟨fun h => absurd h (by decide), fun h => by omega⟩
    · rw [if_neg h1, if_neg h2]; exact ⟨fun _ => by omega, fun _ => by decide⟩
theorem cv_eq {a b : UInt64} (ha : val64 a ≠ .nan) (hb : val64 b ≠ .nan) (o : ClassFile.CmpOp) : cmpValue (FP.dcmp a b) o = 0 ↔ zv a = zv b := by
  rw [cv ha hb]
  by_cases h1 : zv a < zv b
  · rw [if_pos h1]; exact ⟨fun h => absurd h (by decide), fun h => by omega⟩
  · by_cases h2 : zv a = zv b
    · rw [if_neg h1, if_pos h2]; exact ⟨fun _ => h2, fun _ => rfl⟩
    · rw [if_neg h1, if_neg h2]; exact ⟨fun h => absurd h (by decide), fun h => absurd h h2⟩
theorem dy_zero : Dy 0 0 := ⟨⟨_, _, _, val64_zero⟩, zval64_zero⟩
theorem dy_lit (a : UInt64) (x : Int) (h1 : a.toNat % 2 ^ 63 < 9218868437227405312) (h2 : zval b64 (val64 a) = x) : Dy a x := ⟨(fin_bits a).mpr h1, h2⟩
theorem dy_one : Dy 4607182418800017408 ONE := dy_lit _ _ (by decide) (by have := DInt_zval dint_one; rw [Int.one_mul] at this; exact this)
/-- two quotients of one ratio are one double -/
theorem div_congr {a b a' b' : UInt64} (ha : DFin a) (hb : DFin b) (ha' : DFin a') (hb' : DFin b') (h0 : 0 ≤ zv a) (h0' : 0 ≤ zv a') (hz : 0 < zv b) (hz' : 0 < zv b') (h : zv a * zv b' = zv a' * zv b) : zv (FP.ddiv a b) = zv (FP.ddiv a' b') := by
  obtain ⟨s, c, q, e1, f1, z1⟩ := fin_at ha
  obtain ⟨t, d, r, e2, f2, z2⟩ := fin_at hb
  obtain ⟨s', c', q', e1', f1', z1'⟩ := fin_at ha'
  obtain ⟨t', d', r', e2', f2', z2'⟩ := fin_at hb'
  rw [z1] at h0; rw [z1'] at h0'; rw [z2] at hz; rw [z2'] at hz'
  rw [z1, z1', z2, z2'] at h
  obtain rfl : t = false := by cases t <;> simp only [sg_t, sg_f] at hz <;> first | rfl | omega
  obtain rfl : t' = false := by cases t' <;> simp only [sg_t, sg_f] at hz' <;> first | rfl | omega
  have k1 : signed s (inUnits c q b64.qmin) = (inUnits c q b64.qmin : Int) := by cases s <;> simp only [sg_t, sg_f] at h0 ⊢; omega
  have k2 : signed s' (inUnits c' q' b64.qmin) = (inUnits c' q' b64.qmin : Int) := by cases s' <;> simp only [sg_t, sg_f] at h0' ⊢; omega
  rw [k1, k2, sg_f, sg_f] at h
  have hN : inUnits c q b64.qmin * inUnits d' r' b64.qmin = inUnits c' q' b64.qmin * inUnits d r b64.qmin := by exact_mod_cast h
  have hd : d ≠ 0 := fun x => by rw [x, units_zero.mpr rfl] at hz; simp [sg_f] at hz
  have hd' : d' ≠ 0 := fun x => by rw [x, units_zero.mpr rfl] at hz'; simp [sg_f] at hz'
  have g1 := f1.2.1; have g2 := f2.2.1; have g3 := f1'.2.1; have g4 := f2'.2.1
  have key : zmag b64 (roundRatio b64 (s != false) c d (q - r)) = zmag b64 (roundRatio b64 (s' != false) c' d' (q' - r')) := by
    have E : roundRatio b64 false c d (q - r) = roundRatio b64 false c' d' (q' - r') := by
      refine roundRatio_congr (Nat.pos_of_ne_zero hd) (Nat.pos_of_ne_zero hd') ?_
      simp only [own_inU] at hN
      generalize b64.qmin = Q at *
      have a1 : c * 2 ^ (q - Q).toNat * (d' * 2 ^ (r' - Q).toNat) = c * d' * 2 ^ ((q - Q).toNat + (r' - Q).toNat) := by rw [Nat.pow_add]; simp only [Nat.mul_assoc, Nat.mul_left_comm, Nat.mul_comm]
      have a2 : c' * 2 ^ (q' - Q).toNat * (d * 2 ^ (r - Q).toNat) = c' * d * 2 ^ ((q' - Q).toNat + (r - Q).toNat) := by rw [Nat.pow_add]; simp only [Nat.mul_assoc, Nat.mul_left_comm, Nat.mul_comm]
      rw [a1, a2] at hN
      by_cases hle : (q - r) ≤ (q' - r')
      · have x1 : (q - r - (q' - r')).toNat = 0 := by omega
        rw [x1, Nat.pow_zero, Nat.mul_one]
        have x2 : (q' - Q).toNat + (r - Q).toNat = (q' - r' - (q - r)).toNat + ((q - Q).toNat + (r' - Q).toNat) := by omega
        rw [x2, Nat.pow_add 2 (q' - r' - (q - r)).toNat, ← Nat.mul_assoc] at hN
        exact Nat.eq_of_mul_eq_mul_right (Nat.two_pow_pos _) hN
      · have x1 : (q' - r' - (q - r)).toNat = 0 := by omega
        rw [x1, Nat.pow_zero, Nat.mul_one]
        have x2 : (q - Q).toNat + (r' - Q).toNat = (q - r - (q' - r')).toNat + ((q' - Q).toNat + (r - Q).toNat) := by omega
        rw [x2, Nat.pow_add 2 (q - r - (q' - r')).toNat, ← Nat.mul_assoc] at hN
        exact Nat.eq_of_mul_eq_mul_right (Nat.two_pow_pos _) hN
    have neg : ∀ (u : Bool) (A B : Nat) (x : Int), zmag b64 (roundRatio b64 u A B x) = zmag b64 (roundRatio b64 false A B x) := fun u A B x => by
      cases u
      · rfl
      · have := negate_roundRatio b64 false A B x
        rw [Bool.not_false] at this
        rw [← this]
        cases roundRatio b64 false A B x <;> rfl
    rw [neg, E, ← neg (s' != false)]
  have zd : zv (FP.ddiv a b) = signed (s != false) (zmag b64 (roundRatio b64 (s != false) c d (q - r))) := by
    unfold zv; rw [vv_ddiv, e1, e2, own_quot, if_neg hd]; unfold zval; rw [sgn_roundRatio]
  have zd' : zv (FP.ddiv a' b') = signed (s' != false) (zmag b64 (roundRatio b64 (s' != false) c' d' (q' - r'))) := by
    unfold zv; rw [vv_ddiv, e1', e2', own_quot, if_neg hd']; unfold zval; rw [sgn_roundRatio]
  have ge1 : 0 ≤ zv (FP.ddiv a b) := by
    have := div_ge_pos ha hb (by rw [z2, sg_f]; rw [sg_f] at hz; exact hz) (V := 0) dy_zero.nn (by rw [dy_zero.2, Int.zero_mul, z1, k1]; exact Int.mul_nonneg (by omega) (by have := one_pos; omega))
    rw [dy_zero.2] at this; exact this
  have ge2 : 0 ≤ zv (FP.ddiv a' b') := by
    have := div_ge_pos ha' hb' (by rw [z2', sg_f]; rw [sg_f] at hz'; exact hz') (V := 0) dy_zero.nn (by rw [dy_zero.2, Int.zero_mul, z1', k2]; exact Int.mul_nonneg (by omega) (by have := one_pos; omega))
    rw [dy_zero.2] at this; exact this
  rw [zd] at ge1 ⊢; rw [zd'] at ge2 ⊢
  rw [key] at ge1 ⊢
  generalize zmag b64 (roundRatio b64 (s' != false) c' d' (q' - r')) = M at *
  cases s <;> cases s' <;> simp only [sg_t, sg_f, Bool.bne_false, bne_self_eq_false] at ge1 ge2 ⊢ <;> omega
theorem one_le {x y : Int} : x * ONE ≤ y * ONE ↔ x ≤ y := ⟨fun h => Int.le_of_mul_le_mul_right h one_pos, fun h => Int.mul_le_mul_of_nonneg_right h (Int.le_of_lt one_pos)⟩
theorem one_lt {x y : Int} : x * ONE < y * ONE ↔ x < y := ⟨fun h => Int.lt_of_mul_lt_mul_right h (Int.le_of_lt one_pos), fun h => Int.mul_lt_mul_of_pos_right h one_pos⟩
theorem one_eq {x y : Int} : x * ONE = y * ONE ↔ x = y := ⟨fun h => Int.le_antisymm (one_le.mp (Int.le_of_eq h)) (one_le.mp (Int.le_of_eq h.symm)), fun h => h ▸ rfl⟩
theorem mul_bd {a b : Int} {A B : Nat} (ha : a.natAbs ≤ A) (hb : b.natAbs ≤ B) : (a * b).natAbs ≤ A * B := by rw [Int.natAbs_mul]; exact Nat.mul_le_mul ha hb
/-- comparison of two doubles that are whole numbers -/
theorem cw_lt {a b : UInt64} {x y : Int} (ha : Dy a (x * ONE)) (hb : Dy b (y * ONE)) (o : ClassFile.CmpOp) : cmpValue (FP.dcmp a b) o < 0 ↔ x < y := by rw [cv_lt ha.nn hb.nn, ha.2, hb.2, one_lt]
theorem cw_gt {a b : UInt64} {x y : Int} (ha : Dy a (x * ONE)) (hb : Dy b (y * ONE)) (o : ClassFile.CmpOp) : 0 < cmpValue (FP.dcmp a b) o ↔ y < x := by rw [cv_gt ha.nn hb.nn, ha.2, hb.2, one_lt]
theorem cw_eq {a b : UInt64} {x y : Int} (ha : Dy a (x * ONE)) (hb : Dy b (y * ONE)) (o : ClassFile.CmpOp) : cmpValue (FP.dcmp a b) o = 0 ↔ x = y := by rw [cv_eq ha.nn hb.nn, ha.2, hb.2, one_eq]
theorem dy_zero' : Dy 0 (0 * ONE) := by rw [Int.zero_mul]; exact dy_zero
theorem dw_add {a b : UInt64} {x y : Int} (ha : Dy a (x * ONE)) (hb : Dy b (y * ONE)) (h : (x + y).natAbs < 2 ^ 53) : Dy (FP.dadd a b) ((x + y) * ONE) := by
  have := dy_add ha hb (by rw [← Int.add_mul]; exact rep_whole _ h)
  rwa [← Int.add_mul] at this
theorem dw_sub {a b : UInt64} {x y : Int} (ha : Dy a (x * ONE)) (hb : Dy b (y * ONE)) (h : (x - y).natAbs < 2 ^ 53) : Dy (FP.dsub a b) ((x - y) * ONE) := by
  have := dy_sub ha hb (by rw [← Int.sub_mul]; exact rep_whole _ h)
  rwa [← Int.sub_mul] at this
theorem dw_mul {a b : UInt64} {x y : Int} (ha : Dy a (x * ONE)) (hb : Dy b (y * ONE)) (h : (x * y).natAbs < 2 ^ 53) : Dy (FP.dmul a b) ((x * y) * ONE) :=
  dy_mul ha hb (rep_whole _ h) (by simp only [Int.mul_assoc, Int.mul_left_comm, Int.mul_comm])
/-- twice a double that isn't too great is a double -/
theorem rep_dbl {a : UInt64} (h : DFin a) (hs : zmag b64 (val64 a) < 2 ^ 2000) : Rep (zv a + zv a) := by
  obtain ⟨s, c, q, e, f, z⟩ := fin_at h
  have hz : zmag b64 (val64 a) = inUnits c q b64.qmin := by rw [e]; rfl
  rw [hz, own_inU] at hs
  by_cases hc : c = 0
  · subst hc
    refine ⟨0, ⟨_, _, _, val64_zero⟩, ?_⟩
    rw [z, own_inU, Nat.zero_mul, signed_zero]; exact zval64_zero
  have hq : q + 1 ≤ b64.qmax := by
    rw [show b64.qmax = 971 by decide +kernel]
    refine Int.not_lt.mp fun r => ?_
    have k : 2 ^ 2000 ≤ 2 ^ (q - b64.qmin).toNat := Nat.pow_le_pow_right (by decide) (by rw [qm]; omega)
    have : 2 ^ (q - b64.qmin).toNat ≤ c * 2 ^ (q - b64.qmin).toNat := Nat.le_mul_of_pos_left _ (Nat.pos_of_ne_zero hc)
    omega
  have f2 := f.2.1
  obtain ⟨c', q', h1, h2⟩ := round_exact good_b64 s (c := c) (q := q + 1) f.1 (by omega) hq
  have e' : val64 (of64 (round b64 (.fin s c (q + 1)))) = .fin s c' q' := by rw [val64_of64 (round_fits good_b64 _), h1]
  refine ⟨of64 (round b64 (.fin s c (q + 1))), ⟨s, c', q', e'⟩, ?_⟩
  unfold zv; rw [e', e]
  show signed s (inUnits c' q' b64.qmin) = signed s (inUnits c q b64.qmin) + signed s (inUnits c q b64.qmin)
  rw [h2, own_inU, own_inU, show (q + 1 - b64.qmin).toNat = (q - b64.qmin).toNat + 1 by omega, Nat.pow_succ]
  generalize 2 ^ (q - b64.qmin).toNat = P
  have : c * (P * 2) = c * P + c * P := by rw [← Nat.mul_assoc, Nat.mul_two]
  rw [this]
  cases s
  · simp only [sg_f]; omega
  · simp only [sg_t]; omega
theorem l2d_small (n : Int64) : zmag b64 (val64 (FP.l2d n)) < 2 ^ 2000 := by
  have h := Core.l2d_mag n
  obtain ⟨s, c, q, e, k⟩ := mag_bits h (by decide)
  rw [e]
  show inUnits c q b64.qmin < _
  rw [own_inU]
  refine Nat.lt_of_lt_of_le k ?_
  rw [← Nat.pow_add]
  exact Nat.pow_le_pow_right (by decide) (by decide)
/-- a finite double's test of being finite -/
theorem mask_fin {a : UInt64} (h : DFin a) (o : ClassFile.CmpOp) : ¬ (0 < cmpValue (FP.dcmp (a &&& 0x7fffffffffffffff) 9218868437227405311) o) := by
  have q := (le_max h.notNaN).mpr h
  intro r
  rcases q with q | q
  · rw [show FP.dcmp (a &&& 0x7fffffffffffffff) 9218868437227405311 = some .lt from q] at r; cases o <;> exact absurd r (by decide)
  · rw [show FP.dcmp (a &&& 0x7fffffffffffffff) 9218868437227405311 = some .eq from q] at r; cases o <;> exact absurd r (by decide)
end Jvm.OwnFl
namespace Jvm.Pilot.@@N@@
open Jvm Jvm.ClassFile Sem Op Lib Jvm.Free Jvm.Stand Jvm.LawKit Jvm.RoadKit Jvm.OwnSt Bundle Jvm.Pilot.@@N@@.Jvm.D
theorem d2_0 : decode jdk_30_method_1_code 0 = .ok (.aload_n 0, 1) := by decide +kernel
theorem d2_1 : decode jdk_30_method_1_code 1 = .ok (.invokespecial 1, 3) := by decide +kernel
theorem d2_4 : decode jdk_30_method_1_code 4 = .ok (.return_, 1) := by decide +kernel
theorem pn_2 : plainName "java/lang/Record" = true := by first | (simp [plainName, overriddenIn]; done) | decide +kernel
theorem ef2 (m : MethodId) (o0 : Addr) : entryFrame m #[(.ref o0)] 1 = mkF m 0 #[rv o0] [] := by first | (simp [entryFrame, mkF, argsToLocals, Value.category]; done) | rfl
abbrev room_of_2 : Room := { frames := 1, cells := 0, slots := 0, locals := 12 }
def Q2 (Z : State) (o0 : Addr) (h0 : Heap) (n0 : Nat) (v : Option Value) (h : Heap) (L : List Loc) : Prop := v = none ∧ L = [] ∧ h = h0
set_option maxRecDepth 65536 in
set_option maxHeartbeats 40000000 in
theorem rm2 (l : Launch) (Z : State) (a0 : Array Value) (hw : ∀ d ∈ tables_1, d.before a0 Z = true) (ws : List Jvm.Cond) (o0 : Addr)  (h0 : Heap) (n0 : Nat) (Z0 : n0 ≤ h0.size) :
    MetFree l (⟨"java/lang/Record", "<init>", "()V"⟩ : MethodName) (head1 (Jvm.Cond.code (⟨"java/lang/Record", "<init>", "()V"⟩ : MethodName) jdk_30_method_1_code 1 none :: ws) (room_of_2)) (fun a U => a = #[(.ref o0)] ∧ Z.Warmed39 U.vm ∧ U.heap = h0) (fun _ _ _ _ _ => True) (fun _ U o U' => ∃ v L, o = .returned v ∧ Q2 Z o0 h0 n0 v U'.heap L ∧ FrameEnd U o U' L (room_of_2).cells (room_of_2).slots) := by
  refine MetFree.of_bodySF (plainFor_of_name pn_2) hisR ?_
  intro p e s m args below meth c s₁ Bd hml0 hP hK
  obtain ⟨rfl, hZ, hh⟩ := hP
  have hx := Bd.exec
  have hby := Bd.bytes
  have hml : c.maxLocals = 1 := hml0
  have hown : s.vm.findClass "java/lang/Record" = some m.cls := findClass_of_methodNamed Bd.named
  have hnm := (name_of_methodNamed Bd.named Bd.method).1
  have X0 : Stand p l e (room_of_2) s m #[(.ref o0)] below meth c s₁ [] 0 0 := Stand.of_body Bd
  have e0 : s₁.heap = h0 := by rw [← hh, Bd.state]; rfl
  have N0 := Fr.nil n0
  have G0 := gd X0 hx hby
  have pre0 : ∀ t, Steps p.tables e below (s₁.setTop (mkF m 0 #[rv o0] [])) t → Steps p.tables e below (s₁.setTop (entryFrame m #[(.ref o0)] 1)) t := fun t k => castTop (ef2 m o0) k
  obtain ⟨T1, X1, e1, st1⟩ := initO X0 hx hZ hown (wd hw 12 rfl) (wd hw 13 rfl) (wd hw 14 rfl) e0 (g := (mkF m 1 #[rv o0] [(.ref o0)])) rfl (by rw [hml]; rfl) rfl (hb hby d2_1) (by decide) (W := 0) (by show 2 * 0 + _ ≤ _; exact Nat.le_of_eq rfl) (by decide)
  have G1 := gd X1 hx hby
  obtain ⟨fs, hr, hrun, hended, hW, hsame⟩ := X1.leave (v := none) (fun _ => rfl)
  refine ⟨_, _, pre0 _ ?_, hrun, hended, _, _, rfl, ?_, ⟨_, rfl⟩, hW, hsame.mono (by decide) (by decide)⟩
  · show Steps p.tables e below (s₁.setTop (mkF m 0 #[rv o0] [])) _
    refine maloadN 1 G0 d2_0 rfl rfl rfl ?_
    refine st1 _ ?_
    show Steps p.tables e below (T1.setTop (mkF m 4 #[rv o0] [])) _
    exact X1.returnOut hx Bd.returns (hb hby d2_4) hr
  · show Q2 Z o0 h0 n0 _ T1.heap _
    rw [e1]
    exact ⟨rfl, rfl, rfl⟩
theorem pd_0 : parseMethodDescriptor "()V" = some ⟨[], none⟩ := by decide +kernel
theorem d1_0 : decode prog_1_method_1_code 0 = .ok (.aload_n 0, 1) := by decide +kernel
theorem d1_1 : decode prog_1_method_1_code 1 = .ok (.invokespecial 1, 3) := by decide +kernel
theorem d1_4 : decode prog_1_method_1_code 4 = .ok (.aload_n 0, 1) := by decide +kernel
theorem d1_5 : decode prog_1_method_1_code 5 = .ok (.dload_n 1, 1) := by decide +kernel
theorem d1_6 : decode prog_1_method_1_code 6 = .ok (.putfield 7, 3) := by decide +kernel
theorem d1_9 : decode prog_1_method_1_code 9 = .ok (.aload_n 0, 1) := by decide +kernel
theorem d1_10 : decode prog_1_method_1_code 10 = .ok (.dload_n 3, 1) := by decide +kernel
theorem d1_11 : decode prog_1_method_1_code 11 = .ok (.putfield 13, 3) := by decide +kernel
theorem d1_14 : decode prog_1_method_1_code 14 = .ok (.aload_n 0, 1) := by decide +kernel
theorem d1_15 : decode prog_1_method_1_code 15 = .ok (.dload 5, 2) := by decide +kernel
theorem d1_17 : decode prog_1_method_1_code 17 = .ok (.putfield 16, 3) := by decide +kernel
theorem d1_20 : decode prog_1_method_1_code 20 = .ok (.aload_n 0, 1) := by decide +kernel
theorem d1_21 : decode prog_1_method_1_code 21 = .ok (.dload 7, 2) := by decide +kernel
theorem d1_23 : decode prog_1_method_1_code 23 = .ok (.putfield 19, 3) := by decide +kernel
theorem d1_26 : decode prog_1_method_1_code 26 = .ok (.return_, 1) := by decide +kernel
theorem pn_1 : plainName "com/example/crowded_platform/crowdedplatform/geometry/Box" = true := by first | (simp [plainName, overriddenIn]; done) | decide +kernel
theorem ef1 (m : MethodId) (o0 : Addr) (d1 : UInt64) (d2 : UInt64) (d3 : UInt64) (d4 : UInt64) : entryFrame m #[(.ref o0), (.double d1), (.double d2), (.double d3), (.double d4)] 9 = mkF m 0 #[rv o0, dv d1, .second, dv d2, .second, dv d3, .second, dv d4, .second] [] := by first | (simp [entryFrame, mkF, argsToLocals, Value.category]; done) | rfl
abbrev room_of_1 : Room := { frames := 2, cells := 0, slots := 0, locals := 24 }
def Q1 (Z : State) (o0 : Addr) (d1 : UInt64) (d2 : UInt64) (d3 : UInt64) (d4 : UInt64) (h0 : Heap) (n0 : Nat) (v : Option Value) (h : Heap) (L : List Loc) : Prop := v = none ∧ Fr n0 L ∧ Keep h0 h [o0] ∧ Exa Z h o0 "com/example/crowded_platform/crowdedplatform/geometry/Box" ∧ Fld Z h o0 "com/example/crowded_platform/crowdedplatform/geometry/Box" "minX" "D" (.double d1) ∧ Fld Z h o0 "com/example/crowded_platform/crowdedplatform/geometry/Box" "minY" "D" (.double d2) ∧ Fld Z h o0 "com/example/crowded_platform/crowdedplatform/geometry/Box" "maxX" "D" (.double d3) ∧ Fld Z h o0 "com/example/crowded_platform/crowdedplatform/geometry/Box" "maxY" "D" (.double d4)
set_option maxRecDepth 65536 in
set_option maxHeartbeats 40000000 in
theorem rm1 (l : Launch) (Z : State) (a0 : Array Value) (hw : ∀ d ∈ tables_1, d.before a0 Z = true) (ws : List Jvm.Cond) (o0 : Addr) (d1 : UInt64) (d2 : UInt64) (d3 : UInt64) (d4 : UInt64)  (h0 : Heap) (n0 : Nat) (Z0 : n0 ≤ h0.size) (E_o0 : Exa Z h0 o0 "com/example/crowded_platform/crowdedplatform/geometry/Box") (g_o0 : n0 ≤ o0) (F_minX_o0 : Fld Z h0 o0 "com/example/crowded_platform/crowdedplatform/geometry/Box" "minX" "D" (.double (0 : UInt64))) (F_minY_o0 : Fld Z h0 o0 "com/example/crowded_platform/crowdedplatform/geometry/Box" "minY" "D" (.double (0 : UInt64))) (F_maxX_o0 : Fld Z h0 o0 "com/example/crowded_platform/crowdedplatform/geometry/Box" "maxX" "D" (.double (0 : UInt64))) (F_maxY_o0 : Fld Z h0 o0 "com/example/crowded_platform/crowdedplatform/geometry/Box" "maxY" "D" (.double (0 : UInt64))) :
    MetFree l (⟨"com/example/crowded_platform/crowdedplatform/geometry/Box", "<init>", "(DDDD)V"⟩ : MethodName) (head1 (Jvm.Cond.code (⟨"com/example/crowded_platform/crowdedplatform/geometry/Box", "<init>", "(DDDD)V"⟩ : MethodName) prog_1_method_1_code 9 none :: ws) (room_of_1)) (fun a U => a = #[(.ref o0), (.double d1), (.double d2), (.double d3), (.double d4)] ∧ Z.Warmed39 U.vm ∧ U.heap = h0) (fun _ _ _ _ _ => True) (fun _ U o U' => ∃ v L, o = .returned v ∧ Q1 Z o0 d1 d2 d3 d4 h0 n0 v U'.heap L ∧ FrameEnd U o U' L (room_of_1).cells (room_of_1).slots) := by
  refine MetFree.of_bodySF (plainFor_of_name pn_1) hisR ?_
  intro p e s m args below meth c s₁ Bd hml0 hP hK
  obtain ⟨rfl, hZ, hh⟩ := hP
  have hx := Bd.exec
  have hby := Bd.bytes
  have hml : c.maxLocals = 9 := hml0
  have hown : s.vm.findClass "com/example/crowded_platform/crowdedplatform/geometry/Box" = some m.cls := findClass_of_methodNamed Bd.named
  have hnm := (name_of_methodNamed Bd.named Bd.method).1
  have X0 : Stand p l e (room_of_1) s m #[(.ref o0), (.double d1), (.double d2), (.double d3), (.double d4)] below meth c s₁ [] 0 0 := Stand.of_body Bd
  have e0 : s₁.heap = h0 := by rw [← hh, Bd.state]; rfl
  have N0 := Fr.nil n0
  have G0 := gd X0 hx hby
  have pre0 : ∀ t, Steps p.tables e below (s₁.setTop (mkF m 0 #[rv o0, dv d1, .second, dv d2, .second, dv d3, .second, dv d4, .second] [])) t → Steps p.tables e below (s₁.setTop (entryFrame m #[(.ref o0), (.double d1), (.double d2), (.double d3), (.double d4)] 9)) t := fun t k => castTop (ef1 m o0 d1 d2 d3 d4) k
  obtain ⟨_, _, ⟨T1, L1, k1, n1⟩, -, X1, ⟨Lc1, hQ1, l1, y1, z1⟩, st1⟩ := X0.specialBack hx (y := (⟨"java/lang/Record", "<init>", "()V"⟩ : MethodName)) rfl hown (mvT hZ (wd hw 7 rfl)) (mvT hZ (wd hw 8 rfl)) (mvT hZ (wd hw 11 rfl)) (by decide) (backOf (W := 0) (rm2 l Z a0 hw [] o0 h0 n0 Z0 ) hZ (wd hw 11 rfl) (wd hw 10 rfl) (by decide) (by decide)) (g := (mkF m 1 #[rv o0, dv d1, .second, dv d2, .second, dv d3, .second, dv d4, .second] [(.ref o0)])) rfl (by rw [hml]; rfl) (Steps.refl _) (a := o0) (argsL := []) (rest := []) (lenOf pd_0 rfl) rfl (by show 2 * 0 + _ ≤ _; exact Nat.le_of_eq rfl) (hb hby d1_1) (fun _ _ => ⟨rfl, e0, (by decide : 0 + 0 ≤ _), (by decide : 0 + 0 ≤ _)⟩)
  dsimp only [Pt.U, Pt.locs, Pt.cells, Pt.slots] at X1 l1 y1 z1 st1 hQ1
  replace l1 : ([] ++ Lc1) = L1 := l1.symm
  subst l1 y1 z1
  obtain ⟨rfl, rfl, e1⟩ := hQ1
  simp only [List.append_nil, Nat.add_zero] at X1
  have G1 := gd X1 hx hby
  obtain ⟨T2, h2, X2, e2, W2, st2⟩ := putF X1 hx hZ hown (host := "") (Or.inl (wd hw 15 rfl)) Via.refl e1 F_minX_o0 E_o0 (Or.inr ⟨(wd hw 16 rfl), rfl, hnm⟩) (wd hw 2 rfl) (ty := .double) (by decide) rfl rfl (g := (mkF m 6 #[rv o0, dv d1, .second, dv d2, .second, dv d3, .second, dv d4, .second] [(.double d1), (.ref o0)])) rfl rfl (hb hby d1_6)
  have G2 := gd X2 hx hby
  have N2 := Fr.snoc X2 N0 g_o0
  have f3 := E_o0.wr W2
  have f6 := F_minY_o0.other W2 (Or.inr (slot_ne (Or.inr (wd hw 18 rfl)) (Or.inr (wd hw 16 rfl)) (by decide) (t := .double) (t' := .double) (by decide) (by decide)))
  have f7 := F_maxX_o0.other W2 (Or.inr (slot_ne (Or.inr (wd hw 20 rfl)) (Or.inr (wd hw 16 rfl)) (by decide) (t := .double) (t' := .double) (by decide) (by decide)))
  have f8 := F_maxY_o0.other W2 (Or.inr (slot_ne (Or.inr (wd hw 22 rfl)) (Or.inr (wd hw 16 rfl)) (by decide) (t := .double) (t' := .double) (by decide) (by decide)))
  have Z2 := Nat.le_trans Z0 (Keep.of_wr W2).1
  have K2 : Keep h0 h2 [o0] := (Keep.refl h0 [o0]).wr W2 (Or.inl (List.mem_of_getElem? (i := 0) rfl))
  have Fw2 := F_minX_o0.same W2
  obtain ⟨T9, h9, X9, e9, W9, st9⟩ := putF X2 hx hZ hown (host := "") (Or.inl (wd hw 17 rfl)) Via.refl e2 f6 f3 (Or.inr ⟨(wd hw 18 rfl), rfl, hnm⟩) (wd hw 2 rfl) (ty := .double) (by decide) rfl rfl (g := (mkF m 11 #[rv o0, dv d1, .second, dv d2, .second, dv d3, .second, dv d4, .second] [(.double d2), (.ref o0)])) rfl rfl (hb hby d1_11)
  have G9 := gd X9 hx hby
  have N9 := Fr.snoc X9 N2 g_o0
  have f10 := f3.wr W9
  have f12 := Fw2.other W9 (Or.inr (slot_ne (Or.inr (wd hw 16 rfl)) (Or.inr (wd hw 18 rfl)) (by decide) (t := .double) (t' := .double) (by decide) (by decide)))
  have f14 := f7.other W9 (Or.inr (slot_ne (Or.inr (wd hw 20 rfl)) (Or.inr (wd hw 18 rfl)) (by decide) (t := .double) (t' := .double) (by decide) (by decide)))
  have f15 := f8.other W9 (Or.inr (slot_ne (Or.inr (wd hw 22 rfl)) (Or.inr (wd hw 18 rfl)) (by decide) (t := .double) (t' := .double) (by decide) (by decide)))
  have Z9 := Nat.le_trans Z2 (Keep.of_wr W9).1
  have K9 : Keep h0 h9 [o0] := K2.wr W9 (Or.inl (List.mem_of_getElem? (i := 0) rfl))
  have Fw9 := f6.same W9
  obtain ⟨T16, h16, X16, e16, W16, st16⟩ := putF X9 hx hZ hown (host := "") (Or.inl (wd hw 19 rfl)) Via.refl e9 f14 f10 (Or.inr ⟨(wd hw 20 rfl), rfl, hnm⟩) (wd hw 2 rfl) (ty := .double) (by decide) rfl rfl (g := (mkF m 17 #[rv o0, dv d1, .second, dv d2, .second, dv d3, .second, dv d4, .second] [(.double d3), (.ref o0)])) rfl rfl (hb hby d1_17)
  have G16 := gd X16 hx hby
  have N16 := Fr.snoc X16 N9 g_o0
  have f17 := f10.wr W16
  have f19 := f12.other W16 (Or.inr (slot_ne (Or.inr (wd hw 16 rfl)) (Or.inr (wd hw 20 rfl)) (by decide) (t := .double) (t' := .double) (by decide) (by decide)))
  have f20 := Fw9.other W16 (Or.inr (slot_ne (Or.inr (wd hw 18 rfl)) (Or.inr (wd hw 20 rfl)) (by decide) (t := .double) (t' := .double) (by decide) (by decide)))
  have f22 := f15.other W16 (Or.inr (slot_ne (Or.inr (wd hw 22 rfl)) (Or.inr (wd hw 20 rfl)) (by decide) (t := .double) (t' := .double) (by decide) (by decide)))
  have Z16 := Nat.le_trans Z9 (Keep.of_wr W16).1
  have K16 : Keep h0 h16 [o0] := K9.wr W16 (Or.inl (List.mem_of_getElem? (i := 0) rfl))
  have Fw16 := f14.same W16
  obtain ⟨T23, h23, X23, e23, W23, st23⟩ := putF X16 hx hZ hown (host := "") (Or.inl (wd hw 21 rfl)) Via.refl e16 f22 f17 (Or.inr ⟨(wd hw 22 rfl), rfl, hnm⟩) (wd hw 2 rfl) (ty := .double) (by decide) rfl rfl (g := (mkF m 23 #[rv o0, dv d1, .second, dv d2, .second, dv d3, .second, dv d4, .second] [(.double d4), (.ref o0)])) rfl rfl (hb hby d1_23)
  have G23 := gd X23 hx hby
  have N23 := Fr.snoc X23 N16 g_o0
  have f24 := f17.wr W23
  have f26 := f19.other W23 (Or.inr (slot_ne (Or.inr (wd hw 16 rfl)) (Or.inr (wd hw 22 rfl)) (by decide) (t := .double) (t' := .double) (by decide) (by decide)))
  have f27 := f20.other W23 (Or.inr (slot_ne (Or.inr (wd hw 18 rfl)) (Or.inr (wd hw 22 rfl)) (by decide) (t := .double) (t' := .double) (by decide) (by decide)))
  have f28 := Fw16.other W23 (Or.inr (slot_ne (Or.inr (wd hw 20 rfl)) (Or.inr (wd hw 22 rfl)) (by decide) (t := .double) (t' := .double) (by decide) (by decide)))
  have Z23 := Nat.le_trans Z16 (Keep.of_wr W23).1
  have K23 : Keep h0 h23 [o0] := K16.wr W23 (Or.inl (List.mem_of_getElem? (i := 0) rfl))
  have Fw23 := f22.same W23
  obtain ⟨fs, hr, hrun, hended, hW, hsame⟩ := X23.leave (v := none) (fun _ => rfl)
  refine ⟨_, _, pre0 _ ?_, hrun, hended, _, _, rfl, ?_, ⟨_, rfl⟩, hW, hsame.mono (by decide) (by decide)⟩
  · show Steps p.tables e below (s₁.setTop (mkF m 0 #[rv o0, dv d1, .second, dv d2, .second, dv d3, .second, dv d4, .second] [])) _
    refine maloadN 1 G0 d1_0 rfl rfl rfl ?_
    refine st1.trans ?_
    show Steps p.tables e below (T1.setTop (mkF m 4 #[rv o0, dv d1, .second, dv d2, .second, dv d3, .second, dv d4, .second] [])) _
    refine maloadN 5 G1 d1_4 rfl rfl rfl ?_
    refine mdloadN 6 G1 d1_5 rfl rfl ?_
    refine st2 _ ?_
    show Steps p.tables e below (T2.setTop (mkF m 9 #[rv o0, dv d1, .second, dv d2, .second, dv d3, .second, dv d4, .second] [])) _
    refine maloadN 10 G2 d1_9 rfl rfl rfl ?_
    refine mdloadN 11 G2 d1_10 rfl rfl ?_
    refine st9 _ ?_
    show Steps p.tables e below (T9.setTop (mkF m 14 #[rv o0, dv d1, .second, dv d2, .second, dv d3, .second, dv d4, .second] [])) _
    refine maloadN 15 G9 d1_14 rfl rfl rfl ?_
    refine mdload 17 G9 d1_15 rfl rfl ?_
    refine st16 _ ?_
    show Steps p.tables e below (T16.setTop (mkF m 20 #[rv o0, dv d1, .second, dv d2, .second, dv d3, .second, dv d4, .second] [])) _
    refine maloadN 21 G16 d1_20 rfl rfl rfl ?_
    refine mdload 23 G16 d1_21 rfl rfl ?_
    refine st23 _ ?_
    show Steps p.tables e below (T23.setTop (mkF m 26 #[rv o0, dv d1, .second, dv d2, .second, dv d3, .second, dv d4, .second] [])) _
    exact X23.returnOut hx Bd.returns (hb hby d1_26) hr
  · show Q1 Z o0 d1 d2 d3 d4 h0 n0 _ T23.heap _
    rw [e23]
    exact ⟨rfl, N23, K23, f24, f26, f27, f28, Fw23⟩
theorem d4_0 : decode jdk_29_method_66_code 0 = .ok (.lload_n 0, 1) := by decide +kernel
theorem d4_1 : decode jdk_29_method_66_code 1 = .ok (.lload_n 2, 1) := by decide +kernel
theorem d4_2 : decode jdk_29_method_66_code 2 = .ok (.lcmp, 1) := by decide +kernel
theorem d4_3 : decode jdk_29_method_66_code 3 = .ok (.ifCond .lt 7, 3) := by decide +kernel
theorem d4_6 : decode jdk_29_method_66_code 6 = .ok (.lload_n 0, 1) := by decide +kernel
theorem d4_7 : decode jdk_29_method_66_code 7 = .ok (.goto 4, 3) := by decide +kernel
theorem d4_10 : decode jdk_29_method_66_code 10 = .ok (.lload_n 2, 1) := by decide +kernel
theorem d4_11 : decode jdk_29_method_66_code 11 = .ok (.lreturn, 1) := by decide +kernel
theorem ef4 (m : MethodId) (q0 : Int64) (q1 : Int64) : entryFrame m #[(.long q0), (.long q1)] 4 = mkF m 0 #[lv q0, .second, lv q1, .second] [] := by first | (simp [entryFrame, mkF, argsToLocals, Value.category]; done) | rfl
abbrev room_of_4 : Room := { frames := 0, cells := 0, slots := 0, locals := 0 }
def rv4 (q0 : Int64) (q1 : Int64) : Int64 := (if (lcmpW q0 q1) < (0 : Int32) then q1 else q0)
def Q4 (Z : State) (q0 : Int64) (q1 : Int64) (h0 : Heap) (n0 : Nat) (v : Option Value) (h : Heap) (L : List Loc) : Prop := v = some (.long (rv4 q0 q1)) ∧ L = [] ∧ h = h0
set_option maxRecDepth 65536 in
set_option maxHeartbeats 40000000 in
theorem rm4 (l : Launch) (Z : State) (a0 : Array Value) (hw : ∀ d ∈ tables_1, d.before a0 Z = true) (ws : List Jvm.Cond) (q0 : Int64) (q1 : Int64)  (h0 : Heap) (n0 : Nat) (Z0 : n0 ≤ h0.size) :
    MetFree l (⟨"java/lang/Math", "max", "(JJ)J"⟩ : MethodName) (head1 (Jvm.Cond.code (⟨"java/lang/Math", "max", "(JJ)J"⟩ : MethodName) jdk_29_method_66_code 4 (some .long) :: ws) (room_of_4)) (fun a U => a = #[(.long q0), (.long q1)] ∧ Z.Warmed39 U.vm ∧ U.heap = h0) (fun _ _ _ _ _ => True) (fun _ U o U' => ∃ v L, o = .returned v ∧ Q4 Z q0 q1 h0 n0 v U'.heap L ∧ FrameEnd U o U' L (room_of_4).cells (room_of_4).slots) := by
  refine MetFree.of_bodySF (Jvm.Free.JP.mathPlain rfl (by decide +kernel)) hisR ?_
  intro p e s m args below meth c s₁ Bd hml0 hP hK
  obtain ⟨rfl, hZ, hh⟩ := hP
  have hx := Bd.exec
  have hby := Bd.bytes
  have hml : c.maxLocals = 4 := hml0
  have hown : s.vm.findClass "java/lang/Math" = some m.cls := findClass_of_methodNamed Bd.named
  have hnm := (name_of_methodNamed Bd.named Bd.method).1
  have X0 : Stand p l e (room_of_4) s m #[(.long q0), (.long q1)] below meth c s₁ [] 0 0 := Stand.of_body Bd
  have e0 : s₁.heap = h0 := by rw [← hh, Bd.state]; rfl
  have N0 := Fr.nil n0
  have G0 := gd X0 hx hby
  have pre0 : ∀ t, Steps p.tables e below (s₁.setTop (mkF m 0 #[lv q0, .second, lv q1, .second] [])) t → Steps p.tables e below (s₁.setTop (entryFrame m #[(.long q0), (.long q1)] 4)) t := fun t k => castTop (ef4 m q0 q1) k
  obtain ⟨T2, X2, e2, st2⟩ : ∃ T' : State, Stand p l e (room_of_4) s m #[(.long q0), (.long q1)] below meth c T' [] 0 0 ∧ T'.heap = h0 ∧ ∀ target, Steps p.tables e below (T'.setTop (mkF m 11 #[lv q0, .second, lv q1, .second] [(.long (if (lcmpW q0 q1) < (0 : Int32) then q1 else q0))])) target → Steps p.tables e below (s₁.setTop (mkF m 3 #[lv q0, .second, lv q1, .second] [(.int (lcmpW q0 q1))])) target := by
    by_cases hc3_1 : (lcmpW q0 q1) < (0 : Int32)
    · refine ⟨s₁, X0, e0, fun target kt => ?_⟩
      refine mifYes 10 G0 d4_3 ((if0 _ _).trans (tlt hc3_1).1) (by decide) rfl ?_
      refine mlloadN 11 G0 d4_10 rfl rfl ?_
      exact castTop (g' := (mkF m 11 #[lv q0, .second, lv q1, .second] [(.long (if (lcmpW q0 q1) < (0 : Int32) then q1 else q0))])) (by simp only [if_pos hc3_1]) kt
    · refine ⟨s₁, X0, e0, fun target kt => ?_⟩
      refine mifNo 6 G0 d4_3 ((if0 _ _).trans (flt hc3_1).1) rfl ?_
      refine mlloadN 7 G0 d4_6 rfl rfl ?_
      refine mgoto 11 G0 d4_7 (by decide) rfl ?_
      exact castTop (g' := (mkF m 11 #[lv q0, .second, lv q1, .second] [(.long (if (lcmpW q0 q1) < (0 : Int32) then q1 else q0))])) (by simp only [if_neg hc3_1]) kt
  have G2 := gd X2 hx hby
  obtain ⟨fs, hr, hrun, hended, hW, hsame⟩ := X2.leave (v := some (.long (if (lcmpW q0 q1) < (0 : Int32) then q1 else q0))) (fun h => by rw [Bd.returns] at h; cases h)
  refine ⟨_, _, pre0 _ ?_, hrun, hended, _, _, rfl, ?_, ⟨_, rfl⟩, hW, hsame.mono (by decide) (by decide)⟩
  · show Steps p.tables e below (s₁.setTop (mkF m 0 #[lv q0, .second, lv q1, .second] [])) _
    refine mlloadN 1 G0 d4_0 rfl rfl ?_
    refine mlloadN 2 G0 d4_1 rfl rfl ?_
    refine mlcmp 3 G0 d4_2 rfl ?_
    refine st2 _ ?_
    exact retOut X2 hx Bd.returns rfl (Or.inr (Or.inl ⟨rfl, rfl, _, rfl⟩)) (hb hby d4_11) hr
  · show Q4 Z q0 q1 h0 n0 _ T2.heap _
    rw [e2]
    exact ⟨by simp only [rv4], rfl, rfl⟩
theorem d5_0 : decode jdk_29_method_70_code 0 = .ok (.lload_n 0, 1) := by decide +kernel
theorem d5_1 : decode jdk_29_method_70_code 1 = .ok (.lload_n 2, 1) := by decide +kernel
theorem d5_2 : decode jdk_29_method_70_code 2 = .ok (.lcmp, 1) := by decide +kernel
theorem d5_3 : decode jdk_29_method_70_code 3 = .ok (.ifCond .gt 7, 3) := by decide +kernel
theorem d5_6 : decode jdk_29_method_70_code 6 = .ok (.lload_n 0, 1) := by decide +kernel
theorem d5_7 : decode jdk_29_method_70_code 7 = .ok (.goto 4, 3) := by decide +kernel
theorem d5_10 : decode jdk_29_method_70_code 10 = .ok (.lload_n 2, 1) := by decide +kernel
theorem d5_11 : decode jdk_29_method_70_code 11 = .ok (.lreturn, 1) := by decide +kernel
theorem ef5 (m : MethodId) (q0 : Int64) (q1 : Int64) : entryFrame m #[(.long q0), (.long q1)] 4 = mkF m 0 #[lv q0, .second, lv q1, .second] [] := by first | (simp [entryFrame, mkF, argsToLocals, Value.category]; done) | rfl
abbrev room_of_5 : Room := { frames := 0, cells := 0, slots := 0, locals := 0 }
def rv5 (q0 : Int64) (q1 : Int64) : Int64 := (if (0 : Int32) < (lcmpW q0 q1) then q1 else q0)
def Q5 (Z : State) (q0 : Int64) (q1 : Int64) (h0 : Heap) (n0 : Nat) (v : Option Value) (h : Heap) (L : List Loc) : Prop := v = some (.long (rv5 q0 q1)) ∧ L = [] ∧ h = h0
set_option maxRecDepth 65536 in
set_option maxHeartbeats 40000000 in
theorem rm5 (l : Launch) (Z : State) (a0 : Array Value) (hw : ∀ d ∈ tables_1, d.before a0 Z = true) (ws : List Jvm.Cond) (q0 : Int64) (q1 : Int64)  (h0 : Heap) (n0 : Nat) (Z0 : n0 ≤ h0.size) :
    MetFree l (⟨"java/lang/Math", "min", "(JJ)J"⟩ : MethodName) (head1 (Jvm.Cond.code (⟨"java/lang/Math", "min", "(JJ)J"⟩ : MethodName) jdk_29_method_70_code 4 (some .long) :: ws) (room_of_5)) (fun a U => a = #[(.long q0), (.long q1)] ∧ Z.Warmed39 U.vm ∧ U.heap = h0) (fun _ _ _ _ _ => True) (fun _ U o U' => ∃ v L, o = .returned v ∧ Q5 Z q0 q1 h0 n0 v U'.heap L ∧ FrameEnd U o U' L (room_of_5).cells (room_of_5).slots) := by
  refine MetFree.of_bodySF (Jvm.Free.JP.mathPlain rfl (by decide +kernel)) hisR ?_
  intro p e s m args below meth c s₁ Bd hml0 hP hK
  obtain ⟨rfl, hZ, hh⟩ := hP
  have hx := Bd.exec
  have hby := Bd.bytes
  have hml : c.maxLocals = 4 := hml0
  have hown : s.vm.findClass "java/lang/Math" = some m.cls := findClass_of_methodNamed Bd.named
  have hnm := (name_of_methodNamed Bd.named Bd.method).1
  have X0 : Stand p l e (room_of_5) s m #[(.long q0), (.long q1)] below meth c s₁ [] 0 0 := Stand.of_body Bd
  have e0 : s₁.heap = h0 := by rw [← hh, Bd.state]; rfl
  have N0 := Fr.nil n0
  have G0 := gd X0 hx hby
  have pre0 : ∀ t, Steps p.tables e below (s₁.setTop (mkF m 0 #[lv q0, .second, lv q1, .second] [])) t → Steps p.tables e below (s₁.setTop (entryFrame m #[(.long q0), (.long q1)] 4)) t := fun t k => castTop (ef5 m q0 q1) k
  obtain ⟨T2, X2, e2, st2⟩ : ∃ T' : State, Stand p l e (room_of_5) s m #[(.long q0), (.long q1)] below meth c T' [] 0 0 ∧ T'.heap = h0 ∧ ∀ target, Steps p.tables e below (T'.setTop (mkF m 11 #[lv q0, .second, lv q1, .second] [(.long (if (0 : Int32) < (lcmpW q0 q1) then q1 else q0))])) target → Steps p.tables e below (s₁.setTop (mkF m 3 #[lv q0, .second, lv q1, .second] [(.int (lcmpW q0 q1))])) target := by
    by_cases hc3_1 : (0 : Int32) < (lcmpW q0 q1)
    · refine ⟨s₁, X0, e0, fun target kt => ?_⟩
      refine mifYes 10 G0 d5_3 ((if0 _ _).trans (tlt hc3_1).2.2.1) (by decide) rfl ?_
      refine mlloadN 11 G0 d5_10 rfl rfl ?_
      exact castTop (g' := (mkF m 11 #[lv q0, .second, lv q1, .second] [(.long (if (0 : Int32) < (lcmpW q0 q1) then q1 else q0))])) (by simp only [if_pos hc3_1]) kt
    · refine ⟨s₁, X0, e0, fun target kt => ?_⟩
      refine mifNo 6 G0 d5_3 ((if0 _ _).trans (flt hc3_1).2.2.1) rfl ?_
      refine mlloadN 7 G0 d5_6 rfl rfl ?_
      refine mgoto 11 G0 d5_7 (by decide) rfl ?_
      exact castTop (g' := (mkF m 11 #[lv q0, .second, lv q1, .second] [(.long (if (0 : Int32) < (lcmpW q0 q1) then q1 else q0))])) (by simp only [if_neg hc3_1]) kt
  have G2 := gd X2 hx hby
  obtain ⟨fs, hr, hrun, hended, hW, hsame⟩ := X2.leave (v := some (.long (if (0 : Int32) < (lcmpW q0 q1) then q1 else q0))) (fun h => by rw [Bd.returns] at h; cases h)
  refine ⟨_, _, pre0 _ ?_, hrun, hended, _, _, rfl, ?_, ⟨_, rfl⟩, hW, hsame.mono (by decide) (by decide)⟩
  · show Steps p.tables e below (s₁.setTop (mkF m 0 #[lv q0, .second, lv q1, .second] [])) _
    refine mlloadN 1 G0 d5_0 rfl rfl ?_
    refine mlloadN 2 G0 d5_1 rfl rfl ?_
    refine mlcmp 3 G0 d5_2 rfl ?_
    refine st2 _ ?_
    exact retOut X2 hx Bd.returns rfl (Or.inr (Or.inl ⟨rfl, rfl, _, rfl⟩)) (hb hby d5_11) hr
  · show Q5 Z q0 q1 h0 n0 _ T2.heap _
    rw [e2]
    exact ⟨by simp only [rv5], rfl, rfl⟩
theorem d6_0 : decode prog_1_method_5_code 0 = .ok (.aload_n 0, 1) := by decide +kernel
theorem d6_1 : decode prog_1_method_5_code 1 = .ok (.getfield 7, 3) := by decide +kernel
theorem d6_4 : decode prog_1_method_5_code 4 = .ok (.aload_n 1, 1) := by decide +kernel
theorem d6_5 : decode prog_1_method_5_code 5 = .ok (.getfield 16, 3) := by decide +kernel
theorem d6_8 : decode prog_1_method_5_code 8 = .ok (.dcmp .g, 1) := by decide +kernel
theorem d6_9 : decode prog_1_method_5_code 9 = .ok (.ifCond .gt 43, 3) := by decide +kernel
theorem d6_12 : decode prog_1_method_5_code 12 = .ok (.aload_n 1, 1) := by decide +kernel
theorem d6_13 : decode prog_1_method_5_code 13 = .ok (.getfield 7, 3) := by decide +kernel
theorem d6_16 : decode prog_1_method_5_code 16 = .ok (.aload_n 0, 1) := by decide +kernel
theorem d6_17 : decode prog_1_method_5_code 17 = .ok (.getfield 16, 3) := by decide +kernel
theorem d6_20 : decode prog_1_method_5_code 20 = .ok (.dcmp .g, 1) := by decide +kernel
theorem d6_21 : decode prog_1_method_5_code 21 = .ok (.ifCond .gt 31, 3) := by decide +kernel
theorem d6_24 : decode prog_1_method_5_code 24 = .ok (.aload_n 0, 1) := by decide +kernel
theorem d6_25 : decode prog_1_method_5_code 25 = .ok (.getfield 13, 3) := by decide +kernel
theorem d6_28 : decode prog_1_method_5_code 28 = .ok (.aload_n 1, 1) := by decide +kernel
theorem d6_29 : decode prog_1_method_5_code 29 = .ok (.getfield 19, 3) := by decide +kernel
theorem d6_32 : decode prog_1_method_5_code 32 = .ok (.dcmp .g, 1) := by decide +kernel
theorem d6_33 : decode prog_1_method_5_code 33 = .ok (.ifCond .gt 19, 3) := by decide +kernel
theorem d6_36 : decode prog_1_method_5_code 36 = .ok (.aload_n 1, 1) := by decide +kernel
theorem d6_37 : decode prog_1_method_5_code 37 = .ok (.getfield 13, 3) := by decide +kernel
theorem d6_40 : decode prog_1_method_5_code 40 = .ok (.aload_n 0, 1) := by decide +kernel
theorem d6_41 : decode prog_1_method_5_code 41 = .ok (.getfield 19, 3) := by decide +kernel
theorem d6_44 : decode prog_1_method_5_code 44 = .ok (.dcmp .g, 1) := by decide +kernel
theorem d6_45 : decode prog_1_method_5_code 45 = .ok (.ifCond .gt 7, 3) := by decide +kernel
theorem d6_48 : decode prog_1_method_5_code 48 = .ok (.iconst 1, 1) := by decide +kernel
theorem d6_49 : decode prog_1_method_5_code 49 = .ok (.goto 4, 3) := by decide +kernel
theorem d6_52 : decode prog_1_method_5_code 52 = .ok (.iconst 0, 1) := by decide +kernel
theorem d6_53 : decode prog_1_method_5_code 53 = .ok (.ireturn, 1) := by decide +kernel
theorem pn_6 : plainName "com/example/crowded_platform/crowdedplatform/geometry/Box" = true := by first | (simp [plainName, overriddenIn]; done) | decide +kernel
theorem ef6 (m : MethodId) (o0 : Addr) (o1 : Addr) : entryFrame m #[(.ref o0), (.ref o1)] 2 = mkF m 0 #[rv o0, rv o1] [] := by first | (simp [entryFrame, mkF, argsToLocals, Value.category]; done) | rfl
abbrev room_of_6 : Room := { frames := 0, cells := 0, slots := 0, locals := 0 }
def rv6 (u0 : UInt64) (u1 : UInt64) (u2 : UInt64) (u3 : UInt64) (w0 : UInt64) (w1 : UInt64) (w2 : UInt64) (w3 : UInt64) : Int32 := (if (0 : Int32) < (cmpValue (FP.dcmp u0 w2) .g) then (0 : Int32) else (if (0 : Int32) < (cmpValue (FP.dcmp w0 u2) .g) then (0 : Int32) else (if (0 : Int32) < (cmpValue (FP.dcmp u1 w3) .g) then (0 : Int32) else (if (0 : Int32) < (cmpValue (FP.dcmp w1 u3) .g) then (0 : Int32) else (1 : Int32)))))
def Q6 (Z : State) (o0 : Addr) (o1 : Addr) (u0 : UInt64) (u1 : UInt64) (u2 : UInt64) (u3 : UInt64) (w0 : UInt64) (w1 : UInt64) (w2 : UInt64) (w3 : UInt64) (h0 : Heap) (n0 : Nat) (v : Option Value) (h : Heap) (L : List Loc) : Prop := v = some (.int (rv6 u0 u1 u2 u3 w0 w1 w2 w3)) ∧ L = [] ∧ h = h0
set_option maxRecDepth 65536 in
set_option maxHeartbeats 40000000 in
theorem rm6 (l : Launch) (Z : State) (a0 : Array Value) (hw : ∀ d ∈ tables_1, d.before a0 Z = true) (ws : List Jvm.Cond) (o0 : Addr) (o1 : Addr) {u0 : UInt64} {u1 : UInt64} {u2 : UInt64} {u3 : UInt64} {w0 : UInt64} {w1 : UInt64} {w2 : UInt64} {w3 : UInt64} (h0 : Heap) (n0 : Nat) (Z0 : n0 ≤ h0.size) (F_minX_o0 : Fld Z h0 o0 "com/example/crowded_platform/crowdedplatform/geometry/Box" "minX" "D" (.double u0)) (F_minY_o0 : Fld Z h0 o0 "com/example/crowded_platform/crowdedplatform/geometry/Box" "minY" "D" (.double u1)) (F_maxX_o0 : Fld Z h0 o0 "com/example/crowded_platform/crowdedplatform/geometry/Box" "maxX" "D" (.double u2)) (F_maxY_o0 : Fld Z h0 o0 "com/example/crowded_platform/crowdedplatform/geometry/Box" "maxY" "D" (.double u3)) (F_minX_o1 : Fld Z h0 o1 "com/example/crowded_platform/crowdedplatform/geometry/Box" "minX" "D" (.double w0)) (F_minY_o1 : Fld Z h0 o1 "com/example/crowded_platform/crowdedplatform/geometry/Box" "minY" "D" (.double w1)) (F_maxX_o1 : Fld Z h0 o1 "com/example/crowded_platform/crowdedplatform/geometry/Box" "maxX" "D" (.double w2)) (F_maxY_o1 : Fld Z h0 o1 "com/example/crowded_platform/crowdedplatform/geometry/Box" "maxY" "D" (.double w3)) :
    MetFree l (⟨"com/example/crowded_platform/crowdedplatform/geometry/Box", "meets", "(Lcom/example/crowded_platform/crowdedplatform/geometry/Box;)Z"⟩ : MethodName) (head1 (Jvm.Cond.code (⟨"com/example/crowded_platform/crowdedplatform/geometry/Box", "meets", "(Lcom/example/crowded_platform/crowdedplatform/geometry/Box;)Z"⟩ : MethodName) prog_1_method_5_code 2 (some .boolean) :: ws) (room_of_6)) (fun a U => a = #[(.ref o0), (.ref o1)] ∧ Z.Warmed39 U.vm ∧ U.heap = h0) (fun _ _ _ _ _ => True) (fun _ U o U' => ∃ v L, o = .returned v ∧ Q6 Z o0 o1 u0 u1 u2 u3 w0 w1 w2 w3 h0 n0 v U'.heap L ∧ FrameEnd U o U' L (room_of_6).cells (room_of_6).slots) := by
  refine MetFree.of_bodySF (plainFor_of_name pn_6) hisR ?_
  intro p e s m args below meth c s₁ Bd hml0 hP hK
  obtain ⟨rfl, hZ, hh⟩ := hP
  have hx := Bd.exec
  have hby := Bd.bytes
  have hml : c.maxLocals = 2 := hml0
  have hown : s.vm.findClass "com/example/crowded_platform/crowdedplatform/geometry/Box" = some m.cls := findClass_of_methodNamed Bd.named
  have hnm := (name_of_methodNamed Bd.named Bd.method).1
  have X0 : Stand p l e (room_of_6) s m #[(.ref o0), (.ref o1)] below meth c s₁ [] 0 0 := Stand.of_body Bd
  have e0 : s₁.heap = h0 := by rw [← hh, Bd.state]; rfl
  have N0 := Fr.nil n0
  have G0 := gd X0 hx hby
  have pre0 : ∀ t, Steps p.tables e below (s₁.setTop (mkF m 0 #[rv o0, rv o1] [])) t → Steps p.tables e below (s₁.setTop (entryFrame m #[(.ref o0), (.ref o1)] 2)) t := fun t k => castTop (ef6 m o0 o1) k
  obtain ⟨T1, X1, e1, st1⟩ := getF X0 hx hZ hown (host := "") (Or.inl (wd hw 15 rfl)) Via.refl e0 F_minX_o0 (g := (mkF m 1 #[rv o0, rv o1] [(.ref o0)])) rfl rfl (hb hby d6_1)
  have G1 := gd X1 hx hby
  obtain ⟨T2, X2, e2, st2⟩ := getF X1 hx hZ hown (host := "") (Or.inl (wd hw 19 rfl)) Via.refl e1 F_maxX_o1 (g := (mkF m 5 #[rv o0, rv o1] [(.ref o1), (.double u0)])) rfl rfl (hb hby d6_5)
  have G2 := gd X2 hx hby
  obtain ⟨T4, X4, e4, st4⟩ : ∃ T' : State, Stand p l e (room_of_6) s m #[(.ref o0), (.ref o1)] below meth c T' [] 0 0 ∧ T'.heap = h0 ∧ ∀ target, Steps p.tables e below (T'.setTop (mkF m 53 #[rv o0, rv o1] [(.int (if (0 : Int32) < (cmpValue (FP.dcmp u0 w2) .g) then (0 : Int32) else (if (0 : Int32) < (cmpValue (FP.dcmp w0 u2) .g) then (0 : Int32) else (if (0 : Int32) < (cmpValue (FP.dcmp u1 w3) .g) then (0 : Int32) else (if (0 : Int32) < (cmpValue (FP.dcmp w1 u3) .g) then (0 : Int32) else (1 : Int32))))))])) target → Steps p.tables e below (T2.setTop (mkF m 9 #[rv o0, rv o1] [(.int (cmpValue (FP.dcmp u0 w2) .g))])) target := by
    by_cases hc9_3 : (0 : Int32) < (cmpValue (FP.dcmp u0 w2) .g)
    · refine ⟨T2, X2, e2, fun target kt => ?_⟩
      refine mifYes 52 G2 d6_9 ((if0 _ _).trans (tlt hc9_3).2.2.1) (by decide) rfl ?_
      refine miconst 53 G2 d6_52 (v := (0 : Int32)) rfl rfl ?_
      exact castTop (g' := (mkF m 53 #[rv o0, rv o1] [(.int (if (0 : Int32) < (cmpValue (FP.dcmp u0 w2) .g) then (0 : Int32) else (if (0 : Int32) < (cmpValue (FP.dcmp w0 u2) .g) then (0 : Int32) else (if (0 : Int32) < (cmpValue (FP.dcmp u1 w3) .g) then (0 : Int32) else (if (0 : Int32) < (cmpValue (FP.dcmp w1 u3) .g) then (0 : Int32) else (1 : Int32))))))])) (by simp only [if_pos hc9_3]) kt
    · obtain ⟨T5, X5, e5, st5⟩ := getF X2 hx hZ hown (host := "") (Or.inl (wd hw 15 rfl)) Via.refl e2 F_minX_o1 (g := (mkF m 13 #[rv o0, rv o1] [(.ref o1)])) rfl rfl (hb hby d6_13)
      have G5 := gd X5 hx hby
      obtain ⟨T6, X6, e6, st6⟩ := getF X5 hx hZ hown (host := "") (Or.inl (wd hw 19 rfl)) Via.refl e5 F_maxX_o0 (g := (mkF m 17 #[rv o0, rv o1] [(.ref o0), (.double w0)])) rfl rfl (hb hby d6_17)
      have G6 := gd X6 hx hby
      by_cases hc21_7 : (0 : Int32) < (cmpValue (FP.dcmp w0 u2) .g)
      · refine ⟨T6, X6, e6, fun target kt => ?_⟩
        refine mifNo 12 G2 d6_9 ((if0 _ _).trans (flt hc9_3).2.2.1) rfl ?_
        refine maloadN 13 G2 d6_12 rfl rfl rfl ?_
        refine st5 _ ?_
        show Steps p.tables e below (T5.setTop (mkF m 16 #[rv o0, rv o1] [(.double w0)])) _
        refine maloadN 17 G5 d6_16 rfl rfl rfl ?_
        refine st6 _ ?_
        show Steps p.tables e below (T6.setTop (mkF m 20 #[rv o0, rv o1] [(.double u2), (.double w0)])) _
        refine mdcmp 21 G6 d6_20 rfl ?_
        refine mifYes 52 G6 d6_21 ((if0 _ _).trans (tlt hc21_7).2.2.1) (by decide) rfl ?_
        refine miconst 53 G6 d6_52 (v := (0 : Int32)) rfl rfl ?_
        exact castTop (g' := (mkF m 53 #[rv o0, rv o1] [(.int (if (0 : Int32) < (cmpValue (FP.dcmp u0 w2) .g) then (0 : Int32) else (if (0 : Int32) < (cmpValue (FP.dcmp w0 u2) .g) then (0 : Int32) else (if (0 : Int32) < (cmpValue (FP.dcmp u1 w3) .g) then (0 : Int32) else (if (0 : Int32) < (cmpValue (FP.dcmp w1 u3) .g) then (0 : Int32) else (1 : Int32))))))])) (by simp only [if_neg hc9_3, if_pos hc21_7]) kt
      · obtain ⟨T8, X8, e8, st8⟩ := getF X6 hx hZ hown (host := "") (Or.inl (wd hw 17 rfl)) Via.refl e6 F_minY_o0 (g := (mkF m 25 #[rv o0, rv o1] [(.ref o0)])) rfl rfl (hb hby d6_25)
        have G8 := gd X8 hx hby
        obtain ⟨T9, X9, e9, st9⟩ := getF X8 hx hZ hown (host := "") (Or.inl (wd hw 21 rfl)) Via.refl e8 F_maxY_o1 (g := (mkF m 29 #[rv o0, rv o1] [(.ref o1), (.double u1)])) rfl rfl (hb hby d6_29)
        have G9 := gd X9 hx hby
        by_cases hc33_10 : (0 : Int32) < (cmpValue (FP.dcmp u1 w3) .g)
        · refine ⟨T9, X9, e9, fun target kt => ?_⟩
          refine mifNo 12 G2 d6_9 ((if0 _ _).trans (flt hc9_3).2.2.1) rfl ?_
          refine maloadN 13 G2 d6_12 rfl rfl rfl ?_
          refine st5 _ ?_
          show Steps p.tables e below (T5.setTop (mkF m 16 #[rv o0, rv o1] [(.double w0)])) _
          refine maloadN 17 G5 d6_16 rfl rfl rfl ?_
          refine st6 _ ?_
          show Steps p.tables e below (T6.setTop (mkF m 20 #[rv o0, rv o1] [(.double u2), (.double w0)])) _
          refine mdcmp 21 G6 d6_20 rfl ?_
          refine mifNo 24 G6 d6_21 ((if0 _ _).trans (flt hc21_7).2.2.1) rfl ?_
          refine maloadN 25 G6 d6_24 rfl rfl rfl ?_
          refine st8 _ ?_
          show Steps p.tables e below (T8.setTop (mkF m 28 #[rv o0, rv o1] [(.double u1)])) _
          refine maloadN 29 G8 d6_28 rfl rfl rfl ?_
          refine st9 _ ?_
          show Steps p.tables e below (T9.setTop (mkF m 32 #[rv o0, rv o1] [(.double w3), (.double u1)])) _
          refine mdcmp 33 G9 d6_32 rfl ?_
          refine mifYes 52 G9 d6_33 ((if0 _ _).trans (tlt hc33_10).2.2.1) (by decide) rfl ?_
          refine miconst 53 G9 d6_52 (v := (0 : Int32)) rfl rfl ?_
          exact castTop (g' := (mkF m 53 #[rv o0, rv o1] [(.int (if (0 : Int32) < (cmpValue (FP.dcmp u0 w2) .g) then (0 : Int32) else (if (0 : Int32) < (cmpValue (FP.dcmp w0 u2) .g) then (0 : Int32) else (if (0 : Int32) < (cmpValue (FP.dcmp u1 w3) .g) then (0 : Int32) else (if (0 : Int32) < (cmpValue (FP.dcmp w1 u3) .g) then (0 : Int32) else (1 : Int32))))))])) (by simp only [if_neg hc9_3, if_neg hc21_7, if_pos hc33_10]) kt
        · obtain ⟨T11, X11, e11, st11⟩ := getF X9 hx hZ hown (host := "") (Or.inl (wd hw 17 rfl)) Via.refl e9 F_minY_o1 (g := (mkF m 37 #[rv o0, rv o1] [(.ref o1)])) rfl rfl (hb hby d6_37)
          have G11 := gd X11 hx hby
          obtain ⟨T12, X12, e12, st12⟩ := getF X11 hx hZ hown (host := "") (Or.inl (wd hw 21 rfl)) Via.refl e11 F_maxY_o0 (g := (mkF m 41 #[rv o0, rv o1] [(.ref o0), (.double w1)])) rfl rfl (hb hby d6_41)
          have G12 := gd X12 hx hby
          by_cases hc45_13 : (0 : Int32) < (cmpValue (FP.dcmp w1 u3) .g)
          · refine ⟨T12, X12, e12, fun target kt => ?_⟩
            refine mifNo 12 G2 d6_9 ((if0 _ _).trans (flt hc9_3).2.2.1) rfl ?_
            refine maloadN 13 G2 d6_12 rfl rfl rfl ?_
            refine st5 _ ?_
            show Steps p.tables e below (T5.setTop (mkF m 16 #[rv o0, rv o1] [(.double w0)])) _
            refine maloadN 17 G5 d6_16 rfl rfl rfl ?_
            refine st6 _ ?_
            show Steps p.tables e below (T6.setTop (mkF m 20 #[rv o0, rv o1] [(.double u2), (.double w0)])) _
            refine mdcmp 21 G6 d6_20 rfl ?_
            refine mifNo 24 G6 d6_21 ((if0 _ _).trans (flt hc21_7).2.2.1) rfl ?_
            refine maloadN 25 G6 d6_24 rfl rfl rfl ?_
            refine st8 _ ?_
            show Steps p.tables e below (T8.setTop (mkF m 28 #[rv o0, rv o1] [(.double u1)])) _
            refine maloadN 29 G8 d6_28 rfl rfl rfl ?_
            refine st9 _ ?_
            show Steps p.tables e below (T9.setTop (mkF m 32 #[rv o0, rv o1] [(.double w3), (.double u1)])) _
            refine mdcmp 33 G9 d6_32 rfl ?_
            refine mifNo 36 G9 d6_33 ((if0 _ _).trans (flt hc33_10).2.2.1) rfl ?_
            refine maloadN 37 G9 d6_36 rfl rfl rfl ?_
            refine st11 _ ?_
            show Steps p.tables e below (T11.setTop (mkF m 40 #[rv o0, rv o1] [(.double w1)])) _
            refine maloadN 41 G11 d6_40 rfl rfl rfl ?_
            refine st12 _ ?_
            show Steps p.tables e below (T12.setTop (mkF m 44 #[rv o0, rv o1] [(.double u3), (.double w1)])) _
            refine mdcmp 45 G12 d6_44 rfl ?_
            refine mifYes 52 G12 d6_45 ((if0 _ _).trans (tlt hc45_13).2.2.1) (by decide) rfl ?_
            refine miconst 53 G12 d6_52 (v := (0 : Int32)) rfl rfl ?_
            exact castTop (g' := (mkF m 53 #[rv o0, rv o1] [(.int (if (0 : Int32) < (cmpValue (FP.dcmp u0 w2) .g) then (0 : Int32) else (if (0 : Int32) < (cmpValue (FP.dcmp w0 u2) .g) then (0 : Int32) else (if (0 : Int32) < (cmpValue (FP.dcmp u1 w3) .g) then (0 : Int32) else (if (0 : Int32) < (cmpValue (FP.dcmp w1 u3) .g) then (0 : Int32) else (1 : Int32))))))])) (by simp only [if_neg hc9_3, if_neg hc21_7, if_neg hc33_10, if_pos hc45_13]) kt
          · refine ⟨T12, X12, e12, fun target kt => ?_⟩
            refine mifNo 12 G2 d6_9 ((if0 _ _).trans (flt hc9_3).2.2.1) rfl ?_
            refine maloadN 13 G2 d6_12 rfl rfl rfl ?_
            refine st5 _ ?_
            show Steps p.tables e below (T5.setTop (mkF m 16 #[rv o0, rv o1] [(.double w0)])) _
            refine maloadN 17 G5 d6_16 rfl rfl rfl ?_
            refine st6 _ ?_
            show Steps p.tables e below (T6.setTop (mkF m 20 #[rv o0, rv o1] [(.double u2), (.double w0)])) _
            refine mdcmp 21 G6 d6_20 rfl ?_
            refine mifNo 24 G6 d6_21 ((if0 _ _).trans (flt hc21_7).2.2.1) rfl ?_
            refine maloadN 25 G6 d6_24 rfl rfl rfl ?_
            refine st8 _ ?_
            show Steps p.tables e below (T8.setTop (mkF m 28 #[rv o0, rv o1] [(.double u1)])) _
            refine maloadN 29 G8 d6_28 rfl rfl rfl ?_
            refine st9 _ ?_
            show Steps p.tables e below (T9.setTop (mkF m 32 #[rv o0, rv o1] [(.double w3), (.double u1)])) _
            refine mdcmp 33 G9 d6_32 rfl ?_
            refine mifNo 36 G9 d6_33 ((if0 _ _).trans (flt hc33_10).2.2.1) rfl ?_
            refine maloadN 37 G9 d6_36 rfl rfl rfl ?_
            refine st11 _ ?_
            show Steps p.tables e below (T11.setTop (mkF m 40 #[rv o0, rv o1] [(.double w1)])) _
            refine maloadN 41 G11 d6_40 rfl rfl rfl ?_
            refine st12 _ ?_
            show Steps p.tables e below (T12.setTop (mkF m 44 #[rv o0, rv o1] [(.double u3), (.double w1)])) _
            refine mdcmp 45 G12 d6_44 rfl ?_
            refine mifNo 48 G12 d6_45 ((if0 _ _).trans (flt hc45_13).2.2.1) rfl ?_
            refine miconst 49 G12 d6_48 (v := (1 : Int32)) rfl rfl ?_
            refine mgoto 53 G12 d6_49 (by decide) rfl ?_
            exact castTop (g' := (mkF m 53 #[rv o0, rv o1] [(.int (if (0 : Int32) < (cmpValue (FP.dcmp u0 w2) .g) then (0 : Int32) else (if (0 : Int32) < (cmpValue (FP.dcmp w0 u2) .g) then (0 : Int32) else (if (0 : Int32) < (cmpValue (FP.dcmp u1 w3) .g) then (0 : Int32) else (if (0 : Int32) < (cmpValue (FP.dcmp w1 u3) .g) then (0 : Int32) else (1 : Int32))))))])) (by simp only [if_neg hc9_3, if_neg hc21_7, if_neg hc33_10, if_neg hc45_13]) kt
  have G4 := gd X4 hx hby
  obtain ⟨fs, hr, hrun, hended, hW, hsame⟩ := X4.leave (v := some (.int (if (0 : Int32) < (cmpValue (FP.dcmp u0 w2) .g) then (0 : Int32) else (if (0 : Int32) < (cmpValue (FP.dcmp w0 u2) .g) then (0 : Int32) else (if (0 : Int32) < (cmpValue (FP.dcmp u1 w3) .g) then (0 : Int32) else (if (0 : Int32) < (cmpValue (FP.dcmp w1 u3) .g) then (0 : Int32) else (1 : Int32))))))) (fun h => by rw [Bd.returns] at h; cases h)
  refine ⟨_, _, pre0 _ ?_, hrun, hended, _, _, rfl, ?_, ⟨_, rfl⟩, hW, hsame.mono (by decide) (by decide)⟩
  · show Steps p.tables e below (s₁.setTop (mkF m 0 #[rv o0, rv o1] [])) _
    refine maloadN 1 G0 d6_0 rfl rfl rfl ?_
    refine st1 _ ?_
    show Steps p.tables e below (T1.setTop (mkF m 4 #[rv o0, rv o1] [(.double u0)])) _
    refine maloadN 5 G1 d6_4 rfl rfl rfl ?_
    refine st2 _ ?_
    show Steps p.tables e below (T2.setTop (mkF m 8 #[rv o0, rv o1] [(.double w2), (.double u0)])) _
    refine mdcmp 9 G2 d6_8 rfl ?_
    refine st4 _ ?_
    exact retOut X4 hx Bd.returns (by first | rfl | ((repeat' split) <;> rfl)) (Or.inl ⟨rfl, by simp, _, rfl⟩) (hb hby d6_53) hr
  · show Q6 Z o0 o1 u0 u1 u2 u3 w0 w1 w2 w3 h0 n0 _ T4.heap _
    rw [e4]
    exact ⟨by simp only [rv6], rfl, rfl⟩
theorem own_lo (q : Int64) (x : Int64) (h : x = q.toInt32.toInt64) : x.toInt.natAbs ≤ 2147483648 := by
  have e : x.toInt = q.toInt32.toInt := by rw [h, Jvm.Kit.i64_of_i32]
  have b := Int32.toInt_lt q.toInt32
  have b' := Int32.le_toInt q.toInt32
  omega
theorem own_hi (q x : Int64) (h : x = q &&& (2147483647 : Int64)) : 0 ≤ x.toInt ∧ x.toInt ≤ 2147483647 := by
  have e : x.toInt = q.toInt % 2147483648 := by rw [h]; exact Jvm.Kit.i64_mask q _ (k := 31) (by decide) (by decide)
  omega
theorem own_max (a b : Int64) : (rv4 a b).toInt = max a.toInt b.toInt := by
  unfold rv4
  simp only [lw_lt, Int64.lt_iff_toInt_lt]
  split <;> omega
theorem own_min (a b : Int64) : (rv5 a b).toInt = min a.toInt b.toInt := by
  unfold rv5
  simp only [lw_gt, Int64.lt_iff_toInt_lt]
  split <;> omega
def own_meet (a1 a2 a3 a4 b1 b2 b3 b4 : Int) : Prop := a1 ≤ b1 + b2 ∧ b1 ≤ a1 + a2 ∧ a3 ≤ b3 + b4 ∧ b3 ≤ a3 + a4
theorem own_meets {a1 a2 a3 a4 b1 b2 b3 b4 : Int} {A1 A2 A3 A4 B1 B2 B3 B4 : UInt64} (hA1 : OwnFl.Dy A1 (a1 * OwnFl.ONE)) (hA3 : OwnFl.Dy A3 (a3 * OwnFl.ONE)) (hA2 : OwnFl.Dy A2 ((a1 + a2) * OwnFl.ONE)) (hA4 : OwnFl.Dy A4 ((a3 + a4) * OwnFl.ONE))
    (hB1 : OwnFl.Dy B1 (b1 * OwnFl.ONE)) (hB3 : OwnFl.Dy B3 (b3 * OwnFl.ONE)) (hB2 : OwnFl.Dy B2 ((b1 + b2) * OwnFl.ONE)) (hB4 : OwnFl.Dy B4 ((b3 + b4) * OwnFl.ONE)) : (own_meet a1 a2 a3 a4 b1 b2 b3 b4 → rv6 A1 A3 A2 A4 B1 B3 B2 B4 = 1) ∧ (¬ own_meet a1 a2 a3 a4 b1 b2 b3 b4 → rv6 A1 A3 A2 A4 B1 B3 B2 B4 = 0) := by
  unfold rv6 own_meet
  simp only [OwnFl.cw_gt hA1 hB2, OwnFl.cw_gt hB1 hA2, OwnFl.cw_gt hA3 hB4, OwnFl.cw_gt hB3 hA4]
  constructor
  · intro h
    rw [if_neg (by omega), if_neg (by omega), if_neg (by omega), if_neg (by omega)]
  · intro h
    (repeat' split) <;> first | rfl | (exfalso; omega)
theorem pd_1 : parseMethodDescriptor "(DDDD)V" = some ⟨[.double, .double, .double, .double], none⟩ := by decide +kernel
theorem pd_2 : parseMethodDescriptor "(JJ)J" = some ⟨[.long, .long], some .long⟩ := by decide +kernel
theorem pd_3 : parseMethodDescriptor "(Lcom/example/crowded_platform/crowdedplatform/geometry/Box;)Z" = some ⟨[(.object "com/example/crowded_platform/crowdedplatform/geometry/Box")], some .boolean⟩ := by decide +kernel
theorem pn_0 : plainName "com/example/crowded_platform/crowdedplatform/geometry/BoxMeetsPinLaw" = true := by first | (simp [plainName, overriddenIn]; done) | decide +kernel
theorem ef0 (m : MethodId) (q0 : Int64) (q1 : Int64) (q2 : Int64) (q3 : Int64) : entryFrame m #[(.long q0), (.long q1), (.long q2), (.long q3)] maxLocals = mkF m 0 #[lv q0, .second, lv q1, .second, lv q2, .second, lv q3, .second, .unset, .unset, .unset, .unset, .unset, .unset, .unset, .unset, .unset, .unset, .unset, .unset, .unset, .unset, .unset, .unset, .unset, .unset, .unset] [] := by first | (simp [entryFrame, mkF, argsToLocals, Value.category, maxLocals]; done) | rfl
def Q0 (Z : State) (q0 : Int64) (q1 : Int64) (q2 : Int64) (q3 : Int64) (h0 : Heap) (n0 : Nat) (v : Option Value) (h : Heap) (L : List Loc) : Prop := v = some (.int 1) ∧ Fr n0 L
theorem own_rm0_end (q0 : Int64) (q1 : Int64) (q2 : Int64) (q3 : Int64) (x1 : Int64) (hx1 : x1 = q0.toInt32.toInt64) (x2 : Int64) (hx2 : x2 = (((q0.toUInt64 >>> ((32 : Int32) &&& 0x3f).toInt64.toUInt64).toInt64) &&& (2147483647 : Int64))) (x3 : Int64) (hx3 : x3 = q1.toInt32.toInt64) (x4 : Int64) (hx4 : x4 = (((q1.toUInt64 >>> ((32 : Int32) &&& 0x3f).toInt64.toUInt64).toInt64) &&& (2147483647 : Int64))) (x5 : Int64) (hx5 : x5 = q2.toInt32.toInt64) (x6 : Int64) (hx6 : x6 = (((q2.toUInt64 >>> ((32 : Int32) &&& 0x3f).toInt64.toUInt64).toInt64) &&& (2147483647 : Int64))) (x7 : Int64) (hx7 : x7 = q3.toInt32.toInt64) (x8 : Int64) (hx8 : x8 = (((q3.toUInt64 >>> ((32 : Int32) &&& 0x3f).toInt64.toUInt64).toInt64) &&& (2147483647 : Int64))) (x41 : Int32) (hx41 : x41 = (if (0 : Int32) < (lcmpW (rv4 x1 x5) (rv5 (x1 + x2) (x5 + x6))) then (0 : Int32) else (if (0 : Int32) < (lcmpW (rv4 x3 x7) (rv5 (x3 + x4) (x7 + x8))) then (0 : Int32) else (1 : Int32)))) (x48 : Int32) (hx48 : x48 = (if (rv6 (FP.l2d x1) (FP.l2d x3) (FP.l2d (x1 + x2)) (FP.l2d (x3 + x4)) (FP.l2d x5) (FP.l2d x7) (FP.l2d (x5 + x6)) (FP.l2d (x7 + x8))) = x41 then (if (rv6 (FP.l2d x5) (FP.l2d x7) (FP.l2d (x5 + x6)) (FP.l2d (x7 + x8)) (FP.l2d x1) (FP.l2d x3) (FP.l2d (x1 + x2)) (FP.l2d (x3 + x4))) = x41 then (1 : Int32) else (0 : Int32)) else (0 : Int32))) : x48 = 1 := by
  have a1 := own_lo _ _ hx1; have a2 := own_hi _ _ hx2; have a3 := own_lo _ _ hx3; have a4 := own_hi _ _ hx4
  have b1 := own_lo _ _ hx5; have b2 := own_hi _ _ hx6; have b3 := own_lo _ _ hx7; have b4 := own_hi _ _ hx8
  have s1 : (x1 + x2).toInt = x1.toInt + x2.toInt := Jvm.Kit.i64_add (by omega) (by omega)
  have s2 : (x3 + x4).toInt = x3.toInt + x4.toInt := Jvm.Kit.i64_add (by omega) (by omega)
  have s3 : (x5 + x6).toInt = x5.toInt + x6.toInt := Jvm.Kit.i64_add (by omega) (by omega)
  have s4 : (x7 + x8).toInt = x7.toInt + x8.toInt := Jvm.Kit.i64_add (by omega) (by omega)
  have A1 := OwnFl.dy_l2d (n := x1) (by omega)
  have A3 := OwnFl.dy_l2d (n := x3) (by omega)
  have A2 := OwnFl.dy_l2d (n := x1 + x2) (by omega)
  have A4 := OwnFl.dy_l2d (n := x3 + x4) (by omega)
  have B1 := OwnFl.dy_l2d (n := x5) (by omega)
  have B3 := OwnFl.dy_l2d (n := x7) (by omega)
  have B2 := OwnFl.dy_l2d (n := x5 + x6) (by omega)
  have B4 := OwnFl.dy_l2d (n := x7 + x8) (by omega)
  rw [s1] at A2; rw [s2] at A4; rw [s3] at B2; rw [s4] at B4
  have M1 := own_meets A1 A3 A2 A4 B1 B3 B2 B4
  have M2 := own_meets B1 B3 B2 B4 A1 A3 A2 A4
  have sym : own_meet x1.toInt x2.toInt x3.toInt x4.toInt x5.toInt x6.toInt x7.toInt x8.toInt ↔ own_meet x5.toInt x6.toInt x7.toInt x8.toInt x1.toInt x2.toInt x3.toInt x4.toInt := by unfold own_meet; omega
  have E : (own_meet x1.toInt x2.toInt x3.toInt x4.toInt x5.toInt x6.toInt x7.toInt x8.toInt → x41 = 1) ∧ (¬ own_meet x1.toInt x2.toInt x3.toInt x4.toInt x5.toInt x6.toInt x7.toInt x8.toInt → x41 = 0) := by
    rw [hx41]
    simp only [lw_gt, Int64.lt_iff_toInt_lt, own_max, own_min, s1, s2, s3, s4]
    unfold own_meet
    constructor
    · intro h
      rw [if_neg (by omega), if_neg (by omega)]
    · intro h
      (repeat' split) <;> first | rfl | (exfalso; omega)
  rw [hx48]
  by_cases q : own_meet x1.toInt x2.toInt x3.toInt x4.toInt x5.toInt x6.toInt x7.toInt x8.toInt
  · rw [M1.1 q, M2.1 (sym.mp q), E.1 q, if_pos rfl, if_pos rfl]
  · rw [M1.2 q, M2.2 (fun z => q (sym.mpr z)), E.2 q, if_pos rfl, if_pos rfl]
set_option maxRecDepth 65536 in
set_option maxHeartbeats 40000000 in
theorem rm0 (l : Launch) (Z : State) (a0 : Array Value) (hw : ∀ d ∈ tables_1, d.before a0 Z = true) (ws : List Jvm.Cond) (q0 : Int64) (q1 : Int64) (q2 : Int64) (q3 : Int64)  (h0 : Heap) (n0 : Nat) (Z0 : n0 ≤ h0.size) :
    MetFree l x (head1 (Jvm.Cond.code x code maxLocals ret :: ws) room_1) (fun a U => a = #[(.long q0), (.long q1), (.long q2), (.long q3)] ∧ Z.Warmed39 U.vm ∧ U.heap = h0) (fun _ _ _ _ _ => True) (fun _ U o U' => ∃ v L, o = .returned v ∧ Q0 Z q0 q1 q2 q3 h0 n0 v U'.heap L ∧ FrameEnd U o U' L room_1.cells room_1.slots) := by
  refine MetFree.of_bodySF (plainFor_of_name pn_0) hisR ?_
  intro p e s m args below meth c s₁ Bd hml0 hP hK
  obtain ⟨rfl, hZ, hh⟩ := hP
  have hx := Bd.exec
  have hby := Bd.bytes
  have hml : c.maxLocals = 27 := hml0
  have hown : s.vm.findClass "com/example/crowded_platform/crowdedplatform/geometry/BoxMeetsPinLaw" = some m.cls := findClass_of_methodNamed Bd.named
  have hnm := (name_of_methodNamed Bd.named Bd.method).1
  have X0 : Stand p l e room_1 s m #[(.long q0), (.long q1), (.long q2), (.long q3)] below meth c s₁ [] 0 0 := Stand.of_body Bd
  have e0 : s₁.heap = h0 := by rw [← hh, Bd.state]; rfl
  have N0 := Fr.nil n0
  have G0 := gd X0 hx hby
  have pre0 : ∀ t, Steps p.tables e below (s₁.setTop (mkF m 0 #[lv q0, .second, lv q1, .second, lv q2, .second, lv q3, .second, .unset, .unset, .unset, .unset, .unset, .unset, .unset, .unset, .unset, .unset, .unset, .unset, .unset, .unset, .unset, .unset, .unset, .unset, .unset] [])) t → Steps p.tables e below (s₁.setTop (entryFrame m #[(.long q0), (.long q1), (.long q2), (.long q3)] maxLocals)) t := fun t k => castTop (ef0 m q0 q1 q2 q3) k
  obtain ⟨x1, hx1⟩ : ∃ z : Int64, z = q0.toInt32.toInt64 := ⟨_, rfl⟩
  obtain ⟨x2, hx2⟩ : ∃ z : Int64, z = (((q0.toUInt64 >>> ((32 : Int32) &&& 0x3f).toInt64.toUInt64).toInt64) &&& (2147483647 : Int64)) := ⟨_, rfl⟩
  obtain ⟨x3, hx3⟩ : ∃ z : Int64, z = q1.toInt32.toInt64 := ⟨_, rfl⟩
  obtain ⟨x4, hx4⟩ : ∃ z : Int64, z = (((q1.toUInt64 >>> ((32 : Int32) &&& 0x3f).toInt64.toUInt64).toInt64) &&& (2147483647 : Int64)) := ⟨_, rfl⟩
  obtain ⟨x5, hx5⟩ : ∃ z : Int64, z = q2.toInt32.toInt64 := ⟨_, rfl⟩
  obtain ⟨x6, hx6⟩ : ∃ z : Int64, z = (((q2.toUInt64 >>> ((32 : Int32) &&& 0x3f).toInt64.toUInt64).toInt64) &&& (2147483647 : Int64)) := ⟨_, rfl⟩
  obtain ⟨x7, hx7⟩ : ∃ z : Int64, z = q3.toInt32.toInt64 := ⟨_, rfl⟩
  obtain ⟨x8, hx8⟩ : ∃ z : Int64, z = (((q3.toUInt64 >>> ((32 : Int32) &&& 0x3f).toInt64.toUInt64).toInt64) &&& (2147483647 : Int64)) := ⟨_, rfl⟩
  obtain ⟨T9, h9, X9, e9, E9, A9, D9, -, st9⟩ := newO X0 hx hZ hown (wd hw 1 rfl) (wd hw 2 rfl) (wd hw 3 rfl) e0 (g := (mkF m 64 #[lv q0, .second, lv q1, .second, lv q2, .second, lv q3, .second, lv x1, .second, lv x2, .second, lv x3, .second, lv x4, .second, lv x5, .second, lv x6, .second, lv x7, .second, lv x8, .second, .unset, .unset, .unset] [])) rfl (hb hby at_64) (by decide) (by decide)
  have G9 := gd X9 hx hby
  obtain ⟨b9, g9⟩ : ∃ z, z = h0.size := ⟨_, rfl⟩
  rw [← g9] at A9 D9 st9
  have g_b9 : n0 ≤ b9 := Nat.le_trans Z0 (Nat.le_of_eq g9.symm)
  have Z9 := Nat.le_trans Z0 E9.1
  have F_minX_b9 : Fld Z h9 b9 "com/example/crowded_platform/crowdedplatform/geometry/Box" "minX" "D" (.double (0 : UInt64)) := D9 (Or.inr (wd hw 16 rfl)) (ty := .double) (by decide)
  have F_minY_b9 : Fld Z h9 b9 "com/example/crowded_platform/crowdedplatform/geometry/Box" "minY" "D" (.double (0 : UInt64)) := D9 (Or.inr (wd hw 18 rfl)) (ty := .double) (by decide)
  have F_maxX_b9 : Fld Z h9 b9 "com/example/crowded_platform/crowdedplatform/geometry/Box" "maxX" "D" (.double (0 : UInt64)) := D9 (Or.inr (wd hw 20 rfl)) (ty := .double) (by decide)
  have F_maxY_b9 : Fld Z h9 b9 "com/example/crowded_platform/crowdedplatform/geometry/Box" "maxY" "D" (.double (0 : UInt64)) := D9 (Or.inr (wd hw 22 rfl)) (ty := .double) (by decide)
  obtain ⟨_, _, ⟨T10, L10, k10, n10⟩, -, X10, ⟨Lc10, hQ10, l10, y10, z10⟩, st10⟩ := X9.specialBack hx (y := (⟨"com/example/crowded_platform/crowdedplatform/geometry/Box", "<init>", "(DDDD)V"⟩ : MethodName)) rfl hown (mvT hZ (wd hw 4 rfl)) (mvT hZ (wd hw 5 rfl)) (mvT hZ (wd hw 6 rfl)) (by decide) (backOf (W := 1) (rm1 l Z a0 hw [] b9 ((FP.l2d x1)) ((FP.l2d x3)) ((FP.l2d (x1 + x2))) ((FP.l2d (x3 + x4))) h9 n0 Z9 A9 g_b9 F_minX_b9 F_minY_b9 F_maxX_b9 F_maxY_b9) hZ (wd hw 6 rfl) (wd hw 3 rfl) (by decide) (by decide)) (g := (mkF m 86 #[lv q0, .second, lv q1, .second, lv q2, .second, lv q3, .second, lv x1, .second, lv x2, .second, lv x3, .second, lv x4, .second, lv x5, .second, lv x6, .second, lv x7, .second, lv x8, .second, .unset, .unset, .unset] [(.double (FP.l2d (x3 + x4))), (.double (FP.l2d (x1 + x2))), (.double (FP.l2d x3)), (.double (FP.l2d x1)), (.ref b9), (.ref b9)])) rfl (by rw [hml]; rfl) (Steps.refl _) (a := b9) (argsL := [(.double (FP.l2d x1)), (.double (FP.l2d x3)), (.double (FP.l2d (x1 + x2))), (.double (FP.l2d (x3 + x4)))]) (rest := [(.ref b9)]) (lenOf pd_1 rfl) rfl (by show 2 * 0 + _ ≤ _; exact Nat.le_of_eq rfl) (hb hby at_86) (fun _ _ => ⟨rfl, e9, (by decide : 1 + 0 ≤ _), (by decide : 4 + 0 ≤ _)⟩)
  dsimp only [Pt.U, Pt.locs, Pt.cells, Pt.slots] at X10 l10 y10 z10 st10 hQ10
  replace l10 : ([] ++ Lc10) = L10 := l10.symm
  subst l10 y10 z10
  obtain ⟨rfl, Nq10, K10, Eq10, Fq10_0, Fq10_1, Fq10_2, Fq10_3⟩ := hQ10
  have N10 := Fr.app N0 Nq10
  have f16 := A9.keep K10
  have Z10k := Nat.le_trans Z9 K10.1
  have G10 := gd X10 hx hby
  obtain ⟨T17, h17, X17, e17, E17, A17, D17, -, st17⟩ := newO X10 hx hZ hown (wd hw 1 rfl) (wd hw 2 rfl) (wd hw 3 rfl) rfl (g := (mkF m 91 #[lv q0, .second, lv q1, .second, lv q2, .second, lv q3, .second, lv x1, .second, lv x2, .second, lv x3, .second, lv x4, .second, lv x5, .second, lv x6, .second, lv x7, .second, lv x8, .second, rv b9, .unset, .unset] [])) rfl (hb hby at_91) (by decide) (by decide)
  have G17 := gd X17 hx hby
  obtain ⟨b17, g17⟩ : ∃ z, z = T10.heap.size := ⟨_, rfl⟩
  rw [← g17] at A17 D17 st17
  have ne_b9_b17 : b9 ≠ b17 := Nat.ne_of_lt (Nat.lt_of_lt_of_le Eq10.lt (Nat.le_of_eq g17.symm))
  have g_b17 : n0 ≤ b17 := Nat.le_trans Z10k (Nat.le_of_eq g17.symm)
  have f18 := Eq10.ext E17
  have f19 := Fq10_0.ext E17
  have f20 := Fq10_1.ext E17
  have f21 := Fq10_2.ext E17
  have f22 := Fq10_3.ext E17
  have Z17 := Nat.le_trans Z10k E17.1
  have F_minX_b17 : Fld Z h17 b17 "com/example/crowded_platform/crowdedplatform/geometry/Box" "minX" "D" (.double (0 : UInt64)) := D17 (Or.inr (wd hw 16 rfl)) (ty := .double) (by decide)
  have F_minY_b17 : Fld Z h17 b17 "com/example/crowded_platform/crowdedplatform/geometry/Box" "minY" "D" (.double (0 : UInt64)) := D17 (Or.inr (wd hw 18 rfl)) (ty := .double) (by decide)
  have F_maxX_b17 : Fld Z h17 b17 "com/example/crowded_platform/crowdedplatform/geometry/Box" "maxX" "D" (.double (0 : UInt64)) := D17 (Or.inr (wd hw 20 rfl)) (ty := .double) (by decide)
  have F_maxY_b17 : Fld Z h17 b17 "com/example/crowded_platform/crowdedplatform/geometry/Box" "maxY" "D" (.double (0 : UInt64)) := D17 (Or.inr (wd hw 22 rfl)) (ty := .double) (by decide)
  obtain ⟨_, _, ⟨T23, L23, k23, n23⟩, -, X23, ⟨Lc23, hQ23, l23, y23, z23⟩, st23⟩ := X17.specialBack hx (y := (⟨"com/example/crowded_platform/crowdedplatform/geometry/Box", "<init>", "(DDDD)V"⟩ : MethodName)) rfl hown (mvT hZ (wd hw 4 rfl)) (mvT hZ (wd hw 5 rfl)) (mvT hZ (wd hw 6 rfl)) (by decide) (backOf (W := 1) (rm1 l Z a0 hw [] b17 ((FP.l2d x5)) ((FP.l2d x7)) ((FP.l2d (x5 + x6))) ((FP.l2d (x7 + x8))) h17 n0 Z17 A17 g_b17 F_minX_b17 F_minY_b17 F_maxX_b17 F_maxY_b17) hZ (wd hw 6 rfl) (wd hw 3 rfl) (by decide) (by decide)) (g := (mkF m 113 #[lv q0, .second, lv q1, .second, lv q2, .second, lv q3, .second, lv x1, .second, lv x2, .second, lv x3, .second, lv x4, .second, lv x5, .second, lv x6, .second, lv x7, .second, lv x8, .second, rv b9, .unset, .unset] [(.double (FP.l2d (x7 + x8))), (.double (FP.l2d (x5 + x6))), (.double (FP.l2d x7)), (.double (FP.l2d x5)), (.ref b17), (.ref b17)])) rfl (by rw [hml]; rfl) (Steps.refl _) (a := b17) (argsL := [(.double (FP.l2d x5)), (.double (FP.l2d x7)), (.double (FP.l2d (x5 + x6))), (.double (FP.l2d (x7 + x8)))]) (rest := [(.ref b17)]) (lenOf pd_1 rfl) rfl (by show 2 * 0 + _ ≤ _; exact Nat.le_of_eq rfl) (hb hby at_113) (fun _ _ => ⟨rfl, e17, (by decide : 2 + 0 ≤ _), (by decide : 8 + 0 ≤ _)⟩)
  dsimp only [Pt.U, Pt.locs, Pt.cells, Pt.slots] at X23 l23 y23 z23 st23 hQ23
  replace l23 : (([] ++ Lc10) ++ Lc23) = L23 := l23.symm
  subst l23 y23 z23
  obtain ⟨rfl, Nq23, K23, Eq23, Fq23_0, Fq23_1, Fq23_2, Fq23_3⟩ := hQ23
  have N23 := Fr.app N10 Nq23
  have f25 := f18.keep K23
  have f26 := f19.keep K23 (ninS ne_b9_b17 nin0)
  have f27 := f20.keep K23 (ninS ne_b9_b17 nin0)
  have f28 := f21.keep K23 (ninS ne_b9_b17 nin0)
  have f29 := f22.keep K23 (ninS ne_b9_b17 nin0)
  have f36 := A17.keep K23
  have Z23k := Nat.le_trans Z17 K23.1
  have G23 := gd X23 hx hby
  obtain ⟨_, _, ⟨T37, L37, k37, n37⟩, -, X37, ⟨Lc37, hQ37, l37, y37, z37⟩, st37⟩ := Jvm.LawKit.callS X23 hx (y := (⟨"java/lang/Math", "max", "(JJ)J"⟩ : MethodName)) hown (mvT hZ (wd hw 23 rfl)) (mvT hZ (wd hw 24 rfl)) (mvT hZ (wd hw 25 rfl)) (mvT hZ (wd hw 26 rfl)) (by decide) (backOf (W := 0) (rm4 l Z a0 hw [] x1 x5 T23.heap n0 Z23k ) hZ (wd hw 26 rfl) (wd hw 25 rfl) (by decide) (by decide)) (g := (mkF m 122 #[lv q0, .second, lv q1, .second, lv q2, .second, lv q3, .second, lv x1, .second, lv x2, .second, lv x3, .second, lv x4, .second, lv x5, .second, lv x6, .second, lv x7, .second, lv x8, .second, rv b9, rv b17, .unset] [(.long x5), (.long x1)])) rfl (by rw [hml]; rfl) (argsL := [(.long x1), (.long x5)]) (rest := []) (lenOf pd_2 rfl) rfl (by show 2 * 0 + _ ≤ _; exact Nat.le_of_eq rfl) (hb hby at_122) (fun _ _ => ⟨rfl, rfl, (by decide : 2 + 0 ≤ _), (by decide : 8 + 0 ≤ _)⟩)
  dsimp only [Pt.U, Pt.locs, Pt.cells, Pt.slots] at X37 l37 y37 z37 st37 hQ37
  replace l37 : ((([] ++ Lc10) ++ Lc23) ++ Lc37) = L37 := l37.symm
  subst l37 y37 z37
  obtain ⟨rfl, rfl, e37⟩ := hQ37
  simp only [List.append_nil, Nat.add_zero] at X37
  have G37 := gd X37 hx hby
  obtain ⟨_, _, ⟨T38, L38, k38, n38⟩, -, X38, ⟨Lc38, hQ38, l38, y38, z38⟩, st38⟩ := Jvm.LawKit.callS X37 hx (y := (⟨"java/lang/Math", "min", "(JJ)J"⟩ : MethodName)) hown (mvT hZ (wd hw 27 rfl)) (mvT hZ (wd hw 28 rfl)) (mvT hZ (wd hw 25 rfl)) (mvT hZ (wd hw 29 rfl)) (by decide) (backOf (W := 2) (rm5 l Z a0 hw [] ((x1 + x2)) ((x5 + x6)) T23.heap n0 Z23k ) hZ (wd hw 29 rfl) (wd hw 25 rfl) (by decide) (by decide)) (g := (mkF m 135 #[lv q0, .second, lv q1, .second, lv q2, .second, lv q3, .second, lv x1, .second, lv x2, .second, lv x3, .second, lv x4, .second, lv x5, .second, lv x6, .second, lv x7, .second, lv x8, .second, rv b9, rv b17, .unset] [(.long (x5 + x6)), (.long (x1 + x2)), (.long (rv4 x1 x5))])) rfl (by rw [hml]; rfl) (argsL := [(.long (x1 + x2)), (.long (x5 + x6))]) (rest := [(.long (rv4 x1 x5))]) (lenOf pd_2 rfl) rfl (by show 2 * 0 + _ ≤ _; exact Nat.le_of_eq rfl) (hb hby at_135) (fun _ _ => ⟨rfl, e37, (by decide : 2 + 0 ≤ _), (by decide : 8 + 0 ≤ _)⟩)
  dsimp only [Pt.U, Pt.locs, Pt.cells, Pt.slots] at X38 l38 y38 z38 st38 hQ38
  replace l38 : ((([] ++ Lc10) ++ Lc23) ++ Lc38) = L38 := l38.symm
  subst l38 y38 z38
  obtain ⟨rfl, rfl, e38⟩ := hQ38
  simp only [List.append_nil, Nat.add_zero] at X38
  have G38 := gd X38 hx hby
  obtain ⟨x41, hx41⟩ : ∃ z : Int32, z = (if (0 : Int32) < (lcmpW (rv4 x1 x5) (rv5 (x1 + x2) (x5 + x6))) then (0 : Int32) else (if (0 : Int32) < (lcmpW (rv4 x3 x7) (rv5 (x3 + x4) (x7 + x8))) then (0 : Int32) else (1 : Int32))) := ⟨_, rfl⟩
  obtain ⟨T40, X40, e40, st40⟩ : ∃ T' : State, Stand p l e room_1 s m #[(.long q0), (.long q1), (.long q2), (.long q3)] below meth c T' (([] ++ Lc10) ++ Lc23) 2 8 ∧ T'.heap = T23.heap ∧ ∀ target, Steps p.tables e below (T'.setTop (mkF m 171 #[lv q0, .second, lv q1, .second, lv q2, .second, lv q3, .second, lv x1, .second, lv x2, .second, lv x3, .second, lv x4, .second, lv x5, .second, lv x6, .second, lv x7, .second, lv x8, .second, rv b9, rv b17, .unset] [(.int x41)])) target → Steps p.tables e below (T38.setTop (mkF m 139 #[lv q0, .second, lv q1, .second, lv q2, .second, lv q3, .second, lv x1, .second, lv x2, .second, lv x3, .second, lv x4, .second, lv x5, .second, lv x6, .second, lv x7, .second, lv x8, .second, rv b9, rv b17, .unset] [(.int (lcmpW (rv4 x1 x5) (rv5 (x1 + x2) (x5 + x6))))])) target := by
    by_cases hc139_39 : (0 : Int32) < (lcmpW (rv4 x1 x5) (rv5 (x1 + x2) (x5 + x6)))
    · refine ⟨T38, X38, e38, fun target kt => ?_⟩
      refine mifYes 170 G38 at_139 ((if0 _ _).trans (tlt hc139_39).2.2.1) (by decide) rfl ?_
      refine miconst 171 G38 at_170 (v := (0 : Int32)) rfl rfl ?_
      exact castTop (g' := (mkF m 171 #[lv q0, .second, lv q1, .second, lv q2, .second, lv q3, .second, lv x1, .second, lv x2, .second, lv x3, .second, lv x4, .second, lv x5, .second, lv x6, .second, lv x7, .second, lv x8, .second, rv b9, rv b17, .unset] [(.int x41)])) (by simp only [hx41, if_pos hc139_39]) kt
    · obtain ⟨_, _, ⟨T42, L42, k42, n42⟩, -, X42, ⟨Lc42, hQ42, l42, y42, z42⟩, st42⟩ := Jvm.LawKit.callS X38 hx (y := (⟨"java/lang/Math", "max", "(JJ)J"⟩ : MethodName)) hown (mvT hZ (wd hw 23 rfl)) (mvT hZ (wd hw 24 rfl)) (mvT hZ (wd hw 25 rfl)) (mvT hZ (wd hw 26 rfl)) (by decide) (backOf (W := 0) (rm4 l Z a0 hw [] x3 x7 T23.heap n0 Z23k ) hZ (wd hw 26 rfl) (wd hw 25 rfl) (by decide) (by decide)) (g := (mkF m 146 #[lv q0, .second, lv q1, .second, lv q2, .second, lv q3, .second, lv x1, .second, lv x2, .second, lv x3, .second, lv x4, .second, lv x5, .second, lv x6, .second, lv x7, .second, lv x8, .second, rv b9, rv b17, .unset] [(.long x7), (.long x3)])) rfl (by rw [hml]; rfl) (argsL := [(.long x3), (.long x7)]) (rest := []) (lenOf pd_2 rfl) rfl (by show 2 * 0 + _ ≤ _; exact Nat.le_of_eq rfl) (hb hby at_146) (fun _ _ => ⟨rfl, e38, (by decide : 2 + 0 ≤ _), (by decide : 8 + 0 ≤ _)⟩)
      dsimp only [Pt.U, Pt.locs, Pt.cells, Pt.slots] at X42 l42 y42 z42 st42 hQ42
      replace l42 : ((([] ++ Lc10) ++ Lc23) ++ Lc42) = L42 := l42.symm
      subst l42 y42 z42
      obtain ⟨rfl, rfl, e42⟩ := hQ42
      simp only [List.append_nil, Nat.add_zero] at X42
      have G42 := gd X42 hx hby
      obtain ⟨_, _, ⟨T43, L43, k43, n43⟩, -, X43, ⟨Lc43, hQ43, l43, y43, z43⟩, st43⟩ := Jvm.LawKit.callS X42 hx (y := (⟨"java/lang/Math", "min", "(JJ)J"⟩ : MethodName)) hown (mvT hZ (wd hw 27 rfl)) (mvT hZ (wd hw 28 rfl)) (mvT hZ (wd hw 25 rfl)) (mvT hZ (wd hw 29 rfl)) (by decide) (backOf (W := 2) (rm5 l Z a0 hw [] ((x3 + x4)) ((x7 + x8)) T23.heap n0 Z23k ) hZ (wd hw 29 rfl) (wd hw 25 rfl) (by decide) (by decide)) (g := (mkF m 159 #[lv q0, .second, lv q1, .second, lv q2, .second, lv q3, .second, lv x1, .second, lv x2, .second, lv x3, .second, lv x4, .second, lv x5, .second, lv x6, .second, lv x7, .second, lv x8, .second, rv b9, rv b17, .unset] [(.long (x7 + x8)), (.long (x3 + x4)), (.long (rv4 x3 x7))])) rfl (by rw [hml]; rfl) (argsL := [(.long (x3 + x4)), (.long (x7 + x8))]) (rest := [(.long (rv4 x3 x7))]) (lenOf pd_2 rfl) rfl (by show 2 * 0 + _ ≤ _; exact Nat.le_of_eq rfl) (hb hby at_159) (fun _ _ => ⟨rfl, e42, (by decide : 2 + 0 ≤ _), (by decide : 8 + 0 ≤ _)⟩)
      dsimp only [Pt.U, Pt.locs, Pt.cells, Pt.slots] at X43 l43 y43 z43 st43 hQ43
      replace l43 : ((([] ++ Lc10) ++ Lc23) ++ Lc43) = L43 := l43.symm
      subst l43 y43 z43
      obtain ⟨rfl, rfl, e43⟩ := hQ43
      simp only [List.append_nil, Nat.add_zero] at X43
      have G43 := gd X43 hx hby
      by_cases hc163_44 : (0 : Int32) < (lcmpW (rv4 x3 x7) (rv5 (x3 + x4) (x7 + x8)))
      · refine ⟨T43, X43, e43, fun target kt => ?_⟩
        refine mifNo 142 G38 at_139 ((if0 _ _).trans (flt hc139_39).2.2.1) rfl ?_
        refine mlload 144 G38 at_142 rfl rfl ?_
        refine mlload 146 G38 at_144 rfl rfl ?_
        refine st42 _ ?_
        show Steps p.tables e below (T42.setTop (mkF m 149 #[lv q0, .second, lv q1, .second, lv q2, .second, lv q3, .second, lv x1, .second, lv x2, .second, lv x3, .second, lv x4, .second, lv x5, .second, lv x6, .second, lv x7, .second, lv x8, .second, rv b9, rv b17, .unset] [(.long (rv4 x3 x7))])) _
        refine mlload 151 G42 at_149 rfl rfl ?_
        refine mlload 153 G42 at_151 rfl rfl ?_
        refine mladd 154 G42 at_153 rfl rfl ?_
        refine mlload 156 G42 at_154 rfl rfl ?_
        refine mlload 158 G42 at_156 rfl rfl ?_
        refine mladd 159 G42 at_158 rfl rfl ?_
        refine st43 _ ?_
        show Steps p.tables e below (T43.setTop (mkF m 162 #[lv q0, .second, lv q1, .second, lv q2, .second, lv q3, .second, lv x1, .second, lv x2, .second, lv x3, .second, lv x4, .second, lv x5, .second, lv x6, .second, lv x7, .second, lv x8, .second, rv b9, rv b17, .unset] [(.long (rv5 (x3 + x4) (x7 + x8))), (.long (rv4 x3 x7))])) _
        refine mlcmp 163 G43 at_162 rfl ?_
        refine mifYes 170 G43 at_163 ((if0 _ _).trans (tlt hc163_44).2.2.1) (by decide) rfl ?_
        refine miconst 171 G43 at_170 (v := (0 : Int32)) rfl rfl ?_
        exact castTop (g' := (mkF m 171 #[lv q0, .second, lv q1, .second, lv q2, .second, lv q3, .second, lv x1, .second, lv x2, .second, lv x3, .second, lv x4, .second, lv x5, .second, lv x6, .second, lv x7, .second, lv x8, .second, rv b9, rv b17, .unset] [(.int x41)])) (by simp only [hx41, if_neg hc139_39, if_pos hc163_44]) kt
      · refine ⟨T43, X43, e43, fun target kt => ?_⟩
        refine mifNo 142 G38 at_139 ((if0 _ _).trans (flt hc139_39).2.2.1) rfl ?_
        refine mlload 144 G38 at_142 rfl rfl ?_
        refine mlload 146 G38 at_144 rfl rfl ?_
        refine st42 _ ?_
        show Steps p.tables e below (T42.setTop (mkF m 149 #[lv q0, .second, lv q1, .second, lv q2, .second, lv q3, .second, lv x1, .second, lv x2, .second, lv x3, .second, lv x4, .second, lv x5, .second, lv x6, .second, lv x7, .second, lv x8, .second, rv b9, rv b17, .unset] [(.long (rv4 x3 x7))])) _
        refine mlload 151 G42 at_149 rfl rfl ?_
        refine mlload 153 G42 at_151 rfl rfl ?_
        refine mladd 154 G42 at_153 rfl rfl ?_
        refine mlload 156 G42 at_154 rfl rfl ?_
        refine mlload 158 G42 at_156 rfl rfl ?_
        refine mladd 159 G42 at_158 rfl rfl ?_
        refine st43 _ ?_
        show Steps p.tables e below (T43.setTop (mkF m 162 #[lv q0, .second, lv q1, .second, lv q2, .second, lv q3, .second, lv x1, .second, lv x2, .second, lv x3, .second, lv x4, .second, lv x5, .second, lv x6, .second, lv x7, .second, lv x8, .second, rv b9, rv b17, .unset] [(.long (rv5 (x3 + x4) (x7 + x8))), (.long (rv4 x3 x7))])) _
        refine mlcmp 163 G43 at_162 rfl ?_
        refine mifNo 166 G43 at_163 ((if0 _ _).trans (flt hc163_44).2.2.1) rfl ?_
        refine miconst 167 G43 at_166 (v := (1 : Int32)) rfl rfl ?_
        refine mgoto 171 G43 at_167 (by decide) rfl ?_
        exact castTop (g' := (mkF m 171 #[lv q0, .second, lv q1, .second, lv q2, .second, lv q3, .second, lv x1, .second, lv x2, .second, lv x3, .second, lv x4, .second, lv x5, .second, lv x6, .second, lv x7, .second, lv x8, .second, rv b9, rv b17, .unset] [(.int x41)])) (by simp only [hx41, if_neg hc139_39, if_neg hc163_44]) kt
  have G40 := gd X40 hx hby
  obtain ⟨cq45, kq45, q45a, q45b, q45c⟩ := isOf hZ e40 f25
  obtain ⟨_, _, ⟨T45, L45, k45, n45⟩, -, X45, ⟨Lc45, hQ45, l45, y45, z45⟩, st45⟩ := X40.virtualBack hx (y := (⟨"com/example/crowded_platform/crowdedplatform/geometry/Box", "meets", "(Lcom/example/crowded_platform/crowdedplatform/geometry/Box;)Z"⟩ : MethodName)) (z := (⟨"com/example/crowded_platform/crowdedplatform/geometry/Box", "meets", "(Lcom/example/crowded_platform/crowdedplatform/geometry/Box;)Z"⟩ : MethodName)) hown (mvT hZ (wd hw 30 rfl)) (mvT hZ (wd hw 31 rfl)) (notFace_of_selects (args := #[]) (mvT hZ (wd hw 33 rfl))) (mvT hZ (wd hw 33 rfl)) (mvT hZ (wd hw 32 rfl)) (by decide) (backOf (W := 0) (rm6 l Z a0 hw [] b9 b17 T23.heap n0 Z23k f26 f27 f28 f29 Fq23_0 Fq23_1 Fq23_2 Fq23_3) hZ (wd hw 34 rfl) (wd hw 3 rfl) (by decide) (by decide)) q45a q45c (g := (mkF m 177 #[lv q0, .second, lv q1, .second, lv q2, .second, lv q3, .second, lv x1, .second, lv x2, .second, lv x3, .second, lv x4, .second, lv x5, .second, lv x6, .second, lv x7, .second, lv x8, .second, rv b9, rv b17, iv x41] [(.ref b17), (.ref b9)])) rfl (by rw [hml]; rfl) (Steps.refl _) (argsL := [(.ref b17)]) (rest := []) (lenOf pd_3 rfl) rfl (by show 2 * 0 + _ ≤ _; exact Nat.le_of_eq rfl) (hb hby at_177) (fun _ _ => ⟨rfl, e40, (by decide : 2 + 0 ≤ _), (by decide : 8 + 0 ≤ _)⟩)
  dsimp only [Pt.U, Pt.locs, Pt.cells, Pt.slots] at X45 l45 y45 z45 st45 hQ45
  replace l45 : ((([] ++ Lc10) ++ Lc23) ++ Lc45) = L45 := l45.symm
  subst l45 y45 z45
  obtain ⟨rfl, rfl, e45⟩ := hQ45
  simp only [List.append_nil, Nat.add_zero] at X45
  have G45 := gd X45 hx hby
  obtain ⟨x48, hx48⟩ : ∃ z : Int32, z = (if (rv6 (FP.l2d x1) (FP.l2d x3) (FP.l2d (x1 + x2)) (FP.l2d (x3 + x4)) (FP.l2d x5) (FP.l2d x7) (FP.l2d (x5 + x6)) (FP.l2d (x7 + x8))) = x41 then (if (rv6 (FP.l2d x5) (FP.l2d x7) (FP.l2d (x5 + x6)) (FP.l2d (x7 + x8)) (FP.l2d x1) (FP.l2d x3) (FP.l2d (x1 + x2)) (FP.l2d (x3 + x4))) = x41 then (1 : Int32) else (0 : Int32)) else (0 : Int32)) := ⟨_, rfl⟩
  obtain ⟨T47, X47, e47, st47⟩ : ∃ T' : State, Stand p l e room_1 s m #[(.long q0), (.long q1), (.long q2), (.long q3)] below meth c T' (([] ++ Lc10) ++ Lc23) 2 8 ∧ T'.heap = T23.heap ∧ ∀ target, Steps p.tables e below (T'.setTop (mkF m 202 #[lv q0, .second, lv q1, .second, lv q2, .second, lv q3, .second, lv x1, .second, lv x2, .second, lv x3, .second, lv x4, .second, lv x5, .second, lv x6, .second, lv x7, .second, lv x8, .second, rv b9, rv b17, iv x41] [(.int x48)])) target → Steps p.tables e below (T45.setTop (mkF m 182 #[lv q0, .second, lv q1, .second, lv q2, .second, lv q3, .second, lv x1, .second, lv x2, .second, lv x3, .second, lv x4, .second, lv x5, .second, lv x6, .second, lv x7, .second, lv x8, .second, rv b9, rv b17, iv x41] [(.int x41), (.int (rv6 (FP.l2d x1) (FP.l2d x3) (FP.l2d (x1 + x2)) (FP.l2d (x3 + x4)) (FP.l2d x5) (FP.l2d x7) (FP.l2d (x5 + x6)) (FP.l2d (x7 + x8))))])) target := by
    by_cases hc182_46 : (rv6 (FP.l2d x1) (FP.l2d x3) (FP.l2d (x1 + x2)) (FP.l2d (x3 + x4)) (FP.l2d x5) (FP.l2d x7) (FP.l2d (x5 + x6)) (FP.l2d (x7 + x8))) = x41
    · obtain ⟨cq49, kq49, q49a, q49b, q49c⟩ := isOf hZ e45 Eq23
      obtain ⟨_, _, ⟨T49, L49, k49, n49⟩, -, X49, ⟨Lc49, hQ49, l49, y49, z49⟩, st49⟩ := X45.virtualBack hx (y := (⟨"com/example/crowded_platform/crowdedplatform/geometry/Box", "meets", "(Lcom/example/crowded_platform/crowdedplatform/geometry/Box;)Z"⟩ : MethodName)) (z := (⟨"com/example/crowded_platform/crowdedplatform/geometry/Box", "meets", "(Lcom/example/crowded_platform/crowdedplatform/geometry/Box;)Z"⟩ : MethodName)) hown (mvT hZ (wd hw 30 rfl)) (mvT hZ (wd hw 31 rfl)) (notFace_of_selects (args := #[]) (mvT hZ (wd hw 33 rfl))) (mvT hZ (wd hw 33 rfl)) (mvT hZ (wd hw 32 rfl)) (by decide) (backOf (W := 0) (rm6 l Z a0 hw [] b17 b9 T23.heap n0 Z23k Fq23_0 Fq23_1 Fq23_2 Fq23_3 f26 f27 f28 f29) hZ (wd hw 34 rfl) (wd hw 3 rfl) (by decide) (by decide)) q49a q49c (g := (mkF m 189 #[lv q0, .second, lv q1, .second, lv q2, .second, lv q3, .second, lv x1, .second, lv x2, .second, lv x3, .second, lv x4, .second, lv x5, .second, lv x6, .second, lv x7, .second, lv x8, .second, rv b9, rv b17, iv x41] [(.ref b9), (.ref b17)])) rfl (by rw [hml]; rfl) (Steps.refl _) (argsL := [(.ref b9)]) (rest := []) (lenOf pd_3 rfl) rfl (by show 2 * 0 + _ ≤ _; exact Nat.le_of_eq rfl) (hb hby at_189) (fun _ _ => ⟨rfl, e45, (by decide : 2 + 0 ≤ _), (by decide : 8 + 0 ≤ _)⟩)
      dsimp only [Pt.U, Pt.locs, Pt.cells, Pt.slots] at X49 l49 y49 z49 st49 hQ49
      replace l49 : ((([] ++ Lc10) ++ Lc23) ++ Lc49) = L49 := l49.symm
      subst l49 y49 z49
      obtain ⟨rfl, rfl, e49⟩ := hQ49
      simp only [List.append_nil, Nat.add_zero] at X49
      have G49 := gd X49 hx hby
      by_cases hc194_50 : (rv6 (FP.l2d x5) (FP.l2d x7) (FP.l2d (x5 + x6)) (FP.l2d (x7 + x8)) (FP.l2d x1) (FP.l2d x3) (FP.l2d (x1 + x2)) (FP.l2d (x3 + x4))) = x41
      · refine ⟨T49, X49, e49, fun target kt => ?_⟩
        refine micmpNo 185 G45 at_182 (teq hc182_46).2 rfl ?_
        refine maload 187 G45 at_185 rfl rfl rfl ?_
        refine maload 189 G45 at_187 rfl rfl rfl ?_
        refine st49.trans ?_
        show Steps p.tables e below (T49.setTop (mkF m 192 #[lv q0, .second, lv q1, .second, lv q2, .second, lv q3, .second, lv x1, .second, lv x2, .second, lv x3, .second, lv x4, .second, lv x5, .second, lv x6, .second, lv x7, .second, lv x8, .second, rv b9, rv b17, iv x41] [(.int (rv6 (FP.l2d x5) (FP.l2d x7) (FP.l2d (x5 + x6)) (FP.l2d (x7 + x8)) (FP.l2d x1) (FP.l2d x3) (FP.l2d (x1 + x2)) (FP.l2d (x3 + x4))))])) _
        refine miload 194 G49 at_192 rfl rfl ?_
        refine micmpNo 197 G49 at_194 (teq hc194_50).2 rfl ?_
        refine miconst 198 G49 at_197 (v := (1 : Int32)) rfl rfl ?_
        refine mgoto 202 G49 at_198 (by decide) rfl ?_
        exact castTop (g' := (mkF m 202 #[lv q0, .second, lv q1, .second, lv q2, .second, lv q3, .second, lv x1, .second, lv x2, .second, lv x3, .second, lv x4, .second, lv x5, .second, lv x6, .second, lv x7, .second, lv x8, .second, rv b9, rv b17, iv x41] [(.int x48)])) (by simp only [hx48, if_pos hc182_46, if_pos hc194_50]) kt
      · refine ⟨T49, X49, e49, fun target kt => ?_⟩
        refine micmpNo 185 G45 at_182 (teq hc182_46).2 rfl ?_
        refine maload 187 G45 at_185 rfl rfl rfl ?_
        refine maload 189 G45 at_187 rfl rfl rfl ?_
        refine st49.trans ?_
        show Steps p.tables e below (T49.setTop (mkF m 192 #[lv q0, .second, lv q1, .second, lv q2, .second, lv q3, .second, lv x1, .second, lv x2, .second, lv x3, .second, lv x4, .second, lv x5, .second, lv x6, .second, lv x7, .second, lv x8, .second, rv b9, rv b17, iv x41] [(.int (rv6 (FP.l2d x5) (FP.l2d x7) (FP.l2d (x5 + x6)) (FP.l2d (x7 + x8)) (FP.l2d x1) (FP.l2d x3) (FP.l2d (x1 + x2)) (FP.l2d (x3 + x4))))])) _
        refine miload 194 G49 at_192 rfl rfl ?_
        refine micmpYes 201 G49 at_194 (feq hc194_50).2 (by decide) rfl ?_
        refine miconst 202 G49 at_201 (v := (0 : Int32)) rfl rfl ?_
        exact castTop (g' := (mkF m 202 #[lv q0, .second, lv q1, .second, lv q2, .second, lv q3, .second, lv x1, .second, lv x2, .second, lv x3, .second, lv x4, .second, lv x5, .second, lv x6, .second, lv x7, .second, lv x8, .second, rv b9, rv b17, iv x41] [(.int x48)])) (by simp only [hx48, if_pos hc182_46, if_neg hc194_50]) kt
    · refine ⟨T45, X45, e45, fun target kt => ?_⟩
      refine micmpYes 201 G45 at_182 (feq hc182_46).2 (by decide) rfl ?_
      refine miconst 202 G45 at_201 (v := (0 : Int32)) rfl rfl ?_
      exact castTop (g' := (mkF m 202 #[lv q0, .second, lv q1, .second, lv q2, .second, lv q3, .second, lv x1, .second, lv x2, .second, lv x3, .second, lv x4, .second, lv x5, .second, lv x6, .second, lv x7, .second, lv x8, .second, rv b9, rv b17, iv x41] [(.int x48)])) (by simp only [hx48, if_neg hc182_46]) kt
  have G47 := gd X47 hx hby
  have hend : x48 = 1 := (own_rm0_end q0 q1 q2 q3 x1 hx1 x2 hx2 x3 hx3 x4 hx4 x5 hx5 x6 hx6 x7 hx7 x8 hx8 x41 hx41 x48 hx48)
  obtain ⟨fs, hr, hrun, hended, hW, hsame⟩ := X47.leave (v := some (.int (1 : Int32))) (fun h => by rw [Bd.returns] at h; cases h)
  refine ⟨_, _, pre0 _ ?_, hrun, hended, _, _, rfl, ?_, ⟨_, rfl⟩, hW, hsame.mono (by decide) (by decide)⟩
  · show Steps p.tables e below (s₁.setTop (mkF m 0 #[lv q0, .second, lv q1, .second, lv q2, .second, lv q3, .second, .unset, .unset, .unset, .unset, .unset, .unset, .unset, .unset, .unset, .unset, .unset, .unset, .unset, .unset, .unset, .unset, .unset, .unset, .unset] [])) _
    refine mlloadN 1 G0 at_0 rfl rfl ?_
    refine ml2i 2 G0 at_1 rfl ?_
    refine mi2l 3 G0 at_2 rfl ?_
    refine castTop (g' := (mkF m 3 #[lv q0, .second, lv q1, .second, lv q2, .second, lv q3, .second, .unset, .unset, .unset, .unset, .unset, .unset, .unset, .unset, .unset, .unset, .unset, .unset, .unset, .unset, .unset, .unset, .unset, .unset, .unset] [(.long x1)])) (by rw [hx1]) ?_
    refine mlstore 5 G0 at_3 #[lv q0, .second, lv q1, .second, lv q2, .second, lv q3, .second, lv x1, .second, .unset, .unset, .unset, .unset, .unset, .unset, .unset, .unset, .unset, .unset, .unset, .unset, .unset, .unset, .unset, .unset, .unset] rfl rfl ?_
    refine mlloadN 6 G0 at_5 rfl rfl ?_
    refine mbipush 8 G0 at_6 (v := (32 : Int32)) rfl rfl ?_
    refine mlushr 9 G0 at_8 rfl rfl ?_
    refine X0.ldc2Long hx hown (mvT hZ (wd hw 0 rfl)) (g := (mkF m 9 #[lv q0, .second, lv q1, .second, lv q2, .second, lv q3, .second, lv x1, .second, .unset, .unset, .unset, .unset, .unset, .unset, .unset, .unset, .unset, .unset, .unset, .unset, .unset, .unset, .unset, .unset, .unset] [(.long ((q0.toUInt64 >>> ((32 : Int32) &&& 0x3f).toInt64.toUInt64).toInt64))])) rfl (hb hby at_9) _ ?_
    show Steps p.tables e below (s₁.setTop (mkF m 12 #[lv q0, .second, lv q1, .second, lv q2, .second, lv q3, .second, lv x1, .second, .unset, .unset, .unset, .unset, .unset, .unset, .unset, .unset, .unset, .unset, .unset, .unset, .unset, .unset, .unset, .unset, .unset] [(.long (2147483647 : Int64)), (.long ((q0.toUInt64 >>> ((32 : Int32) &&& 0x3f).toInt64.toUInt64).toInt64))])) _
    refine mland 13 G0 at_12 rfl rfl ?_
    refine castTop (g' := (mkF m 13 #[lv q0, .second, lv q1, .second, lv q2, .second, lv q3, .second, lv x1, .second, .unset, .unset, .unset, .unset, .unset, .unset, .unset, .unset, .unset, .unset, .unset, .unset, .unset, .unset, .unset, .unset, .unset] [(.long x2)])) (by rw [hx2]) ?_
    refine mlstore 15 G0 at_13 #[lv q0, .second, lv q1, .second, lv q2, .second, lv q3, .second, lv x1, .second, lv x2, .second, .unset, .unset, .unset, .unset, .unset, .unset, .unset, .unset, .unset, .unset, .unset, .unset, .unset, .unset, .unset] rfl rfl ?_
    refine mlloadN 16 G0 at_15 rfl rfl ?_
    refine ml2i 17 G0 at_16 rfl ?_
    refine mi2l 18 G0 at_17 rfl ?_
    refine castTop (g' := (mkF m 18 #[lv q0, .second, lv q1, .second, lv q2, .second, lv q3, .second, lv x1, .second, lv x2, .second, .unset, .unset, .unset, .unset, .unset, .unset, .unset, .unset, .unset, .unset, .unset, .unset, .unset, .unset, .unset] [(.long x3)])) (by rw [hx3]) ?_
    refine mlstore 20 G0 at_18 #[lv q0, .second, lv q1, .second, lv q2, .second, lv q3, .second, lv x1, .second, lv x2, .second, lv x3, .second, .unset, .unset, .unset, .unset, .unset, .unset, .unset, .unset, .unset, .unset, .unset, .unset, .unset] rfl rfl ?_
    refine mlloadN 21 G0 at_20 rfl rfl ?_
    refine mbipush 23 G0 at_21 (v := (32 : Int32)) rfl rfl ?_
    refine mlushr 24 G0 at_23 rfl rfl ?_
    refine X0.ldc2Long hx hown (mvT hZ (wd hw 0 rfl)) (g := (mkF m 24 #[lv q0, .second, lv q1, .second, lv q2, .second, lv q3, .second, lv x1, .second, lv x2, .second, lv x3, .second, .unset, .unset, .unset, .unset, .unset, .unset, .unset, .unset, .unset, .unset, .unset, .unset, .unset] [(.long ((q1.toUInt64 >>> ((32 : Int32) &&& 0x3f).toInt64.toUInt64).toInt64))])) rfl (hb hby at_24) _ ?_
    show Steps p.tables e below (s₁.setTop (mkF m 27 #[lv q0, .second, lv q1, .second, lv q2, .second, lv q3, .second, lv x1, .second, lv x2, .second, lv x3, .second, .unset, .unset, .unset, .unset, .unset, .unset, .unset, .unset, .unset, .unset, .unset, .unset, .unset] [(.long (2147483647 : Int64)), (.long ((q1.toUInt64 >>> ((32 : Int32) &&& 0x3f).toInt64.toUInt64).toInt64))])) _
    refine mland 28 G0 at_27 rfl rfl ?_
    refine castTop (g' := (mkF m 28 #[lv q0, .second, lv q1, .second, lv q2, .second, lv q3, .second, lv x1, .second, lv x2, .second, lv x3, .second, .unset, .unset, .unset, .unset, .unset, .unset, .unset, .unset, .unset, .unset, .unset, .unset, .unset] [(.long x4)])) (by rw [hx4]) ?_
    refine mlstore 30 G0 at_28 #[lv q0, .second, lv q1, .second, lv q2, .second, lv q3, .second, lv x1, .second, lv x2, .second, lv x3, .second, lv x4, .second, .unset, .unset, .unset, .unset, .unset, .unset, .unset, .unset, .unset, .unset, .unset] rfl rfl ?_
    refine mlload 32 G0 at_30 rfl rfl ?_
    refine ml2i 33 G0 at_32 rfl ?_
    refine mi2l 34 G0 at_33 rfl ?_
    refine castTop (g' := (mkF m 34 #[lv q0, .second, lv q1, .second, lv q2, .second, lv q3, .second, lv x1, .second, lv x2, .second, lv x3, .second, lv x4, .second, .unset, .unset, .unset, .unset, .unset, .unset, .unset, .unset, .unset, .unset, .unset] [(.long x5)])) (by rw [hx5]) ?_
    refine mlstore 36 G0 at_34 #[lv q0, .second, lv q1, .second, lv q2, .second, lv q3, .second, lv x1, .second, lv x2, .second, lv x3, .second, lv x4, .second, lv x5, .second, .unset, .unset, .unset, .unset, .unset, .unset, .unset, .unset, .unset] rfl rfl ?_
    refine mlload 38 G0 at_36 rfl rfl ?_
    refine mbipush 40 G0 at_38 (v := (32 : Int32)) rfl rfl ?_
    refine mlushr 41 G0 at_40 rfl rfl ?_
    refine X0.ldc2Long hx hown (mvT hZ (wd hw 0 rfl)) (g := (mkF m 41 #[lv q0, .second, lv q1, .second, lv q2, .second, lv q3, .second, lv x1, .second, lv x2, .second, lv x3, .second, lv x4, .second, lv x5, .second, .unset, .unset, .unset, .unset, .unset, .unset, .unset, .unset, .unset] [(.long ((q2.toUInt64 >>> ((32 : Int32) &&& 0x3f).toInt64.toUInt64).toInt64))])) rfl (hb hby at_41) _ ?_
    show Steps p.tables e below (s₁.setTop (mkF m 44 #[lv q0, .second, lv q1, .second, lv q2, .second, lv q3, .second, lv x1, .second, lv x2, .second, lv x3, .second, lv x4, .second, lv x5, .second, .unset, .unset, .unset, .unset, .unset, .unset, .unset, .unset, .unset] [(.long (2147483647 : Int64)), (.long ((q2.toUInt64 >>> ((32 : Int32) &&& 0x3f).toInt64.toUInt64).toInt64))])) _
    refine mland 45 G0 at_44 rfl rfl ?_
    refine castTop (g' := (mkF m 45 #[lv q0, .second, lv q1, .second, lv q2, .second, lv q3, .second, lv x1, .second, lv x2, .second, lv x3, .second, lv x4, .second, lv x5, .second, .unset, .unset, .unset, .unset, .unset, .unset, .unset, .unset, .unset] [(.long x6)])) (by rw [hx6]) ?_
    refine mlstore 47 G0 at_45 #[lv q0, .second, lv q1, .second, lv q2, .second, lv q3, .second, lv x1, .second, lv x2, .second, lv x3, .second, lv x4, .second, lv x5, .second, lv x6, .second, .unset, .unset, .unset, .unset, .unset, .unset, .unset] rfl rfl ?_
    refine mlload 49 G0 at_47 rfl rfl ?_
    refine ml2i 50 G0 at_49 rfl ?_
    refine mi2l 51 G0 at_50 rfl ?_
    refine castTop (g' := (mkF m 51 #[lv q0, .second, lv q1, .second, lv q2, .second, lv q3, .second, lv x1, .second, lv x2, .second, lv x3, .second, lv x4, .second, lv x5, .second, lv x6, .second, .unset, .unset, .unset, .unset, .unset, .unset, .unset] [(.long x7)])) (by rw [hx7]) ?_
    refine mlstore 53 G0 at_51 #[lv q0, .second, lv q1, .second, lv q2, .second, lv q3, .second, lv x1, .second, lv x2, .second, lv x3, .second, lv x4, .second, lv x5, .second, lv x6, .second, lv x7, .second, .unset, .unset, .unset, .unset, .unset] rfl rfl ?_
    refine mlload 55 G0 at_53 rfl rfl ?_
    refine mbipush 57 G0 at_55 (v := (32 : Int32)) rfl rfl ?_
    refine mlushr 58 G0 at_57 rfl rfl ?_
    refine X0.ldc2Long hx hown (mvT hZ (wd hw 0 rfl)) (g := (mkF m 58 #[lv q0, .second, lv q1, .second, lv q2, .second, lv q3, .second, lv x1, .second, lv x2, .second, lv x3, .second, lv x4, .second, lv x5, .second, lv x6, .second, lv x7, .second, .unset, .unset, .unset, .unset, .unset] [(.long ((q3.toUInt64 >>> ((32 : Int32) &&& 0x3f).toInt64.toUInt64).toInt64))])) rfl (hb hby at_58) _ ?_
    show Steps p.tables e below (s₁.setTop (mkF m 61 #[lv q0, .second, lv q1, .second, lv q2, .second, lv q3, .second, lv x1, .second, lv x2, .second, lv x3, .second, lv x4, .second, lv x5, .second, lv x6, .second, lv x7, .second, .unset, .unset, .unset, .unset, .unset] [(.long (2147483647 : Int64)), (.long ((q3.toUInt64 >>> ((32 : Int32) &&& 0x3f).toInt64.toUInt64).toInt64))])) _
    refine mland 62 G0 at_61 rfl rfl ?_
    refine castTop (g' := (mkF m 62 #[lv q0, .second, lv q1, .second, lv q2, .second, lv q3, .second, lv x1, .second, lv x2, .second, lv x3, .second, lv x4, .second, lv x5, .second, lv x6, .second, lv x7, .second, .unset, .unset, .unset, .unset, .unset] [(.long x8)])) (by rw [hx8]) ?_
    refine mlstore 64 G0 at_62 #[lv q0, .second, lv q1, .second, lv q2, .second, lv q3, .second, lv x1, .second, lv x2, .second, lv x3, .second, lv x4, .second, lv x5, .second, lv x6, .second, lv x7, .second, lv x8, .second, .unset, .unset, .unset] rfl rfl ?_
    refine st9 _ ?_
    show Steps p.tables e below (T9.setTop (mkF m 67 #[lv q0, .second, lv q1, .second, lv q2, .second, lv q3, .second, lv x1, .second, lv x2, .second, lv x3, .second, lv x4, .second, lv x5, .second, lv x6, .second, lv x7, .second, lv x8, .second, .unset, .unset, .unset] [(.ref b9)])) _
    refine mdup 68 G9 at_67 rfl rfl ?_
    refine mlload 70 G9 at_68 rfl rfl ?_
    refine ml2d 71 G9 at_70 rfl ?_
    refine mlload 73 G9 at_71 rfl rfl ?_
    refine ml2d 74 G9 at_73 rfl ?_
    refine mlload 76 G9 at_74 rfl rfl ?_
    refine mlload 78 G9 at_76 rfl rfl ?_
    refine mladd 79 G9 at_78 rfl rfl ?_
    refine ml2d 80 G9 at_79 rfl ?_
    refine mlload 82 G9 at_80 rfl rfl ?_
    refine mlload 84 G9 at_82 rfl rfl ?_
    refine mladd 85 G9 at_84 rfl rfl ?_
    refine ml2d 86 G9 at_85 rfl ?_
    refine st10.trans ?_
    show Steps p.tables e below (T10.setTop (mkF m 89 #[lv q0, .second, lv q1, .second, lv q2, .second, lv q3, .second, lv x1, .second, lv x2, .second, lv x3, .second, lv x4, .second, lv x5, .second, lv x6, .second, lv x7, .second, lv x8, .second, .unset, .unset, .unset] [(.ref b9)])) _
    refine mastore 91 G10 at_89 rfl #[lv q0, .second, lv q1, .second, lv q2, .second, lv q3, .second, lv x1, .second, lv x2, .second, lv x3, .second, lv x4, .second, lv x5, .second, lv x6, .second, lv x7, .second, lv x8, .second, rv b9, .unset, .unset] rfl rfl ?_
    refine st17 _ ?_
    show Steps p.tables e below (T17.setTop (mkF m 94 #[lv q0, .second, lv q1, .second, lv q2, .second, lv q3, .second, lv x1, .second, lv x2, .second, lv x3, .second, lv x4, .second, lv x5, .second, lv x6, .second, lv x7, .second, lv x8, .second, rv b9, .unset, .unset] [(.ref b17)])) _
    refine mdup 95 G17 at_94 rfl rfl ?_
    refine mlload 97 G17 at_95 rfl rfl ?_
    refine ml2d 98 G17 at_97 rfl ?_
    refine mlload 100 G17 at_98 rfl rfl ?_
    refine ml2d 101 G17 at_100 rfl ?_
    refine mlload 103 G17 at_101 rfl rfl ?_
    refine mlload 105 G17 at_103 rfl rfl ?_
    refine mladd 106 G17 at_105 rfl rfl ?_
    refine ml2d 107 G17 at_106 rfl ?_
    refine mlload 109 G17 at_107 rfl rfl ?_
    refine mlload 111 G17 at_109 rfl rfl ?_
    refine mladd 112 G17 at_111 rfl rfl ?_
    refine ml2d 113 G17 at_112 rfl ?_
    refine st23.trans ?_
    show Steps p.tables e below (T23.setTop (mkF m 116 #[lv q0, .second, lv q1, .second, lv q2, .second, lv q3, .second, lv x1, .second, lv x2, .second, lv x3, .second, lv x4, .second, lv x5, .second, lv x6, .second, lv x7, .second, lv x8, .second, rv b9, .unset, .unset] [(.ref b17)])) _
    refine mastore 118 G23 at_116 rfl #[lv q0, .second, lv q1, .second, lv q2, .second, lv q3, .second, lv x1, .second, lv x2, .second, lv x3, .second, lv x4, .second, lv x5, .second, lv x6, .second, lv x7, .second, lv x8, .second, rv b9, rv b17, .unset] rfl rfl ?_
    refine mlload 120 G23 at_118 rfl rfl ?_
    refine mlload 122 G23 at_120 rfl rfl ?_
    refine st37 _ ?_
    show Steps p.tables e below (T37.setTop (mkF m 125 #[lv q0, .second, lv q1, .second, lv q2, .second, lv q3, .second, lv x1, .second, lv x2, .second, lv x3, .second, lv x4, .second, lv x5, .second, lv x6, .second, lv x7, .second, lv x8, .second, rv b9, rv b17, .unset] [(.long (rv4 x1 x5))])) _
    refine mlload 127 G37 at_125 rfl rfl ?_
    refine mlload 129 G37 at_127 rfl rfl ?_
    refine mladd 130 G37 at_129 rfl rfl ?_
    refine mlload 132 G37 at_130 rfl rfl ?_
    refine mlload 134 G37 at_132 rfl rfl ?_
    refine mladd 135 G37 at_134 rfl rfl ?_
    refine st38 _ ?_
    show Steps p.tables e below (T38.setTop (mkF m 138 #[lv q0, .second, lv q1, .second, lv q2, .second, lv q3, .second, lv x1, .second, lv x2, .second, lv x3, .second, lv x4, .second, lv x5, .second, lv x6, .second, lv x7, .second, lv x8, .second, rv b9, rv b17, .unset] [(.long (rv5 (x1 + x2) (x5 + x6))), (.long (rv4 x1 x5))])) _
    refine mlcmp 139 G38 at_138 rfl ?_
    refine st40 _ ?_
    refine mistore 173 G40 at_171 #[lv q0, .second, lv q1, .second, lv q2, .second, lv q3, .second, lv x1, .second, lv x2, .second, lv x3, .second, lv x4, .second, lv x5, .second, lv x6, .second, lv x7, .second, lv x8, .second, rv b9, rv b17, iv x41] rfl rfl ?_
    refine maload 175 G40 at_173 rfl rfl rfl ?_
    refine maload 177 G40 at_175 rfl rfl rfl ?_
    refine st45.trans ?_
    show Steps p.tables e below (T45.setTop (mkF m 180 #[lv q0, .second, lv q1, .second, lv q2, .second, lv q3, .second, lv x1, .second, lv x2, .second, lv x3, .second, lv x4, .second, lv x5, .second, lv x6, .second, lv x7, .second, lv x8, .second, rv b9, rv b17, iv x41] [(.int (rv6 (FP.l2d x1) (FP.l2d x3) (FP.l2d (x1 + x2)) (FP.l2d (x3 + x4)) (FP.l2d x5) (FP.l2d x7) (FP.l2d (x5 + x6)) (FP.l2d (x7 + x8))))])) _
    refine miload 182 G45 at_180 rfl rfl ?_
    refine st47 _ ?_
    refine castTop (g' := (mkF m 202 #[lv q0, .second, lv q1, .second, lv q2, .second, lv q3, .second, lv x1, .second, lv x2, .second, lv x3, .second, lv x4, .second, lv x5, .second, lv x6, .second, lv x7, .second, lv x8, .second, rv b9, rv b17, iv x41] [(.int (1 : Int32))])) (by rw [hend]) ?_
    exact retN X47 hx (t := .boolean) Bd.returns (by simp) (hb hby at_202) hr
  · show Q0 Z q0 q1 q2 q3 h0 n0 _ T47.heap _
    rw [e47]
    exact ⟨rfl, N23⟩
set_option maxRecDepth 65536 in
set_option maxHeartbeats 40000000 in
theorem comes_1 {Post : Tables → Env → Array Value → State → Outcome → State → Prop} (hpost : ∀ tb e args s v u, (limb_1_1.after args s (.returned v) u = true ∧ limb_1_2.after args s (.returned v) u = true ∧ True) → FrameEnd s (.returned v) u (Jvm.fieldLocs frame_1_writes args s ++ Jvm.arrayLocs frame_1_arrays args s ++ Jvm.staticLocs frame_1_statics s) 16 128 → Post tb e args s (.returned v) u) :
    ArmFor flags0 classFile x code maxLocals ret World_1 tables_1 room_1 Calls_1 rest_1 Pre_1 Post := by
  intro l hfl _ _ p e ha hc hk s m args below hf hA hF happ hP
  obtain ⟨hcalls, hrest, hpre⟩ := hP
  obtain ⟨-, -, -, hnamed, -, -, -, hat⟩ := (Spec.applies_iff hf).mp happ
  obtain ⟨hg, hn⟩ := and_e (Cond.before_iff.mp (show (Jvm.Cond.and given_1 narrow_1).before args s = true from hpre))
  obtain ⟨g1, g2⟩ := and_e hg
  obtain ⟨g3, g4⟩ := and_e g2
  obtain ⟨g5, g6⟩ := and_e g4
  obtain ⟨g7, g8⟩ := and_e g6
  obtain ⟨w0, w1, w2, w3, rfl⟩ : ∃ w0 w1 w2 w3 : Value, args = #[w0, w1, w2, w3] := by
    have hs : args.size = 4 := by simpa [Cond.value, given_1] using g1
    obtain ⟨L⟩ := args
    match L, hs with
    | [w0, w1, w2, w3], _ => exact ⟨w0, w1, w2, w3, rfl⟩
  have hw := fun d (hd : d ∈ tables_1) => atoms_spec (ws := Jvm.Cond.code x code maxLocals ret :: tables_1) hat d (List.mem_cons_of_mem _ hd)
  have hfit : Fit s := fun {y c} hc i hi => by
    obtain ⟨ha, rfl⟩ := Array.getElem?_eq_some_iff.mp hc
    have q := List.all_eq_true.mp ((Array.all_eq_true_iff_forall_mem.mp hF) _ (Array.getElem_mem ha)) i (List.mem_range.mpr hi)
    simpa [Array.getElem?_eq_getElem hi] using q
  obtain ⟨i0, ei0⟩ := isL_v g3
  obtain rfl : w0 = (.long i0) := Option.some.inj ei0
  obtain ⟨i1, ei1⟩ := isL_v g5
  obtain rfl : w1 = (.long i1) := Option.some.inj ei1
  obtain ⟨i2, ei2⟩ := isL_v g7
  obtain rfl : w2 = (.long i2) := Option.some.inj ei2
  obtain ⟨i3, ei3⟩ := isL_v g8
  obtain rfl : w3 = (.long i3) := Option.some.inj ei3
  obtain ⟨n, o, h1, h2, h3, _, L, rfl, ⟨rfl, N⟩, hq⟩ := rm0 l s _ hw tables_1 i0 i1 i2 i3 s.heap s.heap.size (Nat.le_refl _)  p e ha hc hk s m _ below hf ((Spec.applies_iff_loose hf).mp happ).1 ⟨rfl, State.Warmed39.refl s, rfl⟩ trivial
  refine ⟨n, _, h1, h2, h3, hpost _ _ _ _ _ _ ⟨Cond.after_iff.mpr rfl, Cond.after_iff.mpr (eq_i res_at (Term.int_eval (1)) rfl), trivial⟩ ⟨hq.1, hq.2.1, (hq.2.2.sift fun y hy => Or.inr (N y hy)).mono (by decide) (by decide)⟩⟩
theorem main_1_1 : Claimed_1_1 := comes_1 fun _ _ _ _ _ _ h hF => ⟨h.1, hF⟩
theorem main_1_2 : Claimed_1_2 := comes_1 fun _ _ _ _ _ _ h hF => ⟨h.2.1, hF⟩
end Jvm.Pilot.@@N@@
namespace Jvm.Pilot.@@N@@
open Jvm Jvm.ClassFile Sem Op Lib Jvm.Free Jvm.Stand Jvm.Pilot.@@N@@.Jvm.D
/-! MADE BY PROGRAM (witnessworld.py) out of the Statement's table words and the real class files: 11 classes; the members and pool entries that the words name. The judged class is class 1, her method 1. -/
namespace start1
open Jvm.ClassFile
def u (s : String) : CpInfo := .utf8 (stringToUtf16 s)
/-- a pool by its gaps: so many unusable entries, then the entry; so many at the end -/
def gap : Nat → List CpInfo → List CpInfo
  | 0, r => r
  | n + 1, r => .unusable :: gap n r
def poolList (es : List (Nat × CpInfo)) (last : Nat) : List CpInfo := es.foldr (fun e r => gap e.1 (e.2 :: r)) (gap last [])
def pool (es : List (Nat × CpInfo)) (last : Nat) : Array CpInfo := ⟨poolList es last⟩
def fileOf (pool : Array CpInfo) (this : Nat) (attrs : Array Attribute := #[]) (ms : Array MethodInfo := #[]) (fl : Nat := 33) (sup : Nat := 0) (ifs : Array Nat := #[]) (fds : Array FieldInfo := #[]) : ClassFile where
  minorVersion := 0
  majorVersion := 65
  constantPool := pool
  accessFlags := fl
  thisClass := this
  superClass := sup
  interfaces := ifs
  fields := fds
  methods := ms
  attributes := attrs
def plain (name : String) (sup : Option ClassId) : Class where
  name := name
  kind := .ordinary
  loader := none
  accessFlags := 33
  super := sup
  interfaces := #[]
  cf := none
  fields := #[]
  methods := #[]
  instanceTypes := #[]
  staticTypes := #[]
  resolved := #[]
  callSites := []
  init := .initialized
  statics := none
  mirror := none

def pool0 : Array CpInfo := pool [(5, u "<init>"), (0, u "()V"), (1, .class_ 10), (1, u "java/lang/Object")] 113

def k0c0 : Code := { maxStack := 0, maxLocals := 1, code := object_method_1_code, exceptionTable := #[], attributes := #[] }
def k0m0 : Method := { name := "<init>", desc := "()V", sig := { parameters := [], returnType := none }, accessFlags := 1, code := some k0c0 }
/-- java/lang/Object -/
def k0 : Class := { plain "java/lang/Object" none with
  accessFlags := 33
  interfaces := #[]
  cf := some (fileOf pool0 8 #[] #[{ accessFlags := 1, nameIndex := 5, descriptorIndex := 6, attributes := #[] }] 33 0 #[] #[])
  fields := #[]
  methods := #[k0m0]
  instanceTypes := #[]
  staticTypes := #[]
  resolved := Array.replicate 124 none
  statics := none }

def pool1 : Array CpInfo := pool [(2, .class_ 4), (1, u "java/lang/Object"), (0, u "<init>"), (0, u "()V"), (0, .long 2147483647), (1, .class_ 10), (0, u "com/example/crowded_platform/crowdedplatform/geometry/Box"), (0, .methodref 9 12), (0, .nameAndType 5 13), (0, u "(DDDD)V"), (0, .methodref 15 16), (0, .class_ 17), (0, .nameAndType 18 19), (0, u "java/lang/Math"), (0, u "max"), (0, u "(JJ)J"), (0, .methodref 15 21), (0, .nameAndType 22 19), (0, u "min"), (0, .methodref 9 24), (0, .nameAndType 25 26), (0, u "meets"), (0, u "(Lcom/example/crowded_platform/crowdedplatform/geometry/Box;)Z"), (0, .class_ 28), (0, u "com/example/crowded_platform/crowdedplatform/geometry/BoxMeetsPinLaw"), (2, u "law"), (0, u "(JJJJ)Z")] 3

def k1m0 : Method := { name := "<init>", desc := "()V", sig := { parameters := [], returnType := none }, accessFlags := 1, code := none }
def k1c1 : Code := { maxStack := 12, maxLocals := 27, code := code, exceptionTable := #[], attributes := #[] }
def k1m1 : Method := { name := "law", desc := "(JJJJ)Z", sig := { parameters := [.long, .long, .long, .long], returnType := some .boolean }, accessFlags := 9, code := some k1c1 }
/-- com/example/crowded_platform/crowdedplatform/geometry/BoxMeetsPinLaw -/
def k1 : Class := { plain "com/example/crowded_platform/crowdedplatform/geometry/BoxMeetsPinLaw" (some 0) with
  accessFlags := 49
  interfaces := #[]
  cf := some (fileOf pool1 27 #[] #[{ accessFlags := 1, nameIndex := 5, descriptorIndex := 6, attributes := #[] }, { accessFlags := 9, nameIndex := 31, descriptorIndex := 32, attributes := #[] }] 49 2 #[] #[])
  fields := #[]
  methods := #[k1m0, k1m1]
  instanceTypes := #[]
  staticTypes := #[]
  resolved := Array.replicate 36 none
  statics := none }

def pool2 : Array CpInfo := pool [(1, .methodref 2 3), (0, .class_ 4), (0, .nameAndType 5 6), (0, u "java/lang/Object"), (0, u "<init>"), (0, u "()V"), (0, .class_ 8), (0, u "java/lang/Record")] 13

def k2c0 : Code := { maxStack := 1, maxLocals := 1, code := jdk_30_method_1_code, exceptionTable := #[], attributes := #[] }
def k2m0 : Method := { name := "<init>", desc := "()V", sig := { parameters := [], returnType := none }, accessFlags := 4, code := some k2c0 }
/-- java/lang/Record -/
def k2 : Class := { plain "java/lang/Record" (some 0) with
  accessFlags := 1057
  interfaces := #[]
  cf := some (fileOf pool2 7 #[] #[{ accessFlags := 4, nameIndex := 5, descriptorIndex := 6, attributes := #[] }] 1057 2 #[] #[])
  fields := #[]
  methods := #[k2m0]
  instanceTypes := #[]
  staticTypes := #[]
  resolved := Array.replicate 22 none
  statics := none }

def pool3 : Array CpInfo := pool [(1, .methodref 2 3), (0, .class_ 4), (0, .nameAndType 5 6), (0, u "java/lang/Record"), (0, u "<init>"), (0, u "()V"), (0, .fieldref 8 9), (0, .class_ 10), (0, .nameAndType 11 12), (0, u "com/example/crowded_platform/crowdedplatform/geometry/Box"), (0, u "minX"), (0, u "D"), (0, .fieldref 8 14), (0, .nameAndType 15 12), (0, u "minY"), (0, .fieldref 8 17), (0, .nameAndType 18 12), (0, u "maxX"), (0, .fieldref 8 20), (0, .nameAndType 21 12), (0, u "maxY"), (2, u "(DDDD)V"), (30, u "meets"), (0, u "(Lcom/example/crowded_platform/crowdedplatform/geometry/Box;)Z")] 28

def k3c0 : Code := { maxStack := 3, maxLocals := 9, code := prog_1_method_1_code, exceptionTable := #[], attributes := #[] }
def k3m0 : Method := { name := "<init>", desc := "(DDDD)V", sig := { parameters := [.double, .double, .double, .double], returnType := none }, accessFlags := 1, code := some k3c0 }
def k3c1 : Code := { maxStack := 4, maxLocals := 2, code := prog_1_method_5_code, exceptionTable := #[], attributes := #[] }
def k3m1 : Method := { name := "meets", desc := "(Lcom/example/crowded_platform/crowdedplatform/geometry/Box;)Z", sig := { parameters := [(.object "com/example/crowded_platform/crowdedplatform/geometry/Box")], returnType := some .boolean }, accessFlags := 1, code := some k3c1 }
/-- com/example/crowded_platform/crowdedplatform/geometry/Box -/
def k3 : Class := { plain "com/example/crowded_platform/crowdedplatform/geometry/Box" (some 2) with
  accessFlags := 49
  interfaces := #[]
  cf := some (fileOf pool3 8 #[] #[{ accessFlags := 1, nameIndex := 5, descriptorIndex := 24, attributes := #[] }, { accessFlags := 1, nameIndex := 55, descriptorIndex := 56, attributes := #[] }] 49 2 #[] #[{ accessFlags := 18, nameIndex := 11, descriptorIndex := 12, attributes := #[] }, { accessFlags := 18, nameIndex := 15, descriptorIndex := 12, attributes := #[] }, { accessFlags := 18, nameIndex := 18, descriptorIndex := 12, attributes := #[] }, { accessFlags := 18, nameIndex := 21, descriptorIndex := 12, attributes := #[] }])
  fields := #[{ name := "minX", type := .double, accessFlags := 18, slot := 0, constantValue := 0 }, { name := "minY", type := .double, accessFlags := 18, slot := 1, constantValue := 0 }, { name := "maxX", type := .double, accessFlags := 18, slot := 2, constantValue := 0 }, { name := "maxY", type := .double, accessFlags := 18, slot := 3, constantValue := 0 }]
  methods := #[k3m0, k3m1]
  instanceTypes := #[.double, .double, .double, .double]
  staticTypes := #[]
  resolved := Array.replicate 85 none
  statics := none }

def pool4 : Array CpInfo := pool [(1, .class_ 2), (0, u "java/lang/Math"), (1, .class_ 6), (1, u "java/lang/Object"), (0, u "<init>"), (0, u "()V"), (89, .class_ 100), (1, u "java/lang/Math$RandomNumberGeneratorHolder"), (20, u "(JJ)J"), (50, u "negativeZeroFloatBits"), (0, u "J"), (2, u "negativeZeroDoubleBits"), (21, u "max"), (2, u "min"), (43, u "$assertionsDisabled"), (0, u "Z"), (91, u "twoToTheDoubleScaleDown"), (0, u "D"), (4, u "twoToTheDoubleScaleUp"), (9, u "E"), (3, u "PI"), (2, u "TAU"), (2, u "DEGREES_TO_RADIANS"), (0, u "RADIANS_TO_DEGREES")] 94

def k4m0 : Method := { name := "<init>", desc := "()V", sig := { parameters := [], returnType := none }, accessFlags := 2, code := none }
def k4c1 : Code := { maxStack := 4, maxLocals := 4, code := jdk_29_method_66_code, exceptionTable := #[], attributes := #[] }
def k4m1 : Method := { name := "max", desc := "(JJ)J", sig := { parameters := [.long, .long], returnType := some .long }, accessFlags := 9, code := some k4c1 }
def k4c2 : Code := { maxStack := 4, maxLocals := 4, code := jdk_29_method_70_code, exceptionTable := #[], attributes := #[] }
def k4m2 : Method := { name := "min", desc := "(JJ)J", sig := { parameters := [.long, .long], returnType := some .long }, accessFlags := 9, code := some k4c2 }
/-- java/lang/Math -/
def k4 : Class := { plain "java/lang/Math" (some 0) with
  accessFlags := 49
  interfaces := #[]
  cf := some (fileOf pool4 1 #[.nestMembers #[98]] #[{ accessFlags := 2, nameIndex := 7, descriptorIndex := 8, attributes := #[] }, { accessFlags := 9, nameIndex := 198, descriptorIndex := 121, attributes := #[] }, { accessFlags := 9, nameIndex := 201, descriptorIndex := 121, attributes := #[] }] 49 4 #[] #[{ accessFlags := 25, nameIndex := 354, descriptorIndex := 339, attributes := #[] }, { accessFlags := 25, nameIndex := 358, descriptorIndex := 339, attributes := #[] }, { accessFlags := 25, nameIndex := 361, descriptorIndex := 339, attributes := #[] }, { accessFlags := 26, nameIndex := 364, descriptorIndex := 339, attributes := #[] }, { accessFlags := 26, nameIndex := 365, descriptorIndex := 339, attributes := #[] }, { accessFlags := 26, nameIndex := 172, descriptorIndex := 173, attributes := #[] }, { accessFlags := 26, nameIndex := 176, descriptorIndex := 173, attributes := #[] }, { accessFlags := 8, nameIndex := 344, descriptorIndex := 339, attributes := #[] }, { accessFlags := 8, nameIndex := 338, descriptorIndex := 339, attributes := #[] }, { accessFlags := 4120, nameIndex := 245, descriptorIndex := 246, attributes := #[] }])
  fields := #[{ name := "E", type := .double, accessFlags := 25, slot := 0, constantValue := 0 }, { name := "PI", type := .double, accessFlags := 25, slot := 1, constantValue := 0 }, { name := "TAU", type := .double, accessFlags := 25, slot := 2, constantValue := 0 }, { name := "DEGREES_TO_RADIANS", type := .double, accessFlags := 26, slot := 3, constantValue := 0 }, { name := "RADIANS_TO_DEGREES", type := .double, accessFlags := 26, slot := 4, constantValue := 0 }, { name := "negativeZeroFloatBits", type := .long, accessFlags := 26, slot := 5, constantValue := 0 }, { name := "negativeZeroDoubleBits", type := .long, accessFlags := 26, slot := 6, constantValue := 0 }, { name := "twoToTheDoubleScaleUp", type := .double, accessFlags := 8, slot := 7, constantValue := 0 }, { name := "twoToTheDoubleScaleDown", type := .double, accessFlags := 8, slot := 8, constantValue := 0 }, { name := "$assertionsDisabled", type := .boolean, accessFlags := 4120, slot := 9, constantValue := 0 }]
  methods := #[k4m0, k4m1, k4m2]
  instanceTypes := #[]
  staticTypes := #[.double, .double, .double, .double, .double, .long, .long, .double, .double, .boolean]
  resolved := Array.replicate 460 none
  statics := none }

def pool5 : Array CpInfo := pool [(1, u "java/lang/Cloneable"), (0, .class_ 1), (0, u "java/lang/Object"), (0, .class_ 3)] 3

/-- java/lang/Cloneable -/
def k5 : Class := { plain "java/lang/Cloneable" (some 0) with
  accessFlags := 1537
  interfaces := #[]
  cf := some (fileOf pool5 2 #[] #[] 1537 4 #[] #[])
  fields := #[]
  methods := #[]
  instanceTypes := #[]
  staticTypes := #[]
  resolved := Array.replicate 8 none
  statics := none }

def pool6 : Array CpInfo := pool [(1, u "java/io/Serializable"), (0, .class_ 1), (0, u "java/lang/Object"), (0, .class_ 3)] 3

/-- java/io/Serializable -/
def k6 : Class := { plain "java/io/Serializable" (some 0) with
  accessFlags := 1537
  interfaces := #[]
  cf := some (fileOf pool6 2 #[] #[] 1537 4 #[] #[])
  fields := #[]
  methods := #[]
  instanceTypes := #[]
  staticTypes := #[]
  resolved := Array.replicate 8 none
  statics := none }

/-- the primitive byte -/
def k7 : Class := { plain "byte" none with kind := .primitive 'B', accessFlags := 0x411 }
/-- [B -/
def k8 : Class := { plain "[B" (some 0) with kind := .array 7 .byte, interfaces := #[5, 6], accessFlags := 1041 }

/-- the primitive int -/
def k9 : Class := { plain "int" none with kind := .primitive 'I', accessFlags := 0x411 }
/-- [I -/
def k10 : Class := { plain "[I" (some 0) with kind := .array 9 .int, interfaces := #[5, 6], accessFlags := 1041 }

def heap : Heap := #[]
def classes : Array Class := #[k0, k1, k2, k3, k4, k5, k6, k7, k8, k9, k10]
def interned : List (Array UInt16 × Addr) := []
def slotsUsed : Nat := 0
def theMethod : MethodId := ⟨1, 1⟩
def args0 : Array Value := #[.long 5, .long 5, .long 5, .long 5]
def aboutOver (below : List Frame) : State where
  vm := { classes := classes, interned := interned.toArray }
  heap := heap
  slotsUsed := slotsUsed
  threads := #[{ frames := .invoking theMethod args0 :: below }]
def below0 : List Frame := [.native { method := ⟨0, 0⟩, args := #[] }]
def about1 : State := aboutOver below0
def p0 : Program := .bare "" "" ""
def e0 : Env := launch0.env 0 0 0
theorem w_frames : about1.frames = Frame.invoking theMethod args0 :: below0 := rfl
set_option maxRecDepth 65536 in
theorem w_args : argsFit about1.vm theMethod args0 = true := by decide +kernel
set_option maxRecDepth 65536 in
theorem w_heap : heapFits about1 = true := by decide +kernel
set_option maxRecDepth 65536 in
theorem w_runnable : about1.curStatus? = some .runnable := by decide +kernel
set_option maxRecDepth 65536 in
theorem w_alone : about1.alone = true := by decide +kernel
set_option maxRecDepth 65536 in
theorem w_named : about1.methodNamed? x = some theMethod := by decide +kernel
set_option maxRecDepth 65536 in
theorem w_hears : about1.hears theMethod below0 = true := by decide +kernel
set_option maxRecDepth 65536 in
theorem w_ripe : about1.ripe theMethod args0 below0 = true := by decide +kernel
theorem w_running : about1.status = .running := rfl
set_option maxRecDepth 65536 in
theorem w_room : about1.hasRoom e0.platform room_1 = true :=
  launch0.hasRoom_least _ room_1 (by decide +kernel) (by decide +kernel) (by decide +kernel) (by decide +kernel) (by decide +kernel) (by decide +kernel)
theorem allAtoms_all (ts : List Jvm.Cond) (a : Array Jvm.Value) (st : Jvm.State) : (allAtoms ts).before a st = ts.all (fun c => c.before a st) := by
  induction ts with
  | nil => rfl
  | cons c t ih =>
    show (Jvm.Cond.and c (allAtoms t)).before a st = _
    rw [Jvm.Cond.before_and, ih, List.all_cons]
def words1 : List Jvm.Cond := Jvm.Cond.code x code maxLocals ret :: tables_1
/-- a 'code' word, met by the world's own term for the bytes: nothing is compared byte by byte -/
theorem code_word {y : MethodName} {bytes : ByteArray} {mx : Nat} {rt : Option FieldType} {a : Array Value} {s : State} {m : MethodId} {meth : Method} {c : Code} (h1 : s.methodNamed? y = some m) (h2 : s.vm.method? m = some meth) (h3 : meth.code = some c) (h4 : c.code = bytes)
    (h5 : (c.maxLocals == mx && c.exceptionTable.isEmpty && decide (c.maxStack ≤ mostOperands) && decide (meth.sig.returnType = rt) && !meth.locks && decide (parseMethodDescriptor y.desc = some meth.sig)) = true) : (Jvm.Cond.code y bytes mx rt).before a s = true := by
  simp only [Bool.and_eq_true, beq_iff_eq, Bool.not_eq_true', decide_eq_true_eq] at h5
  obtain ⟨⟨⟨⟨⟨g1, g2⟩, g3⟩, g4⟩, g5⟩, g6⟩ := h5
  simp [Cond.before, Cond.holds, Cond.value, h1, h2, h3, h4, g1, g2, g3, g4, g5, g6]
def isCode : Jvm.Cond → Bool
  | .code _ _ _ _ => true
  | _ => false
theorem all_split {L : List Jvm.Cond} {P : Jvm.Cond → Bool} (h1 : L.all (fun c => isCode c || P c) = true) (h2 : ∀ c ∈ L.filter isCode, P c = true) : L.all P = true := by
  refine List.all_eq_true.mpr fun c hc => ?_
  have h := List.all_eq_true.mp h1 c hc
  rcases Bool.eq_false_or_eq_true (isCode c) with hi | hi
  · exact h2 c (List.mem_filter.mpr ⟨hc, hi⟩)
  · simpa [hi] using h
set_option maxRecDepth 65536 in
theorem w_c0 : (Jvm.Cond.code x code maxLocals ret).before args0 about1 = true := code_word (m := ⟨1, 1⟩) (meth := k1m1) (c := k1c1) (by decide +kernel) rfl rfl rfl (by decide +kernel)
set_option maxRecDepth 65536 in
theorem w_c1 : (Jvm.Cond.code ({ cls := "com/example/crowded_platform/crowdedplatform/geometry/Box", name := "<init>", desc := "(DDDD)V" } : Jvm.MethodName) prog_1_method_1_code (9 : Nat) (Option.none : Option Jvm.ClassFile.FieldType)).before args0 about1 = true := code_word (m := ⟨3, 0⟩) (meth := k3m0) (c := k3c0) (by decide +kernel) rfl rfl rfl (by decide +kernel)
set_option maxRecDepth 65536 in
theorem w_c2 : (Jvm.Cond.code ({ cls := "java/lang/Record", name := "<init>", desc := "()V" } : Jvm.MethodName) jdk_30_method_1_code (1 : Nat) (Option.none : Option Jvm.ClassFile.FieldType)).before args0 about1 = true := code_word (m := ⟨2, 0⟩) (meth := k2m0) (c := k2c0) (by decide +kernel) rfl rfl rfl (by decide +kernel)
set_option maxRecDepth 65536 in
theorem w_c3 : (Jvm.Cond.code ({ cls := "java/lang/Object", name := "<init>", desc := "()V" } : Jvm.MethodName) object_method_1_code (1 : Nat) (Option.none : Option Jvm.ClassFile.FieldType)).before args0 about1 = true := code_word (m := ⟨0, 0⟩) (meth := k0m0) (c := k0c0) (by decide +kernel) rfl rfl rfl (by decide +kernel)
set_option maxRecDepth 65536 in
theorem w_c4 : (Jvm.Cond.code ({ cls := "java/lang/Math", name := "max", desc := "(JJ)J" } : Jvm.MethodName) jdk_29_method_66_code (4 : Nat) (Option.some Jvm.ClassFile.FieldType.long)).before args0 about1 = true := code_word (m := ⟨4, 1⟩) (meth := k4m1) (c := k4c1) (by decide +kernel) rfl rfl rfl (by decide +kernel)
set_option maxRecDepth 65536 in
theorem w_c5 : (Jvm.Cond.code ({ cls := "java/lang/Math", name := "min", desc := "(JJ)J" } : Jvm.MethodName) jdk_29_method_70_code (4 : Nat) (Option.some Jvm.ClassFile.FieldType.long)).before args0 about1 = true := code_word (m := ⟨4, 2⟩) (meth := k4m2) (c := k4c2) (by decide +kernel) rfl rfl rfl (by decide +kernel)
set_option maxRecDepth 65536 in
theorem w_c6 : (Jvm.Cond.code ({ cls := "com/example/crowded_platform/crowdedplatform/geometry/Box", name := "meets", desc := "(Lcom/example/crowded_platform/crowdedplatform/geometry/Box;)Z" } : Jvm.MethodName) prog_1_method_5_code (2 : Nat) (Option.some Jvm.ClassFile.FieldType.boolean)).before args0 about1 = true := code_word (m := ⟨3, 1⟩) (meth := k3m1) (c := k3c1) (by decide +kernel) rfl rfl rfl (by decide +kernel)
def codes1 : List Jvm.Cond := [Jvm.Cond.code x code maxLocals ret, Jvm.Cond.code ({ cls := "com/example/crowded_platform/crowdedplatform/geometry/Box", name := "<init>", desc := "(DDDD)V" } : Jvm.MethodName) prog_1_method_1_code (9 : Nat) (Option.none : Option Jvm.ClassFile.FieldType), Jvm.Cond.code ({ cls := "java/lang/Record", name := "<init>", desc := "()V" } : Jvm.MethodName) jdk_30_method_1_code (1 : Nat) (Option.none : Option Jvm.ClassFile.FieldType), Jvm.Cond.code ({ cls := "java/lang/Object", name := "<init>", desc := "()V" } : Jvm.MethodName) object_method_1_code (1 : Nat) (Option.none : Option Jvm.ClassFile.FieldType), Jvm.Cond.code ({ cls := "java/lang/Math", name := "max", desc := "(JJ)J" } : Jvm.MethodName) jdk_29_method_66_code (4 : Nat) (Option.some Jvm.ClassFile.FieldType.long), Jvm.Cond.code ({ cls := "java/lang/Math", name := "min", desc := "(JJ)J" } : Jvm.MethodName) jdk_29_method_70_code (4 : Nat) (Option.some Jvm.ClassFile.FieldType.long), Jvm.Cond.code ({ cls := "com/example/crowded_platform/crowdedplatform/geometry/Box", name := "meets", desc := "(Lcom/example/crowded_platform/crowdedplatform/geometry/Box;)Z" } : Jvm.MethodName) prog_1_method_5_code (2 : Nat) (Option.some Jvm.ClassFile.FieldType.boolean)]
set_option maxRecDepth 65536 in
theorem codes_eq : words1.filter isCode = codes1 := rfl
theorem w_codes : ∀ c ∈ words1.filter isCode, c.before args0 about1 = true := by
  rw [codes_eq]
  intro c hc
  simp only [codes1, List.mem_cons, List.not_mem_nil, or_false] at hc
  rcases hc with rfl | rfl | rfl | rfl | rfl | rfl | rfl
  · exact w_c0
  · exact w_c1
  · exact w_c2
  · exact w_c3
  · exact w_c4
  · exact w_c5
  · exact w_c6
set_option maxRecDepth 65536 in
theorem w_t1 : (words1.take 24).all (fun c => isCode c || c.before args0 about1) = true := by decide +kernel
set_option maxRecDepth 65536 in
theorem w_t2 : (words1.drop 24).all (fun c => isCode c || c.before args0 about1) = true := by decide +kernel
theorem w_tables : (allAtoms (Jvm.Cond.code x code maxLocals ret :: tables_1)).before args0 about1 = true := by
  rw [allAtoms_all]
  show words1.all (fun c => c.before args0 about1) = true
  refine all_split ?_ w_codes
  rw [← List.take_append_drop 24 words1, List.all_append, w_t1, w_t2]
  rfl
set_option maxRecDepth 65536 in
theorem w_case : (Jvm.Cond.and given_1 narrow_1).before args0 about1 = true := by decide +kernel
theorem w_applies : (headSpec (Jvm.Cond.code x code maxLocals ret :: tables_1) room_1).applies x e0.platform about1 = true :=
  (Spec.applies_iff w_frames).mpr ⟨w_running, w_runnable, w_alone, w_named, w_hears, w_ripe, w_room, w_tables⟩
theorem atStart : AtStart classFile x code maxLocals ret World_1 tables_1 room_1 Calls_1 rest_1 Pre_1 launch0 p0 e0 about1 theMethod args0 below0 :=
  ⟨lists_1, trivial, launch0.admits_env _ _ _, launch0.least_env, fairChoices_fair.cas, fairChoices_fair.clock, w_frames, w_args, w_heap, w_applies, trivial, trivial, w_case⟩
end start1
theorem witness_1 : WitnessClaimed_1 := ⟨start1.p0, start1.e0, start1.about1, start1.theMethod, start1.args0, start1.below0, start1.atStart⟩
end Jvm.Pilot.@@N@@
