import JvmDerived
import JvmDerived.Pilot.@@N@@Statement
import JvmDerived.Pilot.@@N@@Code
set_option linter.unusedVariables false
set_option linter.unusedSimpArgs false
set_option maxHeartbeats 4000000
namespace Jvm.OwnK
open Sem ClassFile Op Lib Jvm.Free Jvm.Stand Jvm.LawKit Jvm.RoadKit
theorem iadd {tb : Tables} [Ours tb] {e : Env} {below : List Frame} {T target : State} {m : MethodId} {c : Code} {g : JFrame} (h : At T m c below) (hx : tb.exec = Jvm.exec) (hg : g.method = m) {x v : Int32} {y : Int32} {rest : List Value} (hd : decode c.code g.pc = .ok (.iadd, 1)) (hs : g.stack = .int y :: .int x :: rest) (hv : x + y = v)
    (hr : Steps tb e below (T.setTop { g with pc := g.pc + 1, stack := .int v :: rest }) target) : Steps tb e below (T.setTop g) target := by
  subst hv
  exact XS.iadd h hx hg hd hs hr
theorem isub {tb : Tables} [Ours tb] {e : Env} {below : List Frame} {T target : State} {m : MethodId} {c : Code} {g : JFrame} (h : At T m c below) (hx : tb.exec = Jvm.exec) (hg : g.method = m) {x v : Int32} {y : Int32} {rest : List Value} (hd : decode c.code g.pc = .ok (.isub, 1)) (hs : g.stack = .int y :: .int x :: rest) (hv : x - y = v)
    (hr : Steps tb e below (T.setTop { g with pc := g.pc + 1, stack := .int v :: rest }) target) : Steps tb e below (T.setTop g) target := by
  subst hv
  exact XS.isub h hx hg hd hs hr
theorem imul {tb : Tables} [Ours tb] {e : Env} {below : List Frame} {T target : State} {m : MethodId} {c : Code} {g : JFrame} (h : At T m c below) (hx : tb.exec = Jvm.exec) (hg : g.method = m) {x v : Int32} {y : Int32} {rest : List Value} (hd : decode c.code g.pc = .ok (.imul, 1)) (hs : g.stack = .int y :: .int x :: rest) (hv : x * y = v)
    (hr : Steps tb e below (T.setTop { g with pc := g.pc + 1, stack := .int v :: rest }) target) : Steps tb e below (T.setTop g) target := by
  subst hv
  exact XS.imul h hx hg hd hs hr
theorem iand {tb : Tables} [Ours tb] {e : Env} {below : List Frame} {T target : State} {m : MethodId} {c : Code} {g : JFrame} (h : At T m c below) (hx : tb.exec = Jvm.exec) (hg : g.method = m) {x v : Int32} {y : Int32} {rest : List Value} (hd : decode c.code g.pc = .ok (.iand, 1)) (hs : g.stack = .int y :: .int x :: rest) (hv : x &&& y = v)
    (hr : Steps tb e below (T.setTop { g with pc := g.pc + 1, stack := .int v :: rest }) target) : Steps tb e below (T.setTop g) target := by
  subst hv
  exact XS.iand h hx hg hd hs hr
theorem ior {tb : Tables} [Ours tb] {e : Env} {below : List Frame} {T target : State} {m : MethodId} {c : Code} {g : JFrame} (h : At T m c below) (hx : tb.exec = Jvm.exec) (hg : g.method = m) {x v : Int32} {y : Int32} {rest : List Value} (hd : decode c.code g.pc = .ok (.ior, 1)) (hs : g.stack = .int y :: .int x :: rest) (hv : x ||| y = v)
    (hr : Steps tb e below (T.setTop { g with pc := g.pc + 1, stack := .int v :: rest }) target) : Steps tb e below (T.setTop g) target := by
  subst hv
  exact XS.ior h hx hg hd hs hr
theorem ixor {tb : Tables} [Ours tb] {e : Env} {below : List Frame} {T target : State} {m : MethodId} {c : Code} {g : JFrame} (h : At T m c below) (hx : tb.exec = Jvm.exec) (hg : g.method = m) {x v : Int32} {y : Int32} {rest : List Value} (hd : decode c.code g.pc = .ok (.ixor, 1)) (hs : g.stack = .int y :: .int x :: rest) (hv : x ^^^ y = v)
    (hr : Steps tb e below (T.setTop { g with pc := g.pc + 1, stack := .int v :: rest }) target) : Steps tb e below (T.setTop g) target := by
  subst hv
  exact XS.ixor h hx hg hd hs hr
theorem ishl {tb : Tables} [Ours tb] {e : Env} {below : List Frame} {T target : State} {m : MethodId} {c : Code} {g : JFrame} (h : At T m c below) (hx : tb.exec = Jvm.exec) (hg : g.method = m) {x v : Int32} {y : Int32} {rest : List Value} (hd : decode c.code g.pc = .ok (.ishl, 1)) (hs : g.stack = .int y :: .int x :: rest) (hv : x <<< (y &&& 31) = v)
    (hr : Steps tb e below (T.setTop { g with pc := g.pc + 1, stack := .int v :: rest }) target) : Steps tb e below (T.setTop g) target := by
  subst hv
  exact XS.ishl h hx hg hd hs hr
theorem ishr {tb : Tables} [Ours tb] {e : Env} {below : List Frame} {T target : State} {m : MethodId} {c : Code} {g : JFrame} (h : At T m c below) (hx : tb.exec = Jvm.exec) (hg : g.method = m) {x v : Int32} {y : Int32} {rest : List Value} (hd : decode c.code g.pc = .ok (.ishr, 1)) (hs : g.stack = .int y :: .int x :: rest) (hv : x >>> (y &&& 31) = v)
    (hr : Steps tb e below (T.setTop { g with pc := g.pc + 1, stack := .int v :: rest }) target) : Steps tb e below (T.setTop g) target := by
  subst hv
  exact XS.ishr h hx hg hd hs hr
theorem iushr {tb : Tables} [Ours tb] {e : Env} {below : List Frame} {T target : State} {m : MethodId} {c : Code} {g : JFrame} (h : At T m c below) (hx : tb.exec = Jvm.exec) (hg : g.method = m) {x v : Int32} {y : Int32} {rest : List Value} (hd : decode c.code g.pc = .ok (.iushr, 1)) (hs : g.stack = .int y :: .int x :: rest) (hv : (x.toUInt32 >>> (y &&& 31).toUInt32).toInt32 = v)
    (hr : Steps tb e below (T.setTop { g with pc := g.pc + 1, stack := .int v :: rest }) target) : Steps tb e below (T.setTop g) target := by
  subst hv
  exact XS.iushr h hx hg hd hs hr
theorem idiv {tb : Tables} [Ours tb] {e : Env} {below : List Frame} {T target : State} {m : MethodId} {c : Code} {g : JFrame} (h : At T m c below) (hx : tb.exec = Jvm.exec) (hg : g.method = m) {x v : Int32} {y : Int32} {rest : List Value} (hd : decode c.code g.pc = .ok (.idiv, 1)) (hs : g.stack = .int y :: .int x :: rest) (hy : ¬ y = 0) (hv : x / y = v)
    (hr : Steps tb e below (T.setTop { g with pc := g.pc + 1, stack := .int v :: rest }) target) : Steps tb e below (T.setTop g) target := by
  subst hv
  exact XS.idiv h hx hg hd hs hy hr
theorem irem {tb : Tables} [Ours tb] {e : Env} {below : List Frame} {T target : State} {m : MethodId} {c : Code} {g : JFrame} (h : At T m c below) (hx : tb.exec = Jvm.exec) (hg : g.method = m) {x v : Int32} {y : Int32} {rest : List Value} (hd : decode c.code g.pc = .ok (.irem, 1)) (hs : g.stack = .int y :: .int x :: rest) (hy : ¬ y = 0) (hv : x % y = v)
    (hr : Steps tb e below (T.setTop { g with pc := g.pc + 1, stack := .int v :: rest }) target) : Steps tb e below (T.setTop g) target := by
  subst hv
  have q : x - x / y * y = x % y := irem_eq_mod x y
  exact XS.irem h hx hg hd hs hy (by rw [q]; exact hr)
theorem ladd {tb : Tables} [Ours tb] {e : Env} {below : List Frame} {T target : State} {m : MethodId} {c : Code} {g : JFrame} (h : At T m c below) (hx : tb.exec = Jvm.exec) (hg : g.method = m) {x v : Int64} {y : Int64} {rest : List Value} (hd : decode c.code g.pc = .ok (.ladd, 1)) (hs : g.stack = .long y :: .long x :: rest) (hv : x + y = v)
    (hr : Steps tb e below (T.setTop { g with pc := g.pc + 1, stack := .long v :: rest }) target) : Steps tb e below (T.setTop g) target := by
  subst hv
  exact XS.ladd h hx hg hd hs hr
theorem lsub {tb : Tables} [Ours tb] {e : Env} {below : List Frame} {T target : State} {m : MethodId} {c : Code} {g : JFrame} (h : At T m c below) (hx : tb.exec = Jvm.exec) (hg : g.method = m) {x v : Int64} {y : Int64} {rest : List Value} (hd : decode c.code g.pc = .ok (.lsub, 1)) (hs : g.stack = .long y :: .long x :: rest) (hv : x - y = v)
    (hr : Steps tb e below (T.setTop { g with pc := g.pc + 1, stack := .long v :: rest }) target) : Steps tb e below (T.setTop g) target := by
  subst hv
  exact XS.lsub h hx hg hd hs hr
theorem lmul {tb : Tables} [Ours tb] {e : Env} {below : List Frame} {T target : State} {m : MethodId} {c : Code} {g : JFrame} (h : At T m c below) (hx : tb.exec = Jvm.exec) (hg : g.method = m) {x v : Int64} {y : Int64} {rest : List Value} (hd : decode c.code g.pc = .ok (.lmul, 1)) (hs : g.stack = .long y :: .long x :: rest) (hv : x * y = v)
    (hr : Steps tb e below (T.setTop { g with pc := g.pc + 1, stack := .long v :: rest }) target) : Steps tb e below (T.setTop g) target := by
  subst hv
  exact XS.lmul h hx hg hd hs hr
theorem land {tb : Tables} [Ours tb] {e : Env} {below : List Frame} {T target : State} {m : MethodId} {c : Code} {g : JFrame} (h : At T m c below) (hx : tb.exec = Jvm.exec) (hg : g.method = m) {x v : Int64} {y : Int64} {rest : List Value} (hd : decode c.code g.pc = .ok (.land, 1)) (hs : g.stack = .long y :: .long x :: rest) (hv : x &&& y = v)
    (hr : Steps tb e below (T.setTop { g with pc := g.pc + 1, stack := .long v :: rest }) target) : Steps tb e below (T.setTop g) target := by
  subst hv
  exact XS.land h hx hg hd hs hr
theorem lor {tb : Tables} [Ours tb] {e : Env} {below : List Frame} {T target : State} {m : MethodId} {c : Code} {g : JFrame} (h : At T m c below) (hx : tb.exec = Jvm.exec) (hg : g.method = m) {x v : Int64} {y : Int64} {rest : List Value} (hd : decode c.code g.pc = .ok (.lor, 1)) (hs : g.stack = .long y :: .long x :: rest) (hv : x ||| y = v)
    (hr : Steps tb e below (T.setTop { g with pc := g.pc + 1, stack := .long v :: rest }) target) : Steps tb e below (T.setTop g) target := by
  subst hv
  exact XS.lor h hx hg hd hs hr
theorem lxor {tb : Tables} [Ours tb] {e : Env} {below : List Frame} {T target : State} {m : MethodId} {c : Code} {g : JFrame} (h : At T m c below) (hx : tb.exec = Jvm.exec) (hg : g.method = m) {x v : Int64} {y : Int64} {rest : List Value} (hd : decode c.code g.pc = .ok (.lxor, 1)) (hs : g.stack = .long y :: .long x :: rest) (hv : x ^^^ y = v)
    (hr : Steps tb e below (T.setTop { g with pc := g.pc + 1, stack := .long v :: rest }) target) : Steps tb e below (T.setTop g) target := by
  subst hv
  exact XS.lxor h hx hg hd hs hr
theorem lshl {tb : Tables} [Ours tb] {e : Env} {below : List Frame} {T target : State} {m : MethodId} {c : Code} {g : JFrame} (h : At T m c below) (hx : tb.exec = Jvm.exec) (hg : g.method = m) {x v : Int64} {y : Int32} {rest : List Value} (hd : decode c.code g.pc = .ok (.lshl, 1)) (hs : g.stack = .int y :: .long x :: rest) (hv : x <<< (y &&& 0x3f).toInt64 = v)
    (hr : Steps tb e below (T.setTop { g with pc := g.pc + 1, stack := .long v :: rest }) target) : Steps tb e below (T.setTop g) target := by
  subst hv
  exact XS.lshl h hx hg hd hs hr
theorem lshr {tb : Tables} [Ours tb] {e : Env} {below : List Frame} {T target : State} {m : MethodId} {c : Code} {g : JFrame} (h : At T m c below) (hx : tb.exec = Jvm.exec) (hg : g.method = m) {x v : Int64} {y : Int32} {rest : List Value} (hd : decode c.code g.pc = .ok (.lshr, 1)) (hs : g.stack = .int y :: .long x :: rest) (hv : x >>> (y &&& 0x3f).toInt64 = v)
    (hr : Steps tb e below (T.setTop { g with pc := g.pc + 1, stack := .long v :: rest }) target) : Steps tb e below (T.setTop g) target := by
  subst hv
  exact XS.lshr h hx hg hd hs hr
theorem lushr {tb : Tables} [Ours tb] {e : Env} {below : List Frame} {T target : State} {m : MethodId} {c : Code} {g : JFrame} (h : At T m c below) (hx : tb.exec = Jvm.exec) (hg : g.method = m) {x v : Int64} {y : Int32} {rest : List Value} (hd : decode c.code g.pc = .ok (.lushr, 1)) (hs : g.stack = .int y :: .long x :: rest) (hv : (x.toUInt64 >>> (y &&& 0x3f).toInt64.toUInt64).toInt64 = v)
    (hr : Steps tb e below (T.setTop { g with pc := g.pc + 1, stack := .long v :: rest }) target) : Steps tb e below (T.setTop g) target := by
  subst hv
  exact XS.lushr h hx hg hd hs hr
theorem ldiv {tb : Tables} [Ours tb] {e : Env} {below : List Frame} {T target : State} {m : MethodId} {c : Code} {g : JFrame} (h : At T m c below) (hx : tb.exec = Jvm.exec) (hg : g.method = m) {x v : Int64} {y : Int64} {rest : List Value} (hd : decode c.code g.pc = .ok (.ldiv, 1)) (hs : g.stack = .long y :: .long x :: rest) (hy : ¬ y = 0) (hv : x / y = v)
    (hr : Steps tb e below (T.setTop { g with pc := g.pc + 1, stack := .long v :: rest }) target) : Steps tb e below (T.setTop g) target := by
  subst hv
  exact XS.ldiv h hx hg hd hs hy hr
theorem lrem {tb : Tables} [Ours tb] {e : Env} {below : List Frame} {T target : State} {m : MethodId} {c : Code} {g : JFrame} (h : At T m c below) (hx : tb.exec = Jvm.exec) (hg : g.method = m) {x v : Int64} {y : Int64} {rest : List Value} (hd : decode c.code g.pc = .ok (.lrem, 1)) (hs : g.stack = .long y :: .long x :: rest) (hy : ¬ y = 0) (hv : x % y = v)
    (hr : Steps tb e below (T.setTop { g with pc := g.pc + 1, stack := .long v :: rest }) target) : Steps tb e below (T.setTop g) target := by
  subst hv
  have q : x - x / y * y = x % y := lrem_mod x y
  exact XS.lrem h hx hg hd hs hy (by rw [q]; exact hr)
theorem ineg {tb : Tables} [Ours tb] {e : Env} {below : List Frame} {T target : State} {m : MethodId} {c : Code} {g : JFrame} (h : At T m c below) (hx : tb.exec = Jvm.exec) (hg : g.method = m) {x : Int32} {v : Int32} {rest : List Value} (hd : decode c.code g.pc = .ok (.ineg, 1)) (hs : g.stack = .int x :: rest) (hv : -x = v)
    (hr : Steps tb e below (T.setTop { g with pc := g.pc + 1, stack := .int v :: rest }) target) : Steps tb e below (T.setTop g) target := by
  subst hv
  exact XS.ineg h hx hg hd hs hr
theorem lneg {tb : Tables} [Ours tb] {e : Env} {below : List Frame} {T target : State} {m : MethodId} {c : Code} {g : JFrame} (h : At T m c below) (hx : tb.exec = Jvm.exec) (hg : g.method = m) {x : Int64} {v : Int64} {rest : List Value} (hd : decode c.code g.pc = .ok (.lneg, 1)) (hs : g.stack = .long x :: rest) (hv : -x = v)
    (hr : Steps tb e below (T.setTop { g with pc := g.pc + 1, stack := .long v :: rest }) target) : Steps tb e below (T.setTop g) target := by
  subst hv
  exact XS.lneg h hx hg hd hs hr
theorem i2l {tb : Tables} [Ours tb] {e : Env} {below : List Frame} {T target : State} {m : MethodId} {c : Code} {g : JFrame} (h : At T m c below) (hx : tb.exec = Jvm.exec) (hg : g.method = m) {x : Int32} {v : Int64} {rest : List Value} (hd : decode c.code g.pc = .ok (.i2l, 1)) (hs : g.stack = .int x :: rest) (hv : x.toInt64 = v)
    (hr : Steps tb e below (T.setTop { g with pc := g.pc + 1, stack := .long v :: rest }) target) : Steps tb e below (T.setTop g) target := by
  subst hv
  exact XS.i2l h hx hg hd hs hr
theorem l2i {tb : Tables} [Ours tb] {e : Env} {below : List Frame} {T target : State} {m : MethodId} {c : Code} {g : JFrame} (h : At T m c below) (hx : tb.exec = Jvm.exec) (hg : g.method = m) {x : Int64} {v : Int32} {rest : List Value} (hd : decode c.code g.pc = .ok (.l2i, 1)) (hs : g.stack = .long x :: rest) (hv : x.toInt32 = v)
    (hr : Steps tb e below (T.setTop { g with pc := g.pc + 1, stack := .int v :: rest }) target) : Steps tb e below (T.setTop g) target := by
  subst hv
  exact XS.l2i h hx hg hd hs hr
theorem i2b {tb : Tables} [Ours tb] {e : Env} {below : List Frame} {T target : State} {m : MethodId} {c : Code} {g : JFrame} (h : At T m c below) (hx : tb.exec = Jvm.exec) (hg : g.method = m) {x : Int32} {v : Int32} {rest : List Value} (hd : decode c.code g.pc = .ok (.i2b, 1)) (hs : g.stack = .int x :: rest) (hv : x.toInt8.toInt32 = v)
    (hr : Steps tb e below (T.setTop { g with pc := g.pc + 1, stack := .int v :: rest }) target) : Steps tb e below (T.setTop g) target := by
  subst hv
  exact XS.i2b h hx hg hd hs hr
theorem i2s {tb : Tables} [Ours tb] {e : Env} {below : List Frame} {T target : State} {m : MethodId} {c : Code} {g : JFrame} (h : At T m c below) (hx : tb.exec = Jvm.exec) (hg : g.method = m) {x : Int32} {v : Int32} {rest : List Value} (hd : decode c.code g.pc = .ok (.i2s, 1)) (hs : g.stack = .int x :: rest) (hv : x.toInt16.toInt32 = v)
    (hr : Steps tb e below (T.setTop { g with pc := g.pc + 1, stack := .int v :: rest }) target) : Steps tb e below (T.setTop g) target := by
  subst hv
  exact XS.i2s h hx hg hd hs hr
theorem dadd {tb : Tables} [Ours tb] {e : Env} {below : List Frame} {T target : State} {m : MethodId} {c : Code} {g : JFrame} (h : At T m c below) (hx : tb.exec = Jvm.exec) (hg : g.method = m) {x y v : UInt64} {rest : List Value} (hd : decode c.code g.pc = .ok (.dadd, 1)) (hs : g.stack = .double y :: .double x :: rest) (hv : FP.dadd x y = v) (hn : Jvm.Free.Fl.NoNaN64 v)
    (hr : Steps tb e below (T.setTop { g with pc := g.pc + 1, stack := .double v :: rest }) target) : Steps tb e below (T.setTop g) target := by
  subst hv
  exact XS.daddS h hx hg hd hs hn rfl hr
theorem dsub {tb : Tables} [Ours tb] {e : Env} {below : List Frame} {T target : State} {m : MethodId} {c : Code} {g : JFrame} (h : At T m c below) (hx : tb.exec = Jvm.exec) (hg : g.method = m) {x y v : UInt64} {rest : List Value} (hd : decode c.code g.pc = .ok (.dsub, 1)) (hs : g.stack = .double y :: .double x :: rest) (hv : FP.dsub x y = v) (hn : Jvm.Free.Fl.NoNaN64 v)
    (hr : Steps tb e below (T.setTop { g with pc := g.pc + 1, stack := .double v :: rest }) target) : Steps tb e below (T.setTop g) target := by
  subst hv
  exact XS.dsubS h hx hg hd hs hn rfl hr
theorem dmul {tb : Tables} [Ours tb] {e : Env} {below : List Frame} {T target : State} {m : MethodId} {c : Code} {g : JFrame} (h : At T m c below) (hx : tb.exec = Jvm.exec) (hg : g.method = m) {x y v : UInt64} {rest : List Value} (hd : decode c.code g.pc = .ok (.dmul, 1)) (hs : g.stack = .double y :: .double x :: rest) (hv : FP.dmul x y = v) (hn : Jvm.Free.Fl.NoNaN64 v)
    (hr : Steps tb e below (T.setTop { g with pc := g.pc + 1, stack := .double v :: rest }) target) : Steps tb e below (T.setTop g) target := by
  subst hv
  exact XS.dmulS h hx hg hd hs hn rfl hr
theorem ddiv {tb : Tables} [Ours tb] {e : Env} {below : List Frame} {T target : State} {m : MethodId} {c : Code} {g : JFrame} (h : At T m c below) (hx : tb.exec = Jvm.exec) (hg : g.method = m) {x y v : UInt64} {rest : List Value} (hd : decode c.code g.pc = .ok (.ddiv, 1)) (hs : g.stack = .double y :: .double x :: rest) (hv : FP.ddiv x y = v) (hn : Jvm.Free.Fl.NoNaN64 v)
    (hr : Steps tb e below (T.setTop { g with pc := g.pc + 1, stack := .double v :: rest }) target) : Steps tb e below (T.setTop g) target := by
  subst hv
  exact XS.ddivS h hx hg hd hs hn rfl hr
theorem drem {tb : Tables} [Ours tb] {e : Env} {below : List Frame} {T target : State} {m : MethodId} {c : Code} {g : JFrame} (h : At T m c below) (hx : tb.exec = Jvm.exec) (hg : g.method = m) {x y v : UInt64} {rest : List Value} (hd : decode c.code g.pc = .ok (.drem, 1)) (hs : g.stack = .double y :: .double x :: rest) (hv : FP.drem x y = v) (hn : Jvm.Free.Fl.NoNaN64 v)
    (hr : Steps tb e below (T.setTop { g with pc := g.pc + 1, stack := .double v :: rest }) target) : Steps tb e below (T.setTop g) target := by
  subst hg
  subst hv
  obtain ⟨gm, gp, gl, gs, gk, ge, gr⟩ := g
  simp only at hs hd
  subst hs
  jvm_step h [h.top, hx, hd, Op.drem.at_number h.top hn]
  exact hr
theorem lcmp {tb : Tables} [Ours tb] {e : Env} {below : List Frame} {T target : State} {m : MethodId} {c : Code} {g : JFrame} (h : At T m c below) (hx : tb.exec = Jvm.exec) (hg : g.method = m) {x y : Int64} {v : Int32} {rest : List Value} (hd : decode c.code g.pc = .ok (.lcmp, 1)) (hs : g.stack = .long y :: .long x :: rest) (hv : lcmpW x y = v)
    (hr : Steps tb e below (T.setTop { g with pc := g.pc + 1, stack := .int v :: rest }) target) : Steps tb e below (T.setTop g) target := by
  subst hv
  exact XS.lcmp h hx hg hd hs hr
theorem iinc {tb : Tables} [Ours tb] {e : Env} {below : List Frame} {T target : State} {m : MethodId} {c : Code} {g : JFrame} (h : At T m c below) (hx : tb.exec = Jvm.exec) (hg : g.method = m) {k : Nat} {cst : Int} {x v : Int32} {l' : Array Slot} (hd : decode c.code g.pc = .ok (.iinc k cst, 3)) (hl : g.locals[k]? = some (.val (.int x))) (hv : x + Int32.ofInt cst = v) (hl' : storeLocals g.locals k (.int v) = some l')
    (hr : Steps tb e below (T.setTop { g with pc := g.pc + 3, locals := l' }) target) : Steps tb e below (T.setTop g) target := by
  subst hv
  exact XS.iinc h hx hg hd hl hl' hr
theorem dup2 {tb : Tables} [Ours tb] {e : Env} {below : List Frame} {T target : State} {m : MethodId} {c : Code} {g : JFrame} (h : At T m c below) (hx : tb.exec = Jvm.exec) (hg : g.method = m) {x y : Value} {rest : List Value} (hd : decode c.code g.pc = .ok (.dup2, 1)) (hs : g.stack = x :: y :: rest) (hc : x.category = 1) (hc' : y.category = 1)
    (hr : Steps tb e below (T.setTop { g with pc := g.pc + 1, stack := x :: y :: x :: y :: rest }) target) : Steps tb e below (T.setTop g) target := Jvm.Free.XT.dup2 h hx hg hd hs hc hc' hr
theorem dup2W {tb : Tables} [Ours tb] {e : Env} {below : List Frame} {T target : State} {m : MethodId} {c : Code} {g : JFrame} (h : At T m c below) (hx : tb.exec = Jvm.exec) (hg : g.method = m) {x : Value} {rest : List Value} (hd : decode c.code g.pc = .ok (.dup2, 1)) (hs : g.stack = x :: rest) (hc : x.category = 2)
    (hr : Steps tb e below (T.setTop { g with pc := g.pc + 1, stack := x :: x :: rest }) target) : Steps tb e below (T.setTop g) target := by
  subst hg
  jvm_step h [h.top, hx, hd, hs, hc]
  exact hr
theorem Sta_keep {Z : State} {h h' : Heap} {C n d : String} {w : Value} {ws : List Addr} (F : Sta Z h C n d w) (K : Keep h h' ws) (hn : ∀ x ∈ ws, ∀ cell : Cell, h[x]? = some cell → cell.vm.isStatics = false) : Sta Z h' C n d w := by
  obtain ⟨cf, i, k, f, st, cell, h1, h2, h3, h4, h5, h6, h7⟩ := F
  refine ⟨cf, i, k, f, st, cell, h1, h2, h3, h4, K.2.1 st cell h5 (fun q => ?_), h6, h7⟩
  rw [hn st q cell h5] at h6; cases h6
end Jvm.OwnK
namespace Jvm.OwnF
open Jvm.FP Jvm.FP.Core
/-! doubles as whole numbers of units of 2^-1074 -/
def V (a : UInt64) : Int := zval b64 (val64 a)
def BIG : Nat := 2 ^ 2000
/-- the rounding of n / d, in units -/
def rnd (n : Int) (d : Nat) : Int := zval b64 (roundRatio b64 (decide (n < 0)) n.natAbs d (-1074))
theorem zval_zero (s : Bool) (d : Nat) (e : Int) : zval b64 (roundRatio b64 s 0 d e) = 0 := by
  unfold roundRatio
  rw [if_pos rfl]
  show signed s (0 * 2 ^ (b64.qmin - b64.qmin).toNat) = 0
  rw [Nat.zero_mul, signed_zero]
theorem rnd_signed (s : Bool) (N d : Nat) : zval b64 (roundRatio b64 s N d (-1074)) = rnd (signed s N) d := by
  unfold rnd
  rw [natAbs_signed]
  by_cases h : N = 0
  · subst h; rw [zval_zero, zval_zero]
  · rw [signed_lt_zero s (by omega)]
theorem signed_natAbs (n : Int) : signed (decide (n < 0)) n.natAbs = n := by
  unfold signed
  by_cases h : n < 0 <;> simp [h] <;> omega
theorem bigV : Jvm.FP.Core.fits b64 (.fin false (2 ^ 52) 874) := by refine ⟨?_, ?_, ?_, ?_⟩ <;> decide
theorem bigZ : zmag b64 (.fin false (2 ^ 52) 874) = BIG := by
  show 2 ^ 52 * 2 ^ (874 - b64.qmin).toNat = 2 ^ 2000
  rw [qmin_b64, show (874 - (-1074) : Int).toNat = 1948 from rfl, ← Nat.pow_add]
theorem big_lt : BIG < b64.tails * 2 ^ (b64.exps - 2) := by
  rw [tails_b64, show b64.exps - 2 = 2046 by decide, ← Nat.pow_add]
  exact Nat.pow_lt_pow_right (by decide) (by decide)
theorem un0 (A : Nat) : inUnits A (-1074) (-1074) = A := by unfold inUnits; simp
theorem round_le_big {s : Bool} {A B : Nat} (hB : 0 < B) (h : A ≤ BIG * B) : zmag b64 (roundRatio b64 s A B (-1074)) ≤ BIG := by
  have := zmag_roundRatio_le good_b64 (s := s) (A := A) (B := B) (e := -1074) (e0 := -1074) hB bigV Datum.noConfusion (by rw [qmin_b64]; decide) (by decide) (by rw [bigZ, un0, qmin_b64]; simpa using h)
  rwa [bigZ] at this
theorem fin_round {s : Bool} {A B : Nat} (hB : 0 < B) (h : A ≤ BIG * B) : ∃ c q, roundRatio b64 s A B (-1074) = .fin s c q := by
  rcases roundRatio_cases b64 s A B (-1074) with h1 | h1
  · exact h1
  · exfalso
    have h2 := round_le_big (s := s) hB h
    rw [h1] at h2
    have h3 : zmag b64 (.inf s) = b64.tails * 2 ^ (b64.exps - 2) := rfl
    have := big_lt
    omega
theorem noNaN_fin {a : UInt64} (h : DFin a) : Jvm.Free.Fl.NoNaN64 a := by
  rw [Jvm.Free.Fl.val64_no]; obtain ⟨s, c, q, e⟩ := h; rw [e]; exact Datum.noConfusion
theorem V_dadd {a b : UInt64} (ha : DFin a) (hb : DFin b) (h : (V a + V b).natAbs ≤ BIG) : DFin (FP.dadd a b) ∧ V (FP.dadd a b) = rnd (V a + V b) 1 := by
  obtain ⟨s, c, q, ea⟩ := ha
  obtain ⟨t, d, r, eb⟩ := hb
  have fa : Jvm.FP.Core.fits b64 (.fin s c q) := ea ▸ val64_fits a
  have fb : Jvm.FP.Core.fits b64 (.fin t d r) := eb ▸ val64_fits b
  obtain ⟨sg, n, e, p1, p2, p3⟩ := sum_units fa fb
  rw [qmin_b64] at p2 p3
  have hv : val64 (FP.dadd a b) = roundRatio b64 sg (inUnits n e (-1074)) 1 (-1074) := by
    rw [show FP.dadd a b = Core.dadd a b from rfl, val64_dadd, ea, eb, p1]
    show roundRatio b64 sg n 1 e = _
    refine roundRatio_congr (by decide) (by decide) ?_
    rw [show (-1074 - e).toNat = 0 by omega]
    unfold inUnits; simp
  have hS : signed sg (inUnits n e (-1074)) = V a + V b := by unfold V; rw [ea, eb]; exact p3
  have hN : inUnits n e (-1074) = (V a + V b).natAbs := by rw [← hS, natAbs_signed]
  obtain ⟨c', q', hh⟩ := fin_round (s := sg) (A := inUnits n e (-1074)) (B := 1) (by decide) (by rw [Nat.mul_one, hN]; exact h)
  refine ⟨⟨sg, c', q', hv.trans hh⟩, ?_⟩
  show zval b64 (val64 (FP.dadd a b)) = _
  rw [hv, rnd_signed, hS]
theorem V_neg (a : UInt64) : V (Core.dneg a) = -V a := by unfold V; rw [Core.val64_dneg, zval_negate]
theorem fin_neg {a : UInt64} (h : DFin a) : DFin (Core.dneg a) := by
  obtain ⟨s, c, q, e⟩ := h
  exact ⟨!s, c, q, by rw [Core.val64_dneg, e]; rfl⟩
theorem V_dsub {a b : UInt64} (ha : DFin a) (hb : DFin b) (h : (V a - V b).natAbs ≤ BIG) : DFin (FP.dsub a b) ∧ V (FP.dsub a b) = rnd (V a - V b) 1 := by
  have e : FP.dsub a b = FP.dadd a (Core.dneg b) := dsub_eq a b
  rw [e]
  have := V_dadd ha (fin_neg hb) (by rw [V_neg]; exact h)
  rw [V_neg] at this
  exact this
theorem zmag_V (a : UInt64) : zmag b64 (val64 a) = (V a).natAbs := by unfold V zval; rw [natAbs_signed]
theorem V_dmul {a b : UInt64} (ha : DFin a) (hb : DFin b) (h : (V a * V b).natAbs ≤ BIG * one64) : DFin (FP.dmul a b) ∧ V (FP.dmul a b) = rnd (V a * V b) one64 := by
  have za := zmag_V a
  have zb := zmag_V b
  obtain ⟨s, c, q, ea⟩ := ha
  obtain ⟨t, d, r, eb⟩ := hb
  have fa : Jvm.FP.Core.fits b64 (.fin s c q) := ea ▸ val64_fits a
  have fb : Jvm.FP.Core.fits b64 (.fin t d r) := eb ▸ val64_fits b
  obtain ⟨p1, p2, p3⟩ := product_units fa fb
  rw [← ea, ← eb, za, zb, ← Int.natAbs_mul] at p3
  rw [qmin_b64] at p2 p3
  have hv : val64 (FP.dmul a b) = roundRatio b64 (s != t) (V a * V b).natAbs one64 (-1074) := by
    rw [show FP.dmul a b = Core.dmul a b from rfl, val64_dmul, ea, eb, p1]
    show roundRatio b64 (s != t) (c * d) 1 (q + r) = _
    refine roundRatio_congr (by decide) one64_pos ?_
    rw [← p3]
    unfold inUnits one64
    rw [Nat.mul_one, Nat.mul_assoc (c * d), Nat.mul_assoc (c * d), ← Nat.pow_add, ← Nat.pow_add]
    congr 2
    omega
  have hS : signed (s != t) (V a * V b).natAbs = V a * V b := by
    rw [Int.natAbs_mul, signed_xor, ← za, ← zb]
    unfold V zval
    rw [ea, eb]
    rfl
  obtain ⟨c', q', hh⟩ := fin_round (s := s != t) (A := (V a * V b).natAbs) (B := one64) one64_pos h
  refine ⟨⟨_, c', q', hv.trans hh⟩, ?_⟩
  show zval b64 (val64 (FP.dmul a b)) = _
  rw [hv, rnd_signed, hS]
theorem pw2 (c d x y : Nat) : c * (d * 2 ^ x) * 2 ^ y = c * d * 2 ^ (x + y) := by rw [Nat.pow_add]; ac_rfl
theorem pw3 (c d x y z : Nat) : c * 2 ^ x * 2 ^ y * d * 2 ^ z = c * d * 2 ^ (x + y + z) := by rw [Nat.pow_add, Nat.pow_add]; ac_rfl
theorem V_ddiv {a b : UInt64} (ha : DFin a) (hb : DFin b) (h0 : V b ≠ 0) (h : (V a).natAbs * one64 ≤ BIG * (V b).natAbs) : DFin (FP.ddiv a b) ∧ V (FP.ddiv a b) = rnd (V a * (one64 : Int) * (V b).sign) (V b).natAbs := by
  have za := zmag_V a
  have zb := zmag_V b
  have sb : (V b).sign = signed (sgn (val64 b)) 1 := by
    unfold V zval at h0 ⊢
    cases hsg : sgn (val64 b) <;> rw [hsg] at h0 <;> simp only [signed, if_true, Bool.false_eq_true, if_false] at h0 ⊢
    · exact Int.sign_eq_one_of_pos (by omega)
    · exact Int.sign_eq_neg_one_of_neg (by omega)
  obtain ⟨s, c, q, ea⟩ := ha
  obtain ⟨t, d, r, eb⟩ := hb
  have fa : Jvm.FP.Core.fits b64 (.fin s c q) := ea ▸ val64_fits a
  have fb : Jvm.FP.Core.fits b64 (.fin t d r) := eb ▸ val64_fits b
  have hq1 := fa.2.1
  have hr1 := fb.2.1
  rw [qmin_b64] at hq1 hr1
  have ma : (V a).natAbs = c * 2 ^ (q - (-1074)).toNat := by rw [← za, ea]; show inUnits c q b64.qmin = _; rw [qmin_b64]; rfl
  have mb : (V b).natAbs = d * 2 ^ (r - (-1074)).toNat := by rw [← zb, eb]; show inUnits d r b64.qmin = _; rw [qmin_b64]; rfl
  have hd0 : d ≠ 0 := by
    rintro rfl
    rw [Nat.zero_mul] at mb; omega
  have hBp : 0 < (V b).natAbs := by omega
  have hv : val64 (FP.ddiv a b) = roundRatio b64 (s != t) ((V a).natAbs * one64) (V b).natAbs (-1074) := by
    rw [show FP.ddiv a b = Core.ddiv a b from rfl, val64_ddiv, ea, eb]
    simp only [quotient, if_neg hd0]
    refine roundRatio_congr (by omega) hBp ?_
    rw [ma, mb]
    unfold one64
    rw [pw2, pw3]
    congr 2
    omega
  have hS : signed (s != t) ((V a).natAbs * one64) = V a * (one64 : Int) * (V b).sign := by
    rw [sb, eb]
    show _ = _ * signed t 1
    have : signed (s != t) ((V a).natAbs * one64 * 1) = signed s ((V a).natAbs * one64) * signed t 1 := signed_xor s t _ 1
    rw [Nat.mul_one] at this
    rw [this, signed_mul]
    congr 2
    rw [← za]
    unfold V zval
    rw [ea]
    rfl
  obtain ⟨c', q', hh⟩ := fin_round (s := s != t) (A := (V a).natAbs * one64) (B := (V b).natAbs) hBp h
  refine ⟨⟨_, c', q', hv.trans hh⟩, ?_⟩
  show zval b64 (val64 (FP.ddiv a b)) = _
  rw [hv, rnd_signed, hS]
theorem V_of_int {a : UInt64} {n : Int} (ha : val64 a = round b64 (ofInt n)) (h : n.natAbs ≤ 2 ^ 64) : DFin a ∧ V a = rnd (n * (one64 : Int)) 1 := by
  have hv : val64 a = roundRatio b64 (decide (n < 0)) (n.natAbs * one64) 1 (-1074) := by
    rw [ha]
    show roundRatio b64 (decide (n < 0)) n.natAbs 1 0 = _
    refine roundRatio_congr (by decide) (by decide) ?_
    unfold one64
    rw [show (0 - (-1074) : Int).toNat = 1074 from rfl, show (-1074 - 0 : Int).toNat = 0 from rfl]
    simp
  have hS : signed (decide (n < 0)) (n.natAbs * one64) = n * (one64 : Int) := by rw [signed_mul, signed_natAbs]
  have hB : n.natAbs * one64 ≤ BIG := by
    refine Nat.le_trans (Nat.mul_le_mul_right _ h) ?_
    unfold one64 BIG
    rw [← Nat.pow_add]
    exact Nat.pow_le_pow_right (by decide) (by decide)
  obtain ⟨c', q', hh⟩ := fin_round (s := decide (n < 0)) (A := n.natAbs * one64) (B := 1) (by decide) (by rw [Nat.mul_one]; exact hB)
  refine ⟨⟨_, c', q', hv.trans hh⟩, ?_⟩
  show zval b64 (val64 a) = _
  rw [hv, rnd_signed, hS]
theorem V_l2d (n : Int64) : DFin (FP.l2d n) ∧ V (FP.l2d n) = rnd (n.toInt * (one64 : Int)) 1 :=
  V_of_int (val64_l2d n) (Nat.le_trans (int64_abs n) (by decide))
theorem V_i2d (n : Int32) : DFin (FP.i2d n) ∧ V (FP.i2d n) = rnd (n.toInt * (one64 : Int)) 1 :=
  V_of_int (val64_i2d n) (Nat.le_trans (int32_abs n) (by decide))
theorem V_drem {a b : UInt64} (ha : DFin a) (hb : DFin b) (h0 : V b ≠ 0) : DFin (FP.drem a b) ∧ V (FP.drem a b) = (V a).tmod (V b) := by
  have za := zmag_V a
  have zb := zmag_V b
  obtain ⟨s, c, q, ea⟩ := ha
  obtain ⟨t, d, r, eb⟩ := hb
  have fa : Jvm.FP.Core.fits b64 (.fin s c q) := ea ▸ val64_fits a
  have fb : Jvm.FP.Core.fits b64 (.fin t d r) := eb ▸ val64_fits b
  have hd0 : d ≠ 0 := by
    rintro rfl
    rw [eb] at zb
    have : zmag b64 (.fin t 0 r) = 0 := Nat.zero_mul _
    omega
  obtain ⟨c', q', h1, h2⟩ := remainder_exact good_b64 fa fb hd0
  have hv : val64 (FP.drem a b) = .fin s c' q' := by rw [show FP.drem a b = Core.drem a b from rfl, val64_drem, ea, eb, h1]
  refine ⟨⟨_, _, _, hv⟩, ?_⟩
  have h3 : zmag b64 (.fin s c' q') = (V a).natAbs % (V b).natAbs := by rw [← za, ← zb, ea, eb]; exact h2
  have hVa : V a = signed s (V a).natAbs := by rw [← za]; unfold V zval; rw [ea]; rfl
  show zval b64 (val64 (FP.drem a b)) = _
  rw [hv]
  show signed s (zmag b64 (.fin s c' q')) = _
  rw [h3]
  have hb2 : ∀ x : Int, x.tmod (V b) = x.tmod ((V b).natAbs : Int) := by
    intro x
    rcases Int.natAbs_eq (V b) with e | e
    · rw [← e]
    · rw [e, Int.tmod_neg]; simp
  rw [hb2]
  generalize (V b).natAbs = B at *
  generalize (V a).natAbs = A at *
  rw [hVa]
  cases s <;> simp [signed] <;> exact (Int.tmod_eq_emod_of_nonneg (Int.natCast_nonneg A)).symm
theorem cmp_V {a b : UInt64} (ha : DFin a) (hb : DFin b) : FP.dcmp a b = some (compare (V a) (V b)) := by
  obtain ⟨s, c, q, ea⟩ := ha
  obtain ⟨t, d, r, eb⟩ := hb
  exact dcmp_zval (by rw [ea]; exact Datum.noConfusion) (by rw [eb]; exact Datum.noConfusion)
/-! the rounding -/
theorem rnd_congr {n n' : Int} {d d' : Nat} (hd : 0 < d) (hd' : 0 < d') (h : n * (d' : Int) = n' * (d : Int)) : rnd n d = rnd n' d' := by
  have hs : (n < 0) ↔ (n' < 0) := by
    have p1 : (0 : Int) < d := by omega
    have p2 : (0 : Int) < d' := by omega
    constructor
    · intro q
      have := Int.mul_neg_of_neg_of_pos q p2
      refine Int.lt_of_not_ge fun q' => ?_
      have := Int.mul_nonneg q' (Int.le_of_lt p1)
      omega
    · intro q
      have := Int.mul_neg_of_neg_of_pos q p1
      refine Int.lt_of_not_ge fun q' => ?_
      have := Int.mul_nonneg q' (Int.le_of_lt p2)
      omega
  have hm : n.natAbs * d' = n'.natAbs * d := by
    have := congrArg Int.natAbs h
    rwa [Int.natAbs_mul, Int.natAbs_mul, Int.natAbs_natCast, Int.natAbs_natCast] at this
  unfold rnd
  rw [show decide (n < 0) = decide (n' < 0) from decide_eq_decide.mpr hs]
  congr 1
  exact roundRatio_congr hd hd' (by simpa using hm)
/-- at most 53 binary digits -/
def Rep (r : Int) : Prop := ∃ (m : Int) (e : Nat), r = m * ((2 ^ e : Nat) : Int) ∧ m.natAbs < 2 ^ 53 ∧ e ≤ 2045
theorem rnd_exact {n : Int} {d : Nat} {r : Int} (hd : 0 < d) (h : n = r * (d : Int)) (hr : Rep r) : rnd n d = r := by
  rw [rnd_congr (n' := r) (d' := 1) hd (by decide) (by rw [h]; simp)]
  obtain ⟨m, e, rfl, hm, he⟩ := hr
  have hsg : ∀ k : Nat, signed (decide (m < 0)) (m.natAbs * k) = m * (k : Int) := fun k => by rw [signed_mul, signed_natAbs]
  have h1 : rnd (m * ((2 ^ e : Nat) : Int)) 1 = zval b64 (roundRatio b64 (decide (m < 0)) (m.natAbs * 2 ^ e) 1 (-1074)) := by rw [rnd_signed, hsg]
  rw [h1]
  obtain ⟨c', q', h2, h3⟩ := round_exact good_b64 (decide (m < 0)) (c := m.natAbs) (q := (e : Int) - 1074) hm (by rw [qmin_b64]; omega) (by rw [show b64.qmax = 971 by decide]; omega)
  have h4 : roundRatio b64 (decide (m < 0)) (m.natAbs * 2 ^ e) 1 (-1074) = roundRatio b64 (decide (m < 0)) m.natAbs 1 ((e : Int) - 1074) := by
    refine roundRatio_congr (by decide) (by decide) ?_
    rw [show (-1074 - ((e : Int) - 1074)).toNat = 0 by omega, show ((e : Int) - 1074 - -1074).toNat = e by omega]
    simp
  rw [h4]
  have h5 : roundRatio b64 (decide (m < 0)) m.natAbs 1 ((e : Int) - 1074) = .fin (decide (m < 0)) c' q' := h2
  rw [h5]
  show signed _ (inUnits c' q' b64.qmin) = _
  rw [h3, ← hsg]
  unfold inUnits
  rw [qmin_b64, show ((e : Int) - 1074 - -1074).toNat = e by omega]
  rfl
theorem rep_V {a : UInt64} (ha : DFin a) : Rep (V a) := by
  obtain ⟨s, c, q, ea⟩ := ha
  have fa : Jvm.FP.Core.fits b64 (.fin s c q) := ea ▸ val64_fits a
  obtain ⟨h1, h2, h3, -⟩ := fa
  rw [qmin_b64] at h2
  rw [show b64.qmax = 971 by decide] at h3
  refine ⟨signed s c, (q - (-1074)).toNat, ?_, by rw [natAbs_signed]; exact h1, by omega⟩
  unfold V zval
  rw [ea]
  show signed s (c * 2 ^ (q - b64.qmin).toNat) = _
  rw [signed_mul, qmin_b64]
theorem V_le {a : UInt64} : (V a).natAbs ≤ (V a).natAbs := Nat.le_refl _
end Jvm.OwnF
namespace Jvm.OwnF
open Jvm.FP Jvm.FP.Core
/-! exact values: a is n / 2^k -/
def R53 (n : Int) : Prop := ∃ (m : Int) (e : Nat), n = m * ((2 ^ e : Nat) : Int) ∧ m.natAbs ≤ 2 ^ 53 ∧ e ≤ 800
def DV (n : Int) (k : Nat) (a : UInt64) : Prop := DFin a ∧ k ≤ 1074 ∧ V a = n * ((2 ^ (1074 - k) : Nat) : Int)
theorem r53 {n : Int} (h : n.natAbs ≤ 2 ^ 53) : R53 n := ⟨n, 0, by simp, h, by decide⟩
theorem rep_of {m : Int} {e : Nat} (hm : m.natAbs ≤ 2 ^ 53) (he : e ≤ 1900) : Rep (m * ((2 ^ e : Nat) : Int)) := by
  by_cases h : m.natAbs < 2 ^ 53
  · exact ⟨m, e, rfl, h, by omega⟩
  · refine ⟨m.sign, e + 53, ?_, ?_, by omega⟩
    · have h1 : m.natAbs = 2 ^ 53 := by omega
      have h2 : m = m.sign * (m.natAbs : Int) := (Int.sign_mul_natAbs m).symm
      conv => lhs; rw [h2, h1]
      rw [Nat.pow_add, Int.natCast_mul, Int.mul_assoc]
      congr 1
      rw [Int.mul_comm]
    · have : m.sign.natAbs ≤ 1 := by
        rcases Int.lt_trichotomy m 0 with q | q | q
        · rw [Int.sign_eq_neg_one_of_neg q]; decide
        · rw [q]; decide
        · rw [Int.sign_eq_one_of_pos q]; decide
      omega
theorem rep_R {n : Int} (h : R53 n) {k : Nat} (hk : k ≤ 1074) : Rep (n * ((2 ^ k : Nat) : Int)) := by
  obtain ⟨m, e, rfl, hm, he⟩ := h
  rw [Int.mul_assoc, ← Int.natCast_mul, ← Nat.pow_add]
  exact rep_of hm (by omega)
theorem big_R {n : Int} (h : R53 n) {k : Nat} (hk : k ≤ 1074) : (n * ((2 ^ k : Nat) : Int)).natAbs ≤ BIG := by
  obtain ⟨m, e, rfl, hm, he⟩ := h
  rw [Int.natAbs_mul, Int.natAbs_mul, Int.natAbs_natCast, Int.natAbs_natCast, Nat.mul_assoc, ← Nat.pow_add]
  refine Nat.le_trans (Nat.mul_le_mul_right _ hm) ?_
  unfold BIG
  rw [← Nat.pow_add]
  exact Nat.pow_le_pow_right (by decide) (by omega)
theorem DV.fin {n : Int} {k : Nat} {a : UInt64} (h : DV n k a) : DFin a := h.1
theorem DV.nn {n : Int} {k : Nat} {a : UInt64} (h : DV n k a) : Jvm.Free.Fl.NoNaN64 a := noNaN_fin h.1
theorem DV.of_eq {n m : Int} {k : Nat} {a : UInt64} (h : DV n k a) (e : n = m) : DV m k a := e ▸ h
theorem DV.up {n : Int} {k : Nat} {a : UInt64} (h : DV n k a) (j : Nat) (hj : k + j ≤ 1074) : DV (n * ((2 ^ j : Nat) : Int)) (k + j) a := by
  refine ⟨h.1, hj, ?_⟩
  rw [h.2.2, Int.mul_assoc, ← Int.natCast_mul, ← Nat.pow_add]
  congr 4
  omega
theorem DV.down {n : Int} {k j : Nat} {a : UInt64} (h : DV (n * ((2 ^ j : Nat) : Int)) (k + j) a) : DV n k a := by
  refine ⟨h.1, by have := h.2.1; omega, ?_⟩
  rw [h.2.2, Int.mul_assoc, ← Int.natCast_mul, ← Nat.pow_add]
  congr 4
  have := h.2.1; omega
theorem DV_of_V {n : Int} {k : Nat} {a : UInt64} (hf : DFin a) (hk : k ≤ 1074) (hn : R53 n) (h : V a = rnd (n * ((2 ^ (1074 - k) : Nat) : Int)) 1) : DV n k a :=
  ⟨hf, hk, by rw [h]; exact rnd_exact (by decide) (by simp) (rep_R hn (by omega))⟩
theorem DV_add {n m : Int} {k : Nat} {a b : UInt64} (ha : DV n k a) (hb : DV m k b) (h : R53 (n + m)) : DV (n + m) k (FP.dadd a b) := by
  have e : V a + V b = (n + m) * ((2 ^ (1074 - k) : Nat) : Int) := by rw [ha.2.2, hb.2.2, Int.add_mul]
  obtain ⟨h1, h2⟩ := V_dadd ha.1 hb.1 (by rw [e]; exact big_R h (by omega))
  exact DV_of_V h1 ha.2.1 h (by rw [h2, e])
theorem DV_sub {n m : Int} {k : Nat} {a b : UInt64} (ha : DV n k a) (hb : DV m k b) (h : R53 (n - m)) : DV (n - m) k (FP.dsub a b) := by
  have e : V a - V b = (n - m) * ((2 ^ (1074 - k) : Nat) : Int) := by rw [ha.2.2, hb.2.2, Int.sub_mul]
  obtain ⟨h1, h2⟩ := V_dsub ha.1 hb.1 (by rw [e]; exact big_R h (by omega))
  exact DV_of_V h1 ha.2.1 h (by rw [h2, e])
theorem DV_mul {n m : Int} {k j : Nat} {a b : UInt64} (ha : DV n k a) (hb : DV m j b) (hkj : k + j ≤ 1074) (h : R53 (n * m)) : DV (n * m) (k + j) (FP.dmul a b) := by
  have e : V a * V b = (n * m) * ((2 ^ (1074 - (k + j)) : Nat) : Int) * (one64 : Int) := by
    rw [ha.2.2, hb.2.2]
    have : ((2 ^ (1074 - (k + j)) : Nat) : Int) * (one64 : Int) = ((2 ^ (1074 - k) : Nat) : Int) * ((2 ^ (1074 - j) : Nat) : Int) := by
      rw [← Int.natCast_mul, ← Int.natCast_mul]
      unfold one64
      rw [← Nat.pow_add, ← Nat.pow_add]
      congr 2
      have := ha.2.1; have := hb.2.1; omega
    rw [Int.mul_assoc (n * m), this]
    ac_rfl
  obtain ⟨h1, h2⟩ := V_dmul ha.1 hb.1 (by
    rw [e, Int.natAbs_mul, Int.natAbs_natCast]
    exact Nat.mul_le_mul_right _ (big_R h (by omega)))
  refine ⟨h1, hkj, ?_⟩
  rw [h2]
  exact rnd_exact one64_pos e (rep_R h (by omega))
theorem divalg {n c m P Q X U I J : Int} (h : n * P = c * m * Q) (e2 : X * Q = U) (e3 : I * J * P = U * U) : n * X * U * (Q * P) = c * I * (m * J) * (Q * P) := by
  have l : n * X * U * (Q * P) = (n * P) * (X * Q) * U := by ac_rfl
  have r : c * I * (m * J) * (Q * P) = c * m * Q * (I * J * P) := by ac_rfl
  rw [l, r, h, e2, e3, Int.mul_assoc (c * m * Q)]
theorem DV_div {n m c : Int} {k j i : Nat} {a b : UInt64} (ha : DV n k a) (hb : DV m j b) (hi : i ≤ 1074) (hm : m ≠ 0) (hc : R53 c) (h : n * ((2 ^ (j + i) : Nat) : Int) = c * m * ((2 ^ k : Nat) : Int)) : DV c i (FP.ddiv a b) := by
  have hb0 : V b ≠ 0 := by
    rw [hb.2.2]
    intro q
    rcases Int.mul_eq_zero.mp q with q | q
    · exact hm q
    · have := Nat.two_pow_pos (1074 - j); omega
  have hk := ha.2.1
  have hj := hb.2.1
  -- V a * U = (c * 2^(1074 - i)) * V b
  have e : V a * (one64 : Int) = c * ((2 ^ (1074 - i) : Nat) : Int) * V b := by
    have pp : ((2 ^ (k + j + i) : Nat) : Int) ≠ 0 := by have := Nat.two_pow_pos (k + j + i); omega
    refine Int.eq_of_mul_eq_mul_right pp ?_
    rw [ha.2.2, hb.2.2]
    have e1 : ((2 ^ (k + j + i) : Nat) : Int) = ((2 ^ k : Nat) : Int) * ((2 ^ (j + i) : Nat) : Int) := by rw [← Int.natCast_mul, ← Nat.pow_add, Nat.add_assoc]
    have e2 : ((2 ^ (1074 - k) : Nat) : Int) * ((2 ^ k : Nat) : Int) = (one64 : Int) := by rw [← Int.natCast_mul, ← Nat.pow_add, Nat.sub_add_cancel hk]; rfl
    have e3 : ((2 ^ (1074 - i) : Nat) : Int) * ((2 ^ (1074 - j) : Nat) : Int) * ((2 ^ (j + i) : Nat) : Int) = (one64 : Int) * (one64 : Int) := by
      rw [← Int.natCast_mul, ← Int.natCast_mul, ← Int.natCast_mul]
      unfold one64
      rw [← Nat.pow_add, ← Nat.pow_add, ← Nat.pow_add]
      congr 2
      omega
    rw [e1]
    exact divalg h e2 e3
  have ea : (V a).natAbs * one64 = (c * ((2 ^ (1074 - i) : Nat) : Int)).natAbs * (V b).natAbs := by
    have := congrArg Int.natAbs e
    rwa [Int.natAbs_mul, Int.natAbs_mul, Int.natAbs_natCast] at this
  obtain ⟨h1, h2⟩ := V_ddiv ha.1 hb.1 hb0 (by rw [ea]; exact Nat.mul_le_mul_right _ (big_R hc (by omega)))
  refine ⟨h1, hi, ?_⟩
  rw [h2]
  refine rnd_exact (by omega) ?_ (rep_R hc (by omega))
  rw [e, Int.mul_assoc, Int.mul_sign_self]
theorem DV_l2d {n : Int64} (h : R53 n.toInt) : DV n.toInt 0 (FP.l2d n) := by
  obtain ⟨h1, h2⟩ := V_l2d n
  exact DV_of_V h1 (by decide) h h2
theorem DV_i2d (n : Int32) : DV n.toInt 0 (FP.i2d n) := by
  obtain ⟨h1, h2⟩ := V_i2d n
  exact DV_of_V h1 (by decide) (r53 (Nat.le_trans (int32_abs n) (by decide))) h2
theorem DV_const {a : UInt64} {n : Int} {k : Nat} (h1 : a.toNat % 2 ^ 63 < 9218868437227405312) (hk : k ≤ 1074) (h2 : V a = n * ((2 ^ (1074 - k) : Nat) : Int)) : DV n k a := ⟨(fin_bits a).mpr h1, hk, h2⟩
theorem DV_0 : DV 0 0 FP.dconst0 := DV_const (by decide) (by decide) (by decide +kernel)
theorem DV_1 : DV 1 0 FP.dconst1 := DV_const (by decide) (by decide) (by decide +kernel)
theorem DV_z : DV 0 0 (0 : UInt64) := DV_const (by decide) (by decide) (by decide +kernel)
theorem cmpv_V {a b : UInt64} (ha : DFin a) (hb : DFin b) (o : ClassFile.CmpOp) : (V a < V b → Op.cmpValue (FP.dcmp a b) o = -1) ∧ (V a = V b → Op.cmpValue (FP.dcmp a b) o = 0) ∧ (V b < V a → Op.cmpValue (FP.dcmp a b) o = 1) := by
  rw [cmp_V ha hb]
  refine ⟨fun h => ?_, fun h => ?_, fun h => ?_⟩
  · rw [(compare_lt_iff _ _).mpr h]; rfl
  · rw [(compare_eq_iff _ _).mpr h]; rfl
  · rw [(compare_gt_iff _ _).mpr h]; rfl
theorem DV_le {n m : Int} {k : Nat} {a b : UInt64} (ha : DV n k a) (hb : DV m k b) : (V a < V b ↔ n < m) ∧ (V a = V b ↔ n = m) := by
  rw [ha.2.2, hb.2.2]
  have hp : (0 : Int) < ((2 ^ (1074 - k) : Nat) : Int) := by have := Nat.two_pow_pos (1074 - k); omega
  exact ⟨Int.mul_lt_mul_right hp, ⟨fun q => Int.eq_of_mul_eq_mul_right (by omega) q, fun q => by rw [q]⟩⟩
theorem DV_cmp {n m : Int} {k : Nat} {a b : UInt64} (ha : DV n k a) (hb : DV m k b) (o : ClassFile.CmpOp) : (n < m → Op.cmpValue (FP.dcmp a b) o = -1) ∧ (n = m → Op.cmpValue (FP.dcmp a b) o = 0) ∧ (m < n → Op.cmpValue (FP.dcmp a b) o = 1) := by
  obtain ⟨h1, h2, h3⟩ := cmpv_V ha.1 hb.1 o
  exact ⟨fun q => h1 ((DV_le ha hb).1.mpr q), fun q => h2 ((DV_le ha hb).2.mpr q), fun q => h3 ((DV_le hb ha).1.mpr q)⟩
theorem DV_eq0 {n : Int} {k : Nat} {a b : UInt64} (ha : DV n k a) (hb : DV n k b) (o : ClassFile.CmpOp) : Op.cmpValue (FP.dcmp a b) o = 0 := (DV_cmp ha hb o).2.1 rfl
theorem DV_d2l {n : Int} {a : UInt64} (h : DV n 0 a) (h1 : -9223372036854775808 ≤ n) (h2 : n < 9223372036854775808) : (FP.d2l a).toInt = n := by
  obtain ⟨hf, -, hv⟩ := h
  have hn : val64 a ≠ .nan := by obtain ⟨s, c, q, e⟩ := hf; rw [e]; exact Datum.noConfusion
  rw [show FP.d2l a = Core.d2l a from rfl, d2l_val hn, zmag_V]
  have hs : signed (sgn (val64 a)) (V a).natAbs = V a := by rw [← zmag_V]; rfl
  have ho : (1074 - 0 : Nat) = 1074 := rfl
  rw [ho, show (2 ^ 1074 : Nat) = one64 from rfl] at hv
  have hm : (V a).natAbs = n.natAbs * one64 := by rw [hv, Int.natAbs_mul, Int.natAbs_natCast]
  have hd : (V a).natAbs / one64 = n.natAbs := by rw [hm, Nat.mul_div_cancel _ one64_pos]
  rw [hd]
  have hsn : signed (sgn (val64 a)) n.natAbs = n := by
    rw [hm, signed_mul, hv] at hs
    exact Int.eq_of_mul_eq_mul_right (by have := one64_pos; omega) hs
  rw [hsn]
  omega
end Jvm.OwnF
namespace Jvm.OwnF
open Jvm.RoadKit
/-! ints and longs as whole numbers -/
theorem mul_bd {a b : Int} {A B : Nat} (ha : a.natAbs ≤ A) (hb : b.natAbs ≤ B) : (a * b).natAbs ≤ A * B := by rw [Int.natAbs_mul]; exact Nat.mul_le_mul ha hb
theorem iadd_v {x y z : Int32} (h : x + y = z) (hb : (x.toInt + y.toInt).natAbs < 2147483648) : z.toInt = x.toInt + y.toInt := by rw [← h, Int32.toInt_add]; exact Int.bmod_eq_of_le (by omega) (by omega)
theorem isub_v {x y z : Int32} (h : x - y = z) (hb : (x.toInt - y.toInt).natAbs < 2147483648) : z.toInt = x.toInt - y.toInt := by rw [← h, Int32.toInt_sub]; exact Int.bmod_eq_of_le (by omega) (by omega)
theorem imul_v {x y z : Int32} (h : x * y = z) (hb : (x.toInt * y.toInt).natAbs < 2147483648) : z.toInt = x.toInt * y.toInt := by rw [← h, Int32.toInt_mul]; exact Int.bmod_eq_of_le (by omega) (by omega)
theorem ladd_v {x y z : Int64} (h : x + y = z) (hb : (x.toInt + y.toInt).natAbs < 9223372036854775808) : z.toInt = x.toInt + y.toInt := by rw [← h, Int64.toInt_add]; exact Int.bmod_eq_of_le (by omega) (by omega)
theorem lsub_v {x y z : Int64} (h : x - y = z) (hb : (x.toInt - y.toInt).natAbs < 9223372036854775808) : z.toInt = x.toInt - y.toInt := by rw [← h, Int64.toInt_sub]; exact Int.bmod_eq_of_le (by omega) (by omega)
theorem lmul_v {x y z : Int64} (h : x * y = z) (hb : (x.toInt * y.toInt).natAbs < 9223372036854775808) : z.toInt = x.toInt * y.toInt := by rw [← h, Int64.toInt_mul]; exact Int.bmod_eq_of_le (by omega) (by omega)
theorem i2l_v {x : Int32} {z : Int64} (h : x.toInt64 = z) : z.toInt = x.toInt := by rw [← h]; exact c_i2l x
theorem l2i_v {x : Int64} {z : Int32} (h : x.toInt32 = z) (hb : -2147483648 ≤ x.toInt ∧ x.toInt < 2147483648) : z.toInt = x.toInt := by
  rw [← h]; have h1 := c_l2i x; have h2 := rng32 x.toInt32; omega
theorem rng32b (x : Int32) : x.toInt.natAbs ≤ 2147483648 := by have := rng32 x; omega
theorem rng64b (x : Int64) : x.toInt.natAbs ≤ 9223372036854775808 := by have := rng64 x; omega
theorem ishr16 {p z : Int32} (h : p >>> ((16 : Int32) &&& 31) = z) : z.toInt = p.toInt / 65536 := by
  rw [← h, c_ishr p 16 16 (by decide)]; rfl
theorem i2s_b {x z : Int32} (h : x.toInt16.toInt32 = z) : -32768 ≤ z.toInt ∧ z.toInt < 32768 := by rw [← h]; exact (c_i2s x).2
/-- x % y, y > 0, x ≥ 0 -/
theorem irem_v {x y z : Int32} (h : x % y = z) (hx : 0 ≤ x.toInt) : z.toInt = x.toInt % y.toInt := by rw [← h, Int32.toInt_mod]; exact Int.tmod_eq_emod_of_nonneg hx
theorem lrem_v {x y z : Int64} (h : x % y = z) (hx : 0 ≤ x.toInt) : z.toInt = x.toInt % y.toInt := by rw [← h, Int64.toInt_mod]; exact Int.tmod_eq_emod_of_nonneg hx
theorem mask31 {x z : Int32} (h : x &&& (2147483647 : Int32) = z) : 0 ≤ z.toInt ∧ z.toInt < 2147483648 := by
  rw [← h, c_mask x 2147483647 31 (by decide) (by decide)]
  have e : ((2 ^ 31 : Nat) : Int) = 2147483648 := by decide
  rw [e]; omega
/-- x << q, q < 64, no overflow -/
theorem lshl_v {x z : Int64} {q : Int32} (h : x <<< (q &&& 0x3f).toInt64 = z) {k : Nat} (hq : q.toInt = (k : Int)) (hk : k < 64) (hb : (x.toInt * ((2 ^ k : Nat) : Int)).natAbs < 9223372036854775808) : z.toInt = x.toInt * ((2 ^ k : Nat) : Int) := by
  have hn : q.toBitVec.toNat % 64 = k := by
    have e : q.toBitVec.toNat = k := by
      have h1 : q.toBitVec.toInt = (k : Int) := hq
      have h2 := BitVec.toInt_eq_toNat_bmod q.toBitVec
      rw [h1] at h2
      have h3 := q.toBitVec.isLt
      have h4 := Int.bmod_emod (x := (q.toBitVec.toNat : Int)) (m := 2 ^ 32)
      omega
    omega
  have := c_lshl x q k hn
  rw [h] at this
  have r := rng64 z
  omega
end Jvm.OwnF
namespace Jvm.OwnF
open Jvm.RoadKit
theorem nat32 {q : Int32} {k : Nat} (hq : q.toInt = (k : Int)) : q.toBitVec.toNat = k := by
  have h1 : q.toBitVec.toInt = (k : Int) := hq
  have h2 := BitVec.toInt_eq_toNat_bmod q.toBitVec
  rw [h1] at h2
  have h3 := q.toBitVec.isLt
  have h5 := rng32 q
  have h4 := Int.bmod_emod (x := (q.toBitVec.toNat : Int)) (m := 2 ^ 32)
  omega
theorem ishl_v {x z q : Int32} (h : x <<< (q &&& 31) = z) {k : Nat} (hq : q.toInt = (k : Int)) (hk : k < 32) (hb : (x.toInt * ((2 ^ k : Nat) : Int)).natAbs < 2147483648) : z.toInt = x.toInt * ((2 ^ k : Nat) : Int) := by
  have hn : q.toBitVec.toNat % 32 = k := by rw [nat32 hq]; omega
  have := c_ishl x q k hn
  rw [h] at this
  have r := rng32 z
  omega
theorem ishl_1 {z q : Int32} (h : (1 : Int32) <<< (q &&& 31) = z) {k : Nat} (hq : q.toInt = (k : Int)) (hk : k < 31) : z.toInt = ((2 ^ k : Nat) : Int) := by
  have p : 2 ^ k ≤ 2 ^ 30 := Nat.pow_le_pow_right (by decide) (by omega)
  have := ishl_v h hq (by omega) (by rw [show (1 : Int32).toInt = 1 by decide, Int.one_mul, Int.natAbs_natCast]; omega)
  rw [show (1 : Int32).toInt = 1 by decide, Int.one_mul] at this
  exact this
end Jvm.OwnF
namespace Jvm.OwnF
open Jvm.FP Jvm.FP.Core
/-! the rounding is a nearest one; the sum's error -/
def RepU (r : Int) : Prop := ∃ (m : Int) (e : Nat), r = m * ((2 ^ e : Nat) : Int) ∧ m.natAbs < 2 ^ 53
theorem Rep.u {r : Int} (h : Rep r) : RepU r := by obtain ⟨m, e, h1, h2, -⟩ := h; exact ⟨m, e, h1, h2⟩
theorem RepU.rep {r : Int} (h : RepU r) (hb : r.natAbs ≤ BIG) : Rep r := by
  obtain ⟨m, e, rfl, hm⟩ := h
  by_cases h0 : m = 0
  · subst h0; exact ⟨0, 0, by simp, by decide, by decide⟩
  · refine ⟨m, e, rfl, hm, ?_⟩
    rw [Int.natAbs_mul, Int.natAbs_natCast] at hb
    have h1 : 1 ≤ m.natAbs := by omega
    have h2 : 2 ^ e ≤ 2 ^ 2000 := Nat.le_trans (Nat.le_mul_of_pos_left _ h1) hb
    have := (Nat.pow_le_pow_iff_right (by decide : 1 < 2)).mp h2
    omega
theorem RepU.neg {r : Int} (h : RepU r) : RepU (-r) := by
  obtain ⟨m, e, rfl, hm⟩ := h
  exact ⟨-m, e, by rw [Int.neg_mul], by rwa [Int.natAbs_neg]⟩
theorem RepU.zero : RepU 0 := ⟨0, 0, by simp, by decide⟩
theorem repU_of {m : Int} {e : Nat} (hm : m.natAbs ≤ 2 ^ 53) : RepU (m * ((2 ^ e : Nat) : Int)) := by
  by_cases h : m.natAbs < 2 ^ 53
  · exact ⟨m, e, rfl, h⟩
  · refine ⟨m.sign, e + 53, ?_, ?_⟩
    · have h1 : m.natAbs = 2 ^ 53 := by omega
      have h2 : m = m.sign * (m.natAbs : Int) := (Int.sign_mul_natAbs m).symm
      conv => lhs; rw [h2, h1]
      rw [Nat.pow_add, Int.natCast_mul, Int.mul_assoc]
      congr 1
      rw [Int.mul_comm]
    · have : m.sign.natAbs ≤ 1 := by
        rcases Int.lt_trichotomy m 0 with q | q | q
        · rw [Int.sign_eq_neg_one_of_neg q]; decide
        · rw [q]; decide
        · rw [Int.sign_eq_one_of_pos q]; decide
      omega
theorem rnd_fin {n : Int} {d : Nat} (hd : 0 < d) (hn : n.natAbs ≤ BIG * d) : ∃ c q, roundRatio b64 (decide (n < 0)) n.natAbs d (-1074) = .fin (decide (n < 0)) c q ∧ Jvm.FP.Core.fits b64 (.fin (decide (n < 0)) c q) ∧ rnd n d = signed (decide (n < 0)) (inUnits c q (-1074)) := by
  obtain ⟨c, q, h⟩ := fin_round (s := decide (n < 0)) hd hn
  refine ⟨c, q, h, h ▸ roundRatio_fits good_b64 _ _ hd _, ?_⟩
  unfold rnd
  rw [h]
  show signed _ (inUnits c q b64.qmin) = _
  rw [qmin_b64]
  rfl
theorem rnd_rep {n : Int} {d : Nat} (hd : 0 < d) (hn : n.natAbs ≤ BIG * d) : RepU (rnd n d) := by
  obtain ⟨c, q, -, h2, h3⟩ := rnd_fin hd hn
  rw [h3]
  unfold inUnits
  rw [signed_mul]
  exact ⟨_, _, rfl, by rw [natAbs_signed]; exact h2.1⟩
theorem rnd_near {n : Int} {d : Nat} {r : Int} (hd : 0 < d) (hn : n.natAbs ≤ BIG * d) (hr : RepU r) : (n - rnd n d * (d : Int)).natAbs ≤ (n - r * (d : Int)).natAbs := by
  obtain ⟨c, q, h1, h2, h3⟩ := rnd_fin hd hn
  have near : ∀ (c' : Nat) (e' : Nat), c' < 2 ^ 53 → ((n.natAbs : Int) - (inUnits c q (-1074) : Int) * (d : Int)).natAbs ≤ ((n.natAbs : Int) - ((c' * 2 ^ e' : Nat) : Int) * (d : Int)).natAbs := by
    intro c' e' hc'
    have := roundRatio_nearest good_b64 (e0 := -1074) (q' := (e' : Int) - 1074) hd h1 (c' := c') hc' (by rw [qmin_b64]; omega) (by rw [qmin_b64]; decide) (by decide)
    unfold distance at this
    rw [un0] at this
    unfold inUnits at this ⊢
    rw [show ((e' : Int) - 1074 - -1074).toNat = e' by omega] at this
    exact this
  have hrn : rnd n d * (d : Int) = signed (decide (n < 0)) (inUnits c q (-1074) * d) := by rw [h3, signed_mul]
  rw [hrn]
  have n0 := near 0 0 (by decide)
  obtain ⟨m, e, rfl, hm⟩ := hr
  have nm := near m.natAbs e hm
  have e1 : ((inUnits c q (-1074) : Nat) : Int) * (d : Int) = ((inUnits c q (-1074) * d : Nat) : Int) := by simp
  have e2 : ((m.natAbs * 2 ^ e : Nat) : Int) * (d : Int) = ((m.natAbs * 2 ^ e * d : Nat) : Int) := by simp
  rw [e1] at n0 nm
  rw [e2] at nm
  have e3 : m * ((2 ^ e : Nat) : Int) * (d : Int) = signed (decide (m < 0)) (m.natAbs * 2 ^ e * d) := by rw [Nat.mul_assoc, signed_mul, signed_natAbs, Int.natCast_mul, Int.mul_assoc]
  rw [e3]
  simp only [Nat.zero_mul, Int.natCast_zero, Int.zero_mul, Int.sub_zero] at n0
  generalize inUnits c q (-1074) * d = x at *
  generalize m.natAbs * 2 ^ e * d = y at *
  by_cases hn0 : n < 0 <;> by_cases hm0 : m < 0 <;> simp only [hn0, hm0, decide_true, decide_false, signed, if_true, Bool.false_eq_true, if_false] <;> omega
theorem rnd_mono {n n' : Int} {d d' : Nat} (hd : 0 < d) (hd' : 0 < d') (hn : n.natAbs ≤ BIG * d) (hn' : n'.natAbs ≤ BIG * d') (h : n * (d' : Int) ≤ n' * (d : Int)) : rnd n d ≤ rnd n' d' := by
  refine Int.le_of_not_gt fun hlt => ?_
  have r1 := rnd_near hd hn (rnd_rep hd' hn')
  have r2 := rnd_near hd' hn' (rnd_rep hd hn)
  have hne : n * (d' : Int) ≠ n' * (d : Int) := fun q => by
    have := rnd_congr hd hd' q
    omega
  generalize rnd n d = a at *
  generalize rnd n' d' = b at *
  have pd : (0 : Int) < d := by omega
  have pd' : (0 : Int) < d' := by omega
  have k1 : b * (d : Int) < a * (d : Int) := Int.mul_lt_mul_of_pos_right hlt pd
  have k2 : b * (d' : Int) < a * (d' : Int) := Int.mul_lt_mul_of_pos_right hlt pd'
  -- 2 n ≥ (a + b) d and 2 n' ≤ (a + b) d'
  have q1 : (a + b) * (d : Int) ≤ 2 * n := by rw [Int.add_mul]; omega
  have q2 : 2 * n' ≤ (a + b) * (d' : Int) := by rw [Int.add_mul]; omega
  have q3 := Int.mul_le_mul_of_nonneg_right q1 (Int.le_of_lt pd')
  have q4 := Int.mul_le_mul_of_nonneg_right q2 (Int.le_of_lt pd)
  have q3' : (a + b) * ((d : Int) * (d' : Int)) ≤ 2 * (n * (d' : Int)) := by rw [← Int.mul_assoc (a + b), ← Int.mul_assoc 2 n]; exact q3
  have q4' : 2 * (n' * (d : Int)) ≤ (a + b) * ((d : Int) * (d' : Int)) := by rw [← Int.mul_assoc 2 n', Int.mul_comm (d : Int) d', ← Int.mul_assoc (a + b)]; exact q4
  omega
theorem rnd_neg (n : Int) {d : Nat} (hd : 0 < d) : rnd (-n) d = -rnd n d := by
  by_cases h0 : n = 0
  · subst h0
    have : rnd 0 d = 0 := zval_zero _ _ _
    simp [this]
  · unfold rnd
    rw [Int.natAbs_neg, ← zval_negate, negate_roundRatio]
    congr 2
    by_cases h : n < 0
    · simp [h, show ¬ (0 < n) by omega]
    · simp [h, show 0 < n by omega]
/-- multiples of 2^e up to 2^53 of them -/
theorem g1 {r : Int} {e : Nat} (h : ((2 ^ e : Nat) : Int) ∣ r) (hb : r.natAbs ≤ 2 ^ 53 * 2 ^ e) : RepU r := by
  obtain ⟨k, rfl⟩ := h
  rw [Int.mul_comm]
  refine repU_of ?_
  rw [Int.natAbs_mul, Int.natAbs_natCast, Nat.mul_comm] at hb
  exact Nat.le_of_mul_le_mul_right hb (Nat.two_pow_pos e)
theorem g2 {r : Int} {e : Nat} (h : RepU r) (hb : 2 ^ 52 * 2 ^ e ≤ r.natAbs) : ((2 ^ e : Nat) : Int) ∣ r := by
  obtain ⟨m, f, rfl, hm⟩ := h
  rw [Int.natAbs_mul, Int.natAbs_natCast] at hb
  have h1 : 2 ^ (52 + e) < 2 ^ (53 + f) := by
    rw [Nat.pow_add, Nat.pow_add]
    exact Nat.lt_of_le_of_lt hb (Nat.mul_lt_mul_of_pos_right hm (Nat.two_pow_pos f))
  have h2 := (Nat.pow_lt_pow_iff_right (by decide : 1 < 2)).mp h1
  have h3 : 2 ^ f = 2 ^ e * 2 ^ (f - e) := by rw [← Nat.pow_add]; congr 1; omega
  rw [h3, Int.natCast_mul, ← Int.mul_assoc, Int.mul_comm m, Int.mul_assoc]
  exact Int.dvd_mul_right _ _
theorem floor_bd {n G : Int} (hp : 0 < G) (hb : (n.natAbs : Int) ≤ G * 9007199254740992) (hz : n % G ≠ 0) : -9007199254740992 ≤ n / G ∧ n / G < 9007199254740992 := by
  have hdm := Int.mul_ediv_add_emod n G
  have h0 := Int.emod_nonneg n (Int.ne_of_gt hp)
  have h1 := Int.emod_lt_of_pos n hp
  generalize n / G = k at *
  generalize n % G = x at *
  constructor
  · refine Int.le_of_not_gt fun q => ?_
    have : G * k ≤ G * (-9007199254740993) := Int.mul_le_mul_of_nonneg_left (by omega) (Int.le_of_lt hp)
    rw [Int.mul_neg] at this
    have e1 : G * 9007199254740993 = G * 9007199254740992 + G := by rw [show (9007199254740993 : Int) = 9007199254740992 + 1 from rfl, Int.mul_add, Int.mul_one]
    omega
  · refine Int.lt_of_not_ge fun q => ?_
    have : G * 9007199254740992 ≤ G * k := Int.mul_le_mul_of_nonneg_left q (Int.le_of_lt hp)
    omega
theorem g3 {n : Int} {e : Nat} (hn : n.natAbs ≤ BIG) (hb : n.natAbs ≤ 2 ^ 53 * 2 ^ e) : 2 * (n - rnd n 1).natAbs ≤ 2 ^ e := by
  have hn' : n.natAbs ≤ BIG * 1 := by omega
  have hp : (0 : Int) < ((2 ^ e : Nat) : Int) := by have := Nat.two_pow_pos e; omega
  have near : ∀ {r : Int}, RepU r → (n - rnd n 1).natAbs ≤ (n - r).natAbs := fun {r} hr => by
    have := rnd_near (by decide) hn' hr
    simpa using this
  by_cases hz : n % ((2 ^ e : Nat) : Int) = 0
  · have := near (g1 (Int.dvd_of_emod_eq_zero hz) hb)
    rw [Int.sub_self] at this
    have h2 : (n - rnd n 1).natAbs = 0 := by simpa using this
    rw [h2]; exact Nat.zero_le _
  · have hbI : (n.natAbs : Int) ≤ ((2 ^ e : Nat) : Int) * 9007199254740992 := by
      have : ((n.natAbs : Nat) : Int) ≤ ((2 ^ 53 * 2 ^ e : Nat) : Int) := Int.ofNat_le.mpr hb
      rw [Int.natCast_mul, Int.mul_comm] at this
      exact this
    obtain ⟨k1, k2⟩ := floor_bd hp hbI hz
    have lo := near (repU_of (m := n / ((2 ^ e : Nat) : Int)) (e := e) (by omega))
    have hi := near (repU_of (m := n / ((2 ^ e : Nat) : Int) + 1) (e := e) (by omega))
    have hdm := Int.mul_ediv_add_emod n ((2 ^ e : Nat) : Int)
    have h0 := Int.emod_nonneg n (Int.ne_of_gt hp)
    have h1 := Int.emod_lt_of_pos n hp
    rw [Int.add_mul, Int.one_mul] at hi
    rw [Int.mul_comm] at lo hi
    generalize ((2 ^ e : Nat) : Int) * (n / ((2 ^ e : Nat) : Int)) = f at *
    generalize n % ((2 ^ e : Nat) : Int) = x at *
    generalize (n - rnd n 1).natAbs = w at *
    generalize 2 ^ e = G at *
    omega
theorem near1 {n r : Int} (hn : n.natAbs ≤ BIG) (hr : RepU r) : (n - rnd n 1).natAbs ≤ (n - r).natAbs := by
  have := rnd_near (n := n) (d := 1) (by decide) (by omega) hr
  simpa using this
theorem rep1 {n : Int} (hn : n.natAbs ≤ BIG) : RepU (rnd n 1) := rnd_rep (by decide) (by omega)
theorem exact1 {n : Int} (hn : n.natAbs ≤ BIG) (hr : RepU n) : rnd n 1 = n := rnd_exact (by decide) (by simp) (hr.rep hn)
theorem twice1 {n : Int} (hn : n.natAbs ≤ BIG) : (rnd n 1).natAbs ≤ 2 * n.natAbs := by
  have := near1 hn RepU.zero
  rw [Int.sub_zero] at this
  omega
/-- a number as great as a power rounds to one as great -/
theorem ge1 {n : Int} {e : Nat} (hn : n.natAbs ≤ BIG) (h : 2 ^ e ≤ n.natAbs) : 2 ^ e ≤ (rnd n 1).natAbs := by
  have r1 : RepU ((2 ^ e : Nat) : Int) := ⟨1, e, by simp, by decide⟩
  have n1 := near1 hn r1
  have n2 := near1 hn r1.neg
  omega
/-- the least grid for a number: 2^f with |n| ≤ 2^53 * 2^f, and |n| > 2^52 * 2^f unless f = 0 -/
theorem grid (n : Nat) : ∃ f : Nat, n ≤ 2 ^ 53 * 2 ^ f ∧ (f = 0 ∨ 2 ^ 52 * 2 ^ f < n) := by
  by_cases h : n ≤ 2 ^ 53
  · exact ⟨0, by omega, Or.inl rfl⟩
  · have h1 : 2 ^ (n - 1).log2 ≤ n - 1 := Nat.log2_self_le (by omega)
    have h2 : n - 1 < 2 ^ ((n - 1).log2 + 1) := Nat.lt_log2_self
    have h3 : 53 ≤ (n - 1).log2 := by
      refine Nat.le_of_not_lt fun q => ?_
      have : 2 ^ ((n - 1).log2 + 1) ≤ 2 ^ 53 := Nat.pow_le_pow_right (by decide) (by omega)
      omega
    refine ⟨(n - 1).log2 - 52, ?_, Or.inr ?_⟩
    · rw [← Nat.pow_add, show 53 + ((n - 1).log2 - 52) = (n - 1).log2 + 1 by omega]; omega
    · rw [← Nat.pow_add, show 52 + ((n - 1).log2 - 52) = (n - 1).log2 by omega]; omega
theorem dvd_le {a b : Nat} (h : a ≤ b) : ((2 ^ a : Nat) : Int) ∣ ((2 ^ b : Nat) : Int) := Int.natCast_dvd_natCast.mpr (Nat.pow_dvd_pow 2 h)
/-- the error of a sum is a double -/
theorem err_rep {a b : Int} (ha : RepU a) (hb : RepU b) (hn : (a + b).natAbs ≤ BIG) : RepU (a + b - rnd (a + b) 1) := by
  have na := near1 hn ha
  have nb := near1 hn hb
  obtain ⟨ma, ea, ea', hma⟩ := id ha
  obtain ⟨mb, eb, eb', hmb⟩ := id hb
  -- the lesser of the two exponents
  have key : ∀ e : Nat, e ≤ ea → e ≤ eb → (a.natAbs ≤ 2 ^ 53 * 2 ^ e ∨ b.natAbs ≤ 2 ^ 53 * 2 ^ e) → RepU (a + b - rnd (a + b) 1) := by
    intro e h1 h2 h3
    have da : ((2 ^ e : Nat) : Int) ∣ a := by rw [ea']; exact Int.dvd_trans (dvd_le h1) (Int.dvd_mul_left _ _)
    have db : ((2 ^ e : Nat) : Int) ∣ b := by rw [eb']; exact Int.dvd_trans (dvd_le h2) (Int.dvd_mul_left _ _)
    have ds : ((2 ^ e : Nat) : Int) ∣ a + b := Int.dvd_add da db
    by_cases hs : (a + b).natAbs ≤ 2 ^ 53 * 2 ^ e
    · rw [exact1 hn (g1 ds hs), Int.sub_self]; exact RepU.zero
    · have h4 : 2 ^ (52 + e) ≤ (a + b).natAbs := by rw [Nat.pow_add]; omega
      have h5 := ge1 hn h4
      rw [Nat.pow_add] at h5
      have dr := g2 (rep1 hn) h5
      refine g1 (Int.dvd_sub ds dr) ?_
      rw [show a + b - a = b by omega] at na
      rw [show a + b - b = a by omega] at nb
      omega
  by_cases hle : ea ≤ eb
  · refine key ea (Nat.le_refl _) hle (Or.inl ?_)
    rw [ea', Int.natAbs_mul, Int.natAbs_natCast]
    exact Nat.mul_le_mul_right _ (Nat.le_of_lt hma)
  · refine key eb (by omega) (Nat.le_refl _) (Or.inr ?_)
    rw [eb', Int.natAbs_mul, Int.natAbs_natCast]
    exact Nat.mul_le_mul_right _ (Nat.le_of_lt hmb)
/-- the greater summand taken off the rounded sum leaves a double -/
theorem fast_rep {a b : Int} (ha : RepU a) (hb : RepU b) (hab : b.natAbs ≤ a.natAbs) (hn : (a + b).natAbs ≤ BIG) : RepU (rnd (a + b) 1 - a) := by
  obtain ⟨f, hf1, hf2⟩ := grid (a + b).natAbs
  rcases Nat.eq_zero_or_pos f with h0 | h0
  · subst h0
    have : RepU (a + b) := g1 (e := 0) (by simp) hf1
    rw [exact1 hn this, show a + b - a = b by omega]; exact hb
  · have hf3 : 2 ^ 52 * 2 ^ f < (a + b).natAbs := by omega
    have hG : 2 ^ f = 2 * 2 ^ (f - 1) := by conv => lhs; rw [show f = f - 1 + 1 by omega, Nat.pow_succ, Nat.mul_comm]
    have h5 : 2 ^ 52 * 2 ^ f ≤ (rnd (a + b) 1).natAbs := by
      rw [← Nat.pow_add]
      exact ge1 hn (by rw [Nat.pow_add]; omega)
    have d3 := g3 hn hf1
    have ds := g2 (rep1 hn) h5
    by_cases hbig : 2 ^ 53 * 2 ^ (f - 1) ≤ b.natAbs
    · -- both lie on the grid of the sum: it is exact
      have db := g2 (e := f) hb (by omega)
      have da := g2 (e := f) ha (by omega)
      rw [exact1 hn (g1 (Int.dvd_add da db) hf1), show a + b - a = b by omega]; exact hb
    · have da : ((2 ^ (f - 1) : Nat) : Int) ∣ a := g2 (e := f - 1) ha (by omega)
      have ds' : ((2 ^ (f - 1) : Nat) : Int) ∣ rnd (a + b) 1 := Int.dvd_trans (dvd_le (by omega)) ds
      have dd := Int.dvd_sub ds' da
      obtain ⟨k, hk⟩ := dd
      rw [hk, Int.mul_comm]
      refine repU_of ?_
      have hkn : (rnd (a + b) 1 - a).natAbs = 2 ^ (f - 1) * k.natAbs := by rw [hk, Int.natAbs_mul, Int.natAbs_natCast]
      have hlt : 2 ^ (f - 1) * k.natAbs < 2 ^ (f - 1) * (2 ^ 53 + 1) := by
        rw [← hkn, Nat.mul_add, Nat.mul_one, Nat.mul_comm (2 ^ (f - 1)) (2 ^ 53)]
        generalize rnd (a + b) 1 = s at *
        omega
      have := Nat.lt_of_mul_lt_mul_left hlt
      omega
/-- the smaller summand first: what is taken from the rounded sum lies near the greater one -/
theorem near_rep {a b : Int} (ha : RepU a) (hb : RepU b) (hab : a.natAbs ≤ b.natAbs) (hn : (a + b).natAbs ≤ BIG) (hn2 : (rnd (a + b) 1 - a).natAbs ≤ BIG) : RepU (b - rnd (rnd (a + b) 1 - a) 1) := by
  obtain ⟨f, hf1, hf2⟩ := grid b.natAbs
  have d1 := g3 (e := f + 1) hn (by rw [Nat.pow_succ]; omega)
  rw [Nat.pow_succ] at d1
  have d2 := near1 hn2 hb
  have rx := rep1 hn2
  generalize hs : rnd (a + b) 1 = s at *
  generalize hx : rnd (s - a) 1 = x at *
  have hbx : (b - x).natAbs ≤ 2 * 2 ^ f := by omega
  rcases Nat.eq_zero_or_pos f with h0 | h0
  · subst h0
    exact g1 (e := 0) (by simp) (by omega)
  · have hG : 2 ^ f = 2 * 2 ^ (f - 1) := by conv => lhs; rw [show f = f - 1 + 1 by omega, Nat.pow_succ, Nat.mul_comm]
    have db := g2 (e := f - 1) hb (by omega)
    have hp := Nat.two_pow_pos (f - 1)
    have dx := g2 (e := f - 1) rx (by omega)
    exact g1 (Int.dvd_sub db dx) (by omega)
/-- KNUTH's two-sum -/
theorem two_sum {a b : Int} (ha : RepU a) (hb : RepU b) (ba : a.natAbs ≤ 2 ^ 1900) (bb : b.natAbs ≤ 2 ^ 1900) {s x aa da db r : Int} (hs : s = rnd (a + b) 1) (hx : x = rnd (s - a) 1) (haa : aa = rnd (s - x) 1) (hda : da = rnd (a - aa) 1) (hdb : db = rnd (b - x) 1) (hr : r = rnd (da + db) 1) : r = a + b - s := by
  have hB : 64 * 2 ^ 1900 ≤ BIG := by unfold BIG; rw [show (64 : Nat) = 2 ^ 6 from rfl, ← Nat.pow_add]; exact Nat.pow_le_pow_right (by decide) (by decide)
  generalize 2 ^ 1900 = M at *
  have n1 : (a + b).natAbs ≤ BIG := by omega
  have s2 : s.natAbs ≤ 4 * M := by have := twice1 n1; rw [← hs] at this; omega
  have n2 : (s - a).natAbs ≤ BIG := by omega
  have x2 : x.natAbs ≤ 10 * M := by have := twice1 n2; rw [← hx] at this; omega
  have n3 : (s - x).natAbs ≤ BIG := by omega
  have n4 : (b - x).natAbs ≤ BIG := by omega
  have rs : RepU s := hs ▸ rep1 n1
  have err := err_rep ha hb n1
  rw [← hs] at err
  have eb : (a + b - s).natAbs ≤ BIG := by omega
  -- what suffices: the three differences are exact
  have fin : aa = s - x → da = a - aa → db = b - x → r = a + b - s := by
    intro e1 e2 e3
    rw [hr, e2, e3, e1, show a - (s - x) + (b - x) = a + b - s by omega]
    exact exact1 eb err
  by_cases hab : b.natAbs ≤ a.natAbs
  · have rx := fast_rep ha hb hab n1
    rw [← hs] at rx
    have ex : x = s - a := by rw [hx]; exact exact1 n2 rx
    have e1 : aa = s - x := by rw [haa, ex, show s - (s - a) = a by omega]; exact exact1 (by omega) ha
    refine fin e1 ?_ ?_
    · rw [hda, e1, ex, show a - (s - (s - a)) = 0 by omega]; exact exact1 (Nat.zero_le _) RepU.zero
    · rw [hdb, ex, show b - (s - a) = a + b - s by omega]; exact exact1 eb err
  · have e3 : db = b - x := by
      have := near_rep ha hb (by omega) n1 (by rw [← hs]; exact n2)
      rw [← hs, ← hx] at this
      rw [hdb]; exact exact1 n4 this
    -- either the sum is exact, or it is as great as a
    have alt : s = a + b ∨ a.natAbs ≤ s.natAbs := by
      obtain ⟨f, hf1, hf2⟩ := grid a.natAbs
      have da' : ((2 ^ f : Nat) : Int) ∣ a := by
        rcases hf2 with h0 | h0
        · subst h0; simp
        · exact g2 ha (by omega)
      have db' : ((2 ^ f : Nat) : Int) ∣ b := by
        rcases hf2 with h0 | h0
        · subst h0; simp
        · exact g2 hb (by omega)
      by_cases hsm : (a + b).natAbs ≤ 2 ^ 53 * 2 ^ f
      · exact Or.inl (hs.trans (exact1 n1 (g1 (Int.dvd_add da' db') hsm)))
      · right
        have : 2 ^ (53 + f) ≤ (a + b).natAbs := by rw [Nat.pow_add]; omega
        have := ge1 n1 this
        rw [← hs, Nat.pow_add] at this
        omega
    rcases alt with es | hge
    · have ex : x = b := by rw [hx, es, show a + b - a = b by omega]; exact exact1 (by omega) hb
      have e1 : aa = s - x := by rw [haa, ex, es, show a + b - b = a by omega]; exact exact1 (by omega) ha
      refine fin e1 ?_ e3
      rw [hda, e1, ex, es, show a - (a + b - b) = 0 by omega]; exact exact1 (Nat.zero_le _) RepU.zero
    · have n2' : (s + -a).natAbs ≤ BIG := by rw [← Int.sub_eq_add_neg]; exact n2
      have r1 := fast_rep rs ha.neg (by rw [Int.natAbs_neg]; exact hge) n2'
      have r2 := err_rep rs ha.neg n2'
      rw [← Int.sub_eq_add_neg, ← hx] at r1 r2
      have e1 : aa = s - x := by
        rw [haa]; exact exact1 n3 (by have := r1.neg; rwa [show -(x - s) = s - x by omega] at this)
      refine fin e1 ?_ e3
      rw [hda, e1]
      exact exact1 (by omega) (by have := r2.neg; rwa [show -(s - a - x) = a - (s - x) by omega] at this)
/-- DEKKER's fast two-sum -/
theorem fast_two {a b : Int} (ha : RepU a) (hb : RepU b) (ba : a.natAbs ≤ 2 ^ 1900) (hab : b.natAbs ≤ a.natAbs) {s x r : Int} (hs : s = rnd (a + b) 1) (hx : x = rnd (s - a) 1) (hr : r = rnd (b - x) 1) : r = a + b - s := by
  have hB : 64 * 2 ^ 1900 ≤ BIG := by unfold BIG; rw [show (64 : Nat) = 2 ^ 6 from rfl, ← Nat.pow_add]; exact Nat.pow_le_pow_right (by decide) (by decide)
  generalize 2 ^ 1900 = M at *
  have n1 : (a + b).natAbs ≤ BIG := by omega
  have s2 : s.natAbs ≤ 4 * M := by have := twice1 n1; rw [← hs] at this; omega
  have n2 : (s - a).natAbs ≤ BIG := by omega
  have err := err_rep ha hb n1
  rw [← hs] at err
  have rx := fast_rep ha hb hab n1
  rw [← hs] at rx
  have ex : x = s - a := by rw [hx]; exact exact1 n2 rx
  rw [hr, ex, show b - (s - a) = a + b - s by omega]
  exact exact1 (by omega) err
end Jvm.OwnF
namespace Jvm.OwnF
open Jvm.FP Jvm.FP.Core
/-! rounded whole numbers; two-sum on doubles -/
theorem le1 {n : Int} {e : Nat} (hn : n.natAbs ≤ BIG) (h : n.natAbs ≤ 2 ^ e) : (rnd n 1).natAbs ≤ 2 ^ e := by
  have r1 : RepU ((2 ^ e : Nat) : Int) := ⟨1, e, by simp, by decide⟩
  have n1 := near1 hn r1
  have n2 := near1 hn r1.neg
  have n3 := near1 hn RepU.zero
  generalize 2 ^ e = P at *
  omega
theorem pow_big {k : Nat} (h : k ≤ 2000) : 2 ^ k ≤ BIG := by unfold BIG; exact Nat.pow_le_pow_right (by decide) h
theorem mulU {n : Int} {k : Nat} (h : n.natAbs ≤ 2 ^ k) (j : Nat) : (n * ((2 ^ j : Nat) : Int)).natAbs ≤ 2 ^ (k + j) := by
  rw [Int.natAbs_mul, Int.natAbs_natCast, Nat.pow_add]; exact Nat.mul_le_mul_right _ h
/-- rounding keeps the grid that both stand on -/
theorem dvd_round {n : Int} {j : Nat} (hn : n.natAbs ≤ BIG) (hd : ((2 ^ j : Nat) : Int) ∣ n) : ((2 ^ j : Nat) : Int) ∣ rnd n 1 := by
  by_cases h : n.natAbs ≤ 2 ^ 53 * 2 ^ j
  · rw [exact1 hn (g1 hd h)]; exact hd
  · have h1 : 2 ^ (53 + j) ≤ n.natAbs := by rw [Nat.pow_add]; omega
    have h2 := ge1 hn h1
    rw [Nat.pow_add] at h2
    exact g2 (rep1 hn) (by omega)
theorem DV.fl {n : Int} {k : Nat} {a : UInt64} (h : DV n k a) : RepU (V a) := (rep_V h.1).u
theorem DV_of_dvd {a : UInt64} {k : Nat} (hf : DFin a) (hk : k ≤ 1074) (hd : ((2 ^ (1074 - k) : Nat) : Int) ∣ V a) : ∃ n, DV n k a := by
  obtain ⟨n, hn⟩ := hd
  exact ⟨n, hf, hk, by rw [hn, Int.mul_comm]⟩
/-- a rounded value on the grid 2^-k -/
theorem round_int {a : UInt64} {n : Int} {k j : Nat} (hk : k ≤ 1074) (hj : j ≤ 900) (hf : DFin a) (hn : n.natAbs ≤ 2 ^ j) (hv : V a = rnd (n * ((2 ^ (1074 - k) : Nat) : Int)) 1) : ∃ A : Int, DV A k a ∧ A.natAbs ≤ 2 ^ j := by
  have hb : (n * ((2 ^ (1074 - k) : Nat) : Int)).natAbs ≤ 2 ^ (j + (1074 - k)) := mulU hn _
  have hB : (n * ((2 ^ (1074 - k) : Nat) : Int)).natAbs ≤ BIG := Nat.le_trans hb (pow_big (by omega))
  have hd := dvd_round hB (Int.dvd_mul_left n ((2 ^ (1074 - k) : Nat) : Int))
  rw [← hv] at hd
  obtain ⟨A, hA⟩ := DV_of_dvd hf hk hd
  refine ⟨A, hA, ?_⟩
  have := le1 hB hb
  rw [← hv, hA.2.2, Int.natAbs_mul, Int.natAbs_natCast, Nat.pow_add] at this
  exact Nat.le_of_mul_le_mul_right this (Nat.two_pow_pos _)
theorem V_bd {n : Int} {k j : Nat} {a : UInt64} (h : DV n k a) (hn : n.natAbs ≤ 2 ^ j) : (V a).natAbs ≤ 2 ^ (j + 1074) := by
  rw [h.2.2]
  exact Nat.le_trans (mulU hn _) (Nat.pow_le_pow_right (by decide) (by omega))
theorem V_dadd' {a b z : UInt64} (h : FP.dadd a b = z) (ha : DFin a) (hb : DFin b) (hB : (V a + V b).natAbs ≤ BIG) : DFin z ∧ V z = rnd (V a + V b) 1 := h ▸ V_dadd ha hb hB
theorem V_dsub' {a b z : UInt64} (h : FP.dsub a b = z) (ha : DFin a) (hb : DFin b) (hB : (V a - V b).natAbs ≤ BIG) : DFin z ∧ V z = rnd (V a - V b) 1 := h ▸ V_dsub ha hb hB
theorem bigM : 64 * 2 ^ 1900 ≤ BIG := by unfold BIG; rw [show (64 : Nat) = 2 ^ 6 from rfl, ← Nat.pow_add]; exact Nat.pow_le_pow_right (by decide) (by decide)
theorem tw {n : Int} {z : UInt64} {K : Nat} (hv : V z = rnd n 1) (hn : n.natAbs ≤ BIG) (h : n.natAbs ≤ K) : (V z).natAbs ≤ 2 * K := by
  have := twice1 hn; rw [← hv] at this; omega
theorem DV_two {a b s x aa da db r : UInt64} (fa : DFin a) (fb : DFin b) (ba : (V a).natAbs ≤ 2 ^ 1800) (bb : (V b).natAbs ≤ 2 ^ 1800) (hs : FP.dadd a b = s) (hx : FP.dsub s a = x) (haa : FP.dsub s x = aa) (hda : FP.dsub a aa = da) (hdb : FP.dsub b x = db) (hr : FP.dadd da db = r) :
    DFin s ∧ DFin x ∧ DFin aa ∧ DFin da ∧ DFin db ∧ DFin r ∧ V r = V a + V b - V s := by
  have hB : 1000 * 2 ^ 1800 ≤ BIG := by unfold BIG; refine Nat.le_trans (Nat.mul_le_mul_right _ (show 1000 ≤ 2 ^ 10 by decide)) ?_; rw [← Nat.pow_add]; exact Nat.pow_le_pow_right (by decide) (by decide)
  have hM : 2 ^ 1800 ≤ 2 ^ 1900 := Nat.pow_le_pow_right (by decide) (by decide)
  obtain ⟨fs, vs⟩ := V_dadd' hs fa fb (by omega)
  have b1 := tw (K := 2 * 2 ^ 1800) vs (by omega) (by omega)
  obtain ⟨fx, vx⟩ := V_dsub' hx fs fa (by omega)
  have b2 := tw (K := 5 * 2 ^ 1800) vx (by omega) (by omega)
  obtain ⟨faa, vaa⟩ := V_dsub' haa fs fx (by omega)
  have b3 := tw (K := 14 * 2 ^ 1800) vaa (by omega) (by omega)
  obtain ⟨fda, vda⟩ := V_dsub' hda fa faa (by omega)
  have b4 := tw (K := 29 * 2 ^ 1800) vda (by omega) (by omega)
  obtain ⟨fdb, vdb⟩ := V_dsub' hdb fb fx (by omega)
  have b5 := tw (K := 11 * 2 ^ 1800) vdb (by omega) (by omega)
  obtain ⟨fr, vr⟩ := V_dadd' hr fda fdb (by omega)
  exact ⟨fs, fx, faa, fda, fdb, fr, two_sum (rep_V fa).u (rep_V fb).u (by omega) (by omega) vs vx vaa vda vdb vr⟩
end Jvm.OwnF
namespace Jvm.OwnF
open Jvm.FP Jvm.FP.Core
/-! scaling by a power of two -/
theorem settle_shift {s : Bool} {c : Nat} {q : Int} {j : Nat} {t : Bool} {c' : Nat} {q' : Int} (h : settle b64 s c q = .fin t c' q') (hq : q + 1 + (j : Int) ≤ b64.qmax) : settle b64 s c (q + j) = .fin t c' (q' + j) := by
  unfold settle bound at h ⊢
  by_cases h1 : c < 2 ^ b64.p
  · rw [if_pos h1] at h ⊢
    rw [if_pos (by omega)] at h ⊢
    cases h; rfl
  · rw [if_neg h1] at h ⊢
    rw [if_pos (by omega)] at h ⊢
    cases h
    rw [show q + (j : Int) + 1 = q + 1 + (j : Int) by omega]
theorem rr_shift {s : Bool} {A B : Nat} {j : Nat} {c' : Nat} {q' : Int} {t : Bool} (hA : 0 < A) (hB : 0 < B) (hlead : 53 ≤ leading A B) (hup : leading A B + (j : Int) ≤ 1900) (h : roundRatio b64 s A B (-1074) = .fin t c' q') : roundRatio b64 s A B (-1074 + (j : Int)) = .fin t c' (q' + j) := by
  unfold roundRatio at h ⊢
  rw [if_neg (by omega)] at h ⊢
  have hq : quantum b64 A B (-1074 + (j : Int)) = quantum b64 A B (-1074) + j := by
    unfold quantum
    rw [qmin_b64, show ((b64.p : Nat) : Int) = 53 from rfl]
    omega
  have hqv : quantum b64 A B (-1074) = leading A B - 1126 := by
    unfold quantum
    rw [qmin_b64, show ((b64.p : Nat) : Int) = 53 from rfl]
    omega
  rw [hq]
  unfold roundAt at h ⊢
  have e1 : unitsNum A (-1074 + (j : Int)) (quantum b64 A B (-1074) + j) = unitsNum A (-1074) (quantum b64 A B (-1074)) := by
    unfold unitsNum; congr 3; omega
  have e2 : unitsDen B (-1074 + (j : Int)) (quantum b64 A B (-1074) + j) = unitsDen B (-1074) (quantum b64 A B (-1074)) := by
    unfold unitsDen; congr 3; omega
  rw [e1, e2]
  refine settle_shift h ?_
  rw [hqv, show b64.qmax = 971 by decide]
  omega
theorem leading_ge {A B k : Nat} (hA : 0 < A) (hB : 0 < B) (h : 2 ^ k * B ≤ A) : (k : Int) ≤ leading A B := by
  have h2 := (leading_spec hA hB).2
  refine Int.le_of_not_gt fun q => ?_
  have h3 : Below A B (k : Int) := below_mono (by omega) h2
  unfold Below at h3
  rw [show (-(k : Int)).toNat = 0 by omega, show (k : Int).toNat = k by omega, Nat.mul_comm] at h3
  rw [Nat.mul_comm B] at h3
  omega
theorem leading_le {A B k : Nat} (hA : 0 < A) (hB : 0 < B) (h : A < 2 ^ k * B) : leading A B < (k : Int) := by
  have h2 := (leading_spec hA hB).1
  refine Int.lt_of_not_ge fun q => ?_
  refine h2 (below_mono (a := (k : Int)) q ?_)
  unfold Below
  rw [show (-(k : Int)).toNat = 0 by omega, show (k : Int).toNat = k by omega]
  rw [Nat.mul_comm B]
  omega
/-- above the subnormals scaling by 2^j commutes with rounding -/
theorem rnd_scale {n : Int} {d j K : Nat} (hd : 0 < d) (h1 : 2 ^ 53 * d ≤ n.natAbs) (h2 : n.natAbs < 2 ^ K * d) (hj : K + j ≤ 1900) : rnd (n * ((2 ^ j : Nat) : Int)) d = rnd n d * ((2 ^ j : Nat) : Int) := by
  have hA : 0 < n.natAbs := Nat.lt_of_lt_of_le (Nat.mul_pos (by decide) hd) h1
  have hb : n.natAbs ≤ BIG * d := Nat.le_trans (Nat.le_of_lt h2) (Nat.mul_le_mul_right _ (pow_big (by omega)))
  have hP : (0 : Int) < ((2 ^ j : Nat) : Int) := by have := Nat.two_pow_pos j; omega
  obtain ⟨c, q, e1, e2, e3⟩ := rnd_fin hd hb
  have hl1 := leading_ge hA hd h1
  have hl2 := leading_le hA hd h2
  have hs := rr_shift (j := j) hA hd hl1 (by omega) e1
  have hneg : decide (n * ((2 ^ j : Nat) : Int) < 0) = decide (n < 0) := by
    rw [decide_eq_decide]
    constructor
    · intro t
      refine Int.lt_of_not_ge fun u => ?_
      have := Int.mul_nonneg u (Int.le_of_lt hP)
      omega
    · intro t; exact Int.mul_neg_of_neg_of_pos t hP
  have e4 : rnd (n * ((2 ^ j : Nat) : Int)) d = zval b64 (roundRatio b64 (decide (n < 0)) n.natAbs d (-1074 + (j : Int))) := by
    unfold rnd
    rw [hneg, Int.natAbs_mul, Int.natAbs_natCast]
    congr 1
    refine roundRatio_congr hd hd ?_
    rw [show (-1074 - (-1074 + (j : Int))).toNat = 0 by omega, show (-1074 + (j : Int) - -1074).toNat = j by omega, Nat.pow_zero, Nat.mul_one]
    ac_rfl
  rw [e4, hs, e3]
  show signed _ (inUnits c (q + j) b64.qmin) = _
  rw [← signed_mul, qmin_b64]
  congr 1
  unfold inUnits
  rw [Nat.mul_assoc, ← Nat.pow_add]
  congr 2
  have := e2.2.1
  rw [qmin_b64] at this
  omega
/-- on whole numbers of units scaling always commutes -/
theorem rnd_scale1 {n : Int} {j K : Nat} (h2 : n.natAbs < 2 ^ K) (hj : K + j ≤ 1900) (hj2 : j ≤ 1074) : rnd (n * ((2 ^ j : Nat) : Int)) 1 = rnd n 1 * ((2 ^ j : Nat) : Int) := by
  by_cases h : 2 ^ 53 ≤ n.natAbs
  · exact rnd_scale (K := K) (by decide) (by omega) (by omega) hj
  · have hr : R53 n := r53 (by omega)
    have b0 : n.natAbs ≤ BIG := Nat.le_trans (Nat.le_of_lt h2) (pow_big (by omega))
    have r0 : RepU n := by have := rep_R hr (k := 0) (by decide); rw [Nat.pow_zero] at this; simpa using this.u
    rw [exact1 b0 r0]
    exact exact1 (big_R hr (by omega)) (rep_R hr (by omega)).u
theorem DV.r53 {n : Int} {k j : Nat} {a : UInt64} (h : DV n k a) (hj : j ≤ 700) (hn : n.natAbs ≤ 2 ^ j) : R53 n := by
  obtain ⟨m, e, hm, hb⟩ := h.fl
  rw [h.2.2] at hm
  have hk := h.2.1
  have hP := Nat.two_pow_pos (1074 - k)
  by_cases hle : 1074 - k ≤ e
  · have e1 : n = m * ((2 ^ (e - (1074 - k)) : Nat) : Int) := by
      refine Int.eq_of_mul_eq_mul_right (a := ((2 ^ (1074 - k) : Nat) : Int)) (by omega) ?_
      rw [hm, Int.mul_assoc, ← Int.natCast_mul, ← Nat.pow_add]
      congr 4; omega
    by_cases hm0 : m = 0
    · exact ⟨0, 0, by rw [e1, hm0]; simp, by decide, by decide⟩
    · refine ⟨m, _, e1, Nat.le_of_lt hb, ?_⟩
      have h3 : 2 ^ (e - (1074 - k)) ≤ n.natAbs := by
        rw [e1, Int.natAbs_mul, Int.natAbs_natCast]; exact Nat.le_mul_of_pos_left _ (by omega)
      have h4 := (Nat.pow_le_pow_iff_right (by decide : 1 < 2)).mp (Nat.le_trans h3 hn)
      omega
  · refine Jvm.OwnF.r53 ?_
    have e1 : n * ((2 ^ (1074 - k - e) : Nat) : Int) = m := by
      have he := Nat.two_pow_pos e
      refine Int.eq_of_mul_eq_mul_right (a := ((2 ^ e : Nat) : Int)) (by omega) ?_
      rw [← hm, Int.mul_assoc, ← Int.natCast_mul, ← Nat.pow_add]
      congr 4; omega
    have h5 : n.natAbs ≤ m.natAbs := by
      rw [← e1, Int.natAbs_mul, Int.natAbs_natCast]; exact Nat.le_mul_of_pos_right _ (Nat.two_pow_pos _)
    omega
end Jvm.OwnF
namespace Jvm.OwnF
open Jvm.FP Jvm.FP.Core
theorem le_rep {n : Int} {r : Int} (hn : n.natAbs ≤ BIG) (hr : RepU r) (h : n.natAbs ≤ r.natAbs) : (rnd n 1).natAbs ≤ r.natAbs := by
  have n1 := near1 hn hr
  have n2 := near1 hn hr.neg
  have n3 := near1 hn RepU.zero
  omega
theorem round_int' {a : UInt64} {n B : Int} {k : Nat} (hk : k ≤ 1074) (hB : R53 B) (hf : DFin a) (hn : n.natAbs ≤ B.natAbs) (hv : V a = rnd (n * ((2 ^ (1074 - k) : Nat) : Int)) 1) : ∃ A : Int, DV A k a ∧ A.natAbs ≤ B.natAbs := by
  have hb : (n * ((2 ^ (1074 - k) : Nat) : Int)).natAbs ≤ (B * ((2 ^ (1074 - k) : Nat) : Int)).natAbs := by
    rw [Int.natAbs_mul, Int.natAbs_mul]; exact Nat.mul_le_mul_right _ hn
  have hBB := big_R hB (k := 1074 - k) (by omega)
  have hnB := Nat.le_trans hb hBB
  have hd := dvd_round hnB (Int.dvd_mul_left n ((2 ^ (1074 - k) : Nat) : Int))
  rw [← hv] at hd
  obtain ⟨A, hA⟩ := DV_of_dvd hf hk hd
  refine ⟨A, hA, ?_⟩
  have := le_rep hnB (rep_R hB (by omega)).u hb
  rw [← hv, hA.2.2, Int.natAbs_mul, Int.natAbs_mul, Int.natAbs_natCast] at this
  exact Nat.le_of_mul_le_mul_right this (Nat.two_pow_pos _)
theorem R53.mulp {n : Int} (h : n.natAbs ≤ 2 ^ 53) {e : Nat} (he : e ≤ 800) : R53 (n * ((2 ^ e : Nat) : Int)) := ⟨n, e, rfl, h, he⟩
theorem i32n {z : Int32} {K : Int} (h1 : 0 ≤ z.toInt) (h2 : z.toInt < K) : z.toInt = ((z.toInt.toNat : Nat) : Int) ∧ ((z.toInt.toNat : Nat) : Int) < K := by omega
theorem p2le {a b : Nat} (h : a ≤ b) : (2 : Nat) ^ a ≤ 2 ^ b := Nat.pow_le_pow_right (by decide) h
end Jvm.OwnF
namespace Jvm.OwnF
open Jvm.FP Jvm.FP.Core
/-- a quotient by a whole number -/
theorem V_divi {a c z : UInt64} {D : Int} (dc : DV D 0 c) (hD : 0 < D) (h : FP.ddiv a c = z) (ha : DFin a) (hb : (V a).natAbs ≤ BIG * D.natAbs) : DFin z ∧ V z = rnd (V a) D.natAbs := by
  have hU : (0 : Int) < (one64 : Int) := by have := one64_pos; omega
  have hvc : V c = D * (one64 : Int) := dc.2.2
  have hc0 : V c ≠ 0 := by rw [hvc]; exact Int.ne_of_gt (Int.mul_pos hD hU)
  have hcn : (V c).natAbs = D.natAbs * one64 := by rw [hvc, Int.natAbs_mul, Int.natAbs_natCast]
  have hDp : 0 < D.natAbs := by omega
  obtain ⟨fs, vs⟩ := V_ddiv ha dc.1 hc0 (by rw [hcn, ← Nat.mul_assoc]; exact Nat.mul_le_mul_right _ hb)
  rw [h] at fs vs
  have hsg : (V c).sign = 1 := by rw [hvc]; exact Int.sign_eq_one_of_pos (Int.mul_pos hD hU)
  refine ⟨fs, ?_⟩
  rw [vs, hsg, Int.mul_one, hcn]
  exact rnd_congr (Nat.mul_pos hDp one64_pos) hDp (by rw [Int.natCast_mul, Int.mul_assoc, Int.mul_comm (one64 : Int)])
/-- a positive divisor -/
theorem V_divp {a c z : UInt64} (fc : DFin c) (hc : 0 < V c) (h : FP.ddiv a c = z) (ha : DFin a) (hb : (V a).natAbs * one64 ≤ BIG * (V c).natAbs) : DFin z ∧ V z = rnd (V a * (one64 : Int)) (V c).natAbs := by
  obtain ⟨fs, vs⟩ := V_ddiv ha fc (by omega) hb
  rw [h] at fs vs
  rw [Int.sign_eq_one_of_pos hc, Int.mul_one] at vs
  exact ⟨fs, vs⟩
theorem V_dmul' {a b z : UInt64} (h : FP.dmul a b = z) (ha : DFin a) (hb : DFin b) (hB : (V a * V b).natAbs ≤ BIG * one64) : DFin z ∧ V z = rnd (V a * V b) one64 := h ▸ V_dmul ha hb hB
theorem leR {n : Int} {d e : Nat} (hd : 0 < d) (he : e ≤ 2000) (h : n.natAbs ≤ 2 ^ e * d) : (rnd n d).natAbs ≤ 2 ^ e := by
  have hn : n.natAbs ≤ BIG * d := Nat.le_trans h (Nat.mul_le_mul_right _ (pow_big he))
  have r1 : RepU ((2 ^ e : Nat) : Int) := ⟨1, e, by simp, by decide⟩
  have e1 : rnd ((2 ^ e : Nat) : Int) 1 = ((2 ^ e : Nat) : Int) := exact1 (by rw [Int.natAbs_natCast]; exact pow_big he) r1
  have b1 : (((2 ^ e : Nat) : Int)).natAbs ≤ BIG * 1 := by rw [Nat.mul_one, Int.natAbs_natCast]; exact pow_big he
  have hI : (n.natAbs : Int) ≤ ((2 ^ e : Nat) : Int) * (d : Int) := by rw [← Int.natCast_mul]; exact Int.ofNat_le.mpr h
  have u := rnd_mono hd (by decide) hn b1 (by rw [Int.natCast_one, Int.mul_one]; omega)
  have l := rnd_mono (n := -((2 ^ e : Nat) : Int)) (d := 1) (by decide) hd (by rw [Int.natAbs_neg]; exact b1) hn (by rw [Int.natCast_one, Int.mul_one, Int.neg_mul]; omega)
  rw [rnd_neg _ (by decide), e1] at l
  rw [e1] at u
  omega
theorem rnd_nonneg {n : Int} {d : Nat} (hd : 0 < d) (hn : n.natAbs ≤ BIG * d) (h : 0 ≤ n) : 0 ≤ rnd n d := by
  have e0 : rnd 0 1 = 0 := zval_zero _ _ _
  rw [← e0]
  exact rnd_mono (by decide) hd (Nat.zero_le _) hn (by simpa using h)
end Jvm.OwnF
namespace Jvm.OwnF
open Jvm.FP Jvm.FP.Core
/-- Double.isInfinite of a finite one -/
theorem abs_fin {d : UInt64} (hf : DFin d) : DFin (d &&& 0x7fffffffffffffff) := by
  rw [fin_bits] at hf ⊢
  rw [mask_toNat]; rw [Nat.mod_mod]; exact hf
theorem max_top {a : UInt64} (hf : DFin a) : V a ≤ V 9218868437227405311 := by
  have e : V 9218868437227405311 = 9007199254740991 * ((2 ^ 2045 : Nat) : Int) := by decide +kernel
  rw [e]
  obtain ⟨s, c, q, ea⟩ := hf
  have fa : Jvm.FP.Core.fits b64 (.fin s c q) := ea ▸ val64_fits a
  obtain ⟨h1, h2, h3, -⟩ := fa
  rw [qmin_b64] at h2
  rw [show b64.qmax = 971 by decide] at h3
  rw [show b64.p = 53 from rfl] at h1
  have hz : zmag b64 (val64 a) ≤ 9007199254740991 * 2 ^ 2045 := by
    rw [ea]
    show c * 2 ^ (q - b64.qmin).toNat ≤ _
    rw [qmin_b64]
    exact Nat.mul_le_mul (by omega) (Nat.pow_le_pow_right (by decide) (by omega))
  have hm := zmag_V a
  have : ((V a).natAbs : Int) ≤ ((9007199254740991 * 2 ^ 2045 : Nat) : Int) := by rw [← hm]; exact Int.ofNat_le.mpr hz
  rw [Int.natCast_mul] at this
  have h5 : V a ≤ ((V a).natAbs : Int) := by omega
  exact Int.le_trans h5 this
theorem inf_no {d z : UInt64} {w : Int32} (hf : DFin d) (h1 : d &&& 0x7fffffffffffffff = z) (h2 : Op.cmpValue (FP.dcmp z 9218868437227405311) .l = w) : ¬ (0 : Int32) < w := by
  have fz : DFin z := h1 ▸ abs_fin hf
  have fm : DFin 9218868437227405311 := (fin_bits _).mpr (by decide)
  have k := cmpv_V fz fm .l
  rcases Int.lt_or_eq_of_le (max_top fz) with t | t
  · rw [← h2, k.1 t]; decide
  · rw [← h2, k.2.1 t]; decide
end Jvm.OwnF
namespace Jvm.Pilot.@@N@@
open Jvm Jvm.ClassFile Sem Op Lib Jvm.Free Jvm.Stand Jvm.LawKit Jvm.RoadKit Bundle Jvm.Pilot.@@N@@.Jvm.D
open Jvm.OwnF in
theorem sh11 {p z : Int32} {l : Int64} (h : p >>> ((11 : Int32) &&& 31) = z) (h2 : z.toInt64 = l) : l.toInt.natAbs ≤ 1048576 := by
  have := c_ishr p 11 11 (by decide)
  rw [h, show ((2 ^ 11 : Nat) : Int) = 2048 by decide] at this
  have := rng32 p
  rw [i2l_v h2]; omega
open Jvm.OwnF in
theorem m255 {x z : Int32} {l : Int64} (h : x &&& (255 : Int32) = z) (h2 : z.toInt64 = l) : 0 ≤ l.toInt ∧ l.toInt ≤ 255 := by
  have := c_mask x 255 8 (by decide) (by decide)
  rw [h, show ((2 ^ 8 : Nat) : Int) = 256 by decide] at this
  rw [i2l_v h2]; omega
open Jvm.OwnF in
theorem m7 {x z : Int32} (h : x &&& (7 : Int32) = z) : ∃ k : Nat, k ≤ 7 ∧ z.toInt = (k : Int) := by
  have := c_mask x 7 3 (by decide) (by decide)
  rw [h, show ((2 ^ 3 : Nat) : Int) = 8 by decide] at this
  exact ⟨z.toInt.toNat, by omega, by omega⟩
open Jvm.OwnF in
theorem sh1 {q : Int32} {z : Int64} {k : Nat} (h : (1 : Int64) <<< (q &&& 0x3f).toInt64 = z) (hq : q.toInt = (k : Int)) (hk : k ≤ 21) : z.toInt = ((2 ^ k : Nat) : Int) := by
  have p := p2le hk
  have := lshl_v (k := k) h hq (by omega) (by rw [show (1 : Int64).toInt = 1 by decide, Int.one_mul, Int.natAbs_natCast]; omega)
  rw [show (1 : Int64).toInt = 1 by decide, Int.one_mul] at this; exact this
open Jvm.OwnF in
theorem dpow {z : Int64} {d : UInt64} {k : Nat} (h : FP.l2d z = d) (hz : z.toInt = ((2 ^ k : Nat) : Int)) (hk : k ≤ 21) : DV ((2 ^ k : Nat) : Int) 0 d := by
  have p := p2le hk
  exact h ▸ (DV_l2d (r53 (by rw [hz, Int.natAbs_natCast]; omega))).of_eq hz
open Jvm.OwnF in
/-- of(): its three terms over one power -/
theorem ofv {D E C DW EW CW : Int} {db eb cb : Nat} {d e cu dw ew cw md me z5 z10 z16 z21 z22 z29 z30 : UInt64} (h1 : db ≤ 7) (h2 : eb ≤ 7) (h3 : cb ≤ 7) (bD : D.natAbs ≤ 1048576) (bE : E.natAbs ≤ 1048576) (bC : C.natAbs ≤ 1048576) (bw1 : DW.natAbs ≤ 255) (bw2 : EW.natAbs ≤ 255) (bw3 : CW.natAbs ≤ 255)
    (dd : DV D 0 d) (de : DV E 0 e) (dc : DV C cb cu) (ddw : DV DW 0 dw) (dew : DV EW 0 ew) (dcw : DV CW 0 cw) (dmd : DV ((2 ^ db : Nat) : Int) 0 md) (dme : DV ((2 ^ eb : Nat) : Int) 0 me)
    (k5 : FP.dmul dw d = z5) (k10 : FP.ddiv z5 md = z10) (k16 : FP.dmul ew e = z16) (k21 : FP.ddiv z16 me = z21) (k22 : FP.dadd z10 z21 = z22) (k29 : FP.dmul cw cu = z29) (k30 : FP.dadd z22 z29 = z30) :
    Jvm.Free.Fl.NoNaN64 z5 ∧ Jvm.Free.Fl.NoNaN64 z10 ∧ Jvm.Free.Fl.NoNaN64 z16 ∧ Jvm.Free.Fl.NoNaN64 z21 ∧ Jvm.Free.Fl.NoNaN64 z22 ∧ Jvm.Free.Fl.NoNaN64 z29 ∧ Jvm.Free.Fl.NoNaN64 z30 ∧
    DV (DW * D * ((2 ^ (eb + cb) : Nat) : Int) + EW * E * ((2 ^ (db + cb) : Nat) : Int) + CW * C * ((2 ^ (db + eb) : Nat) : Int)) (db + eb + cb) z30 ∧
    (DW * D * ((2 ^ (eb + cb) : Nat) : Int)).natAbs ≤ 2 ^ 43 ∧ (EW * E * ((2 ^ (db + cb) : Nat) : Int)).natAbs ≤ 2 ^ 43 ∧ (CW * C * ((2 ^ (db + eb) : Nat) : Int)).natAbs ≤ 2 ^ 43 ∧ (DW * D).natAbs ≤ 2 ^ 28 ∧ (EW * E).natAbs ≤ 2 ^ 28 ∧ (CW * C).natAbs ≤ 2 ^ 28 := by
  have m1 := mul_bd bw1 bD; have m2 := mul_bd bw2 bE; have m3 := mul_bd bw3 bC
  have q1 := p2le (show eb + cb ≤ 14 by omega); have q2 := p2le (show db + cb ≤ 14 by omega); have q3 := p2le (show db + eb ≤ 14 by omega)
  have n1 : (DW * D * ((2 ^ (eb + cb) : Nat) : Int)).natAbs ≤ 255 * 1048576 * 16384 := mul_bd m1 (by rw [Int.natAbs_natCast]; omega)
  have n2 : (EW * E * ((2 ^ (db + cb) : Nat) : Int)).natAbs ≤ 255 * 1048576 * 16384 := mul_bd m2 (by rw [Int.natAbs_natCast]; omega)
  have n3 : (CW * C * ((2 ^ (db + eb) : Nat) : Int)).natAbs ≤ 255 * 1048576 * 16384 := mul_bd m3 (by rw [Int.natAbs_natCast]; omega)
  have d5 : DV (DW * D) 0 z5 := k5 ▸ DV_mul ddw dd (by decide) (r53 (by omega))
  have d10 : DV (DW * D) db z10 := k10 ▸ DV_div d5 dmd (by omega) (by have := Nat.two_pow_pos db; omega) (r53 (by omega)) (by rw [Nat.zero_add]; simp)
  have d16 : DV (EW * E) 0 z16 := k16 ▸ DV_mul dew de (by decide) (r53 (by omega))
  have d21 : DV (EW * E) eb z21 := k21 ▸ DV_div d16 dme (by omega) (by have := Nat.two_pow_pos eb; omega) (r53 (by omega)) (by rw [Nat.zero_add]; simp)
  have d29 : DV (CW * C) cb z29 := by have := k29 ▸ DV_mul dcw dc (by omega) (r53 (by omega)); rw [Nat.zero_add] at this; exact this
  have r1 := p2le (show eb ≤ 7 from h2); have r2 := p2le (show db ≤ 7 from h1)
  have n4 : (DW * D * ((2 ^ eb : Nat) : Int)).natAbs ≤ 255 * 1048576 * 128 := mul_bd m1 (by rw [Int.natAbs_natCast]; omega)
  have n5 : (EW * E * ((2 ^ db : Nat) : Int)).natAbs ≤ 255 * 1048576 * 128 := mul_bd m2 (by rw [Int.natAbs_natCast]; omega)
  have e10 := d10.up eb (by omega)
  have e21 := d21.up db (by omega)
  rw [Nat.add_comm eb db] at e21
  have d22 := k22 ▸ DV_add e10 e21 (r53 (by omega))
  have e22 := d22.up cb (by omega)
  have e29 := d29.up (db + eb) (by omega)
  rw [Nat.add_comm cb (db + eb)] at e29
  have es : (DW * D * ((2 ^ eb : Nat) : Int) + EW * E * ((2 ^ db : Nat) : Int)) * ((2 ^ cb : Nat) : Int) = DW * D * ((2 ^ (eb + cb) : Nat) : Int) + EW * E * ((2 ^ (db + cb) : Nat) : Int) := by
    rw [Int.add_mul, Nat.pow_add, Nat.pow_add, Int.natCast_mul, Int.natCast_mul]; ac_rfl
  rw [es] at e22
  have d30 := k30 ▸ DV_add e22 e29 (r53 (by omega))
  exact ⟨d5.nn, d10.nn, d16.nn, d21.nn, d22.nn, d29.nn, d30.nn, d30, by omega, by omega, by omega, by omega, by omega, by omega⟩
open Jvm.OwnF in
theorem pos0 {d z : UInt64} {n : Int} {w6 w7 : Int32} (dd : DV n 0 d) (hn : 0 < n) (h6 : cmpValue (FP.dcmp d FP.dconst0) .l = w6) (h1 : d &&& 0x7fffffffffffffff = z) (h7 : cmpValue (FP.dcmp z 9218868437227405311) .l = w7) : 0 < w6 ∧ Jvm.Free.Fl.NoNaN64 d ∧ ¬ 0 < w7 :=
  ⟨by rw [← h6, (DV_cmp dd DV_0 .l).2.2 hn]; decide, dd.nn, inf_no dd.1 h1 h7⟩
open Jvm.OwnF in
theorem nn0 {d z : UInt64} {n : Int} {w6 w7 : Int32} (dd : DV n 0 d) (hn : 0 ≤ n) (h6 : cmpValue (FP.dcmp d FP.dconst0) .l = w6) (h1 : d &&& 0x7fffffffffffffff = z) (h7 : cmpValue (FP.dcmp z 9218868437227405311) .l = w7) : ¬ w6 < 0 ∧ Jvm.Free.Fl.NoNaN64 d ∧ ¬ 0 < w7 := by
  refine ⟨?_, dd.nn, inf_no dd.1 h1 h7⟩
  have k := DV_cmp dd DV_0 .l
  rcases Int.lt_or_eq_of_le hn with t | t
  · rw [← h6, k.2.2 t]; decide
  · rw [← h6, k.2.1 t.symm]; decide
theorem d2_0 : decode jdk_30_method_1_code 0 = .ok (.aload_n 0, 1) := by decide +kernel
theorem d2_1 : decode jdk_30_method_1_code 1 = .ok (.invokespecial 1, 3) := by decide +kernel
theorem d2_4 : decode jdk_30_method_1_code 4 = .ok (.return_, 1) := by decide +kernel
theorem pn_0 : plainName "java/lang/Record" = true := by first | (simp [plainName, overriddenIn]; done) | decide +kernel
theorem ef_rm2 (m : MethodId) (o0 : Addr) : entryFrame m #[(.ref o0)] 1 = mkF m 0 #[.val (.ref o0)] [] := by first | (simp [entryFrame, mkF, argsToLocals, Value.category]; done) | rfl
theorem d4_0 : decode jdk_117_method_7_code 0 = .ok (.dload_n 0, 1) := by decide +kernel
theorem d4_1 : decode jdk_117_method_7_code 1 = .ok (.invokestatic 38, 3) := by decide +kernel
theorem pd_0 : parseMethodDescriptor "(D)D" = some ⟨[.double], some .double⟩ := by decide +kernel
theorem d4_4 : decode jdk_117_method_7_code 4 = .ok (.ldc2_w 111, 3) := by decide +kernel
theorem d4_7 : decode jdk_117_method_7_code 7 = .ok (.dcmp .l, 1) := by decide +kernel
theorem d4_8 : decode jdk_117_method_7_code 8 = .ok (.ifCond .le 7, 3) := by decide +kernel
theorem d4_15 : decode jdk_117_method_7_code 15 = .ok (.iconst 0, 1) := by decide +kernel
theorem d4_16 : decode jdk_117_method_7_code 16 = .ok (.ireturn, 1) := by decide +kernel
theorem pn_1 : plainName "java/lang/Double" = true := by first | (simp [plainName, overriddenIn]; done) | decide +kernel
theorem ef_rm4 (m : MethodId) (d0 : UInt64) : entryFrame m #[(.double d0)] 2 = mkF m 0 #[.val (.double d0), .second] [] := by first | (simp [entryFrame, mkF, argsToLocals, Value.category]; done) | rfl
theorem d1_0 : decode prog_31_method_1_code 0 = .ok (.aload_n 0, 1) := by decide +kernel
theorem d1_1 : decode prog_31_method_1_code 1 = .ok (.invokespecial 1, 3) := by decide +kernel
theorem pd_1 : parseMethodDescriptor "()V" = some ⟨[], none⟩ := by decide +kernel
theorem d1_4 : decode prog_31_method_1_code 4 = .ok (.dload_n 1, 1) := by decide +kernel
theorem d1_5 : decode prog_31_method_1_code 5 = .ok (.dconst 0, 1) := by decide +kernel
theorem d1_6 : decode prog_31_method_1_code 6 = .ok (.dcmp .l, 1) := by decide +kernel
theorem d1_7 : decode prog_31_method_1_code 7 = .ok (.ifCond .le 10, 3) := by decide +kernel
theorem d1_10 : decode prog_31_method_1_code 10 = .ok (.dload_n 1, 1) := by decide +kernel
theorem d1_11 : decode prog_31_method_1_code 11 = .ok (.invokestatic 7, 3) := by decide +kernel
theorem pd_2 : parseMethodDescriptor "(D)Z" = some ⟨[.double], some .boolean⟩ := by decide +kernel
theorem d1_14 : decode prog_31_method_1_code 14 = .ok (.ifCond .eq 17, 3) := by decide +kernel
theorem d1_31 : decode prog_31_method_1_code 31 = .ok (.dload_n 3, 1) := by decide +kernel
theorem d1_32 : decode prog_31_method_1_code 32 = .ok (.dconst 0, 1) := by decide +kernel
theorem d1_33 : decode prog_31_method_1_code 33 = .ok (.dcmp .l, 1) := by decide +kernel
theorem d1_34 : decode prog_31_method_1_code 34 = .ok (.ifCond .le 10, 3) := by decide +kernel
theorem d1_37 : decode prog_31_method_1_code 37 = .ok (.dload_n 3, 1) := by decide +kernel
theorem d1_38 : decode prog_31_method_1_code 38 = .ok (.invokestatic 7, 3) := by decide +kernel
theorem d1_41 : decode prog_31_method_1_code 41 = .ok (.ifCond .eq 17, 3) := by decide +kernel
theorem d1_58 : decode prog_31_method_1_code 58 = .ok (.iconst 3, 1) := by decide +kernel
theorem d1_59 : decode prog_31_method_1_code 59 = .ok (.newarray .double, 2) := by decide +kernel
theorem d1_61 : decode prog_31_method_1_code 61 = .ok (.dup, 1) := by decide +kernel
theorem d1_62 : decode prog_31_method_1_code 62 = .ok (.iconst 0, 1) := by decide +kernel
theorem d1_63 : decode prog_31_method_1_code 63 = .ok (.dload 5, 2) := by decide +kernel
theorem d1_65 : decode prog_31_method_1_code 65 = .ok (.dastore, 1) := by decide +kernel
theorem d1_66 : decode prog_31_method_1_code 66 = .ok (.dup, 1) := by decide +kernel
theorem d1_67 : decode prog_31_method_1_code 67 = .ok (.iconst 1, 1) := by decide +kernel
theorem d1_68 : decode prog_31_method_1_code 68 = .ok (.dload 7, 2) := by decide +kernel
theorem d1_70 : decode prog_31_method_1_code 70 = .ok (.dastore, 1) := by decide +kernel
theorem d1_71 : decode prog_31_method_1_code 71 = .ok (.dup, 1) := by decide +kernel
theorem d1_72 : decode prog_31_method_1_code 72 = .ok (.iconst 2, 1) := by decide +kernel
theorem d1_73 : decode prog_31_method_1_code 73 = .ok (.dload 9, 2) := by decide +kernel
theorem d1_75 : decode prog_31_method_1_code 75 = .ok (.dastore, 1) := by decide +kernel
theorem d1_76 : decode prog_31_method_1_code 76 = .ok (.astore 11, 2) := by decide +kernel
theorem d1_78 : decode prog_31_method_1_code 78 = .ok (.aload 11, 2) := by decide +kernel
theorem d1_80 : decode prog_31_method_1_code 80 = .ok (.astore 12, 2) := by decide +kernel
theorem d1_82 : decode prog_31_method_1_code 82 = .ok (.aload 12, 2) := by decide +kernel
theorem d1_84 : decode prog_31_method_1_code 84 = .ok (.arraylength, 1) := by decide +kernel
theorem d1_85 : decode prog_31_method_1_code 85 = .ok (.istore 13, 2) := by decide +kernel
theorem d1_87 : decode prog_31_method_1_code 87 = .ok (.iconst 0, 1) := by decide +kernel
theorem d1_88 : decode prog_31_method_1_code 88 = .ok (.istore 14, 2) := by decide +kernel
theorem d1_90 : decode prog_31_method_1_code 90 = .ok (.iload 14, 2) := by decide +kernel
theorem d1_92 : decode prog_31_method_1_code 92 = .ok (.iload 13, 2) := by decide +kernel
theorem d1_94 : decode prog_31_method_1_code 94 = .ok (.if_icmp .ge 46, 3) := by decide +kernel
theorem d1_97 : decode prog_31_method_1_code 97 = .ok (.aload 12, 2) := by decide +kernel
theorem d1_99 : decode prog_31_method_1_code 99 = .ok (.iload 14, 2) := by decide +kernel
theorem d1_101 : decode prog_31_method_1_code 101 = .ok (.daload, 1) := by decide +kernel
theorem d1_102 : decode prog_31_method_1_code 102 = .ok (.dstore 15, 2) := by decide +kernel
theorem d1_104 : decode prog_31_method_1_code 104 = .ok (.dload 15, 2) := by decide +kernel
theorem d1_106 : decode prog_31_method_1_code 106 = .ok (.dconst 0, 1) := by decide +kernel
theorem d1_107 : decode prog_31_method_1_code 107 = .ok (.dcmp .l, 1) := by decide +kernel
theorem d1_108 : decode prog_31_method_1_code 108 = .ok (.ifCond .lt 11, 3) := by decide +kernel
theorem d1_111 : decode prog_31_method_1_code 111 = .ok (.dload 15, 2) := by decide +kernel
theorem d1_113 : decode prog_31_method_1_code 113 = .ok (.invokestatic 7, 3) := by decide +kernel
theorem d1_116 : decode prog_31_method_1_code 116 = .ok (.ifCond .eq 18, 3) := by decide +kernel
theorem d1_134 : decode prog_31_method_1_code 134 = .ok (.iinc 14 1, 3) := by decide +kernel
theorem d1_137 : decode prog_31_method_1_code 137 = .ok (.goto (-47), 3) := by decide +kernel
theorem d1_140 : decode prog_31_method_1_code 140 = .ok (.dload 5, 2) := by decide +kernel
theorem d1_142 : decode prog_31_method_1_code 142 = .ok (.dconst 0, 1) := by decide +kernel
theorem d1_143 : decode prog_31_method_1_code 143 = .ok (.dcmp .l, 1) := by decide +kernel
theorem d1_144 : decode prog_31_method_1_code 144 = .ok (.ifCond .ne 20, 3) := by decide +kernel
theorem d1_164 : decode prog_31_method_1_code 164 = .ok (.aload_n 0, 1) := by decide +kernel
theorem d1_165 : decode prog_31_method_1_code 165 = .ok (.dload_n 1, 1) := by decide +kernel
theorem d1_166 : decode prog_31_method_1_code 166 = .ok (.putfield 26, 3) := by decide +kernel
theorem d1_169 : decode prog_31_method_1_code 169 = .ok (.aload_n 0, 1) := by decide +kernel
theorem d1_170 : decode prog_31_method_1_code 170 = .ok (.dload_n 3, 1) := by decide +kernel
theorem d1_171 : decode prog_31_method_1_code 171 = .ok (.putfield 32, 3) := by decide +kernel
theorem d1_174 : decode prog_31_method_1_code 174 = .ok (.aload_n 0, 1) := by decide +kernel
theorem d1_175 : decode prog_31_method_1_code 175 = .ok (.dload 5, 2) := by decide +kernel
theorem d1_177 : decode prog_31_method_1_code 177 = .ok (.putfield 35, 3) := by decide +kernel
theorem d1_180 : decode prog_31_method_1_code 180 = .ok (.aload_n 0, 1) := by decide +kernel
theorem d1_181 : decode prog_31_method_1_code 181 = .ok (.dload 7, 2) := by decide +kernel
theorem d1_183 : decode prog_31_method_1_code 183 = .ok (.putfield 38, 3) := by decide +kernel
theorem d1_186 : decode prog_31_method_1_code 186 = .ok (.aload_n 0, 1) := by decide +kernel
theorem d1_187 : decode prog_31_method_1_code 187 = .ok (.dload 9, 2) := by decide +kernel
theorem d1_189 : decode prog_31_method_1_code 189 = .ok (.putfield 41, 3) := by decide +kernel
theorem d1_192 : decode prog_31_method_1_code 192 = .ok (.return_, 1) := by decide +kernel
theorem pn_2 : plainName "com/example/fleetwave/fleetwave/model/CacheCost" = true := by first | (simp [plainName, overriddenIn]; done) | decide +kernel
theorem ef_rm1_t (m : MethodId) (o0 : Addr) (d1 : UInt64) (d2 : UInt64) (d3 : UInt64) (d4 : UInt64) (d5 : UInt64) : entryFrame m #[(.ref o0), (.double d1), (.double d2), (.double d3), (.double d4), (.double d5)] 17 = mkF m 0 #[.val (.ref o0), .val (.double d1), .second, .val (.double d2), .second, .val (.double d3), .second, .val (.double d4), .second, .val (.double d5), .second, .unset, .unset, .unset, .unset, .unset, .unset] [] := by first | (simp [entryFrame, mkF, argsToLocals, Value.category]; done) | rfl
theorem d1_147 : decode prog_31_method_1_code 147 = .ok (.dload 7, 2) := by decide +kernel
theorem d1_149 : decode prog_31_method_1_code 149 = .ok (.dconst 0, 1) := by decide +kernel
theorem d1_150 : decode prog_31_method_1_code 150 = .ok (.dcmp .l, 1) := by decide +kernel
theorem d1_151 : decode prog_31_method_1_code 151 = .ok (.ifCond .ne 13, 3) := by decide +kernel
theorem ef_rm1_f (m : MethodId) (o0 : Addr) (d1 : UInt64) (d2 : UInt64) (d3 : UInt64) (d4 : UInt64) (d5 : UInt64) : entryFrame m #[(.ref o0), (.double d1), (.double d2), (.double d3), (.double d4), (.double d5)] 17 = mkF m 0 #[.val (.ref o0), .val (.double d1), .second, .val (.double d2), .second, .val (.double d3), .second, .val (.double d4), .second, .val (.double d5), .second, .unset, .unset, .unset, .unset, .unset, .unset] [] := by first | (simp [entryFrame, mkF, argsToLocals, Value.category]; done) | rfl
theorem d6_0 : decode prog_31_method_2_code 0 = .ok (.aload_n 0, 1) := by decide +kernel
theorem d6_1 : decode prog_31_method_2_code 1 = .ok (.getfield 35, 3) := by decide +kernel
theorem d6_4 : decode prog_31_method_2_code 4 = .ok (.dload_n 1, 1) := by decide +kernel
theorem d6_5 : decode prog_31_method_2_code 5 = .ok (.dmul, 1) := by decide +kernel
theorem d6_6 : decode prog_31_method_2_code 6 = .ok (.aload_n 0, 1) := by decide +kernel
theorem d6_7 : decode prog_31_method_2_code 7 = .ok (.getfield 26, 3) := by decide +kernel
theorem d6_10 : decode prog_31_method_2_code 10 = .ok (.ddiv, 1) := by decide +kernel
theorem d6_11 : decode prog_31_method_2_code 11 = .ok (.aload_n 0, 1) := by decide +kernel
theorem d6_12 : decode prog_31_method_2_code 12 = .ok (.getfield 38, 3) := by decide +kernel
theorem d6_15 : decode prog_31_method_2_code 15 = .ok (.dload_n 3, 1) := by decide +kernel
theorem d6_16 : decode prog_31_method_2_code 16 = .ok (.dmul, 1) := by decide +kernel
theorem d6_17 : decode prog_31_method_2_code 17 = .ok (.aload_n 0, 1) := by decide +kernel
theorem d6_18 : decode prog_31_method_2_code 18 = .ok (.getfield 32, 3) := by decide +kernel
theorem d6_21 : decode prog_31_method_2_code 21 = .ok (.ddiv, 1) := by decide +kernel
theorem d6_22 : decode prog_31_method_2_code 22 = .ok (.dadd, 1) := by decide +kernel
theorem d6_23 : decode prog_31_method_2_code 23 = .ok (.aload_n 0, 1) := by decide +kernel
theorem d6_24 : decode prog_31_method_2_code 24 = .ok (.getfield 41, 3) := by decide +kernel
theorem d6_27 : decode prog_31_method_2_code 27 = .ok (.dload 5, 2) := by decide +kernel
theorem d6_29 : decode prog_31_method_2_code 29 = .ok (.dmul, 1) := by decide +kernel
theorem d6_30 : decode prog_31_method_2_code 30 = .ok (.dadd, 1) := by decide +kernel
theorem d6_31 : decode prog_31_method_2_code 31 = .ok (.dreturn, 1) := by decide +kernel
theorem ef_rm6 (m : MethodId) (o0 : Addr) (d1 : UInt64) (d2 : UInt64) (d3 : UInt64) : entryFrame m #[(.ref o0), (.double d1), (.double d2), (.double d3)] 7 = mkF m 0 #[.val (.ref o0), .val (.double d1), .second, .val (.double d2), .second, .val (.double d3), .second] [] := by first | (simp [entryFrame, mkF, argsToLocals, Value.category]; done) | rfl
theorem pd_3 : parseMethodDescriptor "(DDDDD)V" = some ⟨[.double, .double, .double, .double, .double], none⟩ := by decide +kernel
theorem pd_4 : parseMethodDescriptor "(DDD)D" = some ⟨[.double, .double, .double], some .double⟩ := by decide +kernel
theorem pn_3 : plainName "com/example/fleetwave/fleetwave/model/CacheCostOfPinLaw" = true := by first | (simp [plainName, overriddenIn]; done) | decide +kernel
theorem ef_rm0 (m : MethodId) (p0 : Int32) (p1 : Int32) (p2 : Int32) (p3 : Int32) (p4 : Int32) : entryFrame m #[(.int p0), (.int p1), (.int p2), (.int p3), (.int p4)] maxLocals = mkF m 0 #[.val (.int p0), .val (.int p1), .val (.int p2), .val (.int p3), .val (.int p4), .unset, .unset, .unset, .unset, .unset, .unset, .unset, .unset, .unset, .unset, .unset, .unset, .unset, .unset, .unset, .unset, .unset, .unset, .unset, .unset, .unset, .unset, .unset, .unset, .unset, .unset] [] := by first | (simp [entryFrame, mkF, argsToLocals, Value.category, maxLocals]; done) | rfl
def Q2 (Z : State) (o0 : Addr)  (h0 : Heap) (n0 : Nat) (v : Option Value) (h : Heap) (L : List Loc) : Prop := v = none ∧ Fr n0 L ∧ h = h0
set_option maxRecDepth 65536 in
set_option maxHeartbeats 40000000 in
theorem rm2 (l : Launch) (Z : State) (a0 : Array Value) (hw : ∀ d ∈ tables_1, d.before a0 Z = true) (ws : List Jvm.Cond) (o0 : Addr)  (h0 : Heap) (n0 : Nat) (Z0 : n0 ≤ h0.size)  :
    MetFree l (⟨"java/lang/Record", "<init>", "()V"⟩ : MethodName) (head1 (Jvm.Cond.code (⟨"java/lang/Record", "<init>", "()V"⟩ : MethodName) jdk_30_method_1_code 1 none :: ws) ({ frames := 1, cells := 0, slots := 0, locals := 12 } : Room)) (fun a U => a = #[(.ref o0)] ∧ Z.Warmed39 U.vm ∧ U.heap = h0) (fun _ _ _ _ _ => True) (fun _ U o U' => ∃ v L, o = .returned v ∧ Q2 Z o0  h0 n0 v U'.heap L ∧ FrameEnd U o U' L ({ frames := 1, cells := 0, slots := 0, locals := 12 } : Room).cells ({ frames := 1, cells := 0, slots := 0, locals := 12 } : Room).slots) := by
  refine MetFree.of_bodySF (plainFor_of_name pn_0) hisR ?_
  intro p e s m args below meth c s₁ Bd hml0 hP hK
  obtain ⟨rfl, hZ, hh⟩ := hP
  have hx := Bd.exec
  have hby := Bd.bytes
  have hml : c.maxLocals = 1 := hml0
  have hown : s.vm.findClass "java/lang/Record" = some m.cls := findClass_of_methodNamed Bd.named
  have hnm := (name_of_methodNamed Bd.named Bd.method).1
  have X0 : Stand p l e ({ frames := 1, cells := 0, slots := 0, locals := 12 } : Room) s m #[(.ref o0)] below meth c s₁ [] 0 0 := Stand.of_body Bd
  have e0 : s₁.heap = h0 := by rw [← hh, Bd.state]; rfl
  have N0 := Fr.nil n0
  have c0 : ∀ t, Steps p.tables e below (s₁.setTop (mkF m 0 #[.val (.ref o0)] [])) t → Steps p.tables e below (s₁.setTop (entryFrame m #[(.ref o0)] 1)) t := fun t k => castTop (ef_rm2 m o0) k
  obtain ⟨T1, X1, e1, st1⟩ := initO X0 hx hZ hown (hw _ (List.mem_of_getElem? (i := 11) rfl)) (hw _ (List.mem_of_getElem? (i := 12) rfl)) (hw _ (List.mem_of_getElem? (i := 13) rfl)) e0 (g := (mkF m 1 #[.val (.ref o0)] [(.ref o0)])) rfl (by rw [hml]; rfl) rfl (hb hby d2_1) (by decide) (W := 0) (by show 2 * 0 + _ ≤ _; exact Nat.le_of_eq rfl) (by decide)
  have c2 : ∀ t, Steps p.tables e below (T1.setTop (mkF m 4 #[.val (.ref o0)] [])) t → Steps p.tables e below (s₁.setTop (entryFrame m #[(.ref o0)] 1)) t := by
    intro t k
    refine c0 t ?_
    show Steps p.tables e below (s₁.setTop (mkF m 0 #[.val (.ref o0)] [])) _
    refine XS.aloadN X0.here hx rfl (hb hby d2_0) rfl rfl ?_
    show Steps p.tables e below (s₁.setTop (mkF m 1 #[.val (.ref o0)] [(.ref o0)])) _
    refine st1 _ ?_
    exact k
  obtain ⟨fs, hr, hrun, hended, hW, hsame⟩ := X1.leave (v := none) (fun _ => rfl)
  refine ⟨_, _, c2 _ ?_, hrun, hended, _, _, rfl, ?_, ⟨_, rfl⟩, hW, hsame.mono (by decide) (by decide)⟩
  · show Steps p.tables e below (T1.setTop (mkF m 4 #[.val (.ref o0)] [])) _
    exact X1.returnOut hx Bd.returns (hb hby d2_4) hr
  · show Q2 Z o0  h0 n0 _ T1.heap _
    rw [e1]
    exact ⟨rfl, N0, rfl⟩
def Q4 (Z : State) (d0 : UInt64) (z1 : UInt64) (z7 : Int32) (h0 : Heap) (n0 : Nat) (v : Option Value) (h : Heap) (L : List Loc) : Prop := v = some (.int (0 : Int32)) ∧ Fr n0 L ∧ h = h0
set_option maxRecDepth 65536 in
set_option maxHeartbeats 40000000 in
theorem rm4 (l : Launch) (Z : State) (a0 : Array Value) (hw : ∀ d ∈ tables_1, d.before a0 Z = true) (ws : List Jvm.Cond) (d0 : UInt64) (z1 : UInt64) (z7 : Int32) (h0 : Heap) (n0 : Nat) (Z0 : n0 ≤ h0.size) (hz1 : d0 &&& 0x7fffffffffffffff = z1) (hz7 : cmpValue (FP.dcmp z1 (9218868437227405311 : UInt64)) .l = z7) (nm0_1 : Jvm.Free.Fl.NoNaN64 d0) (br8 : ¬ (0 : Int32) < z7) :
    MetFree l (⟨"java/lang/Double", "isInfinite", "(D)Z"⟩ : MethodName) (head1 (Jvm.Cond.code (⟨"java/lang/Double", "isInfinite", "(D)Z"⟩ : MethodName) jdk_117_method_7_code 2 (some .boolean) :: ws) ({ frames := 1, cells := 0, slots := 0, locals := 13 } : Room)) (fun a U => a = #[(.double d0)] ∧ Z.Warmed39 U.vm ∧ U.heap = h0) (fun _ _ _ _ _ => True) (fun _ U o U' => ∃ v L, o = .returned v ∧ Q4 Z d0 z1 z7 h0 n0 v U'.heap L ∧ FrameEnd U o U' L ({ frames := 1, cells := 0, slots := 0, locals := 13 } : Room).cells ({ frames := 1, cells := 0, slots := 0, locals := 13 } : Room).slots) := by
  refine MetFree.of_bodySF (plainFor_of_name pn_1) hisR ?_
  intro p e s m args below meth c s₁ Bd hml0 hP hK
  obtain ⟨rfl, hZ, hh⟩ := hP
  have hx := Bd.exec
  have hby := Bd.bytes
  have hml : c.maxLocals = 2 := hml0
  have hown : s.vm.findClass "java/lang/Double" = some m.cls := findClass_of_methodNamed Bd.named
  have hnm := (name_of_methodNamed Bd.named Bd.method).1
  have X0 : Stand p l e ({ frames := 1, cells := 0, slots := 0, locals := 13 } : Room) s m #[(.double d0)] below meth c s₁ [] 0 0 := Stand.of_body Bd
  have e0 : s₁.heap = h0 := by rw [← hh, Bd.state]; rfl
  have N0 := Fr.nil n0
  have c0 : ∀ t, Steps p.tables e below (s₁.setTop (mkF m 0 #[.val (.double d0), .second] [])) t → Steps p.tables e below (s₁.setTop (entryFrame m #[(.double d0)] 2)) t := fun t k => castTop (ef_rm4 m d0) k
  obtain ⟨T1, X1, e1, st1⟩ := natS X0 hx hZ (y := (⟨"java/lang/Math", "abs", "(D)D"⟩ : MethodName)) hown (hw _ (List.mem_of_getElem? (i := 18) rfl)) (hw _ (List.mem_of_getElem? (i := 19) rfl)) (hw _ (List.mem_of_getElem? (i := 20) rfl)) (hw _ (List.mem_of_getElem? (i := 21) rfl)) (by decide) e0 (W := 0) (fun hq => Jvm.Free.Fl.Abs.absD_pays d0 hq (by decide) (by decide)) (g := (mkF m 1 #[.val (.double d0), .second] [(.double d0)])) rfl (by rw [hml]; rfl) (argsL := [(.double d0)]) (rest := []) (lenOf pd_0 rfl) rfl (by show 2 * 0 + _ ≤ _; exact Nat.le_of_eq rfl) (hb hby d4_1) (by decide) (by decide) ⟨rfl, nm0_1⟩ (congrArg Value.double hz1)
  have c2 : ∀ t, Steps p.tables e below (T1.setTop (mkF m 16 #[.val (.double d0), .second] [(.int (0 : Int32))])) t → Steps p.tables e below (s₁.setTop (entryFrame m #[(.double d0)] 2)) t := by
    intro t k
    refine c0 t ?_
    show Steps p.tables e below (s₁.setTop (mkF m 0 #[.val (.double d0), .second] [])) _
    refine XS.dloadN X0.here hx rfl (hb hby d4_0) rfl ?_
    show Steps p.tables e below (s₁.setTop (mkF m 1 #[.val (.double d0), .second] [(.double d0)])) _
    refine st1 _ ?_
    show Steps p.tables e below (T1.setTop (mkF m 4 #[.val (.double d0), .second] [(.double z1)])) _
    refine X1.ldc2DoubleC hx hown (mvT hZ (hw _ (List.mem_of_getElem? (i := 22) rfl))) (g := (mkF m 4 #[.val (.double d0), .second] [(.double z1)])) rfl (hb hby d4_4) _ ?_
    show Steps p.tables e below (T1.setTop (mkF m 7 #[.val (.double d0), .second] [(.double (9218868437227405311 : UInt64)), (.double z1)])) _
    refine XS.dcmpS X1.here hx rfl (hb hby d4_7) rfl hz7 ?_
    show Steps p.tables e below (T1.setTop (mkF m 8 #[.val (.double d0), .second] [(.int z7)])) _
    refine XS.ifYes X1.here hx rfl (pc0 := 8) (pc' := 15) rfl (hb hby d4_8) rfl (Jvm.Free.XT.i0_le_t br8) (by decide) (by decide) ?_
    show Steps p.tables e below (T1.setTop (mkF m 15 #[.val (.double d0), .second] [])) _
    refine XS.iconst X1.here hx rfl (hb hby d4_15) ?_
    exact k
  obtain ⟨fs, hr, hrun, hended, hW, hsame⟩ := X1.leave (v := some (.int (0 : Int32))) (fun h => by rw [Bd.returns] at h; cases h)
  refine ⟨_, _, c2 _ ?_, hrun, hended, _, _, rfl, ?_, ⟨_, rfl⟩, hW, hsame.mono (by decide) (by decide)⟩
  · show Steps p.tables e below (T1.setTop (mkF m 16 #[.val (.double d0), .second] [(.int (0 : Int32))])) _
    exact retOut X1 hx Bd.returns rfl (Or.inl ⟨rfl, by simp, _, rfl⟩) (hb hby d4_16) hr
  · show Q4 Z d0 z1 z7 h0 n0 _ T1.heap _
    rw [e1]
    exact ⟨rfl, N0, rfl⟩
def Q1_t (Z : State) (o0 : Addr) (d1 : UInt64) (d2 : UInt64) (d3 : UInt64) (d4 : UInt64) (d5 : UInt64) (u_maxDelaySeconds_o0 : Value) (u_maxEnergyJoules_o0 : Value) (u_delayWeight_o0 : Value) (u_energyWeight_o0 : Value) (u_cacheWeight_o0 : Value) (z6 : Int32) (c11_z1 : UInt64) (c11_z7 : Int32) (z33 : Int32) (c38_z1 : UInt64) (c38_z7 : Int32) (z107 : Int32) (c113_z1 : UInt64) (c113_z7 : Int32) (z107_2 : Int32) (c113_2_z1 : UInt64) (c113_2_z7 : Int32) (z107_3 : Int32) (c113_3_z1 : UInt64) (c113_3_z7 : Int32) (z143 : Int32) (h0 : Heap) (n0 : Nat) (v : Option Value) (h : Heap) (L : List Loc) : Prop := v = none ∧ Fr n0 L ∧ Keep h0 h [o0] ∧ Exa Z h o0 "com/example/fleetwave/fleetwave/model/CacheCost" ∧ Fld Z h o0 "com/example/fleetwave/fleetwave/model/CacheCost" "maxDelaySeconds" "D" (.double d1) ∧ Fld Z h o0 "com/example/fleetwave/fleetwave/model/CacheCost" "maxEnergyJoules" "D" (.double d2) ∧ Fld Z h o0 "com/example/fleetwave/fleetwave/model/CacheCost" "delayWeight" "D" (.double d3) ∧ Fld Z h o0 "com/example/fleetwave/fleetwave/model/CacheCost" "energyWeight" "D" (.double d4) ∧ Fld Z h o0 "com/example/fleetwave/fleetwave/model/CacheCost" "cacheWeight" "D" (.double d5)
set_option maxRecDepth 65536 in
set_option maxHeartbeats 40000000 in
theorem rm1_t (l : Launch) (Z : State) (a0 : Array Value) (hw : ∀ d ∈ tables_1, d.before a0 Z = true) (ws : List Jvm.Cond) (o0 : Addr) (d1 : UInt64) (d2 : UInt64) (d3 : UInt64) (d4 : UInt64) (d5 : UInt64) (u_maxDelaySeconds_o0 : Value) (u_maxEnergyJoules_o0 : Value) (u_delayWeight_o0 : Value) (u_energyWeight_o0 : Value) (u_cacheWeight_o0 : Value) (z6 : Int32) (c11_z1 : UInt64) (c11_z7 : Int32) (z33 : Int32) (c38_z1 : UInt64) (c38_z7 : Int32) (z107 : Int32) (c113_z1 : UInt64) (c113_z7 : Int32) (z107_2 : Int32) (c113_2_z1 : UInt64) (c113_2_z7 : Int32) (z107_3 : Int32) (c113_3_z1 : UInt64) (c113_3_z7 : Int32) (z143 : Int32) (h0 : Heap) (n0 : Nat) (Z0 : n0 ≤ h0.size) (E_o0 : Exa Z h0 o0 "com/example/fleetwave/fleetwave/model/CacheCost") (F_maxDelaySeconds_o0 : Fld Z h0 o0 "com/example/fleetwave/fleetwave/model/CacheCost" "maxDelaySeconds" "D" u_maxDelaySeconds_o0) (g_o0 : n0 ≤ o0) (F_maxEnergyJoules_o0 : Fld Z h0 o0 "com/example/fleetwave/fleetwave/model/CacheCost" "maxEnergyJoules" "D" u_maxEnergyJoules_o0) (F_delayWeight_o0 : Fld Z h0 o0 "com/example/fleetwave/fleetwave/model/CacheCost" "delayWeight" "D" u_delayWeight_o0) (F_energyWeight_o0 : Fld Z h0 o0 "com/example/fleetwave/fleetwave/model/CacheCost" "energyWeight" "D" u_energyWeight_o0) (F_cacheWeight_o0 : Fld Z h0 o0 "com/example/fleetwave/fleetwave/model/CacheCost" "cacheWeight" "D" u_cacheWeight_o0) (hz6 : cmpValue (FP.dcmp d1 FP.dconst0) .l = z6) (hc11_z1 : d1 &&& 0x7fffffffffffffff = c11_z1) (hc11_z7 : cmpValue (FP.dcmp c11_z1 (9218868437227405311 : UInt64)) .l = c11_z7) (hz33 : cmpValue (FP.dcmp d2 FP.dconst0) .l = z33) (hc38_z1 : d2 &&& 0x7fffffffffffffff = c38_z1) (hc38_z7 : cmpValue (FP.dcmp c38_z1 (9218868437227405311 : UInt64)) .l = c38_z7) (hz107 : cmpValue (FP.dcmp d3 FP.dconst0) .l = z107) (hc113_z1 : d3 &&& 0x7fffffffffffffff = c113_z1) (hc113_z7 : cmpValue (FP.dcmp c113_z1 (9218868437227405311 : UInt64)) .l = c113_z7) (hz107_2 : cmpValue (FP.dcmp d4 FP.dconst0) .l = z107_2) (hc113_2_z1 : d4 &&& 0x7fffffffffffffff = c113_2_z1) (hc113_2_z7 : cmpValue (FP.dcmp c113_2_z1 (9218868437227405311 : UInt64)) .l = c113_2_z7) (hz107_3 : cmpValue (FP.dcmp d5 FP.dconst0) .l = z107_3) (hc113_3_z1 : d5 &&& 0x7fffffffffffffff = c113_3_z1) (hc113_3_z7 : cmpValue (FP.dcmp c113_3_z1 (9218868437227405311 : UInt64)) .l = c113_3_z7) (hz143 : cmpValue (FP.dcmp d3 FP.dconst0) .l = z143) (br7 : (0 : Int32) < z6) (c11_nm0_1 : Jvm.Free.Fl.NoNaN64 d1) (c11_br8 : ¬ (0 : Int32) < c11_z7) (br34 : (0 : Int32) < z33) (c38_nm0_1 : Jvm.Free.Fl.NoNaN64 d2) (c38_br8 : ¬ (0 : Int32) < c38_z7) (br108 : ¬ z107 < (0 : Int32)) (c113_nm0_1 : Jvm.Free.Fl.NoNaN64 d3) (c113_br8 : ¬ (0 : Int32) < c113_z7) (br108_2 : ¬ z107_2 < (0 : Int32)) (c113_2_nm0_1 : Jvm.Free.Fl.NoNaN64 d4) (c113_2_br8 : ¬ (0 : Int32) < c113_2_z7) (br108_3 : ¬ z107_3 < (0 : Int32)) (c113_3_nm0_1 : Jvm.Free.Fl.NoNaN64 d5) (c113_3_br8 : ¬ (0 : Int32) < c113_3_z7) (br144 : ¬ z143 = (0 : Int32)) :
    MetFree l (⟨"com/example/fleetwave/fleetwave/model/CacheCost", "<init>", "(DDDDD)V"⟩ : MethodName) (head1 (Jvm.Cond.code (⟨"com/example/fleetwave/fleetwave/model/CacheCost", "<init>", "(DDDDD)V"⟩ : MethodName) prog_31_method_1_code 17 none :: ws) ({ frames := 2, cells := 1, slots := 3, locals := 26 } : Room)) (fun a U => a = #[(.ref o0), (.double d1), (.double d2), (.double d3), (.double d4), (.double d5)] ∧ Z.Warmed39 U.vm ∧ U.heap = h0) (fun _ _ _ _ _ => True) (fun _ U o U' => ∃ v L, o = .returned v ∧ Q1_t Z o0 d1 d2 d3 d4 d5 u_maxDelaySeconds_o0 u_maxEnergyJoules_o0 u_delayWeight_o0 u_energyWeight_o0 u_cacheWeight_o0 z6 c11_z1 c11_z7 z33 c38_z1 c38_z7 z107 c113_z1 c113_z7 z107_2 c113_2_z1 c113_2_z7 z107_3 c113_3_z1 c113_3_z7 z143 h0 n0 v U'.heap L ∧ FrameEnd U o U' L ({ frames := 2, cells := 1, slots := 3, locals := 26 } : Room).cells ({ frames := 2, cells := 1, slots := 3, locals := 26 } : Room).slots) := by
  refine MetFree.of_bodySF (plainFor_of_name pn_2) hisR ?_
  intro p e s m args below meth c s₁ Bd hml0 hP hK
  obtain ⟨rfl, hZ, hh⟩ := hP
  have hx := Bd.exec
  have hby := Bd.bytes
  have hml : c.maxLocals = 17 := hml0
  have hown : s.vm.findClass "com/example/fleetwave/fleetwave/model/CacheCost" = some m.cls := findClass_of_methodNamed Bd.named
  have hnm := (name_of_methodNamed Bd.named Bd.method).1
  have X0 : Stand p l e ({ frames := 2, cells := 1, slots := 3, locals := 26 } : Room) s m #[(.ref o0), (.double d1), (.double d2), (.double d3), (.double d4), (.double d5)] below meth c s₁ [] 0 0 := Stand.of_body Bd
  have e0 : s₁.heap = h0 := by rw [← hh, Bd.state]; rfl
  have N0 := Fr.nil n0
  have c0 : ∀ t, Steps p.tables e below (s₁.setTop (mkF m 0 #[.val (.ref o0), .val (.double d1), .second, .val (.double d2), .second, .val (.double d3), .second, .val (.double d4), .second, .val (.double d5), .second, .unset, .unset, .unset, .unset, .unset, .unset] [])) t → Steps p.tables e below (s₁.setTop (entryFrame m #[(.ref o0), (.double d1), (.double d2), (.double d3), (.double d4), (.double d5)] 17)) t := fun t k => castTop (ef_rm1_t m o0 d1 d2 d3 d4 d5) k
  obtain ⟨_, _, ⟨T1, L1, k1, n1⟩, -, X1, ⟨Lc1, hQ1, ql1, qy1, qz1⟩, st1⟩ := X0.specialBack hx (y := (⟨"java/lang/Record", "<init>", "()V"⟩ : MethodName)) rfl hown (mvT hZ (hw _ (List.mem_of_getElem? (i := 6) rfl))) (mvT hZ (hw _ (List.mem_of_getElem? (i := 7) rfl))) (mvT hZ (hw _ (List.mem_of_getElem? (i := 10) rfl))) (by decide) (backOf (W := 0) (rm2 l Z a0 hw [] o0  h0 n0 Z0 ) hZ (hw _ (List.mem_of_getElem? (i := 10) rfl)) (hw _ (List.mem_of_getElem? (i := 9) rfl)) (by decide) (by decide)) (g := (mkF m 1 #[.val (.ref o0), .val (.double d1), .second, .val (.double d2), .second, .val (.double d3), .second, .val (.double d4), .second, .val (.double d5), .second, .unset, .unset, .unset, .unset, .unset, .unset] [(.ref o0)])) rfl (by rw [hml]; rfl) (Steps.refl _) (a := o0) (argsL := []) (rest := []) (lenOf pd_1 rfl) rfl (by show 2 * 0 + _ ≤ _; exact Nat.le_of_eq rfl) (hb hby d1_1) (fun _ _ => ⟨rfl, e0, (by decide : 0 + 0 ≤ _), (by decide : 0 + 0 ≤ _)⟩)
  dsimp only [Pt.U, Pt.locs, Pt.cells, Pt.slots] at X1 ql1 qy1 qz1 st1 hQ1
  subst ql1 qy1 qz1
  obtain ⟨rfl, N1q, e1⟩ := hQ1
  have N1 := Fr.app N0 N1q
  obtain ⟨_, _, ⟨T2, L2, k2, n2⟩, -, X2, ⟨Lc2, hQ2, ql2, qy2, qz2⟩, st2⟩ := Jvm.LawKit.callS X1 hx (y := (⟨"java/lang/Double", "isInfinite", "(D)Z"⟩ : MethodName)) hown (mvT hZ (hw _ (List.mem_of_getElem? (i := 14) rfl))) (mvT hZ (hw _ (List.mem_of_getElem? (i := 15) rfl))) (mvT hZ (hw _ (List.mem_of_getElem? (i := 16) rfl))) (mvT hZ (hw _ (List.mem_of_getElem? (i := 17) rfl))) (by decide) (backOf (W := 0) (rm4 l Z a0 hw [] d1 c11_z1 c11_z7 h0 n0 Z0 hc11_z1 hc11_z7 c11_nm0_1 c11_br8) hZ (hw _ (List.mem_of_getElem? (i := 17) rfl)) (hw _ (List.mem_of_getElem? (i := 16) rfl)) (by decide) (by decide)) (g := (mkF m 11 #[.val (.ref o0), .val (.double d1), .second, .val (.double d2), .second, .val (.double d3), .second, .val (.double d4), .second, .val (.double d5), .second, .unset, .unset, .unset, .unset, .unset, .unset] [(.double d1)])) rfl (by rw [hml]; rfl) (argsL := [(.double d1)]) (rest := []) (lenOf pd_2 rfl) rfl (by show 2 * 0 + _ ≤ _; exact Nat.le_of_eq rfl) (hb hby d1_11) (fun _ _ => ⟨rfl, e1, (by decide : 0 + 0 ≤ _), (by decide : 0 + 0 ≤ _)⟩)
  dsimp only [Pt.U, Pt.locs, Pt.cells, Pt.slots] at X2 ql2 qy2 qz2 st2 hQ2
  subst ql2 qy2 qz2
  obtain ⟨rfl, N2q, e2⟩ := hQ2
  have N2 := Fr.app N1 N2q
  obtain ⟨_, _, ⟨T3, L3, k3, n3⟩, -, X3, ⟨Lc3, hQ3, ql3, qy3, qz3⟩, st3⟩ := Jvm.LawKit.callS X2 hx (y := (⟨"java/lang/Double", "isInfinite", "(D)Z"⟩ : MethodName)) hown (mvT hZ (hw _ (List.mem_of_getElem? (i := 14) rfl))) (mvT hZ (hw _ (List.mem_of_getElem? (i := 15) rfl))) (mvT hZ (hw _ (List.mem_of_getElem? (i := 16) rfl))) (mvT hZ (hw _ (List.mem_of_getElem? (i := 17) rfl))) (by decide) (backOf (W := 0) (rm4 l Z a0 hw [] d2 c38_z1 c38_z7 h0 n0 Z0 hc38_z1 hc38_z7 c38_nm0_1 c38_br8) hZ (hw _ (List.mem_of_getElem? (i := 17) rfl)) (hw _ (List.mem_of_getElem? (i := 16) rfl)) (by decide) (by decide)) (g := (mkF m 38 #[.val (.ref o0), .val (.double d1), .second, .val (.double d2), .second, .val (.double d3), .second, .val (.double d4), .second, .val (.double d5), .second, .unset, .unset, .unset, .unset, .unset, .unset] [(.double d2)])) rfl (by rw [hml]; rfl) (argsL := [(.double d2)]) (rest := []) (lenOf pd_2 rfl) rfl (by show 2 * 0 + _ ≤ _; exact Nat.le_of_eq rfl) (hb hby d1_38) (fun _ _ => ⟨rfl, e2, (by decide : 0 + 0 ≤ _), (by decide : 0 + 0 ≤ _)⟩)
  dsimp only [Pt.U, Pt.locs, Pt.cells, Pt.slots] at X3 ql3 qy3 qz3 st3 hQ3
  subst ql3 qy3 qz3
  obtain ⟨rfl, N3q, e3⟩ := hQ3
  have N3 := Fr.app N2 N3q
  obtain ⟨T4, h4, k4, X4, e4, E4, A4, st4⟩ := newP X3 hx hZ (hw _ (List.mem_of_getElem? (i := 23) rfl)) e3 (g := (mkF m 59 #[.val (.ref o0), .val (.double d1), .second, .val (.double d2), .second, .val (.double d3), .second, .val (.double d4), .second, .val (.double d5), .second, .unset, .unset, .unset, .unset, .unset, .unset] [(.int (3 : Int32))])) rfl (hb hby d1_59) rfl (by decide) (cap := 3) (by decide) (by decide) (by decide) (by decide)
  obtain ⟨b4, g4⟩ : ∃ z, z = h0.size := ⟨_, rfl⟩
  rw [← g4] at A4 st4
  have gn4 : n0 ≤ b4 := Nat.le_trans Z0 (Nat.le_of_eq g4.symm)
  have gz4 : h0.size ≤ b4 := Nat.le_trans ((Keep.refl h0 [o0])).1 (Nat.le_of_eq g4.symm)
  have K5 : Keep h0 h4 [o0] := (Keep.refl h0 [o0]).ext E4
  have V4 : Arv Z h4 b4 k4 .double (3 : Int32) [(.double (0 : UInt64)), (.double (0 : UInt64)), (.double (0 : UInt64))] (.double (0 : UInt64)) := (Arv.new A4 (by decide)).pad (pad_rep [] (.double (0 : UInt64)) 3)
  obtain ⟨cl6, Ar6, q6, S6, Nn6, Ha6, G6⟩ := id V4
  have in6 : ¬ ((0 : Int32) < 0 ∨ cl6.slots.size ≤ ((0 : Int32)).toNatClampNeg) := inb_of S6 ⟨by decide, by decide⟩
  obtain ⟨T7, h7, X7, e7, W7, st7⟩ := stD X4 hx hZ e4 Ar6 (j := (0 : Int32)) in6 (g := (mkF m 65 #[.val (.ref o0), .val (.double d1), .second, .val (.double d2), .second, .val (.double d3), .second, .val (.double d4), .second, .val (.double d5), .second, .unset, .unset, .unset, .unset, .unset, .unset] [(.double d3), (.int (0 : Int32)), (.ref b4), (.ref b4)])) rfl rfl (hb hby d1_65)
  have N7 := Fr.snoc X7 N3 gn4
  have K8 : Keep h0 h7 [o0] := K5.wr W7 (Or.inr gz4)
  have V7 : Arv Z h7 b4 k4 .double (3 : Int32) [(.double d3), (.double (0 : UInt64)), (.double (0 : UInt64))] (.double (0 : UInt64)) := Arv.set Ar6 q6 S6 Nn6 Ha6 G6 rfl W7 0 rfl (show (0 : Nat) < 3 by decide)
  obtain ⟨cl9, Ar9, q9, S9, Nn9, Ha9, G9⟩ := id V7
  have in9 : ¬ ((1 : Int32) < 0 ∨ cl9.slots.size ≤ ((1 : Int32)).toNatClampNeg) := inb_of S9 ⟨by decide, by decide⟩
  obtain ⟨T10, h10, X10, e10, W10, st10⟩ := stD X7 hx hZ e7 Ar9 (j := (1 : Int32)) in9 (g := (mkF m 70 #[.val (.ref o0), .val (.double d1), .second, .val (.double d2), .second, .val (.double d3), .second, .val (.double d4), .second, .val (.double d5), .second, .unset, .unset, .unset, .unset, .unset, .unset] [(.double d4), (.int (1 : Int32)), (.ref b4), (.ref b4)])) rfl rfl (hb hby d1_70)
  have N10 := Fr.snoc X10 N7 gn4
  have K11 : Keep h0 h10 [o0] := K8.wr W10 (Or.inr gz4)
  have V10 : Arv Z h10 b4 k4 .double (3 : Int32) [(.double d3), (.double d4), (.double (0 : UInt64))] (.double (0 : UInt64)) := Arv.set Ar9 q9 S9 Nn9 Ha9 G9 rfl W10 1 rfl (show (1 : Nat) < 3 by decide)
  obtain ⟨cl12, Ar12, q12, S12, Nn12, Ha12, G12⟩ := id V10
  have in12 : ¬ ((2 : Int32) < 0 ∨ cl12.slots.size ≤ ((2 : Int32)).toNatClampNeg) := inb_of S12 ⟨by decide, by decide⟩
  obtain ⟨T13, h13, X13, e13, W13, st13⟩ := stD X10 hx hZ e10 Ar12 (j := (2 : Int32)) in12 (g := (mkF m 75 #[.val (.ref o0), .val (.double d1), .second, .val (.double d2), .second, .val (.double d3), .second, .val (.double d4), .second, .val (.double d5), .second, .unset, .unset, .unset, .unset, .unset, .unset] [(.double d5), (.int (2 : Int32)), (.ref b4), (.ref b4)])) rfl rfl (hb hby d1_75)
  have N13 := Fr.snoc X13 N10 gn4
  have K14 : Keep h0 h13 [o0] := K11.wr W13 (Or.inr gz4)
  have V13 : Arv Z h13 b4 k4 .double (3 : Int32) [(.double d3), (.double d4), (.double d5)] (.double (0 : UInt64)) := Arv.set Ar12 q12 S12 Nn12 Ha12 G12 rfl W13 2 rfl (show (2 : Nat) < 3 by decide)
  obtain ⟨cl15, Ar15, -, S15, Nn15, -, -⟩ := id V13
  obtain ⟨cl16, Ar16, -, S16, -, Ha16, -⟩ := id V13
  have in16 : ¬ ((0 : Int32) < 0 ∨ cl16.slots.size ≤ ((0 : Int32)).toNatClampNeg) := inb_of S16 ⟨by decide, by decide⟩
  obtain ⟨_, _, ⟨T17, L17, k17, n17⟩, -, X17, ⟨Lc17, hQ17, ql17, qy17, qz17⟩, st17⟩ := Jvm.LawKit.callS X13 hx (y := (⟨"java/lang/Double", "isInfinite", "(D)Z"⟩ : MethodName)) hown (mvT hZ (hw _ (List.mem_of_getElem? (i := 14) rfl))) (mvT hZ (hw _ (List.mem_of_getElem? (i := 15) rfl))) (mvT hZ (hw _ (List.mem_of_getElem? (i := 16) rfl))) (mvT hZ (hw _ (List.mem_of_getElem? (i := 17) rfl))) (by decide) (backOf (W := 0) (rm4 l Z a0 hw [] d3 c113_z1 c113_z7 h13 n0 (Nat.le_trans (Nat.le_trans (Nat.le_trans (Nat.le_trans Z0 E4.1) (Keep.of_wr W7).1) (Keep.of_wr W10).1) (Keep.of_wr W13).1) hc113_z1 hc113_z7 c113_nm0_1 c113_br8) hZ (hw _ (List.mem_of_getElem? (i := 17) rfl)) (hw _ (List.mem_of_getElem? (i := 16) rfl)) (by decide) (by decide)) (g := (mkF m 113 #[.val (.ref o0), .val (.double d1), .second, .val (.double d2), .second, .val (.double d3), .second, .val (.double d4), .second, .val (.double d5), .second, .val (.ref b4), .val (.ref b4), .val (.int (3 : Int32)), .val (.int (0 : Int32)), .val (.double d3), .second] [(.double d3)])) rfl (by rw [hml]; rfl) (argsL := [(.double d3)]) (rest := []) (lenOf pd_2 rfl) rfl (by show 2 * 0 + _ ≤ _; exact Nat.le_of_eq rfl) (hb hby d1_113) (fun _ _ => ⟨rfl, e13, (by decide : 1 + 0 ≤ _), (by decide : 3 + 0 ≤ _)⟩)
  dsimp only [Pt.U, Pt.locs, Pt.cells, Pt.slots] at X17 ql17 qy17 qz17 st17 hQ17
  subst ql17 qy17 qz17
  obtain ⟨rfl, N17q, e17⟩ := hQ17
  have N17 := Fr.app N13 N17q
  obtain ⟨cl18, Ar18, -, S18, -, Ha18, -⟩ := id V13
  have in18 : ¬ ((1 : Int32) < 0 ∨ cl18.slots.size ≤ ((1 : Int32)).toNatClampNeg) := inb_of S18 ⟨by decide, by decide⟩
  obtain ⟨_, _, ⟨T19, L19, k19, n19⟩, -, X19, ⟨Lc19, hQ19, ql19, qy19, qz19⟩, st19⟩ := Jvm.LawKit.callS X17 hx (y := (⟨"java/lang/Double", "isInfinite", "(D)Z"⟩ : MethodName)) hown (mvT hZ (hw _ (List.mem_of_getElem? (i := 14) rfl))) (mvT hZ (hw _ (List.mem_of_getElem? (i := 15) rfl))) (mvT hZ (hw _ (List.mem_of_getElem? (i := 16) rfl))) (mvT hZ (hw _ (List.mem_of_getElem? (i := 17) rfl))) (by decide) (backOf (W := 0) (rm4 l Z a0 hw [] d4 c113_2_z1 c113_2_z7 h13 n0 (Nat.le_trans (Nat.le_trans (Nat.le_trans (Nat.le_trans Z0 E4.1) (Keep.of_wr W7).1) (Keep.of_wr W10).1) (Keep.of_wr W13).1) hc113_2_z1 hc113_2_z7 c113_2_nm0_1 c113_2_br8) hZ (hw _ (List.mem_of_getElem? (i := 17) rfl)) (hw _ (List.mem_of_getElem? (i := 16) rfl)) (by decide) (by decide)) (g := (mkF m 113 #[.val (.ref o0), .val (.double d1), .second, .val (.double d2), .second, .val (.double d3), .second, .val (.double d4), .second, .val (.double d5), .second, .val (.ref b4), .val (.ref b4), .val (.int (3 : Int32)), .val (.int (1 : Int32)), .val (.double d4), .second] [(.double d4)])) rfl (by rw [hml]; rfl) (argsL := [(.double d4)]) (rest := []) (lenOf pd_2 rfl) rfl (by show 2 * 0 + _ ≤ _; exact Nat.le_of_eq rfl) (hb hby d1_113) (fun _ _ => ⟨rfl, e17, (by decide : 1 + 0 ≤ _), (by decide : 3 + 0 ≤ _)⟩)
  dsimp only [Pt.U, Pt.locs, Pt.cells, Pt.slots] at X19 ql19 qy19 qz19 st19 hQ19
  subst ql19 qy19 qz19
  obtain ⟨rfl, N19q, e19⟩ := hQ19
  have N19 := Fr.app N17 N19q
  obtain ⟨cl20, Ar20, -, S20, -, Ha20, -⟩ := id V13
  have in20 : ¬ ((2 : Int32) < 0 ∨ cl20.slots.size ≤ ((2 : Int32)).toNatClampNeg) := inb_of S20 ⟨by decide, by decide⟩
  obtain ⟨_, _, ⟨T21, L21, k21, n21⟩, -, X21, ⟨Lc21, hQ21, ql21, qy21, qz21⟩, st21⟩ := Jvm.LawKit.callS X19 hx (y := (⟨"java/lang/Double", "isInfinite", "(D)Z"⟩ : MethodName)) hown (mvT hZ (hw _ (List.mem_of_getElem? (i := 14) rfl))) (mvT hZ (hw _ (List.mem_of_getElem? (i := 15) rfl))) (mvT hZ (hw _ (List.mem_of_getElem? (i := 16) rfl))) (mvT hZ (hw _ (List.mem_of_getElem? (i := 17) rfl))) (by decide) (backOf (W := 0) (rm4 l Z a0 hw [] d5 c113_3_z1 c113_3_z7 h13 n0 (Nat.le_trans (Nat.le_trans (Nat.le_trans (Nat.le_trans Z0 E4.1) (Keep.of_wr W7).1) (Keep.of_wr W10).1) (Keep.of_wr W13).1) hc113_3_z1 hc113_3_z7 c113_3_nm0_1 c113_3_br8) hZ (hw _ (List.mem_of_getElem? (i := 17) rfl)) (hw _ (List.mem_of_getElem? (i := 16) rfl)) (by decide) (by decide)) (g := (mkF m 113 #[.val (.ref o0), .val (.double d1), .second, .val (.double d2), .second, .val (.double d3), .second, .val (.double d4), .second, .val (.double d5), .second, .val (.ref b4), .val (.ref b4), .val (.int (3 : Int32)), .val (.int (2 : Int32)), .val (.double d5), .second] [(.double d5)])) rfl (by rw [hml]; rfl) (argsL := [(.double d5)]) (rest := []) (lenOf pd_2 rfl) rfl (by show 2 * 0 + _ ≤ _; exact Nat.le_of_eq rfl) (hb hby d1_113) (fun _ _ => ⟨rfl, e19, (by decide : 1 + 0 ≤ _), (by decide : 3 + 0 ≤ _)⟩)
  dsimp only [Pt.U, Pt.locs, Pt.cells, Pt.slots] at X21 ql21 qy21 qz21 st21 hQ21
  subst ql21 qy21 qz21
  obtain ⟨rfl, N21q, e21⟩ := hQ21
  have N21 := Fr.app N19 N21q
  have f22 := ((((E_o0.ext E4).wr W7).wr W10).wr W13)
  have f23 := ((((F_maxDelaySeconds_o0.ext E4).other W7 (Or.inl (Nat.ne_of_lt (Nat.lt_of_lt_of_le (F_maxDelaySeconds_o0).lt (Nat.le_of_eq g4.symm))))).other W10 (Or.inl (Nat.ne_of_lt (Nat.lt_of_lt_of_le (F_maxDelaySeconds_o0).lt (Nat.le_of_eq g4.symm))))).other W13 (Or.inl (Nat.ne_of_lt (Nat.lt_of_lt_of_le (F_maxDelaySeconds_o0).lt (Nat.le_of_eq g4.symm)))))
  obtain ⟨T24, h24, X24, e24, W24, st24⟩ := putF X21 hx hZ hown (host := "") (Or.inl (hw _ (List.mem_of_getElem? (i := 24) rfl))) Via.refl e21 f23 f22 (Or.inr ⟨(hw _ (List.mem_of_getElem? (i := 25) rfl)), rfl, hnm⟩) (hw _ (List.mem_of_getElem? (i := 1) rfl)) (ty := .double) (by decide) rfl rfl (g := (mkF m 166 #[.val (.ref o0), .val (.double d1), .second, .val (.double d2), .second, .val (.double d3), .second, .val (.double d4), .second, .val (.double d5), .second, .val (.ref b4), .val (.ref b4), .val (.int (3 : Int32)), .val (.int (3 : Int32)), .val (.double d5), .second] [(.double d1), (.ref o0)])) rfl rfl (hb hby d1_166)
  have N24 := Fr.snoc X24 N21 g_o0
  have K25 : Keep h0 h24 [o0] := K14.wr W24 (Or.inl (by simp))
  have F24w := f23.same W24
  have f26 := (f22.wr W24)
  have f27 := (((((F_maxEnergyJoules_o0.ext E4).other W7 (Or.inl (Nat.ne_of_lt (Nat.lt_of_lt_of_le (F_maxEnergyJoules_o0).lt (Nat.le_of_eq g4.symm))))).other W10 (Or.inl (Nat.ne_of_lt (Nat.lt_of_lt_of_le (F_maxEnergyJoules_o0).lt (Nat.le_of_eq g4.symm))))).other W13 (Or.inl (Nat.ne_of_lt (Nat.lt_of_lt_of_le (F_maxEnergyJoules_o0).lt (Nat.le_of_eq g4.symm))))).other W24 (Or.inr (slot_ne (Or.inr (hw _ (List.mem_of_getElem? (i := 27) rfl))) (Or.inr (hw _ (List.mem_of_getElem? (i := 25) rfl))) (by decide) (t := .double) (t' := .double) (by decide) (by decide))))
  obtain ⟨T28, h28, X28, e28, W28, st28⟩ := putF X24 hx hZ hown (host := "") (Or.inl (hw _ (List.mem_of_getElem? (i := 26) rfl))) Via.refl e24 f27 f26 (Or.inr ⟨(hw _ (List.mem_of_getElem? (i := 27) rfl)), rfl, hnm⟩) (hw _ (List.mem_of_getElem? (i := 1) rfl)) (ty := .double) (by decide) rfl rfl (g := (mkF m 171 #[.val (.ref o0), .val (.double d1), .second, .val (.double d2), .second, .val (.double d3), .second, .val (.double d4), .second, .val (.double d5), .second, .val (.ref b4), .val (.ref b4), .val (.int (3 : Int32)), .val (.int (3 : Int32)), .val (.double d5), .second] [(.double d2), (.ref o0)])) rfl rfl (hb hby d1_171)
  have N28 := Fr.snoc X28 N24 g_o0
  have K29 : Keep h0 h28 [o0] := K25.wr W28 (Or.inl (by simp))
  have F28w := f27.same W28
  have f30 := (f26.wr W28)
  have f31 := ((((((F_delayWeight_o0.ext E4).other W7 (Or.inl (Nat.ne_of_lt (Nat.lt_of_lt_of_le (F_delayWeight_o0).lt (Nat.le_of_eq g4.symm))))).other W10 (Or.inl (Nat.ne_of_lt (Nat.lt_of_lt_of_le (F_delayWeight_o0).lt (Nat.le_of_eq g4.symm))))).other W13 (Or.inl (Nat.ne_of_lt (Nat.lt_of_lt_of_le (F_delayWeight_o0).lt (Nat.le_of_eq g4.symm))))).other W24 (Or.inr (slot_ne (Or.inr (hw _ (List.mem_of_getElem? (i := 29) rfl))) (Or.inr (hw _ (List.mem_of_getElem? (i := 25) rfl))) (by decide) (t := .double) (t' := .double) (by decide) (by decide)))).other W28 (Or.inr (slot_ne (Or.inr (hw _ (List.mem_of_getElem? (i := 29) rfl))) (Or.inr (hw _ (List.mem_of_getElem? (i := 27) rfl))) (by decide) (t := .double) (t' := .double) (by decide) (by decide))))
  obtain ⟨T32, h32, X32, e32, W32, st32⟩ := putF X28 hx hZ hown (host := "") (Or.inl (hw _ (List.mem_of_getElem? (i := 28) rfl))) Via.refl e28 f31 f30 (Or.inr ⟨(hw _ (List.mem_of_getElem? (i := 29) rfl)), rfl, hnm⟩) (hw _ (List.mem_of_getElem? (i := 1) rfl)) (ty := .double) (by decide) rfl rfl (g := (mkF m 177 #[.val (.ref o0), .val (.double d1), .second, .val (.double d2), .second, .val (.double d3), .second, .val (.double d4), .second, .val (.double d5), .second, .val (.ref b4), .val (.ref b4), .val (.int (3 : Int32)), .val (.int (3 : Int32)), .val (.double d5), .second] [(.double d3), (.ref o0)])) rfl rfl (hb hby d1_177)
  have N32 := Fr.snoc X32 N28 g_o0
  have K33 : Keep h0 h32 [o0] := K29.wr W32 (Or.inl (by simp))
  have F32w := f31.same W32
  have f34 := (f30.wr W32)
  have f35 := (((((((F_energyWeight_o0.ext E4).other W7 (Or.inl (Nat.ne_of_lt (Nat.lt_of_lt_of_le (F_energyWeight_o0).lt (Nat.le_of_eq g4.symm))))).other W10 (Or.inl (Nat.ne_of_lt (Nat.lt_of_lt_of_le (F_energyWeight_o0).lt (Nat.le_of_eq g4.symm))))).other W13 (Or.inl (Nat.ne_of_lt (Nat.lt_of_lt_of_le (F_energyWeight_o0).lt (Nat.le_of_eq g4.symm))))).other W24 (Or.inr (slot_ne (Or.inr (hw _ (List.mem_of_getElem? (i := 31) rfl))) (Or.inr (hw _ (List.mem_of_getElem? (i := 25) rfl))) (by decide) (t := .double) (t' := .double) (by decide) (by decide)))).other W28 (Or.inr (slot_ne (Or.inr (hw _ (List.mem_of_getElem? (i := 31) rfl))) (Or.inr (hw _ (List.mem_of_getElem? (i := 27) rfl))) (by decide) (t := .double) (t' := .double) (by decide) (by decide)))).other W32 (Or.inr (slot_ne (Or.inr (hw _ (List.mem_of_getElem? (i := 31) rfl))) (Or.inr (hw _ (List.mem_of_getElem? (i := 29) rfl))) (by decide) (t := .double) (t' := .double) (by decide) (by decide))))
  obtain ⟨T36, h36, X36, e36, W36, st36⟩ := putF X32 hx hZ hown (host := "") (Or.inl (hw _ (List.mem_of_getElem? (i := 30) rfl))) Via.refl e32 f35 f34 (Or.inr ⟨(hw _ (List.mem_of_getElem? (i := 31) rfl)), rfl, hnm⟩) (hw _ (List.mem_of_getElem? (i := 1) rfl)) (ty := .double) (by decide) rfl rfl (g := (mkF m 183 #[.val (.ref o0), .val (.double d1), .second, .val (.double d2), .second, .val (.double d3), .second, .val (.double d4), .second, .val (.double d5), .second, .val (.ref b4), .val (.ref b4), .val (.int (3 : Int32)), .val (.int (3 : Int32)), .val (.double d5), .second] [(.double d4), (.ref o0)])) rfl rfl (hb hby d1_183)
  have N36 := Fr.snoc X36 N32 g_o0
  have K37 : Keep h0 h36 [o0] := K33.wr W36 (Or.inl (by simp))
  have F36w := f35.same W36
  have f38 := (f34.wr W36)
  have f39 := ((((((((F_cacheWeight_o0.ext E4).other W7 (Or.inl (Nat.ne_of_lt (Nat.lt_of_lt_of_le (F_cacheWeight_o0).lt (Nat.le_of_eq g4.symm))))).other W10 (Or.inl (Nat.ne_of_lt (Nat.lt_of_lt_of_le (F_cacheWeight_o0).lt (Nat.le_of_eq g4.symm))))).other W13 (Or.inl (Nat.ne_of_lt (Nat.lt_of_lt_of_le (F_cacheWeight_o0).lt (Nat.le_of_eq g4.symm))))).other W24 (Or.inr (slot_ne (Or.inr (hw _ (List.mem_of_getElem? (i := 33) rfl))) (Or.inr (hw _ (List.mem_of_getElem? (i := 25) rfl))) (by decide) (t := .double) (t' := .double) (by decide) (by decide)))).other W28 (Or.inr (slot_ne (Or.inr (hw _ (List.mem_of_getElem? (i := 33) rfl))) (Or.inr (hw _ (List.mem_of_getElem? (i := 27) rfl))) (by decide) (t := .double) (t' := .double) (by decide) (by decide)))).other W32 (Or.inr (slot_ne (Or.inr (hw _ (List.mem_of_getElem? (i := 33) rfl))) (Or.inr (hw _ (List.mem_of_getElem? (i := 29) rfl))) (by decide) (t := .double) (t' := .double) (by decide) (by decide)))).other W36 (Or.inr (slot_ne (Or.inr (hw _ (List.mem_of_getElem? (i := 33) rfl))) (Or.inr (hw _ (List.mem_of_getElem? (i := 31) rfl))) (by decide) (t := .double) (t' := .double) (by decide) (by decide))))
  obtain ⟨T40, h40, X40, e40, W40, st40⟩ := putF X36 hx hZ hown (host := "") (Or.inl (hw _ (List.mem_of_getElem? (i := 32) rfl))) Via.refl e36 f39 f38 (Or.inr ⟨(hw _ (List.mem_of_getElem? (i := 33) rfl)), rfl, hnm⟩) (hw _ (List.mem_of_getElem? (i := 1) rfl)) (ty := .double) (by decide) rfl rfl (g := (mkF m 189 #[.val (.ref o0), .val (.double d1), .second, .val (.double d2), .second, .val (.double d3), .second, .val (.double d4), .second, .val (.double d5), .second, .val (.ref b4), .val (.ref b4), .val (.int (3 : Int32)), .val (.int (3 : Int32)), .val (.double d5), .second] [(.double d5), (.ref o0)])) rfl rfl (hb hby d1_189)
  have N40 := Fr.snoc X40 N36 g_o0
  have K41 : Keep h0 h40 [o0] := K37.wr W40 (Or.inl (by simp))
  have F40w := f39.same W40
  have c42 : ∀ t, Steps p.tables e below (T40.setTop (mkF m 192 #[.val (.ref o0), .val (.double d1), .second, .val (.double d2), .second, .val (.double d3), .second, .val (.double d4), .second, .val (.double d5), .second, .val (.ref b4), .val (.ref b4), .val (.int (3 : Int32)), .val (.int (3 : Int32)), .val (.double d5), .second] [])) t → Steps p.tables e below (s₁.setTop (entryFrame m #[(.ref o0), (.double d1), (.double d2), (.double d3), (.double d4), (.double d5)] 17)) t := by
    intro t k
    refine c0 t ?_
    show Steps p.tables e below (s₁.setTop (mkF m 0 #[.val (.ref o0), .val (.double d1), .second, .val (.double d2), .second, .val (.double d3), .second, .val (.double d4), .second, .val (.double d5), .second, .unset, .unset, .unset, .unset, .unset, .unset] [])) _
    refine XS.aloadN X0.here hx rfl (hb hby d1_0) rfl rfl ?_
    show Steps p.tables e below (s₁.setTop (mkF m 1 #[.val (.ref o0), .val (.double d1), .second, .val (.double d2), .second, .val (.double d3), .second, .val (.double d4), .second, .val (.double d5), .second, .unset, .unset, .unset, .unset, .unset, .unset] [(.ref o0)])) _
    refine st1.trans ?_
    show Steps p.tables e below (T1.setTop (mkF m 4 #[.val (.ref o0), .val (.double d1), .second, .val (.double d2), .second, .val (.double d3), .second, .val (.double d4), .second, .val (.double d5), .second, .unset, .unset, .unset, .unset, .unset, .unset] [])) _
    refine XS.dloadN X1.here hx rfl (hb hby d1_4) rfl ?_
    show Steps p.tables e below (T1.setTop (mkF m 5 #[.val (.ref o0), .val (.double d1), .second, .val (.double d2), .second, .val (.double d3), .second, .val (.double d4), .second, .val (.double d5), .second, .unset, .unset, .unset, .unset, .unset, .unset] [(.double d1)])) _
    refine XS.dconst0 X1.here hx rfl (hb hby d1_5) (v := FP.dconst0) rfl ?_
    show Steps p.tables e below (T1.setTop (mkF m 6 #[.val (.ref o0), .val (.double d1), .second, .val (.double d2), .second, .val (.double d3), .second, .val (.double d4), .second, .val (.double d5), .second, .unset, .unset, .unset, .unset, .unset, .unset] [(.double FP.dconst0), (.double d1)])) _
    refine XS.dcmpS X1.here hx rfl (hb hby d1_6) rfl hz6 ?_
    show Steps p.tables e below (T1.setTop (mkF m 7 #[.val (.ref o0), .val (.double d1), .second, .val (.double d2), .second, .val (.double d3), .second, .val (.double d4), .second, .val (.double d5), .second, .unset, .unset, .unset, .unset, .unset, .unset] [(.int z6)])) _
    refine XS.ifNo X1.here hx rfl (hb hby d1_7) rfl (Jvm.Free.XT.i0_le_f br7) ?_
    show Steps p.tables e below (T1.setTop (mkF m 10 #[.val (.ref o0), .val (.double d1), .second, .val (.double d2), .second, .val (.double d3), .second, .val (.double d4), .second, .val (.double d5), .second, .unset, .unset, .unset, .unset, .unset, .unset] [])) _
    refine XS.dloadN X1.here hx rfl (hb hby d1_10) rfl ?_
    show Steps p.tables e below (T1.setTop (mkF m 11 #[.val (.ref o0), .val (.double d1), .second, .val (.double d2), .second, .val (.double d3), .second, .val (.double d4), .second, .val (.double d5), .second, .unset, .unset, .unset, .unset, .unset, .unset] [(.double d1)])) _
    refine st2 _ ?_
    show Steps p.tables e below (T2.setTop (mkF m 14 #[.val (.ref o0), .val (.double d1), .second, .val (.double d2), .second, .val (.double d3), .second, .val (.double d4), .second, .val (.double d5), .second, .unset, .unset, .unset, .unset, .unset, .unset] [(.int (0 : Int32))])) _
    refine XS.ifYes X2.here hx rfl (pc0 := 14) (pc' := 31) rfl (hb hby d1_14) rfl (Jvm.Free.XT.i0_eq_t (by decide)) (by decide) (by decide) ?_
    show Steps p.tables e below (T2.setTop (mkF m 31 #[.val (.ref o0), .val (.double d1), .second, .val (.double d2), .second, .val (.double d3), .second, .val (.double d4), .second, .val (.double d5), .second, .unset, .unset, .unset, .unset, .unset, .unset] [])) _
    refine XS.dloadN X2.here hx rfl (hb hby d1_31) rfl ?_
    show Steps p.tables e below (T2.setTop (mkF m 32 #[.val (.ref o0), .val (.double d1), .second, .val (.double d2), .second, .val (.double d3), .second, .val (.double d4), .second, .val (.double d5), .second, .unset, .unset, .unset, .unset, .unset, .unset] [(.double d2)])) _
    refine XS.dconst0 X2.here hx rfl (hb hby d1_32) (v := FP.dconst0) rfl ?_
    show Steps p.tables e below (T2.setTop (mkF m 33 #[.val (.ref o0), .val (.double d1), .second, .val (.double d2), .second, .val (.double d3), .second, .val (.double d4), .second, .val (.double d5), .second, .unset, .unset, .unset, .unset, .unset, .unset] [(.double FP.dconst0), (.double d2)])) _
    refine XS.dcmpS X2.here hx rfl (hb hby d1_33) rfl hz33 ?_
    show Steps p.tables e below (T2.setTop (mkF m 34 #[.val (.ref o0), .val (.double d1), .second, .val (.double d2), .second, .val (.double d3), .second, .val (.double d4), .second, .val (.double d5), .second, .unset, .unset, .unset, .unset, .unset, .unset] [(.int z33)])) _
    refine XS.ifNo X2.here hx rfl (hb hby d1_34) rfl (Jvm.Free.XT.i0_le_f br34) ?_
    show Steps p.tables e below (T2.setTop (mkF m 37 #[.val (.ref o0), .val (.double d1), .second, .val (.double d2), .second, .val (.double d3), .second, .val (.double d4), .second, .val (.double d5), .second, .unset, .unset, .unset, .unset, .unset, .unset] [])) _
    refine XS.dloadN X2.here hx rfl (hb hby d1_37) rfl ?_
    show Steps p.tables e below (T2.setTop (mkF m 38 #[.val (.ref o0), .val (.double d1), .second, .val (.double d2), .second, .val (.double d3), .second, .val (.double d4), .second, .val (.double d5), .second, .unset, .unset, .unset, .unset, .unset, .unset] [(.double d2)])) _
    refine st3 _ ?_
    show Steps p.tables e below (T3.setTop (mkF m 41 #[.val (.ref o0), .val (.double d1), .second, .val (.double d2), .second, .val (.double d3), .second, .val (.double d4), .second, .val (.double d5), .second, .unset, .unset, .unset, .unset, .unset, .unset] [(.int (0 : Int32))])) _
    refine XS.ifYes X3.here hx rfl (pc0 := 41) (pc' := 58) rfl (hb hby d1_41) rfl (Jvm.Free.XT.i0_eq_t (by decide)) (by decide) (by decide) ?_
    show Steps p.tables e below (T3.setTop (mkF m 58 #[.val (.ref o0), .val (.double d1), .second, .val (.double d2), .second, .val (.double d3), .second, .val (.double d4), .second, .val (.double d5), .second, .unset, .unset, .unset, .unset, .unset, .unset] [])) _
    refine XS.iconst X3.here hx rfl (hb hby d1_58) ?_
    show Steps p.tables e below (T3.setTop (mkF m 59 #[.val (.ref o0), .val (.double d1), .second, .val (.double d2), .second, .val (.double d3), .second, .val (.double d4), .second, .val (.double d5), .second, .unset, .unset, .unset, .unset, .unset, .unset] [(.int (3 : Int32))])) _
    refine st4 _ ?_
    show Steps p.tables e below (T4.setTop (mkF m 61 #[.val (.ref o0), .val (.double d1), .second, .val (.double d2), .second, .val (.double d3), .second, .val (.double d4), .second, .val (.double d5), .second, .unset, .unset, .unset, .unset, .unset, .unset] [(.ref b4)])) _
    refine XS.dup X4.here hx rfl (hb hby d1_61) rfl rfl ?_
    show Steps p.tables e below (T4.setTop (mkF m 62 #[.val (.ref o0), .val (.double d1), .second, .val (.double d2), .second, .val (.double d3), .second, .val (.double d4), .second, .val (.double d5), .second, .unset, .unset, .unset, .unset, .unset, .unset] [(.ref b4), (.ref b4)])) _
    refine XS.iconst X4.here hx rfl (hb hby d1_62) ?_
    show Steps p.tables e below (T4.setTop (mkF m 63 #[.val (.ref o0), .val (.double d1), .second, .val (.double d2), .second, .val (.double d3), .second, .val (.double d4), .second, .val (.double d5), .second, .unset, .unset, .unset, .unset, .unset, .unset] [(.int (0 : Int32)), (.ref b4), (.ref b4)])) _
    refine XS.dload X4.here hx rfl (hb hby d1_63) rfl ?_
    show Steps p.tables e below (T4.setTop (mkF m 65 #[.val (.ref o0), .val (.double d1), .second, .val (.double d2), .second, .val (.double d3), .second, .val (.double d4), .second, .val (.double d5), .second, .unset, .unset, .unset, .unset, .unset, .unset] [(.double d3), (.int (0 : Int32)), (.ref b4), (.ref b4)])) _
    refine st7 _ ?_
    show Steps p.tables e below (T7.setTop (mkF m 66 #[.val (.ref o0), .val (.double d1), .second, .val (.double d2), .second, .val (.double d3), .second, .val (.double d4), .second, .val (.double d5), .second, .unset, .unset, .unset, .unset, .unset, .unset] [(.ref b4)])) _
    refine XS.dup X7.here hx rfl (hb hby d1_66) rfl rfl ?_
    show Steps p.tables e below (T7.setTop (mkF m 67 #[.val (.ref o0), .val (.double d1), .second, .val (.double d2), .second, .val (.double d3), .second, .val (.double d4), .second, .val (.double d5), .second, .unset, .unset, .unset, .unset, .unset, .unset] [(.ref b4), (.ref b4)])) _
    refine XS.iconst X7.here hx rfl (hb hby d1_67) ?_
    show Steps p.tables e below (T7.setTop (mkF m 68 #[.val (.ref o0), .val (.double d1), .second, .val (.double d2), .second, .val (.double d3), .second, .val (.double d4), .second, .val (.double d5), .second, .unset, .unset, .unset, .unset, .unset, .unset] [(.int (1 : Int32)), (.ref b4), (.ref b4)])) _
    refine XS.dload X7.here hx rfl (hb hby d1_68) rfl ?_
    show Steps p.tables e below (T7.setTop (mkF m 70 #[.val (.ref o0), .val (.double d1), .second, .val (.double d2), .second, .val (.double d3), .second, .val (.double d4), .second, .val (.double d5), .second, .unset, .unset, .unset, .unset, .unset, .unset] [(.double d4), (.int (1 : Int32)), (.ref b4), (.ref b4)])) _
    refine st10 _ ?_
    show Steps p.tables e below (T10.setTop (mkF m 71 #[.val (.ref o0), .val (.double d1), .second, .val (.double d2), .second, .val (.double d3), .second, .val (.double d4), .second, .val (.double d5), .second, .unset, .unset, .unset, .unset, .unset, .unset] [(.ref b4)])) _
    refine XS.dup X10.here hx rfl (hb hby d1_71) rfl rfl ?_
    show Steps p.tables e below (T10.setTop (mkF m 72 #[.val (.ref o0), .val (.double d1), .second, .val (.double d2), .second, .val (.double d3), .second, .val (.double d4), .second, .val (.double d5), .second, .unset, .unset, .unset, .unset, .unset, .unset] [(.ref b4), (.ref b4)])) _
    refine XS.iconst X10.here hx rfl (hb hby d1_72) ?_
    show Steps p.tables e below (T10.setTop (mkF m 73 #[.val (.ref o0), .val (.double d1), .second, .val (.double d2), .second, .val (.double d3), .second, .val (.double d4), .second, .val (.double d5), .second, .unset, .unset, .unset, .unset, .unset, .unset] [(.int (2 : Int32)), (.ref b4), (.ref b4)])) _
    refine XS.dload X10.here hx rfl (hb hby d1_73) rfl ?_
    show Steps p.tables e below (T10.setTop (mkF m 75 #[.val (.ref o0), .val (.double d1), .second, .val (.double d2), .second, .val (.double d3), .second, .val (.double d4), .second, .val (.double d5), .second, .unset, .unset, .unset, .unset, .unset, .unset] [(.double d5), (.int (2 : Int32)), (.ref b4), (.ref b4)])) _
    refine st13 _ ?_
    show Steps p.tables e below (T13.setTop (mkF m 76 #[.val (.ref o0), .val (.double d1), .second, .val (.double d2), .second, .val (.double d3), .second, .val (.double d4), .second, .val (.double d5), .second, .unset, .unset, .unset, .unset, .unset, .unset] [(.ref b4)])) _
    refine XS.astore X13.here hx rfl (hb hby d1_76) rfl rfl (l' := #[.val (.ref o0), .val (.double d1), .second, .val (.double d2), .second, .val (.double d3), .second, .val (.double d4), .second, .val (.double d5), .second, .val (.ref b4), .unset, .unset, .unset, .unset, .unset]) rfl ?_
    show Steps p.tables e below (T13.setTop (mkF m 78 #[.val (.ref o0), .val (.double d1), .second, .val (.double d2), .second, .val (.double d3), .second, .val (.double d4), .second, .val (.double d5), .second, .val (.ref b4), .unset, .unset, .unset, .unset, .unset] [])) _
    refine XS.aload X13.here hx rfl (hb hby d1_78) rfl rfl ?_
    show Steps p.tables e below (T13.setTop (mkF m 80 #[.val (.ref o0), .val (.double d1), .second, .val (.double d2), .second, .val (.double d3), .second, .val (.double d4), .second, .val (.double d5), .second, .val (.ref b4), .unset, .unset, .unset, .unset, .unset] [(.ref b4)])) _
    refine XS.astore X13.here hx rfl (hb hby d1_80) rfl rfl (l' := #[.val (.ref o0), .val (.double d1), .second, .val (.double d2), .second, .val (.double d3), .second, .val (.double d4), .second, .val (.double d5), .second, .val (.ref b4), .val (.ref b4), .unset, .unset, .unset, .unset]) rfl ?_
    show Steps p.tables e below (T13.setTop (mkF m 82 #[.val (.ref o0), .val (.double d1), .second, .val (.double d2), .second, .val (.double d3), .second, .val (.double d4), .second, .val (.double d5), .second, .val (.ref b4), .val (.ref b4), .unset, .unset, .unset, .unset] [])) _
    refine XS.aload X13.here hx rfl (hb hby d1_82) rfl rfl ?_
    show Steps p.tables e below (T13.setTop (mkF m 84 #[.val (.ref o0), .val (.double d1), .second, .val (.double d2), .second, .val (.double d3), .second, .val (.double d4), .second, .val (.double d5), .second, .val (.ref b4), .val (.ref b4), .unset, .unset, .unset, .unset] [(.ref b4)])) _
    refine X13.arraylength hx (by rw [e13]; exact Ar15.1) (State.isArrayOf_alike hZ.alike Ar15.2.1) (g := (mkF m 84 #[.val (.ref o0), .val (.double d1), .second, .val (.double d2), .second, .val (.double d3), .second, .val (.double d4), .second, .val (.double d5), .second, .val (.ref b4), .val (.ref b4), .unset, .unset, .unset, .unset] [(.ref b4)])) rfl rfl (hb hby d1_84) _ ?_
    rw [len_of S15 Nn15]
    show Steps p.tables e below (T13.setTop (mkF m 85 #[.val (.ref o0), .val (.double d1), .second, .val (.double d2), .second, .val (.double d3), .second, .val (.double d4), .second, .val (.double d5), .second, .val (.ref b4), .val (.ref b4), .unset, .unset, .unset, .unset] [(.int (3 : Int32))])) _
    refine XS.istore X13.here hx rfl (hb hby d1_85) rfl (l' := #[.val (.ref o0), .val (.double d1), .second, .val (.double d2), .second, .val (.double d3), .second, .val (.double d4), .second, .val (.double d5), .second, .val (.ref b4), .val (.ref b4), .val (.int (3 : Int32)), .unset, .unset, .unset]) rfl ?_
    show Steps p.tables e below (T13.setTop (mkF m 87 #[.val (.ref o0), .val (.double d1), .second, .val (.double d2), .second, .val (.double d3), .second, .val (.double d4), .second, .val (.double d5), .second, .val (.ref b4), .val (.ref b4), .val (.int (3 : Int32)), .unset, .unset, .unset] [])) _
    refine XS.iconst X13.here hx rfl (hb hby d1_87) ?_
    show Steps p.tables e below (T13.setTop (mkF m 88 #[.val (.ref o0), .val (.double d1), .second, .val (.double d2), .second, .val (.double d3), .second, .val (.double d4), .second, .val (.double d5), .second, .val (.ref b4), .val (.ref b4), .val (.int (3 : Int32)), .unset, .unset, .unset] [(.int (0 : Int32))])) _
    refine XS.istore X13.here hx rfl (hb hby d1_88) rfl (l' := #[.val (.ref o0), .val (.double d1), .second, .val (.double d2), .second, .val (.double d3), .second, .val (.double d4), .second, .val (.double d5), .second, .val (.ref b4), .val (.ref b4), .val (.int (3 : Int32)), .val (.int (0 : Int32)), .unset, .unset]) rfl ?_
    show Steps p.tables e below (T13.setTop (mkF m 90 #[.val (.ref o0), .val (.double d1), .second, .val (.double d2), .second, .val (.double d3), .second, .val (.double d4), .second, .val (.double d5), .second, .val (.ref b4), .val (.ref b4), .val (.int (3 : Int32)), .val (.int (0 : Int32)), .unset, .unset] [])) _
    refine XS.iload X13.here hx rfl (hb hby d1_90) rfl ?_
    show Steps p.tables e below (T13.setTop (mkF m 92 #[.val (.ref o0), .val (.double d1), .second, .val (.double d2), .second, .val (.double d3), .second, .val (.double d4), .second, .val (.double d5), .second, .val (.ref b4), .val (.ref b4), .val (.int (3 : Int32)), .val (.int (0 : Int32)), .unset, .unset] [(.int (0 : Int32))])) _
    refine XS.iload X13.here hx rfl (hb hby d1_92) rfl ?_
    show Steps p.tables e below (T13.setTop (mkF m 94 #[.val (.ref o0), .val (.double d1), .second, .val (.double d2), .second, .val (.double d3), .second, .val (.double d4), .second, .val (.double d5), .second, .val (.ref b4), .val (.ref b4), .val (.int (3 : Int32)), .val (.int (0 : Int32)), .unset, .unset] [(.int (3 : Int32)), (.int (0 : Int32))])) _
    refine XS.icmpNo X13.here hx rfl (hb hby d1_94) rfl (Jvm.Free.XT.ii_ge_f (by decide)) ?_
    show Steps p.tables e below (T13.setTop (mkF m 97 #[.val (.ref o0), .val (.double d1), .second, .val (.double d2), .second, .val (.double d3), .second, .val (.double d4), .second, .val (.double d5), .second, .val (.ref b4), .val (.ref b4), .val (.int (3 : Int32)), .val (.int (0 : Int32)), .unset, .unset] [])) _
    refine XS.aload X13.here hx rfl (hb hby d1_97) rfl rfl ?_
    show Steps p.tables e below (T13.setTop (mkF m 99 #[.val (.ref o0), .val (.double d1), .second, .val (.double d2), .second, .val (.double d3), .second, .val (.double d4), .second, .val (.double d5), .second, .val (.ref b4), .val (.ref b4), .val (.int (3 : Int32)), .val (.int (0 : Int32)), .unset, .unset] [(.ref b4)])) _
    refine XS.iload X13.here hx rfl (hb hby d1_99) rfl ?_
    show Steps p.tables e below (T13.setTop (mkF m 101 #[.val (.ref o0), .val (.double d1), .second, .val (.double d2), .second, .val (.double d3), .second, .val (.double d4), .second, .val (.double d5), .second, .val (.ref b4), .val (.ref b4), .val (.int (3 : Int32)), .val (.int (0 : Int32)), .unset, .unset] [(.int (0 : Int32)), (.ref b4)])) _
    refine X13.daload hx (j := (0 : Int32)) (v := (.double d3)) (by rw [e13]; exact Ar16.1) (State.isArrayOf_alike hZ.alike Ar16.2.1) Ar16.2.2 in16 (Has.at Ha16 in16 rfl) (g := (mkF m 101 #[.val (.ref o0), .val (.double d1), .second, .val (.double d2), .second, .val (.double d3), .second, .val (.double d4), .second, .val (.double d5), .second, .val (.ref b4), .val (.ref b4), .val (.int (3 : Int32)), .val (.int (0 : Int32)), .unset, .unset] [(.int (0 : Int32)), (.ref b4)])) rfl rfl (hb hby d1_101) _ ?_
    show Steps p.tables e below (T13.setTop (mkF m 102 #[.val (.ref o0), .val (.double d1), .second, .val (.double d2), .second, .val (.double d3), .second, .val (.double d4), .second, .val (.double d5), .second, .val (.ref b4), .val (.ref b4), .val (.int (3 : Int32)), .val (.int (0 : Int32)), .unset, .unset] [(.double d3)])) _
    refine XS.dstore X13.here hx rfl (hb hby d1_102) rfl (l' := #[.val (.ref o0), .val (.double d1), .second, .val (.double d2), .second, .val (.double d3), .second, .val (.double d4), .second, .val (.double d5), .second, .val (.ref b4), .val (.ref b4), .val (.int (3 : Int32)), .val (.int (0 : Int32)), .val (.double d3), .second]) rfl ?_
    show Steps p.tables e below (T13.setTop (mkF m 104 #[.val (.ref o0), .val (.double d1), .second, .val (.double d2), .second, .val (.double d3), .second, .val (.double d4), .second, .val (.double d5), .second, .val (.ref b4), .val (.ref b4), .val (.int (3 : Int32)), .val (.int (0 : Int32)), .val (.double d3), .second] [])) _
    refine XS.dload X13.here hx rfl (hb hby d1_104) rfl ?_
    show Steps p.tables e below (T13.setTop (mkF m 106 #[.val (.ref o0), .val (.double d1), .second, .val (.double d2), .second, .val (.double d3), .second, .val (.double d4), .second, .val (.double d5), .second, .val (.ref b4), .val (.ref b4), .val (.int (3 : Int32)), .val (.int (0 : Int32)), .val (.double d3), .second] [(.double d3)])) _
    refine XS.dconst0 X13.here hx rfl (hb hby d1_106) (v := FP.dconst0) rfl ?_
    show Steps p.tables e below (T13.setTop (mkF m 107 #[.val (.ref o0), .val (.double d1), .second, .val (.double d2), .second, .val (.double d3), .second, .val (.double d4), .second, .val (.double d5), .second, .val (.ref b4), .val (.ref b4), .val (.int (3 : Int32)), .val (.int (0 : Int32)), .val (.double d3), .second] [(.double FP.dconst0), (.double d3)])) _
    refine XS.dcmpS X13.here hx rfl (hb hby d1_107) rfl hz107 ?_
    show Steps p.tables e below (T13.setTop (mkF m 108 #[.val (.ref o0), .val (.double d1), .second, .val (.double d2), .second, .val (.double d3), .second, .val (.double d4), .second, .val (.double d5), .second, .val (.ref b4), .val (.ref b4), .val (.int (3 : Int32)), .val (.int (0 : Int32)), .val (.double d3), .second] [(.int z107)])) _
    refine XS.ifNo X13.here hx rfl (hb hby d1_108) rfl (Jvm.Free.XT.i0_lt_f br108) ?_
    show Steps p.tables e below (T13.setTop (mkF m 111 #[.val (.ref o0), .val (.double d1), .second, .val (.double d2), .second, .val (.double d3), .second, .val (.double d4), .second, .val (.double d5), .second, .val (.ref b4), .val (.ref b4), .val (.int (3 : Int32)), .val (.int (0 : Int32)), .val (.double d3), .second] [])) _
    refine XS.dload X13.here hx rfl (hb hby d1_111) rfl ?_
    show Steps p.tables e below (T13.setTop (mkF m 113 #[.val (.ref o0), .val (.double d1), .second, .val (.double d2), .second, .val (.double d3), .second, .val (.double d4), .second, .val (.double d5), .second, .val (.ref b4), .val (.ref b4), .val (.int (3 : Int32)), .val (.int (0 : Int32)), .val (.double d3), .second] [(.double d3)])) _
    refine st17 _ ?_
    show Steps p.tables e below (T17.setTop (mkF m 116 #[.val (.ref o0), .val (.double d1), .second, .val (.double d2), .second, .val (.double d3), .second, .val (.double d4), .second, .val (.double d5), .second, .val (.ref b4), .val (.ref b4), .val (.int (3 : Int32)), .val (.int (0 : Int32)), .val (.double d3), .second] [(.int (0 : Int32))])) _
    refine XS.ifYes X17.here hx rfl (pc0 := 116) (pc' := 134) rfl (hb hby d1_116) rfl (Jvm.Free.XT.i0_eq_t (by decide)) (by decide) (by decide) ?_
    show Steps p.tables e below (T17.setTop (mkF m 134 #[.val (.ref o0), .val (.double d1), .second, .val (.double d2), .second, .val (.double d3), .second, .val (.double d4), .second, .val (.double d5), .second, .val (.ref b4), .val (.ref b4), .val (.int (3 : Int32)), .val (.int (0 : Int32)), .val (.double d3), .second] [])) _
    refine Jvm.OwnK.iinc X17.here hx rfl (hb hby d1_134) rfl (l' := #[.val (.ref o0), .val (.double d1), .second, .val (.double d2), .second, .val (.double d3), .second, .val (.double d4), .second, .val (.double d5), .second, .val (.ref b4), .val (.ref b4), .val (.int (3 : Int32)), .val (.int (1 : Int32)), .val (.double d3), .second]) (v := (1 : Int32)) (by decide) rfl ?_
    show Steps p.tables e below (T17.setTop (mkF m 137 #[.val (.ref o0), .val (.double d1), .second, .val (.double d2), .second, .val (.double d3), .second, .val (.double d4), .second, .val (.double d5), .second, .val (.ref b4), .val (.ref b4), .val (.int (3 : Int32)), .val (.int (1 : Int32)), .val (.double d3), .second] [])) _
    refine XS.goto X17.here hx rfl (pc0 := 137) (pc' := 90) rfl (hb hby d1_137) (by decide) (by decide) ?_
    show Steps p.tables e below (T17.setTop (mkF m 90 #[.val (.ref o0), .val (.double d1), .second, .val (.double d2), .second, .val (.double d3), .second, .val (.double d4), .second, .val (.double d5), .second, .val (.ref b4), .val (.ref b4), .val (.int (3 : Int32)), .val (.int (1 : Int32)), .val (.double d3), .second] [])) _
    refine XS.iload X17.here hx rfl (hb hby d1_90) rfl ?_
    show Steps p.tables e below (T17.setTop (mkF m 92 #[.val (.ref o0), .val (.double d1), .second, .val (.double d2), .second, .val (.double d3), .second, .val (.double d4), .second, .val (.double d5), .second, .val (.ref b4), .val (.ref b4), .val (.int (3 : Int32)), .val (.int (1 : Int32)), .val (.double d3), .second] [(.int (1 : Int32))])) _
    refine XS.iload X17.here hx rfl (hb hby d1_92) rfl ?_
    show Steps p.tables e below (T17.setTop (mkF m 94 #[.val (.ref o0), .val (.double d1), .second, .val (.double d2), .second, .val (.double d3), .second, .val (.double d4), .second, .val (.double d5), .second, .val (.ref b4), .val (.ref b4), .val (.int (3 : Int32)), .val (.int (1 : Int32)), .val (.double d3), .second] [(.int (3 : Int32)), (.int (1 : Int32))])) _
    refine XS.icmpNo X17.here hx rfl (hb hby d1_94) rfl (Jvm.Free.XT.ii_ge_f (by decide)) ?_
    show Steps p.tables e below (T17.setTop (mkF m 97 #[.val (.ref o0), .val (.double d1), .second, .val (.double d2), .second, .val (.double d3), .second, .val (.double d4), .second, .val (.double d5), .second, .val (.ref b4), .val (.ref b4), .val (.int (3 : Int32)), .val (.int (1 : Int32)), .val (.double d3), .second] [])) _
    refine XS.aload X17.here hx rfl (hb hby d1_97) rfl rfl ?_
    show Steps p.tables e below (T17.setTop (mkF m 99 #[.val (.ref o0), .val (.double d1), .second, .val (.double d2), .second, .val (.double d3), .second, .val (.double d4), .second, .val (.double d5), .second, .val (.ref b4), .val (.ref b4), .val (.int (3 : Int32)), .val (.int (1 : Int32)), .val (.double d3), .second] [(.ref b4)])) _
    refine XS.iload X17.here hx rfl (hb hby d1_99) rfl ?_
    show Steps p.tables e below (T17.setTop (mkF m 101 #[.val (.ref o0), .val (.double d1), .second, .val (.double d2), .second, .val (.double d3), .second, .val (.double d4), .second, .val (.double d5), .second, .val (.ref b4), .val (.ref b4), .val (.int (3 : Int32)), .val (.int (1 : Int32)), .val (.double d3), .second] [(.int (1 : Int32)), (.ref b4)])) _
    refine X17.daload hx (j := (1 : Int32)) (v := (.double d4)) (by rw [e17]; exact Ar18.1) (State.isArrayOf_alike hZ.alike Ar18.2.1) Ar18.2.2 in18 (Has.at Ha18 in18 rfl) (g := (mkF m 101 #[.val (.ref o0), .val (.double d1), .second, .val (.double d2), .second, .val (.double d3), .second, .val (.double d4), .second, .val (.double d5), .second, .val (.ref b4), .val (.ref b4), .val (.int (3 : Int32)), .val (.int (1 : Int32)), .val (.double d3), .second] [(.int (1 : Int32)), (.ref b4)])) rfl rfl (hb hby d1_101) _ ?_
    show Steps p.tables e below (T17.setTop (mkF m 102 #[.val (.ref o0), .val (.double d1), .second, .val (.double d2), .second, .val (.double d3), .second, .val (.double d4), .second, .val (.double d5), .second, .val (.ref b4), .val (.ref b4), .val (.int (3 : Int32)), .val (.int (1 : Int32)), .val (.double d3), .second] [(.double d4)])) _
    refine XS.dstore X17.here hx rfl (hb hby d1_102) rfl (l' := #[.val (.ref o0), .val (.double d1), .second, .val (.double d2), .second, .val (.double d3), .second, .val (.double d4), .second, .val (.double d5), .second, .val (.ref b4), .val (.ref b4), .val (.int (3 : Int32)), .val (.int (1 : Int32)), .val (.double d4), .second]) rfl ?_
    show Steps p.tables e below (T17.setTop (mkF m 104 #[.val (.ref o0), .val (.double d1), .second, .val (.double d2), .second, .val (.double d3), .second, .val (.double d4), .second, .val (.double d5), .second, .val (.ref b4), .val (.ref b4), .val (.int (3 : Int32)), .val (.int (1 : Int32)), .val (.double d4), .second] [])) _
    refine XS.dload X17.here hx rfl (hb hby d1_104) rfl ?_
    show Steps p.tables e below (T17.setTop (mkF m 106 #[.val (.ref o0), .val (.double d1), .second, .val (.double d2), .second, .val (.double d3), .second, .val (.double d4), .second, .val (.double d5), .second, .val (.ref b4), .val (.ref b4), .val (.int (3 : Int32)), .val (.int (1 : Int32)), .val (.double d4), .second] [(.double d4)])) _
    refine XS.dconst0 X17.here hx rfl (hb hby d1_106) (v := FP.dconst0) rfl ?_
    show Steps p.tables e below (T17.setTop (mkF m 107 #[.val (.ref o0), .val (.double d1), .second, .val (.double d2), .second, .val (.double d3), .second, .val (.double d4), .second, .val (.double d5), .second, .val (.ref b4), .val (.ref b4), .val (.int (3 : Int32)), .val (.int (1 : Int32)), .val (.double d4), .second] [(.double FP.dconst0), (.double d4)])) _
    refine XS.dcmpS X17.here hx rfl (hb hby d1_107) rfl hz107_2 ?_
    show Steps p.tables e below (T17.setTop (mkF m 108 #[.val (.ref o0), .val (.double d1), .second, .val (.double d2), .second, .val (.double d3), .second, .val (.double d4), .second, .val (.double d5), .second, .val (.ref b4), .val (.ref b4), .val (.int (3 : Int32)), .val (.int (1 : Int32)), .val (.double d4), .second] [(.int z107_2)])) _
    refine XS.ifNo X17.here hx rfl (hb hby d1_108) rfl (Jvm.Free.XT.i0_lt_f br108_2) ?_
    show Steps p.tables e below (T17.setTop (mkF m 111 #[.val (.ref o0), .val (.double d1), .second, .val (.double d2), .second, .val (.double d3), .second, .val (.double d4), .second, .val (.double d5), .second, .val (.ref b4), .val (.ref b4), .val (.int (3 : Int32)), .val (.int (1 : Int32)), .val (.double d4), .second] [])) _
    refine XS.dload X17.here hx rfl (hb hby d1_111) rfl ?_
    show Steps p.tables e below (T17.setTop (mkF m 113 #[.val (.ref o0), .val (.double d1), .second, .val (.double d2), .second, .val (.double d3), .second, .val (.double d4), .second, .val (.double d5), .second, .val (.ref b4), .val (.ref b4), .val (.int (3 : Int32)), .val (.int (1 : Int32)), .val (.double d4), .second] [(.double d4)])) _
    refine st19 _ ?_
    show Steps p.tables e below (T19.setTop (mkF m 116 #[.val (.ref o0), .val (.double d1), .second, .val (.double d2), .second, .val (.double d3), .second, .val (.double d4), .second, .val (.double d5), .second, .val (.ref b4), .val (.ref b4), .val (.int (3 : Int32)), .val (.int (1 : Int32)), .val (.double d4), .second] [(.int (0 : Int32))])) _
    refine XS.ifYes X19.here hx rfl (pc0 := 116) (pc' := 134) rfl (hb hby d1_116) rfl (Jvm.Free.XT.i0_eq_t (by decide)) (by decide) (by decide) ?_
    show Steps p.tables e below (T19.setTop (mkF m 134 #[.val (.ref o0), .val (.double d1), .second, .val (.double d2), .second, .val (.double d3), .second, .val (.double d4), .second, .val (.double d5), .second, .val (.ref b4), .val (.ref b4), .val (.int (3 : Int32)), .val (.int (1 : Int32)), .val (.double d4), .second] [])) _
    refine Jvm.OwnK.iinc X19.here hx rfl (hb hby d1_134) rfl (l' := #[.val (.ref o0), .val (.double d1), .second, .val (.double d2), .second, .val (.double d3), .second, .val (.double d4), .second, .val (.double d5), .second, .val (.ref b4), .val (.ref b4), .val (.int (3 : Int32)), .val (.int (2 : Int32)), .val (.double d4), .second]) (v := (2 : Int32)) (by decide) rfl ?_
    show Steps p.tables e below (T19.setTop (mkF m 137 #[.val (.ref o0), .val (.double d1), .second, .val (.double d2), .second, .val (.double d3), .second, .val (.double d4), .second, .val (.double d5), .second, .val (.ref b4), .val (.ref b4), .val (.int (3 : Int32)), .val (.int (2 : Int32)), .val (.double d4), .second] [])) _
    refine XS.goto X19.here hx rfl (pc0 := 137) (pc' := 90) rfl (hb hby d1_137) (by decide) (by decide) ?_
    show Steps p.tables e below (T19.setTop (mkF m 90 #[.val (.ref o0), .val (.double d1), .second, .val (.double d2), .second, .val (.double d3), .second, .val (.double d4), .second, .val (.double d5), .second, .val (.ref b4), .val (.ref b4), .val (.int (3 : Int32)), .val (.int (2 : Int32)), .val (.double d4), .second] [])) _
    refine XS.iload X19.here hx rfl (hb hby d1_90) rfl ?_
    show Steps p.tables e below (T19.setTop (mkF m 92 #[.val (.ref o0), .val (.double d1), .second, .val (.double d2), .second, .val (.double d3), .second, .val (.double d4), .second, .val (.double d5), .second, .val (.ref b4), .val (.ref b4), .val (.int (3 : Int32)), .val (.int (2 : Int32)), .val (.double d4), .second] [(.int (2 : Int32))])) _
    refine XS.iload X19.here hx rfl (hb hby d1_92) rfl ?_
    show Steps p.tables e below (T19.setTop (mkF m 94 #[.val (.ref o0), .val (.double d1), .second, .val (.double d2), .second, .val (.double d3), .second, .val (.double d4), .second, .val (.double d5), .second, .val (.ref b4), .val (.ref b4), .val (.int (3 : Int32)), .val (.int (2 : Int32)), .val (.double d4), .second] [(.int (3 : Int32)), (.int (2 : Int32))])) _
    refine XS.icmpNo X19.here hx rfl (hb hby d1_94) rfl (Jvm.Free.XT.ii_ge_f (by decide)) ?_
    show Steps p.tables e below (T19.setTop (mkF m 97 #[.val (.ref o0), .val (.double d1), .second, .val (.double d2), .second, .val (.double d3), .second, .val (.double d4), .second, .val (.double d5), .second, .val (.ref b4), .val (.ref b4), .val (.int (3 : Int32)), .val (.int (2 : Int32)), .val (.double d4), .second] [])) _
    refine XS.aload X19.here hx rfl (hb hby d1_97) rfl rfl ?_
    show Steps p.tables e below (T19.setTop (mkF m 99 #[.val (.ref o0), .val (.double d1), .second, .val (.double d2), .second, .val (.double d3), .second, .val (.double d4), .second, .val (.double d5), .second, .val (.ref b4), .val (.ref b4), .val (.int (3 : Int32)), .val (.int (2 : Int32)), .val (.double d4), .second] [(.ref b4)])) _
    refine XS.iload X19.here hx rfl (hb hby d1_99) rfl ?_
    show Steps p.tables e below (T19.setTop (mkF m 101 #[.val (.ref o0), .val (.double d1), .second, .val (.double d2), .second, .val (.double d3), .second, .val (.double d4), .second, .val (.double d5), .second, .val (.ref b4), .val (.ref b4), .val (.int (3 : Int32)), .val (.int (2 : Int32)), .val (.double d4), .second] [(.int (2 : Int32)), (.ref b4)])) _
    refine X19.daload hx (j := (2 : Int32)) (v := (.double d5)) (by rw [e19]; exact Ar20.1) (State.isArrayOf_alike hZ.alike Ar20.2.1) Ar20.2.2 in20 (Has.at Ha20 in20 rfl) (g := (mkF m 101 #[.val (.ref o0), .val (.double d1), .second, .val (.double d2), .second, .val (.double d3), .second, .val (.double d4), .second, .val (.double d5), .second, .val (.ref b4), .val (.ref b4), .val (.int (3 : Int32)), .val (.int (2 : Int32)), .val (.double d4), .second] [(.int (2 : Int32)), (.ref b4)])) rfl rfl (hb hby d1_101) _ ?_
    show Steps p.tables e below (T19.setTop (mkF m 102 #[.val (.ref o0), .val (.double d1), .second, .val (.double d2), .second, .val (.double d3), .second, .val (.double d4), .second, .val (.double d5), .second, .val (.ref b4), .val (.ref b4), .val (.int (3 : Int32)), .val (.int (2 : Int32)), .val (.double d4), .second] [(.double d5)])) _
    refine XS.dstore X19.here hx rfl (hb hby d1_102) rfl (l' := #[.val (.ref o0), .val (.double d1), .second, .val (.double d2), .second, .val (.double d3), .second, .val (.double d4), .second, .val (.double d5), .second, .val (.ref b4), .val (.ref b4), .val (.int (3 : Int32)), .val (.int (2 : Int32)), .val (.double d5), .second]) rfl ?_
    show Steps p.tables e below (T19.setTop (mkF m 104 #[.val (.ref o0), .val (.double d1), .second, .val (.double d2), .second, .val (.double d3), .second, .val (.double d4), .second, .val (.double d5), .second, .val (.ref b4), .val (.ref b4), .val (.int (3 : Int32)), .val (.int (2 : Int32)), .val (.double d5), .second] [])) _
    refine XS.dload X19.here hx rfl (hb hby d1_104) rfl ?_
    show Steps p.tables e below (T19.setTop (mkF m 106 #[.val (.ref o0), .val (.double d1), .second, .val (.double d2), .second, .val (.double d3), .second, .val (.double d4), .second, .val (.double d5), .second, .val (.ref b4), .val (.ref b4), .val (.int (3 : Int32)), .val (.int (2 : Int32)), .val (.double d5), .second] [(.double d5)])) _
    refine XS.dconst0 X19.here hx rfl (hb hby d1_106) (v := FP.dconst0) rfl ?_
    show Steps p.tables e below (T19.setTop (mkF m 107 #[.val (.ref o0), .val (.double d1), .second, .val (.double d2), .second, .val (.double d3), .second, .val (.double d4), .second, .val (.double d5), .second, .val (.ref b4), .val (.ref b4), .val (.int (3 : Int32)), .val (.int (2 : Int32)), .val (.double d5), .second] [(.double FP.dconst0), (.double d5)])) _
    refine XS.dcmpS X19.here hx rfl (hb hby d1_107) rfl hz107_3 ?_
    show Steps p.tables e below (T19.setTop (mkF m 108 #[.val (.ref o0), .val (.double d1), .second, .val (.double d2), .second, .val (.double d3), .second, .val (.double d4), .second, .val (.double d5), .second, .val (.ref b4), .val (.ref b4), .val (.int (3 : Int32)), .val (.int (2 : Int32)), .val (.double d5), .second] [(.int z107_3)])) _
    refine XS.ifNo X19.here hx rfl (hb hby d1_108) rfl (Jvm.Free.XT.i0_lt_f br108_3) ?_
    show Steps p.tables e below (T19.setTop (mkF m 111 #[.val (.ref o0), .val (.double d1), .second, .val (.double d2), .second, .val (.double d3), .second, .val (.double d4), .second, .val (.double d5), .second, .val (.ref b4), .val (.ref b4), .val (.int (3 : Int32)), .val (.int (2 : Int32)), .val (.double d5), .second] [])) _
    refine XS.dload X19.here hx rfl (hb hby d1_111) rfl ?_
    show Steps p.tables e below (T19.setTop (mkF m 113 #[.val (.ref o0), .val (.double d1), .second, .val (.double d2), .second, .val (.double d3), .second, .val (.double d4), .second, .val (.double d5), .second, .val (.ref b4), .val (.ref b4), .val (.int (3 : Int32)), .val (.int (2 : Int32)), .val (.double d5), .second] [(.double d5)])) _
    refine st21 _ ?_
    show Steps p.tables e below (T21.setTop (mkF m 116 #[.val (.ref o0), .val (.double d1), .second, .val (.double d2), .second, .val (.double d3), .second, .val (.double d4), .second, .val (.double d5), .second, .val (.ref b4), .val (.ref b4), .val (.int (3 : Int32)), .val (.int (2 : Int32)), .val (.double d5), .second] [(.int (0 : Int32))])) _
    refine XS.ifYes X21.here hx rfl (pc0 := 116) (pc' := 134) rfl (hb hby d1_116) rfl (Jvm.Free.XT.i0_eq_t (by decide)) (by decide) (by decide) ?_
    show Steps p.tables e below (T21.setTop (mkF m 134 #[.val (.ref o0), .val (.double d1), .second, .val (.double d2), .second, .val (.double d3), .second, .val (.double d4), .second, .val (.double d5), .second, .val (.ref b4), .val (.ref b4), .val (.int (3 : Int32)), .val (.int (2 : Int32)), .val (.double d5), .second] [])) _
    refine Jvm.OwnK.iinc X21.here hx rfl (hb hby d1_134) rfl (l' := #[.val (.ref o0), .val (.double d1), .second, .val (.double d2), .second, .val (.double d3), .second, .val (.double d4), .second, .val (.double d5), .second, .val (.ref b4), .val (.ref b4), .val (.int (3 : Int32)), .val (.int (3 : Int32)), .val (.double d5), .second]) (v := (3 : Int32)) (by decide) rfl ?_
    show Steps p.tables e below (T21.setTop (mkF m 137 #[.val (.ref o0), .val (.double d1), .second, .val (.double d2), .second, .val (.double d3), .second, .val (.double d4), .second, .val (.double d5), .second, .val (.ref b4), .val (.ref b4), .val (.int (3 : Int32)), .val (.int (3 : Int32)), .val (.double d5), .second] [])) _
    refine XS.goto X21.here hx rfl (pc0 := 137) (pc' := 90) rfl (hb hby d1_137) (by decide) (by decide) ?_
    show Steps p.tables e below (T21.setTop (mkF m 90 #[.val (.ref o0), .val (.double d1), .second, .val (.double d2), .second, .val (.double d3), .second, .val (.double d4), .second, .val (.double d5), .second, .val (.ref b4), .val (.ref b4), .val (.int (3 : Int32)), .val (.int (3 : Int32)), .val (.double d5), .second] [])) _
    refine XS.iload X21.here hx rfl (hb hby d1_90) rfl ?_
    show Steps p.tables e below (T21.setTop (mkF m 92 #[.val (.ref o0), .val (.double d1), .second, .val (.double d2), .second, .val (.double d3), .second, .val (.double d4), .second, .val (.double d5), .second, .val (.ref b4), .val (.ref b4), .val (.int (3 : Int32)), .val (.int (3 : Int32)), .val (.double d5), .second] [(.int (3 : Int32))])) _
    refine XS.iload X21.here hx rfl (hb hby d1_92) rfl ?_
    show Steps p.tables e below (T21.setTop (mkF m 94 #[.val (.ref o0), .val (.double d1), .second, .val (.double d2), .second, .val (.double d3), .second, .val (.double d4), .second, .val (.double d5), .second, .val (.ref b4), .val (.ref b4), .val (.int (3 : Int32)), .val (.int (3 : Int32)), .val (.double d5), .second] [(.int (3 : Int32)), (.int (3 : Int32))])) _
    refine XS.icmpYes X21.here hx rfl (pc0 := 94) (pc' := 140) rfl (hb hby d1_94) rfl (Jvm.Free.XT.ii_ge_t (by decide)) (by decide) (by decide) ?_
    show Steps p.tables e below (T21.setTop (mkF m 140 #[.val (.ref o0), .val (.double d1), .second, .val (.double d2), .second, .val (.double d3), .second, .val (.double d4), .second, .val (.double d5), .second, .val (.ref b4), .val (.ref b4), .val (.int (3 : Int32)), .val (.int (3 : Int32)), .val (.double d5), .second] [])) _
    refine XS.dload X21.here hx rfl (hb hby d1_140) rfl ?_
    show Steps p.tables e below (T21.setTop (mkF m 142 #[.val (.ref o0), .val (.double d1), .second, .val (.double d2), .second, .val (.double d3), .second, .val (.double d4), .second, .val (.double d5), .second, .val (.ref b4), .val (.ref b4), .val (.int (3 : Int32)), .val (.int (3 : Int32)), .val (.double d5), .second] [(.double d3)])) _
    refine XS.dconst0 X21.here hx rfl (hb hby d1_142) (v := FP.dconst0) rfl ?_
    show Steps p.tables e below (T21.setTop (mkF m 143 #[.val (.ref o0), .val (.double d1), .second, .val (.double d2), .second, .val (.double d3), .second, .val (.double d4), .second, .val (.double d5), .second, .val (.ref b4), .val (.ref b4), .val (.int (3 : Int32)), .val (.int (3 : Int32)), .val (.double d5), .second] [(.double FP.dconst0), (.double d3)])) _
    refine XS.dcmpS X21.here hx rfl (hb hby d1_143) rfl hz143 ?_
    show Steps p.tables e below (T21.setTop (mkF m 144 #[.val (.ref o0), .val (.double d1), .second, .val (.double d2), .second, .val (.double d3), .second, .val (.double d4), .second, .val (.double d5), .second, .val (.ref b4), .val (.ref b4), .val (.int (3 : Int32)), .val (.int (3 : Int32)), .val (.double d5), .second] [(.int z143)])) _
    refine XS.ifYes X21.here hx rfl (pc0 := 144) (pc' := 164) rfl (hb hby d1_144) rfl (Jvm.Free.XT.i0_ne_t br144) (by decide) (by decide) ?_
    show Steps p.tables e below (T21.setTop (mkF m 164 #[.val (.ref o0), .val (.double d1), .second, .val (.double d2), .second, .val (.double d3), .second, .val (.double d4), .second, .val (.double d5), .second, .val (.ref b4), .val (.ref b4), .val (.int (3 : Int32)), .val (.int (3 : Int32)), .val (.double d5), .second] [])) _
    refine XS.aloadN X21.here hx rfl (hb hby d1_164) rfl rfl ?_
    show Steps p.tables e below (T21.setTop (mkF m 165 #[.val (.ref o0), .val (.double d1), .second, .val (.double d2), .second, .val (.double d3), .second, .val (.double d4), .second, .val (.double d5), .second, .val (.ref b4), .val (.ref b4), .val (.int (3 : Int32)), .val (.int (3 : Int32)), .val (.double d5), .second] [(.ref o0)])) _
    refine XS.dloadN X21.here hx rfl (hb hby d1_165) rfl ?_
    show Steps p.tables e below (T21.setTop (mkF m 166 #[.val (.ref o0), .val (.double d1), .second, .val (.double d2), .second, .val (.double d3), .second, .val (.double d4), .second, .val (.double d5), .second, .val (.ref b4), .val (.ref b4), .val (.int (3 : Int32)), .val (.int (3 : Int32)), .val (.double d5), .second] [(.double d1), (.ref o0)])) _
    refine st24 _ ?_
    show Steps p.tables e below (T24.setTop (mkF m 169 #[.val (.ref o0), .val (.double d1), .second, .val (.double d2), .second, .val (.double d3), .second, .val (.double d4), .second, .val (.double d5), .second, .val (.ref b4), .val (.ref b4), .val (.int (3 : Int32)), .val (.int (3 : Int32)), .val (.double d5), .second] [])) _
    refine XS.aloadN X24.here hx rfl (hb hby d1_169) rfl rfl ?_
    show Steps p.tables e below (T24.setTop (mkF m 170 #[.val (.ref o0), .val (.double d1), .second, .val (.double d2), .second, .val (.double d3), .second, .val (.double d4), .second, .val (.double d5), .second, .val (.ref b4), .val (.ref b4), .val (.int (3 : Int32)), .val (.int (3 : Int32)), .val (.double d5), .second] [(.ref o0)])) _
    refine XS.dloadN X24.here hx rfl (hb hby d1_170) rfl ?_
    show Steps p.tables e below (T24.setTop (mkF m 171 #[.val (.ref o0), .val (.double d1), .second, .val (.double d2), .second, .val (.double d3), .second, .val (.double d4), .second, .val (.double d5), .second, .val (.ref b4), .val (.ref b4), .val (.int (3 : Int32)), .val (.int (3 : Int32)), .val (.double d5), .second] [(.double d2), (.ref o0)])) _
    refine st28 _ ?_
    show Steps p.tables e below (T28.setTop (mkF m 174 #[.val (.ref o0), .val (.double d1), .second, .val (.double d2), .second, .val (.double d3), .second, .val (.double d4), .second, .val (.double d5), .second, .val (.ref b4), .val (.ref b4), .val (.int (3 : Int32)), .val (.int (3 : Int32)), .val (.double d5), .second] [])) _
    refine XS.aloadN X28.here hx rfl (hb hby d1_174) rfl rfl ?_
    show Steps p.tables e below (T28.setTop (mkF m 175 #[.val (.ref o0), .val (.double d1), .second, .val (.double d2), .second, .val (.double d3), .second, .val (.double d4), .second, .val (.double d5), .second, .val (.ref b4), .val (.ref b4), .val (.int (3 : Int32)), .val (.int (3 : Int32)), .val (.double d5), .second] [(.ref o0)])) _
    refine XS.dload X28.here hx rfl (hb hby d1_175) rfl ?_
    show Steps p.tables e below (T28.setTop (mkF m 177 #[.val (.ref o0), .val (.double d1), .second, .val (.double d2), .second, .val (.double d3), .second, .val (.double d4), .second, .val (.double d5), .second, .val (.ref b4), .val (.ref b4), .val (.int (3 : Int32)), .val (.int (3 : Int32)), .val (.double d5), .second] [(.double d3), (.ref o0)])) _
    refine st32 _ ?_
    show Steps p.tables e below (T32.setTop (mkF m 180 #[.val (.ref o0), .val (.double d1), .second, .val (.double d2), .second, .val (.double d3), .second, .val (.double d4), .second, .val (.double d5), .second, .val (.ref b4), .val (.ref b4), .val (.int (3 : Int32)), .val (.int (3 : Int32)), .val (.double d5), .second] [])) _
    refine XS.aloadN X32.here hx rfl (hb hby d1_180) rfl rfl ?_
    show Steps p.tables e below (T32.setTop (mkF m 181 #[.val (.ref o0), .val (.double d1), .second, .val (.double d2), .second, .val (.double d3), .second, .val (.double d4), .second, .val (.double d5), .second, .val (.ref b4), .val (.ref b4), .val (.int (3 : Int32)), .val (.int (3 : Int32)), .val (.double d5), .second] [(.ref o0)])) _
    refine XS.dload X32.here hx rfl (hb hby d1_181) rfl ?_
    show Steps p.tables e below (T32.setTop (mkF m 183 #[.val (.ref o0), .val (.double d1), .second, .val (.double d2), .second, .val (.double d3), .second, .val (.double d4), .second, .val (.double d5), .second, .val (.ref b4), .val (.ref b4), .val (.int (3 : Int32)), .val (.int (3 : Int32)), .val (.double d5), .second] [(.double d4), (.ref o0)])) _
    refine st36 _ ?_
    show Steps p.tables e below (T36.setTop (mkF m 186 #[.val (.ref o0), .val (.double d1), .second, .val (.double d2), .second, .val (.double d3), .second, .val (.double d4), .second, .val (.double d5), .second, .val (.ref b4), .val (.ref b4), .val (.int (3 : Int32)), .val (.int (3 : Int32)), .val (.double d5), .second] [])) _
    refine XS.aloadN X36.here hx rfl (hb hby d1_186) rfl rfl ?_
    show Steps p.tables e below (T36.setTop (mkF m 187 #[.val (.ref o0), .val (.double d1), .second, .val (.double d2), .second, .val (.double d3), .second, .val (.double d4), .second, .val (.double d5), .second, .val (.ref b4), .val (.ref b4), .val (.int (3 : Int32)), .val (.int (3 : Int32)), .val (.double d5), .second] [(.ref o0)])) _
    refine XS.dload X36.here hx rfl (hb hby d1_187) rfl ?_
    show Steps p.tables e below (T36.setTop (mkF m 189 #[.val (.ref o0), .val (.double d1), .second, .val (.double d2), .second, .val (.double d3), .second, .val (.double d4), .second, .val (.double d5), .second, .val (.ref b4), .val (.ref b4), .val (.int (3 : Int32)), .val (.int (3 : Int32)), .val (.double d5), .second] [(.double d5), (.ref o0)])) _
    refine st40 _ ?_
    exact k
  obtain ⟨fs, hr, hrun, hended, hW, hsame⟩ := X40.leave (v := none) (fun _ => rfl)
  refine ⟨_, _, c42 _ ?_, hrun, hended, _, _, rfl, ?_, ⟨_, rfl⟩, hW, hsame.mono (by decide) (by decide)⟩
  · show Steps p.tables e below (T40.setTop (mkF m 192 #[.val (.ref o0), .val (.double d1), .second, .val (.double d2), .second, .val (.double d3), .second, .val (.double d4), .second, .val (.double d5), .second, .val (.ref b4), .val (.ref b4), .val (.int (3 : Int32)), .val (.int (3 : Int32)), .val (.double d5), .second] [])) _
    exact X40.returnOut hx Bd.returns (hb hby d1_192) hr
  · show Q1_t Z o0 d1 d2 d3 d4 d5 u_maxDelaySeconds_o0 u_maxEnergyJoules_o0 u_delayWeight_o0 u_energyWeight_o0 u_cacheWeight_o0 z6 c11_z1 c11_z7 z33 c38_z1 c38_z7 z107 c113_z1 c113_z7 z107_2 c113_2_z1 c113_2_z7 z107_3 c113_3_z1 c113_3_z7 z143 h0 n0 _ T40.heap _
    rw [e40]
    exact ⟨rfl, N40, K41, (f38.wr W40), ((((F24w.other W28 (Or.inr (slot_ne (Or.inr (hw _ (List.mem_of_getElem? (i := 25) rfl))) (Or.inr (hw _ (List.mem_of_getElem? (i := 27) rfl))) (by decide) (t := .double) (t' := .double) (by decide) (by decide)))).other W32 (Or.inr (slot_ne (Or.inr (hw _ (List.mem_of_getElem? (i := 25) rfl))) (Or.inr (hw _ (List.mem_of_getElem? (i := 29) rfl))) (by decide) (t := .double) (t' := .double) (by decide) (by decide)))).other W36 (Or.inr (slot_ne (Or.inr (hw _ (List.mem_of_getElem? (i := 25) rfl))) (Or.inr (hw _ (List.mem_of_getElem? (i := 31) rfl))) (by decide) (t := .double) (t' := .double) (by decide) (by decide)))).other W40 (Or.inr (slot_ne (Or.inr (hw _ (List.mem_of_getElem? (i := 25) rfl))) (Or.inr (hw _ (List.mem_of_getElem? (i := 33) rfl))) (by decide) (t := .double) (t' := .double) (by decide) (by decide)))), (((F28w.other W32 (Or.inr (slot_ne (Or.inr (hw _ (List.mem_of_getElem? (i := 27) rfl))) (Or.inr (hw _ (List.mem_of_getElem? (i := 29) rfl))) (by decide) (t := .double) (t' := .double) (by decide) (by decide)))).other W36 (Or.inr (slot_ne (Or.inr (hw _ (List.mem_of_getElem? (i := 27) rfl))) (Or.inr (hw _ (List.mem_of_getElem? (i := 31) rfl))) (by decide) (t := .double) (t' := .double) (by decide) (by decide)))).other W40 (Or.inr (slot_ne (Or.inr (hw _ (List.mem_of_getElem? (i := 27) rfl))) (Or.inr (hw _ (List.mem_of_getElem? (i := 33) rfl))) (by decide) (t := .double) (t' := .double) (by decide) (by decide)))), ((F32w.other W36 (Or.inr (slot_ne (Or.inr (hw _ (List.mem_of_getElem? (i := 29) rfl))) (Or.inr (hw _ (List.mem_of_getElem? (i := 31) rfl))) (by decide) (t := .double) (t' := .double) (by decide) (by decide)))).other W40 (Or.inr (slot_ne (Or.inr (hw _ (List.mem_of_getElem? (i := 29) rfl))) (Or.inr (hw _ (List.mem_of_getElem? (i := 33) rfl))) (by decide) (t := .double) (t' := .double) (by decide) (by decide)))), (F36w.other W40 (Or.inr (slot_ne (Or.inr (hw _ (List.mem_of_getElem? (i := 31) rfl))) (Or.inr (hw _ (List.mem_of_getElem? (i := 33) rfl))) (by decide) (t := .double) (t' := .double) (by decide) (by decide)))), F40w⟩
def Q1_f (Z : State) (o0 : Addr) (d1 : UInt64) (d2 : UInt64) (d3 : UInt64) (d4 : UInt64) (d5 : UInt64) (u_maxDelaySeconds_o0 : Value) (u_maxEnergyJoules_o0 : Value) (u_delayWeight_o0 : Value) (u_energyWeight_o0 : Value) (u_cacheWeight_o0 : Value) (z6 : Int32) (c11_z1 : UInt64) (c11_z7 : Int32) (z33 : Int32) (c38_z1 : UInt64) (c38_z7 : Int32) (z107 : Int32) (c113_z1 : UInt64) (c113_z7 : Int32) (z107_2 : Int32) (c113_2_z1 : UInt64) (c113_2_z7 : Int32) (z107_3 : Int32) (c113_3_z1 : UInt64) (c113_3_z7 : Int32) (z143 : Int32) (z150 : Int32) (h0 : Heap) (n0 : Nat) (v : Option Value) (h : Heap) (L : List Loc) : Prop := v = none ∧ Fr n0 L ∧ Keep h0 h [o0] ∧ Exa Z h o0 "com/example/fleetwave/fleetwave/model/CacheCost" ∧ Fld Z h o0 "com/example/fleetwave/fleetwave/model/CacheCost" "maxDelaySeconds" "D" (.double d1) ∧ Fld Z h o0 "com/example/fleetwave/fleetwave/model/CacheCost" "maxEnergyJoules" "D" (.double d2) ∧ Fld Z h o0 "com/example/fleetwave/fleetwave/model/CacheCost" "delayWeight" "D" (.double d3) ∧ Fld Z h o0 "com/example/fleetwave/fleetwave/model/CacheCost" "energyWeight" "D" (.double d4) ∧ Fld Z h o0 "com/example/fleetwave/fleetwave/model/CacheCost" "cacheWeight" "D" (.double d5)
set_option maxRecDepth 65536 in
set_option maxHeartbeats 40000000 in
theorem rm1_f (l : Launch) (Z : State) (a0 : Array Value) (hw : ∀ d ∈ tables_1, d.before a0 Z = true) (ws : List Jvm.Cond) (o0 : Addr) (d1 : UInt64) (d2 : UInt64) (d3 : UInt64) (d4 : UInt64) (d5 : UInt64) (u_maxDelaySeconds_o0 : Value) (u_maxEnergyJoules_o0 : Value) (u_delayWeight_o0 : Value) (u_energyWeight_o0 : Value) (u_cacheWeight_o0 : Value) (z6 : Int32) (c11_z1 : UInt64) (c11_z7 : Int32) (z33 : Int32) (c38_z1 : UInt64) (c38_z7 : Int32) (z107 : Int32) (c113_z1 : UInt64) (c113_z7 : Int32) (z107_2 : Int32) (c113_2_z1 : UInt64) (c113_2_z7 : Int32) (z107_3 : Int32) (c113_3_z1 : UInt64) (c113_3_z7 : Int32) (z143 : Int32) (z150 : Int32) (h0 : Heap) (n0 : Nat) (Z0 : n0 ≤ h0.size) (E_o0 : Exa Z h0 o0 "com/example/fleetwave/fleetwave/model/CacheCost") (F_maxDelaySeconds_o0 : Fld Z h0 o0 "com/example/fleetwave/fleetwave/model/CacheCost" "maxDelaySeconds" "D" u_maxDelaySeconds_o0) (g_o0 : n0 ≤ o0) (F_maxEnergyJoules_o0 : Fld Z h0 o0 "com/example/fleetwave/fleetwave/model/CacheCost" "maxEnergyJoules" "D" u_maxEnergyJoules_o0) (F_delayWeight_o0 : Fld Z h0 o0 "com/example/fleetwave/fleetwave/model/CacheCost" "delayWeight" "D" u_delayWeight_o0) (F_energyWeight_o0 : Fld Z h0 o0 "com/example/fleetwave/fleetwave/model/CacheCost" "energyWeight" "D" u_energyWeight_o0) (F_cacheWeight_o0 : Fld Z h0 o0 "com/example/fleetwave/fleetwave/model/CacheCost" "cacheWeight" "D" u_cacheWeight_o0) (hz6 : cmpValue (FP.dcmp d1 FP.dconst0) .l = z6) (hc11_z1 : d1 &&& 0x7fffffffffffffff = c11_z1) (hc11_z7 : cmpValue (FP.dcmp c11_z1 (9218868437227405311 : UInt64)) .l = c11_z7) (hz33 : cmpValue (FP.dcmp d2 FP.dconst0) .l = z33) (hc38_z1 : d2 &&& 0x7fffffffffffffff = c38_z1) (hc38_z7 : cmpValue (FP.dcmp c38_z1 (9218868437227405311 : UInt64)) .l = c38_z7) (hz107 : cmpValue (FP.dcmp d3 FP.dconst0) .l = z107) (hc113_z1 : d3 &&& 0x7fffffffffffffff = c113_z1) (hc113_z7 : cmpValue (FP.dcmp c113_z1 (9218868437227405311 : UInt64)) .l = c113_z7) (hz107_2 : cmpValue (FP.dcmp d4 FP.dconst0) .l = z107_2) (hc113_2_z1 : d4 &&& 0x7fffffffffffffff = c113_2_z1) (hc113_2_z7 : cmpValue (FP.dcmp c113_2_z1 (9218868437227405311 : UInt64)) .l = c113_2_z7) (hz107_3 : cmpValue (FP.dcmp d5 FP.dconst0) .l = z107_3) (hc113_3_z1 : d5 &&& 0x7fffffffffffffff = c113_3_z1) (hc113_3_z7 : cmpValue (FP.dcmp c113_3_z1 (9218868437227405311 : UInt64)) .l = c113_3_z7) (hz143 : cmpValue (FP.dcmp d3 FP.dconst0) .l = z143) (hz150 : cmpValue (FP.dcmp d4 FP.dconst0) .l = z150) (br7 : (0 : Int32) < z6) (c11_nm0_1 : Jvm.Free.Fl.NoNaN64 d1) (c11_br8 : ¬ (0 : Int32) < c11_z7) (br34 : (0 : Int32) < z33) (c38_nm0_1 : Jvm.Free.Fl.NoNaN64 d2) (c38_br8 : ¬ (0 : Int32) < c38_z7) (br108 : ¬ z107 < (0 : Int32)) (c113_nm0_1 : Jvm.Free.Fl.NoNaN64 d3) (c113_br8 : ¬ (0 : Int32) < c113_z7) (br108_2 : ¬ z107_2 < (0 : Int32)) (c113_2_nm0_1 : Jvm.Free.Fl.NoNaN64 d4) (c113_2_br8 : ¬ (0 : Int32) < c113_2_z7) (br108_3 : ¬ z107_3 < (0 : Int32)) (c113_3_nm0_1 : Jvm.Free.Fl.NoNaN64 d5) (c113_3_br8 : ¬ (0 : Int32) < c113_3_z7) (br144 : z143 = (0 : Int32)) (br151 : ¬ z150 = (0 : Int32)) :
    MetFree l (⟨"com/example/fleetwave/fleetwave/model/CacheCost", "<init>", "(DDDDD)V"⟩ : MethodName) (head1 (Jvm.Cond.code (⟨"com/example/fleetwave/fleetwave/model/CacheCost", "<init>", "(DDDDD)V"⟩ : MethodName) prog_31_method_1_code 17 none :: ws) ({ frames := 2, cells := 1, slots := 3, locals := 26 } : Room)) (fun a U => a = #[(.ref o0), (.double d1), (.double d2), (.double d3), (.double d4), (.double d5)] ∧ Z.Warmed39 U.vm ∧ U.heap = h0) (fun _ _ _ _ _ => True) (fun _ U o U' => ∃ v L, o = .returned v ∧ Q1_f Z o0 d1 d2 d3 d4 d5 u_maxDelaySeconds_o0 u_maxEnergyJoules_o0 u_delayWeight_o0 u_energyWeight_o0 u_cacheWeight_o0 z6 c11_z1 c11_z7 z33 c38_z1 c38_z7 z107 c113_z1 c113_z7 z107_2 c113_2_z1 c113_2_z7 z107_3 c113_3_z1 c113_3_z7 z143 z150 h0 n0 v U'.heap L ∧ FrameEnd U o U' L ({ frames := 2, cells := 1, slots := 3, locals := 26 } : Room).cells ({ frames := 2, cells := 1, slots := 3, locals := 26 } : Room).slots) := by
  refine MetFree.of_bodySF (plainFor_of_name pn_2) hisR ?_
  intro p e s m args below meth c s₁ Bd hml0 hP hK
  obtain ⟨rfl, hZ, hh⟩ := hP
  have hx := Bd.exec
  have hby := Bd.bytes
  have hml : c.maxLocals = 17 := hml0
  have hown : s.vm.findClass "com/example/fleetwave/fleetwave/model/CacheCost" = some m.cls := findClass_of_methodNamed Bd.named
  have hnm := (name_of_methodNamed Bd.named Bd.method).1
  have X0 : Stand p l e ({ frames := 2, cells := 1, slots := 3, locals := 26 } : Room) s m #[(.ref o0), (.double d1), (.double d2), (.double d3), (.double d4), (.double d5)] below meth c s₁ [] 0 0 := Stand.of_body Bd
  have e0 : s₁.heap = h0 := by rw [← hh, Bd.state]; rfl
  have N0 := Fr.nil n0
  have c0 : ∀ t, Steps p.tables e below (s₁.setTop (mkF m 0 #[.val (.ref o0), .val (.double d1), .second, .val (.double d2), .second, .val (.double d3), .second, .val (.double d4), .second, .val (.double d5), .second, .unset, .unset, .unset, .unset, .unset, .unset] [])) t → Steps p.tables e below (s₁.setTop (entryFrame m #[(.ref o0), (.double d1), (.double d2), (.double d3), (.double d4), (.double d5)] 17)) t := fun t k => castTop (ef_rm1_f m o0 d1 d2 d3 d4 d5) k
  obtain ⟨_, _, ⟨T1, L1, k1, n1⟩, -, X1, ⟨Lc1, hQ1, ql1, qy1, qz1⟩, st1⟩ := X0.specialBack hx (y := (⟨"java/lang/Record", "<init>", "()V"⟩ : MethodName)) rfl hown (mvT hZ (hw _ (List.mem_of_getElem? (i := 6) rfl))) (mvT hZ (hw _ (List.mem_of_getElem? (i := 7) rfl))) (mvT hZ (hw _ (List.mem_of_getElem? (i := 10) rfl))) (by decide) (backOf (W := 0) (rm2 l Z a0 hw [] o0  h0 n0 Z0 ) hZ (hw _ (List.mem_of_getElem? (i := 10) rfl)) (hw _ (List.mem_of_getElem? (i := 9) rfl)) (by decide) (by decide)) (g := (mkF m 1 #[.val (.ref o0), .val (.double d1), .second, .val (.double d2), .second, .val (.double d3), .second, .val (.double d4), .second, .val (.double d5), .second, .unset, .unset, .unset, .unset, .unset, .unset] [(.ref o0)])) rfl (by rw [hml]; rfl) (Steps.refl _) (a := o0) (argsL := []) (rest := []) (lenOf pd_1 rfl) rfl (by show 2 * 0 + _ ≤ _; exact Nat.le_of_eq rfl) (hb hby d1_1) (fun _ _ => ⟨rfl, e0, (by decide : 0 + 0 ≤ _), (by decide : 0 + 0 ≤ _)⟩)
  dsimp only [Pt.U, Pt.locs, Pt.cells, Pt.slots] at X1 ql1 qy1 qz1 st1 hQ1
  subst ql1 qy1 qz1
  obtain ⟨rfl, N1q, e1⟩ := hQ1
  have N1 := Fr.app N0 N1q
  obtain ⟨_, _, ⟨T2, L2, k2, n2⟩, -, X2, ⟨Lc2, hQ2, ql2, qy2, qz2⟩, st2⟩ := Jvm.LawKit.callS X1 hx (y := (⟨"java/lang/Double", "isInfinite", "(D)Z"⟩ : MethodName)) hown (mvT hZ (hw _ (List.mem_of_getElem? (i := 14) rfl))) (mvT hZ (hw _ (List.mem_of_getElem? (i := 15) rfl))) (mvT hZ (hw _ (List.mem_of_getElem? (i := 16) rfl))) (mvT hZ (hw _ (List.mem_of_getElem? (i := 17) rfl))) (by decide) (backOf (W := 0) (rm4 l Z a0 hw [] d1 c11_z1 c11_z7 h0 n0 Z0 hc11_z1 hc11_z7 c11_nm0_1 c11_br8) hZ (hw _ (List.mem_of_getElem? (i := 17) rfl)) (hw _ (List.mem_of_getElem? (i := 16) rfl)) (by decide) (by decide)) (g := (mkF m 11 #[.val (.ref o0), .val (.double d1), .second, .val (.double d2), .second, .val (.double d3), .second, .val (.double d4), .second, .val (.double d5), .second, .unset, .unset, .unset, .unset, .unset, .unset] [(.double d1)])) rfl (by rw [hml]; rfl) (argsL := [(.double d1)]) (rest := []) (lenOf pd_2 rfl) rfl (by show 2 * 0 + _ ≤ _; exact Nat.le_of_eq rfl) (hb hby d1_11) (fun _ _ => ⟨rfl, e1, (by decide : 0 + 0 ≤ _), (by decide : 0 + 0 ≤ _)⟩)
  dsimp only [Pt.U, Pt.locs, Pt.cells, Pt.slots] at X2 ql2 qy2 qz2 st2 hQ2
  subst ql2 qy2 qz2
  obtain ⟨rfl, N2q, e2⟩ := hQ2
  have N2 := Fr.app N1 N2q
  obtain ⟨_, _, ⟨T3, L3, k3, n3⟩, -, X3, ⟨Lc3, hQ3, ql3, qy3, qz3⟩, st3⟩ := Jvm.LawKit.callS X2 hx (y := (⟨"java/lang/Double", "isInfinite", "(D)Z"⟩ : MethodName)) hown (mvT hZ (hw _ (List.mem_of_getElem? (i := 14) rfl))) (mvT hZ (hw _ (List.mem_of_getElem? (i := 15) rfl))) (mvT hZ (hw _ (List.mem_of_getElem? (i := 16) rfl))) (mvT hZ (hw _ (List.mem_of_getElem? (i := 17) rfl))) (by decide) (backOf (W := 0) (rm4 l Z a0 hw [] d2 c38_z1 c38_z7 h0 n0 Z0 hc38_z1 hc38_z7 c38_nm0_1 c38_br8) hZ (hw _ (List.mem_of_getElem? (i := 17) rfl)) (hw _ (List.mem_of_getElem? (i := 16) rfl)) (by decide) (by decide)) (g := (mkF m 38 #[.val (.ref o0), .val (.double d1), .second, .val (.double d2), .second, .val (.double d3), .second, .val (.double d4), .second, .val (.double d5), .second, .unset, .unset, .unset, .unset, .unset, .unset] [(.double d2)])) rfl (by rw [hml]; rfl) (argsL := [(.double d2)]) (rest := []) (lenOf pd_2 rfl) rfl (by show 2 * 0 + _ ≤ _; exact Nat.le_of_eq rfl) (hb hby d1_38) (fun _ _ => ⟨rfl, e2, (by decide : 0 + 0 ≤ _), (by decide : 0 + 0 ≤ _)⟩)
  dsimp only [Pt.U, Pt.locs, Pt.cells, Pt.slots] at X3 ql3 qy3 qz3 st3 hQ3
  subst ql3 qy3 qz3
  obtain ⟨rfl, N3q, e3⟩ := hQ3
  have N3 := Fr.app N2 N3q
  obtain ⟨T4, h4, k4, X4, e4, E4, A4, st4⟩ := newP X3 hx hZ (hw _ (List.mem_of_getElem? (i := 23) rfl)) e3 (g := (mkF m 59 #[.val (.ref o0), .val (.double d1), .second, .val (.double d2), .second, .val (.double d3), .second, .val (.double d4), .second, .val (.double d5), .second, .unset, .unset, .unset, .unset, .unset, .unset] [(.int (3 : Int32))])) rfl (hb hby d1_59) rfl (by decide) (cap := 3) (by decide) (by decide) (by decide) (by decide)
  obtain ⟨b4, g4⟩ : ∃ z, z = h0.size := ⟨_, rfl⟩
  rw [← g4] at A4 st4
  have gn4 : n0 ≤ b4 := Nat.le_trans Z0 (Nat.le_of_eq g4.symm)
  have gz4 : h0.size ≤ b4 := Nat.le_trans ((Keep.refl h0 [o0])).1 (Nat.le_of_eq g4.symm)
  have K5 : Keep h0 h4 [o0] := (Keep.refl h0 [o0]).ext E4
  have V4 : Arv Z h4 b4 k4 .double (3 : Int32) [(.double (0 : UInt64)), (.double (0 : UInt64)), (.double (0 : UInt64))] (.double (0 : UInt64)) := (Arv.new A4 (by decide)).pad (pad_rep [] (.double (0 : UInt64)) 3)
  obtain ⟨cl6, Ar6, q6, S6, Nn6, Ha6, G6⟩ := id V4
  have in6 : ¬ ((0 : Int32) < 0 ∨ cl6.slots.size ≤ ((0 : Int32)).toNatClampNeg) := inb_of S6 ⟨by decide, by decide⟩
  obtain ⟨T7, h7, X7, e7, W7, st7⟩ := stD X4 hx hZ e4 Ar6 (j := (0 : Int32)) in6 (g := (mkF m 65 #[.val (.ref o0), .val (.double d1), .second, .val (.double d2), .second, .val (.double d3), .second, .val (.double d4), .second, .val (.double d5), .second, .unset, .unset, .unset, .unset, .unset, .unset] [(.double d3), (.int (0 : Int32)), (.ref b4), (.ref b4)])) rfl rfl (hb hby d1_65)
  have N7 := Fr.snoc X7 N3 gn4
  have K8 : Keep h0 h7 [o0] := K5.wr W7 (Or.inr gz4)
  have V7 : Arv Z h7 b4 k4 .double (3 : Int32) [(.double d3), (.double (0 : UInt64)), (.double (0 : UInt64))] (.double (0 : UInt64)) := Arv.set Ar6 q6 S6 Nn6 Ha6 G6 rfl W7 0 rfl (show (0 : Nat) < 3 by decide)
  obtain ⟨cl9, Ar9, q9, S9, Nn9, Ha9, G9⟩ := id V7
  have in9 : ¬ ((1 : Int32) < 0 ∨ cl9.slots.size ≤ ((1 : Int32)).toNatClampNeg) := inb_of S9 ⟨by decide, by decide⟩
  obtain ⟨T10, h10, X10, e10, W10, st10⟩ := stD X7 hx hZ e7 Ar9 (j := (1 : Int32)) in9 (g := (mkF m 70 #[.val (.ref o0), .val (.double d1), .second, .val (.double d2), .second, .val (.double d3), .second, .val (.double d4), .second, .val (.double d5), .second, .unset, .unset, .unset, .unset, .unset, .unset] [(.double d4), (.int (1 : Int32)), (.ref b4), (.ref b4)])) rfl rfl (hb hby d1_70)
  have N10 := Fr.snoc X10 N7 gn4
  have K11 : Keep h0 h10 [o0] := K8.wr W10 (Or.inr gz4)
  have V10 : Arv Z h10 b4 k4 .double (3 : Int32) [(.double d3), (.double d4), (.double (0 : UInt64))] (.double (0 : UInt64)) := Arv.set Ar9 q9 S9 Nn9 Ha9 G9 rfl W10 1 rfl (show (1 : Nat) < 3 by decide)
  obtain ⟨cl12, Ar12, q12, S12, Nn12, Ha12, G12⟩ := id V10
  have in12 : ¬ ((2 : Int32) < 0 ∨ cl12.slots.size ≤ ((2 : Int32)).toNatClampNeg) := inb_of S12 ⟨by decide, by decide⟩
  obtain ⟨T13, h13, X13, e13, W13, st13⟩ := stD X10 hx hZ e10 Ar12 (j := (2 : Int32)) in12 (g := (mkF m 75 #[.val (.ref o0), .val (.double d1), .second, .val (.double d2), .second, .val (.double d3), .second, .val (.double d4), .second, .val (.double d5), .second, .unset, .unset, .unset, .unset, .unset, .unset] [(.double d5), (.int (2 : Int32)), (.ref b4), (.ref b4)])) rfl rfl (hb hby d1_75)
  have N13 := Fr.snoc X13 N10 gn4
  have K14 : Keep h0 h13 [o0] := K11.wr W13 (Or.inr gz4)
  have V13 : Arv Z h13 b4 k4 .double (3 : Int32) [(.double d3), (.double d4), (.double d5)] (.double (0 : UInt64)) := Arv.set Ar12 q12 S12 Nn12 Ha12 G12 rfl W13 2 rfl (show (2 : Nat) < 3 by decide)
  obtain ⟨cl15, Ar15, -, S15, Nn15, -, -⟩ := id V13
  obtain ⟨cl16, Ar16, -, S16, -, Ha16, -⟩ := id V13
  have in16 : ¬ ((0 : Int32) < 0 ∨ cl16.slots.size ≤ ((0 : Int32)).toNatClampNeg) := inb_of S16 ⟨by decide, by decide⟩
  obtain ⟨_, _, ⟨T17, L17, k17, n17⟩, -, X17, ⟨Lc17, hQ17, ql17, qy17, qz17⟩, st17⟩ := Jvm.LawKit.callS X13 hx (y := (⟨"java/lang/Double", "isInfinite", "(D)Z"⟩ : MethodName)) hown (mvT hZ (hw _ (List.mem_of_getElem? (i := 14) rfl))) (mvT hZ (hw _ (List.mem_of_getElem? (i := 15) rfl))) (mvT hZ (hw _ (List.mem_of_getElem? (i := 16) rfl))) (mvT hZ (hw _ (List.mem_of_getElem? (i := 17) rfl))) (by decide) (backOf (W := 0) (rm4 l Z a0 hw [] d3 c113_z1 c113_z7 h13 n0 (Nat.le_trans (Nat.le_trans (Nat.le_trans (Nat.le_trans Z0 E4.1) (Keep.of_wr W7).1) (Keep.of_wr W10).1) (Keep.of_wr W13).1) hc113_z1 hc113_z7 c113_nm0_1 c113_br8) hZ (hw _ (List.mem_of_getElem? (i := 17) rfl)) (hw _ (List.mem_of_getElem? (i := 16) rfl)) (by decide) (by decide)) (g := (mkF m 113 #[.val (.ref o0), .val (.double d1), .second, .val (.double d2), .second, .val (.double d3), .second, .val (.double d4), .second, .val (.double d5), .second, .val (.ref b4), .val (.ref b4), .val (.int (3 : Int32)), .val (.int (0 : Int32)), .val (.double d3), .second] [(.double d3)])) rfl (by rw [hml]; rfl) (argsL := [(.double d3)]) (rest := []) (lenOf pd_2 rfl) rfl (by show 2 * 0 + _ ≤ _; exact Nat.le_of_eq rfl) (hb hby d1_113) (fun _ _ => ⟨rfl, e13, (by decide : 1 + 0 ≤ _), (by decide : 3 + 0 ≤ _)⟩)
  dsimp only [Pt.U, Pt.locs, Pt.cells, Pt.slots] at X17 ql17 qy17 qz17 st17 hQ17
  subst ql17 qy17 qz17
  obtain ⟨rfl, N17q, e17⟩ := hQ17
  have N17 := Fr.app N13 N17q
  obtain ⟨cl18, Ar18, -, S18, -, Ha18, -⟩ := id V13
  have in18 : ¬ ((1 : Int32) < 0 ∨ cl18.slots.size ≤ ((1 : Int32)).toNatClampNeg) := inb_of S18 ⟨by decide, by decide⟩
  obtain ⟨_, _, ⟨T19, L19, k19, n19⟩, -, X19, ⟨Lc19, hQ19, ql19, qy19, qz19⟩, st19⟩ := Jvm.LawKit.callS X17 hx (y := (⟨"java/lang/Double", "isInfinite", "(D)Z"⟩ : MethodName)) hown (mvT hZ (hw _ (List.mem_of_getElem? (i := 14) rfl))) (mvT hZ (hw _ (List.mem_of_getElem? (i := 15) rfl))) (mvT hZ (hw _ (List.mem_of_getElem? (i := 16) rfl))) (mvT hZ (hw _ (List.mem_of_getElem? (i := 17) rfl))) (by decide) (backOf (W := 0) (rm4 l Z a0 hw [] d4 c113_2_z1 c113_2_z7 h13 n0 (Nat.le_trans (Nat.le_trans (Nat.le_trans (Nat.le_trans Z0 E4.1) (Keep.of_wr W7).1) (Keep.of_wr W10).1) (Keep.of_wr W13).1) hc113_2_z1 hc113_2_z7 c113_2_nm0_1 c113_2_br8) hZ (hw _ (List.mem_of_getElem? (i := 17) rfl)) (hw _ (List.mem_of_getElem? (i := 16) rfl)) (by decide) (by decide)) (g := (mkF m 113 #[.val (.ref o0), .val (.double d1), .second, .val (.double d2), .second, .val (.double d3), .second, .val (.double d4), .second, .val (.double d5), .second, .val (.ref b4), .val (.ref b4), .val (.int (3 : Int32)), .val (.int (1 : Int32)), .val (.double d4), .second] [(.double d4)])) rfl (by rw [hml]; rfl) (argsL := [(.double d4)]) (rest := []) (lenOf pd_2 rfl) rfl (by show 2 * 0 + _ ≤ _; exact Nat.le_of_eq rfl) (hb hby d1_113) (fun _ _ => ⟨rfl, e17, (by decide : 1 + 0 ≤ _), (by decide : 3 + 0 ≤ _)⟩)
  dsimp only [Pt.U, Pt.locs, Pt.cells, Pt.slots] at X19 ql19 qy19 qz19 st19 hQ19
  subst ql19 qy19 qz19
  obtain ⟨rfl, N19q, e19⟩ := hQ19
  have N19 := Fr.app N17 N19q
  obtain ⟨cl20, Ar20, -, S20, -, Ha20, -⟩ := id V13
  have in20 : ¬ ((2 : Int32) < 0 ∨ cl20.slots.size ≤ ((2 : Int32)).toNatClampNeg) := inb_of S20 ⟨by decide, by decide⟩
  obtain ⟨_, _, ⟨T21, L21, k21, n21⟩, -, X21, ⟨Lc21, hQ21, ql21, qy21, qz21⟩, st21⟩ := Jvm.LawKit.callS X19 hx (y := (⟨"java/lang/Double", "isInfinite", "(D)Z"⟩ : MethodName)) hown (mvT hZ (hw _ (List.mem_of_getElem? (i := 14) rfl))) (mvT hZ (hw _ (List.mem_of_getElem? (i := 15) rfl))) (mvT hZ (hw _ (List.mem_of_getElem? (i := 16) rfl))) (mvT hZ (hw _ (List.mem_of_getElem? (i := 17) rfl))) (by decide) (backOf (W := 0) (rm4 l Z a0 hw [] d5 c113_3_z1 c113_3_z7 h13 n0 (Nat.le_trans (Nat.le_trans (Nat.le_trans (Nat.le_trans Z0 E4.1) (Keep.of_wr W7).1) (Keep.of_wr W10).1) (Keep.of_wr W13).1) hc113_3_z1 hc113_3_z7 c113_3_nm0_1 c113_3_br8) hZ (hw _ (List.mem_of_getElem? (i := 17) rfl)) (hw _ (List.mem_of_getElem? (i := 16) rfl)) (by decide) (by decide)) (g := (mkF m 113 #[.val (.ref o0), .val (.double d1), .second, .val (.double d2), .second, .val (.double d3), .second, .val (.double d4), .second, .val (.double d5), .second, .val (.ref b4), .val (.ref b4), .val (.int (3 : Int32)), .val (.int (2 : Int32)), .val (.double d5), .second] [(.double d5)])) rfl (by rw [hml]; rfl) (argsL := [(.double d5)]) (rest := []) (lenOf pd_2 rfl) rfl (by show 2 * 0 + _ ≤ _; exact Nat.le_of_eq rfl) (hb hby d1_113) (fun _ _ => ⟨rfl, e19, (by decide : 1 + 0 ≤ _), (by decide : 3 + 0 ≤ _)⟩)
  dsimp only [Pt.U, Pt.locs, Pt.cells, Pt.slots] at X21 ql21 qy21 qz21 st21 hQ21
  subst ql21 qy21 qz21
  obtain ⟨rfl, N21q, e21⟩ := hQ21
  have N21 := Fr.app N19 N21q
  have f22 := ((((E_o0.ext E4).wr W7).wr W10).wr W13)
  have f23 := ((((F_maxDelaySeconds_o0.ext E4).other W7 (Or.inl (Nat.ne_of_lt (Nat.lt_of_lt_of_le (F_maxDelaySeconds_o0).lt (Nat.le_of_eq g4.symm))))).other W10 (Or.inl (Nat.ne_of_lt (Nat.lt_of_lt_of_le (F_maxDelaySeconds_o0).lt (Nat.le_of_eq g4.symm))))).other W13 (Or.inl (Nat.ne_of_lt (Nat.lt_of_lt_of_le (F_maxDelaySeconds_o0).lt (Nat.le_of_eq g4.symm)))))
  obtain ⟨T24, h24, X24, e24, W24, st24⟩ := putF X21 hx hZ hown (host := "") (Or.inl (hw _ (List.mem_of_getElem? (i := 24) rfl))) Via.refl e21 f23 f22 (Or.inr ⟨(hw _ (List.mem_of_getElem? (i := 25) rfl)), rfl, hnm⟩) (hw _ (List.mem_of_getElem? (i := 1) rfl)) (ty := .double) (by decide) rfl rfl (g := (mkF m 166 #[.val (.ref o0), .val (.double d1), .second, .val (.double d2), .second, .val (.double d3), .second, .val (.double d4), .second, .val (.double d5), .second, .val (.ref b4), .val (.ref b4), .val (.int (3 : Int32)), .val (.int (3 : Int32)), .val (.double d5), .second] [(.double d1), (.ref o0)])) rfl rfl (hb hby d1_166)
  have N24 := Fr.snoc X24 N21 g_o0
  have K25 : Keep h0 h24 [o0] := K14.wr W24 (Or.inl (by simp))
  have F24w := f23.same W24
  have f26 := (f22.wr W24)
  have f27 := (((((F_maxEnergyJoules_o0.ext E4).other W7 (Or.inl (Nat.ne_of_lt (Nat.lt_of_lt_of_le (F_maxEnergyJoules_o0).lt (Nat.le_of_eq g4.symm))))).other W10 (Or.inl (Nat.ne_of_lt (Nat.lt_of_lt_of_le (F_maxEnergyJoules_o0).lt (Nat.le_of_eq g4.symm))))).other W13 (Or.inl (Nat.ne_of_lt (Nat.lt_of_lt_of_le (F_maxEnergyJoules_o0).lt (Nat.le_of_eq g4.symm))))).other W24 (Or.inr (slot_ne (Or.inr (hw _ (List.mem_of_getElem? (i := 27) rfl))) (Or.inr (hw _ (List.mem_of_getElem? (i := 25) rfl))) (by decide) (t := .double) (t' := .double) (by decide) (by decide))))
  obtain ⟨T28, h28, X28, e28, W28, st28⟩ := putF X24 hx hZ hown (host := "") (Or.inl (hw _ (List.mem_of_getElem? (i := 26) rfl))) Via.refl e24 f27 f26 (Or.inr ⟨(hw _ (List.mem_of_getElem? (i := 27) rfl)), rfl, hnm⟩) (hw _ (List.mem_of_getElem? (i := 1) rfl)) (ty := .double) (by decide) rfl rfl (g := (mkF m 171 #[.val (.ref o0), .val (.double d1), .second, .val (.double d2), .second, .val (.double d3), .second, .val (.double d4), .second, .val (.double d5), .second, .val (.ref b4), .val (.ref b4), .val (.int (3 : Int32)), .val (.int (3 : Int32)), .val (.double d5), .second] [(.double d2), (.ref o0)])) rfl rfl (hb hby d1_171)
  have N28 := Fr.snoc X28 N24 g_o0
  have K29 : Keep h0 h28 [o0] := K25.wr W28 (Or.inl (by simp))
  have F28w := f27.same W28
  have f30 := (f26.wr W28)
  have f31 := ((((((F_delayWeight_o0.ext E4).other W7 (Or.inl (Nat.ne_of_lt (Nat.lt_of_lt_of_le (F_delayWeight_o0).lt (Nat.le_of_eq g4.symm))))).other W10 (Or.inl (Nat.ne_of_lt (Nat.lt_of_lt_of_le (F_delayWeight_o0).lt (Nat.le_of_eq g4.symm))))).other W13 (Or.inl (Nat.ne_of_lt (Nat.lt_of_lt_of_le (F_delayWeight_o0).lt (Nat.le_of_eq g4.symm))))).other W24 (Or.inr (slot_ne (Or.inr (hw _ (List.mem_of_getElem? (i := 29) rfl))) (Or.inr (hw _ (List.mem_of_getElem? (i := 25) rfl))) (by decide) (t := .double) (t' := .double) (by decide) (by decide)))).other W28 (Or.inr (slot_ne (Or.inr (hw _ (List.mem_of_getElem? (i := 29) rfl))) (Or.inr (hw _ (List.mem_of_getElem? (i := 27) rfl))) (by decide) (t := .double) (t' := .double) (by decide) (by decide))))
  obtain ⟨T32, h32, X32, e32, W32, st32⟩ := putF X28 hx hZ hown (host := "") (Or.inl (hw _ (List.mem_of_getElem? (i := 28) rfl))) Via.refl e28 f31 f30 (Or.inr ⟨(hw _ (List.mem_of_getElem? (i := 29) rfl)), rfl, hnm⟩) (hw _ (List.mem_of_getElem? (i := 1) rfl)) (ty := .double) (by decide) rfl rfl (g := (mkF m 177 #[.val (.ref o0), .val (.double d1), .second, .val (.double d2), .second, .val (.double d3), .second, .val (.double d4), .second, .val (.double d5), .second, .val (.ref b4), .val (.ref b4), .val (.int (3 : Int32)), .val (.int (3 : Int32)), .val (.double d5), .second] [(.double d3), (.ref o0)])) rfl rfl (hb hby d1_177)
  have N32 := Fr.snoc X32 N28 g_o0
  have K33 : Keep h0 h32 [o0] := K29.wr W32 (Or.inl (by simp))
  have F32w := f31.same W32
  have f34 := (f30.wr W32)
  have f35 := (((((((F_energyWeight_o0.ext E4).other W7 (Or.inl (Nat.ne_of_lt (Nat.lt_of_lt_of_le (F_energyWeight_o0).lt (Nat.le_of_eq g4.symm))))).other W10 (Or.inl (Nat.ne_of_lt (Nat.lt_of_lt_of_le (F_energyWeight_o0).lt (Nat.le_of_eq g4.symm))))).other W13 (Or.inl (Nat.ne_of_lt (Nat.lt_of_lt_of_le (F_energyWeight_o0).lt (Nat.le_of_eq g4.symm))))).other W24 (Or.inr (slot_ne (Or.inr (hw _ (List.mem_of_getElem? (i := 31) rfl))) (Or.inr (hw _ (List.mem_of_getElem? (i := 25) rfl))) (by decide) (t := .double) (t' := .double) (by decide) (by decide)))).other W28 (Or.inr (slot_ne (Or.inr (hw _ (List.mem_of_getElem? (i := 31) rfl))) (Or.inr (hw _ (List.mem_of_getElem? (i := 27) rfl))) (by decide) (t := .double) (t' := .double) (by decide) (by decide)))).other W32 (Or.inr (slot_ne (Or.inr (hw _ (List.mem_of_getElem? (i := 31) rfl))) (Or.inr (hw _ (List.mem_of_getElem? (i := 29) rfl))) (by decide) (t := .double) (t' := .double) (by decide) (by decide))))
  obtain ⟨T36, h36, X36, e36, W36, st36⟩ := putF X32 hx hZ hown (host := "") (Or.inl (hw _ (List.mem_of_getElem? (i := 30) rfl))) Via.refl e32 f35 f34 (Or.inr ⟨(hw _ (List.mem_of_getElem? (i := 31) rfl)), rfl, hnm⟩) (hw _ (List.mem_of_getElem? (i := 1) rfl)) (ty := .double) (by decide) rfl rfl (g := (mkF m 183 #[.val (.ref o0), .val (.double d1), .second, .val (.double d2), .second, .val (.double d3), .second, .val (.double d4), .second, .val (.double d5), .second, .val (.ref b4), .val (.ref b4), .val (.int (3 : Int32)), .val (.int (3 : Int32)), .val (.double d5), .second] [(.double d4), (.ref o0)])) rfl rfl (hb hby d1_183)
  have N36 := Fr.snoc X36 N32 g_o0
  have K37 : Keep h0 h36 [o0] := K33.wr W36 (Or.inl (by simp))
  have F36w := f35.same W36
  have f38 := (f34.wr W36)
  have f39 := ((((((((F_cacheWeight_o0.ext E4).other W7 (Or.inl (Nat.ne_of_lt (Nat.lt_of_lt_of_le (F_cacheWeight_o0).lt (Nat.le_of_eq g4.symm))))).other W10 (Or.inl (Nat.ne_of_lt (Nat.lt_of_lt_of_le (F_cacheWeight_o0).lt (Nat.le_of_eq g4.symm))))).other W13 (Or.inl (Nat.ne_of_lt (Nat.lt_of_lt_of_le (F_cacheWeight_o0).lt (Nat.le_of_eq g4.symm))))).other W24 (Or.inr (slot_ne (Or.inr (hw _ (List.mem_of_getElem? (i := 33) rfl))) (Or.inr (hw _ (List.mem_of_getElem? (i := 25) rfl))) (by decide) (t := .double) (t' := .double) (by decide) (by decide)))).other W28 (Or.inr (slot_ne (Or.inr (hw _ (List.mem_of_getElem? (i := 33) rfl))) (Or.inr (hw _ (List.mem_of_getElem? (i := 27) rfl))) (by decide) (t := .double) (t' := .double) (by decide) (by decide)))).other W32 (Or.inr (slot_ne (Or.inr (hw _ (List.mem_of_getElem? (i := 33) rfl))) (Or.inr (hw _ (List.mem_of_getElem? (i := 29) rfl))) (by decide) (t := .double) (t' := .double) (by decide) (by decide)))).other W36 (Or.inr (slot_ne (Or.inr (hw _ (List.mem_of_getElem? (i := 33) rfl))) (Or.inr (hw _ (List.mem_of_getElem? (i := 31) rfl))) (by decide) (t := .double) (t' := .double) (by decide) (by decide))))
  obtain ⟨T40, h40, X40, e40, W40, st40⟩ := putF X36 hx hZ hown (host := "") (Or.inl (hw _ (List.mem_of_getElem? (i := 32) rfl))) Via.refl e36 f39 f38 (Or.inr ⟨(hw _ (List.mem_of_getElem? (i := 33) rfl)), rfl, hnm⟩) (hw _ (List.mem_of_getElem? (i := 1) rfl)) (ty := .double) (by decide) rfl rfl (g := (mkF m 189 #[.val (.ref o0), .val (.double d1), .second, .val (.double d2), .second, .val (.double d3), .second, .val (.double d4), .second, .val (.double d5), .second, .val (.ref b4), .val (.ref b4), .val (.int (3 : Int32)), .val (.int (3 : Int32)), .val (.double d5), .second] [(.double d5), (.ref o0)])) rfl rfl (hb hby d1_189)
  have N40 := Fr.snoc X40 N36 g_o0
  have K41 : Keep h0 h40 [o0] := K37.wr W40 (Or.inl (by simp))
  have F40w := f39.same W40
  have c42 : ∀ t, Steps p.tables e below (T40.setTop (mkF m 192 #[.val (.ref o0), .val (.double d1), .second, .val (.double d2), .second, .val (.double d3), .second, .val (.double d4), .second, .val (.double d5), .second, .val (.ref b4), .val (.ref b4), .val (.int (3 : Int32)), .val (.int (3 : Int32)), .val (.double d5), .second] [])) t → Steps p.tables e below (s₁.setTop (entryFrame m #[(.ref o0), (.double d1), (.double d2), (.double d3), (.double d4), (.double d5)] 17)) t := by
    intro t k
    refine c0 t ?_
    show Steps p.tables e below (s₁.setTop (mkF m 0 #[.val (.ref o0), .val (.double d1), .second, .val (.double d2), .second, .val (.double d3), .second, .val (.double d4), .second, .val (.double d5), .second, .unset, .unset, .unset, .unset, .unset, .unset] [])) _
    refine XS.aloadN X0.here hx rfl (hb hby d1_0) rfl rfl ?_
    show Steps p.tables e below (s₁.setTop (mkF m 1 #[.val (.ref o0), .val (.double d1), .second, .val (.double d2), .second, .val (.double d3), .second, .val (.double d4), .second, .val (.double d5), .second, .unset, .unset, .unset, .unset, .unset, .unset] [(.ref o0)])) _
    refine st1.trans ?_
    show Steps p.tables e below (T1.setTop (mkF m 4 #[.val (.ref o0), .val (.double d1), .second, .val (.double d2), .second, .val (.double d3), .second, .val (.double d4), .second, .val (.double d5), .second, .unset, .unset, .unset, .unset, .unset, .unset] [])) _
    refine XS.dloadN X1.here hx rfl (hb hby d1_4) rfl ?_
    show Steps p.tables e below (T1.setTop (mkF m 5 #[.val (.ref o0), .val (.double d1), .second, .val (.double d2), .second, .val (.double d3), .second, .val (.double d4), .second, .val (.double d5), .second, .unset, .unset, .unset, .unset, .unset, .unset] [(.double d1)])) _
    refine XS.dconst0 X1.here hx rfl (hb hby d1_5) (v := FP.dconst0) rfl ?_
    show Steps p.tables e below (T1.setTop (mkF m 6 #[.val (.ref o0), .val (.double d1), .second, .val (.double d2), .second, .val (.double d3), .second, .val (.double d4), .second, .val (.double d5), .second, .unset, .unset, .unset, .unset, .unset, .unset] [(.double FP.dconst0), (.double d1)])) _
    refine XS.dcmpS X1.here hx rfl (hb hby d1_6) rfl hz6 ?_
    show Steps p.tables e below (T1.setTop (mkF m 7 #[.val (.ref o0), .val (.double d1), .second, .val (.double d2), .second, .val (.double d3), .second, .val (.double d4), .second, .val (.double d5), .second, .unset, .unset, .unset, .unset, .unset, .unset] [(.int z6)])) _
    refine XS.ifNo X1.here hx rfl (hb hby d1_7) rfl (Jvm.Free.XT.i0_le_f br7) ?_
    show Steps p.tables e below (T1.setTop (mkF m 10 #[.val (.ref o0), .val (.double d1), .second, .val (.double d2), .second, .val (.double d3), .second, .val (.double d4), .second, .val (.double d5), .second, .unset, .unset, .unset, .unset, .unset, .unset] [])) _
    refine XS.dloadN X1.here hx rfl (hb hby d1_10) rfl ?_
    show Steps p.tables e below (T1.setTop (mkF m 11 #[.val (.ref o0), .val (.double d1), .second, .val (.double d2), .second, .val (.double d3), .second, .val (.double d4), .second, .val (.double d5), .second, .unset, .unset, .unset, .unset, .unset, .unset] [(.double d1)])) _
    refine st2 _ ?_
    show Steps p.tables e below (T2.setTop (mkF m 14 #[.val (.ref o0), .val (.double d1), .second, .val (.double d2), .second, .val (.double d3), .second, .val (.double d4), .second, .val (.double d5), .second, .unset, .unset, .unset, .unset, .unset, .unset] [(.int (0 : Int32))])) _
    refine XS.ifYes X2.here hx rfl (pc0 := 14) (pc' := 31) rfl (hb hby d1_14) rfl (Jvm.Free.XT.i0_eq_t (by decide)) (by decide) (by decide) ?_
    show Steps p.tables e below (T2.setTop (mkF m 31 #[.val (.ref o0), .val (.double d1), .second, .val (.double d2), .second, .val (.double d3), .second, .val (.double d4), .second, .val (.double d5), .second, .unset, .unset, .unset, .unset, .unset, .unset] [])) _
    refine XS.dloadN X2.here hx rfl (hb hby d1_31) rfl ?_
    show Steps p.tables e below (T2.setTop (mkF m 32 #[.val (.ref o0), .val (.double d1), .second, .val (.double d2), .second, .val (.double d3), .second, .val (.double d4), .second, .val (.double d5), .second, .unset, .unset, .unset, .unset, .unset, .unset] [(.double d2)])) _
    refine XS.dconst0 X2.here hx rfl (hb hby d1_32) (v := FP.dconst0) rfl ?_
    show Steps p.tables e below (T2.setTop (mkF m 33 #[.val (.ref o0), .val (.double d1), .second, .val (.double d2), .second, .val (.double d3), .second, .val (.double d4), .second, .val (.double d5), .second, .unset, .unset, .unset, .unset, .unset, .unset] [(.double FP.dconst0), (.double d2)])) _
    refine XS.dcmpS X2.here hx rfl (hb hby d1_33) rfl hz33 ?_
    show Steps p.tables e below (T2.setTop (mkF m 34 #[.val (.ref o0), .val (.double d1), .second, .val (.double d2), .second, .val (.double d3), .second, .val (.double d4), .second, .val (.double d5), .second, .unset, .unset, .unset, .unset, .unset, .unset] [(.int z33)])) _
    refine XS.ifNo X2.here hx rfl (hb hby d1_34) rfl (Jvm.Free.XT.i0_le_f br34) ?_
    show Steps p.tables e below (T2.setTop (mkF m 37 #[.val (.ref o0), .val (.double d1), .second, .val (.double d2), .second, .val (.double d3), .second, .val (.double d4), .second, .val (.double d5), .second, .unset, .unset, .unset, .unset, .unset, .unset] [])) _
    refine XS.dloadN X2.here hx rfl (hb hby d1_37) rfl ?_
    show Steps p.tables e below (T2.setTop (mkF m 38 #[.val (.ref o0), .val (.double d1), .second, .val (.double d2), .second, .val (.double d3), .second, .val (.double d4), .second, .val (.double d5), .second, .unset, .unset, .unset, .unset, .unset, .unset] [(.double d2)])) _
    refine st3 _ ?_
    show Steps p.tables e below (T3.setTop (mkF m 41 #[.val (.ref o0), .val (.double d1), .second, .val (.double d2), .second, .val (.double d3), .second, .val (.double d4), .second, .val (.double d5), .second, .unset, .unset, .unset, .unset, .unset, .unset] [(.int (0 : Int32))])) _
    refine XS.ifYes X3.here hx rfl (pc0 := 41) (pc' := 58) rfl (hb hby d1_41) rfl (Jvm.Free.XT.i0_eq_t (by decide)) (by decide) (by decide) ?_
    show Steps p.tables e below (T3.setTop (mkF m 58 #[.val (.ref o0), .val (.double d1), .second, .val (.double d2), .second, .val (.double d3), .second, .val (.double d4), .second, .val (.double d5), .second, .unset, .unset, .unset, .unset, .unset, .unset] [])) _
    refine XS.iconst X3.here hx rfl (hb hby d1_58) ?_
    show Steps p.tables e below (T3.setTop (mkF m 59 #[.val (.ref o0), .val (.double d1), .second, .val (.double d2), .second, .val (.double d3), .second, .val (.double d4), .second, .val (.double d5), .second, .unset, .unset, .unset, .unset, .unset, .unset] [(.int (3 : Int32))])) _
    refine st4 _ ?_
    show Steps p.tables e below (T4.setTop (mkF m 61 #[.val (.ref o0), .val (.double d1), .second, .val (.double d2), .second, .val (.double d3), .second, .val (.double d4), .second, .val (.double d5), .second, .unset, .unset, .unset, .unset, .unset, .unset] [(.ref b4)])) _
    refine XS.dup X4.here hx rfl (hb hby d1_61) rfl rfl ?_
    show Steps p.tables e below (T4.setTop (mkF m 62 #[.val (.ref o0), .val (.double d1), .second, .val (.double d2), .second, .val (.double d3), .second, .val (.double d4), .second, .val (.double d5), .second, .unset, .unset, .unset, .unset, .unset, .unset] [(.ref b4), (.ref b4)])) _
    refine XS.iconst X4.here hx rfl (hb hby d1_62) ?_
    show Steps p.tables e below (T4.setTop (mkF m 63 #[.val (.ref o0), .val (.double d1), .second, .val (.double d2), .second, .val (.double d3), .second, .val (.double d4), .second, .val (.double d5), .second, .unset, .unset, .unset, .unset, .unset, .unset] [(.int (0 : Int32)), (.ref b4), (.ref b4)])) _
    refine XS.dload X4.here hx rfl (hb hby d1_63) rfl ?_
    show Steps p.tables e below (T4.setTop (mkF m 65 #[.val (.ref o0), .val (.double d1), .second, .val (.double d2), .second, .val (.double d3), .second, .val (.double d4), .second, .val (.double d5), .second, .unset, .unset, .unset, .unset, .unset, .unset] [(.double d3), (.int (0 : Int32)), (.ref b4), (.ref b4)])) _
    refine st7 _ ?_
    show Steps p.tables e below (T7.setTop (mkF m 66 #[.val (.ref o0), .val (.double d1), .second, .val (.double d2), .second, .val (.double d3), .second, .val (.double d4), .second, .val (.double d5), .second, .unset, .unset, .unset, .unset, .unset, .unset] [(.ref b4)])) _
    refine XS.dup X7.here hx rfl (hb hby d1_66) rfl rfl ?_
    show Steps p.tables e below (T7.setTop (mkF m 67 #[.val (.ref o0), .val (.double d1), .second, .val (.double d2), .second, .val (.double d3), .second, .val (.double d4), .second, .val (.double d5), .second, .unset, .unset, .unset, .unset, .unset, .unset] [(.ref b4), (.ref b4)])) _
    refine XS.iconst X7.here hx rfl (hb hby d1_67) ?_
    show Steps p.tables e below (T7.setTop (mkF m 68 #[.val (.ref o0), .val (.double d1), .second, .val (.double d2), .second, .val (.double d3), .second, .val (.double d4), .second, .val (.double d5), .second, .unset, .unset, .unset, .unset, .unset, .unset] [(.int (1 : Int32)), (.ref b4), (.ref b4)])) _
    refine XS.dload X7.here hx rfl (hb hby d1_68) rfl ?_
    show Steps p.tables e below (T7.setTop (mkF m 70 #[.val (.ref o0), .val (.double d1), .second, .val (.double d2), .second, .val (.double d3), .second, .val (.double d4), .second, .val (.double d5), .second, .unset, .unset, .unset, .unset, .unset, .unset] [(.double d4), (.int (1 : Int32)), (.ref b4), (.ref b4)])) _
    refine st10 _ ?_
    show Steps p.tables e below (T10.setTop (mkF m 71 #[.val (.ref o0), .val (.double d1), .second, .val (.double d2), .second, .val (.double d3), .second, .val (.double d4), .second, .val (.double d5), .second, .unset, .unset, .unset, .unset, .unset, .unset] [(.ref b4)])) _
    refine XS.dup X10.here hx rfl (hb hby d1_71) rfl rfl ?_
    show Steps p.tables e below (T10.setTop (mkF m 72 #[.val (.ref o0), .val (.double d1), .second, .val (.double d2), .second, .val (.double d3), .second, .val (.double d4), .second, .val (.double d5), .second, .unset, .unset, .unset, .unset, .unset, .unset] [(.ref b4), (.ref b4)])) _
    refine XS.iconst X10.here hx rfl (hb hby d1_72) ?_
    show Steps p.tables e below (T10.setTop (mkF m 73 #[.val (.ref o0), .val (.double d1), .second, .val (.double d2), .second, .val (.double d3), .second, .val (.double d4), .second, .val (.double d5), .second, .unset, .unset, .unset, .unset, .unset, .unset] [(.int (2 : Int32)), (.ref b4), (.ref b4)])) _
    refine XS.dload X10.here hx rfl (hb hby d1_73) rfl ?_
    show Steps p.tables e below (T10.setTop (mkF m 75 #[.val (.ref o0), .val (.double d1), .second, .val (.double d2), .second, .val (.double d3), .second, .val (.double d4), .second, .val (.double d5), .second, .unset, .unset, .unset, .unset, .unset, .unset] [(.double d5), (.int (2 : Int32)), (.ref b4), (.ref b4)])) _
    refine st13 _ ?_
    show Steps p.tables e below (T13.setTop (mkF m 76 #[.val (.ref o0), .val (.double d1), .second, .val (.double d2), .second, .val (.double d3), .second, .val (.double d4), .second, .val (.double d5), .second, .unset, .unset, .unset, .unset, .unset, .unset] [(.ref b4)])) _
    refine XS.astore X13.here hx rfl (hb hby d1_76) rfl rfl (l' := #[.val (.ref o0), .val (.double d1), .second, .val (.double d2), .second, .val (.double d3), .second, .val (.double d4), .second, .val (.double d5), .second, .val (.ref b4), .unset, .unset, .unset, .unset, .unset]) rfl ?_
    show Steps p.tables e below (T13.setTop (mkF m 78 #[.val (.ref o0), .val (.double d1), .second, .val (.double d2), .second, .val (.double d3), .second, .val (.double d4), .second, .val (.double d5), .second, .val (.ref b4), .unset, .unset, .unset, .unset, .unset] [])) _
    refine XS.aload X13.here hx rfl (hb hby d1_78) rfl rfl ?_
    show Steps p.tables e below (T13.setTop (mkF m 80 #[.val (.ref o0), .val (.double d1), .second, .val (.double d2), .second, .val (.double d3), .second, .val (.double d4), .second, .val (.double d5), .second, .val (.ref b4), .unset, .unset, .unset, .unset, .unset] [(.ref b4)])) _
    refine XS.astore X13.here hx rfl (hb hby d1_80) rfl rfl (l' := #[.val (.ref o0), .val (.double d1), .second, .val (.double d2), .second, .val (.double d3), .second, .val (.double d4), .second, .val (.double d5), .second, .val (.ref b4), .val (.ref b4), .unset, .unset, .unset, .unset]) rfl ?_
    show Steps p.tables e below (T13.setTop (mkF m 82 #[.val (.ref o0), .val (.double d1), .second, .val (.double d2), .second, .val (.double d3), .second, .val (.double d4), .second, .val (.double d5), .second, .val (.ref b4), .val (.ref b4), .unset, .unset, .unset, .unset] [])) _
    refine XS.aload X13.here hx rfl (hb hby d1_82) rfl rfl ?_
    show Steps p.tables e below (T13.setTop (mkF m 84 #[.val (.ref o0), .val (.double d1), .second, .val (.double d2), .second, .val (.double d3), .second, .val (.double d4), .second, .val (.double d5), .second, .val (.ref b4), .val (.ref b4), .unset, .unset, .unset, .unset] [(.ref b4)])) _
    refine X13.arraylength hx (by rw [e13]; exact Ar15.1) (State.isArrayOf_alike hZ.alike Ar15.2.1) (g := (mkF m 84 #[.val (.ref o0), .val (.double d1), .second, .val (.double d2), .second, .val (.double d3), .second, .val (.double d4), .second, .val (.double d5), .second, .val (.ref b4), .val (.ref b4), .unset, .unset, .unset, .unset] [(.ref b4)])) rfl rfl (hb hby d1_84) _ ?_
    rw [len_of S15 Nn15]
    show Steps p.tables e below (T13.setTop (mkF m 85 #[.val (.ref o0), .val (.double d1), .second, .val (.double d2), .second, .val (.double d3), .second, .val (.double d4), .second, .val (.double d5), .second, .val (.ref b4), .val (.ref b4), .unset, .unset, .unset, .unset] [(.int (3 : Int32))])) _
    refine XS.istore X13.here hx rfl (hb hby d1_85) rfl (l' := #[.val (.ref o0), .val (.double d1), .second, .val (.double d2), .second, .val (.double d3), .second, .val (.double d4), .second, .val (.double d5), .second, .val (.ref b4), .val (.ref b4), .val (.int (3 : Int32)), .unset, .unset, .unset]) rfl ?_
    show Steps p.tables e below (T13.setTop (mkF m 87 #[.val (.ref o0), .val (.double d1), .second, .val (.double d2), .second, .val (.double d3), .second, .val (.double d4), .second, .val (.double d5), .second, .val (.ref b4), .val (.ref b4), .val (.int (3 : Int32)), .unset, .unset, .unset] [])) _
    refine XS.iconst X13.here hx rfl (hb hby d1_87) ?_
    show Steps p.tables e below (T13.setTop (mkF m 88 #[.val (.ref o0), .val (.double d1), .second, .val (.double d2), .second, .val (.double d3), .second, .val (.double d4), .second, .val (.double d5), .second, .val (.ref b4), .val (.ref b4), .val (.int (3 : Int32)), .unset, .unset, .unset] [(.int (0 : Int32))])) _
    refine XS.istore X13.here hx rfl (hb hby d1_88) rfl (l' := #[.val (.ref o0), .val (.double d1), .second, .val (.double d2), .second, .val (.double d3), .second, .val (.double d4), .second, .val (.double d5), .second, .val (.ref b4), .val (.ref b4), .val (.int (3 : Int32)), .val (.int (0 : Int32)), .unset, .unset]) rfl ?_
    show Steps p.tables e below (T13.setTop (mkF m 90 #[.val (.ref o0), .val (.double d1), .second, .val (.double d2), .second, .val (.double d3), .second, .val (.double d4), .second, .val (.double d5), .second, .val (.ref b4), .val (.ref b4), .val (.int (3 : Int32)), .val (.int (0 : Int32)), .unset, .unset] [])) _
    refine XS.iload X13.here hx rfl (hb hby d1_90) rfl ?_
    show Steps p.tables e below (T13.setTop (mkF m 92 #[.val (.ref o0), .val (.double d1), .second, .val (.double d2), .second, .val (.double d3), .second, .val (.double d4), .second, .val (.double d5), .second, .val (.ref b4), .val (.ref b4), .val (.int (3 : Int32)), .val (.int (0 : Int32)), .unset, .unset] [(.int (0 : Int32))])) _
    refine XS.iload X13.here hx rfl (hb hby d1_92) rfl ?_
    show Steps p.tables e below (T13.setTop (mkF m 94 #[.val (.ref o0), .val (.double d1), .second, .val (.double d2), .second, .val (.double d3), .second, .val (.double d4), .second, .val (.double d5), .second, .val (.ref b4), .val (.ref b4), .val (.int (3 : Int32)), .val (.int (0 : Int32)), .unset, .unset] [(.int (3 : Int32)), (.int (0 : Int32))])) _
    refine XS.icmpNo X13.here hx rfl (hb hby d1_94) rfl (Jvm.Free.XT.ii_ge_f (by decide)) ?_
    show Steps p.tables e below (T13.setTop (mkF m 97 #[.val (.ref o0), .val (.double d1), .second, .val (.double d2), .second, .val (.double d3), .second, .val (.double d4), .second, .val (.double d5), .second, .val (.ref b4), .val (.ref b4), .val (.int (3 : Int32)), .val (.int (0 : Int32)), .unset, .unset] [])) _
    refine XS.aload X13.here hx rfl (hb hby d1_97) rfl rfl ?_
    show Steps p.tables e below (T13.setTop (mkF m 99 #[.val (.ref o0), .val (.double d1), .second, .val (.double d2), .second, .val (.double d3), .second, .val (.double d4), .second, .val (.double d5), .second, .val (.ref b4), .val (.ref b4), .val (.int (3 : Int32)), .val (.int (0 : Int32)), .unset, .unset] [(.ref b4)])) _
    refine XS.iload X13.here hx rfl (hb hby d1_99) rfl ?_
    show Steps p.tables e below (T13.setTop (mkF m 101 #[.val (.ref o0), .val (.double d1), .second, .val (.double d2), .second, .val (.double d3), .second, .val (.double d4), .second, .val (.double d5), .second, .val (.ref b4), .val (.ref b4), .val (.int (3 : Int32)), .val (.int (0 : Int32)), .unset, .unset] [(.int (0 : Int32)), (.ref b4)])) _
    refine X13.daload hx (j := (0 : Int32)) (v := (.double d3)) (by rw [e13]; exact Ar16.1) (State.isArrayOf_alike hZ.alike Ar16.2.1) Ar16.2.2 in16 (Has.at Ha16 in16 rfl) (g := (mkF m 101 #[.val (.ref o0), .val (.double d1), .second, .val (.double d2), .second, .val (.double d3), .second, .val (.double d4), .second, .val (.double d5), .second, .val (.ref b4), .val (.ref b4), .val (.int (3 : Int32)), .val (.int (0 : Int32)), .unset, .unset] [(.int (0 : Int32)), (.ref b4)])) rfl rfl (hb hby d1_101) _ ?_
    show Steps p.tables e below (T13.setTop (mkF m 102 #[.val (.ref o0), .val (.double d1), .second, .val (.double d2), .second, .val (.double d3), .second, .val (.double d4), .second, .val (.double d5), .second, .val (.ref b4), .val (.ref b4), .val (.int (3 : Int32)), .val (.int (0 : Int32)), .unset, .unset] [(.double d3)])) _
    refine XS.dstore X13.here hx rfl (hb hby d1_102) rfl (l' := #[.val (.ref o0), .val (.double d1), .second, .val (.double d2), .second, .val (.double d3), .second, .val (.double d4), .second, .val (.double d5), .second, .val (.ref b4), .val (.ref b4), .val (.int (3 : Int32)), .val (.int (0 : Int32)), .val (.double d3), .second]) rfl ?_
    show Steps p.tables e below (T13.setTop (mkF m 104 #[.val (.ref o0), .val (.double d1), .second, .val (.double d2), .second, .val (.double d3), .second, .val (.double d4), .second, .val (.double d5), .second, .val (.ref b4), .val (.ref b4), .val (.int (3 : Int32)), .val (.int (0 : Int32)), .val (.double d3), .second] [])) _
    refine XS.dload X13.here hx rfl (hb hby d1_104) rfl ?_
    show Steps p.tables e below (T13.setTop (mkF m 106 #[.val (.ref o0), .val (.double d1), .second, .val (.double d2), .second, .val (.double d3), .second, .val (.double d4), .second, .val (.double d5), .second, .val (.ref b4), .val (.ref b4), .val (.int (3 : Int32)), .val (.int (0 : Int32)), .val (.double d3), .second] [(.double d3)])) _
    refine XS.dconst0 X13.here hx rfl (hb hby d1_106) (v := FP.dconst0) rfl ?_
    show Steps p.tables e below (T13.setTop (mkF m 107 #[.val (.ref o0), .val (.double d1), .second, .val (.double d2), .second, .val (.double d3), .second, .val (.double d4), .second, .val (.double d5), .second, .val (.ref b4), .val (.ref b4), .val (.int (3 : Int32)), .val (.int (0 : Int32)), .val (.double d3), .second] [(.double FP.dconst0), (.double d3)])) _
    refine XS.dcmpS X13.here hx rfl (hb hby d1_107) rfl hz107 ?_
    show Steps p.tables e below (T13.setTop (mkF m 108 #[.val (.ref o0), .val (.double d1), .second, .val (.double d2), .second, .val (.double d3), .second, .val (.double d4), .second, .val (.double d5), .second, .val (.ref b4), .val (.ref b4), .val (.int (3 : Int32)), .val (.int (0 : Int32)), .val (.double d3), .second] [(.int z107)])) _
    refine XS.ifNo X13.here hx rfl (hb hby d1_108) rfl (Jvm.Free.XT.i0_lt_f br108) ?_
    show Steps p.tables e below (T13.setTop (mkF m 111 #[.val (.ref o0), .val (.double d1), .second, .val (.double d2), .second, .val (.double d3), .second, .val (.double d4), .second, .val (.double d5), .second, .val (.ref b4), .val (.ref b4), .val (.int (3 : Int32)), .val (.int (0 : Int32)), .val (.double d3), .second] [])) _
    refine XS.dload X13.here hx rfl (hb hby d1_111) rfl ?_
    show Steps p.tables e below (T13.setTop (mkF m 113 #[.val (.ref o0), .val (.double d1), .second, .val (.double d2), .second, .val (.double d3), .second, .val (.double d4), .second, .val (.double d5), .second, .val (.ref b4), .val (.ref b4), .val (.int (3 : Int32)), .val (.int (0 : Int32)), .val (.double d3), .second] [(.double d3)])) _
    refine st17 _ ?_
    show Steps p.tables e below (T17.setTop (mkF m 116 #[.val (.ref o0), .val (.double d1), .second, .val (.double d2), .second, .val (.double d3), .second, .val (.double d4), .second, .val (.double d5), .second, .val (.ref b4), .val (.ref b4), .val (.int (3 : Int32)), .val (.int (0 : Int32)), .val (.double d3), .second] [(.int (0 : Int32))])) _
    refine XS.ifYes X17.here hx rfl (pc0 := 116) (pc' := 134) rfl (hb hby d1_116) rfl (Jvm.Free.XT.i0_eq_t (by decide)) (by decide) (by decide) ?_
    show Steps p.tables e below (T17.setTop (mkF m 134 #[.val (.ref o0), .val (.double d1), .second, .val (.double d2), .second, .val (.double d3), .second, .val (.double d4), .second, .val (.double d5), .second, .val (.ref b4), .val (.ref b4), .val (.int (3 : Int32)), .val (.int (0 : Int32)), .val (.double d3), .second] [])) _
    refine Jvm.OwnK.iinc X17.here hx rfl (hb hby d1_134) rfl (l' := #[.val (.ref o0), .val (.double d1), .second, .val (.double d2), .second, .val (.double d3), .second, .val (.double d4), .second, .val (.double d5), .second, .val (.ref b4), .val (.ref b4), .val (.int (3 : Int32)), .val (.int (1 : Int32)), .val (.double d3), .second]) (v := (1 : Int32)) (by decide) rfl ?_
    show Steps p.tables e below (T17.setTop (mkF m 137 #[.val (.ref o0), .val (.double d1), .second, .val (.double d2), .second, .val (.double d3), .second, .val (.double d4), .second, .val (.double d5), .second, .val (.ref b4), .val (.ref b4), .val (.int (3 : Int32)), .val (.int (1 : Int32)), .val (.double d3), .second] [])) _
    refine XS.goto X17.here hx rfl (pc0 := 137) (pc' := 90) rfl (hb hby d1_137) (by decide) (by decide) ?_
    show Steps p.tables e below (T17.setTop (mkF m 90 #[.val (.ref o0), .val (.double d1), .second, .val (.double d2), .second, .val (.double d3), .second, .val (.double d4), .second, .val (.double d5), .second, .val (.ref b4), .val (.ref b4), .val (.int (3 : Int32)), .val (.int (1 : Int32)), .val (.double d3), .second] [])) _
    refine XS.iload X17.here hx rfl (hb hby d1_90) rfl ?_
    show Steps p.tables e below (T17.setTop (mkF m 92 #[.val (.ref o0), .val (.double d1), .second, .val (.double d2), .second, .val (.double d3), .second, .val (.double d4), .second, .val (.double d5), .second, .val (.ref b4), .val (.ref b4), .val (.int (3 : Int32)), .val (.int (1 : Int32)), .val (.double d3), .second] [(.int (1 : Int32))])) _
    refine XS.iload X17.here hx rfl (hb hby d1_92) rfl ?_
    show Steps p.tables e below (T17.setTop (mkF m 94 #[.val (.ref o0), .val (.double d1), .second, .val (.double d2), .second, .val (.double d3), .second, .val (.double d4), .second, .val (.double d5), .second, .val (.ref b4), .val (.ref b4), .val (.int (3 : Int32)), .val (.int (1 : Int32)), .val (.double d3), .second] [(.int (3 : Int32)), (.int (1 : Int32))])) _
    refine XS.icmpNo X17.here hx rfl (hb hby d1_94) rfl (Jvm.Free.XT.ii_ge_f (by decide)) ?_
    show Steps p.tables e below (T17.setTop (mkF m 97 #[.val (.ref o0), .val (.double d1), .second, .val (.double d2), .second, .val (.double d3), .second, .val (.double d4), .second, .val (.double d5), .second, .val (.ref b4), .val (.ref b4), .val (.int (3 : Int32)), .val (.int (1 : Int32)), .val (.double d3), .second] [])) _
    refine XS.aload X17.here hx rfl (hb hby d1_97) rfl rfl ?_
    show Steps p.tables e below (T17.setTop (mkF m 99 #[.val (.ref o0), .val (.double d1), .second, .val (.double d2), .second, .val (.double d3), .second, .val (.double d4), .second, .val (.double d5), .second, .val (.ref b4), .val (.ref b4), .val (.int (3 : Int32)), .val (.int (1 : Int32)), .val (.double d3), .second] [(.ref b4)])) _
    refine XS.iload X17.here hx rfl (hb hby d1_99) rfl ?_
    show Steps p.tables e below (T17.setTop (mkF m 101 #[.val (.ref o0), .val (.double d1), .second, .val (.double d2), .second, .val (.double d3), .second, .val (.double d4), .second, .val (.double d5), .second, .val (.ref b4), .val (.ref b4), .val (.int (3 : Int32)), .val (.int (1 : Int32)), .val (.double d3), .second] [(.int (1 : Int32)), (.ref b4)])) _
    refine X17.daload hx (j := (1 : Int32)) (v := (.double d4)) (by rw [e17]; exact Ar18.1) (State.isArrayOf_alike hZ.alike Ar18.2.1) Ar18.2.2 in18 (Has.at Ha18 in18 rfl) (g := (mkF m 101 #[.val (.ref o0), .val (.double d1), .second, .val (.double d2), .second, .val (.double d3), .second, .val (.double d4), .second, .val (.double d5), .second, .val (.ref b4), .val (.ref b4), .val (.int (3 : Int32)), .val (.int (1 : Int32)), .val (.double d3), .second] [(.int (1 : Int32)), (.ref b4)])) rfl rfl (hb hby d1_101) _ ?_
    show Steps p.tables e below (T17.setTop (mkF m 102 #[.val (.ref o0), .val (.double d1), .second, .val (.double d2), .second, .val (.double d3), .second, .val (.double d4), .second, .val (.double d5), .second, .val (.ref b4), .val (.ref b4), .val (.int (3 : Int32)), .val (.int (1 : Int32)), .val (.double d3), .second] [(.double d4)])) _
    refine XS.dstore X17.here hx rfl (hb hby d1_102) rfl (l' := #[.val (.ref o0), .val (.double d1), .second, .val (.double d2), .second, .val (.double d3), .second, .val (.double d4), .second, .val (.double d5), .second, .val (.ref b4), .val (.ref b4), .val (.int (3 : Int32)), .val (.int (1 : Int32)), .val (.double d4), .second]) rfl ?_
    show Steps p.tables e below (T17.setTop (mkF m 104 #[.val (.ref o0), .val (.double d1), .second, .val (.double d2), .second, .val (.double d3), .second, .val (.double d4), .second, .val (.double d5), .second, .val (.ref b4), .val (.ref b4), .val (.int (3 : Int32)), .val (.int (1 : Int32)), .val (.double d4), .second] [])) _
    refine XS.dload X17.here hx rfl (hb hby d1_104) rfl ?_
    show Steps p.tables e below (T17.setTop (mkF m 106 #[.val (.ref o0), .val (.double d1), .second, .val (.double d2), .second, .val (.double d3), .second, .val (.double d4), .second, .val (.double d5), .second, .val (.ref b4), .val (.ref b4), .val (.int (3 : Int32)), .val (.int (1 : Int32)), .val (.double d4), .second] [(.double d4)])) _
    refine XS.dconst0 X17.here hx rfl (hb hby d1_106) (v := FP.dconst0) rfl ?_
    show Steps p.tables e below (T17.setTop (mkF m 107 #[.val (.ref o0), .val (.double d1), .second, .val (.double d2), .second, .val (.double d3), .second, .val (.double d4), .second, .val (.double d5), .second, .val (.ref b4), .val (.ref b4), .val (.int (3 : Int32)), .val (.int (1 : Int32)), .val (.double d4), .second] [(.double FP.dconst0), (.double d4)])) _
    refine XS.dcmpS X17.here hx rfl (hb hby d1_107) rfl hz107_2 ?_
    show Steps p.tables e below (T17.setTop (mkF m 108 #[.val (.ref o0), .val (.double d1), .second, .val (.double d2), .second, .val (.double d3), .second, .val (.double d4), .second, .val (.double d5), .second, .val (.ref b4), .val (.ref b4), .val (.int (3 : Int32)), .val (.int (1 : Int32)), .val (.double d4), .second] [(.int z107_2)])) _
    refine XS.ifNo X17.here hx rfl (hb hby d1_108) rfl (Jvm.Free.XT.i0_lt_f br108_2) ?_
    show Steps p.tables e below (T17.setTop (mkF m 111 #[.val (.ref o0), .val (.double d1), .second, .val (.double d2), .second, .val (.double d3), .second, .val (.double d4), .second, .val (.double d5), .second, .val (.ref b4), .val (.ref b4), .val (.int (3 : Int32)), .val (.int (1 : Int32)), .val (.double d4), .second] [])) _
    refine XS.dload X17.here hx rfl (hb hby d1_111) rfl ?_
    show Steps p.tables e below (T17.setTop (mkF m 113 #[.val (.ref o0), .val (.double d1), .second, .val (.double d2), .second, .val (.double d3), .second, .val (.double d4), .second, .val (.double d5), .second, .val (.ref b4), .val (.ref b4), .val (.int (3 : Int32)), .val (.int (1 : Int32)), .val (.double d4), .second] [(.double d4)])) _
    refine st19 _ ?_
    show Steps p.tables e below (T19.setTop (mkF m 116 #[.val (.ref o0), .val (.double d1), .second, .val (.double d2), .second, .val (.double d3), .second, .val (.double d4), .second, .val (.double d5), .second, .val (.ref b4), .val (.ref b4), .val (.int (3 : Int32)), .val (.int (1 : Int32)), .val (.double d4), .second] [(.int (0 : Int32))])) _
    refine XS.ifYes X19.here hx rfl (pc0 := 116) (pc' := 134) rfl (hb hby d1_116) rfl (Jvm.Free.XT.i0_eq_t (by decide)) (by decide) (by decide) ?_
    show Steps p.tables e below (T19.setTop (mkF m 134 #[.val (.ref o0), .val (.double d1), .second, .val (.double d2), .second, .val (.double d3), .second, .val (.double d4), .second, .val (.double d5), .second, .val (.ref b4), .val (.ref b4), .val (.int (3 : Int32)), .val (.int (1 : Int32)), .val (.double d4), .second] [])) _
    refine Jvm.OwnK.iinc X19.here hx rfl (hb hby d1_134) rfl (l' := #[.val (.ref o0), .val (.double d1), .second, .val (.double d2), .second, .val (.double d3), .second, .val (.double d4), .second, .val (.double d5), .second, .val (.ref b4), .val (.ref b4), .val (.int (3 : Int32)), .val (.int (2 : Int32)), .val (.double d4), .second]) (v := (2 : Int32)) (by decide) rfl ?_
    show Steps p.tables e below (T19.setTop (mkF m 137 #[.val (.ref o0), .val (.double d1), .second, .val (.double d2), .second, .val (.double d3), .second, .val (.double d4), .second, .val (.double d5), .second, .val (.ref b4), .val (.ref b4), .val (.int (3 : Int32)), .val (.int (2 : Int32)), .val (.double d4), .second] [])) _
    refine XS.goto X19.here hx rfl (pc0 := 137) (pc' := 90) rfl (hb hby d1_137) (by decide) (by decide) ?_
    show Steps p.tables e below (T19.setTop (mkF m 90 #[.val (.ref o0), .val (.double d1), .second, .val (.double d2), .second, .val (.double d3), .second, .val (.double d4), .second, .val (.double d5), .second, .val (.ref b4), .val (.ref b4), .val (.int (3 : Int32)), .val (.int (2 : Int32)), .val (.double d4), .second] [])) _
    refine XS.iload X19.here hx rfl (hb hby d1_90) rfl ?_
    show Steps p.tables e below (T19.setTop (mkF m 92 #[.val (.ref o0), .val (.double d1), .second, .val (.double d2), .second, .val (.double d3), .second, .val (.double d4), .second, .val (.double d5), .second, .val (.ref b4), .val (.ref b4), .val (.int (3 : Int32)), .val (.int (2 : Int32)), .val (.double d4), .second] [(.int (2 : Int32))])) _
    refine XS.iload X19.here hx rfl (hb hby d1_92) rfl ?_
    show Steps p.tables e below (T19.setTop (mkF m 94 #[.val (.ref o0), .val (.double d1), .second, .val (.double d2), .second, .val (.double d3), .second, .val (.double d4), .second, .val (.double d5), .second, .val (.ref b4), .val (.ref b4), .val (.int (3 : Int32)), .val (.int (2 : Int32)), .val (.double d4), .second] [(.int (3 : Int32)), (.int (2 : Int32))])) _
    refine XS.icmpNo X19.here hx rfl (hb hby d1_94) rfl (Jvm.Free.XT.ii_ge_f (by decide)) ?_
    show Steps p.tables e below (T19.setTop (mkF m 97 #[.val (.ref o0), .val (.double d1), .second, .val (.double d2), .second, .val (.double d3), .second, .val (.double d4), .second, .val (.double d5), .second, .val (.ref b4), .val (.ref b4), .val (.int (3 : Int32)), .val (.int (2 : Int32)), .val (.double d4), .second] [])) _
    refine XS.aload X19.here hx rfl (hb hby d1_97) rfl rfl ?_
    show Steps p.tables e below (T19.setTop (mkF m 99 #[.val (.ref o0), .val (.double d1), .second, .val (.double d2), .second, .val (.double d3), .second, .val (.double d4), .second, .val (.double d5), .second, .val (.ref b4), .val (.ref b4), .val (.int (3 : Int32)), .val (.int (2 : Int32)), .val (.double d4), .second] [(.ref b4)])) _
    refine XS.iload X19.here hx rfl (hb hby d1_99) rfl ?_
    show Steps p.tables e below (T19.setTop (mkF m 101 #[.val (.ref o0), .val (.double d1), .second, .val (.double d2), .second, .val (.double d3), .second, .val (.double d4), .second, .val (.double d5), .second, .val (.ref b4), .val (.ref b4), .val (.int (3 : Int32)), .val (.int (2 : Int32)), .val (.double d4), .second] [(.int (2 : Int32)), (.ref b4)])) _
    refine X19.daload hx (j := (2 : Int32)) (v := (.double d5)) (by rw [e19]; exact Ar20.1) (State.isArrayOf_alike hZ.alike Ar20.2.1) Ar20.2.2 in20 (Has.at Ha20 in20 rfl) (g := (mkF m 101 #[.val (.ref o0), .val (.double d1), .second, .val (.double d2), .second, .val (.double d3), .second, .val (.double d4), .second, .val (.double d5), .second, .val (.ref b4), .val (.ref b4), .val (.int (3 : Int32)), .val (.int (2 : Int32)), .val (.double d4), .second] [(.int (2 : Int32)), (.ref b4)])) rfl rfl (hb hby d1_101) _ ?_
    show Steps p.tables e below (T19.setTop (mkF m 102 #[.val (.ref o0), .val (.double d1), .second, .val (.double d2), .second, .val (.double d3), .second, .val (.double d4), .second, .val (.double d5), .second, .val (.ref b4), .val (.ref b4), .val (.int (3 : Int32)), .val (.int (2 : Int32)), .val (.double d4), .second] [(.double d5)])) _
    refine XS.dstore X19.here hx rfl (hb hby d1_102) rfl (l' := #[.val (.ref o0), .val (.double d1), .second, .val (.double d2), .second, .val (.double d3), .second, .val (.double d4), .second, .val (.double d5), .second, .val (.ref b4), .val (.ref b4), .val (.int (3 : Int32)), .val (.int (2 : Int32)), .val (.double d5), .second]) rfl ?_
    show Steps p.tables e below (T19.setTop (mkF m 104 #[.val (.ref o0), .val (.double d1), .second, .val (.double d2), .second, .val (.double d3), .second, .val (.double d4), .second, .val (.double d5), .second, .val (.ref b4), .val (.ref b4), .val (.int (3 : Int32)), .val (.int (2 : Int32)), .val (.double d5), .second] [])) _
    refine XS.dload X19.here hx rfl (hb hby d1_104) rfl ?_
    show Steps p.tables e below (T19.setTop (mkF m 106 #[.val (.ref o0), .val (.double d1), .second, .val (.double d2), .second, .val (.double d3), .second, .val (.double d4), .second, .val (.double d5), .second, .val (.ref b4), .val (.ref b4), .val (.int (3 : Int32)), .val (.int (2 : Int32)), .val (.double d5), .second] [(.double d5)])) _
    refine XS.dconst0 X19.here hx rfl (hb hby d1_106) (v := FP.dconst0) rfl ?_
    show Steps p.tables e below (T19.setTop (mkF m 107 #[.val (.ref o0), .val (.double d1), .second, .val (.double d2), .second, .val (.double d3), .second, .val (.double d4), .second, .val (.double d5), .second, .val (.ref b4), .val (.ref b4), .val (.int (3 : Int32)), .val (.int (2 : Int32)), .val (.double d5), .second] [(.double FP.dconst0), (.double d5)])) _
    refine XS.dcmpS X19.here hx rfl (hb hby d1_107) rfl hz107_3 ?_
    show Steps p.tables e below (T19.setTop (mkF m 108 #[.val (.ref o0), .val (.double d1), .second, .val (.double d2), .second, .val (.double d3), .second, .val (.double d4), .second, .val (.double d5), .second, .val (.ref b4), .val (.ref b4), .val (.int (3 : Int32)), .val (.int (2 : Int32)), .val (.double d5), .second] [(.int z107_3)])) _
    refine XS.ifNo X19.here hx rfl (hb hby d1_108) rfl (Jvm.Free.XT.i0_lt_f br108_3) ?_
    show Steps p.tables e below (T19.setTop (mkF m 111 #[.val (.ref o0), .val (.double d1), .second, .val (.double d2), .second, .val (.double d3), .second, .val (.double d4), .second, .val (.double d5), .second, .val (.ref b4), .val (.ref b4), .val (.int (3 : Int32)), .val (.int (2 : Int32)), .val (.double d5), .second] [])) _
    refine XS.dload X19.here hx rfl (hb hby d1_111) rfl ?_
    show Steps p.tables e below (T19.setTop (mkF m 113 #[.val (.ref o0), .val (.double d1), .second, .val (.double d2), .second, .val (.double d3), .second, .val (.double d4), .second, .val (.double d5), .second, .val (.ref b4), .val (.ref b4), .val (.int (3 : Int32)), .val (.int (2 : Int32)), .val (.double d5), .second] [(.double d5)])) _
    refine st21 _ ?_
    show Steps p.tables e below (T21.setTop (mkF m 116 #[.val (.ref o0), .val (.double d1), .second, .val (.double d2), .second, .val (.double d3), .second, .val (.double d4), .second, .val (.double d5), .second, .val (.ref b4), .val (.ref b4), .val (.int (3 : Int32)), .val (.int (2 : Int32)), .val (.double d5), .second] [(.int (0 : Int32))])) _
    refine XS.ifYes X21.here hx rfl (pc0 := 116) (pc' := 134) rfl (hb hby d1_116) rfl (Jvm.Free.XT.i0_eq_t (by decide)) (by decide) (by decide) ?_
    show Steps p.tables e below (T21.setTop (mkF m 134 #[.val (.ref o0), .val (.double d1), .second, .val (.double d2), .second, .val (.double d3), .second, .val (.double d4), .second, .val (.double d5), .second, .val (.ref b4), .val (.ref b4), .val (.int (3 : Int32)), .val (.int (2 : Int32)), .val (.double d5), .second] [])) _
    refine Jvm.OwnK.iinc X21.here hx rfl (hb hby d1_134) rfl (l' := #[.val (.ref o0), .val (.double d1), .second, .val (.double d2), .second, .val (.double d3), .second, .val (.double d4), .second, .val (.double d5), .second, .val (.ref b4), .val (.ref b4), .val (.int (3 : Int32)), .val (.int (3 : Int32)), .val (.double d5), .second]) (v := (3 : Int32)) (by decide) rfl ?_
    show Steps p.tables e below (T21.setTop (mkF m 137 #[.val (.ref o0), .val (.double d1), .second, .val (.double d2), .second, .val (.double d3), .second, .val (.double d4), .second, .val (.double d5), .second, .val (.ref b4), .val (.ref b4), .val (.int (3 : Int32)), .val (.int (3 : Int32)), .val (.double d5), .second] [])) _
    refine XS.goto X21.here hx rfl (pc0 := 137) (pc' := 90) rfl (hb hby d1_137) (by decide) (by decide) ?_
    show Steps p.tables e below (T21.setTop (mkF m 90 #[.val (.ref o0), .val (.double d1), .second, .val (.double d2), .second, .val (.double d3), .second, .val (.double d4), .second, .val (.double d5), .second, .val (.ref b4), .val (.ref b4), .val (.int (3 : Int32)), .val (.int (3 : Int32)), .val (.double d5), .second] [])) _
    refine XS.iload X21.here hx rfl (hb hby d1_90) rfl ?_
    show Steps p.tables e below (T21.setTop (mkF m 92 #[.val (.ref o0), .val (.double d1), .second, .val (.double d2), .second, .val (.double d3), .second, .val (.double d4), .second, .val (.double d5), .second, .val (.ref b4), .val (.ref b4), .val (.int (3 : Int32)), .val (.int (3 : Int32)), .val (.double d5), .second] [(.int (3 : Int32))])) _
    refine XS.iload X21.here hx rfl (hb hby d1_92) rfl ?_
    show Steps p.tables e below (T21.setTop (mkF m 94 #[.val (.ref o0), .val (.double d1), .second, .val (.double d2), .second, .val (.double d3), .second, .val (.double d4), .second, .val (.double d5), .second, .val (.ref b4), .val (.ref b4), .val (.int (3 : Int32)), .val (.int (3 : Int32)), .val (.double d5), .second] [(.int (3 : Int32)), (.int (3 : Int32))])) _
    refine XS.icmpYes X21.here hx rfl (pc0 := 94) (pc' := 140) rfl (hb hby d1_94) rfl (Jvm.Free.XT.ii_ge_t (by decide)) (by decide) (by decide) ?_
    show Steps p.tables e below (T21.setTop (mkF m 140 #[.val (.ref o0), .val (.double d1), .second, .val (.double d2), .second, .val (.double d3), .second, .val (.double d4), .second, .val (.double d5), .second, .val (.ref b4), .val (.ref b4), .val (.int (3 : Int32)), .val (.int (3 : Int32)), .val (.double d5), .second] [])) _
    refine XS.dload X21.here hx rfl (hb hby d1_140) rfl ?_
    show Steps p.tables e below (T21.setTop (mkF m 142 #[.val (.ref o0), .val (.double d1), .second, .val (.double d2), .second, .val (.double d3), .second, .val (.double d4), .second, .val (.double d5), .second, .val (.ref b4), .val (.ref b4), .val (.int (3 : Int32)), .val (.int (3 : Int32)), .val (.double d5), .second] [(.double d3)])) _
    refine XS.dconst0 X21.here hx rfl (hb hby d1_142) (v := FP.dconst0) rfl ?_
    show Steps p.tables e below (T21.setTop (mkF m 143 #[.val (.ref o0), .val (.double d1), .second, .val (.double d2), .second, .val (.double d3), .second, .val (.double d4), .second, .val (.double d5), .second, .val (.ref b4), .val (.ref b4), .val (.int (3 : Int32)), .val (.int (3 : Int32)), .val (.double d5), .second] [(.double FP.dconst0), (.double d3)])) _
    refine XS.dcmpS X21.here hx rfl (hb hby d1_143) rfl hz143 ?_
    show Steps p.tables e below (T21.setTop (mkF m 144 #[.val (.ref o0), .val (.double d1), .second, .val (.double d2), .second, .val (.double d3), .second, .val (.double d4), .second, .val (.double d5), .second, .val (.ref b4), .val (.ref b4), .val (.int (3 : Int32)), .val (.int (3 : Int32)), .val (.double d5), .second] [(.int z143)])) _
    refine XS.ifNo X21.here hx rfl (hb hby d1_144) rfl (Jvm.Free.XT.i0_ne_f br144) ?_
    show Steps p.tables e below (T21.setTop (mkF m 147 #[.val (.ref o0), .val (.double d1), .second, .val (.double d2), .second, .val (.double d3), .second, .val (.double d4), .second, .val (.double d5), .second, .val (.ref b4), .val (.ref b4), .val (.int (3 : Int32)), .val (.int (3 : Int32)), .val (.double d5), .second] [])) _
    refine XS.dload X21.here hx rfl (hb hby d1_147) rfl ?_
    show Steps p.tables e below (T21.setTop (mkF m 149 #[.val (.ref o0), .val (.double d1), .second, .val (.double d2), .second, .val (.double d3), .second, .val (.double d4), .second, .val (.double d5), .second, .val (.ref b4), .val (.ref b4), .val (.int (3 : Int32)), .val (.int (3 : Int32)), .val (.double d5), .second] [(.double d4)])) _
    refine XS.dconst0 X21.here hx rfl (hb hby d1_149) (v := FP.dconst0) rfl ?_
    show Steps p.tables e below (T21.setTop (mkF m 150 #[.val (.ref o0), .val (.double d1), .second, .val (.double d2), .second, .val (.double d3), .second, .val (.double d4), .second, .val (.double d5), .second, .val (.ref b4), .val (.ref b4), .val (.int (3 : Int32)), .val (.int (3 : Int32)), .val (.double d5), .second] [(.double FP.dconst0), (.double d4)])) _
    refine XS.dcmpS X21.here hx rfl (hb hby d1_150) rfl hz150 ?_
    show Steps p.tables e below (T21.setTop (mkF m 151 #[.val (.ref o0), .val (.double d1), .second, .val (.double d2), .second, .val (.double d3), .second, .val (.double d4), .second, .val (.double d5), .second, .val (.ref b4), .val (.ref b4), .val (.int (3 : Int32)), .val (.int (3 : Int32)), .val (.double d5), .second] [(.int z150)])) _
    refine XS.ifYes X21.here hx rfl (pc0 := 151) (pc' := 164) rfl (hb hby d1_151) rfl (Jvm.Free.XT.i0_ne_t br151) (by decide) (by decide) ?_
    show Steps p.tables e below (T21.setTop (mkF m 164 #[.val (.ref o0), .val (.double d1), .second, .val (.double d2), .second, .val (.double d3), .second, .val (.double d4), .second, .val (.double d5), .second, .val (.ref b4), .val (.ref b4), .val (.int (3 : Int32)), .val (.int (3 : Int32)), .val (.double d5), .second] [])) _
    refine XS.aloadN X21.here hx rfl (hb hby d1_164) rfl rfl ?_
    show Steps p.tables e below (T21.setTop (mkF m 165 #[.val (.ref o0), .val (.double d1), .second, .val (.double d2), .second, .val (.double d3), .second, .val (.double d4), .second, .val (.double d5), .second, .val (.ref b4), .val (.ref b4), .val (.int (3 : Int32)), .val (.int (3 : Int32)), .val (.double d5), .second] [(.ref o0)])) _
    refine XS.dloadN X21.here hx rfl (hb hby d1_165) rfl ?_
    show Steps p.tables e below (T21.setTop (mkF m 166 #[.val (.ref o0), .val (.double d1), .second, .val (.double d2), .second, .val (.double d3), .second, .val (.double d4), .second, .val (.double d5), .second, .val (.ref b4), .val (.ref b4), .val (.int (3 : Int32)), .val (.int (3 : Int32)), .val (.double d5), .second] [(.double d1), (.ref o0)])) _
    refine st24 _ ?_
    show Steps p.tables e below (T24.setTop (mkF m 169 #[.val (.ref o0), .val (.double d1), .second, .val (.double d2), .second, .val (.double d3), .second, .val (.double d4), .second, .val (.double d5), .second, .val (.ref b4), .val (.ref b4), .val (.int (3 : Int32)), .val (.int (3 : Int32)), .val (.double d5), .second] [])) _
    refine XS.aloadN X24.here hx rfl (hb hby d1_169) rfl rfl ?_
    show Steps p.tables e below (T24.setTop (mkF m 170 #[.val (.ref o0), .val (.double d1), .second, .val (.double d2), .second, .val (.double d3), .second, .val (.double d4), .second, .val (.double d5), .second, .val (.ref b4), .val (.ref b4), .val (.int (3 : Int32)), .val (.int (3 : Int32)), .val (.double d5), .second] [(.ref o0)])) _
    refine XS.dloadN X24.here hx rfl (hb hby d1_170) rfl ?_
    show Steps p.tables e below (T24.setTop (mkF m 171 #[.val (.ref o0), .val (.double d1), .second, .val (.double d2), .second, .val (.double d3), .second, .val (.double d4), .second, .val (.double d5), .second, .val (.ref b4), .val (.ref b4), .val (.int (3 : Int32)), .val (.int (3 : Int32)), .val (.double d5), .second] [(.double d2), (.ref o0)])) _
    refine st28 _ ?_
    show Steps p.tables e below (T28.setTop (mkF m 174 #[.val (.ref o0), .val (.double d1), .second, .val (.double d2), .second, .val (.double d3), .second, .val (.double d4), .second, .val (.double d5), .second, .val (.ref b4), .val (.ref b4), .val (.int (3 : Int32)), .val (.int (3 : Int32)), .val (.double d5), .second] [])) _
    refine XS.aloadN X28.here hx rfl (hb hby d1_174) rfl rfl ?_
    show Steps p.tables e below (T28.setTop (mkF m 175 #[.val (.ref o0), .val (.double d1), .second, .val (.double d2), .second, .val (.double d3), .second, .val (.double d4), .second, .val (.double d5), .second, .val (.ref b4), .val (.ref b4), .val (.int (3 : Int32)), .val (.int (3 : Int32)), .val (.double d5), .second] [(.ref o0)])) _
    refine XS.dload X28.here hx rfl (hb hby d1_175) rfl ?_
    show Steps p.tables e below (T28.setTop (mkF m 177 #[.val (.ref o0), .val (.double d1), .second, .val (.double d2), .second, .val (.double d3), .second, .val (.double d4), .second, .val (.double d5), .second, .val (.ref b4), .val (.ref b4), .val (.int (3 : Int32)), .val (.int (3 : Int32)), .val (.double d5), .second] [(.double d3), (.ref o0)])) _
    refine st32 _ ?_
    show Steps p.tables e below (T32.setTop (mkF m 180 #[.val (.ref o0), .val (.double d1), .second, .val (.double d2), .second, .val (.double d3), .second, .val (.double d4), .second, .val (.double d5), .second, .val (.ref b4), .val (.ref b4), .val (.int (3 : Int32)), .val (.int (3 : Int32)), .val (.double d5), .second] [])) _
    refine XS.aloadN X32.here hx rfl (hb hby d1_180) rfl rfl ?_
    show Steps p.tables e below (T32.setTop (mkF m 181 #[.val (.ref o0), .val (.double d1), .second, .val (.double d2), .second, .val (.double d3), .second, .val (.double d4), .second, .val (.double d5), .second, .val (.ref b4), .val (.ref b4), .val (.int (3 : Int32)), .val (.int (3 : Int32)), .val (.double d5), .second] [(.ref o0)])) _
    refine XS.dload X32.here hx rfl (hb hby d1_181) rfl ?_
    show Steps p.tables e below (T32.setTop (mkF m 183 #[.val (.ref o0), .val (.double d1), .second, .val (.double d2), .second, .val (.double d3), .second, .val (.double d4), .second, .val (.double d5), .second, .val (.ref b4), .val (.ref b4), .val (.int (3 : Int32)), .val (.int (3 : Int32)), .val (.double d5), .second] [(.double d4), (.ref o0)])) _
    refine st36 _ ?_
    show Steps p.tables e below (T36.setTop (mkF m 186 #[.val (.ref o0), .val (.double d1), .second, .val (.double d2), .second, .val (.double d3), .second, .val (.double d4), .second, .val (.double d5), .second, .val (.ref b4), .val (.ref b4), .val (.int (3 : Int32)), .val (.int (3 : Int32)), .val (.double d5), .second] [])) _
    refine XS.aloadN X36.here hx rfl (hb hby d1_186) rfl rfl ?_
    show Steps p.tables e below (T36.setTop (mkF m 187 #[.val (.ref o0), .val (.double d1), .second, .val (.double d2), .second, .val (.double d3), .second, .val (.double d4), .second, .val (.double d5), .second, .val (.ref b4), .val (.ref b4), .val (.int (3 : Int32)), .val (.int (3 : Int32)), .val (.double d5), .second] [(.ref o0)])) _
    refine XS.dload X36.here hx rfl (hb hby d1_187) rfl ?_
    show Steps p.tables e below (T36.setTop (mkF m 189 #[.val (.ref o0), .val (.double d1), .second, .val (.double d2), .second, .val (.double d3), .second, .val (.double d4), .second, .val (.double d5), .second, .val (.ref b4), .val (.ref b4), .val (.int (3 : Int32)), .val (.int (3 : Int32)), .val (.double d5), .second] [(.double d5), (.ref o0)])) _
    refine st40 _ ?_
    exact k
  obtain ⟨fs, hr, hrun, hended, hW, hsame⟩ := X40.leave (v := none) (fun _ => rfl)
  refine ⟨_, _, c42 _ ?_, hrun, hended, _, _, rfl, ?_, ⟨_, rfl⟩, hW, hsame.mono (by decide) (by decide)⟩
  · show Steps p.tables e below (T40.setTop (mkF m 192 #[.val (.ref o0), .val (.double d1), .second, .val (.double d2), .second, .val (.double d3), .second, .val (.double d4), .second, .val (.double d5), .second, .val (.ref b4), .val (.ref b4), .val (.int (3 : Int32)), .val (.int (3 : Int32)), .val (.double d5), .second] [])) _
    exact X40.returnOut hx Bd.returns (hb hby d1_192) hr
  · show Q1_f Z o0 d1 d2 d3 d4 d5 u_maxDelaySeconds_o0 u_maxEnergyJoules_o0 u_delayWeight_o0 u_energyWeight_o0 u_cacheWeight_o0 z6 c11_z1 c11_z7 z33 c38_z1 c38_z7 z107 c113_z1 c113_z7 z107_2 c113_2_z1 c113_2_z7 z107_3 c113_3_z1 c113_3_z7 z143 z150 h0 n0 _ T40.heap _
    rw [e40]
    exact ⟨rfl, N40, K41, (f38.wr W40), ((((F24w.other W28 (Or.inr (slot_ne (Or.inr (hw _ (List.mem_of_getElem? (i := 25) rfl))) (Or.inr (hw _ (List.mem_of_getElem? (i := 27) rfl))) (by decide) (t := .double) (t' := .double) (by decide) (by decide)))).other W32 (Or.inr (slot_ne (Or.inr (hw _ (List.mem_of_getElem? (i := 25) rfl))) (Or.inr (hw _ (List.mem_of_getElem? (i := 29) rfl))) (by decide) (t := .double) (t' := .double) (by decide) (by decide)))).other W36 (Or.inr (slot_ne (Or.inr (hw _ (List.mem_of_getElem? (i := 25) rfl))) (Or.inr (hw _ (List.mem_of_getElem? (i := 31) rfl))) (by decide) (t := .double) (t' := .double) (by decide) (by decide)))).other W40 (Or.inr (slot_ne (Or.inr (hw _ (List.mem_of_getElem? (i := 25) rfl))) (Or.inr (hw _ (List.mem_of_getElem? (i := 33) rfl))) (by decide) (t := .double) (t' := .double) (by decide) (by decide)))), (((F28w.other W32 (Or.inr (slot_ne (Or.inr (hw _ (List.mem_of_getElem? (i := 27) rfl))) (Or.inr (hw _ (List.mem_of_getElem? (i := 29) rfl))) (by decide) (t := .double) (t' := .double) (by decide) (by decide)))).other W36 (Or.inr (slot_ne (Or.inr (hw _ (List.mem_of_getElem? (i := 27) rfl))) (Or.inr (hw _ (List.mem_of_getElem? (i := 31) rfl))) (by decide) (t := .double) (t' := .double) (by decide) (by decide)))).other W40 (Or.inr (slot_ne (Or.inr (hw _ (List.mem_of_getElem? (i := 27) rfl))) (Or.inr (hw _ (List.mem_of_getElem? (i := 33) rfl))) (by decide) (t := .double) (t' := .double) (by decide) (by decide)))), ((F32w.other W36 (Or.inr (slot_ne (Or.inr (hw _ (List.mem_of_getElem? (i := 29) rfl))) (Or.inr (hw _ (List.mem_of_getElem? (i := 31) rfl))) (by decide) (t := .double) (t' := .double) (by decide) (by decide)))).other W40 (Or.inr (slot_ne (Or.inr (hw _ (List.mem_of_getElem? (i := 29) rfl))) (Or.inr (hw _ (List.mem_of_getElem? (i := 33) rfl))) (by decide) (t := .double) (t' := .double) (by decide) (by decide)))), (F36w.other W40 (Or.inr (slot_ne (Or.inr (hw _ (List.mem_of_getElem? (i := 31) rfl))) (Or.inr (hw _ (List.mem_of_getElem? (i := 33) rfl))) (by decide) (t := .double) (t' := .double) (by decide) (by decide)))), F40w⟩
def Q6 (Z : State) (o0 : Addr) (d1 : UInt64) (d2 : UInt64) (d3 : UInt64) (w_delayWeight_o0 : UInt64) (w_maxDelaySeconds_o0 : UInt64) (w_energyWeight_o0 : UInt64) (w_maxEnergyJoules_o0 : UInt64) (w_cacheWeight_o0 : UInt64) (z5 : UInt64) (z10 : UInt64) (z16 : UInt64) (z21 : UInt64) (z22 : UInt64) (z29 : UInt64) (z30 : UInt64) (h0 : Heap) (n0 : Nat) (v : Option Value) (h : Heap) (L : List Loc) : Prop := v = some (.double z30) ∧ Fr n0 L ∧ h = h0
set_option maxRecDepth 65536 in
set_option maxHeartbeats 40000000 in
theorem rm6 (l : Launch) (Z : State) (a0 : Array Value) (hw : ∀ d ∈ tables_1, d.before a0 Z = true) (ws : List Jvm.Cond) (o0 : Addr) (d1 : UInt64) (d2 : UInt64) (d3 : UInt64) (w_delayWeight_o0 : UInt64) (w_maxDelaySeconds_o0 : UInt64) (w_energyWeight_o0 : UInt64) (w_maxEnergyJoules_o0 : UInt64) (w_cacheWeight_o0 : UInt64) (z5 : UInt64) (z10 : UInt64) (z16 : UInt64) (z21 : UInt64) (z22 : UInt64) (z29 : UInt64) (z30 : UInt64) (h0 : Heap) (n0 : Nat) (Z0 : n0 ≤ h0.size) (F_delayWeight_o0 : Fld Z h0 o0 "com/example/fleetwave/fleetwave/model/CacheCost" "delayWeight" "D" (.double w_delayWeight_o0)) (F_maxDelaySeconds_o0 : Fld Z h0 o0 "com/example/fleetwave/fleetwave/model/CacheCost" "maxDelaySeconds" "D" (.double w_maxDelaySeconds_o0)) (F_energyWeight_o0 : Fld Z h0 o0 "com/example/fleetwave/fleetwave/model/CacheCost" "energyWeight" "D" (.double w_energyWeight_o0)) (F_maxEnergyJoules_o0 : Fld Z h0 o0 "com/example/fleetwave/fleetwave/model/CacheCost" "maxEnergyJoules" "D" (.double w_maxEnergyJoules_o0)) (F_cacheWeight_o0 : Fld Z h0 o0 "com/example/fleetwave/fleetwave/model/CacheCost" "cacheWeight" "D" (.double w_cacheWeight_o0)) (hz5 : FP.dmul w_delayWeight_o0 d1 = z5) (hz10 : FP.ddiv z5 w_maxDelaySeconds_o0 = z10) (hz16 : FP.dmul w_energyWeight_o0 d2 = z16) (hz21 : FP.ddiv z16 w_maxEnergyJoules_o0 = z21) (hz22 : FP.dadd z10 z21 = z22) (hz29 : FP.dmul w_cacheWeight_o0 d3 = z29) (hz30 : FP.dadd z22 z29 = z30) (nn5 : Jvm.Free.Fl.NoNaN64 z5) (nn10 : Jvm.Free.Fl.NoNaN64 z10) (nn16 : Jvm.Free.Fl.NoNaN64 z16) (nn21 : Jvm.Free.Fl.NoNaN64 z21) (nn22 : Jvm.Free.Fl.NoNaN64 z22) (nn29 : Jvm.Free.Fl.NoNaN64 z29) (nn30 : Jvm.Free.Fl.NoNaN64 z30) :
    MetFree l (⟨"com/example/fleetwave/fleetwave/model/CacheCost", "of", "(DDD)D"⟩ : MethodName) (head1 (Jvm.Cond.code (⟨"com/example/fleetwave/fleetwave/model/CacheCost", "of", "(DDD)D"⟩ : MethodName) prog_31_method_2_code 7 (some .double) :: ws) ({ frames := 0, cells := 0, slots := 0, locals := 0 } : Room)) (fun a U => a = #[(.ref o0), (.double d1), (.double d2), (.double d3)] ∧ Z.Warmed39 U.vm ∧ U.heap = h0) (fun _ _ _ _ _ => True) (fun _ U o U' => ∃ v L, o = .returned v ∧ Q6 Z o0 d1 d2 d3 w_delayWeight_o0 w_maxDelaySeconds_o0 w_energyWeight_o0 w_maxEnergyJoules_o0 w_cacheWeight_o0 z5 z10 z16 z21 z22 z29 z30 h0 n0 v U'.heap L ∧ FrameEnd U o U' L ({ frames := 0, cells := 0, slots := 0, locals := 0 } : Room).cells ({ frames := 0, cells := 0, slots := 0, locals := 0 } : Room).slots) := by
  refine MetFree.of_bodySF (plainFor_of_name pn_2) hisR ?_
  intro p e s m args below meth c s₁ Bd hml0 hP hK
  obtain ⟨rfl, hZ, hh⟩ := hP
  have hx := Bd.exec
  have hby := Bd.bytes
  have hml : c.maxLocals = 7 := hml0
  have hown : s.vm.findClass "com/example/fleetwave/fleetwave/model/CacheCost" = some m.cls := findClass_of_methodNamed Bd.named
  have hnm := (name_of_methodNamed Bd.named Bd.method).1
  have X0 : Stand p l e ({ frames := 0, cells := 0, slots := 0, locals := 0 } : Room) s m #[(.ref o0), (.double d1), (.double d2), (.double d3)] below meth c s₁ [] 0 0 := Stand.of_body Bd
  have e0 : s₁.heap = h0 := by rw [← hh, Bd.state]; rfl
  have N0 := Fr.nil n0
  have c0 : ∀ t, Steps p.tables e below (s₁.setTop (mkF m 0 #[.val (.ref o0), .val (.double d1), .second, .val (.double d2), .second, .val (.double d3), .second] [])) t → Steps p.tables e below (s₁.setTop (entryFrame m #[(.ref o0), (.double d1), (.double d2), (.double d3)] 7)) t := fun t k => castTop (ef_rm6 m o0 d1 d2 d3) k
  obtain ⟨T1, X1, e1, st1⟩ := getF X0 hx hZ hown (host := "") (Or.inl (hw _ (List.mem_of_getElem? (i := 28) rfl))) Via.refl e0 F_delayWeight_o0 (g := (mkF m 1 #[.val (.ref o0), .val (.double d1), .second, .val (.double d2), .second, .val (.double d3), .second] [(.ref o0)])) rfl rfl (hb hby d6_1)
  obtain ⟨T2, X2, e2, st2⟩ := getF X1 hx hZ hown (host := "") (Or.inl (hw _ (List.mem_of_getElem? (i := 24) rfl))) Via.refl e1 F_maxDelaySeconds_o0 (g := (mkF m 7 #[.val (.ref o0), .val (.double d1), .second, .val (.double d2), .second, .val (.double d3), .second] [(.ref o0), (.double z5)])) rfl rfl (hb hby d6_7)
  obtain ⟨T3, X3, e3, st3⟩ := getF X2 hx hZ hown (host := "") (Or.inl (hw _ (List.mem_of_getElem? (i := 30) rfl))) Via.refl e2 F_energyWeight_o0 (g := (mkF m 12 #[.val (.ref o0), .val (.double d1), .second, .val (.double d2), .second, .val (.double d3), .second] [(.ref o0), (.double z10)])) rfl rfl (hb hby d6_12)
  obtain ⟨T4, X4, e4, st4⟩ := getF X3 hx hZ hown (host := "") (Or.inl (hw _ (List.mem_of_getElem? (i := 26) rfl))) Via.refl e3 F_maxEnergyJoules_o0 (g := (mkF m 18 #[.val (.ref o0), .val (.double d1), .second, .val (.double d2), .second, .val (.double d3), .second] [(.ref o0), (.double z16), (.double z10)])) rfl rfl (hb hby d6_18)
  obtain ⟨T5, X5, e5, st5⟩ := getF X4 hx hZ hown (host := "") (Or.inl (hw _ (List.mem_of_getElem? (i := 32) rfl))) Via.refl e4 F_cacheWeight_o0 (g := (mkF m 24 #[.val (.ref o0), .val (.double d1), .second, .val (.double d2), .second, .val (.double d3), .second] [(.ref o0), (.double z22)])) rfl rfl (hb hby d6_24)
  have c6 : ∀ t, Steps p.tables e below (T5.setTop (mkF m 31 #[.val (.ref o0), .val (.double d1), .second, .val (.double d2), .second, .val (.double d3), .second] [(.double z30)])) t → Steps p.tables e below (s₁.setTop (entryFrame m #[(.ref o0), (.double d1), (.double d2), (.double d3)] 7)) t := by
    intro t k
    refine c0 t ?_
    show Steps p.tables e below (s₁.setTop (mkF m 0 #[.val (.ref o0), .val (.double d1), .second, .val (.double d2), .second, .val (.double d3), .second] [])) _
    refine XS.aloadN X0.here hx rfl (hb hby d6_0) rfl rfl ?_
    show Steps p.tables e below (s₁.setTop (mkF m 1 #[.val (.ref o0), .val (.double d1), .second, .val (.double d2), .second, .val (.double d3), .second] [(.ref o0)])) _
    refine st1 _ ?_
    show Steps p.tables e below (T1.setTop (mkF m 4 #[.val (.ref o0), .val (.double d1), .second, .val (.double d2), .second, .val (.double d3), .second] [(.double w_delayWeight_o0)])) _
    refine XS.dloadN X1.here hx rfl (hb hby d6_4) rfl ?_
    show Steps p.tables e below (T1.setTop (mkF m 5 #[.val (.ref o0), .val (.double d1), .second, .val (.double d2), .second, .val (.double d3), .second] [(.double d1), (.double w_delayWeight_o0)])) _
    refine Jvm.OwnK.dmul X1.here hx rfl (hb hby d6_5) rfl hz5 nn5 ?_
    show Steps p.tables e below (T1.setTop (mkF m 6 #[.val (.ref o0), .val (.double d1), .second, .val (.double d2), .second, .val (.double d3), .second] [(.double z5)])) _
    refine XS.aloadN X1.here hx rfl (hb hby d6_6) rfl rfl ?_
    show Steps p.tables e below (T1.setTop (mkF m 7 #[.val (.ref o0), .val (.double d1), .second, .val (.double d2), .second, .val (.double d3), .second] [(.ref o0), (.double z5)])) _
    refine st2 _ ?_
    show Steps p.tables e below (T2.setTop (mkF m 10 #[.val (.ref o0), .val (.double d1), .second, .val (.double d2), .second, .val (.double d3), .second] [(.double w_maxDelaySeconds_o0), (.double z5)])) _
    refine Jvm.OwnK.ddiv X2.here hx rfl (hb hby d6_10) rfl hz10 nn10 ?_
    show Steps p.tables e below (T2.setTop (mkF m 11 #[.val (.ref o0), .val (.double d1), .second, .val (.double d2), .second, .val (.double d3), .second] [(.double z10)])) _
    refine XS.aloadN X2.here hx rfl (hb hby d6_11) rfl rfl ?_
    show Steps p.tables e below (T2.setTop (mkF m 12 #[.val (.ref o0), .val (.double d1), .second, .val (.double d2), .second, .val (.double d3), .second] [(.ref o0), (.double z10)])) _
    refine st3 _ ?_
    show Steps p.tables e below (T3.setTop (mkF m 15 #[.val (.ref o0), .val (.double d1), .second, .val (.double d2), .second, .val (.double d3), .second] [(.double w_energyWeight_o0), (.double z10)])) _
    refine XS.dloadN X3.here hx rfl (hb hby d6_15) rfl ?_
    show Steps p.tables e below (T3.setTop (mkF m 16 #[.val (.ref o0), .val (.double d1), .second, .val (.double d2), .second, .val (.double d3), .second] [(.double d2), (.double w_energyWeight_o0), (.double z10)])) _
    refine Jvm.OwnK.dmul X3.here hx rfl (hb hby d6_16) rfl hz16 nn16 ?_
    show Steps p.tables e below (T3.setTop (mkF m 17 #[.val (.ref o0), .val (.double d1), .second, .val (.double d2), .second, .val (.double d3), .second] [(.double z16), (.double z10)])) _
    refine XS.aloadN X3.here hx rfl (hb hby d6_17) rfl rfl ?_
    show Steps p.tables e below (T3.setTop (mkF m 18 #[.val (.ref o0), .val (.double d1), .second, .val (.double d2), .second, .val (.double d3), .second] [(.ref o0), (.double z16), (.double z10)])) _
    refine st4 _ ?_
    show Steps p.tables e below (T4.setTop (mkF m 21 #[.val (.ref o0), .val (.double d1), .second, .val (.double d2), .second, .val (.double d3), .second] [(.double w_maxEnergyJoules_o0), (.double z16), (.double z10)])) _
    refine Jvm.OwnK.ddiv X4.here hx rfl (hb hby d6_21) rfl hz21 nn21 ?_
    show Steps p.tables e below (T4.setTop (mkF m 22 #[.val (.ref o0), .val (.double d1), .second, .val (.double d2), .second, .val (.double d3), .second] [(.double z21), (.double z10)])) _
    refine Jvm.OwnK.dadd X4.here hx rfl (hb hby d6_22) rfl hz22 nn22 ?_
    show Steps p.tables e below (T4.setTop (mkF m 23 #[.val (.ref o0), .val (.double d1), .second, .val (.double d2), .second, .val (.double d3), .second] [(.double z22)])) _
    refine XS.aloadN X4.here hx rfl (hb hby d6_23) rfl rfl ?_
    show Steps p.tables e below (T4.setTop (mkF m 24 #[.val (.ref o0), .val (.double d1), .second, .val (.double d2), .second, .val (.double d3), .second] [(.ref o0), (.double z22)])) _
    refine st5 _ ?_
    show Steps p.tables e below (T5.setTop (mkF m 27 #[.val (.ref o0), .val (.double d1), .second, .val (.double d2), .second, .val (.double d3), .second] [(.double w_cacheWeight_o0), (.double z22)])) _
    refine XS.dload X5.here hx rfl (hb hby d6_27) rfl ?_
    show Steps p.tables e below (T5.setTop (mkF m 29 #[.val (.ref o0), .val (.double d1), .second, .val (.double d2), .second, .val (.double d3), .second] [(.double d3), (.double w_cacheWeight_o0), (.double z22)])) _
    refine Jvm.OwnK.dmul X5.here hx rfl (hb hby d6_29) rfl hz29 nn29 ?_
    show Steps p.tables e below (T5.setTop (mkF m 30 #[.val (.ref o0), .val (.double d1), .second, .val (.double d2), .second, .val (.double d3), .second] [(.double z29), (.double z22)])) _
    refine Jvm.OwnK.dadd X5.here hx rfl (hb hby d6_30) rfl hz30 nn30 ?_
    exact k
  obtain ⟨fs, hr, hrun, hended, hW, hsame⟩ := X5.leave (v := some (.double z30)) (fun h => by rw [Bd.returns] at h; cases h)
  refine ⟨_, _, c6 _ ?_, hrun, hended, _, _, rfl, ?_, ⟨_, rfl⟩, hW, hsame.mono (by decide) (by decide)⟩
  · show Steps p.tables e below (T5.setTop (mkF m 31 #[.val (.ref o0), .val (.double d1), .second, .val (.double d2), .second, .val (.double d3), .second] [(.double z30)])) _
    exact retOut X5 hx Bd.returns rfl (Or.inr (Or.inr (Or.inl ⟨rfl, rfl, _, rfl⟩))) (hb hby d6_31) hr
  · show Q6 Z o0 d1 d2 d3 w_delayWeight_o0 w_maxDelaySeconds_o0 w_energyWeight_o0 w_maxEnergyJoules_o0 w_cacheWeight_o0 z5 z10 z16 z21 z22 z29 z30 h0 n0 _ T5.heap _
    rw [e5]
    exact ⟨rfl, N0, rfl⟩
def Q0 (n0 : Nat) (v : Option Value) (h : Heap) (L : List Loc) : Prop := v = some (.int 1) ∧ Fr n0 L
set_option maxRecDepth 65536 in
set_option maxHeartbeats 40000000 in
theorem rm0 (l : Launch) (Z : State) (a0 : Array Value) (hw : ∀ d ∈ tables_1, d.before a0 Z = true) (ws : List Jvm.Cond) (p0 : Int32) (p1 : Int32) (p2 : Int32) (p3 : Int32) (p4 : Int32)  (h0 : Heap) (n0 : Nat) (Z0 : n0 ≤ h0.size)  :
    MetFree l x (head1 (Jvm.Cond.code x code maxLocals ret :: ws) room_1) (fun a U => a = #[(.int p0), (.int p1), (.int p2), (.int p3), (.int p4)] ∧ Z.Warmed39 U.vm ∧ U.heap = h0) (fun _ _ _ _ _ => True) (fun _ U o U' => ∃ v L, o = .returned v ∧ Q0 n0 v U'.heap L ∧ FrameEnd U o U' L room_1.cells room_1.slots) := by
  refine MetFree.of_bodySF (plainFor_of_name pn_3) hisR ?_
  intro p e s m args below meth c s₁ Bd hml0 hP hK
  obtain ⟨rfl, hZ, hh⟩ := hP
  have hx := Bd.exec
  have hby := Bd.bytes
  have hml : c.maxLocals = 31 := hml0
  have hown : s.vm.findClass "com/example/fleetwave/fleetwave/model/CacheCostOfPinLaw" = some m.cls := findClass_of_methodNamed Bd.named
  have hnm := (name_of_methodNamed Bd.named Bd.method).1
  have X0 : Stand p l e room_1 s m #[(.int p0), (.int p1), (.int p2), (.int p3), (.int p4)] below meth c s₁ [] 0 0 := Stand.of_body Bd
  have e0 : s₁.heap = h0 := by rw [← hh, Bd.state]; rfl
  have N0 := Fr.nil n0
  have c0 : ∀ t, Steps p.tables e below (s₁.setTop (mkF m 0 #[.val (.int p0), .val (.int p1), .val (.int p2), .val (.int p3), .val (.int p4), .unset, .unset, .unset, .unset, .unset, .unset, .unset, .unset, .unset, .unset, .unset, .unset, .unset, .unset, .unset, .unset, .unset, .unset, .unset, .unset, .unset, .unset, .unset, .unset, .unset, .unset] [])) t → Steps p.tables e below (s₁.setTop (entryFrame m #[(.int p0), (.int p1), (.int p2), (.int p3), (.int p4)] maxLocals)) t := fun t k => castTop (ef_rm0 m p0 p1 p2 p3 p4) k
  obtain ⟨z3, hz3⟩ : ∃ z : Int32, p0 >>> ((11 : Int32) &&& 31) = z := ⟨_, rfl⟩
  obtain ⟨z4, hz4⟩ : ∃ z : Int64, z3.toInt64 = z := ⟨_, rfl⟩
  obtain ⟨z10, hz10⟩ : ∃ z : Int32, p1 >>> ((11 : Int32) &&& 31) = z := ⟨_, rfl⟩
  obtain ⟨z11, hz11⟩ : ∃ z : Int64, z10.toInt64 = z := ⟨_, rfl⟩
  obtain ⟨z17, hz17⟩ : ∃ z : Int32, p2 >>> ((11 : Int32) &&& 31) = z := ⟨_, rfl⟩
  obtain ⟨z18, hz18⟩ : ∃ z : Int64, z17.toInt64 = z := ⟨_, rfl⟩
  obtain ⟨z25, hz25⟩ : ∃ z : Int32, p3 &&& (255 : Int32) = z := ⟨_, rfl⟩
  obtain ⟨z26, hz26⟩ : ∃ z : Int64, z25.toInt64 = z := ⟨_, rfl⟩
  obtain ⟨z32, hz32⟩ : ∃ z : Int32, (p3.toUInt32 >>> ((8 : Int32) &&& 31).toUInt32).toInt32 = z := ⟨_, rfl⟩
  obtain ⟨z36, hz36⟩ : ∃ z : Int32, z32 &&& (255 : Int32) = z := ⟨_, rfl⟩
  obtain ⟨z37, hz37⟩ : ∃ z : Int64, z36.toInt64 = z := ⟨_, rfl⟩
  obtain ⟨z43, hz43⟩ : ∃ z : Int32, (p3.toUInt32 >>> ((16 : Int32) &&& 31).toUInt32).toInt32 = z := ⟨_, rfl⟩
  obtain ⟨z47, hz47⟩ : ∃ z : Int32, z43 &&& (255 : Int32) = z := ⟨_, rfl⟩
  obtain ⟨z48, hz48⟩ : ∃ z : Int64, z47.toInt64 = z := ⟨_, rfl⟩
  obtain ⟨z54, hz54⟩ : ∃ z : Int32, lcmpW z26 (0 : Int64) = z := ⟨_, rfl⟩
  have c1 : ∀ t, Steps p.tables e below (s₁.setTop (mkF m 55 #[.val (.int p0), .val (.int p1), .val (.int p2), .val (.int p3), .val (.int p4), .val (.long z4), .second, .val (.long z11), .second, .val (.long z18), .second, .val (.long z26), .second, .val (.long z37), .second, .val (.long z48), .second, .unset, .unset, .unset, .unset, .unset, .unset, .unset, .unset, .unset, .unset, .unset, .unset, .unset, .unset] [(.int z54)])) t → Steps p.tables e below (s₁.setTop (entryFrame m #[(.int p0), (.int p1), (.int p2), (.int p3), (.int p4)] maxLocals)) t := by
    intro t k
    refine c0 t ?_
    show Steps p.tables e below (s₁.setTop (mkF m 0 #[.val (.int p0), .val (.int p1), .val (.int p2), .val (.int p3), .val (.int p4), .unset, .unset, .unset, .unset, .unset, .unset, .unset, .unset, .unset, .unset, .unset, .unset, .unset, .unset, .unset, .unset, .unset, .unset, .unset, .unset, .unset, .unset, .unset, .unset, .unset, .unset] [])) _
    refine XS.iloadN X0.here hx rfl (hb hby at_0) rfl ?_
    show Steps p.tables e below (s₁.setTop (mkF m 1 #[.val (.int p0), .val (.int p1), .val (.int p2), .val (.int p3), .val (.int p4), .unset, .unset, .unset, .unset, .unset, .unset, .unset, .unset, .unset, .unset, .unset, .unset, .unset, .unset, .unset, .unset, .unset, .unset, .unset, .unset, .unset, .unset, .unset, .unset, .unset, .unset] [(.int p0)])) _
    refine XS.bipush X0.here hx rfl (hb hby at_1) ?_
    show Steps p.tables e below (s₁.setTop (mkF m 3 #[.val (.int p0), .val (.int p1), .val (.int p2), .val (.int p3), .val (.int p4), .unset, .unset, .unset, .unset, .unset, .unset, .unset, .unset, .unset, .unset, .unset, .unset, .unset, .unset, .unset, .unset, .unset, .unset, .unset, .unset, .unset, .unset, .unset, .unset, .unset, .unset] [(.int (11 : Int32)), (.int p0)])) _
    refine Jvm.OwnK.ishr X0.here hx rfl (hb hby at_3) rfl hz3 ?_
    show Steps p.tables e below (s₁.setTop (mkF m 4 #[.val (.int p0), .val (.int p1), .val (.int p2), .val (.int p3), .val (.int p4), .unset, .unset, .unset, .unset, .unset, .unset, .unset, .unset, .unset, .unset, .unset, .unset, .unset, .unset, .unset, .unset, .unset, .unset, .unset, .unset, .unset, .unset, .unset, .unset, .unset, .unset] [(.int z3)])) _
    refine Jvm.OwnK.i2l X0.here hx rfl (hb hby at_4) rfl hz4 ?_
    show Steps p.tables e below (s₁.setTop (mkF m 5 #[.val (.int p0), .val (.int p1), .val (.int p2), .val (.int p3), .val (.int p4), .unset, .unset, .unset, .unset, .unset, .unset, .unset, .unset, .unset, .unset, .unset, .unset, .unset, .unset, .unset, .unset, .unset, .unset, .unset, .unset, .unset, .unset, .unset, .unset, .unset, .unset] [(.long z4)])) _
    refine XS.lstore X0.here hx rfl (hb hby at_5) rfl (l' := #[.val (.int p0), .val (.int p1), .val (.int p2), .val (.int p3), .val (.int p4), .val (.long z4), .second, .unset, .unset, .unset, .unset, .unset, .unset, .unset, .unset, .unset, .unset, .unset, .unset, .unset, .unset, .unset, .unset, .unset, .unset, .unset, .unset, .unset, .unset, .unset, .unset]) rfl ?_
    show Steps p.tables e below (s₁.setTop (mkF m 7 #[.val (.int p0), .val (.int p1), .val (.int p2), .val (.int p3), .val (.int p4), .val (.long z4), .second, .unset, .unset, .unset, .unset, .unset, .unset, .unset, .unset, .unset, .unset, .unset, .unset, .unset, .unset, .unset, .unset, .unset, .unset, .unset, .unset, .unset, .unset, .unset, .unset] [])) _
    refine XS.iloadN X0.here hx rfl (hb hby at_7) rfl ?_
    show Steps p.tables e below (s₁.setTop (mkF m 8 #[.val (.int p0), .val (.int p1), .val (.int p2), .val (.int p3), .val (.int p4), .val (.long z4), .second, .unset, .unset, .unset, .unset, .unset, .unset, .unset, .unset, .unset, .unset, .unset, .unset, .unset, .unset, .unset, .unset, .unset, .unset, .unset, .unset, .unset, .unset, .unset, .unset] [(.int p1)])) _
    refine XS.bipush X0.here hx rfl (hb hby at_8) ?_
    show Steps p.tables e below (s₁.setTop (mkF m 10 #[.val (.int p0), .val (.int p1), .val (.int p2), .val (.int p3), .val (.int p4), .val (.long z4), .second, .unset, .unset, .unset, .unset, .unset, .unset, .unset, .unset, .unset, .unset, .unset, .unset, .unset, .unset, .unset, .unset, .unset, .unset, .unset, .unset, .unset, .unset, .unset, .unset] [(.int (11 : Int32)), (.int p1)])) _
    refine Jvm.OwnK.ishr X0.here hx rfl (hb hby at_10) rfl hz10 ?_
    show Steps p.tables e below (s₁.setTop (mkF m 11 #[.val (.int p0), .val (.int p1), .val (.int p2), .val (.int p3), .val (.int p4), .val (.long z4), .second, .unset, .unset, .unset, .unset, .unset, .unset, .unset, .unset, .unset, .unset, .unset, .unset, .unset, .unset, .unset, .unset, .unset, .unset, .unset, .unset, .unset, .unset, .unset, .unset] [(.int z10)])) _
    refine Jvm.OwnK.i2l X0.here hx rfl (hb hby at_11) rfl hz11 ?_
    show Steps p.tables e below (s₁.setTop (mkF m 12 #[.val (.int p0), .val (.int p1), .val (.int p2), .val (.int p3), .val (.int p4), .val (.long z4), .second, .unset, .unset, .unset, .unset, .unset, .unset, .unset, .unset, .unset, .unset, .unset, .unset, .unset, .unset, .unset, .unset, .unset, .unset, .unset, .unset, .unset, .unset, .unset, .unset] [(.long z11)])) _
    refine XS.lstore X0.here hx rfl (hb hby at_12) rfl (l' := #[.val (.int p0), .val (.int p1), .val (.int p2), .val (.int p3), .val (.int p4), .val (.long z4), .second, .val (.long z11), .second, .unset, .unset, .unset, .unset, .unset, .unset, .unset, .unset, .unset, .unset, .unset, .unset, .unset, .unset, .unset, .unset, .unset, .unset, .unset, .unset, .unset, .unset]) rfl ?_
    show Steps p.tables e below (s₁.setTop (mkF m 14 #[.val (.int p0), .val (.int p1), .val (.int p2), .val (.int p3), .val (.int p4), .val (.long z4), .second, .val (.long z11), .second, .unset, .unset, .unset, .unset, .unset, .unset, .unset, .unset, .unset, .unset, .unset, .unset, .unset, .unset, .unset, .unset, .unset, .unset, .unset, .unset, .unset, .unset] [])) _
    refine XS.iloadN X0.here hx rfl (hb hby at_14) rfl ?_
    show Steps p.tables e below (s₁.setTop (mkF m 15 #[.val (.int p0), .val (.int p1), .val (.int p2), .val (.int p3), .val (.int p4), .val (.long z4), .second, .val (.long z11), .second, .unset, .unset, .unset, .unset, .unset, .unset, .unset, .unset, .unset, .unset, .unset, .unset, .unset, .unset, .unset, .unset, .unset, .unset, .unset, .unset, .unset, .unset] [(.int p2)])) _
    refine XS.bipush X0.here hx rfl (hb hby at_15) ?_
    show Steps p.tables e below (s₁.setTop (mkF m 17 #[.val (.int p0), .val (.int p1), .val (.int p2), .val (.int p3), .val (.int p4), .val (.long z4), .second, .val (.long z11), .second, .unset, .unset, .unset, .unset, .unset, .unset, .unset, .unset, .unset, .unset, .unset, .unset, .unset, .unset, .unset, .unset, .unset, .unset, .unset, .unset, .unset, .unset] [(.int (11 : Int32)), (.int p2)])) _
    refine Jvm.OwnK.ishr X0.here hx rfl (hb hby at_17) rfl hz17 ?_
    show Steps p.tables e below (s₁.setTop (mkF m 18 #[.val (.int p0), .val (.int p1), .val (.int p2), .val (.int p3), .val (.int p4), .val (.long z4), .second, .val (.long z11), .second, .unset, .unset, .unset, .unset, .unset, .unset, .unset, .unset, .unset, .unset, .unset, .unset, .unset, .unset, .unset, .unset, .unset, .unset, .unset, .unset, .unset, .unset] [(.int z17)])) _
    refine Jvm.OwnK.i2l X0.here hx rfl (hb hby at_18) rfl hz18 ?_
    show Steps p.tables e below (s₁.setTop (mkF m 19 #[.val (.int p0), .val (.int p1), .val (.int p2), .val (.int p3), .val (.int p4), .val (.long z4), .second, .val (.long z11), .second, .unset, .unset, .unset, .unset, .unset, .unset, .unset, .unset, .unset, .unset, .unset, .unset, .unset, .unset, .unset, .unset, .unset, .unset, .unset, .unset, .unset, .unset] [(.long z18)])) _
    refine XS.lstore X0.here hx rfl (hb hby at_19) rfl (l' := #[.val (.int p0), .val (.int p1), .val (.int p2), .val (.int p3), .val (.int p4), .val (.long z4), .second, .val (.long z11), .second, .val (.long z18), .second, .unset, .unset, .unset, .unset, .unset, .unset, .unset, .unset, .unset, .unset, .unset, .unset, .unset, .unset, .unset, .unset, .unset, .unset, .unset, .unset]) rfl ?_
    show Steps p.tables e below (s₁.setTop (mkF m 21 #[.val (.int p0), .val (.int p1), .val (.int p2), .val (.int p3), .val (.int p4), .val (.long z4), .second, .val (.long z11), .second, .val (.long z18), .second, .unset, .unset, .unset, .unset, .unset, .unset, .unset, .unset, .unset, .unset, .unset, .unset, .unset, .unset, .unset, .unset, .unset, .unset, .unset, .unset] [])) _
    refine XS.iloadN X0.here hx rfl (hb hby at_21) rfl ?_
    show Steps p.tables e below (s₁.setTop (mkF m 22 #[.val (.int p0), .val (.int p1), .val (.int p2), .val (.int p3), .val (.int p4), .val (.long z4), .second, .val (.long z11), .second, .val (.long z18), .second, .unset, .unset, .unset, .unset, .unset, .unset, .unset, .unset, .unset, .unset, .unset, .unset, .unset, .unset, .unset, .unset, .unset, .unset, .unset, .unset] [(.int p3)])) _
    refine XS.sipush X0.here hx rfl (hb hby at_22) ?_
    show Steps p.tables e below (s₁.setTop (mkF m 25 #[.val (.int p0), .val (.int p1), .val (.int p2), .val (.int p3), .val (.int p4), .val (.long z4), .second, .val (.long z11), .second, .val (.long z18), .second, .unset, .unset, .unset, .unset, .unset, .unset, .unset, .unset, .unset, .unset, .unset, .unset, .unset, .unset, .unset, .unset, .unset, .unset, .unset, .unset] [(.int (255 : Int32)), (.int p3)])) _
    refine Jvm.OwnK.iand X0.here hx rfl (hb hby at_25) rfl hz25 ?_
    show Steps p.tables e below (s₁.setTop (mkF m 26 #[.val (.int p0), .val (.int p1), .val (.int p2), .val (.int p3), .val (.int p4), .val (.long z4), .second, .val (.long z11), .second, .val (.long z18), .second, .unset, .unset, .unset, .unset, .unset, .unset, .unset, .unset, .unset, .unset, .unset, .unset, .unset, .unset, .unset, .unset, .unset, .unset, .unset, .unset] [(.int z25)])) _
    refine Jvm.OwnK.i2l X0.here hx rfl (hb hby at_26) rfl hz26 ?_
    show Steps p.tables e below (s₁.setTop (mkF m 27 #[.val (.int p0), .val (.int p1), .val (.int p2), .val (.int p3), .val (.int p4), .val (.long z4), .second, .val (.long z11), .second, .val (.long z18), .second, .unset, .unset, .unset, .unset, .unset, .unset, .unset, .unset, .unset, .unset, .unset, .unset, .unset, .unset, .unset, .unset, .unset, .unset, .unset, .unset] [(.long z26)])) _
    refine XS.lstore X0.here hx rfl (hb hby at_27) rfl (l' := #[.val (.int p0), .val (.int p1), .val (.int p2), .val (.int p3), .val (.int p4), .val (.long z4), .second, .val (.long z11), .second, .val (.long z18), .second, .val (.long z26), .second, .unset, .unset, .unset, .unset, .unset, .unset, .unset, .unset, .unset, .unset, .unset, .unset, .unset, .unset, .unset, .unset, .unset, .unset]) rfl ?_
    show Steps p.tables e below (s₁.setTop (mkF m 29 #[.val (.int p0), .val (.int p1), .val (.int p2), .val (.int p3), .val (.int p4), .val (.long z4), .second, .val (.long z11), .second, .val (.long z18), .second, .val (.long z26), .second, .unset, .unset, .unset, .unset, .unset, .unset, .unset, .unset, .unset, .unset, .unset, .unset, .unset, .unset, .unset, .unset, .unset, .unset] [])) _
    refine XS.iloadN X0.here hx rfl (hb hby at_29) rfl ?_
    show Steps p.tables e below (s₁.setTop (mkF m 30 #[.val (.int p0), .val (.int p1), .val (.int p2), .val (.int p3), .val (.int p4), .val (.long z4), .second, .val (.long z11), .second, .val (.long z18), .second, .val (.long z26), .second, .unset, .unset, .unset, .unset, .unset, .unset, .unset, .unset, .unset, .unset, .unset, .unset, .unset, .unset, .unset, .unset, .unset, .unset] [(.int p3)])) _
    refine XS.bipush X0.here hx rfl (hb hby at_30) ?_
    show Steps p.tables e below (s₁.setTop (mkF m 32 #[.val (.int p0), .val (.int p1), .val (.int p2), .val (.int p3), .val (.int p4), .val (.long z4), .second, .val (.long z11), .second, .val (.long z18), .second, .val (.long z26), .second, .unset, .unset, .unset, .unset, .unset, .unset, .unset, .unset, .unset, .unset, .unset, .unset, .unset, .unset, .unset, .unset, .unset, .unset] [(.int (8 : Int32)), (.int p3)])) _
    refine Jvm.OwnK.iushr X0.here hx rfl (hb hby at_32) rfl hz32 ?_
    show Steps p.tables e below (s₁.setTop (mkF m 33 #[.val (.int p0), .val (.int p1), .val (.int p2), .val (.int p3), .val (.int p4), .val (.long z4), .second, .val (.long z11), .second, .val (.long z18), .second, .val (.long z26), .second, .unset, .unset, .unset, .unset, .unset, .unset, .unset, .unset, .unset, .unset, .unset, .unset, .unset, .unset, .unset, .unset, .unset, .unset] [(.int z32)])) _
    refine XS.sipush X0.here hx rfl (hb hby at_33) ?_
    show Steps p.tables e below (s₁.setTop (mkF m 36 #[.val (.int p0), .val (.int p1), .val (.int p2), .val (.int p3), .val (.int p4), .val (.long z4), .second, .val (.long z11), .second, .val (.long z18), .second, .val (.long z26), .second, .unset, .unset, .unset, .unset, .unset, .unset, .unset, .unset, .unset, .unset, .unset, .unset, .unset, .unset, .unset, .unset, .unset, .unset] [(.int (255 : Int32)), (.int z32)])) _
    refine Jvm.OwnK.iand X0.here hx rfl (hb hby at_36) rfl hz36 ?_
    show Steps p.tables e below (s₁.setTop (mkF m 37 #[.val (.int p0), .val (.int p1), .val (.int p2), .val (.int p3), .val (.int p4), .val (.long z4), .second, .val (.long z11), .second, .val (.long z18), .second, .val (.long z26), .second, .unset, .unset, .unset, .unset, .unset, .unset, .unset, .unset, .unset, .unset, .unset, .unset, .unset, .unset, .unset, .unset, .unset, .unset] [(.int z36)])) _
    refine Jvm.OwnK.i2l X0.here hx rfl (hb hby at_37) rfl hz37 ?_
    show Steps p.tables e below (s₁.setTop (mkF m 38 #[.val (.int p0), .val (.int p1), .val (.int p2), .val (.int p3), .val (.int p4), .val (.long z4), .second, .val (.long z11), .second, .val (.long z18), .second, .val (.long z26), .second, .unset, .unset, .unset, .unset, .unset, .unset, .unset, .unset, .unset, .unset, .unset, .unset, .unset, .unset, .unset, .unset, .unset, .unset] [(.long z37)])) _
    refine XS.lstore X0.here hx rfl (hb hby at_38) rfl (l' := #[.val (.int p0), .val (.int p1), .val (.int p2), .val (.int p3), .val (.int p4), .val (.long z4), .second, .val (.long z11), .second, .val (.long z18), .second, .val (.long z26), .second, .val (.long z37), .second, .unset, .unset, .unset, .unset, .unset, .unset, .unset, .unset, .unset, .unset, .unset, .unset, .unset, .unset, .unset, .unset]) rfl ?_
    show Steps p.tables e below (s₁.setTop (mkF m 40 #[.val (.int p0), .val (.int p1), .val (.int p2), .val (.int p3), .val (.int p4), .val (.long z4), .second, .val (.long z11), .second, .val (.long z18), .second, .val (.long z26), .second, .val (.long z37), .second, .unset, .unset, .unset, .unset, .unset, .unset, .unset, .unset, .unset, .unset, .unset, .unset, .unset, .unset, .unset, .unset] [])) _
    refine XS.iloadN X0.here hx rfl (hb hby at_40) rfl ?_
    show Steps p.tables e below (s₁.setTop (mkF m 41 #[.val (.int p0), .val (.int p1), .val (.int p2), .val (.int p3), .val (.int p4), .val (.long z4), .second, .val (.long z11), .second, .val (.long z18), .second, .val (.long z26), .second, .val (.long z37), .second, .unset, .unset, .unset, .unset, .unset, .unset, .unset, .unset, .unset, .unset, .unset, .unset, .unset, .unset, .unset, .unset] [(.int p3)])) _
    refine XS.bipush X0.here hx rfl (hb hby at_41) ?_
    show Steps p.tables e below (s₁.setTop (mkF m 43 #[.val (.int p0), .val (.int p1), .val (.int p2), .val (.int p3), .val (.int p4), .val (.long z4), .second, .val (.long z11), .second, .val (.long z18), .second, .val (.long z26), .second, .val (.long z37), .second, .unset, .unset, .unset, .unset, .unset, .unset, .unset, .unset, .unset, .unset, .unset, .unset, .unset, .unset, .unset, .unset] [(.int (16 : Int32)), (.int p3)])) _
    refine Jvm.OwnK.iushr X0.here hx rfl (hb hby at_43) rfl hz43 ?_
    show Steps p.tables e below (s₁.setTop (mkF m 44 #[.val (.int p0), .val (.int p1), .val (.int p2), .val (.int p3), .val (.int p4), .val (.long z4), .second, .val (.long z11), .second, .val (.long z18), .second, .val (.long z26), .second, .val (.long z37), .second, .unset, .unset, .unset, .unset, .unset, .unset, .unset, .unset, .unset, .unset, .unset, .unset, .unset, .unset, .unset, .unset] [(.int z43)])) _
    refine XS.sipush X0.here hx rfl (hb hby at_44) ?_
    show Steps p.tables e below (s₁.setTop (mkF m 47 #[.val (.int p0), .val (.int p1), .val (.int p2), .val (.int p3), .val (.int p4), .val (.long z4), .second, .val (.long z11), .second, .val (.long z18), .second, .val (.long z26), .second, .val (.long z37), .second, .unset, .unset, .unset, .unset, .unset, .unset, .unset, .unset, .unset, .unset, .unset, .unset, .unset, .unset, .unset, .unset] [(.int (255 : Int32)), (.int z43)])) _
    refine Jvm.OwnK.iand X0.here hx rfl (hb hby at_47) rfl hz47 ?_
    show Steps p.tables e below (s₁.setTop (mkF m 48 #[.val (.int p0), .val (.int p1), .val (.int p2), .val (.int p3), .val (.int p4), .val (.long z4), .second, .val (.long z11), .second, .val (.long z18), .second, .val (.long z26), .second, .val (.long z37), .second, .unset, .unset, .unset, .unset, .unset, .unset, .unset, .unset, .unset, .unset, .unset, .unset, .unset, .unset, .unset, .unset] [(.int z47)])) _
    refine Jvm.OwnK.i2l X0.here hx rfl (hb hby at_48) rfl hz48 ?_
    show Steps p.tables e below (s₁.setTop (mkF m 49 #[.val (.int p0), .val (.int p1), .val (.int p2), .val (.int p3), .val (.int p4), .val (.long z4), .second, .val (.long z11), .second, .val (.long z18), .second, .val (.long z26), .second, .val (.long z37), .second, .unset, .unset, .unset, .unset, .unset, .unset, .unset, .unset, .unset, .unset, .unset, .unset, .unset, .unset, .unset, .unset] [(.long z48)])) _
    refine XS.lstore X0.here hx rfl (hb hby at_49) rfl (l' := #[.val (.int p0), .val (.int p1), .val (.int p2), .val (.int p3), .val (.int p4), .val (.long z4), .second, .val (.long z11), .second, .val (.long z18), .second, .val (.long z26), .second, .val (.long z37), .second, .val (.long z48), .second, .unset, .unset, .unset, .unset, .unset, .unset, .unset, .unset, .unset, .unset, .unset, .unset, .unset, .unset]) rfl ?_
    show Steps p.tables e below (s₁.setTop (mkF m 51 #[.val (.int p0), .val (.int p1), .val (.int p2), .val (.int p3), .val (.int p4), .val (.long z4), .second, .val (.long z11), .second, .val (.long z18), .second, .val (.long z26), .second, .val (.long z37), .second, .val (.long z48), .second, .unset, .unset, .unset, .unset, .unset, .unset, .unset, .unset, .unset, .unset, .unset, .unset, .unset, .unset] [])) _
    refine XS.lload X0.here hx rfl (hb hby at_51) rfl ?_
    show Steps p.tables e below (s₁.setTop (mkF m 53 #[.val (.int p0), .val (.int p1), .val (.int p2), .val (.int p3), .val (.int p4), .val (.long z4), .second, .val (.long z11), .second, .val (.long z18), .second, .val (.long z26), .second, .val (.long z37), .second, .val (.long z48), .second, .unset, .unset, .unset, .unset, .unset, .unset, .unset, .unset, .unset, .unset, .unset, .unset, .unset, .unset] [(.long z26)])) _
    refine XS.lconst X0.here hx rfl (hb hby at_53) ?_
    show Steps p.tables e below (s₁.setTop (mkF m 54 #[.val (.int p0), .val (.int p1), .val (.int p2), .val (.int p3), .val (.int p4), .val (.long z4), .second, .val (.long z11), .second, .val (.long z18), .second, .val (.long z26), .second, .val (.long z37), .second, .val (.long z48), .second, .unset, .unset, .unset, .unset, .unset, .unset, .unset, .unset, .unset, .unset, .unset, .unset, .unset, .unset] [(.long (0 : Int64)), (.long z26)])) _
    refine Jvm.OwnK.lcmp X0.here hx rfl (hb hby at_54) rfl hz54 ?_
    exact k
  by_cases hb55 : z54 = (0 : Int32)
  · skip
    obtain ⟨z61, hz61⟩ : ∃ z : Int32, lcmpW z37 (0 : Int64) = z := ⟨_, rfl⟩
    have c2 : ∀ t, Steps p.tables e below (s₁.setTop (mkF m 62 #[.val (.int p0), .val (.int p1), .val (.int p2), .val (.int p3), .val (.int p4), .val (.long z4), .second, .val (.long z11), .second, .val (.long z18), .second, .val (.long z26), .second, .val (.long z37), .second, .val (.long z48), .second, .unset, .unset, .unset, .unset, .unset, .unset, .unset, .unset, .unset, .unset, .unset, .unset, .unset, .unset] [(.int z61)])) t → Steps p.tables e below (s₁.setTop (entryFrame m #[(.int p0), (.int p1), (.int p2), (.int p3), (.int p4)] maxLocals)) t := by
      intro t k
      refine c1 t ?_
      show Steps p.tables e below (s₁.setTop (mkF m 55 #[.val (.int p0), .val (.int p1), .val (.int p2), .val (.int p3), .val (.int p4), .val (.long z4), .second, .val (.long z11), .second, .val (.long z18), .second, .val (.long z26), .second, .val (.long z37), .second, .val (.long z48), .second, .unset, .unset, .unset, .unset, .unset, .unset, .unset, .unset, .unset, .unset, .unset, .unset, .unset, .unset] [(.int z54)])) _
      refine XS.ifNo X0.here hx rfl (hb hby at_55) rfl (Jvm.Free.XT.i0_ne_f hb55) ?_
      show Steps p.tables e below (s₁.setTop (mkF m 58 #[.val (.int p0), .val (.int p1), .val (.int p2), .val (.int p3), .val (.int p4), .val (.long z4), .second, .val (.long z11), .second, .val (.long z18), .second, .val (.long z26), .second, .val (.long z37), .second, .val (.long z48), .second, .unset, .unset, .unset, .unset, .unset, .unset, .unset, .unset, .unset, .unset, .unset, .unset, .unset, .unset] [])) _
      refine XS.lload X0.here hx rfl (hb hby at_58) rfl ?_
      show Steps p.tables e below (s₁.setTop (mkF m 60 #[.val (.int p0), .val (.int p1), .val (.int p2), .val (.int p3), .val (.int p4), .val (.long z4), .second, .val (.long z11), .second, .val (.long z18), .second, .val (.long z26), .second, .val (.long z37), .second, .val (.long z48), .second, .unset, .unset, .unset, .unset, .unset, .unset, .unset, .unset, .unset, .unset, .unset, .unset, .unset, .unset] [(.long z37)])) _
      refine XS.lconst X0.here hx rfl (hb hby at_60) ?_
      show Steps p.tables e below (s₁.setTop (mkF m 61 #[.val (.int p0), .val (.int p1), .val (.int p2), .val (.int p3), .val (.int p4), .val (.long z4), .second, .val (.long z11), .second, .val (.long z18), .second, .val (.long z26), .second, .val (.long z37), .second, .val (.long z48), .second, .unset, .unset, .unset, .unset, .unset, .unset, .unset, .unset, .unset, .unset, .unset, .unset, .unset, .unset] [(.long (0 : Int64)), (.long z37)])) _
      refine Jvm.OwnK.lcmp X0.here hx rfl (hb hby at_61) rfl hz61 ?_
      exact k
    by_cases hb62 : z61 = (0 : Int32)
    · skip
      obtain ⟨z72, hz72⟩ : ∃ z : Int32, p4 &&& (7 : Int32) = z := ⟨_, rfl⟩
      obtain ⟨z78, hz78⟩ : ∃ z : Int32, (p4.toUInt32 >>> ((3 : Int32) &&& 31).toUInt32).toInt32 = z := ⟨_, rfl⟩
      obtain ⟨z81, hz81⟩ : ∃ z : Int32, z78 &&& (7 : Int32) = z := ⟨_, rfl⟩
      obtain ⟨z88, hz88⟩ : ∃ z : Int32, (p4.toUInt32 >>> ((6 : Int32) &&& 31).toUInt32).toInt32 = z := ⟨_, rfl⟩
      obtain ⟨z91, hz91⟩ : ∃ z : Int32, z88 &&& (7 : Int32) = z := ⟨_, rfl⟩
      obtain ⟨z97, hz97⟩ : ∃ z : Int64, (1 : Int64) <<< (z72 &&& 0x3f).toInt64 = z := ⟨_, rfl⟩
      obtain ⟨z98, hz98⟩ : ∃ z : UInt64, FP.l2d z97 = z := ⟨_, rfl⟩
      obtain ⟨z104, hz104⟩ : ∃ z : Int64, (1 : Int64) <<< (z81 &&& 0x3f).toInt64 = z := ⟨_, rfl⟩
      obtain ⟨z105, hz105⟩ : ∃ z : UInt64, FP.l2d z104 = z := ⟨_, rfl⟩
      obtain ⟨z118, hz118⟩ : ∃ z : UInt64, FP.l2d (1 : Int64) = z := ⟨_, rfl⟩
      obtain ⟨z121, hz121⟩ : ∃ z : UInt64, FP.l2d z37 = z := ⟨_, rfl⟩
      obtain ⟨z124, hz124⟩ : ∃ z : UInt64, FP.l2d z48 = z := ⟨_, rfl⟩
      obtain ⟨c125_z6, hc125_z6⟩ : ∃ z : Int32, cmpValue (FP.dcmp z98 FP.dconst0) .l = z := ⟨_, rfl⟩
      obtain ⟨c125_c11_z1, hc125_c11_z1⟩ : ∃ z : UInt64, z98 &&& 0x7fffffffffffffff = z := ⟨_, rfl⟩
      obtain ⟨c125_c11_z7, hc125_c11_z7⟩ : ∃ z : Int32, cmpValue (FP.dcmp c125_c11_z1 (9218868437227405311 : UInt64)) .l = z := ⟨_, rfl⟩
      obtain ⟨c125_z33, hc125_z33⟩ : ∃ z : Int32, cmpValue (FP.dcmp z105 FP.dconst0) .l = z := ⟨_, rfl⟩
      obtain ⟨c125_c38_z1, hc125_c38_z1⟩ : ∃ z : UInt64, z105 &&& 0x7fffffffffffffff = z := ⟨_, rfl⟩
      obtain ⟨c125_c38_z7, hc125_c38_z7⟩ : ∃ z : Int32, cmpValue (FP.dcmp c125_c38_z1 (9218868437227405311 : UInt64)) .l = z := ⟨_, rfl⟩
      obtain ⟨c125_z107, hc125_z107⟩ : ∃ z : Int32, cmpValue (FP.dcmp z118 FP.dconst0) .l = z := ⟨_, rfl⟩
      obtain ⟨c125_c113_z1, hc125_c113_z1⟩ : ∃ z : UInt64, z118 &&& 0x7fffffffffffffff = z := ⟨_, rfl⟩
      obtain ⟨c125_c113_z7, hc125_c113_z7⟩ : ∃ z : Int32, cmpValue (FP.dcmp c125_c113_z1 (9218868437227405311 : UInt64)) .l = z := ⟨_, rfl⟩
      obtain ⟨c125_z107_2, hc125_z107_2⟩ : ∃ z : Int32, cmpValue (FP.dcmp z121 FP.dconst0) .l = z := ⟨_, rfl⟩
      obtain ⟨c125_c113_2_z1, hc125_c113_2_z1⟩ : ∃ z : UInt64, z121 &&& 0x7fffffffffffffff = z := ⟨_, rfl⟩
      obtain ⟨c125_c113_2_z7, hc125_c113_2_z7⟩ : ∃ z : Int32, cmpValue (FP.dcmp c125_c113_2_z1 (9218868437227405311 : UInt64)) .l = z := ⟨_, rfl⟩
      obtain ⟨c125_z107_3, hc125_z107_3⟩ : ∃ z : Int32, cmpValue (FP.dcmp z124 FP.dconst0) .l = z := ⟨_, rfl⟩
      obtain ⟨c125_c113_3_z1, hc125_c113_3_z1⟩ : ∃ z : UInt64, z124 &&& 0x7fffffffffffffff = z := ⟨_, rfl⟩
      obtain ⟨c125_c113_3_z7, hc125_c113_3_z7⟩ : ∃ z : Int32, cmpValue (FP.dcmp c125_c113_3_z1 (9218868437227405311 : UInt64)) .l = z := ⟨_, rfl⟩
      obtain ⟨c125_z143, hc125_z143⟩ : ∃ z : Int32, cmpValue (FP.dcmp z118 FP.dconst0) .l = z := ⟨_, rfl⟩
      obtain ⟨z132, hz132⟩ : ∃ z : UInt64, FP.l2d z18 = z := ⟨_, rfl⟩
      obtain ⟨z136, hz136⟩ : ∃ z : Int64, (1 : Int64) <<< (z91 &&& 0x3f).toInt64 = z := ⟨_, rfl⟩
      obtain ⟨z137, hz137⟩ : ∃ z : UInt64, FP.l2d z136 = z := ⟨_, rfl⟩
      obtain ⟨z138, hz138⟩ : ∃ z : UInt64, FP.ddiv z132 z137 = z := ⟨_, rfl⟩
      obtain ⟨z145, hz145⟩ : ∃ z : UInt64, FP.l2d z4 = z := ⟨_, rfl⟩
      obtain ⟨z148, hz148⟩ : ∃ z : UInt64, FP.l2d z11 = z := ⟨_, rfl⟩
      obtain ⟨c151_z5, hc151_z5⟩ : ∃ z : UInt64, FP.dmul z118 z145 = z := ⟨_, rfl⟩
      obtain ⟨c151_z10, hc151_z10⟩ : ∃ z : UInt64, FP.ddiv c151_z5 z98 = z := ⟨_, rfl⟩
      obtain ⟨c151_z16, hc151_z16⟩ : ∃ z : UInt64, FP.dmul z121 z148 = z := ⟨_, rfl⟩
      obtain ⟨c151_z21, hc151_z21⟩ : ∃ z : UInt64, FP.ddiv c151_z16 z105 = z := ⟨_, rfl⟩
      obtain ⟨c151_z22, hc151_z22⟩ : ∃ z : UInt64, FP.dadd c151_z10 c151_z21 = z := ⟨_, rfl⟩
      obtain ⟨c151_z29, hc151_z29⟩ : ∃ z : UInt64, FP.dmul z124 z138 = z := ⟨_, rfl⟩
      obtain ⟨c151_z30, hc151_z30⟩ : ∃ z : UInt64, FP.dadd c151_z22 c151_z29 = z := ⟨_, rfl⟩
      obtain ⟨z160, hz160⟩ : ∃ z : Int64, (1 : Int64) * z4 = z := ⟨_, rfl⟩
      obtain ⟨z166, hz166⟩ : ∃ z : Int32, z81 + z91 = z := ⟨_, rfl⟩
      obtain ⟨z167, hz167⟩ : ∃ z : Int64, (1 : Int64) <<< (z166 &&& 0x3f).toInt64 = z := ⟨_, rfl⟩
      obtain ⟨z168, hz168⟩ : ∃ z : Int64, z160 * z167 = z := ⟨_, rfl⟩
      obtain ⟨z173, hz173⟩ : ∃ z : Int64, z37 * z11 = z := ⟨_, rfl⟩
      obtain ⟨z179, hz179⟩ : ∃ z : Int32, z72 + z91 = z := ⟨_, rfl⟩
      obtain ⟨z180, hz180⟩ : ∃ z : Int64, (1 : Int64) <<< (z179 &&& 0x3f).toInt64 = z := ⟨_, rfl⟩
      obtain ⟨z181, hz181⟩ : ∃ z : Int64, z173 * z180 = z := ⟨_, rfl⟩
      obtain ⟨z182, hz182⟩ : ∃ z : Int64, z168 + z181 = z := ⟨_, rfl⟩
      obtain ⟨z187, hz187⟩ : ∃ z : Int64, z48 * z18 = z := ⟨_, rfl⟩
      obtain ⟨z193, hz193⟩ : ∃ z : Int32, z72 + z81 = z := ⟨_, rfl⟩
      obtain ⟨z194, hz194⟩ : ∃ z : Int64, (1 : Int64) <<< (z193 &&& 0x3f).toInt64 = z := ⟨_, rfl⟩
      obtain ⟨z195, hz195⟩ : ∃ z : Int64, z187 * z194 = z := ⟨_, rfl⟩
      obtain ⟨z196, hz196⟩ : ∃ z : Int64, z182 + z195 = z := ⟨_, rfl⟩
      obtain ⟨z206, hz206⟩ : ∃ z : Int32, z72 + z81 = z := ⟨_, rfl⟩
      obtain ⟨z209, hz209⟩ : ∃ z : Int32, z206 + z91 = z := ⟨_, rfl⟩
      obtain ⟨z210, hz210⟩ : ∃ z : Int64, (1 : Int64) <<< (z209 &&& 0x3f).toInt64 = z := ⟨_, rfl⟩
      obtain ⟨z211, hz211⟩ : ∃ z : UInt64, FP.l2d z210 = z := ⟨_, rfl⟩
      obtain ⟨z212, hz212⟩ : ∃ z : UInt64, FP.dmul c151_z30 z211 = z := ⟨_, rfl⟩
      obtain ⟨z215, hz215⟩ : ∃ z : UInt64, FP.l2d z196 = z := ⟨_, rfl⟩
      obtain ⟨z216, hz216⟩ : ∃ z : Int32, cmpValue (FP.dcmp z212 z215) .l = z := ⟨_, rfl⟩
      have bD := sh11 hz3 hz4
      have bE := sh11 hz10 hz11
      have bC := sh11 hz17 hz18
      have w1 : 0 ≤ (1 : Int64).toInt ∧ (1 : Int64).toInt ≤ 255 := by decide
      have w2 := m255 hz36 hz37
      have w3 := m255 hz47 hz48
      obtain ⟨db, db7, idb⟩ := m7 hz72
      obtain ⟨eb, eb7, ieb⟩ := m7 hz81
      obtain ⟨cb, cb7, icb⟩ := m7 hz91
      have dmd := dpow hz98 (sh1 hz97 idb (by omega)) (by omega)
      have dme := dpow hz105 (sh1 hz104 ieb (by omega)) (by omega)
      have dmc := dpow hz137 (sh1 hz136 icb (by omega)) (by omega)
      have ddw : Jvm.OwnF.DV (1 : Int64).toInt 0 z118 := hz118 ▸ Jvm.OwnF.DV_l2d (Jvm.OwnF.r53 (by omega))
      have dew : Jvm.OwnF.DV z37.toInt 0 z121 := hz121 ▸ Jvm.OwnF.DV_l2d (Jvm.OwnF.r53 (by omega))
      have dcw : Jvm.OwnF.DV z48.toInt 0 z124 := hz124 ▸ Jvm.OwnF.DV_l2d (Jvm.OwnF.r53 (by omega))
      have pdb := Nat.two_pow_pos db
      have peb := Nat.two_pow_pos eb
      have pcb := Nat.two_pow_pos cb
      obtain ⟨c125_br7, c125_c11_nm0_1, c125_c11_br8⟩ := pos0 dmd (by omega) hc125_z6 hc125_c11_z1 hc125_c11_z7
      obtain ⟨c125_br34, c125_c38_nm0_1, c125_c38_br8⟩ := pos0 dme (by omega) hc125_z33 hc125_c38_z1 hc125_c38_z7
      obtain ⟨c125_br108, c125_c113_nm0_1, c125_c113_br8⟩ := nn0 ddw w1.1 hc125_z107 hc125_c113_z1 hc125_c113_z7
      obtain ⟨c125_br108_2, c125_c113_2_nm0_1, c125_c113_2_br8⟩ := nn0 dew w2.1 hc125_z107_2 hc125_c113_2_z1 hc125_c113_2_z7
      obtain ⟨c125_br108_3, c125_c113_3_nm0_1, c125_c113_3_br8⟩ := nn0 dcw w3.1 hc125_z107_3 hc125_c113_3_z1 hc125_c113_3_z7
      have c125_br144 : ¬ c125_z143 = 0 := by
        have : 0 < (1 : Int64).toInt := by decide
        rw [← hc125_z143, (Jvm.OwnF.DV_cmp ddw Jvm.OwnF.DV_0 .l).2.2 this]; decide
      have dc : Jvm.OwnF.DV z18.toInt cb z138 := hz138 ▸ hz132 ▸ Jvm.OwnF.DV_div (Jvm.OwnF.DV_l2d (Jvm.OwnF.r53 (by omega))) dmc (by omega) (by omega) (Jvm.OwnF.r53 (by omega)) (by rw [Nat.zero_add]; simp)
      have nn138 := dc.nn
      have dd : Jvm.OwnF.DV z4.toInt 0 z145 := hz145 ▸ Jvm.OwnF.DV_l2d (Jvm.OwnF.r53 (by omega))
      have de : Jvm.OwnF.DV z11.toInt 0 z148 := hz148 ▸ Jvm.OwnF.DV_l2d (Jvm.OwnF.r53 (by omega))
      obtain ⟨c151_nn5, c151_nn10, c151_nn16, c151_nn21, c151_nn22, c151_nn29, c151_nn30, D, n1, n2, n3, o1, o2, o3⟩ := ofv db7 eb7 cb7 bD bE bC (show (1 : Int64).toInt.natAbs ≤ 255 by omega) (show z37.toInt.natAbs ≤ 255 by omega) (show z48.toInt.natAbs ≤ 255 by omega) dd de dc ddw dew dcw dmd dme hc151_z5 hc151_z10 hc151_z16 hc151_z21 hc151_z22 hc151_z29 hc151_z30
      have i166 := Jvm.OwnF.iadd_v hz166 (by omega)
      have i179 := Jvm.OwnF.iadd_v hz179 (by omega)
      have i193 := Jvm.OwnF.iadd_v hz193 (by omega)
      have i206 := Jvm.OwnF.iadd_v hz206 (by omega)
      have i209 := Jvm.OwnF.iadd_v hz209 (by omega)
      have i167 := sh1 (k := eb + cb) hz167 (by omega) (by omega)
      have i180 := sh1 (k := db + cb) hz180 (by omega) (by omega)
      have i194 := sh1 (k := db + eb) hz194 (by omega) (by omega)
      have i210 := sh1 (k := db + eb + cb) hz210 (by omega) (by omega)
      have i160 := Jvm.OwnF.lmul_v hz160 (by omega)
      have i168 := Jvm.OwnF.lmul_v hz168 (by rw [i160, i167]; omega)
      rw [i160, i167] at i168
      have i173 := Jvm.OwnF.lmul_v hz173 (by omega)
      have i181 := Jvm.OwnF.lmul_v hz181 (by rw [i173, i180]; omega)
      rw [i173, i180] at i181
      have i187 := Jvm.OwnF.lmul_v hz187 (by omega)
      have i195 := Jvm.OwnF.lmul_v hz195 (by rw [i187, i194]; omega)
      rw [i187, i194] at i195
      have i182 := Jvm.OwnF.ladd_v hz182 (by rw [i168, i181]; omega)
      have i196 := Jvm.OwnF.ladd_v hz196 (by rw [i182, i168, i181, i195]; omega)
      rw [i182, i168, i181, i195] at i196
      have d211 := dpow hz211 i210 (by omega)
      have d212 : Jvm.OwnF.DV ((1 : Int64).toInt * z4.toInt * ((2 ^ (eb + cb) : Nat) : Int) + z37.toInt * z11.toInt * ((2 ^ (db + cb) : Nat) : Int) + z48.toInt * z18.toInt * ((2 ^ (db + eb) : Nat) : Int)) 0 z212 := by
        have := hz212 ▸ Jvm.OwnF.DV_mul D d211 (by omega) (Jvm.OwnF.R53.mulp (by omega) (by omega))
        refine Jvm.OwnF.DV.down (k := 0) (j := db + eb + cb) ?_
        rw [Nat.zero_add]; rw [Nat.add_zero] at this; exact this
      have nn212 := d212.nn
      have d215 := Jvm.OwnF.DV_l2d (n := z196) (Jvm.OwnF.r53 (by rw [i196]; omega))
      rw [hz215, i196] at d215
      have br217 : z216 = 0 := hz216.symm.trans (Jvm.OwnF.DV_eq0 d212 d215 _)
      obtain ⟨T3, h3, X3, e3, E3, A3, D3, -, st3⟩ := newO X0 hx hZ hown (hw _ (List.mem_of_getElem? (i := 0) rfl)) (hw _ (List.mem_of_getElem? (i := 1) rfl)) (hw _ (List.mem_of_getElem? (i := 2) rfl)) e0 (g := (mkF m 108 #[.val (.int p0), .val (.int p1), .val (.int p2), .val (.int p3), .val (.int p4), .val (.long z4), .second, .val (.long z11), .second, .val (.long z18), .second, .val (.long (1 : Int64)), .second, .val (.long z37), .second, .val (.long z48), .second, .val (.int z72), .val (.int z81), .val (.int z91), .val (.double z98), .second, .val (.double z105), .second, .unset, .unset, .unset, .unset, .unset, .unset, .unset] [])) rfl (hb hby at_108) (by decide) (by decide)
      obtain ⟨b3, g3⟩ : ∃ z, z = h0.size := ⟨_, rfl⟩
      rw [← g3] at A3 D3 st3
      have gn3 : n0 ≤ b3 := Nat.le_trans Z0 (Nat.le_of_eq g3.symm)
      have gz3 : h0.size ≤ b3 := Nat.le_trans ((Keep.refl h0 [])).1 (Nat.le_of_eq g3.symm)
      have K4 : Keep h0 h3 [] := (Keep.refl h0 []).ext E3
      have F3_maxDelaySeconds : Fld Z h3 b3 "com/example/fleetwave/fleetwave/model/CacheCost" "maxDelaySeconds" "D" (.double (0 : UInt64)) := D3 (Or.inr (hw _ (List.mem_of_getElem? (i := 25) rfl))) (ty := .double) (by decide)
      have F3_maxEnergyJoules : Fld Z h3 b3 "com/example/fleetwave/fleetwave/model/CacheCost" "maxEnergyJoules" "D" (.double (0 : UInt64)) := D3 (Or.inr (hw _ (List.mem_of_getElem? (i := 27) rfl))) (ty := .double) (by decide)
      have F3_delayWeight : Fld Z h3 b3 "com/example/fleetwave/fleetwave/model/CacheCost" "delayWeight" "D" (.double (0 : UInt64)) := D3 (Or.inr (hw _ (List.mem_of_getElem? (i := 29) rfl))) (ty := .double) (by decide)
      have F3_energyWeight : Fld Z h3 b3 "com/example/fleetwave/fleetwave/model/CacheCost" "energyWeight" "D" (.double (0 : UInt64)) := D3 (Or.inr (hw _ (List.mem_of_getElem? (i := 31) rfl))) (ty := .double) (by decide)
      have F3_cacheWeight : Fld Z h3 b3 "com/example/fleetwave/fleetwave/model/CacheCost" "cacheWeight" "D" (.double (0 : UInt64)) := D3 (Or.inr (hw _ (List.mem_of_getElem? (i := 33) rfl))) (ty := .double) (by decide)
      obtain ⟨_, _, ⟨T5, L5, k5, n5⟩, -, X5, ⟨Lc5, hQ5, ql5, qy5, qz5⟩, st5⟩ := X3.specialBack hx (y := (⟨"com/example/fleetwave/fleetwave/model/CacheCost", "<init>", "(DDDDD)V"⟩ : MethodName)) rfl hown (mvT hZ (hw _ (List.mem_of_getElem? (i := 3) rfl))) (mvT hZ (hw _ (List.mem_of_getElem? (i := 4) rfl))) (mvT hZ (hw _ (List.mem_of_getElem? (i := 5) rfl))) (by decide) (backOf (W := 1) (rm1_t l Z a0 hw [] b3 z98 z105 z118 z121 z124 ((.double (0 : UInt64))) ((.double (0 : UInt64))) ((.double (0 : UInt64))) ((.double (0 : UInt64))) ((.double (0 : UInt64))) c125_z6 c125_c11_z1 c125_c11_z7 c125_z33 c125_c38_z1 c125_c38_z7 c125_z107 c125_c113_z1 c125_c113_z7 c125_z107_2 c125_c113_2_z1 c125_c113_2_z7 c125_z107_3 c125_c113_3_z1 c125_c113_3_z7 c125_z143 h3 n0 (Nat.le_trans Z0 E3.1) A3 F3_maxDelaySeconds gn3 F3_maxEnergyJoules F3_delayWeight F3_energyWeight F3_cacheWeight hc125_z6 hc125_c11_z1 hc125_c11_z7 hc125_z33 hc125_c38_z1 hc125_c38_z7 hc125_z107 hc125_c113_z1 hc125_c113_z7 hc125_z107_2 hc125_c113_2_z1 hc125_c113_2_z7 hc125_z107_3 hc125_c113_3_z1 hc125_c113_3_z7 hc125_z143 c125_br7 c125_c11_nm0_1 c125_c11_br8 c125_br34 c125_c38_nm0_1 c125_c38_br8 c125_br108 c125_c113_nm0_1 c125_c113_br8 c125_br108_2 c125_c113_2_nm0_1 c125_c113_2_br8 c125_br108_3 c125_c113_3_nm0_1 c125_c113_3_br8 c125_br144) hZ (hw _ (List.mem_of_getElem? (i := 5) rfl)) (hw _ (List.mem_of_getElem? (i := 2) rfl)) (by decide) (by decide)) (g := (mkF m 125 #[.val (.int p0), .val (.int p1), .val (.int p2), .val (.int p3), .val (.int p4), .val (.long z4), .second, .val (.long z11), .second, .val (.long z18), .second, .val (.long (1 : Int64)), .second, .val (.long z37), .second, .val (.long z48), .second, .val (.int z72), .val (.int z81), .val (.int z91), .val (.double z98), .second, .val (.double z105), .second, .unset, .unset, .unset, .unset, .unset, .unset, .unset] [(.double z124), (.double z121), (.double z118), (.double z105), (.double z98), (.ref b3), (.ref b3)])) rfl (by rw [hml]; rfl) (Steps.refl _) (a := b3) (argsL := [(.double z98), (.double z105), (.double z118), (.double z121), (.double z124)]) (rest := [(.ref b3)]) (lenOf pd_3 rfl) rfl (by show 2 * 0 + _ ≤ _; exact Nat.le_of_eq rfl) (hb hby at_125) (fun _ _ => ⟨rfl, e3, (by decide : 1 + 1 ≤ _), (by decide : 5 + 3 ≤ _)⟩)
      dsimp only [Pt.U, Pt.locs, Pt.cells, Pt.slots] at X5 ql5 qy5 qz5 st5 hQ5
      subst ql5 qy5 qz5
      obtain ⟨rfl, N5q, K5q, Q5_0, Q5_1, Q5_2, Q5_3, Q5_4, Q5_5⟩ := hQ5
      have N5 := Fr.app N0 N5q
      have K6 : Keep h0 T5.heap [] := Keep.trans K4 K5q (allS (Or.inr gz3) all0)
      obtain ⟨cq7, kq7, q7a, q7b, q7c⟩ := isOf hZ rfl Q5_0
      obtain ⟨_, _, ⟨T7, L7, k7, n7⟩, -, X7, ⟨Lc7, hQ7, ql7, qy7, qz7⟩, st7⟩ := X5.virtualBack hx (y := (⟨"com/example/fleetwave/fleetwave/model/CacheCost", "of", "(DDD)D"⟩ : MethodName)) (z := (⟨"com/example/fleetwave/fleetwave/model/CacheCost", "of", "(DDD)D"⟩ : MethodName)) hown (mvT hZ (hw _ (List.mem_of_getElem? (i := 34) rfl))) (mvT hZ (hw _ (List.mem_of_getElem? (i := 35) rfl))) (notFace_of_selects (args := #[]) (mvT hZ (hw _ (List.mem_of_getElem? (i := 37) rfl)))) (mvT hZ (hw _ (List.mem_of_getElem? (i := 37) rfl))) (mvT hZ (hw _ (List.mem_of_getElem? (i := 36) rfl))) (by decide) (backOf (W := 0) (rm6 l Z a0 hw [] b3 z145 z148 z138 z118 z98 z121 z105 z124 c151_z5 c151_z10 c151_z16 c151_z21 c151_z22 c151_z29 c151_z30 T5.heap n0 (Nat.le_trans (Nat.le_trans Z0 E3.1) K5q.1) Q5_3 Q5_1 Q5_4 Q5_2 Q5_5 hc151_z5 hc151_z10 hc151_z16 hc151_z21 hc151_z22 hc151_z29 hc151_z30 c151_nn5 c151_nn10 c151_nn16 c151_nn21 c151_nn22 c151_nn29 c151_nn30) hZ (hw _ (List.mem_of_getElem? (i := 38) rfl)) (hw _ (List.mem_of_getElem? (i := 2) rfl)) (by decide) (by decide)) q7a q7c (g := (mkF m 151 #[.val (.int p0), .val (.int p1), .val (.int p2), .val (.int p3), .val (.int p4), .val (.long z4), .second, .val (.long z11), .second, .val (.long z18), .second, .val (.long (1 : Int64)), .second, .val (.long z37), .second, .val (.long z48), .second, .val (.int z72), .val (.int z81), .val (.int z91), .val (.double z98), .second, .val (.double z105), .second, .val (.ref b3), .val (.double z138), .second, .unset, .unset, .unset, .unset] [(.double z138), (.double z148), (.double z145), (.ref b3)])) rfl (by rw [hml]; rfl) (Steps.refl _) (argsL := [(.double z145), (.double z148), (.double z138)]) (rest := []) (lenOf pd_4 rfl) rfl (by show 2 * 0 + _ ≤ _; exact Nat.le_of_eq rfl) (hb hby at_151) (fun _ _ => ⟨rfl, rfl, (by decide : 2 + 0 ≤ _), (by decide : 8 + 0 ≤ _)⟩)
      dsimp only [Pt.U, Pt.locs, Pt.cells, Pt.slots] at X7 ql7 qy7 qz7 st7 hQ7
      subst ql7 qy7 qz7
      obtain ⟨rfl, N7q, e7⟩ := hQ7
      have N7 := Fr.app N5 N7q
      have c8 : ∀ t, Steps p.tables e below (T7.setTop (mkF m 225 #[.val (.int p0), .val (.int p1), .val (.int p2), .val (.int p3), .val (.int p4), .val (.long z4), .second, .val (.long z11), .second, .val (.long z18), .second, .val (.long (1 : Int64)), .second, .val (.long z37), .second, .val (.long z48), .second, .val (.int z72), .val (.int z81), .val (.int z91), .val (.double z98), .second, .val (.double z105), .second, .val (.ref b3), .val (.double z138), .second, .val (.double c151_z30), .second, .val (.long z196), .second] [(.int (1 : Int32))])) t → Steps p.tables e below (s₁.setTop (entryFrame m #[(.int p0), (.int p1), (.int p2), (.int p3), (.int p4)] maxLocals)) t := by
        intro t k
        refine c2 t ?_
        show Steps p.tables e below (s₁.setTop (mkF m 62 #[.val (.int p0), .val (.int p1), .val (.int p2), .val (.int p3), .val (.int p4), .val (.long z4), .second, .val (.long z11), .second, .val (.long z18), .second, .val (.long z26), .second, .val (.long z37), .second, .val (.long z48), .second, .unset, .unset, .unset, .unset, .unset, .unset, .unset, .unset, .unset, .unset, .unset, .unset, .unset, .unset] [(.int z61)])) _
        refine XS.ifNo X0.here hx rfl (hb hby at_62) rfl (Jvm.Free.XT.i0_ne_f hb62) ?_
        show Steps p.tables e below (s₁.setTop (mkF m 65 #[.val (.int p0), .val (.int p1), .val (.int p2), .val (.int p3), .val (.int p4), .val (.long z4), .second, .val (.long z11), .second, .val (.long z18), .second, .val (.long z26), .second, .val (.long z37), .second, .val (.long z48), .second, .unset, .unset, .unset, .unset, .unset, .unset, .unset, .unset, .unset, .unset, .unset, .unset, .unset, .unset] [])) _
        refine XS.lconst X0.here hx rfl (hb hby at_65) ?_
        show Steps p.tables e below (s₁.setTop (mkF m 66 #[.val (.int p0), .val (.int p1), .val (.int p2), .val (.int p3), .val (.int p4), .val (.long z4), .second, .val (.long z11), .second, .val (.long z18), .second, .val (.long z26), .second, .val (.long z37), .second, .val (.long z48), .second, .unset, .unset, .unset, .unset, .unset, .unset, .unset, .unset, .unset, .unset, .unset, .unset, .unset, .unset] [(.long (1 : Int64))])) _
        refine XS.lstore X0.here hx rfl (hb hby at_66) rfl (l' := #[.val (.int p0), .val (.int p1), .val (.int p2), .val (.int p3), .val (.int p4), .val (.long z4), .second, .val (.long z11), .second, .val (.long z18), .second, .val (.long (1 : Int64)), .second, .val (.long z37), .second, .val (.long z48), .second, .unset, .unset, .unset, .unset, .unset, .unset, .unset, .unset, .unset, .unset, .unset, .unset, .unset, .unset]) rfl ?_
        show Steps p.tables e below (s₁.setTop (mkF m 68 #[.val (.int p0), .val (.int p1), .val (.int p2), .val (.int p3), .val (.int p4), .val (.long z4), .second, .val (.long z11), .second, .val (.long z18), .second, .val (.long (1 : Int64)), .second, .val (.long z37), .second, .val (.long z48), .second, .unset, .unset, .unset, .unset, .unset, .unset, .unset, .unset, .unset, .unset, .unset, .unset, .unset, .unset] [])) _
        refine XS.iload X0.here hx rfl (hb hby at_68) rfl ?_
        show Steps p.tables e below (s₁.setTop (mkF m 70 #[.val (.int p0), .val (.int p1), .val (.int p2), .val (.int p3), .val (.int p4), .val (.long z4), .second, .val (.long z11), .second, .val (.long z18), .second, .val (.long (1 : Int64)), .second, .val (.long z37), .second, .val (.long z48), .second, .unset, .unset, .unset, .unset, .unset, .unset, .unset, .unset, .unset, .unset, .unset, .unset, .unset, .unset] [(.int p4)])) _
        refine XS.bipush X0.here hx rfl (hb hby at_70) ?_
        show Steps p.tables e below (s₁.setTop (mkF m 72 #[.val (.int p0), .val (.int p1), .val (.int p2), .val (.int p3), .val (.int p4), .val (.long z4), .second, .val (.long z11), .second, .val (.long z18), .second, .val (.long (1 : Int64)), .second, .val (.long z37), .second, .val (.long z48), .second, .unset, .unset, .unset, .unset, .unset, .unset, .unset, .unset, .unset, .unset, .unset, .unset, .unset, .unset] [(.int (7 : Int32)), (.int p4)])) _
        refine Jvm.OwnK.iand X0.here hx rfl (hb hby at_72) rfl hz72 ?_
        show Steps p.tables e below (s₁.setTop (mkF m 73 #[.val (.int p0), .val (.int p1), .val (.int p2), .val (.int p3), .val (.int p4), .val (.long z4), .second, .val (.long z11), .second, .val (.long z18), .second, .val (.long (1 : Int64)), .second, .val (.long z37), .second, .val (.long z48), .second, .unset, .unset, .unset, .unset, .unset, .unset, .unset, .unset, .unset, .unset, .unset, .unset, .unset, .unset] [(.int z72)])) _
        refine XS.istore X0.here hx rfl (hb hby at_73) rfl (l' := #[.val (.int p0), .val (.int p1), .val (.int p2), .val (.int p3), .val (.int p4), .val (.long z4), .second, .val (.long z11), .second, .val (.long z18), .second, .val (.long (1 : Int64)), .second, .val (.long z37), .second, .val (.long z48), .second, .val (.int z72), .unset, .unset, .unset, .unset, .unset, .unset, .unset, .unset, .unset, .unset, .unset, .unset, .unset]) rfl ?_
        show Steps p.tables e below (s₁.setTop (mkF m 75 #[.val (.int p0), .val (.int p1), .val (.int p2), .val (.int p3), .val (.int p4), .val (.long z4), .second, .val (.long z11), .second, .val (.long z18), .second, .val (.long (1 : Int64)), .second, .val (.long z37), .second, .val (.long z48), .second, .val (.int z72), .unset, .unset, .unset, .unset, .unset, .unset, .unset, .unset, .unset, .unset, .unset, .unset, .unset] [])) _
        refine XS.iload X0.here hx rfl (hb hby at_75) rfl ?_
        show Steps p.tables e below (s₁.setTop (mkF m 77 #[.val (.int p0), .val (.int p1), .val (.int p2), .val (.int p3), .val (.int p4), .val (.long z4), .second, .val (.long z11), .second, .val (.long z18), .second, .val (.long (1 : Int64)), .second, .val (.long z37), .second, .val (.long z48), .second, .val (.int z72), .unset, .unset, .unset, .unset, .unset, .unset, .unset, .unset, .unset, .unset, .unset, .unset, .unset] [(.int p4)])) _
        refine XS.iconst X0.here hx rfl (hb hby at_77) ?_
        show Steps p.tables e below (s₁.setTop (mkF m 78 #[.val (.int p0), .val (.int p1), .val (.int p2), .val (.int p3), .val (.int p4), .val (.long z4), .second, .val (.long z11), .second, .val (.long z18), .second, .val (.long (1 : Int64)), .second, .val (.long z37), .second, .val (.long z48), .second, .val (.int z72), .unset, .unset, .unset, .unset, .unset, .unset, .unset, .unset, .unset, .unset, .unset, .unset, .unset] [(.int (3 : Int32)), (.int p4)])) _
        refine Jvm.OwnK.iushr X0.here hx rfl (hb hby at_78) rfl hz78 ?_
        show Steps p.tables e below (s₁.setTop (mkF m 79 #[.val (.int p0), .val (.int p1), .val (.int p2), .val (.int p3), .val (.int p4), .val (.long z4), .second, .val (.long z11), .second, .val (.long z18), .second, .val (.long (1 : Int64)), .second, .val (.long z37), .second, .val (.long z48), .second, .val (.int z72), .unset, .unset, .unset, .unset, .unset, .unset, .unset, .unset, .unset, .unset, .unset, .unset, .unset] [(.int z78)])) _
        refine XS.bipush X0.here hx rfl (hb hby at_79) ?_
        show Steps p.tables e below (s₁.setTop (mkF m 81 #[.val (.int p0), .val (.int p1), .val (.int p2), .val (.int p3), .val (.int p4), .val (.long z4), .second, .val (.long z11), .second, .val (.long z18), .second, .val (.long (1 : Int64)), .second, .val (.long z37), .second, .val (.long z48), .second, .val (.int z72), .unset, .unset, .unset, .unset, .unset, .unset, .unset, .unset, .unset, .unset, .unset, .unset, .unset] [(.int (7 : Int32)), (.int z78)])) _
        refine Jvm.OwnK.iand X0.here hx rfl (hb hby at_81) rfl hz81 ?_
        show Steps p.tables e below (s₁.setTop (mkF m 82 #[.val (.int p0), .val (.int p1), .val (.int p2), .val (.int p3), .val (.int p4), .val (.long z4), .second, .val (.long z11), .second, .val (.long z18), .second, .val (.long (1 : Int64)), .second, .val (.long z37), .second, .val (.long z48), .second, .val (.int z72), .unset, .unset, .unset, .unset, .unset, .unset, .unset, .unset, .unset, .unset, .unset, .unset, .unset] [(.int z81)])) _
        refine XS.istore X0.here hx rfl (hb hby at_82) rfl (l' := #[.val (.int p0), .val (.int p1), .val (.int p2), .val (.int p3), .val (.int p4), .val (.long z4), .second, .val (.long z11), .second, .val (.long z18), .second, .val (.long (1 : Int64)), .second, .val (.long z37), .second, .val (.long z48), .second, .val (.int z72), .val (.int z81), .unset, .unset, .unset, .unset, .unset, .unset, .unset, .unset, .unset, .unset, .unset, .unset]) rfl ?_
        show Steps p.tables e below (s₁.setTop (mkF m 84 #[.val (.int p0), .val (.int p1), .val (.int p2), .val (.int p3), .val (.int p4), .val (.long z4), .second, .val (.long z11), .second, .val (.long z18), .second, .val (.long (1 : Int64)), .second, .val (.long z37), .second, .val (.long z48), .second, .val (.int z72), .val (.int z81), .unset, .unset, .unset, .unset, .unset, .unset, .unset, .unset, .unset, .unset, .unset, .unset] [])) _
        refine XS.iload X0.here hx rfl (hb hby at_84) rfl ?_
        show Steps p.tables e below (s₁.setTop (mkF m 86 #[.val (.int p0), .val (.int p1), .val (.int p2), .val (.int p3), .val (.int p4), .val (.long z4), .second, .val (.long z11), .second, .val (.long z18), .second, .val (.long (1 : Int64)), .second, .val (.long z37), .second, .val (.long z48), .second, .val (.int z72), .val (.int z81), .unset, .unset, .unset, .unset, .unset, .unset, .unset, .unset, .unset, .unset, .unset, .unset] [(.int p4)])) _
        refine XS.bipush X0.here hx rfl (hb hby at_86) ?_
        show Steps p.tables e below (s₁.setTop (mkF m 88 #[.val (.int p0), .val (.int p1), .val (.int p2), .val (.int p3), .val (.int p4), .val (.long z4), .second, .val (.long z11), .second, .val (.long z18), .second, .val (.long (1 : Int64)), .second, .val (.long z37), .second, .val (.long z48), .second, .val (.int z72), .val (.int z81), .unset, .unset, .unset, .unset, .unset, .unset, .unset, .unset, .unset, .unset, .unset, .unset] [(.int (6 : Int32)), (.int p4)])) _
        refine Jvm.OwnK.iushr X0.here hx rfl (hb hby at_88) rfl hz88 ?_
        show Steps p.tables e below (s₁.setTop (mkF m 89 #[.val (.int p0), .val (.int p1), .val (.int p2), .val (.int p3), .val (.int p4), .val (.long z4), .second, .val (.long z11), .second, .val (.long z18), .second, .val (.long (1 : Int64)), .second, .val (.long z37), .second, .val (.long z48), .second, .val (.int z72), .val (.int z81), .unset, .unset, .unset, .unset, .unset, .unset, .unset, .unset, .unset, .unset, .unset, .unset] [(.int z88)])) _
        refine XS.bipush X0.here hx rfl (hb hby at_89) ?_
        show Steps p.tables e below (s₁.setTop (mkF m 91 #[.val (.int p0), .val (.int p1), .val (.int p2), .val (.int p3), .val (.int p4), .val (.long z4), .second, .val (.long z11), .second, .val (.long z18), .second, .val (.long (1 : Int64)), .second, .val (.long z37), .second, .val (.long z48), .second, .val (.int z72), .val (.int z81), .unset, .unset, .unset, .unset, .unset, .unset, .unset, .unset, .unset, .unset, .unset, .unset] [(.int (7 : Int32)), (.int z88)])) _
        refine Jvm.OwnK.iand X0.here hx rfl (hb hby at_91) rfl hz91 ?_
        show Steps p.tables e below (s₁.setTop (mkF m 92 #[.val (.int p0), .val (.int p1), .val (.int p2), .val (.int p3), .val (.int p4), .val (.long z4), .second, .val (.long z11), .second, .val (.long z18), .second, .val (.long (1 : Int64)), .second, .val (.long z37), .second, .val (.long z48), .second, .val (.int z72), .val (.int z81), .unset, .unset, .unset, .unset, .unset, .unset, .unset, .unset, .unset, .unset, .unset, .unset] [(.int z91)])) _
        refine XS.istore X0.here hx rfl (hb hby at_92) rfl (l' := #[.val (.int p0), .val (.int p1), .val (.int p2), .val (.int p3), .val (.int p4), .val (.long z4), .second, .val (.long z11), .second, .val (.long z18), .second, .val (.long (1 : Int64)), .second, .val (.long z37), .second, .val (.long z48), .second, .val (.int z72), .val (.int z81), .val (.int z91), .unset, .unset, .unset, .unset, .unset, .unset, .unset, .unset, .unset, .unset, .unset]) rfl ?_
        show Steps p.tables e below (s₁.setTop (mkF m 94 #[.val (.int p0), .val (.int p1), .val (.int p2), .val (.int p3), .val (.int p4), .val (.long z4), .second, .val (.long z11), .second, .val (.long z18), .second, .val (.long (1 : Int64)), .second, .val (.long z37), .second, .val (.long z48), .second, .val (.int z72), .val (.int z81), .val (.int z91), .unset, .unset, .unset, .unset, .unset, .unset, .unset, .unset, .unset, .unset, .unset] [])) _
        refine XS.lconst X0.here hx rfl (hb hby at_94) ?_
        show Steps p.tables e below (s₁.setTop (mkF m 95 #[.val (.int p0), .val (.int p1), .val (.int p2), .val (.int p3), .val (.int p4), .val (.long z4), .second, .val (.long z11), .second, .val (.long z18), .second, .val (.long (1 : Int64)), .second, .val (.long z37), .second, .val (.long z48), .second, .val (.int z72), .val (.int z81), .val (.int z91), .unset, .unset, .unset, .unset, .unset, .unset, .unset, .unset, .unset, .unset, .unset] [(.long (1 : Int64))])) _
        refine XS.iload X0.here hx rfl (hb hby at_95) rfl ?_
        show Steps p.tables e below (s₁.setTop (mkF m 97 #[.val (.int p0), .val (.int p1), .val (.int p2), .val (.int p3), .val (.int p4), .val (.long z4), .second, .val (.long z11), .second, .val (.long z18), .second, .val (.long (1 : Int64)), .second, .val (.long z37), .second, .val (.long z48), .second, .val (.int z72), .val (.int z81), .val (.int z91), .unset, .unset, .unset, .unset, .unset, .unset, .unset, .unset, .unset, .unset, .unset] [(.int z72), (.long (1 : Int64))])) _
        refine Jvm.OwnK.lshl X0.here hx rfl (hb hby at_97) rfl hz97 ?_
        show Steps p.tables e below (s₁.setTop (mkF m 98 #[.val (.int p0), .val (.int p1), .val (.int p2), .val (.int p3), .val (.int p4), .val (.long z4), .second, .val (.long z11), .second, .val (.long z18), .second, .val (.long (1 : Int64)), .second, .val (.long z37), .second, .val (.long z48), .second, .val (.int z72), .val (.int z81), .val (.int z91), .unset, .unset, .unset, .unset, .unset, .unset, .unset, .unset, .unset, .unset, .unset] [(.long z97)])) _
        refine XS.l2dS X0.here hx rfl (hb hby at_98) rfl hz98 ?_
        show Steps p.tables e below (s₁.setTop (mkF m 99 #[.val (.int p0), .val (.int p1), .val (.int p2), .val (.int p3), .val (.int p4), .val (.long z4), .second, .val (.long z11), .second, .val (.long z18), .second, .val (.long (1 : Int64)), .second, .val (.long z37), .second, .val (.long z48), .second, .val (.int z72), .val (.int z81), .val (.int z91), .unset, .unset, .unset, .unset, .unset, .unset, .unset, .unset, .unset, .unset, .unset] [(.double z98)])) _
        refine XS.dstore X0.here hx rfl (hb hby at_99) rfl (l' := #[.val (.int p0), .val (.int p1), .val (.int p2), .val (.int p3), .val (.int p4), .val (.long z4), .second, .val (.long z11), .second, .val (.long z18), .second, .val (.long (1 : Int64)), .second, .val (.long z37), .second, .val (.long z48), .second, .val (.int z72), .val (.int z81), .val (.int z91), .val (.double z98), .second, .unset, .unset, .unset, .unset, .unset, .unset, .unset, .unset, .unset]) rfl ?_
        show Steps p.tables e below (s₁.setTop (mkF m 101 #[.val (.int p0), .val (.int p1), .val (.int p2), .val (.int p3), .val (.int p4), .val (.long z4), .second, .val (.long z11), .second, .val (.long z18), .second, .val (.long (1 : Int64)), .second, .val (.long z37), .second, .val (.long z48), .second, .val (.int z72), .val (.int z81), .val (.int z91), .val (.double z98), .second, .unset, .unset, .unset, .unset, .unset, .unset, .unset, .unset, .unset] [])) _
        refine XS.lconst X0.here hx rfl (hb hby at_101) ?_
        show Steps p.tables e below (s₁.setTop (mkF m 102 #[.val (.int p0), .val (.int p1), .val (.int p2), .val (.int p3), .val (.int p4), .val (.long z4), .second, .val (.long z11), .second, .val (.long z18), .second, .val (.long (1 : Int64)), .second, .val (.long z37), .second, .val (.long z48), .second, .val (.int z72), .val (.int z81), .val (.int z91), .val (.double z98), .second, .unset, .unset, .unset, .unset, .unset, .unset, .unset, .unset, .unset] [(.long (1 : Int64))])) _
        refine XS.iload X0.here hx rfl (hb hby at_102) rfl ?_
        show Steps p.tables e below (s₁.setTop (mkF m 104 #[.val (.int p0), .val (.int p1), .val (.int p2), .val (.int p3), .val (.int p4), .val (.long z4), .second, .val (.long z11), .second, .val (.long z18), .second, .val (.long (1 : Int64)), .second, .val (.long z37), .second, .val (.long z48), .second, .val (.int z72), .val (.int z81), .val (.int z91), .val (.double z98), .second, .unset, .unset, .unset, .unset, .unset, .unset, .unset, .unset, .unset] [(.int z81), (.long (1 : Int64))])) _
        refine Jvm.OwnK.lshl X0.here hx rfl (hb hby at_104) rfl hz104 ?_
        show Steps p.tables e below (s₁.setTop (mkF m 105 #[.val (.int p0), .val (.int p1), .val (.int p2), .val (.int p3), .val (.int p4), .val (.long z4), .second, .val (.long z11), .second, .val (.long z18), .second, .val (.long (1 : Int64)), .second, .val (.long z37), .second, .val (.long z48), .second, .val (.int z72), .val (.int z81), .val (.int z91), .val (.double z98), .second, .unset, .unset, .unset, .unset, .unset, .unset, .unset, .unset, .unset] [(.long z104)])) _
        refine XS.l2dS X0.here hx rfl (hb hby at_105) rfl hz105 ?_
        show Steps p.tables e below (s₁.setTop (mkF m 106 #[.val (.int p0), .val (.int p1), .val (.int p2), .val (.int p3), .val (.int p4), .val (.long z4), .second, .val (.long z11), .second, .val (.long z18), .second, .val (.long (1 : Int64)), .second, .val (.long z37), .second, .val (.long z48), .second, .val (.int z72), .val (.int z81), .val (.int z91), .val (.double z98), .second, .unset, .unset, .unset, .unset, .unset, .unset, .unset, .unset, .unset] [(.double z105)])) _
        refine XS.dstore X0.here hx rfl (hb hby at_106) rfl (l' := #[.val (.int p0), .val (.int p1), .val (.int p2), .val (.int p3), .val (.int p4), .val (.long z4), .second, .val (.long z11), .second, .val (.long z18), .second, .val (.long (1 : Int64)), .second, .val (.long z37), .second, .val (.long z48), .second, .val (.int z72), .val (.int z81), .val (.int z91), .val (.double z98), .second, .val (.double z105), .second, .unset, .unset, .unset, .unset, .unset, .unset, .unset]) rfl ?_
        show Steps p.tables e below (s₁.setTop (mkF m 108 #[.val (.int p0), .val (.int p1), .val (.int p2), .val (.int p3), .val (.int p4), .val (.long z4), .second, .val (.long z11), .second, .val (.long z18), .second, .val (.long (1 : Int64)), .second, .val (.long z37), .second, .val (.long z48), .second, .val (.int z72), .val (.int z81), .val (.int z91), .val (.double z98), .second, .val (.double z105), .second, .unset, .unset, .unset, .unset, .unset, .unset, .unset] [])) _
        refine st3 _ ?_
        show Steps p.tables e below (T3.setTop (mkF m 111 #[.val (.int p0), .val (.int p1), .val (.int p2), .val (.int p3), .val (.int p4), .val (.long z4), .second, .val (.long z11), .second, .val (.long z18), .second, .val (.long (1 : Int64)), .second, .val (.long z37), .second, .val (.long z48), .second, .val (.int z72), .val (.int z81), .val (.int z91), .val (.double z98), .second, .val (.double z105), .second, .unset, .unset, .unset, .unset, .unset, .unset, .unset] [(.ref b3)])) _
        refine XS.dup X3.here hx rfl (hb hby at_111) rfl rfl ?_
        show Steps p.tables e below (T3.setTop (mkF m 112 #[.val (.int p0), .val (.int p1), .val (.int p2), .val (.int p3), .val (.int p4), .val (.long z4), .second, .val (.long z11), .second, .val (.long z18), .second, .val (.long (1 : Int64)), .second, .val (.long z37), .second, .val (.long z48), .second, .val (.int z72), .val (.int z81), .val (.int z91), .val (.double z98), .second, .val (.double z105), .second, .unset, .unset, .unset, .unset, .unset, .unset, .unset] [(.ref b3), (.ref b3)])) _
        refine XS.dload X3.here hx rfl (hb hby at_112) rfl ?_
        show Steps p.tables e below (T3.setTop (mkF m 114 #[.val (.int p0), .val (.int p1), .val (.int p2), .val (.int p3), .val (.int p4), .val (.long z4), .second, .val (.long z11), .second, .val (.long z18), .second, .val (.long (1 : Int64)), .second, .val (.long z37), .second, .val (.long z48), .second, .val (.int z72), .val (.int z81), .val (.int z91), .val (.double z98), .second, .val (.double z105), .second, .unset, .unset, .unset, .unset, .unset, .unset, .unset] [(.double z98), (.ref b3), (.ref b3)])) _
        refine XS.dload X3.here hx rfl (hb hby at_114) rfl ?_
        show Steps p.tables e below (T3.setTop (mkF m 116 #[.val (.int p0), .val (.int p1), .val (.int p2), .val (.int p3), .val (.int p4), .val (.long z4), .second, .val (.long z11), .second, .val (.long z18), .second, .val (.long (1 : Int64)), .second, .val (.long z37), .second, .val (.long z48), .second, .val (.int z72), .val (.int z81), .val (.int z91), .val (.double z98), .second, .val (.double z105), .second, .unset, .unset, .unset, .unset, .unset, .unset, .unset] [(.double z105), (.double z98), (.ref b3), (.ref b3)])) _
        refine XS.lload X3.here hx rfl (hb hby at_116) rfl ?_
        show Steps p.tables e below (T3.setTop (mkF m 118 #[.val (.int p0), .val (.int p1), .val (.int p2), .val (.int p3), .val (.int p4), .val (.long z4), .second, .val (.long z11), .second, .val (.long z18), .second, .val (.long (1 : Int64)), .second, .val (.long z37), .second, .val (.long z48), .second, .val (.int z72), .val (.int z81), .val (.int z91), .val (.double z98), .second, .val (.double z105), .second, .unset, .unset, .unset, .unset, .unset, .unset, .unset] [(.long (1 : Int64)), (.double z105), (.double z98), (.ref b3), (.ref b3)])) _
        refine XS.l2dS X3.here hx rfl (hb hby at_118) rfl hz118 ?_
        show Steps p.tables e below (T3.setTop (mkF m 119 #[.val (.int p0), .val (.int p1), .val (.int p2), .val (.int p3), .val (.int p4), .val (.long z4), .second, .val (.long z11), .second, .val (.long z18), .second, .val (.long (1 : Int64)), .second, .val (.long z37), .second, .val (.long z48), .second, .val (.int z72), .val (.int z81), .val (.int z91), .val (.double z98), .second, .val (.double z105), .second, .unset, .unset, .unset, .unset, .unset, .unset, .unset] [(.double z118), (.double z105), (.double z98), (.ref b3), (.ref b3)])) _
        refine XS.lload X3.here hx rfl (hb hby at_119) rfl ?_
        show Steps p.tables e below (T3.setTop (mkF m 121 #[.val (.int p0), .val (.int p1), .val (.int p2), .val (.int p3), .val (.int p4), .val (.long z4), .second, .val (.long z11), .second, .val (.long z18), .second, .val (.long (1 : Int64)), .second, .val (.long z37), .second, .val (.long z48), .second, .val (.int z72), .val (.int z81), .val (.int z91), .val (.double z98), .second, .val (.double z105), .second, .unset, .unset, .unset, .unset, .unset, .unset, .unset] [(.long z37), (.double z118), (.double z105), (.double z98), (.ref b3), (.ref b3)])) _
        refine XS.l2dS X3.here hx rfl (hb hby at_121) rfl hz121 ?_
        show Steps p.tables e below (T3.setTop (mkF m 122 #[.val (.int p0), .val (.int p1), .val (.int p2), .val (.int p3), .val (.int p4), .val (.long z4), .second, .val (.long z11), .second, .val (.long z18), .second, .val (.long (1 : Int64)), .second, .val (.long z37), .second, .val (.long z48), .second, .val (.int z72), .val (.int z81), .val (.int z91), .val (.double z98), .second, .val (.double z105), .second, .unset, .unset, .unset, .unset, .unset, .unset, .unset] [(.double z121), (.double z118), (.double z105), (.double z98), (.ref b3), (.ref b3)])) _
        refine XS.lload X3.here hx rfl (hb hby at_122) rfl ?_
        show Steps p.tables e below (T3.setTop (mkF m 124 #[.val (.int p0), .val (.int p1), .val (.int p2), .val (.int p3), .val (.int p4), .val (.long z4), .second, .val (.long z11), .second, .val (.long z18), .second, .val (.long (1 : Int64)), .second, .val (.long z37), .second, .val (.long z48), .second, .val (.int z72), .val (.int z81), .val (.int z91), .val (.double z98), .second, .val (.double z105), .second, .unset, .unset, .unset, .unset, .unset, .unset, .unset] [(.long z48), (.double z121), (.double z118), (.double z105), (.double z98), (.ref b3), (.ref b3)])) _
        refine XS.l2dS X3.here hx rfl (hb hby at_124) rfl hz124 ?_
        show Steps p.tables e below (T3.setTop (mkF m 125 #[.val (.int p0), .val (.int p1), .val (.int p2), .val (.int p3), .val (.int p4), .val (.long z4), .second, .val (.long z11), .second, .val (.long z18), .second, .val (.long (1 : Int64)), .second, .val (.long z37), .second, .val (.long z48), .second, .val (.int z72), .val (.int z81), .val (.int z91), .val (.double z98), .second, .val (.double z105), .second, .unset, .unset, .unset, .unset, .unset, .unset, .unset] [(.double z124), (.double z121), (.double z118), (.double z105), (.double z98), (.ref b3), (.ref b3)])) _
        refine st5.trans ?_
        show Steps p.tables e below (T5.setTop (mkF m 128 #[.val (.int p0), .val (.int p1), .val (.int p2), .val (.int p3), .val (.int p4), .val (.long z4), .second, .val (.long z11), .second, .val (.long z18), .second, .val (.long (1 : Int64)), .second, .val (.long z37), .second, .val (.long z48), .second, .val (.int z72), .val (.int z81), .val (.int z91), .val (.double z98), .second, .val (.double z105), .second, .unset, .unset, .unset, .unset, .unset, .unset, .unset] [(.ref b3)])) _
        refine XS.astore X5.here hx rfl (hb hby at_128) rfl rfl (l' := #[.val (.int p0), .val (.int p1), .val (.int p2), .val (.int p3), .val (.int p4), .val (.long z4), .second, .val (.long z11), .second, .val (.long z18), .second, .val (.long (1 : Int64)), .second, .val (.long z37), .second, .val (.long z48), .second, .val (.int z72), .val (.int z81), .val (.int z91), .val (.double z98), .second, .val (.double z105), .second, .val (.ref b3), .unset, .unset, .unset, .unset, .unset, .unset]) rfl ?_
        show Steps p.tables e below (T5.setTop (mkF m 130 #[.val (.int p0), .val (.int p1), .val (.int p2), .val (.int p3), .val (.int p4), .val (.long z4), .second, .val (.long z11), .second, .val (.long z18), .second, .val (.long (1 : Int64)), .second, .val (.long z37), .second, .val (.long z48), .second, .val (.int z72), .val (.int z81), .val (.int z91), .val (.double z98), .second, .val (.double z105), .second, .val (.ref b3), .unset, .unset, .unset, .unset, .unset, .unset] [])) _
        refine XS.lload X5.here hx rfl (hb hby at_130) rfl ?_
        show Steps p.tables e below (T5.setTop (mkF m 132 #[.val (.int p0), .val (.int p1), .val (.int p2), .val (.int p3), .val (.int p4), .val (.long z4), .second, .val (.long z11), .second, .val (.long z18), .second, .val (.long (1 : Int64)), .second, .val (.long z37), .second, .val (.long z48), .second, .val (.int z72), .val (.int z81), .val (.int z91), .val (.double z98), .second, .val (.double z105), .second, .val (.ref b3), .unset, .unset, .unset, .unset, .unset, .unset] [(.long z18)])) _
        refine XS.l2dS X5.here hx rfl (hb hby at_132) rfl hz132 ?_
        show Steps p.tables e below (T5.setTop (mkF m 133 #[.val (.int p0), .val (.int p1), .val (.int p2), .val (.int p3), .val (.int p4), .val (.long z4), .second, .val (.long z11), .second, .val (.long z18), .second, .val (.long (1 : Int64)), .second, .val (.long z37), .second, .val (.long z48), .second, .val (.int z72), .val (.int z81), .val (.int z91), .val (.double z98), .second, .val (.double z105), .second, .val (.ref b3), .unset, .unset, .unset, .unset, .unset, .unset] [(.double z132)])) _
        refine XS.lconst X5.here hx rfl (hb hby at_133) ?_
        show Steps p.tables e below (T5.setTop (mkF m 134 #[.val (.int p0), .val (.int p1), .val (.int p2), .val (.int p3), .val (.int p4), .val (.long z4), .second, .val (.long z11), .second, .val (.long z18), .second, .val (.long (1 : Int64)), .second, .val (.long z37), .second, .val (.long z48), .second, .val (.int z72), .val (.int z81), .val (.int z91), .val (.double z98), .second, .val (.double z105), .second, .val (.ref b3), .unset, .unset, .unset, .unset, .unset, .unset] [(.long (1 : Int64)), (.double z132)])) _
        refine XS.iload X5.here hx rfl (hb hby at_134) rfl ?_
        show Steps p.tables e below (T5.setTop (mkF m 136 #[.val (.int p0), .val (.int p1), .val (.int p2), .val (.int p3), .val (.int p4), .val (.long z4), .second, .val (.long z11), .second, .val (.long z18), .second, .val (.long (1 : Int64)), .second, .val (.long z37), .second, .val (.long z48), .second, .val (.int z72), .val (.int z81), .val (.int z91), .val (.double z98), .second, .val (.double z105), .second, .val (.ref b3), .unset, .unset, .unset, .unset, .unset, .unset] [(.int z91), (.long (1 : Int64)), (.double z132)])) _
        refine Jvm.OwnK.lshl X5.here hx rfl (hb hby at_136) rfl hz136 ?_
        show Steps p.tables e below (T5.setTop (mkF m 137 #[.val (.int p0), .val (.int p1), .val (.int p2), .val (.int p3), .val (.int p4), .val (.long z4), .second, .val (.long z11), .second, .val (.long z18), .second, .val (.long (1 : Int64)), .second, .val (.long z37), .second, .val (.long z48), .second, .val (.int z72), .val (.int z81), .val (.int z91), .val (.double z98), .second, .val (.double z105), .second, .val (.ref b3), .unset, .unset, .unset, .unset, .unset, .unset] [(.long z136), (.double z132)])) _
        refine XS.l2dS X5.here hx rfl (hb hby at_137) rfl hz137 ?_
        show Steps p.tables e below (T5.setTop (mkF m 138 #[.val (.int p0), .val (.int p1), .val (.int p2), .val (.int p3), .val (.int p4), .val (.long z4), .second, .val (.long z11), .second, .val (.long z18), .second, .val (.long (1 : Int64)), .second, .val (.long z37), .second, .val (.long z48), .second, .val (.int z72), .val (.int z81), .val (.int z91), .val (.double z98), .second, .val (.double z105), .second, .val (.ref b3), .unset, .unset, .unset, .unset, .unset, .unset] [(.double z137), (.double z132)])) _
        refine Jvm.OwnK.ddiv X5.here hx rfl (hb hby at_138) rfl hz138 nn138 ?_
        show Steps p.tables e below (T5.setTop (mkF m 139 #[.val (.int p0), .val (.int p1), .val (.int p2), .val (.int p3), .val (.int p4), .val (.long z4), .second, .val (.long z11), .second, .val (.long z18), .second, .val (.long (1 : Int64)), .second, .val (.long z37), .second, .val (.long z48), .second, .val (.int z72), .val (.int z81), .val (.int z91), .val (.double z98), .second, .val (.double z105), .second, .val (.ref b3), .unset, .unset, .unset, .unset, .unset, .unset] [(.double z138)])) _
        refine XS.dstore X5.here hx rfl (hb hby at_139) rfl (l' := #[.val (.int p0), .val (.int p1), .val (.int p2), .val (.int p3), .val (.int p4), .val (.long z4), .second, .val (.long z11), .second, .val (.long z18), .second, .val (.long (1 : Int64)), .second, .val (.long z37), .second, .val (.long z48), .second, .val (.int z72), .val (.int z81), .val (.int z91), .val (.double z98), .second, .val (.double z105), .second, .val (.ref b3), .val (.double z138), .second, .unset, .unset, .unset, .unset]) rfl ?_
        show Steps p.tables e below (T5.setTop (mkF m 141 #[.val (.int p0), .val (.int p1), .val (.int p2), .val (.int p3), .val (.int p4), .val (.long z4), .second, .val (.long z11), .second, .val (.long z18), .second, .val (.long (1 : Int64)), .second, .val (.long z37), .second, .val (.long z48), .second, .val (.int z72), .val (.int z81), .val (.int z91), .val (.double z98), .second, .val (.double z105), .second, .val (.ref b3), .val (.double z138), .second, .unset, .unset, .unset, .unset] [])) _
        refine XS.aload X5.here hx rfl (hb hby at_141) rfl rfl ?_
        show Steps p.tables e below (T5.setTop (mkF m 143 #[.val (.int p0), .val (.int p1), .val (.int p2), .val (.int p3), .val (.int p4), .val (.long z4), .second, .val (.long z11), .second, .val (.long z18), .second, .val (.long (1 : Int64)), .second, .val (.long z37), .second, .val (.long z48), .second, .val (.int z72), .val (.int z81), .val (.int z91), .val (.double z98), .second, .val (.double z105), .second, .val (.ref b3), .val (.double z138), .second, .unset, .unset, .unset, .unset] [(.ref b3)])) _
        refine XS.lload X5.here hx rfl (hb hby at_143) rfl ?_
        show Steps p.tables e below (T5.setTop (mkF m 145 #[.val (.int p0), .val (.int p1), .val (.int p2), .val (.int p3), .val (.int p4), .val (.long z4), .second, .val (.long z11), .second, .val (.long z18), .second, .val (.long (1 : Int64)), .second, .val (.long z37), .second, .val (.long z48), .second, .val (.int z72), .val (.int z81), .val (.int z91), .val (.double z98), .second, .val (.double z105), .second, .val (.ref b3), .val (.double z138), .second, .unset, .unset, .unset, .unset] [(.long z4), (.ref b3)])) _
        refine XS.l2dS X5.here hx rfl (hb hby at_145) rfl hz145 ?_
        show Steps p.tables e below (T5.setTop (mkF m 146 #[.val (.int p0), .val (.int p1), .val (.int p2), .val (.int p3), .val (.int p4), .val (.long z4), .second, .val (.long z11), .second, .val (.long z18), .second, .val (.long (1 : Int64)), .second, .val (.long z37), .second, .val (.long z48), .second, .val (.int z72), .val (.int z81), .val (.int z91), .val (.double z98), .second, .val (.double z105), .second, .val (.ref b3), .val (.double z138), .second, .unset, .unset, .unset, .unset] [(.double z145), (.ref b3)])) _
        refine XS.lload X5.here hx rfl (hb hby at_146) rfl ?_
        show Steps p.tables e below (T5.setTop (mkF m 148 #[.val (.int p0), .val (.int p1), .val (.int p2), .val (.int p3), .val (.int p4), .val (.long z4), .second, .val (.long z11), .second, .val (.long z18), .second, .val (.long (1 : Int64)), .second, .val (.long z37), .second, .val (.long z48), .second, .val (.int z72), .val (.int z81), .val (.int z91), .val (.double z98), .second, .val (.double z105), .second, .val (.ref b3), .val (.double z138), .second, .unset, .unset, .unset, .unset] [(.long z11), (.double z145), (.ref b3)])) _
        refine XS.l2dS X5.here hx rfl (hb hby at_148) rfl hz148 ?_
        show Steps p.tables e below (T5.setTop (mkF m 149 #[.val (.int p0), .val (.int p1), .val (.int p2), .val (.int p3), .val (.int p4), .val (.long z4), .second, .val (.long z11), .second, .val (.long z18), .second, .val (.long (1 : Int64)), .second, .val (.long z37), .second, .val (.long z48), .second, .val (.int z72), .val (.int z81), .val (.int z91), .val (.double z98), .second, .val (.double z105), .second, .val (.ref b3), .val (.double z138), .second, .unset, .unset, .unset, .unset] [(.double z148), (.double z145), (.ref b3)])) _
        refine XS.dload X5.here hx rfl (hb hby at_149) rfl ?_
        show Steps p.tables e below (T5.setTop (mkF m 151 #[.val (.int p0), .val (.int p1), .val (.int p2), .val (.int p3), .val (.int p4), .val (.long z4), .second, .val (.long z11), .second, .val (.long z18), .second, .val (.long (1 : Int64)), .second, .val (.long z37), .second, .val (.long z48), .second, .val (.int z72), .val (.int z81), .val (.int z91), .val (.double z98), .second, .val (.double z105), .second, .val (.ref b3), .val (.double z138), .second, .unset, .unset, .unset, .unset] [(.double z138), (.double z148), (.double z145), (.ref b3)])) _
        refine st7.trans ?_
        show Steps p.tables e below (T7.setTop (mkF m 154 #[.val (.int p0), .val (.int p1), .val (.int p2), .val (.int p3), .val (.int p4), .val (.long z4), .second, .val (.long z11), .second, .val (.long z18), .second, .val (.long (1 : Int64)), .second, .val (.long z37), .second, .val (.long z48), .second, .val (.int z72), .val (.int z81), .val (.int z91), .val (.double z98), .second, .val (.double z105), .second, .val (.ref b3), .val (.double z138), .second, .unset, .unset, .unset, .unset] [(.double c151_z30)])) _
        refine XS.dstore X7.here hx rfl (hb hby at_154) rfl (l' := #[.val (.int p0), .val (.int p1), .val (.int p2), .val (.int p3), .val (.int p4), .val (.long z4), .second, .val (.long z11), .second, .val (.long z18), .second, .val (.long (1 : Int64)), .second, .val (.long z37), .second, .val (.long z48), .second, .val (.int z72), .val (.int z81), .val (.int z91), .val (.double z98), .second, .val (.double z105), .second, .val (.ref b3), .val (.double z138), .second, .val (.double c151_z30), .second, .unset, .unset]) rfl ?_
        show Steps p.tables e below (T7.setTop (mkF m 156 #[.val (.int p0), .val (.int p1), .val (.int p2), .val (.int p3), .val (.int p4), .val (.long z4), .second, .val (.long z11), .second, .val (.long z18), .second, .val (.long (1 : Int64)), .second, .val (.long z37), .second, .val (.long z48), .second, .val (.int z72), .val (.int z81), .val (.int z91), .val (.double z98), .second, .val (.double z105), .second, .val (.ref b3), .val (.double z138), .second, .val (.double c151_z30), .second, .unset, .unset] [])) _
        refine XS.lload X7.here hx rfl (hb hby at_156) rfl ?_
        show Steps p.tables e below (T7.setTop (mkF m 158 #[.val (.int p0), .val (.int p1), .val (.int p2), .val (.int p3), .val (.int p4), .val (.long z4), .second, .val (.long z11), .second, .val (.long z18), .second, .val (.long (1 : Int64)), .second, .val (.long z37), .second, .val (.long z48), .second, .val (.int z72), .val (.int z81), .val (.int z91), .val (.double z98), .second, .val (.double z105), .second, .val (.ref b3), .val (.double z138), .second, .val (.double c151_z30), .second, .unset, .unset] [(.long (1 : Int64))])) _
        refine XS.lload X7.here hx rfl (hb hby at_158) rfl ?_
        show Steps p.tables e below (T7.setTop (mkF m 160 #[.val (.int p0), .val (.int p1), .val (.int p2), .val (.int p3), .val (.int p4), .val (.long z4), .second, .val (.long z11), .second, .val (.long z18), .second, .val (.long (1 : Int64)), .second, .val (.long z37), .second, .val (.long z48), .second, .val (.int z72), .val (.int z81), .val (.int z91), .val (.double z98), .second, .val (.double z105), .second, .val (.ref b3), .val (.double z138), .second, .val (.double c151_z30), .second, .unset, .unset] [(.long z4), (.long (1 : Int64))])) _
        refine Jvm.OwnK.lmul X7.here hx rfl (hb hby at_160) rfl hz160 ?_
        show Steps p.tables e below (T7.setTop (mkF m 161 #[.val (.int p0), .val (.int p1), .val (.int p2), .val (.int p3), .val (.int p4), .val (.long z4), .second, .val (.long z11), .second, .val (.long z18), .second, .val (.long (1 : Int64)), .second, .val (.long z37), .second, .val (.long z48), .second, .val (.int z72), .val (.int z81), .val (.int z91), .val (.double z98), .second, .val (.double z105), .second, .val (.ref b3), .val (.double z138), .second, .val (.double c151_z30), .second, .unset, .unset] [(.long z160)])) _
        refine XS.lconst X7.here hx rfl (hb hby at_161) ?_
        show Steps p.tables e below (T7.setTop (mkF m 162 #[.val (.int p0), .val (.int p1), .val (.int p2), .val (.int p3), .val (.int p4), .val (.long z4), .second, .val (.long z11), .second, .val (.long z18), .second, .val (.long (1 : Int64)), .second, .val (.long z37), .second, .val (.long z48), .second, .val (.int z72), .val (.int z81), .val (.int z91), .val (.double z98), .second, .val (.double z105), .second, .val (.ref b3), .val (.double z138), .second, .val (.double c151_z30), .second, .unset, .unset] [(.long (1 : Int64)), (.long z160)])) _
        refine XS.iload X7.here hx rfl (hb hby at_162) rfl ?_
        show Steps p.tables e below (T7.setTop (mkF m 164 #[.val (.int p0), .val (.int p1), .val (.int p2), .val (.int p3), .val (.int p4), .val (.long z4), .second, .val (.long z11), .second, .val (.long z18), .second, .val (.long (1 : Int64)), .second, .val (.long z37), .second, .val (.long z48), .second, .val (.int z72), .val (.int z81), .val (.int z91), .val (.double z98), .second, .val (.double z105), .second, .val (.ref b3), .val (.double z138), .second, .val (.double c151_z30), .second, .unset, .unset] [(.int z81), (.long (1 : Int64)), (.long z160)])) _
        refine XS.iload X7.here hx rfl (hb hby at_164) rfl ?_
        show Steps p.tables e below (T7.setTop (mkF m 166 #[.val (.int p0), .val (.int p1), .val (.int p2), .val (.int p3), .val (.int p4), .val (.long z4), .second, .val (.long z11), .second, .val (.long z18), .second, .val (.long (1 : Int64)), .second, .val (.long z37), .second, .val (.long z48), .second, .val (.int z72), .val (.int z81), .val (.int z91), .val (.double z98), .second, .val (.double z105), .second, .val (.ref b3), .val (.double z138), .second, .val (.double c151_z30), .second, .unset, .unset] [(.int z91), (.int z81), (.long (1 : Int64)), (.long z160)])) _
        refine Jvm.OwnK.iadd X7.here hx rfl (hb hby at_166) rfl hz166 ?_
        show Steps p.tables e below (T7.setTop (mkF m 167 #[.val (.int p0), .val (.int p1), .val (.int p2), .val (.int p3), .val (.int p4), .val (.long z4), .second, .val (.long z11), .second, .val (.long z18), .second, .val (.long (1 : Int64)), .second, .val (.long z37), .second, .val (.long z48), .second, .val (.int z72), .val (.int z81), .val (.int z91), .val (.double z98), .second, .val (.double z105), .second, .val (.ref b3), .val (.double z138), .second, .val (.double c151_z30), .second, .unset, .unset] [(.int z166), (.long (1 : Int64)), (.long z160)])) _
        refine Jvm.OwnK.lshl X7.here hx rfl (hb hby at_167) rfl hz167 ?_
        show Steps p.tables e below (T7.setTop (mkF m 168 #[.val (.int p0), .val (.int p1), .val (.int p2), .val (.int p3), .val (.int p4), .val (.long z4), .second, .val (.long z11), .second, .val (.long z18), .second, .val (.long (1 : Int64)), .second, .val (.long z37), .second, .val (.long z48), .second, .val (.int z72), .val (.int z81), .val (.int z91), .val (.double z98), .second, .val (.double z105), .second, .val (.ref b3), .val (.double z138), .second, .val (.double c151_z30), .second, .unset, .unset] [(.long z167), (.long z160)])) _
        refine Jvm.OwnK.lmul X7.here hx rfl (hb hby at_168) rfl hz168 ?_
        show Steps p.tables e below (T7.setTop (mkF m 169 #[.val (.int p0), .val (.int p1), .val (.int p2), .val (.int p3), .val (.int p4), .val (.long z4), .second, .val (.long z11), .second, .val (.long z18), .second, .val (.long (1 : Int64)), .second, .val (.long z37), .second, .val (.long z48), .second, .val (.int z72), .val (.int z81), .val (.int z91), .val (.double z98), .second, .val (.double z105), .second, .val (.ref b3), .val (.double z138), .second, .val (.double c151_z30), .second, .unset, .unset] [(.long z168)])) _
        refine XS.lload X7.here hx rfl (hb hby at_169) rfl ?_
        show Steps p.tables e below (T7.setTop (mkF m 171 #[.val (.int p0), .val (.int p1), .val (.int p2), .val (.int p3), .val (.int p4), .val (.long z4), .second, .val (.long z11), .second, .val (.long z18), .second, .val (.long (1 : Int64)), .second, .val (.long z37), .second, .val (.long z48), .second, .val (.int z72), .val (.int z81), .val (.int z91), .val (.double z98), .second, .val (.double z105), .second, .val (.ref b3), .val (.double z138), .second, .val (.double c151_z30), .second, .unset, .unset] [(.long z37), (.long z168)])) _
        refine XS.lload X7.here hx rfl (hb hby at_171) rfl ?_
        show Steps p.tables e below (T7.setTop (mkF m 173 #[.val (.int p0), .val (.int p1), .val (.int p2), .val (.int p3), .val (.int p4), .val (.long z4), .second, .val (.long z11), .second, .val (.long z18), .second, .val (.long (1 : Int64)), .second, .val (.long z37), .second, .val (.long z48), .second, .val (.int z72), .val (.int z81), .val (.int z91), .val (.double z98), .second, .val (.double z105), .second, .val (.ref b3), .val (.double z138), .second, .val (.double c151_z30), .second, .unset, .unset] [(.long z11), (.long z37), (.long z168)])) _
        refine Jvm.OwnK.lmul X7.here hx rfl (hb hby at_173) rfl hz173 ?_
        show Steps p.tables e below (T7.setTop (mkF m 174 #[.val (.int p0), .val (.int p1), .val (.int p2), .val (.int p3), .val (.int p4), .val (.long z4), .second, .val (.long z11), .second, .val (.long z18), .second, .val (.long (1 : Int64)), .second, .val (.long z37), .second, .val (.long z48), .second, .val (.int z72), .val (.int z81), .val (.int z91), .val (.double z98), .second, .val (.double z105), .second, .val (.ref b3), .val (.double z138), .second, .val (.double c151_z30), .second, .unset, .unset] [(.long z173), (.long z168)])) _
        refine XS.lconst X7.here hx rfl (hb hby at_174) ?_
        show Steps p.tables e below (T7.setTop (mkF m 175 #[.val (.int p0), .val (.int p1), .val (.int p2), .val (.int p3), .val (.int p4), .val (.long z4), .second, .val (.long z11), .second, .val (.long z18), .second, .val (.long (1 : Int64)), .second, .val (.long z37), .second, .val (.long z48), .second, .val (.int z72), .val (.int z81), .val (.int z91), .val (.double z98), .second, .val (.double z105), .second, .val (.ref b3), .val (.double z138), .second, .val (.double c151_z30), .second, .unset, .unset] [(.long (1 : Int64)), (.long z173), (.long z168)])) _
        refine XS.iload X7.here hx rfl (hb hby at_175) rfl ?_
        show Steps p.tables e below (T7.setTop (mkF m 177 #[.val (.int p0), .val (.int p1), .val (.int p2), .val (.int p3), .val (.int p4), .val (.long z4), .second, .val (.long z11), .second, .val (.long z18), .second, .val (.long (1 : Int64)), .second, .val (.long z37), .second, .val (.long z48), .second, .val (.int z72), .val (.int z81), .val (.int z91), .val (.double z98), .second, .val (.double z105), .second, .val (.ref b3), .val (.double z138), .second, .val (.double c151_z30), .second, .unset, .unset] [(.int z72), (.long (1 : Int64)), (.long z173), (.long z168)])) _
        refine XS.iload X7.here hx rfl (hb hby at_177) rfl ?_
        show Steps p.tables e below (T7.setTop (mkF m 179 #[.val (.int p0), .val (.int p1), .val (.int p2), .val (.int p3), .val (.int p4), .val (.long z4), .second, .val (.long z11), .second, .val (.long z18), .second, .val (.long (1 : Int64)), .second, .val (.long z37), .second, .val (.long z48), .second, .val (.int z72), .val (.int z81), .val (.int z91), .val (.double z98), .second, .val (.double z105), .second, .val (.ref b3), .val (.double z138), .second, .val (.double c151_z30), .second, .unset, .unset] [(.int z91), (.int z72), (.long (1 : Int64)), (.long z173), (.long z168)])) _
        refine Jvm.OwnK.iadd X7.here hx rfl (hb hby at_179) rfl hz179 ?_
        show Steps p.tables e below (T7.setTop (mkF m 180 #[.val (.int p0), .val (.int p1), .val (.int p2), .val (.int p3), .val (.int p4), .val (.long z4), .second, .val (.long z11), .second, .val (.long z18), .second, .val (.long (1 : Int64)), .second, .val (.long z37), .second, .val (.long z48), .second, .val (.int z72), .val (.int z81), .val (.int z91), .val (.double z98), .second, .val (.double z105), .second, .val (.ref b3), .val (.double z138), .second, .val (.double c151_z30), .second, .unset, .unset] [(.int z179), (.long (1 : Int64)), (.long z173), (.long z168)])) _
        refine Jvm.OwnK.lshl X7.here hx rfl (hb hby at_180) rfl hz180 ?_
        show Steps p.tables e below (T7.setTop (mkF m 181 #[.val (.int p0), .val (.int p1), .val (.int p2), .val (.int p3), .val (.int p4), .val (.long z4), .second, .val (.long z11), .second, .val (.long z18), .second, .val (.long (1 : Int64)), .second, .val (.long z37), .second, .val (.long z48), .second, .val (.int z72), .val (.int z81), .val (.int z91), .val (.double z98), .second, .val (.double z105), .second, .val (.ref b3), .val (.double z138), .second, .val (.double c151_z30), .second, .unset, .unset] [(.long z180), (.long z173), (.long z168)])) _
        refine Jvm.OwnK.lmul X7.here hx rfl (hb hby at_181) rfl hz181 ?_
        show Steps p.tables e below (T7.setTop (mkF m 182 #[.val (.int p0), .val (.int p1), .val (.int p2), .val (.int p3), .val (.int p4), .val (.long z4), .second, .val (.long z11), .second, .val (.long z18), .second, .val (.long (1 : Int64)), .second, .val (.long z37), .second, .val (.long z48), .second, .val (.int z72), .val (.int z81), .val (.int z91), .val (.double z98), .second, .val (.double z105), .second, .val (.ref b3), .val (.double z138), .second, .val (.double c151_z30), .second, .unset, .unset] [(.long z181), (.long z168)])) _
        refine Jvm.OwnK.ladd X7.here hx rfl (hb hby at_182) rfl hz182 ?_
        show Steps p.tables e below (T7.setTop (mkF m 183 #[.val (.int p0), .val (.int p1), .val (.int p2), .val (.int p3), .val (.int p4), .val (.long z4), .second, .val (.long z11), .second, .val (.long z18), .second, .val (.long (1 : Int64)), .second, .val (.long z37), .second, .val (.long z48), .second, .val (.int z72), .val (.int z81), .val (.int z91), .val (.double z98), .second, .val (.double z105), .second, .val (.ref b3), .val (.double z138), .second, .val (.double c151_z30), .second, .unset, .unset] [(.long z182)])) _
        refine XS.lload X7.here hx rfl (hb hby at_183) rfl ?_
        show Steps p.tables e below (T7.setTop (mkF m 185 #[.val (.int p0), .val (.int p1), .val (.int p2), .val (.int p3), .val (.int p4), .val (.long z4), .second, .val (.long z11), .second, .val (.long z18), .second, .val (.long (1 : Int64)), .second, .val (.long z37), .second, .val (.long z48), .second, .val (.int z72), .val (.int z81), .val (.int z91), .val (.double z98), .second, .val (.double z105), .second, .val (.ref b3), .val (.double z138), .second, .val (.double c151_z30), .second, .unset, .unset] [(.long z48), (.long z182)])) _
        refine XS.lload X7.here hx rfl (hb hby at_185) rfl ?_
        show Steps p.tables e below (T7.setTop (mkF m 187 #[.val (.int p0), .val (.int p1), .val (.int p2), .val (.int p3), .val (.int p4), .val (.long z4), .second, .val (.long z11), .second, .val (.long z18), .second, .val (.long (1 : Int64)), .second, .val (.long z37), .second, .val (.long z48), .second, .val (.int z72), .val (.int z81), .val (.int z91), .val (.double z98), .second, .val (.double z105), .second, .val (.ref b3), .val (.double z138), .second, .val (.double c151_z30), .second, .unset, .unset] [(.long z18), (.long z48), (.long z182)])) _
        refine Jvm.OwnK.lmul X7.here hx rfl (hb hby at_187) rfl hz187 ?_
        show Steps p.tables e below (T7.setTop (mkF m 188 #[.val (.int p0), .val (.int p1), .val (.int p2), .val (.int p3), .val (.int p4), .val (.long z4), .second, .val (.long z11), .second, .val (.long z18), .second, .val (.long (1 : Int64)), .second, .val (.long z37), .second, .val (.long z48), .second, .val (.int z72), .val (.int z81), .val (.int z91), .val (.double z98), .second, .val (.double z105), .second, .val (.ref b3), .val (.double z138), .second, .val (.double c151_z30), .second, .unset, .unset] [(.long z187), (.long z182)])) _
        refine XS.lconst X7.here hx rfl (hb hby at_188) ?_
        show Steps p.tables e below (T7.setTop (mkF m 189 #[.val (.int p0), .val (.int p1), .val (.int p2), .val (.int p3), .val (.int p4), .val (.long z4), .second, .val (.long z11), .second, .val (.long z18), .second, .val (.long (1 : Int64)), .second, .val (.long z37), .second, .val (.long z48), .second, .val (.int z72), .val (.int z81), .val (.int z91), .val (.double z98), .second, .val (.double z105), .second, .val (.ref b3), .val (.double z138), .second, .val (.double c151_z30), .second, .unset, .unset] [(.long (1 : Int64)), (.long z187), (.long z182)])) _
        refine XS.iload X7.here hx rfl (hb hby at_189) rfl ?_
        show Steps p.tables e below (T7.setTop (mkF m 191 #[.val (.int p0), .val (.int p1), .val (.int p2), .val (.int p3), .val (.int p4), .val (.long z4), .second, .val (.long z11), .second, .val (.long z18), .second, .val (.long (1 : Int64)), .second, .val (.long z37), .second, .val (.long z48), .second, .val (.int z72), .val (.int z81), .val (.int z91), .val (.double z98), .second, .val (.double z105), .second, .val (.ref b3), .val (.double z138), .second, .val (.double c151_z30), .second, .unset, .unset] [(.int z72), (.long (1 : Int64)), (.long z187), (.long z182)])) _
        refine XS.iload X7.here hx rfl (hb hby at_191) rfl ?_
        show Steps p.tables e below (T7.setTop (mkF m 193 #[.val (.int p0), .val (.int p1), .val (.int p2), .val (.int p3), .val (.int p4), .val (.long z4), .second, .val (.long z11), .second, .val (.long z18), .second, .val (.long (1 : Int64)), .second, .val (.long z37), .second, .val (.long z48), .second, .val (.int z72), .val (.int z81), .val (.int z91), .val (.double z98), .second, .val (.double z105), .second, .val (.ref b3), .val (.double z138), .second, .val (.double c151_z30), .second, .unset, .unset] [(.int z81), (.int z72), (.long (1 : Int64)), (.long z187), (.long z182)])) _
        refine Jvm.OwnK.iadd X7.here hx rfl (hb hby at_193) rfl hz193 ?_
        show Steps p.tables e below (T7.setTop (mkF m 194 #[.val (.int p0), .val (.int p1), .val (.int p2), .val (.int p3), .val (.int p4), .val (.long z4), .second, .val (.long z11), .second, .val (.long z18), .second, .val (.long (1 : Int64)), .second, .val (.long z37), .second, .val (.long z48), .second, .val (.int z72), .val (.int z81), .val (.int z91), .val (.double z98), .second, .val (.double z105), .second, .val (.ref b3), .val (.double z138), .second, .val (.double c151_z30), .second, .unset, .unset] [(.int z193), (.long (1 : Int64)), (.long z187), (.long z182)])) _
        refine Jvm.OwnK.lshl X7.here hx rfl (hb hby at_194) rfl hz194 ?_
        show Steps p.tables e below (T7.setTop (mkF m 195 #[.val (.int p0), .val (.int p1), .val (.int p2), .val (.int p3), .val (.int p4), .val (.long z4), .second, .val (.long z11), .second, .val (.long z18), .second, .val (.long (1 : Int64)), .second, .val (.long z37), .second, .val (.long z48), .second, .val (.int z72), .val (.int z81), .val (.int z91), .val (.double z98), .second, .val (.double z105), .second, .val (.ref b3), .val (.double z138), .second, .val (.double c151_z30), .second, .unset, .unset] [(.long z194), (.long z187), (.long z182)])) _
        refine Jvm.OwnK.lmul X7.here hx rfl (hb hby at_195) rfl hz195 ?_
        show Steps p.tables e below (T7.setTop (mkF m 196 #[.val (.int p0), .val (.int p1), .val (.int p2), .val (.int p3), .val (.int p4), .val (.long z4), .second, .val (.long z11), .second, .val (.long z18), .second, .val (.long (1 : Int64)), .second, .val (.long z37), .second, .val (.long z48), .second, .val (.int z72), .val (.int z81), .val (.int z91), .val (.double z98), .second, .val (.double z105), .second, .val (.ref b3), .val (.double z138), .second, .val (.double c151_z30), .second, .unset, .unset] [(.long z195), (.long z182)])) _
        refine Jvm.OwnK.ladd X7.here hx rfl (hb hby at_196) rfl hz196 ?_
        show Steps p.tables e below (T7.setTop (mkF m 197 #[.val (.int p0), .val (.int p1), .val (.int p2), .val (.int p3), .val (.int p4), .val (.long z4), .second, .val (.long z11), .second, .val (.long z18), .second, .val (.long (1 : Int64)), .second, .val (.long z37), .second, .val (.long z48), .second, .val (.int z72), .val (.int z81), .val (.int z91), .val (.double z98), .second, .val (.double z105), .second, .val (.ref b3), .val (.double z138), .second, .val (.double c151_z30), .second, .unset, .unset] [(.long z196)])) _
        refine XS.lstore X7.here hx rfl (hb hby at_197) rfl (l' := #[.val (.int p0), .val (.int p1), .val (.int p2), .val (.int p3), .val (.int p4), .val (.long z4), .second, .val (.long z11), .second, .val (.long z18), .second, .val (.long (1 : Int64)), .second, .val (.long z37), .second, .val (.long z48), .second, .val (.int z72), .val (.int z81), .val (.int z91), .val (.double z98), .second, .val (.double z105), .second, .val (.ref b3), .val (.double z138), .second, .val (.double c151_z30), .second, .val (.long z196), .second]) rfl ?_
        show Steps p.tables e below (T7.setTop (mkF m 199 #[.val (.int p0), .val (.int p1), .val (.int p2), .val (.int p3), .val (.int p4), .val (.long z4), .second, .val (.long z11), .second, .val (.long z18), .second, .val (.long (1 : Int64)), .second, .val (.long z37), .second, .val (.long z48), .second, .val (.int z72), .val (.int z81), .val (.int z91), .val (.double z98), .second, .val (.double z105), .second, .val (.ref b3), .val (.double z138), .second, .val (.double c151_z30), .second, .val (.long z196), .second] [])) _
        refine XS.dload X7.here hx rfl (hb hby at_199) rfl ?_
        show Steps p.tables e below (T7.setTop (mkF m 201 #[.val (.int p0), .val (.int p1), .val (.int p2), .val (.int p3), .val (.int p4), .val (.long z4), .second, .val (.long z11), .second, .val (.long z18), .second, .val (.long (1 : Int64)), .second, .val (.long z37), .second, .val (.long z48), .second, .val (.int z72), .val (.int z81), .val (.int z91), .val (.double z98), .second, .val (.double z105), .second, .val (.ref b3), .val (.double z138), .second, .val (.double c151_z30), .second, .val (.long z196), .second] [(.double c151_z30)])) _
        refine XS.lconst X7.here hx rfl (hb hby at_201) ?_
        show Steps p.tables e below (T7.setTop (mkF m 202 #[.val (.int p0), .val (.int p1), .val (.int p2), .val (.int p3), .val (.int p4), .val (.long z4), .second, .val (.long z11), .second, .val (.long z18), .second, .val (.long (1 : Int64)), .second, .val (.long z37), .second, .val (.long z48), .second, .val (.int z72), .val (.int z81), .val (.int z91), .val (.double z98), .second, .val (.double z105), .second, .val (.ref b3), .val (.double z138), .second, .val (.double c151_z30), .second, .val (.long z196), .second] [(.long (1 : Int64)), (.double c151_z30)])) _
        refine XS.iload X7.here hx rfl (hb hby at_202) rfl ?_
        show Steps p.tables e below (T7.setTop (mkF m 204 #[.val (.int p0), .val (.int p1), .val (.int p2), .val (.int p3), .val (.int p4), .val (.long z4), .second, .val (.long z11), .second, .val (.long z18), .second, .val (.long (1 : Int64)), .second, .val (.long z37), .second, .val (.long z48), .second, .val (.int z72), .val (.int z81), .val (.int z91), .val (.double z98), .second, .val (.double z105), .second, .val (.ref b3), .val (.double z138), .second, .val (.double c151_z30), .second, .val (.long z196), .second] [(.int z72), (.long (1 : Int64)), (.double c151_z30)])) _
        refine XS.iload X7.here hx rfl (hb hby at_204) rfl ?_
        show Steps p.tables e below (T7.setTop (mkF m 206 #[.val (.int p0), .val (.int p1), .val (.int p2), .val (.int p3), .val (.int p4), .val (.long z4), .second, .val (.long z11), .second, .val (.long z18), .second, .val (.long (1 : Int64)), .second, .val (.long z37), .second, .val (.long z48), .second, .val (.int z72), .val (.int z81), .val (.int z91), .val (.double z98), .second, .val (.double z105), .second, .val (.ref b3), .val (.double z138), .second, .val (.double c151_z30), .second, .val (.long z196), .second] [(.int z81), (.int z72), (.long (1 : Int64)), (.double c151_z30)])) _
        refine Jvm.OwnK.iadd X7.here hx rfl (hb hby at_206) rfl hz206 ?_
        show Steps p.tables e below (T7.setTop (mkF m 207 #[.val (.int p0), .val (.int p1), .val (.int p2), .val (.int p3), .val (.int p4), .val (.long z4), .second, .val (.long z11), .second, .val (.long z18), .second, .val (.long (1 : Int64)), .second, .val (.long z37), .second, .val (.long z48), .second, .val (.int z72), .val (.int z81), .val (.int z91), .val (.double z98), .second, .val (.double z105), .second, .val (.ref b3), .val (.double z138), .second, .val (.double c151_z30), .second, .val (.long z196), .second] [(.int z206), (.long (1 : Int64)), (.double c151_z30)])) _
        refine XS.iload X7.here hx rfl (hb hby at_207) rfl ?_
        show Steps p.tables e below (T7.setTop (mkF m 209 #[.val (.int p0), .val (.int p1), .val (.int p2), .val (.int p3), .val (.int p4), .val (.long z4), .second, .val (.long z11), .second, .val (.long z18), .second, .val (.long (1 : Int64)), .second, .val (.long z37), .second, .val (.long z48), .second, .val (.int z72), .val (.int z81), .val (.int z91), .val (.double z98), .second, .val (.double z105), .second, .val (.ref b3), .val (.double z138), .second, .val (.double c151_z30), .second, .val (.long z196), .second] [(.int z91), (.int z206), (.long (1 : Int64)), (.double c151_z30)])) _
        refine Jvm.OwnK.iadd X7.here hx rfl (hb hby at_209) rfl hz209 ?_
        show Steps p.tables e below (T7.setTop (mkF m 210 #[.val (.int p0), .val (.int p1), .val (.int p2), .val (.int p3), .val (.int p4), .val (.long z4), .second, .val (.long z11), .second, .val (.long z18), .second, .val (.long (1 : Int64)), .second, .val (.long z37), .second, .val (.long z48), .second, .val (.int z72), .val (.int z81), .val (.int z91), .val (.double z98), .second, .val (.double z105), .second, .val (.ref b3), .val (.double z138), .second, .val (.double c151_z30), .second, .val (.long z196), .second] [(.int z209), (.long (1 : Int64)), (.double c151_z30)])) _
        refine Jvm.OwnK.lshl X7.here hx rfl (hb hby at_210) rfl hz210 ?_
        show Steps p.tables e below (T7.setTop (mkF m 211 #[.val (.int p0), .val (.int p1), .val (.int p2), .val (.int p3), .val (.int p4), .val (.long z4), .second, .val (.long z11), .second, .val (.long z18), .second, .val (.long (1 : Int64)), .second, .val (.long z37), .second, .val (.long z48), .second, .val (.int z72), .val (.int z81), .val (.int z91), .val (.double z98), .second, .val (.double z105), .second, .val (.ref b3), .val (.double z138), .second, .val (.double c151_z30), .second, .val (.long z196), .second] [(.long z210), (.double c151_z30)])) _
        refine XS.l2dS X7.here hx rfl (hb hby at_211) rfl hz211 ?_
        show Steps p.tables e below (T7.setTop (mkF m 212 #[.val (.int p0), .val (.int p1), .val (.int p2), .val (.int p3), .val (.int p4), .val (.long z4), .second, .val (.long z11), .second, .val (.long z18), .second, .val (.long (1 : Int64)), .second, .val (.long z37), .second, .val (.long z48), .second, .val (.int z72), .val (.int z81), .val (.int z91), .val (.double z98), .second, .val (.double z105), .second, .val (.ref b3), .val (.double z138), .second, .val (.double c151_z30), .second, .val (.long z196), .second] [(.double z211), (.double c151_z30)])) _
        refine Jvm.OwnK.dmul X7.here hx rfl (hb hby at_212) rfl hz212 nn212 ?_
        show Steps p.tables e below (T7.setTop (mkF m 213 #[.val (.int p0), .val (.int p1), .val (.int p2), .val (.int p3), .val (.int p4), .val (.long z4), .second, .val (.long z11), .second, .val (.long z18), .second, .val (.long (1 : Int64)), .second, .val (.long z37), .second, .val (.long z48), .second, .val (.int z72), .val (.int z81), .val (.int z91), .val (.double z98), .second, .val (.double z105), .second, .val (.ref b3), .val (.double z138), .second, .val (.double c151_z30), .second, .val (.long z196), .second] [(.double z212)])) _
        refine XS.lload X7.here hx rfl (hb hby at_213) rfl ?_
        show Steps p.tables e below (T7.setTop (mkF m 215 #[.val (.int p0), .val (.int p1), .val (.int p2), .val (.int p3), .val (.int p4), .val (.long z4), .second, .val (.long z11), .second, .val (.long z18), .second, .val (.long (1 : Int64)), .second, .val (.long z37), .second, .val (.long z48), .second, .val (.int z72), .val (.int z81), .val (.int z91), .val (.double z98), .second, .val (.double z105), .second, .val (.ref b3), .val (.double z138), .second, .val (.double c151_z30), .second, .val (.long z196), .second] [(.long z196), (.double z212)])) _
        refine XS.l2dS X7.here hx rfl (hb hby at_215) rfl hz215 ?_
        show Steps p.tables e below (T7.setTop (mkF m 216 #[.val (.int p0), .val (.int p1), .val (.int p2), .val (.int p3), .val (.int p4), .val (.long z4), .second, .val (.long z11), .second, .val (.long z18), .second, .val (.long (1 : Int64)), .second, .val (.long z37), .second, .val (.long z48), .second, .val (.int z72), .val (.int z81), .val (.int z91), .val (.double z98), .second, .val (.double z105), .second, .val (.ref b3), .val (.double z138), .second, .val (.double c151_z30), .second, .val (.long z196), .second] [(.double z215), (.double z212)])) _
        refine XS.dcmpS X7.here hx rfl (hb hby at_216) rfl hz216 ?_
        show Steps p.tables e below (T7.setTop (mkF m 217 #[.val (.int p0), .val (.int p1), .val (.int p2), .val (.int p3), .val (.int p4), .val (.long z4), .second, .val (.long z11), .second, .val (.long z18), .second, .val (.long (1 : Int64)), .second, .val (.long z37), .second, .val (.long z48), .second, .val (.int z72), .val (.int z81), .val (.int z91), .val (.double z98), .second, .val (.double z105), .second, .val (.ref b3), .val (.double z138), .second, .val (.double c151_z30), .second, .val (.long z196), .second] [(.int z216)])) _
        refine XS.ifNo X7.here hx rfl (hb hby at_217) rfl (Jvm.Free.XT.i0_ne_f br217) ?_
        show Steps p.tables e below (T7.setTop (mkF m 220 #[.val (.int p0), .val (.int p1), .val (.int p2), .val (.int p3), .val (.int p4), .val (.long z4), .second, .val (.long z11), .second, .val (.long z18), .second, .val (.long (1 : Int64)), .second, .val (.long z37), .second, .val (.long z48), .second, .val (.int z72), .val (.int z81), .val (.int z91), .val (.double z98), .second, .val (.double z105), .second, .val (.ref b3), .val (.double z138), .second, .val (.double c151_z30), .second, .val (.long z196), .second] [])) _
        refine XS.iconst X7.here hx rfl (hb hby at_220) ?_
        show Steps p.tables e below (T7.setTop (mkF m 221 #[.val (.int p0), .val (.int p1), .val (.int p2), .val (.int p3), .val (.int p4), .val (.long z4), .second, .val (.long z11), .second, .val (.long z18), .second, .val (.long (1 : Int64)), .second, .val (.long z37), .second, .val (.long z48), .second, .val (.int z72), .val (.int z81), .val (.int z91), .val (.double z98), .second, .val (.double z105), .second, .val (.ref b3), .val (.double z138), .second, .val (.double c151_z30), .second, .val (.long z196), .second] [(.int (1 : Int32))])) _
        refine XS.goto X7.here hx rfl (pc0 := 221) (pc' := 225) rfl (hb hby at_221) (by decide) (by decide) ?_
        exact k
      obtain ⟨fs, hr, hrun, hended, hW, hsame⟩ := X7.leave (v := some (.int (1 : Int32))) (fun h => by rw [Bd.returns] at h; cases h)
      refine ⟨_, _, c8 _ ?_, hrun, hended, _, _, rfl, ?_, ⟨_, rfl⟩, hW, hsame.mono (by decide) (by decide)⟩
      · show Steps p.tables e below (T7.setTop (mkF m 225 #[.val (.int p0), .val (.int p1), .val (.int p2), .val (.int p3), .val (.int p4), .val (.long z4), .second, .val (.long z11), .second, .val (.long z18), .second, .val (.long (1 : Int64)), .second, .val (.long z37), .second, .val (.long z48), .second, .val (.int z72), .val (.int z81), .val (.int z91), .val (.double z98), .second, .val (.double z105), .second, .val (.ref b3), .val (.double z138), .second, .val (.double c151_z30), .second, .val (.long z196), .second] [(.int (1 : Int32))])) _
        exact retOut X7 hx Bd.returns rfl (Or.inl ⟨rfl, by simp, _, rfl⟩) (hb hby at_225) hr
      · show Q0 n0 _ T7.heap _
        rw [e7]
        exact ⟨rfl, by first | assumption | exact N0⟩
    · skip
      obtain ⟨z72, hz72⟩ : ∃ z : Int32, p4 &&& (7 : Int32) = z := ⟨_, rfl⟩
      obtain ⟨z78, hz78⟩ : ∃ z : Int32, (p4.toUInt32 >>> ((3 : Int32) &&& 31).toUInt32).toInt32 = z := ⟨_, rfl⟩
      obtain ⟨z81, hz81⟩ : ∃ z : Int32, z78 &&& (7 : Int32) = z := ⟨_, rfl⟩
      obtain ⟨z88, hz88⟩ : ∃ z : Int32, (p4.toUInt32 >>> ((6 : Int32) &&& 31).toUInt32).toInt32 = z := ⟨_, rfl⟩
      obtain ⟨z91, hz91⟩ : ∃ z : Int32, z88 &&& (7 : Int32) = z := ⟨_, rfl⟩
      obtain ⟨z97, hz97⟩ : ∃ z : Int64, (1 : Int64) <<< (z72 &&& 0x3f).toInt64 = z := ⟨_, rfl⟩
      obtain ⟨z98, hz98⟩ : ∃ z : UInt64, FP.l2d z97 = z := ⟨_, rfl⟩
      obtain ⟨z104, hz104⟩ : ∃ z : Int64, (1 : Int64) <<< (z81 &&& 0x3f).toInt64 = z := ⟨_, rfl⟩
      obtain ⟨z105, hz105⟩ : ∃ z : UInt64, FP.l2d z104 = z := ⟨_, rfl⟩
      obtain ⟨z118, hz118⟩ : ∃ z : UInt64, FP.l2d z26 = z := ⟨_, rfl⟩
      obtain ⟨z121, hz121⟩ : ∃ z : UInt64, FP.l2d z37 = z := ⟨_, rfl⟩
      obtain ⟨z124, hz124⟩ : ∃ z : UInt64, FP.l2d z48 = z := ⟨_, rfl⟩
      obtain ⟨c125_z6, hc125_z6⟩ : ∃ z : Int32, cmpValue (FP.dcmp z98 FP.dconst0) .l = z := ⟨_, rfl⟩
      obtain ⟨c125_c11_z1, hc125_c11_z1⟩ : ∃ z : UInt64, z98 &&& 0x7fffffffffffffff = z := ⟨_, rfl⟩
      obtain ⟨c125_c11_z7, hc125_c11_z7⟩ : ∃ z : Int32, cmpValue (FP.dcmp c125_c11_z1 (9218868437227405311 : UInt64)) .l = z := ⟨_, rfl⟩
      obtain ⟨c125_z33, hc125_z33⟩ : ∃ z : Int32, cmpValue (FP.dcmp z105 FP.dconst0) .l = z := ⟨_, rfl⟩
      obtain ⟨c125_c38_z1, hc125_c38_z1⟩ : ∃ z : UInt64, z105 &&& 0x7fffffffffffffff = z := ⟨_, rfl⟩
      obtain ⟨c125_c38_z7, hc125_c38_z7⟩ : ∃ z : Int32, cmpValue (FP.dcmp c125_c38_z1 (9218868437227405311 : UInt64)) .l = z := ⟨_, rfl⟩
      obtain ⟨c125_z107, hc125_z107⟩ : ∃ z : Int32, cmpValue (FP.dcmp z118 FP.dconst0) .l = z := ⟨_, rfl⟩
      obtain ⟨c125_c113_z1, hc125_c113_z1⟩ : ∃ z : UInt64, z118 &&& 0x7fffffffffffffff = z := ⟨_, rfl⟩
      obtain ⟨c125_c113_z7, hc125_c113_z7⟩ : ∃ z : Int32, cmpValue (FP.dcmp c125_c113_z1 (9218868437227405311 : UInt64)) .l = z := ⟨_, rfl⟩
      obtain ⟨c125_z107_2, hc125_z107_2⟩ : ∃ z : Int32, cmpValue (FP.dcmp z121 FP.dconst0) .l = z := ⟨_, rfl⟩
      obtain ⟨c125_c113_2_z1, hc125_c113_2_z1⟩ : ∃ z : UInt64, z121 &&& 0x7fffffffffffffff = z := ⟨_, rfl⟩
      obtain ⟨c125_c113_2_z7, hc125_c113_2_z7⟩ : ∃ z : Int32, cmpValue (FP.dcmp c125_c113_2_z1 (9218868437227405311 : UInt64)) .l = z := ⟨_, rfl⟩
      obtain ⟨c125_z107_3, hc125_z107_3⟩ : ∃ z : Int32, cmpValue (FP.dcmp z124 FP.dconst0) .l = z := ⟨_, rfl⟩
      obtain ⟨c125_c113_3_z1, hc125_c113_3_z1⟩ : ∃ z : UInt64, z124 &&& 0x7fffffffffffffff = z := ⟨_, rfl⟩
      obtain ⟨c125_c113_3_z7, hc125_c113_3_z7⟩ : ∃ z : Int32, cmpValue (FP.dcmp c125_c113_3_z1 (9218868437227405311 : UInt64)) .l = z := ⟨_, rfl⟩
      obtain ⟨c125_z143, hc125_z143⟩ : ∃ z : Int32, cmpValue (FP.dcmp z118 FP.dconst0) .l = z := ⟨_, rfl⟩
      obtain ⟨c125_z150, hc125_z150⟩ : ∃ z : Int32, cmpValue (FP.dcmp z121 FP.dconst0) .l = z := ⟨_, rfl⟩
      obtain ⟨z132, hz132⟩ : ∃ z : UInt64, FP.l2d z18 = z := ⟨_, rfl⟩
      obtain ⟨z136, hz136⟩ : ∃ z : Int64, (1 : Int64) <<< (z91 &&& 0x3f).toInt64 = z := ⟨_, rfl⟩
      obtain ⟨z137, hz137⟩ : ∃ z : UInt64, FP.l2d z136 = z := ⟨_, rfl⟩
      obtain ⟨z138, hz138⟩ : ∃ z : UInt64, FP.ddiv z132 z137 = z := ⟨_, rfl⟩
      obtain ⟨z145, hz145⟩ : ∃ z : UInt64, FP.l2d z4 = z := ⟨_, rfl⟩
      obtain ⟨z148, hz148⟩ : ∃ z : UInt64, FP.l2d z11 = z := ⟨_, rfl⟩
      obtain ⟨c151_z5, hc151_z5⟩ : ∃ z : UInt64, FP.dmul z118 z145 = z := ⟨_, rfl⟩
      obtain ⟨c151_z10, hc151_z10⟩ : ∃ z : UInt64, FP.ddiv c151_z5 z98 = z := ⟨_, rfl⟩
      obtain ⟨c151_z16, hc151_z16⟩ : ∃ z : UInt64, FP.dmul z121 z148 = z := ⟨_, rfl⟩
      obtain ⟨c151_z21, hc151_z21⟩ : ∃ z : UInt64, FP.ddiv c151_z16 z105 = z := ⟨_, rfl⟩
      obtain ⟨c151_z22, hc151_z22⟩ : ∃ z : UInt64, FP.dadd c151_z10 c151_z21 = z := ⟨_, rfl⟩
      obtain ⟨c151_z29, hc151_z29⟩ : ∃ z : UInt64, FP.dmul z124 z138 = z := ⟨_, rfl⟩
      obtain ⟨c151_z30, hc151_z30⟩ : ∃ z : UInt64, FP.dadd c151_z22 c151_z29 = z := ⟨_, rfl⟩
      obtain ⟨z160, hz160⟩ : ∃ z : Int64, z26 * z4 = z := ⟨_, rfl⟩
      obtain ⟨z166, hz166⟩ : ∃ z : Int32, z81 + z91 = z := ⟨_, rfl⟩
      obtain ⟨z167, hz167⟩ : ∃ z : Int64, (1 : Int64) <<< (z166 &&& 0x3f).toInt64 = z := ⟨_, rfl⟩
      obtain ⟨z168, hz168⟩ : ∃ z : Int64, z160 * z167 = z := ⟨_, rfl⟩
      obtain ⟨z173, hz173⟩ : ∃ z : Int64, z37 * z11 = z := ⟨_, rfl⟩
      obtain ⟨z179, hz179⟩ : ∃ z : Int32, z72 + z91 = z := ⟨_, rfl⟩
      obtain ⟨z180, hz180⟩ : ∃ z : Int64, (1 : Int64) <<< (z179 &&& 0x3f).toInt64 = z := ⟨_, rfl⟩
      obtain ⟨z181, hz181⟩ : ∃ z : Int64, z173 * z180 = z := ⟨_, rfl⟩
      obtain ⟨z182, hz182⟩ : ∃ z : Int64, z168 + z181 = z := ⟨_, rfl⟩
      obtain ⟨z187, hz187⟩ : ∃ z : Int64, z48 * z18 = z := ⟨_, rfl⟩
      obtain ⟨z193, hz193⟩ : ∃ z : Int32, z72 + z81 = z := ⟨_, rfl⟩
      obtain ⟨z194, hz194⟩ : ∃ z : Int64, (1 : Int64) <<< (z193 &&& 0x3f).toInt64 = z := ⟨_, rfl⟩
      obtain ⟨z195, hz195⟩ : ∃ z : Int64, z187 * z194 = z := ⟨_, rfl⟩
      obtain ⟨z196, hz196⟩ : ∃ z : Int64, z182 + z195 = z := ⟨_, rfl⟩
      obtain ⟨z206, hz206⟩ : ∃ z : Int32, z72 + z81 = z := ⟨_, rfl⟩
      obtain ⟨z209, hz209⟩ : ∃ z : Int32, z206 + z91 = z := ⟨_, rfl⟩
      obtain ⟨z210, hz210⟩ : ∃ z : Int64, (1 : Int64) <<< (z209 &&& 0x3f).toInt64 = z := ⟨_, rfl⟩
      obtain ⟨z211, hz211⟩ : ∃ z : UInt64, FP.l2d z210 = z := ⟨_, rfl⟩
      obtain ⟨z212, hz212⟩ : ∃ z : UInt64, FP.dmul c151_z30 z211 = z := ⟨_, rfl⟩
      obtain ⟨z215, hz215⟩ : ∃ z : UInt64, FP.l2d z196 = z := ⟨_, rfl⟩
      obtain ⟨z216, hz216⟩ : ∃ z : Int32, cmpValue (FP.dcmp z212 z215) .l = z := ⟨_, rfl⟩
      have bD := sh11 hz3 hz4
      have bE := sh11 hz10 hz11
      have bC := sh11 hz17 hz18
      have w1 : 0 ≤ z26.toInt ∧ z26.toInt ≤ 255 := m255 hz25 hz26
      have w2 := m255 hz36 hz37
      have w3 := m255 hz47 hz48
      obtain ⟨db, db7, idb⟩ := m7 hz72
      obtain ⟨eb, eb7, ieb⟩ := m7 hz81
      obtain ⟨cb, cb7, icb⟩ := m7 hz91
      have dmd := dpow hz98 (sh1 hz97 idb (by omega)) (by omega)
      have dme := dpow hz105 (sh1 hz104 ieb (by omega)) (by omega)
      have dmc := dpow hz137 (sh1 hz136 icb (by omega)) (by omega)
      have ddw : Jvm.OwnF.DV z26.toInt 0 z118 := hz118 ▸ Jvm.OwnF.DV_l2d (Jvm.OwnF.r53 (by omega))
      have dew : Jvm.OwnF.DV z37.toInt 0 z121 := hz121 ▸ Jvm.OwnF.DV_l2d (Jvm.OwnF.r53 (by omega))
      have dcw : Jvm.OwnF.DV z48.toInt 0 z124 := hz124 ▸ Jvm.OwnF.DV_l2d (Jvm.OwnF.r53 (by omega))
      have pdb := Nat.two_pow_pos db
      have peb := Nat.two_pow_pos eb
      have pcb := Nat.two_pow_pos cb
      obtain ⟨c125_br7, c125_c11_nm0_1, c125_c11_br8⟩ := pos0 dmd (by omega) hc125_z6 hc125_c11_z1 hc125_c11_z7
      obtain ⟨c125_br34, c125_c38_nm0_1, c125_c38_br8⟩ := pos0 dme (by omega) hc125_z33 hc125_c38_z1 hc125_c38_z7
      obtain ⟨c125_br108, c125_c113_nm0_1, c125_c113_br8⟩ := nn0 ddw w1.1 hc125_z107 hc125_c113_z1 hc125_c113_z7
      obtain ⟨c125_br108_2, c125_c113_2_nm0_1, c125_c113_2_br8⟩ := nn0 dew w2.1 hc125_z107_2 hc125_c113_2_z1 hc125_c113_2_z7
      obtain ⟨c125_br108_3, c125_c113_3_nm0_1, c125_c113_3_br8⟩ := nn0 dcw w3.1 hc125_z107_3 hc125_c113_3_z1 hc125_c113_3_z7
      have dz : z26 = 0 := (lw_eq _ _).mp (by rw [hz54]; exact hb55)
      have ez : ¬ z37 = 0 := fun q => hb62 (by rw [← hz61]; exact (lw_eq _ _).mpr q)
      have c125_br144 : c125_z143 = 0 := by rw [← hc125_z143]; exact Jvm.OwnF.DV_eq0 (ddw.of_eq (by rw [dz]; decide)) Jvm.OwnF.DV_0 _
      have c125_br151 : ¬ c125_z150 = 0 := by
        have : 0 < z37.toInt := by
          rcases Int.lt_or_eq_of_le w2.1 with t | t
          · exact t
          · exact absurd (Int64.toInt_inj.mp (by rw [← t]; decide)) ez
        rw [← hc125_z150, (Jvm.OwnF.DV_cmp dew Jvm.OwnF.DV_0 .l).2.2 this]; decide
      have dc : Jvm.OwnF.DV z18.toInt cb z138 := hz138 ▸ hz132 ▸ Jvm.OwnF.DV_div (Jvm.OwnF.DV_l2d (Jvm.OwnF.r53 (by omega))) dmc (by omega) (by omega) (Jvm.OwnF.r53 (by omega)) (by rw [Nat.zero_add]; simp)
      have nn138 := dc.nn
      have dd : Jvm.OwnF.DV z4.toInt 0 z145 := hz145 ▸ Jvm.OwnF.DV_l2d (Jvm.OwnF.r53 (by omega))
      have de : Jvm.OwnF.DV z11.toInt 0 z148 := hz148 ▸ Jvm.OwnF.DV_l2d (Jvm.OwnF.r53 (by omega))
      obtain ⟨c151_nn5, c151_nn10, c151_nn16, c151_nn21, c151_nn22, c151_nn29, c151_nn30, D, n1, n2, n3, o1, o2, o3⟩ := ofv db7 eb7 cb7 bD bE bC (show z26.toInt.natAbs ≤ 255 by omega) (show z37.toInt.natAbs ≤ 255 by omega) (show z48.toInt.natAbs ≤ 255 by omega) dd de dc ddw dew dcw dmd dme hc151_z5 hc151_z10 hc151_z16 hc151_z21 hc151_z22 hc151_z29 hc151_z30
      have i166 := Jvm.OwnF.iadd_v hz166 (by omega)
      have i179 := Jvm.OwnF.iadd_v hz179 (by omega)
      have i193 := Jvm.OwnF.iadd_v hz193 (by omega)
      have i206 := Jvm.OwnF.iadd_v hz206 (by omega)
      have i209 := Jvm.OwnF.iadd_v hz209 (by omega)
      have i167 := sh1 (k := eb + cb) hz167 (by omega) (by omega)
      have i180 := sh1 (k := db + cb) hz180 (by omega) (by omega)
      have i194 := sh1 (k := db + eb) hz194 (by omega) (by omega)
      have i210 := sh1 (k := db + eb + cb) hz210 (by omega) (by omega)
      have i160 := Jvm.OwnF.lmul_v hz160 (by omega)
      have i168 := Jvm.OwnF.lmul_v hz168 (by rw [i160, i167]; omega)
      rw [i160, i167] at i168
      have i173 := Jvm.OwnF.lmul_v hz173 (by omega)
      have i181 := Jvm.OwnF.lmul_v hz181 (by rw [i173, i180]; omega)
      rw [i173, i180] at i181
      have i187 := Jvm.OwnF.lmul_v hz187 (by omega)
      have i195 := Jvm.OwnF.lmul_v hz195 (by rw [i187, i194]; omega)
      rw [i187, i194] at i195
      have i182 := Jvm.OwnF.ladd_v hz182 (by rw [i168, i181]; omega)
      have i196 := Jvm.OwnF.ladd_v hz196 (by rw [i182, i168, i181, i195]; omega)
      rw [i182, i168, i181, i195] at i196
      have d211 := dpow hz211 i210 (by omega)
      have d212 : Jvm.OwnF.DV (z26.toInt * z4.toInt * ((2 ^ (eb + cb) : Nat) : Int) + z37.toInt * z11.toInt * ((2 ^ (db + cb) : Nat) : Int) + z48.toInt * z18.toInt * ((2 ^ (db + eb) : Nat) : Int)) 0 z212 := by
        have := hz212 ▸ Jvm.OwnF.DV_mul D d211 (by omega) (Jvm.OwnF.R53.mulp (by omega) (by omega))
        refine Jvm.OwnF.DV.down (k := 0) (j := db + eb + cb) ?_
        rw [Nat.zero_add]; rw [Nat.add_zero] at this; exact this
      have nn212 := d212.nn
      have d215 := Jvm.OwnF.DV_l2d (n := z196) (Jvm.OwnF.r53 (by rw [i196]; omega))
      rw [hz215, i196] at d215
      have br217 : z216 = 0 := hz216.symm.trans (Jvm.OwnF.DV_eq0 d212 d215 _)
      obtain ⟨T9, h9, X9, e9, E9, A9, D9, -, st9⟩ := newO X0 hx hZ hown (hw _ (List.mem_of_getElem? (i := 0) rfl)) (hw _ (List.mem_of_getElem? (i := 1) rfl)) (hw _ (List.mem_of_getElem? (i := 2) rfl)) e0 (g := (mkF m 108 #[.val (.int p0), .val (.int p1), .val (.int p2), .val (.int p3), .val (.int p4), .val (.long z4), .second, .val (.long z11), .second, .val (.long z18), .second, .val (.long z26), .second, .val (.long z37), .second, .val (.long z48), .second, .val (.int z72), .val (.int z81), .val (.int z91), .val (.double z98), .second, .val (.double z105), .second, .unset, .unset, .unset, .unset, .unset, .unset, .unset] [])) rfl (hb hby at_108) (by decide) (by decide)
      obtain ⟨b9, g9⟩ : ∃ z, z = h0.size := ⟨_, rfl⟩
      rw [← g9] at A9 D9 st9
      have gn9 : n0 ≤ b9 := Nat.le_trans Z0 (Nat.le_of_eq g9.symm)
      have gz9 : h0.size ≤ b9 := Nat.le_trans ((Keep.refl h0 [])).1 (Nat.le_of_eq g9.symm)
      have K10 : Keep h0 h9 [] := (Keep.refl h0 []).ext E9
      have F9_maxDelaySeconds : Fld Z h9 b9 "com/example/fleetwave/fleetwave/model/CacheCost" "maxDelaySeconds" "D" (.double (0 : UInt64)) := D9 (Or.inr (hw _ (List.mem_of_getElem? (i := 25) rfl))) (ty := .double) (by decide)
      have F9_maxEnergyJoules : Fld Z h9 b9 "com/example/fleetwave/fleetwave/model/CacheCost" "maxEnergyJoules" "D" (.double (0 : UInt64)) := D9 (Or.inr (hw _ (List.mem_of_getElem? (i := 27) rfl))) (ty := .double) (by decide)
      have F9_delayWeight : Fld Z h9 b9 "com/example/fleetwave/fleetwave/model/CacheCost" "delayWeight" "D" (.double (0 : UInt64)) := D9 (Or.inr (hw _ (List.mem_of_getElem? (i := 29) rfl))) (ty := .double) (by decide)
      have F9_energyWeight : Fld Z h9 b9 "com/example/fleetwave/fleetwave/model/CacheCost" "energyWeight" "D" (.double (0 : UInt64)) := D9 (Or.inr (hw _ (List.mem_of_getElem? (i := 31) rfl))) (ty := .double) (by decide)
      have F9_cacheWeight : Fld Z h9 b9 "com/example/fleetwave/fleetwave/model/CacheCost" "cacheWeight" "D" (.double (0 : UInt64)) := D9 (Or.inr (hw _ (List.mem_of_getElem? (i := 33) rfl))) (ty := .double) (by decide)
      obtain ⟨_, _, ⟨T11, L11, k11, n11⟩, -, X11, ⟨Lc11, hQ11, ql11, qy11, qz11⟩, st11⟩ := X9.specialBack hx (y := (⟨"com/example/fleetwave/fleetwave/model/CacheCost", "<init>", "(DDDDD)V"⟩ : MethodName)) rfl hown (mvT hZ (hw _ (List.mem_of_getElem? (i := 3) rfl))) (mvT hZ (hw _ (List.mem_of_getElem? (i := 4) rfl))) (mvT hZ (hw _ (List.mem_of_getElem? (i := 5) rfl))) (by decide) (backOf (W := 1) (rm1_f l Z a0 hw [] b9 z98 z105 z118 z121 z124 ((.double (0 : UInt64))) ((.double (0 : UInt64))) ((.double (0 : UInt64))) ((.double (0 : UInt64))) ((.double (0 : UInt64))) c125_z6 c125_c11_z1 c125_c11_z7 c125_z33 c125_c38_z1 c125_c38_z7 c125_z107 c125_c113_z1 c125_c113_z7 c125_z107_2 c125_c113_2_z1 c125_c113_2_z7 c125_z107_3 c125_c113_3_z1 c125_c113_3_z7 c125_z143 c125_z150 h9 n0 (Nat.le_trans Z0 E9.1) A9 F9_maxDelaySeconds gn9 F9_maxEnergyJoules F9_delayWeight F9_energyWeight F9_cacheWeight hc125_z6 hc125_c11_z1 hc125_c11_z7 hc125_z33 hc125_c38_z1 hc125_c38_z7 hc125_z107 hc125_c113_z1 hc125_c113_z7 hc125_z107_2 hc125_c113_2_z1 hc125_c113_2_z7 hc125_z107_3 hc125_c113_3_z1 hc125_c113_3_z7 hc125_z143 hc125_z150 c125_br7 c125_c11_nm0_1 c125_c11_br8 c125_br34 c125_c38_nm0_1 c125_c38_br8 c125_br108 c125_c113_nm0_1 c125_c113_br8 c125_br108_2 c125_c113_2_nm0_1 c125_c113_2_br8 c125_br108_3 c125_c113_3_nm0_1 c125_c113_3_br8 c125_br144 c125_br151) hZ (hw _ (List.mem_of_getElem? (i := 5) rfl)) (hw _ (List.mem_of_getElem? (i := 2) rfl)) (by decide) (by decide)) (g := (mkF m 125 #[.val (.int p0), .val (.int p1), .val (.int p2), .val (.int p3), .val (.int p4), .val (.long z4), .second, .val (.long z11), .second, .val (.long z18), .second, .val (.long z26), .second, .val (.long z37), .second, .val (.long z48), .second, .val (.int z72), .val (.int z81), .val (.int z91), .val (.double z98), .second, .val (.double z105), .second, .unset, .unset, .unset, .unset, .unset, .unset, .unset] [(.double z124), (.double z121), (.double z118), (.double z105), (.double z98), (.ref b9), (.ref b9)])) rfl (by rw [hml]; rfl) (Steps.refl _) (a := b9) (argsL := [(.double z98), (.double z105), (.double z118), (.double z121), (.double z124)]) (rest := [(.ref b9)]) (lenOf pd_3 rfl) rfl (by show 2 * 0 + _ ≤ _; exact Nat.le_of_eq rfl) (hb hby at_125) (fun _ _ => ⟨rfl, e9, (by decide : 1 + 1 ≤ _), (by decide : 5 + 3 ≤ _)⟩)
      dsimp only [Pt.U, Pt.locs, Pt.cells, Pt.slots] at X11 ql11 qy11 qz11 st11 hQ11
      subst ql11 qy11 qz11
      obtain ⟨rfl, N11q, K11q, Q11_0, Q11_1, Q11_2, Q11_3, Q11_4, Q11_5⟩ := hQ11
      have N11 := Fr.app N0 N11q
      have K12 : Keep h0 T11.heap [] := Keep.trans K10 K11q (allS (Or.inr gz9) all0)
      obtain ⟨cq13, kq13, q13a, q13b, q13c⟩ := isOf hZ rfl Q11_0
      obtain ⟨_, _, ⟨T13, L13, k13, n13⟩, -, X13, ⟨Lc13, hQ13, ql13, qy13, qz13⟩, st13⟩ := X11.virtualBack hx (y := (⟨"com/example/fleetwave/fleetwave/model/CacheCost", "of", "(DDD)D"⟩ : MethodName)) (z := (⟨"com/example/fleetwave/fleetwave/model/CacheCost", "of", "(DDD)D"⟩ : MethodName)) hown (mvT hZ (hw _ (List.mem_of_getElem? (i := 34) rfl))) (mvT hZ (hw _ (List.mem_of_getElem? (i := 35) rfl))) (notFace_of_selects (args := #[]) (mvT hZ (hw _ (List.mem_of_getElem? (i := 37) rfl)))) (mvT hZ (hw _ (List.mem_of_getElem? (i := 37) rfl))) (mvT hZ (hw _ (List.mem_of_getElem? (i := 36) rfl))) (by decide) (backOf (W := 0) (rm6 l Z a0 hw [] b9 z145 z148 z138 z118 z98 z121 z105 z124 c151_z5 c151_z10 c151_z16 c151_z21 c151_z22 c151_z29 c151_z30 T11.heap n0 (Nat.le_trans (Nat.le_trans Z0 E9.1) K11q.1) Q11_3 Q11_1 Q11_4 Q11_2 Q11_5 hc151_z5 hc151_z10 hc151_z16 hc151_z21 hc151_z22 hc151_z29 hc151_z30 c151_nn5 c151_nn10 c151_nn16 c151_nn21 c151_nn22 c151_nn29 c151_nn30) hZ (hw _ (List.mem_of_getElem? (i := 38) rfl)) (hw _ (List.mem_of_getElem? (i := 2) rfl)) (by decide) (by decide)) q13a q13c (g := (mkF m 151 #[.val (.int p0), .val (.int p1), .val (.int p2), .val (.int p3), .val (.int p4), .val (.long z4), .second, .val (.long z11), .second, .val (.long z18), .second, .val (.long z26), .second, .val (.long z37), .second, .val (.long z48), .second, .val (.int z72), .val (.int z81), .val (.int z91), .val (.double z98), .second, .val (.double z105), .second, .val (.ref b9), .val (.double z138), .second, .unset, .unset, .unset, .unset] [(.double z138), (.double z148), (.double z145), (.ref b9)])) rfl (by rw [hml]; rfl) (Steps.refl _) (argsL := [(.double z145), (.double z148), (.double z138)]) (rest := []) (lenOf pd_4 rfl) rfl (by show 2 * 0 + _ ≤ _; exact Nat.le_of_eq rfl) (hb hby at_151) (fun _ _ => ⟨rfl, rfl, (by decide : 2 + 0 ≤ _), (by decide : 8 + 0 ≤ _)⟩)
      dsimp only [Pt.U, Pt.locs, Pt.cells, Pt.slots] at X13 ql13 qy13 qz13 st13 hQ13
      subst ql13 qy13 qz13
      obtain ⟨rfl, N13q, e13⟩ := hQ13
      have N13 := Fr.app N11 N13q
      have c14 : ∀ t, Steps p.tables e below (T13.setTop (mkF m 225 #[.val (.int p0), .val (.int p1), .val (.int p2), .val (.int p3), .val (.int p4), .val (.long z4), .second, .val (.long z11), .second, .val (.long z18), .second, .val (.long z26), .second, .val (.long z37), .second, .val (.long z48), .second, .val (.int z72), .val (.int z81), .val (.int z91), .val (.double z98), .second, .val (.double z105), .second, .val (.ref b9), .val (.double z138), .second, .val (.double c151_z30), .second, .val (.long z196), .second] [(.int (1 : Int32))])) t → Steps p.tables e below (s₁.setTop (entryFrame m #[(.int p0), (.int p1), (.int p2), (.int p3), (.int p4)] maxLocals)) t := by
        intro t k
        refine c2 t ?_
        show Steps p.tables e below (s₁.setTop (mkF m 62 #[.val (.int p0), .val (.int p1), .val (.int p2), .val (.int p3), .val (.int p4), .val (.long z4), .second, .val (.long z11), .second, .val (.long z18), .second, .val (.long z26), .second, .val (.long z37), .second, .val (.long z48), .second, .unset, .unset, .unset, .unset, .unset, .unset, .unset, .unset, .unset, .unset, .unset, .unset, .unset, .unset] [(.int z61)])) _
        refine XS.ifYes X0.here hx rfl (pc0 := 62) (pc' := 68) rfl (hb hby at_62) rfl (Jvm.Free.XT.i0_ne_t hb62) (by decide) (by decide) ?_
        show Steps p.tables e below (s₁.setTop (mkF m 68 #[.val (.int p0), .val (.int p1), .val (.int p2), .val (.int p3), .val (.int p4), .val (.long z4), .second, .val (.long z11), .second, .val (.long z18), .second, .val (.long z26), .second, .val (.long z37), .second, .val (.long z48), .second, .unset, .unset, .unset, .unset, .unset, .unset, .unset, .unset, .unset, .unset, .unset, .unset, .unset, .unset] [])) _
        refine XS.iload X0.here hx rfl (hb hby at_68) rfl ?_
        show Steps p.tables e below (s₁.setTop (mkF m 70 #[.val (.int p0), .val (.int p1), .val (.int p2), .val (.int p3), .val (.int p4), .val (.long z4), .second, .val (.long z11), .second, .val (.long z18), .second, .val (.long z26), .second, .val (.long z37), .second, .val (.long z48), .second, .unset, .unset, .unset, .unset, .unset, .unset, .unset, .unset, .unset, .unset, .unset, .unset, .unset, .unset] [(.int p4)])) _
        refine XS.bipush X0.here hx rfl (hb hby at_70) ?_
        show Steps p.tables e below (s₁.setTop (mkF m 72 #[.val (.int p0), .val (.int p1), .val (.int p2), .val (.int p3), .val (.int p4), .val (.long z4), .second, .val (.long z11), .second, .val (.long z18), .second, .val (.long z26), .second, .val (.long z37), .second, .val (.long z48), .second, .unset, .unset, .unset, .unset, .unset, .unset, .unset, .unset, .unset, .unset, .unset, .unset, .unset, .unset] [(.int (7 : Int32)), (.int p4)])) _
        refine Jvm.OwnK.iand X0.here hx rfl (hb hby at_72) rfl hz72 ?_
        show Steps p.tables e below (s₁.setTop (mkF m 73 #[.val (.int p0), .val (.int p1), .val (.int p2), .val (.int p3), .val (.int p4), .val (.long z4), .second, .val (.long z11), .second, .val (.long z18), .second, .val (.long z26), .second, .val (.long z37), .second, .val (.long z48), .second, .unset, .unset, .unset, .unset, .unset, .unset, .unset, .unset, .unset, .unset, .unset, .unset, .unset, .unset] [(.int z72)])) _
        refine XS.istore X0.here hx rfl (hb hby at_73) rfl (l' := #[.val (.int p0), .val (.int p1), .val (.int p2), .val (.int p3), .val (.int p4), .val (.long z4), .second, .val (.long z11), .second, .val (.long z18), .second, .val (.long z26), .second, .val (.long z37), .second, .val (.long z48), .second, .val (.int z72), .unset, .unset, .unset, .unset, .unset, .unset, .unset, .unset, .unset, .unset, .unset, .unset, .unset]) rfl ?_
        show Steps p.tables e below (s₁.setTop (mkF m 75 #[.val (.int p0), .val (.int p1), .val (.int p2), .val (.int p3), .val (.int p4), .val (.long z4), .second, .val (.long z11), .second, .val (.long z18), .second, .val (.long z26), .second, .val (.long z37), .second, .val (.long z48), .second, .val (.int z72), .unset, .unset, .unset, .unset, .unset, .unset, .unset, .unset, .unset, .unset, .unset, .unset, .unset] [])) _
        refine XS.iload X0.here hx rfl (hb hby at_75) rfl ?_
        show Steps p.tables e below (s₁.setTop (mkF m 77 #[.val (.int p0), .val (.int p1), .val (.int p2), .val (.int p3), .val (.int p4), .val (.long z4), .second, .val (.long z11), .second, .val (.long z18), .second, .val (.long z26), .second, .val (.long z37), .second, .val (.long z48), .second, .val (.int z72), .unset, .unset, .unset, .unset, .unset, .unset, .unset, .unset, .unset, .unset, .unset, .unset, .unset] [(.int p4)])) _
        refine XS.iconst X0.here hx rfl (hb hby at_77) ?_
        show Steps p.tables e below (s₁.setTop (mkF m 78 #[.val (.int p0), .val (.int p1), .val (.int p2), .val (.int p3), .val (.int p4), .val (.long z4), .second, .val (.long z11), .second, .val (.long z18), .second, .val (.long z26), .second, .val (.long z37), .second, .val (.long z48), .second, .val (.int z72), .unset, .unset, .unset, .unset, .unset, .unset, .unset, .unset, .unset, .unset, .unset, .unset, .unset] [(.int (3 : Int32)), (.int p4)])) _
        refine Jvm.OwnK.iushr X0.here hx rfl (hb hby at_78) rfl hz78 ?_
        show Steps p.tables e below (s₁.setTop (mkF m 79 #[.val (.int p0), .val (.int p1), .val (.int p2), .val (.int p3), .val (.int p4), .val (.long z4), .second, .val (.long z11), .second, .val (.long z18), .second, .val (.long z26), .second, .val (.long z37), .second, .val (.long z48), .second, .val (.int z72), .unset, .unset, .unset, .unset, .unset, .unset, .unset, .unset, .unset, .unset, .unset, .unset, .unset] [(.int z78)])) _
        refine XS.bipush X0.here hx rfl (hb hby at_79) ?_
        show Steps p.tables e below (s₁.setTop (mkF m 81 #[.val (.int p0), .val (.int p1), .val (.int p2), .val (.int p3), .val (.int p4), .val (.long z4), .second, .val (.long z11), .second, .val (.long z18), .second, .val (.long z26), .second, .val (.long z37), .second, .val (.long z48), .second, .val (.int z72), .unset, .unset, .unset, .unset, .unset, .unset, .unset, .unset, .unset, .unset, .unset, .unset, .unset] [(.int (7 : Int32)), (.int z78)])) _
        refine Jvm.OwnK.iand X0.here hx rfl (hb hby at_81) rfl hz81 ?_
        show Steps p.tables e below (s₁.setTop (mkF m 82 #[.val (.int p0), .val (.int p1), .val (.int p2), .val (.int p3), .val (.int p4), .val (.long z4), .second, .val (.long z11), .second, .val (.long z18), .second, .val (.long z26), .second, .val (.long z37), .second, .val (.long z48), .second, .val (.int z72), .unset, .unset, .unset, .unset, .unset, .unset, .unset, .unset, .unset, .unset, .unset, .unset, .unset] [(.int z81)])) _
        refine XS.istore X0.here hx rfl (hb hby at_82) rfl (l' := #[.val (.int p0), .val (.int p1), .val (.int p2), .val (.int p3), .val (.int p4), .val (.long z4), .second, .val (.long z11), .second, .val (.long z18), .second, .val (.long z26), .second, .val (.long z37), .second, .val (.long z48), .second, .val (.int z72), .val (.int z81), .unset, .unset, .unset, .unset, .unset, .unset, .unset, .unset, .unset, .unset, .unset, .unset]) rfl ?_
        show Steps p.tables e below (s₁.setTop (mkF m 84 #[.val (.int p0), .val (.int p1), .val (.int p2), .val (.int p3), .val (.int p4), .val (.long z4), .second, .val (.long z11), .second, .val (.long z18), .second, .val (.long z26), .second, .val (.long z37), .second, .val (.long z48), .second, .val (.int z72), .val (.int z81), .unset, .unset, .unset, .unset, .unset, .unset, .unset, .unset, .unset, .unset, .unset, .unset] [])) _
        refine XS.iload X0.here hx rfl (hb hby at_84) rfl ?_
        show Steps p.tables e below (s₁.setTop (mkF m 86 #[.val (.int p0), .val (.int p1), .val (.int p2), .val (.int p3), .val (.int p4), .val (.long z4), .second, .val (.long z11), .second, .val (.long z18), .second, .val (.long z26), .second, .val (.long z37), .second, .val (.long z48), .second, .val (.int z72), .val (.int z81), .unset, .unset, .unset, .unset, .unset, .unset, .unset, .unset, .unset, .unset, .unset, .unset] [(.int p4)])) _
        refine XS.bipush X0.here hx rfl (hb hby at_86) ?_
        show Steps p.tables e below (s₁.setTop (mkF m 88 #[.val (.int p0), .val (.int p1), .val (.int p2), .val (.int p3), .val (.int p4), .val (.long z4), .second, .val (.long z11), .second, .val (.long z18), .second, .val (.long z26), .second, .val (.long z37), .second, .val (.long z48), .second, .val (.int z72), .val (.int z81), .unset, .unset, .unset, .unset, .unset, .unset, .unset, .unset, .unset, .unset, .unset, .unset] [(.int (6 : Int32)), (.int p4)])) _
        refine Jvm.OwnK.iushr X0.here hx rfl (hb hby at_88) rfl hz88 ?_
        show Steps p.tables e below (s₁.setTop (mkF m 89 #[.val (.int p0), .val (.int p1), .val (.int p2), .val (.int p3), .val (.int p4), .val (.long z4), .second, .val (.long z11), .second, .val (.long z18), .second, .val (.long z26), .second, .val (.long z37), .second, .val (.long z48), .second, .val (.int z72), .val (.int z81), .unset, .unset, .unset, .unset, .unset, .unset, .unset, .unset, .unset, .unset, .unset, .unset] [(.int z88)])) _
        refine XS.bipush X0.here hx rfl (hb hby at_89) ?_
        show Steps p.tables e below (s₁.setTop (mkF m 91 #[.val (.int p0), .val (.int p1), .val (.int p2), .val (.int p3), .val (.int p4), .val (.long z4), .second, .val (.long z11), .second, .val (.long z18), .second, .val (.long z26), .second, .val (.long z37), .second, .val (.long z48), .second, .val (.int z72), .val (.int z81), .unset, .unset, .unset, .unset, .unset, .unset, .unset, .unset, .unset, .unset, .unset, .unset] [(.int (7 : Int32)), (.int z88)])) _
        refine Jvm.OwnK.iand X0.here hx rfl (hb hby at_91) rfl hz91 ?_
        show Steps p.tables e below (s₁.setTop (mkF m 92 #[.val (.int p0), .val (.int p1), .val (.int p2), .val (.int p3), .val (.int p4), .val (.long z4), .second, .val (.long z11), .second, .val (.long z18), .second, .val (.long z26), .second, .val (.long z37), .second, .val (.long z48), .second, .val (.int z72), .val (.int z81), .unset, .unset, .unset, .unset, .unset, .unset, .unset, .unset, .unset, .unset, .unset, .unset] [(.int z91)])) _
        refine XS.istore X0.here hx rfl (hb hby at_92) rfl (l' := #[.val (.int p0), .val (.int p1), .val (.int p2), .val (.int p3), .val (.int p4), .val (.long z4), .second, .val (.long z11), .second, .val (.long z18), .second, .val (.long z26), .second, .val (.long z37), .second, .val (.long z48), .second, .val (.int z72), .val (.int z81), .val (.int z91), .unset, .unset, .unset, .unset, .unset, .unset, .unset, .unset, .unset, .unset, .unset]) rfl ?_
        show Steps p.tables e below (s₁.setTop (mkF m 94 #[.val (.int p0), .val (.int p1), .val (.int p2), .val (.int p3), .val (.int p4), .val (.long z4), .second, .val (.long z11), .second, .val (.long z18), .second, .val (.long z26), .second, .val (.long z37), .second, .val (.long z48), .second, .val (.int z72), .val (.int z81), .val (.int z91), .unset, .unset, .unset, .unset, .unset, .unset, .unset, .unset, .unset, .unset, .unset] [])) _
        refine XS.lconst X0.here hx rfl (hb hby at_94) ?_
        show Steps p.tables e below (s₁.setTop (mkF m 95 #[.val (.int p0), .val (.int p1), .val (.int p2), .val (.int p3), .val (.int p4), .val (.long z4), .second, .val (.long z11), .second, .val (.long z18), .second, .val (.long z26), .second, .val (.long z37), .second, .val (.long z48), .second, .val (.int z72), .val (.int z81), .val (.int z91), .unset, .unset, .unset, .unset, .unset, .unset, .unset, .unset, .unset, .unset, .unset] [(.long (1 : Int64))])) _
        refine XS.iload X0.here hx rfl (hb hby at_95) rfl ?_
        show Steps p.tables e below (s₁.setTop (mkF m 97 #[.val (.int p0), .val (.int p1), .val (.int p2), .val (.int p3), .val (.int p4), .val (.long z4), .second, .val (.long z11), .second, .val (.long z18), .second, .val (.long z26), .second, .val (.long z37), .second, .val (.long z48), .second, .val (.int z72), .val (.int z81), .val (.int z91), .unset, .unset, .unset, .unset, .unset, .unset, .unset, .unset, .unset, .unset, .unset] [(.int z72), (.long (1 : Int64))])) _
        refine Jvm.OwnK.lshl X0.here hx rfl (hb hby at_97) rfl hz97 ?_
        show Steps p.tables e below (s₁.setTop (mkF m 98 #[.val (.int p0), .val (.int p1), .val (.int p2), .val (.int p3), .val (.int p4), .val (.long z4), .second, .val (.long z11), .second, .val (.long z18), .second, .val (.long z26), .second, .val (.long z37), .second, .val (.long z48), .second, .val (.int z72), .val (.int z81), .val (.int z91), .unset, .unset, .unset, .unset, .unset, .unset, .unset, .unset, .unset, .unset, .unset] [(.long z97)])) _
        refine XS.l2dS X0.here hx rfl (hb hby at_98) rfl hz98 ?_
        show Steps p.tables e below (s₁.setTop (mkF m 99 #[.val (.int p0), .val (.int p1), .val (.int p2), .val (.int p3), .val (.int p4), .val (.long z4), .second, .val (.long z11), .second, .val (.long z18), .second, .val (.long z26), .second, .val (.long z37), .second, .val (.long z48), .second, .val (.int z72), .val (.int z81), .val (.int z91), .unset, .unset, .unset, .unset, .unset, .unset, .unset, .unset, .unset, .unset, .unset] [(.double z98)])) _
        refine XS.dstore X0.here hx rfl (hb hby at_99) rfl (l' := #[.val (.int p0), .val (.int p1), .val (.int p2), .val (.int p3), .val (.int p4), .val (.long z4), .second, .val (.long z11), .second, .val (.long z18), .second, .val (.long z26), .second, .val (.long z37), .second, .val (.long z48), .second, .val (.int z72), .val (.int z81), .val (.int z91), .val (.double z98), .second, .unset, .unset, .unset, .unset, .unset, .unset, .unset, .unset, .unset]) rfl ?_
        show Steps p.tables e below (s₁.setTop (mkF m 101 #[.val (.int p0), .val (.int p1), .val (.int p2), .val (.int p3), .val (.int p4), .val (.long z4), .second, .val (.long z11), .second, .val (.long z18), .second, .val (.long z26), .second, .val (.long z37), .second, .val (.long z48), .second, .val (.int z72), .val (.int z81), .val (.int z91), .val (.double z98), .second, .unset, .unset, .unset, .unset, .unset, .unset, .unset, .unset, .unset] [])) _
        refine XS.lconst X0.here hx rfl (hb hby at_101) ?_
        show Steps p.tables e below (s₁.setTop (mkF m 102 #[.val (.int p0), .val (.int p1), .val (.int p2), .val (.int p3), .val (.int p4), .val (.long z4), .second, .val (.long z11), .second, .val (.long z18), .second, .val (.long z26), .second, .val (.long z37), .second, .val (.long z48), .second, .val (.int z72), .val (.int z81), .val (.int z91), .val (.double z98), .second, .unset, .unset, .unset, .unset, .unset, .unset, .unset, .unset, .unset] [(.long (1 : Int64))])) _
        refine XS.iload X0.here hx rfl (hb hby at_102) rfl ?_
        show Steps p.tables e below (s₁.setTop (mkF m 104 #[.val (.int p0), .val (.int p1), .val (.int p2), .val (.int p3), .val (.int p4), .val (.long z4), .second, .val (.long z11), .second, .val (.long z18), .second, .val (.long z26), .second, .val (.long z37), .second, .val (.long z48), .second, .val (.int z72), .val (.int z81), .val (.int z91), .val (.double z98), .second, .unset, .unset, .unset, .unset, .unset, .unset, .unset, .unset, .unset] [(.int z81), (.long (1 : Int64))])) _
        refine Jvm.OwnK.lshl X0.here hx rfl (hb hby at_104) rfl hz104 ?_
        show Steps p.tables e below (s₁.setTop (mkF m 105 #[.val (.int p0), .val (.int p1), .val (.int p2), .val (.int p3), .val (.int p4), .val (.long z4), .second, .val (.long z11), .second, .val (.long z18), .second, .val (.long z26), .second, .val (.long z37), .second, .val (.long z48), .second, .val (.int z72), .val (.int z81), .val (.int z91), .val (.double z98), .second, .unset, .unset, .unset, .unset, .unset, .unset, .unset, .unset, .unset] [(.long z104)])) _
        refine XS.l2dS X0.here hx rfl (hb hby at_105) rfl hz105 ?_
        show Steps p.tables e below (s₁.setTop (mkF m 106 #[.val (.int p0), .val (.int p1), .val (.int p2), .val (.int p3), .val (.int p4), .val (.long z4), .second, .val (.long z11), .second, .val (.long z18), .second, .val (.long z26), .second, .val (.long z37), .second, .val (.long z48), .second, .val (.int z72), .val (.int z81), .val (.int z91), .val (.double z98), .second, .unset, .unset, .unset, .unset, .unset, .unset, .unset, .unset, .unset] [(.double z105)])) _
        refine XS.dstore X0.here hx rfl (hb hby at_106) rfl (l' := #[.val (.int p0), .val (.int p1), .val (.int p2), .val (.int p3), .val (.int p4), .val (.long z4), .second, .val (.long z11), .second, .val (.long z18), .second, .val (.long z26), .second, .val (.long z37), .second, .val (.long z48), .second, .val (.int z72), .val (.int z81), .val (.int z91), .val (.double z98), .second, .val (.double z105), .second, .unset, .unset, .unset, .unset, .unset, .unset, .unset]) rfl ?_
        show Steps p.tables e below (s₁.setTop (mkF m 108 #[.val (.int p0), .val (.int p1), .val (.int p2), .val (.int p3), .val (.int p4), .val (.long z4), .second, .val (.long z11), .second, .val (.long z18), .second, .val (.long z26), .second, .val (.long z37), .second, .val (.long z48), .second, .val (.int z72), .val (.int z81), .val (.int z91), .val (.double z98), .second, .val (.double z105), .second, .unset, .unset, .unset, .unset, .unset, .unset, .unset] [])) _
        refine st9 _ ?_
        show Steps p.tables e below (T9.setTop (mkF m 111 #[.val (.int p0), .val (.int p1), .val (.int p2), .val (.int p3), .val (.int p4), .val (.long z4), .second, .val (.long z11), .second, .val (.long z18), .second, .val (.long z26), .second, .val (.long z37), .second, .val (.long z48), .second, .val (.int z72), .val (.int z81), .val (.int z91), .val (.double z98), .second, .val (.double z105), .second, .unset, .unset, .unset, .unset, .unset, .unset, .unset] [(.ref b9)])) _
        refine XS.dup X9.here hx rfl (hb hby at_111) rfl rfl ?_
        show Steps p.tables e below (T9.setTop (mkF m 112 #[.val (.int p0), .val (.int p1), .val (.int p2), .val (.int p3), .val (.int p4), .val (.long z4), .second, .val (.long z11), .second, .val (.long z18), .second, .val (.long z26), .second, .val (.long z37), .second, .val (.long z48), .second, .val (.int z72), .val (.int z81), .val (.int z91), .val (.double z98), .second, .val (.double z105), .second, .unset, .unset, .unset, .unset, .unset, .unset, .unset] [(.ref b9), (.ref b9)])) _
        refine XS.dload X9.here hx rfl (hb hby at_112) rfl ?_
        show Steps p.tables e below (T9.setTop (mkF m 114 #[.val (.int p0), .val (.int p1), .val (.int p2), .val (.int p3), .val (.int p4), .val (.long z4), .second, .val (.long z11), .second, .val (.long z18), .second, .val (.long z26), .second, .val (.long z37), .second, .val (.long z48), .second, .val (.int z72), .val (.int z81), .val (.int z91), .val (.double z98), .second, .val (.double z105), .second, .unset, .unset, .unset, .unset, .unset, .unset, .unset] [(.double z98), (.ref b9), (.ref b9)])) _
        refine XS.dload X9.here hx rfl (hb hby at_114) rfl ?_
        show Steps p.tables e below (T9.setTop (mkF m 116 #[.val (.int p0), .val (.int p1), .val (.int p2), .val (.int p3), .val (.int p4), .val (.long z4), .second, .val (.long z11), .second, .val (.long z18), .second, .val (.long z26), .second, .val (.long z37), .second, .val (.long z48), .second, .val (.int z72), .val (.int z81), .val (.int z91), .val (.double z98), .second, .val (.double z105), .second, .unset, .unset, .unset, .unset, .unset, .unset, .unset] [(.double z105), (.double z98), (.ref b9), (.ref b9)])) _
        refine XS.lload X9.here hx rfl (hb hby at_116) rfl ?_
        show Steps p.tables e below (T9.setTop (mkF m 118 #[.val (.int p0), .val (.int p1), .val (.int p2), .val (.int p3), .val (.int p4), .val (.long z4), .second, .val (.long z11), .second, .val (.long z18), .second, .val (.long z26), .second, .val (.long z37), .second, .val (.long z48), .second, .val (.int z72), .val (.int z81), .val (.int z91), .val (.double z98), .second, .val (.double z105), .second, .unset, .unset, .unset, .unset, .unset, .unset, .unset] [(.long z26), (.double z105), (.double z98), (.ref b9), (.ref b9)])) _
        refine XS.l2dS X9.here hx rfl (hb hby at_118) rfl hz118 ?_
        show Steps p.tables e below (T9.setTop (mkF m 119 #[.val (.int p0), .val (.int p1), .val (.int p2), .val (.int p3), .val (.int p4), .val (.long z4), .second, .val (.long z11), .second, .val (.long z18), .second, .val (.long z26), .second, .val (.long z37), .second, .val (.long z48), .second, .val (.int z72), .val (.int z81), .val (.int z91), .val (.double z98), .second, .val (.double z105), .second, .unset, .unset, .unset, .unset, .unset, .unset, .unset] [(.double z118), (.double z105), (.double z98), (.ref b9), (.ref b9)])) _
        refine XS.lload X9.here hx rfl (hb hby at_119) rfl ?_
        show Steps p.tables e below (T9.setTop (mkF m 121 #[.val (.int p0), .val (.int p1), .val (.int p2), .val (.int p3), .val (.int p4), .val (.long z4), .second, .val (.long z11), .second, .val (.long z18), .second, .val (.long z26), .second, .val (.long z37), .second, .val (.long z48), .second, .val (.int z72), .val (.int z81), .val (.int z91), .val (.double z98), .second, .val (.double z105), .second, .unset, .unset, .unset, .unset, .unset, .unset, .unset] [(.long z37), (.double z118), (.double z105), (.double z98), (.ref b9), (.ref b9)])) _
        refine XS.l2dS X9.here hx rfl (hb hby at_121) rfl hz121 ?_
        show Steps p.tables e below (T9.setTop (mkF m 122 #[.val (.int p0), .val (.int p1), .val (.int p2), .val (.int p3), .val (.int p4), .val (.long z4), .second, .val (.long z11), .second, .val (.long z18), .second, .val (.long z26), .second, .val (.long z37), .second, .val (.long z48), .second, .val (.int z72), .val (.int z81), .val (.int z91), .val (.double z98), .second, .val (.double z105), .second, .unset, .unset, .unset, .unset, .unset, .unset, .unset] [(.double z121), (.double z118), (.double z105), (.double z98), (.ref b9), (.ref b9)])) _
        refine XS.lload X9.here hx rfl (hb hby at_122) rfl ?_
        show Steps p.tables e below (T9.setTop (mkF m 124 #[.val (.int p0), .val (.int p1), .val (.int p2), .val (.int p3), .val (.int p4), .val (.long z4), .second, .val (.long z11), .second, .val (.long z18), .second, .val (.long z26), .second, .val (.long z37), .second, .val (.long z48), .second, .val (.int z72), .val (.int z81), .val (.int z91), .val (.double z98), .second, .val (.double z105), .second, .unset, .unset, .unset, .unset, .unset, .unset, .unset] [(.long z48), (.double z121), (.double z118), (.double z105), (.double z98), (.ref b9), (.ref b9)])) _
        refine XS.l2dS X9.here hx rfl (hb hby at_124) rfl hz124 ?_
        show Steps p.tables e below (T9.setTop (mkF m 125 #[.val (.int p0), .val (.int p1), .val (.int p2), .val (.int p3), .val (.int p4), .val (.long z4), .second, .val (.long z11), .second, .val (.long z18), .second, .val (.long z26), .second, .val (.long z37), .second, .val (.long z48), .second, .val (.int z72), .val (.int z81), .val (.int z91), .val (.double z98), .second, .val (.double z105), .second, .unset, .unset, .unset, .unset, .unset, .unset, .unset] [(.double z124), (.double z121), (.double z118), (.double z105), (.double z98), (.ref b9), (.ref b9)])) _
        refine st11.trans ?_
        show Steps p.tables e below (T11.setTop (mkF m 128 #[.val (.int p0), .val (.int p1), .val (.int p2), .val (.int p3), .val (.int p4), .val (.long z4), .second, .val (.long z11), .second, .val (.long z18), .second, .val (.long z26), .second, .val (.long z37), .second, .val (.long z48), .second, .val (.int z72), .val (.int z81), .val (.int z91), .val (.double z98), .second, .val (.double z105), .second, .unset, .unset, .unset, .unset, .unset, .unset, .unset] [(.ref b9)])) _
        refine XS.astore X11.here hx rfl (hb hby at_128) rfl rfl (l' := #[.val (.int p0), .val (.int p1), .val (.int p2), .val (.int p3), .val (.int p4), .val (.long z4), .second, .val (.long z11), .second, .val (.long z18), .second, .val (.long z26), .second, .val (.long z37), .second, .val (.long z48), .second, .val (.int z72), .val (.int z81), .val (.int z91), .val (.double z98), .second, .val (.double z105), .second, .val (.ref b9), .unset, .unset, .unset, .unset, .unset, .unset]) rfl ?_
        show Steps p.tables e below (T11.setTop (mkF m 130 #[.val (.int p0), .val (.int p1), .val (.int p2), .val (.int p3), .val (.int p4), .val (.long z4), .second, .val (.long z11), .second, .val (.long z18), .second, .val (.long z26), .second, .val (.long z37), .second, .val (.long z48), .second, .val (.int z72), .val (.int z81), .val (.int z91), .val (.double z98), .second, .val (.double z105), .second, .val (.ref b9), .unset, .unset, .unset, .unset, .unset, .unset] [])) _
        refine XS.lload X11.here hx rfl (hb hby at_130) rfl ?_
        show Steps p.tables e below (T11.setTop (mkF m 132 #[.val (.int p0), .val (.int p1), .val (.int p2), .val (.int p3), .val (.int p4), .val (.long z4), .second, .val (.long z11), .second, .val (.long z18), .second, .val (.long z26), .second, .val (.long z37), .second, .val (.long z48), .second, .val (.int z72), .val (.int z81), .val (.int z91), .val (.double z98), .second, .val (.double z105), .second, .val (.ref b9), .unset, .unset, .unset, .unset, .unset, .unset] [(.long z18)])) _
        refine XS.l2dS X11.here hx rfl (hb hby at_132) rfl hz132 ?_
        show Steps p.tables e below (T11.setTop (mkF m 133 #[.val (.int p0), .val (.int p1), .val (.int p2), .val (.int p3), .val (.int p4), .val (.long z4), .second, .val (.long z11), .second, .val (.long z18), .second, .val (.long z26), .second, .val (.long z37), .second, .val (.long z48), .second, .val (.int z72), .val (.int z81), .val (.int z91), .val (.double z98), .second, .val (.double z105), .second, .val (.ref b9), .unset, .unset, .unset, .unset, .unset, .unset] [(.double z132)])) _
        refine XS.lconst X11.here hx rfl (hb hby at_133) ?_
        show Steps p.tables e below (T11.setTop (mkF m 134 #[.val (.int p0), .val (.int p1), .val (.int p2), .val (.int p3), .val (.int p4), .val (.long z4), .second, .val (.long z11), .second, .val (.long z18), .second, .val (.long z26), .second, .val (.long z37), .second, .val (.long z48), .second, .val (.int z72), .val (.int z81), .val (.int z91), .val (.double z98), .second, .val (.double z105), .second, .val (.ref b9), .unset, .unset, .unset, .unset, .unset, .unset] [(.long (1 : Int64)), (.double z132)])) _
        refine XS.iload X11.here hx rfl (hb hby at_134) rfl ?_
        show Steps p.tables e below (T11.setTop (mkF m 136 #[.val (.int p0), .val (.int p1), .val (.int p2), .val (.int p3), .val (.int p4), .val (.long z4), .second, .val (.long z11), .second, .val (.long z18), .second, .val (.long z26), .second, .val (.long z37), .second, .val (.long z48), .second, .val (.int z72), .val (.int z81), .val (.int z91), .val (.double z98), .second, .val (.double z105), .second, .val (.ref b9), .unset, .unset, .unset, .unset, .unset, .unset] [(.int z91), (.long (1 : Int64)), (.double z132)])) _
        refine Jvm.OwnK.lshl X11.here hx rfl (hb hby at_136) rfl hz136 ?_
        show Steps p.tables e below (T11.setTop (mkF m 137 #[.val (.int p0), .val (.int p1), .val (.int p2), .val (.int p3), .val (.int p4), .val (.long z4), .second, .val (.long z11), .second, .val (.long z18), .second, .val (.long z26), .second, .val (.long z37), .second, .val (.long z48), .second, .val (.int z72), .val (.int z81), .val (.int z91), .val (.double z98), .second, .val (.double z105), .second, .val (.ref b9), .unset, .unset, .unset, .unset, .unset, .unset] [(.long z136), (.double z132)])) _
        refine XS.l2dS X11.here hx rfl (hb hby at_137) rfl hz137 ?_
        show Steps p.tables e below (T11.setTop (mkF m 138 #[.val (.int p0), .val (.int p1), .val (.int p2), .val (.int p3), .val (.int p4), .val (.long z4), .second, .val (.long z11), .second, .val (.long z18), .second, .val (.long z26), .second, .val (.long z37), .second, .val (.long z48), .second, .val (.int z72), .val (.int z81), .val (.int z91), .val (.double z98), .second, .val (.double z105), .second, .val (.ref b9), .unset, .unset, .unset, .unset, .unset, .unset] [(.double z137), (.double z132)])) _
        refine Jvm.OwnK.ddiv X11.here hx rfl (hb hby at_138) rfl hz138 nn138 ?_
        show Steps p.tables e below (T11.setTop (mkF m 139 #[.val (.int p0), .val (.int p1), .val (.int p2), .val (.int p3), .val (.int p4), .val (.long z4), .second, .val (.long z11), .second, .val (.long z18), .second, .val (.long z26), .second, .val (.long z37), .second, .val (.long z48), .second, .val (.int z72), .val (.int z81), .val (.int z91), .val (.double z98), .second, .val (.double z105), .second, .val (.ref b9), .unset, .unset, .unset, .unset, .unset, .unset] [(.double z138)])) _
        refine XS.dstore X11.here hx rfl (hb hby at_139) rfl (l' := #[.val (.int p0), .val (.int p1), .val (.int p2), .val (.int p3), .val (.int p4), .val (.long z4), .second, .val (.long z11), .second, .val (.long z18), .second, .val (.long z26), .second, .val (.long z37), .second, .val (.long z48), .second, .val (.int z72), .val (.int z81), .val (.int z91), .val (.double z98), .second, .val (.double z105), .second, .val (.ref b9), .val (.double z138), .second, .unset, .unset, .unset, .unset]) rfl ?_
        show Steps p.tables e below (T11.setTop (mkF m 141 #[.val (.int p0), .val (.int p1), .val (.int p2), .val (.int p3), .val (.int p4), .val (.long z4), .second, .val (.long z11), .second, .val (.long z18), .second, .val (.long z26), .second, .val (.long z37), .second, .val (.long z48), .second, .val (.int z72), .val (.int z81), .val (.int z91), .val (.double z98), .second, .val (.double z105), .second, .val (.ref b9), .val (.double z138), .second, .unset, .unset, .unset, .unset] [])) _
        refine XS.aload X11.here hx rfl (hb hby at_141) rfl rfl ?_
        show Steps p.tables e below (T11.setTop (mkF m 143 #[.val (.int p0), .val (.int p1), .val (.int p2), .val (.int p3), .val (.int p4), .val (.long z4), .second, .val (.long z11), .second, .val (.long z18), .second, .val (.long z26), .second, .val (.long z37), .second, .val (.long z48), .second, .val (.int z72), .val (.int z81), .val (.int z91), .val (.double z98), .second, .val (.double z105), .second, .val (.ref b9), .val (.double z138), .second, .unset, .unset, .unset, .unset] [(.ref b9)])) _
        refine XS.lload X11.here hx rfl (hb hby at_143) rfl ?_
        show Steps p.tables e below (T11.setTop (mkF m 145 #[.val (.int p0), .val (.int p1), .val (.int p2), .val (.int p3), .val (.int p4), .val (.long z4), .second, .val (.long z11), .second, .val (.long z18), .second, .val (.long z26), .second, .val (.long z37), .second, .val (.long z48), .second, .val (.int z72), .val (.int z81), .val (.int z91), .val (.double z98), .second, .val (.double z105), .second, .val (.ref b9), .val (.double z138), .second, .unset, .unset, .unset, .unset] [(.long z4), (.ref b9)])) _
        refine XS.l2dS X11.here hx rfl (hb hby at_145) rfl hz145 ?_
        show Steps p.tables e below (T11.setTop (mkF m 146 #[.val (.int p0), .val (.int p1), .val (.int p2), .val (.int p3), .val (.int p4), .val (.long z4), .second, .val (.long z11), .second, .val (.long z18), .second, .val (.long z26), .second, .val (.long z37), .second, .val (.long z48), .second, .val (.int z72), .val (.int z81), .val (.int z91), .val (.double z98), .second, .val (.double z105), .second, .val (.ref b9), .val (.double z138), .second, .unset, .unset, .unset, .unset] [(.double z145), (.ref b9)])) _
        refine XS.lload X11.here hx rfl (hb hby at_146) rfl ?_
        show Steps p.tables e below (T11.setTop (mkF m 148 #[.val (.int p0), .val (.int p1), .val (.int p2), .val (.int p3), .val (.int p4), .val (.long z4), .second, .val (.long z11), .second, .val (.long z18), .second, .val (.long z26), .second, .val (.long z37), .second, .val (.long z48), .second, .val (.int z72), .val (.int z81), .val (.int z91), .val (.double z98), .second, .val (.double z105), .second, .val (.ref b9), .val (.double z138), .second, .unset, .unset, .unset, .unset] [(.long z11), (.double z145), (.ref b9)])) _
        refine XS.l2dS X11.here hx rfl (hb hby at_148) rfl hz148 ?_
        show Steps p.tables e below (T11.setTop (mkF m 149 #[.val (.int p0), .val (.int p1), .val (.int p2), .val (.int p3), .val (.int p4), .val (.long z4), .second, .val (.long z11), .second, .val (.long z18), .second, .val (.long z26), .second, .val (.long z37), .second, .val (.long z48), .second, .val (.int z72), .val (.int z81), .val (.int z91), .val (.double z98), .second, .val (.double z105), .second, .val (.ref b9), .val (.double z138), .second, .unset, .unset, .unset, .unset] [(.double z148), (.double z145), (.ref b9)])) _
        refine XS.dload X11.here hx rfl (hb hby at_149) rfl ?_
        show Steps p.tables e below (T11.setTop (mkF m 151 #[.val (.int p0), .val (.int p1), .val (.int p2), .val (.int p3), .val (.int p4), .val (.long z4), .second, .val (.long z11), .second, .val (.long z18), .second, .val (.long z26), .second, .val (.long z37), .second, .val (.long z48), .second, .val (.int z72), .val (.int z81), .val (.int z91), .val (.double z98), .second, .val (.double z105), .second, .val (.ref b9), .val (.double z138), .second, .unset, .unset, .unset, .unset] [(.double z138), (.double z148), (.double z145), (.ref b9)])) _
        refine st13.trans ?_
        show Steps p.tables e below (T13.setTop (mkF m 154 #[.val (.int p0), .val (.int p1), .val (.int p2), .val (.int p3), .val (.int p4), .val (.long z4), .second, .val (.long z11), .second, .val (.long z18), .second, .val (.long z26), .second, .val (.long z37), .second, .val (.long z48), .second, .val (.int z72), .val (.int z81), .val (.int z91), .val (.double z98), .second, .val (.double z105), .second, .val (.ref b9), .val (.double z138), .second, .unset, .unset, .unset, .unset] [(.double c151_z30)])) _
        refine XS.dstore X13.here hx rfl (hb hby at_154) rfl (l' := #[.val (.int p0), .val (.int p1), .val (.int p2), .val (.int p3), .val (.int p4), .val (.long z4), .second, .val (.long z11), .second, .val (.long z18), .second, .val (.long z26), .second, .val (.long z37), .second, .val (.long z48), .second, .val (.int z72), .val (.int z81), .val (.int z91), .val (.double z98), .second, .val (.double z105), .second, .val (.ref b9), .val (.double z138), .second, .val (.double c151_z30), .second, .unset, .unset]) rfl ?_
        show Steps p.tables e below (T13.setTop (mkF m 156 #[.val (.int p0), .val (.int p1), .val (.int p2), .val (.int p3), .val (.int p4), .val (.long z4), .second, .val (.long z11), .second, .val (.long z18), .second, .val (.long z26), .second, .val (.long z37), .second, .val (.long z48), .second, .val (.int z72), .val (.int z81), .val (.int z91), .val (.double z98), .second, .val (.double z105), .second, .val (.ref b9), .val (.double z138), .second, .val (.double c151_z30), .second, .unset, .unset] [])) _
        refine XS.lload X13.here hx rfl (hb hby at_156) rfl ?_
        show Steps p.tables e below (T13.setTop (mkF m 158 #[.val (.int p0), .val (.int p1), .val (.int p2), .val (.int p3), .val (.int p4), .val (.long z4), .second, .val (.long z11), .second, .val (.long z18), .second, .val (.long z26), .second, .val (.long z37), .second, .val (.long z48), .second, .val (.int z72), .val (.int z81), .val (.int z91), .val (.double z98), .second, .val (.double z105), .second, .val (.ref b9), .val (.double z138), .second, .val (.double c151_z30), .second, .unset, .unset] [(.long z26)])) _
        refine XS.lload X13.here hx rfl (hb hby at_158) rfl ?_
        show Steps p.tables e below (T13.setTop (mkF m 160 #[.val (.int p0), .val (.int p1), .val (.int p2), .val (.int p3), .val (.int p4), .val (.long z4), .second, .val (.long z11), .second, .val (.long z18), .second, .val (.long z26), .second, .val (.long z37), .second, .val (.long z48), .second, .val (.int z72), .val (.int z81), .val (.int z91), .val (.double z98), .second, .val (.double z105), .second, .val (.ref b9), .val (.double z138), .second, .val (.double c151_z30), .second, .unset, .unset] [(.long z4), (.long z26)])) _
        refine Jvm.OwnK.lmul X13.here hx rfl (hb hby at_160) rfl hz160 ?_
        show Steps p.tables e below (T13.setTop (mkF m 161 #[.val (.int p0), .val (.int p1), .val (.int p2), .val (.int p3), .val (.int p4), .val (.long z4), .second, .val (.long z11), .second, .val (.long z18), .second, .val (.long z26), .second, .val (.long z37), .second, .val (.long z48), .second, .val (.int z72), .val (.int z81), .val (.int z91), .val (.double z98), .second, .val (.double z105), .second, .val (.ref b9), .val (.double z138), .second, .val (.double c151_z30), .second, .unset, .unset] [(.long z160)])) _
        refine XS.lconst X13.here hx rfl (hb hby at_161) ?_
        show Steps p.tables e below (T13.setTop (mkF m 162 #[.val (.int p0), .val (.int p1), .val (.int p2), .val (.int p3), .val (.int p4), .val (.long z4), .second, .val (.long z11), .second, .val (.long z18), .second, .val (.long z26), .second, .val (.long z37), .second, .val (.long z48), .second, .val (.int z72), .val (.int z81), .val (.int z91), .val (.double z98), .second, .val (.double z105), .second, .val (.ref b9), .val (.double z138), .second, .val (.double c151_z30), .second, .unset, .unset] [(.long (1 : Int64)), (.long z160)])) _
        refine XS.iload X13.here hx rfl (hb hby at_162) rfl ?_
        show Steps p.tables e below (T13.setTop (mkF m 164 #[.val (.int p0), .val (.int p1), .val (.int p2), .val (.int p3), .val (.int p4), .val (.long z4), .second, .val (.long z11), .second, .val (.long z18), .second, .val (.long z26), .second, .val (.long z37), .second, .val (.long z48), .second, .val (.int z72), .val (.int z81), .val (.int z91), .val (.double z98), .second, .val (.double z105), .second, .val (.ref b9), .val (.double z138), .second, .val (.double c151_z30), .second, .unset, .unset] [(.int z81), (.long (1 : Int64)), (.long z160)])) _
        refine XS.iload X13.here hx rfl (hb hby at_164) rfl ?_
        show Steps p.tables e below (T13.setTop (mkF m 166 #[.val (.int p0), .val (.int p1), .val (.int p2), .val (.int p3), .val (.int p4), .val (.long z4), .second, .val (.long z11), .second, .val (.long z18), .second, .val (.long z26), .second, .val (.long z37), .second, .val (.long z48), .second, .val (.int z72), .val (.int z81), .val (.int z91), .val (.double z98), .second, .val (.double z105), .second, .val (.ref b9), .val (.double z138), .second, .val (.double c151_z30), .second, .unset, .unset] [(.int z91), (.int z81), (.long (1 : Int64)), (.long z160)])) _
        refine Jvm.OwnK.iadd X13.here hx rfl (hb hby at_166) rfl hz166 ?_
        show Steps p.tables e below (T13.setTop (mkF m 167 #[.val (.int p0), .val (.int p1), .val (.int p2), .val (.int p3), .val (.int p4), .val (.long z4), .second, .val (.long z11), .second, .val (.long z18), .second, .val (.long z26), .second, .val (.long z37), .second, .val (.long z48), .second, .val (.int z72), .val (.int z81), .val (.int z91), .val (.double z98), .second, .val (.double z105), .second, .val (.ref b9), .val (.double z138), .second, .val (.double c151_z30), .second, .unset, .unset] [(.int z166), (.long (1 : Int64)), (.long z160)])) _
        refine Jvm.OwnK.lshl X13.here hx rfl (hb hby at_167) rfl hz167 ?_
        show Steps p.tables e below (T13.setTop (mkF m 168 #[.val (.int p0), .val (.int p1), .val (.int p2), .val (.int p3), .val (.int p4), .val (.long z4), .second, .val (.long z11), .second, .val (.long z18), .second, .val (.long z26), .second, .val (.long z37), .second, .val (.long z48), .second, .val (.int z72), .val (.int z81), .val (.int z91), .val (.double z98), .second, .val (.double z105), .second, .val (.ref b9), .val (.double z138), .second, .val (.double c151_z30), .second, .unset, .unset] [(.long z167), (.long z160)])) _
        refine Jvm.OwnK.lmul X13.here hx rfl (hb hby at_168) rfl hz168 ?_
        show Steps p.tables e below (T13.setTop (mkF m 169 #[.val (.int p0), .val (.int p1), .val (.int p2), .val (.int p3), .val (.int p4), .val (.long z4), .second, .val (.long z11), .second, .val (.long z18), .second, .val (.long z26), .second, .val (.long z37), .second, .val (.long z48), .second, .val (.int z72), .val (.int z81), .val (.int z91), .val (.double z98), .second, .val (.double z105), .second, .val (.ref b9), .val (.double z138), .second, .val (.double c151_z30), .second, .unset, .unset] [(.long z168)])) _
        refine XS.lload X13.here hx rfl (hb hby at_169) rfl ?_
        show Steps p.tables e below (T13.setTop (mkF m 171 #[.val (.int p0), .val (.int p1), .val (.int p2), .val (.int p3), .val (.int p4), .val (.long z4), .second, .val (.long z11), .second, .val (.long z18), .second, .val (.long z26), .second, .val (.long z37), .second, .val (.long z48), .second, .val (.int z72), .val (.int z81), .val (.int z91), .val (.double z98), .second, .val (.double z105), .second, .val (.ref b9), .val (.double z138), .second, .val (.double c151_z30), .second, .unset, .unset] [(.long z37), (.long z168)])) _
        refine XS.lload X13.here hx rfl (hb hby at_171) rfl ?_
        show Steps p.tables e below (T13.setTop (mkF m 173 #[.val (.int p0), .val (.int p1), .val (.int p2), .val (.int p3), .val (.int p4), .val (.long z4), .second, .val (.long z11), .second, .val (.long z18), .second, .val (.long z26), .second, .val (.long z37), .second, .val (.long z48), .second, .val (.int z72), .val (.int z81), .val (.int z91), .val (.double z98), .second, .val (.double z105), .second, .val (.ref b9), .val (.double z138), .second, .val (.double c151_z30), .second, .unset, .unset] [(.long z11), (.long z37), (.long z168)])) _
        refine Jvm.OwnK.lmul X13.here hx rfl (hb hby at_173) rfl hz173 ?_
        show Steps p.tables e below (T13.setTop (mkF m 174 #[.val (.int p0), .val (.int p1), .val (.int p2), .val (.int p3), .val (.int p4), .val (.long z4), .second, .val (.long z11), .second, .val (.long z18), .second, .val (.long z26), .second, .val (.long z37), .second, .val (.long z48), .second, .val (.int z72), .val (.int z81), .val (.int z91), .val (.double z98), .second, .val (.double z105), .second, .val (.ref b9), .val (.double z138), .second, .val (.double c151_z30), .second, .unset, .unset] [(.long z173), (.long z168)])) _
        refine XS.lconst X13.here hx rfl (hb hby at_174) ?_
        show Steps p.tables e below (T13.setTop (mkF m 175 #[.val (.int p0), .val (.int p1), .val (.int p2), .val (.int p3), .val (.int p4), .val (.long z4), .second, .val (.long z11), .second, .val (.long z18), .second, .val (.long z26), .second, .val (.long z37), .second, .val (.long z48), .second, .val (.int z72), .val (.int z81), .val (.int z91), .val (.double z98), .second, .val (.double z105), .second, .val (.ref b9), .val (.double z138), .second, .val (.double c151_z30), .second, .unset, .unset] [(.long (1 : Int64)), (.long z173), (.long z168)])) _
        refine XS.iload X13.here hx rfl (hb hby at_175) rfl ?_
        show Steps p.tables e below (T13.setTop (mkF m 177 #[.val (.int p0), .val (.int p1), .val (.int p2), .val (.int p3), .val (.int p4), .val (.long z4), .second, .val (.long z11), .second, .val (.long z18), .second, .val (.long z26), .second, .val (.long z37), .second, .val (.long z48), .second, .val (.int z72), .val (.int z81), .val (.int z91), .val (.double z98), .second, .val (.double z105), .second, .val (.ref b9), .val (.double z138), .second, .val (.double c151_z30), .second, .unset, .unset] [(.int z72), (.long (1 : Int64)), (.long z173), (.long z168)])) _
        refine XS.iload X13.here hx rfl (hb hby at_177) rfl ?_
        show Steps p.tables e below (T13.setTop (mkF m 179 #[.val (.int p0), .val (.int p1), .val (.int p2), .val (.int p3), .val (.int p4), .val (.long z4), .second, .val (.long z11), .second, .val (.long z18), .second, .val (.long z26), .second, .val (.long z37), .second, .val (.long z48), .second, .val (.int z72), .val (.int z81), .val (.int z91), .val (.double z98), .second, .val (.double z105), .second, .val (.ref b9), .val (.double z138), .second, .val (.double c151_z30), .second, .unset, .unset] [(.int z91), (.int z72), (.long (1 : Int64)), (.long z173), (.long z168)])) _
        refine Jvm.OwnK.iadd X13.here hx rfl (hb hby at_179) rfl hz179 ?_
        show Steps p.tables e below (T13.setTop (mkF m 180 #[.val (.int p0), .val (.int p1), .val (.int p2), .val (.int p3), .val (.int p4), .val (.long z4), .second, .val (.long z11), .second, .val (.long z18), .second, .val (.long z26), .second, .val (.long z37), .second, .val (.long z48), .second, .val (.int z72), .val (.int z81), .val (.int z91), .val (.double z98), .second, .val (.double z105), .second, .val (.ref b9), .val (.double z138), .second, .val (.double c151_z30), .second, .unset, .unset] [(.int z179), (.long (1 : Int64)), (.long z173), (.long z168)])) _
        refine Jvm.OwnK.lshl X13.here hx rfl (hb hby at_180) rfl hz180 ?_
        show Steps p.tables e below (T13.setTop (mkF m 181 #[.val (.int p0), .val (.int p1), .val (.int p2), .val (.int p3), .val (.int p4), .val (.long z4), .second, .val (.long z11), .second, .val (.long z18), .second, .val (.long z26), .second, .val (.long z37), .second, .val (.long z48), .second, .val (.int z72), .val (.int z81), .val (.int z91), .val (.double z98), .second, .val (.double z105), .second, .val (.ref b9), .val (.double z138), .second, .val (.double c151_z30), .second, .unset, .unset] [(.long z180), (.long z173), (.long z168)])) _
        refine Jvm.OwnK.lmul X13.here hx rfl (hb hby at_181) rfl hz181 ?_
        show Steps p.tables e below (T13.setTop (mkF m 182 #[.val (.int p0), .val (.int p1), .val (.int p2), .val (.int p3), .val (.int p4), .val (.long z4), .second, .val (.long z11), .second, .val (.long z18), .second, .val (.long z26), .second, .val (.long z37), .second, .val (.long z48), .second, .val (.int z72), .val (.int z81), .val (.int z91), .val (.double z98), .second, .val (.double z105), .second, .val (.ref b9), .val (.double z138), .second, .val (.double c151_z30), .second, .unset, .unset] [(.long z181), (.long z168)])) _
        refine Jvm.OwnK.ladd X13.here hx rfl (hb hby at_182) rfl hz182 ?_
        show Steps p.tables e below (T13.setTop (mkF m 183 #[.val (.int p0), .val (.int p1), .val (.int p2), .val (.int p3), .val (.int p4), .val (.long z4), .second, .val (.long z11), .second, .val (.long z18), .second, .val (.long z26), .second, .val (.long z37), .second, .val (.long z48), .second, .val (.int z72), .val (.int z81), .val (.int z91), .val (.double z98), .second, .val (.double z105), .second, .val (.ref b9), .val (.double z138), .second, .val (.double c151_z30), .second, .unset, .unset] [(.long z182)])) _
        refine XS.lload X13.here hx rfl (hb hby at_183) rfl ?_
        show Steps p.tables e below (T13.setTop (mkF m 185 #[.val (.int p0), .val (.int p1), .val (.int p2), .val (.int p3), .val (.int p4), .val (.long z4), .second, .val (.long z11), .second, .val (.long z18), .second, .val (.long z26), .second, .val (.long z37), .second, .val (.long z48), .second, .val (.int z72), .val (.int z81), .val (.int z91), .val (.double z98), .second, .val (.double z105), .second, .val (.ref b9), .val (.double z138), .second, .val (.double c151_z30), .second, .unset, .unset] [(.long z48), (.long z182)])) _
        refine XS.lload X13.here hx rfl (hb hby at_185) rfl ?_
        show Steps p.tables e below (T13.setTop (mkF m 187 #[.val (.int p0), .val (.int p1), .val (.int p2), .val (.int p3), .val (.int p4), .val (.long z4), .second, .val (.long z11), .second, .val (.long z18), .second, .val (.long z26), .second, .val (.long z37), .second, .val (.long z48), .second, .val (.int z72), .val (.int z81), .val (.int z91), .val (.double z98), .second, .val (.double z105), .second, .val (.ref b9), .val (.double z138), .second, .val (.double c151_z30), .second, .unset, .unset] [(.long z18), (.long z48), (.long z182)])) _
        refine Jvm.OwnK.lmul X13.here hx rfl (hb hby at_187) rfl hz187 ?_
        show Steps p.tables e below (T13.setTop (mkF m 188 #[.val (.int p0), .val (.int p1), .val (.int p2), .val (.int p3), .val (.int p4), .val (.long z4), .second, .val (.long z11), .second, .val (.long z18), .second, .val (.long z26), .second, .val (.long z37), .second, .val (.long z48), .second, .val (.int z72), .val (.int z81), .val (.int z91), .val (.double z98), .second, .val (.double z105), .second, .val (.ref b9), .val (.double z138), .second, .val (.double c151_z30), .second, .unset, .unset] [(.long z187), (.long z182)])) _
        refine XS.lconst X13.here hx rfl (hb hby at_188) ?_
        show Steps p.tables e below (T13.setTop (mkF m 189 #[.val (.int p0), .val (.int p1), .val (.int p2), .val (.int p3), .val (.int p4), .val (.long z4), .second, .val (.long z11), .second, .val (.long z18), .second, .val (.long z26), .second, .val (.long z37), .second, .val (.long z48), .second, .val (.int z72), .val (.int z81), .val (.int z91), .val (.double z98), .second, .val (.double z105), .second, .val (.ref b9), .val (.double z138), .second, .val (.double c151_z30), .second, .unset, .unset] [(.long (1 : Int64)), (.long z187), (.long z182)])) _
        refine XS.iload X13.here hx rfl (hb hby at_189) rfl ?_
        show Steps p.tables e below (T13.setTop (mkF m 191 #[.val (.int p0), .val (.int p1), .val (.int p2), .val (.int p3), .val (.int p4), .val (.long z4), .second, .val (.long z11), .second, .val (.long z18), .second, .val (.long z26), .second, .val (.long z37), .second, .val (.long z48), .second, .val (.int z72), .val (.int z81), .val (.int z91), .val (.double z98), .second, .val (.double z105), .second, .val (.ref b9), .val (.double z138), .second, .val (.double c151_z30), .second, .unset, .unset] [(.int z72), (.long (1 : Int64)), (.long z187), (.long z182)])) _
        refine XS.iload X13.here hx rfl (hb hby at_191) rfl ?_
        show Steps p.tables e below (T13.setTop (mkF m 193 #[.val (.int p0), .val (.int p1), .val (.int p2), .val (.int p3), .val (.int p4), .val (.long z4), .second, .val (.long z11), .second, .val (.long z18), .second, .val (.long z26), .second, .val (.long z37), .second, .val (.long z48), .second, .val (.int z72), .val (.int z81), .val (.int z91), .val (.double z98), .second, .val (.double z105), .second, .val (.ref b9), .val (.double z138), .second, .val (.double c151_z30), .second, .unset, .unset] [(.int z81), (.int z72), (.long (1 : Int64)), (.long z187), (.long z182)])) _
        refine Jvm.OwnK.iadd X13.here hx rfl (hb hby at_193) rfl hz193 ?_
        show Steps p.tables e below (T13.setTop (mkF m 194 #[.val (.int p0), .val (.int p1), .val (.int p2), .val (.int p3), .val (.int p4), .val (.long z4), .second, .val (.long z11), .second, .val (.long z18), .second, .val (.long z26), .second, .val (.long z37), .second, .val (.long z48), .second, .val (.int z72), .val (.int z81), .val (.int z91), .val (.double z98), .second, .val (.double z105), .second, .val (.ref b9), .val (.double z138), .second, .val (.double c151_z30), .second, .unset, .unset] [(.int z193), (.long (1 : Int64)), (.long z187), (.long z182)])) _
        refine Jvm.OwnK.lshl X13.here hx rfl (hb hby at_194) rfl hz194 ?_
        show Steps p.tables e below (T13.setTop (mkF m 195 #[.val (.int p0), .val (.int p1), .val (.int p2), .val (.int p3), .val (.int p4), .val (.long z4), .second, .val (.long z11), .second, .val (.long z18), .second, .val (.long z26), .second, .val (.long z37), .second, .val (.long z48), .second, .val (.int z72), .val (.int z81), .val (.int z91), .val (.double z98), .second, .val (.double z105), .second, .val (.ref b9), .val (.double z138), .second, .val (.double c151_z30), .second, .unset, .unset] [(.long z194), (.long z187), (.long z182)])) _
        refine Jvm.OwnK.lmul X13.here hx rfl (hb hby at_195) rfl hz195 ?_
        show Steps p.tables e below (T13.setTop (mkF m 196 #[.val (.int p0), .val (.int p1), .val (.int p2), .val (.int p3), .val (.int p4), .val (.long z4), .second, .val (.long z11), .second, .val (.long z18), .second, .val (.long z26), .second, .val (.long z37), .second, .val (.long z48), .second, .val (.int z72), .val (.int z81), .val (.int z91), .val (.double z98), .second, .val (.double z105), .second, .val (.ref b9), .val (.double z138), .second, .val (.double c151_z30), .second, .unset, .unset] [(.long z195), (.long z182)])) _
        refine Jvm.OwnK.ladd X13.here hx rfl (hb hby at_196) rfl hz196 ?_
        show Steps p.tables e below (T13.setTop (mkF m 197 #[.val (.int p0), .val (.int p1), .val (.int p2), .val (.int p3), .val (.int p4), .val (.long z4), .second, .val (.long z11), .second, .val (.long z18), .second, .val (.long z26), .second, .val (.long z37), .second, .val (.long z48), .second, .val (.int z72), .val (.int z81), .val (.int z91), .val (.double z98), .second, .val (.double z105), .second, .val (.ref b9), .val (.double z138), .second, .val (.double c151_z30), .second, .unset, .unset] [(.long z196)])) _
        refine XS.lstore X13.here hx rfl (hb hby at_197) rfl (l' := #[.val (.int p0), .val (.int p1), .val (.int p2), .val (.int p3), .val (.int p4), .val (.long z4), .second, .val (.long z11), .second, .val (.long z18), .second, .val (.long z26), .second, .val (.long z37), .second, .val (.long z48), .second, .val (.int z72), .val (.int z81), .val (.int z91), .val (.double z98), .second, .val (.double z105), .second, .val (.ref b9), .val (.double z138), .second, .val (.double c151_z30), .second, .val (.long z196), .second]) rfl ?_
        show Steps p.tables e below (T13.setTop (mkF m 199 #[.val (.int p0), .val (.int p1), .val (.int p2), .val (.int p3), .val (.int p4), .val (.long z4), .second, .val (.long z11), .second, .val (.long z18), .second, .val (.long z26), .second, .val (.long z37), .second, .val (.long z48), .second, .val (.int z72), .val (.int z81), .val (.int z91), .val (.double z98), .second, .val (.double z105), .second, .val (.ref b9), .val (.double z138), .second, .val (.double c151_z30), .second, .val (.long z196), .second] [])) _
        refine XS.dload X13.here hx rfl (hb hby at_199) rfl ?_
        show Steps p.tables e below (T13.setTop (mkF m 201 #[.val (.int p0), .val (.int p1), .val (.int p2), .val (.int p3), .val (.int p4), .val (.long z4), .second, .val (.long z11), .second, .val (.long z18), .second, .val (.long z26), .second, .val (.long z37), .second, .val (.long z48), .second, .val (.int z72), .val (.int z81), .val (.int z91), .val (.double z98), .second, .val (.double z105), .second, .val (.ref b9), .val (.double z138), .second, .val (.double c151_z30), .second, .val (.long z196), .second] [(.double c151_z30)])) _
        refine XS.lconst X13.here hx rfl (hb hby at_201) ?_
        show Steps p.tables e below (T13.setTop (mkF m 202 #[.val (.int p0), .val (.int p1), .val (.int p2), .val (.int p3), .val (.int p4), .val (.long z4), .second, .val (.long z11), .second, .val (.long z18), .second, .val (.long z26), .second, .val (.long z37), .second, .val (.long z48), .second, .val (.int z72), .val (.int z81), .val (.int z91), .val (.double z98), .second, .val (.double z105), .second, .val (.ref b9), .val (.double z138), .second, .val (.double c151_z30), .second, .val (.long z196), .second] [(.long (1 : Int64)), (.double c151_z30)])) _
        refine XS.iload X13.here hx rfl (hb hby at_202) rfl ?_
        show Steps p.tables e below (T13.setTop (mkF m 204 #[.val (.int p0), .val (.int p1), .val (.int p2), .val (.int p3), .val (.int p4), .val (.long z4), .second, .val (.long z11), .second, .val (.long z18), .second, .val (.long z26), .second, .val (.long z37), .second, .val (.long z48), .second, .val (.int z72), .val (.int z81), .val (.int z91), .val (.double z98), .second, .val (.double z105), .second, .val (.ref b9), .val (.double z138), .second, .val (.double c151_z30), .second, .val (.long z196), .second] [(.int z72), (.long (1 : Int64)), (.double c151_z30)])) _
        refine XS.iload X13.here hx rfl (hb hby at_204) rfl ?_
        show Steps p.tables e below (T13.setTop (mkF m 206 #[.val (.int p0), .val (.int p1), .val (.int p2), .val (.int p3), .val (.int p4), .val (.long z4), .second, .val (.long z11), .second, .val (.long z18), .second, .val (.long z26), .second, .val (.long z37), .second, .val (.long z48), .second, .val (.int z72), .val (.int z81), .val (.int z91), .val (.double z98), .second, .val (.double z105), .second, .val (.ref b9), .val (.double z138), .second, .val (.double c151_z30), .second, .val (.long z196), .second] [(.int z81), (.int z72), (.long (1 : Int64)), (.double c151_z30)])) _
        refine Jvm.OwnK.iadd X13.here hx rfl (hb hby at_206) rfl hz206 ?_
        show Steps p.tables e below (T13.setTop (mkF m 207 #[.val (.int p0), .val (.int p1), .val (.int p2), .val (.int p3), .val (.int p4), .val (.long z4), .second, .val (.long z11), .second, .val (.long z18), .second, .val (.long z26), .second, .val (.long z37), .second, .val (.long z48), .second, .val (.int z72), .val (.int z81), .val (.int z91), .val (.double z98), .second, .val (.double z105), .second, .val (.ref b9), .val (.double z138), .second, .val (.double c151_z30), .second, .val (.long z196), .second] [(.int z206), (.long (1 : Int64)), (.double c151_z30)])) _
        refine XS.iload X13.here hx rfl (hb hby at_207) rfl ?_
        show Steps p.tables e below (T13.setTop (mkF m 209 #[.val (.int p0), .val (.int p1), .val (.int p2), .val (.int p3), .val (.int p4), .val (.long z4), .second, .val (.long z11), .second, .val (.long z18), .second, .val (.long z26), .second, .val (.long z37), .second, .val (.long z48), .second, .val (.int z72), .val (.int z81), .val (.int z91), .val (.double z98), .second, .val (.double z105), .second, .val (.ref b9), .val (.double z138), .second, .val (.double c151_z30), .second, .val (.long z196), .second] [(.int z91), (.int z206), (.long (1 : Int64)), (.double c151_z30)])) _
        refine Jvm.OwnK.iadd X13.here hx rfl (hb hby at_209) rfl hz209 ?_
        show Steps p.tables e below (T13.setTop (mkF m 210 #[.val (.int p0), .val (.int p1), .val (.int p2), .val (.int p3), .val (.int p4), .val (.long z4), .second, .val (.long z11), .second, .val (.long z18), .second, .val (.long z26), .second, .val (.long z37), .second, .val (.long z48), .second, .val (.int z72), .val (.int z81), .val (.int z91), .val (.double z98), .second, .val (.double z105), .second, .val (.ref b9), .val (.double z138), .second, .val (.double c151_z30), .second, .val (.long z196), .second] [(.int z209), (.long (1 : Int64)), (.double c151_z30)])) _
        refine Jvm.OwnK.lshl X13.here hx rfl (hb hby at_210) rfl hz210 ?_
        show Steps p.tables e below (T13.setTop (mkF m 211 #[.val (.int p0), .val (.int p1), .val (.int p2), .val (.int p3), .val (.int p4), .val (.long z4), .second, .val (.long z11), .second, .val (.long z18), .second, .val (.long z26), .second, .val (.long z37), .second, .val (.long z48), .second, .val (.int z72), .val (.int z81), .val (.int z91), .val (.double z98), .second, .val (.double z105), .second, .val (.ref b9), .val (.double z138), .second, .val (.double c151_z30), .second, .val (.long z196), .second] [(.long z210), (.double c151_z30)])) _
        refine XS.l2dS X13.here hx rfl (hb hby at_211) rfl hz211 ?_
        show Steps p.tables e below (T13.setTop (mkF m 212 #[.val (.int p0), .val (.int p1), .val (.int p2), .val (.int p3), .val (.int p4), .val (.long z4), .second, .val (.long z11), .second, .val (.long z18), .second, .val (.long z26), .second, .val (.long z37), .second, .val (.long z48), .second, .val (.int z72), .val (.int z81), .val (.int z91), .val (.double z98), .second, .val (.double z105), .second, .val (.ref b9), .val (.double z138), .second, .val (.double c151_z30), .second, .val (.long z196), .second] [(.double z211), (.double c151_z30)])) _
        refine Jvm.OwnK.dmul X13.here hx rfl (hb hby at_212) rfl hz212 nn212 ?_
        show Steps p.tables e below (T13.setTop (mkF m 213 #[.val (.int p0), .val (.int p1), .val (.int p2), .val (.int p3), .val (.int p4), .val (.long z4), .second, .val (.long z11), .second, .val (.long z18), .second, .val (.long z26), .second, .val (.long z37), .second, .val (.long z48), .second, .val (.int z72), .val (.int z81), .val (.int z91), .val (.double z98), .second, .val (.double z105), .second, .val (.ref b9), .val (.double z138), .second, .val (.double c151_z30), .second, .val (.long z196), .second] [(.double z212)])) _
        refine XS.lload X13.here hx rfl (hb hby at_213) rfl ?_
        show Steps p.tables e below (T13.setTop (mkF m 215 #[.val (.int p0), .val (.int p1), .val (.int p2), .val (.int p3), .val (.int p4), .val (.long z4), .second, .val (.long z11), .second, .val (.long z18), .second, .val (.long z26), .second, .val (.long z37), .second, .val (.long z48), .second, .val (.int z72), .val (.int z81), .val (.int z91), .val (.double z98), .second, .val (.double z105), .second, .val (.ref b9), .val (.double z138), .second, .val (.double c151_z30), .second, .val (.long z196), .second] [(.long z196), (.double z212)])) _
        refine XS.l2dS X13.here hx rfl (hb hby at_215) rfl hz215 ?_
        show Steps p.tables e below (T13.setTop (mkF m 216 #[.val (.int p0), .val (.int p1), .val (.int p2), .val (.int p3), .val (.int p4), .val (.long z4), .second, .val (.long z11), .second, .val (.long z18), .second, .val (.long z26), .second, .val (.long z37), .second, .val (.long z48), .second, .val (.int z72), .val (.int z81), .val (.int z91), .val (.double z98), .second, .val (.double z105), .second, .val (.ref b9), .val (.double z138), .second, .val (.double c151_z30), .second, .val (.long z196), .second] [(.double z215), (.double z212)])) _
        refine XS.dcmpS X13.here hx rfl (hb hby at_216) rfl hz216 ?_
        show Steps p.tables e below (T13.setTop (mkF m 217 #[.val (.int p0), .val (.int p1), .val (.int p2), .val (.int p3), .val (.int p4), .val (.long z4), .second, .val (.long z11), .second, .val (.long z18), .second, .val (.long z26), .second, .val (.long z37), .second, .val (.long z48), .second, .val (.int z72), .val (.int z81), .val (.int z91), .val (.double z98), .second, .val (.double z105), .second, .val (.ref b9), .val (.double z138), .second, .val (.double c151_z30), .second, .val (.long z196), .second] [(.int z216)])) _
        refine XS.ifNo X13.here hx rfl (hb hby at_217) rfl (Jvm.Free.XT.i0_ne_f br217) ?_
        show Steps p.tables e below (T13.setTop (mkF m 220 #[.val (.int p0), .val (.int p1), .val (.int p2), .val (.int p3), .val (.int p4), .val (.long z4), .second, .val (.long z11), .second, .val (.long z18), .second, .val (.long z26), .second, .val (.long z37), .second, .val (.long z48), .second, .val (.int z72), .val (.int z81), .val (.int z91), .val (.double z98), .second, .val (.double z105), .second, .val (.ref b9), .val (.double z138), .second, .val (.double c151_z30), .second, .val (.long z196), .second] [])) _
        refine XS.iconst X13.here hx rfl (hb hby at_220) ?_
        show Steps p.tables e below (T13.setTop (mkF m 221 #[.val (.int p0), .val (.int p1), .val (.int p2), .val (.int p3), .val (.int p4), .val (.long z4), .second, .val (.long z11), .second, .val (.long z18), .second, .val (.long z26), .second, .val (.long z37), .second, .val (.long z48), .second, .val (.int z72), .val (.int z81), .val (.int z91), .val (.double z98), .second, .val (.double z105), .second, .val (.ref b9), .val (.double z138), .second, .val (.double c151_z30), .second, .val (.long z196), .second] [(.int (1 : Int32))])) _
        refine XS.goto X13.here hx rfl (pc0 := 221) (pc' := 225) rfl (hb hby at_221) (by decide) (by decide) ?_
        exact k
      obtain ⟨fs, hr, hrun, hended, hW, hsame⟩ := X13.leave (v := some (.int (1 : Int32))) (fun h => by rw [Bd.returns] at h; cases h)
      refine ⟨_, _, c14 _ ?_, hrun, hended, _, _, rfl, ?_, ⟨_, rfl⟩, hW, hsame.mono (by decide) (by decide)⟩
      · show Steps p.tables e below (T13.setTop (mkF m 225 #[.val (.int p0), .val (.int p1), .val (.int p2), .val (.int p3), .val (.int p4), .val (.long z4), .second, .val (.long z11), .second, .val (.long z18), .second, .val (.long z26), .second, .val (.long z37), .second, .val (.long z48), .second, .val (.int z72), .val (.int z81), .val (.int z91), .val (.double z98), .second, .val (.double z105), .second, .val (.ref b9), .val (.double z138), .second, .val (.double c151_z30), .second, .val (.long z196), .second] [(.int (1 : Int32))])) _
        exact retOut X13 hx Bd.returns rfl (Or.inl ⟨rfl, by simp, _, rfl⟩) (hb hby at_225) hr
      · show Q0 n0 _ T13.heap _
        rw [e13]
        exact ⟨rfl, by first | assumption | exact N0⟩
  · skip
    obtain ⟨z72, hz72⟩ : ∃ z : Int32, p4 &&& (7 : Int32) = z := ⟨_, rfl⟩
    obtain ⟨z78, hz78⟩ : ∃ z : Int32, (p4.toUInt32 >>> ((3 : Int32) &&& 31).toUInt32).toInt32 = z := ⟨_, rfl⟩
    obtain ⟨z81, hz81⟩ : ∃ z : Int32, z78 &&& (7 : Int32) = z := ⟨_, rfl⟩
    obtain ⟨z88, hz88⟩ : ∃ z : Int32, (p4.toUInt32 >>> ((6 : Int32) &&& 31).toUInt32).toInt32 = z := ⟨_, rfl⟩
    obtain ⟨z91, hz91⟩ : ∃ z : Int32, z88 &&& (7 : Int32) = z := ⟨_, rfl⟩
    obtain ⟨z97, hz97⟩ : ∃ z : Int64, (1 : Int64) <<< (z72 &&& 0x3f).toInt64 = z := ⟨_, rfl⟩
    obtain ⟨z98, hz98⟩ : ∃ z : UInt64, FP.l2d z97 = z := ⟨_, rfl⟩
    obtain ⟨z104, hz104⟩ : ∃ z : Int64, (1 : Int64) <<< (z81 &&& 0x3f).toInt64 = z := ⟨_, rfl⟩
    obtain ⟨z105, hz105⟩ : ∃ z : UInt64, FP.l2d z104 = z := ⟨_, rfl⟩
    obtain ⟨z118, hz118⟩ : ∃ z : UInt64, FP.l2d z26 = z := ⟨_, rfl⟩
    obtain ⟨z121, hz121⟩ : ∃ z : UInt64, FP.l2d z37 = z := ⟨_, rfl⟩
    obtain ⟨z124, hz124⟩ : ∃ z : UInt64, FP.l2d z48 = z := ⟨_, rfl⟩
    obtain ⟨c125_z6, hc125_z6⟩ : ∃ z : Int32, cmpValue (FP.dcmp z98 FP.dconst0) .l = z := ⟨_, rfl⟩
    obtain ⟨c125_c11_z1, hc125_c11_z1⟩ : ∃ z : UInt64, z98 &&& 0x7fffffffffffffff = z := ⟨_, rfl⟩
    obtain ⟨c125_c11_z7, hc125_c11_z7⟩ : ∃ z : Int32, cmpValue (FP.dcmp c125_c11_z1 (9218868437227405311 : UInt64)) .l = z := ⟨_, rfl⟩
    obtain ⟨c125_z33, hc125_z33⟩ : ∃ z : Int32, cmpValue (FP.dcmp z105 FP.dconst0) .l = z := ⟨_, rfl⟩
    obtain ⟨c125_c38_z1, hc125_c38_z1⟩ : ∃ z : UInt64, z105 &&& 0x7fffffffffffffff = z := ⟨_, rfl⟩
    obtain ⟨c125_c38_z7, hc125_c38_z7⟩ : ∃ z : Int32, cmpValue (FP.dcmp c125_c38_z1 (9218868437227405311 : UInt64)) .l = z := ⟨_, rfl⟩
    obtain ⟨c125_z107, hc125_z107⟩ : ∃ z : Int32, cmpValue (FP.dcmp z118 FP.dconst0) .l = z := ⟨_, rfl⟩
    obtain ⟨c125_c113_z1, hc125_c113_z1⟩ : ∃ z : UInt64, z118 &&& 0x7fffffffffffffff = z := ⟨_, rfl⟩
    obtain ⟨c125_c113_z7, hc125_c113_z7⟩ : ∃ z : Int32, cmpValue (FP.dcmp c125_c113_z1 (9218868437227405311 : UInt64)) .l = z := ⟨_, rfl⟩
    obtain ⟨c125_z107_2, hc125_z107_2⟩ : ∃ z : Int32, cmpValue (FP.dcmp z121 FP.dconst0) .l = z := ⟨_, rfl⟩
    obtain ⟨c125_c113_2_z1, hc125_c113_2_z1⟩ : ∃ z : UInt64, z121 &&& 0x7fffffffffffffff = z := ⟨_, rfl⟩
    obtain ⟨c125_c113_2_z7, hc125_c113_2_z7⟩ : ∃ z : Int32, cmpValue (FP.dcmp c125_c113_2_z1 (9218868437227405311 : UInt64)) .l = z := ⟨_, rfl⟩
    obtain ⟨c125_z107_3, hc125_z107_3⟩ : ∃ z : Int32, cmpValue (FP.dcmp z124 FP.dconst0) .l = z := ⟨_, rfl⟩
    obtain ⟨c125_c113_3_z1, hc125_c113_3_z1⟩ : ∃ z : UInt64, z124 &&& 0x7fffffffffffffff = z := ⟨_, rfl⟩
    obtain ⟨c125_c113_3_z7, hc125_c113_3_z7⟩ : ∃ z : Int32, cmpValue (FP.dcmp c125_c113_3_z1 (9218868437227405311 : UInt64)) .l = z := ⟨_, rfl⟩
    obtain ⟨c125_z143, hc125_z143⟩ : ∃ z : Int32, cmpValue (FP.dcmp z118 FP.dconst0) .l = z := ⟨_, rfl⟩
    obtain ⟨z132, hz132⟩ : ∃ z : UInt64, FP.l2d z18 = z := ⟨_, rfl⟩
    obtain ⟨z136, hz136⟩ : ∃ z : Int64, (1 : Int64) <<< (z91 &&& 0x3f).toInt64 = z := ⟨_, rfl⟩
    obtain ⟨z137, hz137⟩ : ∃ z : UInt64, FP.l2d z136 = z := ⟨_, rfl⟩
    obtain ⟨z138, hz138⟩ : ∃ z : UInt64, FP.ddiv z132 z137 = z := ⟨_, rfl⟩
    obtain ⟨z145, hz145⟩ : ∃ z : UInt64, FP.l2d z4 = z := ⟨_, rfl⟩
    obtain ⟨z148, hz148⟩ : ∃ z : UInt64, FP.l2d z11 = z := ⟨_, rfl⟩
    obtain ⟨c151_z5, hc151_z5⟩ : ∃ z : UInt64, FP.dmul z118 z145 = z := ⟨_, rfl⟩
    obtain ⟨c151_z10, hc151_z10⟩ : ∃ z : UInt64, FP.ddiv c151_z5 z98 = z := ⟨_, rfl⟩
    obtain ⟨c151_z16, hc151_z16⟩ : ∃ z : UInt64, FP.dmul z121 z148 = z := ⟨_, rfl⟩
    obtain ⟨c151_z21, hc151_z21⟩ : ∃ z : UInt64, FP.ddiv c151_z16 z105 = z := ⟨_, rfl⟩
    obtain ⟨c151_z22, hc151_z22⟩ : ∃ z : UInt64, FP.dadd c151_z10 c151_z21 = z := ⟨_, rfl⟩
    obtain ⟨c151_z29, hc151_z29⟩ : ∃ z : UInt64, FP.dmul z124 z138 = z := ⟨_, rfl⟩
    obtain ⟨c151_z30, hc151_z30⟩ : ∃ z : UInt64, FP.dadd c151_z22 c151_z29 = z := ⟨_, rfl⟩
    obtain ⟨z160, hz160⟩ : ∃ z : Int64, z26 * z4 = z := ⟨_, rfl⟩
    obtain ⟨z166, hz166⟩ : ∃ z : Int32, z81 + z91 = z := ⟨_, rfl⟩
    obtain ⟨z167, hz167⟩ : ∃ z : Int64, (1 : Int64) <<< (z166 &&& 0x3f).toInt64 = z := ⟨_, rfl⟩
    obtain ⟨z168, hz168⟩ : ∃ z : Int64, z160 * z167 = z := ⟨_, rfl⟩
    obtain ⟨z173, hz173⟩ : ∃ z : Int64, z37 * z11 = z := ⟨_, rfl⟩
    obtain ⟨z179, hz179⟩ : ∃ z : Int32, z72 + z91 = z := ⟨_, rfl⟩
    obtain ⟨z180, hz180⟩ : ∃ z : Int64, (1 : Int64) <<< (z179 &&& 0x3f).toInt64 = z := ⟨_, rfl⟩
    obtain ⟨z181, hz181⟩ : ∃ z : Int64, z173 * z180 = z := ⟨_, rfl⟩
    obtain ⟨z182, hz182⟩ : ∃ z : Int64, z168 + z181 = z := ⟨_, rfl⟩
    obtain ⟨z187, hz187⟩ : ∃ z : Int64, z48 * z18 = z := ⟨_, rfl⟩
    obtain ⟨z193, hz193⟩ : ∃ z : Int32, z72 + z81 = z := ⟨_, rfl⟩
    obtain ⟨z194, hz194⟩ : ∃ z : Int64, (1 : Int64) <<< (z193 &&& 0x3f).toInt64 = z := ⟨_, rfl⟩
    obtain ⟨z195, hz195⟩ : ∃ z : Int64, z187 * z194 = z := ⟨_, rfl⟩
    obtain ⟨z196, hz196⟩ : ∃ z : Int64, z182 + z195 = z := ⟨_, rfl⟩
    obtain ⟨z206, hz206⟩ : ∃ z : Int32, z72 + z81 = z := ⟨_, rfl⟩
    obtain ⟨z209, hz209⟩ : ∃ z : Int32, z206 + z91 = z := ⟨_, rfl⟩
    obtain ⟨z210, hz210⟩ : ∃ z : Int64, (1 : Int64) <<< (z209 &&& 0x3f).toInt64 = z := ⟨_, rfl⟩
    obtain ⟨z211, hz211⟩ : ∃ z : UInt64, FP.l2d z210 = z := ⟨_, rfl⟩
    obtain ⟨z212, hz212⟩ : ∃ z : UInt64, FP.dmul c151_z30 z211 = z := ⟨_, rfl⟩
    obtain ⟨z215, hz215⟩ : ∃ z : UInt64, FP.l2d z196 = z := ⟨_, rfl⟩
    obtain ⟨z216, hz216⟩ : ∃ z : Int32, cmpValue (FP.dcmp z212 z215) .l = z := ⟨_, rfl⟩
    have bD := sh11 hz3 hz4
    have bE := sh11 hz10 hz11
    have bC := sh11 hz17 hz18
    have w1 : 0 ≤ z26.toInt ∧ z26.toInt ≤ 255 := m255 hz25 hz26
    have w2 := m255 hz36 hz37
    have w3 := m255 hz47 hz48
    obtain ⟨db, db7, idb⟩ := m7 hz72
    obtain ⟨eb, eb7, ieb⟩ := m7 hz81
    obtain ⟨cb, cb7, icb⟩ := m7 hz91
    have dmd := dpow hz98 (sh1 hz97 idb (by omega)) (by omega)
    have dme := dpow hz105 (sh1 hz104 ieb (by omega)) (by omega)
    have dmc := dpow hz137 (sh1 hz136 icb (by omega)) (by omega)
    have ddw : Jvm.OwnF.DV z26.toInt 0 z118 := hz118 ▸ Jvm.OwnF.DV_l2d (Jvm.OwnF.r53 (by omega))
    have dew : Jvm.OwnF.DV z37.toInt 0 z121 := hz121 ▸ Jvm.OwnF.DV_l2d (Jvm.OwnF.r53 (by omega))
    have dcw : Jvm.OwnF.DV z48.toInt 0 z124 := hz124 ▸ Jvm.OwnF.DV_l2d (Jvm.OwnF.r53 (by omega))
    have pdb := Nat.two_pow_pos db
    have peb := Nat.two_pow_pos eb
    have pcb := Nat.two_pow_pos cb
    obtain ⟨c125_br7, c125_c11_nm0_1, c125_c11_br8⟩ := pos0 dmd (by omega) hc125_z6 hc125_c11_z1 hc125_c11_z7
    obtain ⟨c125_br34, c125_c38_nm0_1, c125_c38_br8⟩ := pos0 dme (by omega) hc125_z33 hc125_c38_z1 hc125_c38_z7
    obtain ⟨c125_br108, c125_c113_nm0_1, c125_c113_br8⟩ := nn0 ddw w1.1 hc125_z107 hc125_c113_z1 hc125_c113_z7
    obtain ⟨c125_br108_2, c125_c113_2_nm0_1, c125_c113_2_br8⟩ := nn0 dew w2.1 hc125_z107_2 hc125_c113_2_z1 hc125_c113_2_z7
    obtain ⟨c125_br108_3, c125_c113_3_nm0_1, c125_c113_3_br8⟩ := nn0 dcw w3.1 hc125_z107_3 hc125_c113_3_z1 hc125_c113_3_z7
    have c125_br144 : ¬ c125_z143 = 0 := by
      have : 0 < z26.toInt := by
        have dz : ¬ z26 = 0 := fun q => hb55 (by rw [← hz54]; exact (lw_eq _ _).mpr q)
        rcases Int.lt_or_eq_of_le w1.1 with t | t
        · exact t
        · exact absurd (Int64.toInt_inj.mp (by rw [← t]; decide)) dz
      rw [← hc125_z143, (Jvm.OwnF.DV_cmp ddw Jvm.OwnF.DV_0 .l).2.2 this]; decide
    have dc : Jvm.OwnF.DV z18.toInt cb z138 := hz138 ▸ hz132 ▸ Jvm.OwnF.DV_div (Jvm.OwnF.DV_l2d (Jvm.OwnF.r53 (by omega))) dmc (by omega) (by omega) (Jvm.OwnF.r53 (by omega)) (by rw [Nat.zero_add]; simp)
    have nn138 := dc.nn
    have dd : Jvm.OwnF.DV z4.toInt 0 z145 := hz145 ▸ Jvm.OwnF.DV_l2d (Jvm.OwnF.r53 (by omega))
    have de : Jvm.OwnF.DV z11.toInt 0 z148 := hz148 ▸ Jvm.OwnF.DV_l2d (Jvm.OwnF.r53 (by omega))
    obtain ⟨c151_nn5, c151_nn10, c151_nn16, c151_nn21, c151_nn22, c151_nn29, c151_nn30, D, n1, n2, n3, o1, o2, o3⟩ := ofv db7 eb7 cb7 bD bE bC (show z26.toInt.natAbs ≤ 255 by omega) (show z37.toInt.natAbs ≤ 255 by omega) (show z48.toInt.natAbs ≤ 255 by omega) dd de dc ddw dew dcw dmd dme hc151_z5 hc151_z10 hc151_z16 hc151_z21 hc151_z22 hc151_z29 hc151_z30
    have i166 := Jvm.OwnF.iadd_v hz166 (by omega)
    have i179 := Jvm.OwnF.iadd_v hz179 (by omega)
    have i193 := Jvm.OwnF.iadd_v hz193 (by omega)
    have i206 := Jvm.OwnF.iadd_v hz206 (by omega)
    have i209 := Jvm.OwnF.iadd_v hz209 (by omega)
    have i167 := sh1 (k := eb + cb) hz167 (by omega) (by omega)
    have i180 := sh1 (k := db + cb) hz180 (by omega) (by omega)
    have i194 := sh1 (k := db + eb) hz194 (by omega) (by omega)
    have i210 := sh1 (k := db + eb + cb) hz210 (by omega) (by omega)
    have i160 := Jvm.OwnF.lmul_v hz160 (by omega)
    have i168 := Jvm.OwnF.lmul_v hz168 (by rw [i160, i167]; omega)
    rw [i160, i167] at i168
    have i173 := Jvm.OwnF.lmul_v hz173 (by omega)
    have i181 := Jvm.OwnF.lmul_v hz181 (by rw [i173, i180]; omega)
    rw [i173, i180] at i181
    have i187 := Jvm.OwnF.lmul_v hz187 (by omega)
    have i195 := Jvm.OwnF.lmul_v hz195 (by rw [i187, i194]; omega)
    rw [i187, i194] at i195
    have i182 := Jvm.OwnF.ladd_v hz182 (by rw [i168, i181]; omega)
    have i196 := Jvm.OwnF.ladd_v hz196 (by rw [i182, i168, i181, i195]; omega)
    rw [i182, i168, i181, i195] at i196
    have d211 := dpow hz211 i210 (by omega)
    have d212 : Jvm.OwnF.DV (z26.toInt * z4.toInt * ((2 ^ (eb + cb) : Nat) : Int) + z37.toInt * z11.toInt * ((2 ^ (db + cb) : Nat) : Int) + z48.toInt * z18.toInt * ((2 ^ (db + eb) : Nat) : Int)) 0 z212 := by
      have := hz212 ▸ Jvm.OwnF.DV_mul D d211 (by omega) (Jvm.OwnF.R53.mulp (by omega) (by omega))
      refine Jvm.OwnF.DV.down (k := 0) (j := db + eb + cb) ?_
      rw [Nat.zero_add]; rw [Nat.add_zero] at this; exact this
    have nn212 := d212.nn
    have d215 := Jvm.OwnF.DV_l2d (n := z196) (Jvm.OwnF.r53 (by rw [i196]; omega))
    rw [hz215, i196] at d215
    have br217 : z216 = 0 := hz216.symm.trans (Jvm.OwnF.DV_eq0 d212 d215 _)
    obtain ⟨T15, h15, X15, e15, E15, A15, D15, -, st15⟩ := newO X0 hx hZ hown (hw _ (List.mem_of_getElem? (i := 0) rfl)) (hw _ (List.mem_of_getElem? (i := 1) rfl)) (hw _ (List.mem_of_getElem? (i := 2) rfl)) e0 (g := (mkF m 108 #[.val (.int p0), .val (.int p1), .val (.int p2), .val (.int p3), .val (.int p4), .val (.long z4), .second, .val (.long z11), .second, .val (.long z18), .second, .val (.long z26), .second, .val (.long z37), .second, .val (.long z48), .second, .val (.int z72), .val (.int z81), .val (.int z91), .val (.double z98), .second, .val (.double z105), .second, .unset, .unset, .unset, .unset, .unset, .unset, .unset] [])) rfl (hb hby at_108) (by decide) (by decide)
    obtain ⟨b15, g15⟩ : ∃ z, z = h0.size := ⟨_, rfl⟩
    rw [← g15] at A15 D15 st15
    have gn15 : n0 ≤ b15 := Nat.le_trans Z0 (Nat.le_of_eq g15.symm)
    have gz15 : h0.size ≤ b15 := Nat.le_trans ((Keep.refl h0 [])).1 (Nat.le_of_eq g15.symm)
    have K16 : Keep h0 h15 [] := (Keep.refl h0 []).ext E15
    have F15_maxDelaySeconds : Fld Z h15 b15 "com/example/fleetwave/fleetwave/model/CacheCost" "maxDelaySeconds" "D" (.double (0 : UInt64)) := D15 (Or.inr (hw _ (List.mem_of_getElem? (i := 25) rfl))) (ty := .double) (by decide)
    have F15_maxEnergyJoules : Fld Z h15 b15 "com/example/fleetwave/fleetwave/model/CacheCost" "maxEnergyJoules" "D" (.double (0 : UInt64)) := D15 (Or.inr (hw _ (List.mem_of_getElem? (i := 27) rfl))) (ty := .double) (by decide)
    have F15_delayWeight : Fld Z h15 b15 "com/example/fleetwave/fleetwave/model/CacheCost" "delayWeight" "D" (.double (0 : UInt64)) := D15 (Or.inr (hw _ (List.mem_of_getElem? (i := 29) rfl))) (ty := .double) (by decide)
    have F15_energyWeight : Fld Z h15 b15 "com/example/fleetwave/fleetwave/model/CacheCost" "energyWeight" "D" (.double (0 : UInt64)) := D15 (Or.inr (hw _ (List.mem_of_getElem? (i := 31) rfl))) (ty := .double) (by decide)
    have F15_cacheWeight : Fld Z h15 b15 "com/example/fleetwave/fleetwave/model/CacheCost" "cacheWeight" "D" (.double (0 : UInt64)) := D15 (Or.inr (hw _ (List.mem_of_getElem? (i := 33) rfl))) (ty := .double) (by decide)
    obtain ⟨_, _, ⟨T17, L17, k17, n17⟩, -, X17, ⟨Lc17, hQ17, ql17, qy17, qz17⟩, st17⟩ := X15.specialBack hx (y := (⟨"com/example/fleetwave/fleetwave/model/CacheCost", "<init>", "(DDDDD)V"⟩ : MethodName)) rfl hown (mvT hZ (hw _ (List.mem_of_getElem? (i := 3) rfl))) (mvT hZ (hw _ (List.mem_of_getElem? (i := 4) rfl))) (mvT hZ (hw _ (List.mem_of_getElem? (i := 5) rfl))) (by decide) (backOf (W := 1) (rm1_t l Z a0 hw [] b15 z98 z105 z118 z121 z124 ((.double (0 : UInt64))) ((.double (0 : UInt64))) ((.double (0 : UInt64))) ((.double (0 : UInt64))) ((.double (0 : UInt64))) c125_z6 c125_c11_z1 c125_c11_z7 c125_z33 c125_c38_z1 c125_c38_z7 c125_z107 c125_c113_z1 c125_c113_z7 c125_z107_2 c125_c113_2_z1 c125_c113_2_z7 c125_z107_3 c125_c113_3_z1 c125_c113_3_z7 c125_z143 h15 n0 (Nat.le_trans Z0 E15.1) A15 F15_maxDelaySeconds gn15 F15_maxEnergyJoules F15_delayWeight F15_energyWeight F15_cacheWeight hc125_z6 hc125_c11_z1 hc125_c11_z7 hc125_z33 hc125_c38_z1 hc125_c38_z7 hc125_z107 hc125_c113_z1 hc125_c113_z7 hc125_z107_2 hc125_c113_2_z1 hc125_c113_2_z7 hc125_z107_3 hc125_c113_3_z1 hc125_c113_3_z7 hc125_z143 c125_br7 c125_c11_nm0_1 c125_c11_br8 c125_br34 c125_c38_nm0_1 c125_c38_br8 c125_br108 c125_c113_nm0_1 c125_c113_br8 c125_br108_2 c125_c113_2_nm0_1 c125_c113_2_br8 c125_br108_3 c125_c113_3_nm0_1 c125_c113_3_br8 c125_br144) hZ (hw _ (List.mem_of_getElem? (i := 5) rfl)) (hw _ (List.mem_of_getElem? (i := 2) rfl)) (by decide) (by decide)) (g := (mkF m 125 #[.val (.int p0), .val (.int p1), .val (.int p2), .val (.int p3), .val (.int p4), .val (.long z4), .second, .val (.long z11), .second, .val (.long z18), .second, .val (.long z26), .second, .val (.long z37), .second, .val (.long z48), .second, .val (.int z72), .val (.int z81), .val (.int z91), .val (.double z98), .second, .val (.double z105), .second, .unset, .unset, .unset, .unset, .unset, .unset, .unset] [(.double z124), (.double z121), (.double z118), (.double z105), (.double z98), (.ref b15), (.ref b15)])) rfl (by rw [hml]; rfl) (Steps.refl _) (a := b15) (argsL := [(.double z98), (.double z105), (.double z118), (.double z121), (.double z124)]) (rest := [(.ref b15)]) (lenOf pd_3 rfl) rfl (by show 2 * 0 + _ ≤ _; exact Nat.le_of_eq rfl) (hb hby at_125) (fun _ _ => ⟨rfl, e15, (by decide : 1 + 1 ≤ _), (by decide : 5 + 3 ≤ _)⟩)
    dsimp only [Pt.U, Pt.locs, Pt.cells, Pt.slots] at X17 ql17 qy17 qz17 st17 hQ17
    subst ql17 qy17 qz17
    obtain ⟨rfl, N17q, K17q, Q17_0, Q17_1, Q17_2, Q17_3, Q17_4, Q17_5⟩ := hQ17
    have N17 := Fr.app N0 N17q
    have K18 : Keep h0 T17.heap [] := Keep.trans K16 K17q (allS (Or.inr gz15) all0)
    obtain ⟨cq19, kq19, q19a, q19b, q19c⟩ := isOf hZ rfl Q17_0
    obtain ⟨_, _, ⟨T19, L19, k19, n19⟩, -, X19, ⟨Lc19, hQ19, ql19, qy19, qz19⟩, st19⟩ := X17.virtualBack hx (y := (⟨"com/example/fleetwave/fleetwave/model/CacheCost", "of", "(DDD)D"⟩ : MethodName)) (z := (⟨"com/example/fleetwave/fleetwave/model/CacheCost", "of", "(DDD)D"⟩ : MethodName)) hown (mvT hZ (hw _ (List.mem_of_getElem? (i := 34) rfl))) (mvT hZ (hw _ (List.mem_of_getElem? (i := 35) rfl))) (notFace_of_selects (args := #[]) (mvT hZ (hw _ (List.mem_of_getElem? (i := 37) rfl)))) (mvT hZ (hw _ (List.mem_of_getElem? (i := 37) rfl))) (mvT hZ (hw _ (List.mem_of_getElem? (i := 36) rfl))) (by decide) (backOf (W := 0) (rm6 l Z a0 hw [] b15 z145 z148 z138 z118 z98 z121 z105 z124 c151_z5 c151_z10 c151_z16 c151_z21 c151_z22 c151_z29 c151_z30 T17.heap n0 (Nat.le_trans (Nat.le_trans Z0 E15.1) K17q.1) Q17_3 Q17_1 Q17_4 Q17_2 Q17_5 hc151_z5 hc151_z10 hc151_z16 hc151_z21 hc151_z22 hc151_z29 hc151_z30 c151_nn5 c151_nn10 c151_nn16 c151_nn21 c151_nn22 c151_nn29 c151_nn30) hZ (hw _ (List.mem_of_getElem? (i := 38) rfl)) (hw _ (List.mem_of_getElem? (i := 2) rfl)) (by decide) (by decide)) q19a q19c (g := (mkF m 151 #[.val (.int p0), .val (.int p1), .val (.int p2), .val (.int p3), .val (.int p4), .val (.long z4), .second, .val (.long z11), .second, .val (.long z18), .second, .val (.long z26), .second, .val (.long z37), .second, .val (.long z48), .second, .val (.int z72), .val (.int z81), .val (.int z91), .val (.double z98), .second, .val (.double z105), .second, .val (.ref b15), .val (.double z138), .second, .unset, .unset, .unset, .unset] [(.double z138), (.double z148), (.double z145), (.ref b15)])) rfl (by rw [hml]; rfl) (Steps.refl _) (argsL := [(.double z145), (.double z148), (.double z138)]) (rest := []) (lenOf pd_4 rfl) rfl (by show 2 * 0 + _ ≤ _; exact Nat.le_of_eq rfl) (hb hby at_151) (fun _ _ => ⟨rfl, rfl, (by decide : 2 + 0 ≤ _), (by decide : 8 + 0 ≤ _)⟩)
    dsimp only [Pt.U, Pt.locs, Pt.cells, Pt.slots] at X19 ql19 qy19 qz19 st19 hQ19
    subst ql19 qy19 qz19
    obtain ⟨rfl, N19q, e19⟩ := hQ19
    have N19 := Fr.app N17 N19q
    have c20 : ∀ t, Steps p.tables e below (T19.setTop (mkF m 225 #[.val (.int p0), .val (.int p1), .val (.int p2), .val (.int p3), .val (.int p4), .val (.long z4), .second, .val (.long z11), .second, .val (.long z18), .second, .val (.long z26), .second, .val (.long z37), .second, .val (.long z48), .second, .val (.int z72), .val (.int z81), .val (.int z91), .val (.double z98), .second, .val (.double z105), .second, .val (.ref b15), .val (.double z138), .second, .val (.double c151_z30), .second, .val (.long z196), .second] [(.int (1 : Int32))])) t → Steps p.tables e below (s₁.setTop (entryFrame m #[(.int p0), (.int p1), (.int p2), (.int p3), (.int p4)] maxLocals)) t := by
      intro t k
      refine c1 t ?_
      show Steps p.tables e below (s₁.setTop (mkF m 55 #[.val (.int p0), .val (.int p1), .val (.int p2), .val (.int p3), .val (.int p4), .val (.long z4), .second, .val (.long z11), .second, .val (.long z18), .second, .val (.long z26), .second, .val (.long z37), .second, .val (.long z48), .second, .unset, .unset, .unset, .unset, .unset, .unset, .unset, .unset, .unset, .unset, .unset, .unset, .unset, .unset] [(.int z54)])) _
      refine XS.ifYes X0.here hx rfl (pc0 := 55) (pc' := 68) rfl (hb hby at_55) rfl (Jvm.Free.XT.i0_ne_t hb55) (by decide) (by decide) ?_
      show Steps p.tables e below (s₁.setTop (mkF m 68 #[.val (.int p0), .val (.int p1), .val (.int p2), .val (.int p3), .val (.int p4), .val (.long z4), .second, .val (.long z11), .second, .val (.long z18), .second, .val (.long z26), .second, .val (.long z37), .second, .val (.long z48), .second, .unset, .unset, .unset, .unset, .unset, .unset, .unset, .unset, .unset, .unset, .unset, .unset, .unset, .unset] [])) _
      refine XS.iload X0.here hx rfl (hb hby at_68) rfl ?_
      show Steps p.tables e below (s₁.setTop (mkF m 70 #[.val (.int p0), .val (.int p1), .val (.int p2), .val (.int p3), .val (.int p4), .val (.long z4), .second, .val (.long z11), .second, .val (.long z18), .second, .val (.long z26), .second, .val (.long z37), .second, .val (.long z48), .second, .unset, .unset, .unset, .unset, .unset, .unset, .unset, .unset, .unset, .unset, .unset, .unset, .unset, .unset] [(.int p4)])) _
      refine XS.bipush X0.here hx rfl (hb hby at_70) ?_
      show Steps p.tables e below (s₁.setTop (mkF m 72 #[.val (.int p0), .val (.int p1), .val (.int p2), .val (.int p3), .val (.int p4), .val (.long z4), .second, .val (.long z11), .second, .val (.long z18), .second, .val (.long z26), .second, .val (.long z37), .second, .val (.long z48), .second, .unset, .unset, .unset, .unset, .unset, .unset, .unset, .unset, .unset, .unset, .unset, .unset, .unset, .unset] [(.int (7 : Int32)), (.int p4)])) _
      refine Jvm.OwnK.iand X0.here hx rfl (hb hby at_72) rfl hz72 ?_
      show Steps p.tables e below (s₁.setTop (mkF m 73 #[.val (.int p0), .val (.int p1), .val (.int p2), .val (.int p3), .val (.int p4), .val (.long z4), .second, .val (.long z11), .second, .val (.long z18), .second, .val (.long z26), .second, .val (.long z37), .second, .val (.long z48), .second, .unset, .unset, .unset, .unset, .unset, .unset, .unset, .unset, .unset, .unset, .unset, .unset, .unset, .unset] [(.int z72)])) _
      refine XS.istore X0.here hx rfl (hb hby at_73) rfl (l' := #[.val (.int p0), .val (.int p1), .val (.int p2), .val (.int p3), .val (.int p4), .val (.long z4), .second, .val (.long z11), .second, .val (.long z18), .second, .val (.long z26), .second, .val (.long z37), .second, .val (.long z48), .second, .val (.int z72), .unset, .unset, .unset, .unset, .unset, .unset, .unset, .unset, .unset, .unset, .unset, .unset, .unset]) rfl ?_
      show Steps p.tables e below (s₁.setTop (mkF m 75 #[.val (.int p0), .val (.int p1), .val (.int p2), .val (.int p3), .val (.int p4), .val (.long z4), .second, .val (.long z11), .second, .val (.long z18), .second, .val (.long z26), .second, .val (.long z37), .second, .val (.long z48), .second, .val (.int z72), .unset, .unset, .unset, .unset, .unset, .unset, .unset, .unset, .unset, .unset, .unset, .unset, .unset] [])) _
      refine XS.iload X0.here hx rfl (hb hby at_75) rfl ?_
      show Steps p.tables e below (s₁.setTop (mkF m 77 #[.val (.int p0), .val (.int p1), .val (.int p2), .val (.int p3), .val (.int p4), .val (.long z4), .second, .val (.long z11), .second, .val (.long z18), .second, .val (.long z26), .second, .val (.long z37), .second, .val (.long z48), .second, .val (.int z72), .unset, .unset, .unset, .unset, .unset, .unset, .unset, .unset, .unset, .unset, .unset, .unset, .unset] [(.int p4)])) _
      refine XS.iconst X0.here hx rfl (hb hby at_77) ?_
      show Steps p.tables e below (s₁.setTop (mkF m 78 #[.val (.int p0), .val (.int p1), .val (.int p2), .val (.int p3), .val (.int p4), .val (.long z4), .second, .val (.long z11), .second, .val (.long z18), .second, .val (.long z26), .second, .val (.long z37), .second, .val (.long z48), .second, .val (.int z72), .unset, .unset, .unset, .unset, .unset, .unset, .unset, .unset, .unset, .unset, .unset, .unset, .unset] [(.int (3 : Int32)), (.int p4)])) _
      refine Jvm.OwnK.iushr X0.here hx rfl (hb hby at_78) rfl hz78 ?_
      show Steps p.tables e below (s₁.setTop (mkF m 79 #[.val (.int p0), .val (.int p1), .val (.int p2), .val (.int p3), .val (.int p4), .val (.long z4), .second, .val (.long z11), .second, .val (.long z18), .second, .val (.long z26), .second, .val (.long z37), .second, .val (.long z48), .second, .val (.int z72), .unset, .unset, .unset, .unset, .unset, .unset, .unset, .unset, .unset, .unset, .unset, .unset, .unset] [(.int z78)])) _
      refine XS.bipush X0.here hx rfl (hb hby at_79) ?_
      show Steps p.tables e below (s₁.setTop (mkF m 81 #[.val (.int p0), .val (.int p1), .val (.int p2), .val (.int p3), .val (.int p4), .val (.long z4), .second, .val (.long z11), .second, .val (.long z18), .second, .val (.long z26), .second, .val (.long z37), .second, .val (.long z48), .second, .val (.int z72), .unset, .unset, .unset, .unset, .unset, .unset, .unset, .unset, .unset, .unset, .unset, .unset, .unset] [(.int (7 : Int32)), (.int z78)])) _
      refine Jvm.OwnK.iand X0.here hx rfl (hb hby at_81) rfl hz81 ?_
      show Steps p.tables e below (s₁.setTop (mkF m 82 #[.val (.int p0), .val (.int p1), .val (.int p2), .val (.int p3), .val (.int p4), .val (.long z4), .second, .val (.long z11), .second, .val (.long z18), .second, .val (.long z26), .second, .val (.long z37), .second, .val (.long z48), .second, .val (.int z72), .unset, .unset, .unset, .unset, .unset, .unset, .unset, .unset, .unset, .unset, .unset, .unset, .unset] [(.int z81)])) _
      refine XS.istore X0.here hx rfl (hb hby at_82) rfl (l' := #[.val (.int p0), .val (.int p1), .val (.int p2), .val (.int p3), .val (.int p4), .val (.long z4), .second, .val (.long z11), .second, .val (.long z18), .second, .val (.long z26), .second, .val (.long z37), .second, .val (.long z48), .second, .val (.int z72), .val (.int z81), .unset, .unset, .unset, .unset, .unset, .unset, .unset, .unset, .unset, .unset, .unset, .unset]) rfl ?_
      show Steps p.tables e below (s₁.setTop (mkF m 84 #[.val (.int p0), .val (.int p1), .val (.int p2), .val (.int p3), .val (.int p4), .val (.long z4), .second, .val (.long z11), .second, .val (.long z18), .second, .val (.long z26), .second, .val (.long z37), .second, .val (.long z48), .second, .val (.int z72), .val (.int z81), .unset, .unset, .unset, .unset, .unset, .unset, .unset, .unset, .unset, .unset, .unset, .unset] [])) _
      refine XS.iload X0.here hx rfl (hb hby at_84) rfl ?_
      show Steps p.tables e below (s₁.setTop (mkF m 86 #[.val (.int p0), .val (.int p1), .val (.int p2), .val (.int p3), .val (.int p4), .val (.long z4), .second, .val (.long z11), .second, .val (.long z18), .second, .val (.long z26), .second, .val (.long z37), .second, .val (.long z48), .second, .val (.int z72), .val (.int z81), .unset, .unset, .unset, .unset, .unset, .unset, .unset, .unset, .unset, .unset, .unset, .unset] [(.int p4)])) _
      refine XS.bipush X0.here hx rfl (hb hby at_86) ?_
      show Steps p.tables e below (s₁.setTop (mkF m 88 #[.val (.int p0), .val (.int p1), .val (.int p2), .val (.int p3), .val (.int p4), .val (.long z4), .second, .val (.long z11), .second, .val (.long z18), .second, .val (.long z26), .second, .val (.long z37), .second, .val (.long z48), .second, .val (.int z72), .val (.int z81), .unset, .unset, .unset, .unset, .unset, .unset, .unset, .unset, .unset, .unset, .unset, .unset] [(.int (6 : Int32)), (.int p4)])) _
      refine Jvm.OwnK.iushr X0.here hx rfl (hb hby at_88) rfl hz88 ?_
      show Steps p.tables e below (s₁.setTop (mkF m 89 #[.val (.int p0), .val (.int p1), .val (.int p2), .val (.int p3), .val (.int p4), .val (.long z4), .second, .val (.long z11), .second, .val (.long z18), .second, .val (.long z26), .second, .val (.long z37), .second, .val (.long z48), .second, .val (.int z72), .val (.int z81), .unset, .unset, .unset, .unset, .unset, .unset, .unset, .unset, .unset, .unset, .unset, .unset] [(.int z88)])) _
      refine XS.bipush X0.here hx rfl (hb hby at_89) ?_
      show Steps p.tables e below (s₁.setTop (mkF m 91 #[.val (.int p0), .val (.int p1), .val (.int p2), .val (.int p3), .val (.int p4), .val (.long z4), .second, .val (.long z11), .second, .val (.long z18), .second, .val (.long z26), .second, .val (.long z37), .second, .val (.long z48), .second, .val (.int z72), .val (.int z81), .unset, .unset, .unset, .unset, .unset, .unset, .unset, .unset, .unset, .unset, .unset, .unset] [(.int (7 : Int32)), (.int z88)])) _
      refine Jvm.OwnK.iand X0.here hx rfl (hb hby at_91) rfl hz91 ?_
      show Steps p.tables e below (s₁.setTop (mkF m 92 #[.val (.int p0), .val (.int p1), .val (.int p2), .val (.int p3), .val (.int p4), .val (.long z4), .second, .val (.long z11), .second, .val (.long z18), .second, .val (.long z26), .second, .val (.long z37), .second, .val (.long z48), .second, .val (.int z72), .val (.int z81), .unset, .unset, .unset, .unset, .unset, .unset, .unset, .unset, .unset, .unset, .unset, .unset] [(.int z91)])) _
      refine XS.istore X0.here hx rfl (hb hby at_92) rfl (l' := #[.val (.int p0), .val (.int p1), .val (.int p2), .val (.int p3), .val (.int p4), .val (.long z4), .second, .val (.long z11), .second, .val (.long z18), .second, .val (.long z26), .second, .val (.long z37), .second, .val (.long z48), .second, .val (.int z72), .val (.int z81), .val (.int z91), .unset, .unset, .unset, .unset, .unset, .unset, .unset, .unset, .unset, .unset, .unset]) rfl ?_
      show Steps p.tables e below (s₁.setTop (mkF m 94 #[.val (.int p0), .val (.int p1), .val (.int p2), .val (.int p3), .val (.int p4), .val (.long z4), .second, .val (.long z11), .second, .val (.long z18), .second, .val (.long z26), .second, .val (.long z37), .second, .val (.long z48), .second, .val (.int z72), .val (.int z81), .val (.int z91), .unset, .unset, .unset, .unset, .unset, .unset, .unset, .unset, .unset, .unset, .unset] [])) _
      refine XS.lconst X0.here hx rfl (hb hby at_94) ?_
      show Steps p.tables e below (s₁.setTop (mkF m 95 #[.val (.int p0), .val (.int p1), .val (.int p2), .val (.int p3), .val (.int p4), .val (.long z4), .second, .val (.long z11), .second, .val (.long z18), .second, .val (.long z26), .second, .val (.long z37), .second, .val (.long z48), .second, .val (.int z72), .val (.int z81), .val (.int z91), .unset, .unset, .unset, .unset, .unset, .unset, .unset, .unset, .unset, .unset, .unset] [(.long (1 : Int64))])) _
      refine XS.iload X0.here hx rfl (hb hby at_95) rfl ?_
      show Steps p.tables e below (s₁.setTop (mkF m 97 #[.val (.int p0), .val (.int p1), .val (.int p2), .val (.int p3), .val (.int p4), .val (.long z4), .second, .val (.long z11), .second, .val (.long z18), .second, .val (.long z26), .second, .val (.long z37), .second, .val (.long z48), .second, .val (.int z72), .val (.int z81), .val (.int z91), .unset, .unset, .unset, .unset, .unset, .unset, .unset, .unset, .unset, .unset, .unset] [(.int z72), (.long (1 : Int64))])) _
      refine Jvm.OwnK.lshl X0.here hx rfl (hb hby at_97) rfl hz97 ?_
      show Steps p.tables e below (s₁.setTop (mkF m 98 #[.val (.int p0), .val (.int p1), .val (.int p2), .val (.int p3), .val (.int p4), .val (.long z4), .second, .val (.long z11), .second, .val (.long z18), .second, .val (.long z26), .second, .val (.long z37), .second, .val (.long z48), .second, .val (.int z72), .val (.int z81), .val (.int z91), .unset, .unset, .unset, .unset, .unset, .unset, .unset, .unset, .unset, .unset, .unset] [(.long z97)])) _
      refine XS.l2dS X0.here hx rfl (hb hby at_98) rfl hz98 ?_
      show Steps p.tables e below (s₁.setTop (mkF m 99 #[.val (.int p0), .val (.int p1), .val (.int p2), .val (.int p3), .val (.int p4), .val (.long z4), .second, .val (.long z11), .second, .val (.long z18), .second, .val (.long z26), .second, .val (.long z37), .second, .val (.long z48), .second, .val (.int z72), .val (.int z81), .val (.int z91), .unset, .unset, .unset, .unset, .unset, .unset, .unset, .unset, .unset, .unset, .unset] [(.double z98)])) _
      refine XS.dstore X0.here hx rfl (hb hby at_99) rfl (l' := #[.val (.int p0), .val (.int p1), .val (.int p2), .val (.int p3), .val (.int p4), .val (.long z4), .second, .val (.long z11), .second, .val (.long z18), .second, .val (.long z26), .second, .val (.long z37), .second, .val (.long z48), .second, .val (.int z72), .val (.int z81), .val (.int z91), .val (.double z98), .second, .unset, .unset, .unset, .unset, .unset, .unset, .unset, .unset, .unset]) rfl ?_
      show Steps p.tables e below (s₁.setTop (mkF m 101 #[.val (.int p0), .val (.int p1), .val (.int p2), .val (.int p3), .val (.int p4), .val (.long z4), .second, .val (.long z11), .second, .val (.long z18), .second, .val (.long z26), .second, .val (.long z37), .second, .val (.long z48), .second, .val (.int z72), .val (.int z81), .val (.int z91), .val (.double z98), .second, .unset, .unset, .unset, .unset, .unset, .unset, .unset, .unset, .unset] [])) _
      refine XS.lconst X0.here hx rfl (hb hby at_101) ?_
      show Steps p.tables e below (s₁.setTop (mkF m 102 #[.val (.int p0), .val (.int p1), .val (.int p2), .val (.int p3), .val (.int p4), .val (.long z4), .second, .val (.long z11), .second, .val (.long z18), .second, .val (.long z26), .second, .val (.long z37), .second, .val (.long z48), .second, .val (.int z72), .val (.int z81), .val (.int z91), .val (.double z98), .second, .unset, .unset, .unset, .unset, .unset, .unset, .unset, .unset, .unset] [(.long (1 : Int64))])) _
      refine XS.iload X0.here hx rfl (hb hby at_102) rfl ?_
      show Steps p.tables e below (s₁.setTop (mkF m 104 #[.val (.int p0), .val (.int p1), .val (.int p2), .val (.int p3), .val (.int p4), .val (.long z4), .second, .val (.long z11), .second, .val (.long z18), .second, .val (.long z26), .second, .val (.long z37), .second, .val (.long z48), .second, .val (.int z72), .val (.int z81), .val (.int z91), .val (.double z98), .second, .unset, .unset, .unset, .unset, .unset, .unset, .unset, .unset, .unset] [(.int z81), (.long (1 : Int64))])) _
      refine Jvm.OwnK.lshl X0.here hx rfl (hb hby at_104) rfl hz104 ?_
      show Steps p.tables e below (s₁.setTop (mkF m 105 #[.val (.int p0), .val (.int p1), .val (.int p2), .val (.int p3), .val (.int p4), .val (.long z4), .second, .val (.long z11), .second, .val (.long z18), .second, .val (.long z26), .second, .val (.long z37), .second, .val (.long z48), .second, .val (.int z72), .val (.int z81), .val (.int z91), .val (.double z98), .second, .unset, .unset, .unset, .unset, .unset, .unset, .unset, .unset, .unset] [(.long z104)])) _
      refine XS.l2dS X0.here hx rfl (hb hby at_105) rfl hz105 ?_
      show Steps p.tables e below (s₁.setTop (mkF m 106 #[.val (.int p0), .val (.int p1), .val (.int p2), .val (.int p3), .val (.int p4), .val (.long z4), .second, .val (.long z11), .second, .val (.long z18), .second, .val (.long z26), .second, .val (.long z37), .second, .val (.long z48), .second, .val (.int z72), .val (.int z81), .val (.int z91), .val (.double z98), .second, .unset, .unset, .unset, .unset, .unset, .unset, .unset, .unset, .unset] [(.double z105)])) _
      refine XS.dstore X0.here hx rfl (hb hby at_106) rfl (l' := #[.val (.int p0), .val (.int p1), .val (.int p2), .val (.int p3), .val (.int p4), .val (.long z4), .second, .val (.long z11), .second, .val (.long z18), .second, .val (.long z26), .second, .val (.long z37), .second, .val (.long z48), .second, .val (.int z72), .val (.int z81), .val (.int z91), .val (.double z98), .second, .val (.double z105), .second, .unset, .unset, .unset, .unset, .unset, .unset, .unset]) rfl ?_
      show Steps p.tables e below (s₁.setTop (mkF m 108 #[.val (.int p0), .val (.int p1), .val (.int p2), .val (.int p3), .val (.int p4), .val (.long z4), .second, .val (.long z11), .second, .val (.long z18), .second, .val (.long z26), .second, .val (.long z37), .second, .val (.long z48), .second, .val (.int z72), .val (.int z81), .val (.int z91), .val (.double z98), .second, .val (.double z105), .second, .unset, .unset, .unset, .unset, .unset, .unset, .unset] [])) _
      refine st15 _ ?_
      show Steps p.tables e below (T15.setTop (mkF m 111 #[.val (.int p0), .val (.int p1), .val (.int p2), .val (.int p3), .val (.int p4), .val (.long z4), .second, .val (.long z11), .second, .val (.long z18), .second, .val (.long z26), .second, .val (.long z37), .second, .val (.long z48), .second, .val (.int z72), .val (.int z81), .val (.int z91), .val (.double z98), .second, .val (.double z105), .second, .unset, .unset, .unset, .unset, .unset, .unset, .unset] [(.ref b15)])) _
      refine XS.dup X15.here hx rfl (hb hby at_111) rfl rfl ?_
      show Steps p.tables e below (T15.setTop (mkF m 112 #[.val (.int p0), .val (.int p1), .val (.int p2), .val (.int p3), .val (.int p4), .val (.long z4), .second, .val (.long z11), .second, .val (.long z18), .second, .val (.long z26), .second, .val (.long z37), .second, .val (.long z48), .second, .val (.int z72), .val (.int z81), .val (.int z91), .val (.double z98), .second, .val (.double z105), .second, .unset, .unset, .unset, .unset, .unset, .unset, .unset] [(.ref b15), (.ref b15)])) _
      refine XS.dload X15.here hx rfl (hb hby at_112) rfl ?_
      show Steps p.tables e below (T15.setTop (mkF m 114 #[.val (.int p0), .val (.int p1), .val (.int p2), .val (.int p3), .val (.int p4), .val (.long z4), .second, .val (.long z11), .second, .val (.long z18), .second, .val (.long z26), .second, .val (.long z37), .second, .val (.long z48), .second, .val (.int z72), .val (.int z81), .val (.int z91), .val (.double z98), .second, .val (.double z105), .second, .unset, .unset, .unset, .unset, .unset, .unset, .unset] [(.double z98), (.ref b15), (.ref b15)])) _
      refine XS.dload X15.here hx rfl (hb hby at_114) rfl ?_
      show Steps p.tables e below (T15.setTop (mkF m 116 #[.val (.int p0), .val (.int p1), .val (.int p2), .val (.int p3), .val (.int p4), .val (.long z4), .second, .val (.long z11), .second, .val (.long z18), .second, .val (.long z26), .second, .val (.long z37), .second, .val (.long z48), .second, .val (.int z72), .val (.int z81), .val (.int z91), .val (.double z98), .second, .val (.double z105), .second, .unset, .unset, .unset, .unset, .unset, .unset, .unset] [(.double z105), (.double z98), (.ref b15), (.ref b15)])) _
      refine XS.lload X15.here hx rfl (hb hby at_116) rfl ?_
      show Steps p.tables e below (T15.setTop (mkF m 118 #[.val (.int p0), .val (.int p1), .val (.int p2), .val (.int p3), .val (.int p4), .val (.long z4), .second, .val (.long z11), .second, .val (.long z18), .second, .val (.long z26), .second, .val (.long z37), .second, .val (.long z48), .second, .val (.int z72), .val (.int z81), .val (.int z91), .val (.double z98), .second, .val (.double z105), .second, .unset, .unset, .unset, .unset, .unset, .unset, .unset] [(.long z26), (.double z105), (.double z98), (.ref b15), (.ref b15)])) _
      refine XS.l2dS X15.here hx rfl (hb hby at_118) rfl hz118 ?_
      show Steps p.tables e below (T15.setTop (mkF m 119 #[.val (.int p0), .val (.int p1), .val (.int p2), .val (.int p3), .val (.int p4), .val (.long z4), .second, .val (.long z11), .second, .val (.long z18), .second, .val (.long z26), .second, .val (.long z37), .second, .val (.long z48), .second, .val (.int z72), .val (.int z81), .val (.int z91), .val (.double z98), .second, .val (.double z105), .second, .unset, .unset, .unset, .unset, .unset, .unset, .unset] [(.double z118), (.double z105), (.double z98), (.ref b15), (.ref b15)])) _
      refine XS.lload X15.here hx rfl (hb hby at_119) rfl ?_
      show Steps p.tables e below (T15.setTop (mkF m 121 #[.val (.int p0), .val (.int p1), .val (.int p2), .val (.int p3), .val (.int p4), .val (.long z4), .second, .val (.long z11), .second, .val (.long z18), .second, .val (.long z26), .second, .val (.long z37), .second, .val (.long z48), .second, .val (.int z72), .val (.int z81), .val (.int z91), .val (.double z98), .second, .val (.double z105), .second, .unset, .unset, .unset, .unset, .unset, .unset, .unset] [(.long z37), (.double z118), (.double z105), (.double z98), (.ref b15), (.ref b15)])) _
      refine XS.l2dS X15.here hx rfl (hb hby at_121) rfl hz121 ?_
      show Steps p.tables e below (T15.setTop (mkF m 122 #[.val (.int p0), .val (.int p1), .val (.int p2), .val (.int p3), .val (.int p4), .val (.long z4), .second, .val (.long z11), .second, .val (.long z18), .second, .val (.long z26), .second, .val (.long z37), .second, .val (.long z48), .second, .val (.int z72), .val (.int z81), .val (.int z91), .val (.double z98), .second, .val (.double z105), .second, .unset, .unset, .unset, .unset, .unset, .unset, .unset] [(.double z121), (.double z118), (.double z105), (.double z98), (.ref b15), (.ref b15)])) _
      refine XS.lload X15.here hx rfl (hb hby at_122) rfl ?_
      show Steps p.tables e below (T15.setTop (mkF m 124 #[.val (.int p0), .val (.int p1), .val (.int p2), .val (.int p3), .val (.int p4), .val (.long z4), .second, .val (.long z11), .second, .val (.long z18), .second, .val (.long z26), .second, .val (.long z37), .second, .val (.long z48), .second, .val (.int z72), .val (.int z81), .val (.int z91), .val (.double z98), .second, .val (.double z105), .second, .unset, .unset, .unset, .unset, .unset, .unset, .unset] [(.long z48), (.double z121), (.double z118), (.double z105), (.double z98), (.ref b15), (.ref b15)])) _
      refine XS.l2dS X15.here hx rfl (hb hby at_124) rfl hz124 ?_
      show Steps p.tables e below (T15.setTop (mkF m 125 #[.val (.int p0), .val (.int p1), .val (.int p2), .val (.int p3), .val (.int p4), .val (.long z4), .second, .val (.long z11), .second, .val (.long z18), .second, .val (.long z26), .second, .val (.long z37), .second, .val (.long z48), .second, .val (.int z72), .val (.int z81), .val (.int z91), .val (.double z98), .second, .val (.double z105), .second, .unset, .unset, .unset, .unset, .unset, .unset, .unset] [(.double z124), (.double z121), (.double z118), (.double z105), (.double z98), (.ref b15), (.ref b15)])) _
      refine st17.trans ?_
      show Steps p.tables e below (T17.setTop (mkF m 128 #[.val (.int p0), .val (.int p1), .val (.int p2), .val (.int p3), .val (.int p4), .val (.long z4), .second, .val (.long z11), .second, .val (.long z18), .second, .val (.long z26), .second, .val (.long z37), .second, .val (.long z48), .second, .val (.int z72), .val (.int z81), .val (.int z91), .val (.double z98), .second, .val (.double z105), .second, .unset, .unset, .unset, .unset, .unset, .unset, .unset] [(.ref b15)])) _
      refine XS.astore X17.here hx rfl (hb hby at_128) rfl rfl (l' := #[.val (.int p0), .val (.int p1), .val (.int p2), .val (.int p3), .val (.int p4), .val (.long z4), .second, .val (.long z11), .second, .val (.long z18), .second, .val (.long z26), .second, .val (.long z37), .second, .val (.long z48), .second, .val (.int z72), .val (.int z81), .val (.int z91), .val (.double z98), .second, .val (.double z105), .second, .val (.ref b15), .unset, .unset, .unset, .unset, .unset, .unset]) rfl ?_
      show Steps p.tables e below (T17.setTop (mkF m 130 #[.val (.int p0), .val (.int p1), .val (.int p2), .val (.int p3), .val (.int p4), .val (.long z4), .second, .val (.long z11), .second, .val (.long z18), .second, .val (.long z26), .second, .val (.long z37), .second, .val (.long z48), .second, .val (.int z72), .val (.int z81), .val (.int z91), .val (.double z98), .second, .val (.double z105), .second, .val (.ref b15), .unset, .unset, .unset, .unset, .unset, .unset] [])) _
      refine XS.lload X17.here hx rfl (hb hby at_130) rfl ?_
      show Steps p.tables e below (T17.setTop (mkF m 132 #[.val (.int p0), .val (.int p1), .val (.int p2), .val (.int p3), .val (.int p4), .val (.long z4), .second, .val (.long z11), .second, .val (.long z18), .second, .val (.long z26), .second, .val (.long z37), .second, .val (.long z48), .second, .val (.int z72), .val (.int z81), .val (.int z91), .val (.double z98), .second, .val (.double z105), .second, .val (.ref b15), .unset, .unset, .unset, .unset, .unset, .unset] [(.long z18)])) _
      refine XS.l2dS X17.here hx rfl (hb hby at_132) rfl hz132 ?_
      show Steps p.tables e below (T17.setTop (mkF m 133 #[.val (.int p0), .val (.int p1), .val (.int p2), .val (.int p3), .val (.int p4), .val (.long z4), .second, .val (.long z11), .second, .val (.long z18), .second, .val (.long z26), .second, .val (.long z37), .second, .val (.long z48), .second, .val (.int z72), .val (.int z81), .val (.int z91), .val (.double z98), .second, .val (.double z105), .second, .val (.ref b15), .unset, .unset, .unset, .unset, .unset, .unset] [(.double z132)])) _
      refine XS.lconst X17.here hx rfl (hb hby at_133) ?_
      show Steps p.tables e below (T17.setTop (mkF m 134 #[.val (.int p0), .val (.int p1), .val (.int p2), .val (.int p3), .val (.int p4), .val (.long z4), .second, .val (.long z11), .second, .val (.long z18), .second, .val (.long z26), .second, .val (.long z37), .second, .val (.long z48), .second, .val (.int z72), .val (.int z81), .val (.int z91), .val (.double z98), .second, .val (.double z105), .second, .val (.ref b15), .unset, .unset, .unset, .unset, .unset, .unset] [(.long (1 : Int64)), (.double z132)])) _
      refine XS.iload X17.here hx rfl (hb hby at_134) rfl ?_
      show Steps p.tables e below (T17.setTop (mkF m 136 #[.val (.int p0), .val (.int p1), .val (.int p2), .val (.int p3), .val (.int p4), .val (.long z4), .second, .val (.long z11), .second, .val (.long z18), .second, .val (.long z26), .second, .val (.long z37), .second, .val (.long z48), .second, .val (.int z72), .val (.int z81), .val (.int z91), .val (.double z98), .second, .val (.double z105), .second, .val (.ref b15), .unset, .unset, .unset, .unset, .unset, .unset] [(.int z91), (.long (1 : Int64)), (.double z132)])) _
      refine Jvm.OwnK.lshl X17.here hx rfl (hb hby at_136) rfl hz136 ?_
      show Steps p.tables e below (T17.setTop (mkF m 137 #[.val (.int p0), .val (.int p1), .val (.int p2), .val (.int p3), .val (.int p4), .val (.long z4), .second, .val (.long z11), .second, .val (.long z18), .second, .val (.long z26), .second, .val (.long z37), .second, .val (.long z48), .second, .val (.int z72), .val (.int z81), .val (.int z91), .val (.double z98), .second, .val (.double z105), .second, .val (.ref b15), .unset, .unset, .unset, .unset, .unset, .unset] [(.long z136), (.double z132)])) _
      refine XS.l2dS X17.here hx rfl (hb hby at_137) rfl hz137 ?_
      show Steps p.tables e below (T17.setTop (mkF m 138 #[.val (.int p0), .val (.int p1), .val (.int p2), .val (.int p3), .val (.int p4), .val (.long z4), .second, .val (.long z11), .second, .val (.long z18), .second, .val (.long z26), .second, .val (.long z37), .second, .val (.long z48), .second, .val (.int z72), .val (.int z81), .val (.int z91), .val (.double z98), .second, .val (.double z105), .second, .val (.ref b15), .unset, .unset, .unset, .unset, .unset, .unset] [(.double z137), (.double z132)])) _
      refine Jvm.OwnK.ddiv X17.here hx rfl (hb hby at_138) rfl hz138 nn138 ?_
      show Steps p.tables e below (T17.setTop (mkF m 139 #[.val (.int p0), .val (.int p1), .val (.int p2), .val (.int p3), .val (.int p4), .val (.long z4), .second, .val (.long z11), .second, .val (.long z18), .second, .val (.long z26), .second, .val (.long z37), .second, .val (.long z48), .second, .val (.int z72), .val (.int z81), .val (.int z91), .val (.double z98), .second, .val (.double z105), .second, .val (.ref b15), .unset, .unset, .unset, .unset, .unset, .unset] [(.double z138)])) _
      refine XS.dstore X17.here hx rfl (hb hby at_139) rfl (l' := #[.val (.int p0), .val (.int p1), .val (.int p2), .val (.int p3), .val (.int p4), .val (.long z4), .second, .val (.long z11), .second, .val (.long z18), .second, .val (.long z26), .second, .val (.long z37), .second, .val (.long z48), .second, .val (.int z72), .val (.int z81), .val (.int z91), .val (.double z98), .second, .val (.double z105), .second, .val (.ref b15), .val (.double z138), .second, .unset, .unset, .unset, .unset]) rfl ?_
      show Steps p.tables e below (T17.setTop (mkF m 141 #[.val (.int p0), .val (.int p1), .val (.int p2), .val (.int p3), .val (.int p4), .val (.long z4), .second, .val (.long z11), .second, .val (.long z18), .second, .val (.long z26), .second, .val (.long z37), .second, .val (.long z48), .second, .val (.int z72), .val (.int z81), .val (.int z91), .val (.double z98), .second, .val (.double z105), .second, .val (.ref b15), .val (.double z138), .second, .unset, .unset, .unset, .unset] [])) _
      refine XS.aload X17.here hx rfl (hb hby at_141) rfl rfl ?_
      show Steps p.tables e below (T17.setTop (mkF m 143 #[.val (.int p0), .val (.int p1), .val (.int p2), .val (.int p3), .val (.int p4), .val (.long z4), .second, .val (.long z11), .second, .val (.long z18), .second, .val (.long z26), .second, .val (.long z37), .second, .val (.long z48), .second, .val (.int z72), .val (.int z81), .val (.int z91), .val (.double z98), .second, .val (.double z105), .second, .val (.ref b15), .val (.double z138), .second, .unset, .unset, .unset, .unset] [(.ref b15)])) _
      refine XS.lload X17.here hx rfl (hb hby at_143) rfl ?_
      show Steps p.tables e below (T17.setTop (mkF m 145 #[.val (.int p0), .val (.int p1), .val (.int p2), .val (.int p3), .val (.int p4), .val (.long z4), .second, .val (.long z11), .second, .val (.long z18), .second, .val (.long z26), .second, .val (.long z37), .second, .val (.long z48), .second, .val (.int z72), .val (.int z81), .val (.int z91), .val (.double z98), .second, .val (.double z105), .second, .val (.ref b15), .val (.double z138), .second, .unset, .unset, .unset, .unset] [(.long z4), (.ref b15)])) _
      refine XS.l2dS X17.here hx rfl (hb hby at_145) rfl hz145 ?_
      show Steps p.tables e below (T17.setTop (mkF m 146 #[.val (.int p0), .val (.int p1), .val (.int p2), .val (.int p3), .val (.int p4), .val (.long z4), .second, .val (.long z11), .second, .val (.long z18), .second, .val (.long z26), .second, .val (.long z37), .second, .val (.long z48), .second, .val (.int z72), .val (.int z81), .val (.int z91), .val (.double z98), .second, .val (.double z105), .second, .val (.ref b15), .val (.double z138), .second, .unset, .unset, .unset, .unset] [(.double z145), (.ref b15)])) _
      refine XS.lload X17.here hx rfl (hb hby at_146) rfl ?_
      show Steps p.tables e below (T17.setTop (mkF m 148 #[.val (.int p0), .val (.int p1), .val (.int p2), .val (.int p3), .val (.int p4), .val (.long z4), .second, .val (.long z11), .second, .val (.long z18), .second, .val (.long z26), .second, .val (.long z37), .second, .val (.long z48), .second, .val (.int z72), .val (.int z81), .val (.int z91), .val (.double z98), .second, .val (.double z105), .second, .val (.ref b15), .val (.double z138), .second, .unset, .unset, .unset, .unset] [(.long z11), (.double z145), (.ref b15)])) _
      refine XS.l2dS X17.here hx rfl (hb hby at_148) rfl hz148 ?_
      show Steps p.tables e below (T17.setTop (mkF m 149 #[.val (.int p0), .val (.int p1), .val (.int p2), .val (.int p3), .val (.int p4), .val (.long z4), .second, .val (.long z11), .second, .val (.long z18), .second, .val (.long z26), .second, .val (.long z37), .second, .val (.long z48), .second, .val (.int z72), .val (.int z81), .val (.int z91), .val (.double z98), .second, .val (.double z105), .second, .val (.ref b15), .val (.double z138), .second, .unset, .unset, .unset, .unset] [(.double z148), (.double z145), (.ref b15)])) _
      refine XS.dload X17.here hx rfl (hb hby at_149) rfl ?_
      show Steps p.tables e below (T17.setTop (mkF m 151 #[.val (.int p0), .val (.int p1), .val (.int p2), .val (.int p3), .val (.int p4), .val (.long z4), .second, .val (.long z11), .second, .val (.long z18), .second, .val (.long z26), .second, .val (.long z37), .second, .val (.long z48), .second, .val (.int z72), .val (.int z81), .val (.int z91), .val (.double z98), .second, .val (.double z105), .second, .val (.ref b15), .val (.double z138), .second, .unset, .unset, .unset, .unset] [(.double z138), (.double z148), (.double z145), (.ref b15)])) _
      refine st19.trans ?_
      show Steps p.tables e below (T19.setTop (mkF m 154 #[.val (.int p0), .val (.int p1), .val (.int p2), .val (.int p3), .val (.int p4), .val (.long z4), .second, .val (.long z11), .second, .val (.long z18), .second, .val (.long z26), .second, .val (.long z37), .second, .val (.long z48), .second, .val (.int z72), .val (.int z81), .val (.int z91), .val (.double z98), .second, .val (.double z105), .second, .val (.ref b15), .val (.double z138), .second, .unset, .unset, .unset, .unset] [(.double c151_z30)])) _
      refine XS.dstore X19.here hx rfl (hb hby at_154) rfl (l' := #[.val (.int p0), .val (.int p1), .val (.int p2), .val (.int p3), .val (.int p4), .val (.long z4), .second, .val (.long z11), .second, .val (.long z18), .second, .val (.long z26), .second, .val (.long z37), .second, .val (.long z48), .second, .val (.int z72), .val (.int z81), .val (.int z91), .val (.double z98), .second, .val (.double z105), .second, .val (.ref b15), .val (.double z138), .second, .val (.double c151_z30), .second, .unset, .unset]) rfl ?_
      show Steps p.tables e below (T19.setTop (mkF m 156 #[.val (.int p0), .val (.int p1), .val (.int p2), .val (.int p3), .val (.int p4), .val (.long z4), .second, .val (.long z11), .second, .val (.long z18), .second, .val (.long z26), .second, .val (.long z37), .second, .val (.long z48), .second, .val (.int z72), .val (.int z81), .val (.int z91), .val (.double z98), .second, .val (.double z105), .second, .val (.ref b15), .val (.double z138), .second, .val (.double c151_z30), .second, .unset, .unset] [])) _
      refine XS.lload X19.here hx rfl (hb hby at_156) rfl ?_
      show Steps p.tables e below (T19.setTop (mkF m 158 #[.val (.int p0), .val (.int p1), .val (.int p2), .val (.int p3), .val (.int p4), .val (.long z4), .second, .val (.long z11), .second, .val (.long z18), .second, .val (.long z26), .second, .val (.long z37), .second, .val (.long z48), .second, .val (.int z72), .val (.int z81), .val (.int z91), .val (.double z98), .second, .val (.double z105), .second, .val (.ref b15), .val (.double z138), .second, .val (.double c151_z30), .second, .unset, .unset] [(.long z26)])) _
      refine XS.lload X19.here hx rfl (hb hby at_158) rfl ?_
      show Steps p.tables e below (T19.setTop (mkF m 160 #[.val (.int p0), .val (.int p1), .val (.int p2), .val (.int p3), .val (.int p4), .val (.long z4), .second, .val (.long z11), .second, .val (.long z18), .second, .val (.long z26), .second, .val (.long z37), .second, .val (.long z48), .second, .val (.int z72), .val (.int z81), .val (.int z91), .val (.double z98), .second, .val (.double z105), .second, .val (.ref b15), .val (.double z138), .second, .val (.double c151_z30), .second, .unset, .unset] [(.long z4), (.long z26)])) _
      refine Jvm.OwnK.lmul X19.here hx rfl (hb hby at_160) rfl hz160 ?_
      show Steps p.tables e below (T19.setTop (mkF m 161 #[.val (.int p0), .val (.int p1), .val (.int p2), .val (.int p3), .val (.int p4), .val (.long z4), .second, .val (.long z11), .second, .val (.long z18), .second, .val (.long z26), .second, .val (.long z37), .second, .val (.long z48), .second, .val (.int z72), .val (.int z81), .val (.int z91), .val (.double z98), .second, .val (.double z105), .second, .val (.ref b15), .val (.double z138), .second, .val (.double c151_z30), .second, .unset, .unset] [(.long z160)])) _
      refine XS.lconst X19.here hx rfl (hb hby at_161) ?_
      show Steps p.tables e below (T19.setTop (mkF m 162 #[.val (.int p0), .val (.int p1), .val (.int p2), .val (.int p3), .val (.int p4), .val (.long z4), .second, .val (.long z11), .second, .val (.long z18), .second, .val (.long z26), .second, .val (.long z37), .second, .val (.long z48), .second, .val (.int z72), .val (.int z81), .val (.int z91), .val (.double z98), .second, .val (.double z105), .second, .val (.ref b15), .val (.double z138), .second, .val (.double c151_z30), .second, .unset, .unset] [(.long (1 : Int64)), (.long z160)])) _
      refine XS.iload X19.here hx rfl (hb hby at_162) rfl ?_
      show Steps p.tables e below (T19.setTop (mkF m 164 #[.val (.int p0), .val (.int p1), .val (.int p2), .val (.int p3), .val (.int p4), .val (.long z4), .second, .val (.long z11), .second, .val (.long z18), .second, .val (.long z26), .second, .val (.long z37), .second, .val (.long z48), .second, .val (.int z72), .val (.int z81), .val (.int z91), .val (.double z98), .second, .val (.double z105), .second, .val (.ref b15), .val (.double z138), .second, .val (.double c151_z30), .second, .unset, .unset] [(.int z81), (.long (1 : Int64)), (.long z160)])) _
      refine XS.iload X19.here hx rfl (hb hby at_164) rfl ?_
      show Steps p.tables e below (T19.setTop (mkF m 166 #[.val (.int p0), .val (.int p1), .val (.int p2), .val (.int p3), .val (.int p4), .val (.long z4), .second, .val (.long z11), .second, .val (.long z18), .second, .val (.long z26), .second, .val (.long z37), .second, .val (.long z48), .second, .val (.int z72), .val (.int z81), .val (.int z91), .val (.double z98), .second, .val (.double z105), .second, .val (.ref b15), .val (.double z138), .second, .val (.double c151_z30), .second, .unset, .unset] [(.int z91), (.int z81), (.long (1 : Int64)), (.long z160)])) _
      refine Jvm.OwnK.iadd X19.here hx rfl (hb hby at_166) rfl hz166 ?_
      show Steps p.tables e below (T19.setTop (mkF m 167 #[.val (.int p0), .val (.int p1), .val (.int p2), .val (.int p3), .val (.int p4), .val (.long z4), .second, .val (.long z11), .second, .val (.long z18), .second, .val (.long z26), .second, .val (.long z37), .second, .val (.long z48), .second, .val (.int z72), .val (.int z81), .val (.int z91), .val (.double z98), .second, .val (.double z105), .second, .val (.ref b15), .val (.double z138), .second, .val (.double c151_z30), .second, .unset, .unset] [(.int z166), (.long (1 : Int64)), (.long z160)])) _
      refine Jvm.OwnK.lshl X19.here hx rfl (hb hby at_167) rfl hz167 ?_
      show Steps p.tables e below (T19.setTop (mkF m 168 #[.val (.int p0), .val (.int p1), .val (.int p2), .val (.int p3), .val (.int p4), .val (.long z4), .second, .val (.long z11), .second, .val (.long z18), .second, .val (.long z26), .second, .val (.long z37), .second, .val (.long z48), .second, .val (.int z72), .val (.int z81), .val (.int z91), .val (.double z98), .second, .val (.double z105), .second, .val (.ref b15), .val (.double z138), .second, .val (.double c151_z30), .second, .unset, .unset] [(.long z167), (.long z160)])) _
      refine Jvm.OwnK.lmul X19.here hx rfl (hb hby at_168) rfl hz168 ?_
      show Steps p.tables e below (T19.setTop (mkF m 169 #[.val (.int p0), .val (.int p1), .val (.int p2), .val (.int p3), .val (.int p4), .val (.long z4), .second, .val (.long z11), .second, .val (.long z18), .second, .val (.long z26), .second, .val (.long z37), .second, .val (.long z48), .second, .val (.int z72), .val (.int z81), .val (.int z91), .val (.double z98), .second, .val (.double z105), .second, .val (.ref b15), .val (.double z138), .second, .val (.double c151_z30), .second, .unset, .unset] [(.long z168)])) _
      refine XS.lload X19.here hx rfl (hb hby at_169) rfl ?_
      show Steps p.tables e below (T19.setTop (mkF m 171 #[.val (.int p0), .val (.int p1), .val (.int p2), .val (.int p3), .val (.int p4), .val (.long z4), .second, .val (.long z11), .second, .val (.long z18), .second, .val (.long z26), .second, .val (.long z37), .second, .val (.long z48), .second, .val (.int z72), .val (.int z81), .val (.int z91), .val (.double z98), .second, .val (.double z105), .second, .val (.ref b15), .val (.double z138), .second, .val (.double c151_z30), .second, .unset, .unset] [(.long z37), (.long z168)])) _
      refine XS.lload X19.here hx rfl (hb hby at_171) rfl ?_
      show Steps p.tables e below (T19.setTop (mkF m 173 #[.val (.int p0), .val (.int p1), .val (.int p2), .val (.int p3), .val (.int p4), .val (.long z4), .second, .val (.long z11), .second, .val (.long z18), .second, .val (.long z26), .second, .val (.long z37), .second, .val (.long z48), .second, .val (.int z72), .val (.int z81), .val (.int z91), .val (.double z98), .second, .val (.double z105), .second, .val (.ref b15), .val (.double z138), .second, .val (.double c151_z30), .second, .unset, .unset] [(.long z11), (.long z37), (.long z168)])) _
      refine Jvm.OwnK.lmul X19.here hx rfl (hb hby at_173) rfl hz173 ?_
      show Steps p.tables e below (T19.setTop (mkF m 174 #[.val (.int p0), .val (.int p1), .val (.int p2), .val (.int p3), .val (.int p4), .val (.long z4), .second, .val (.long z11), .second, .val (.long z18), .second, .val (.long z26), .second, .val (.long z37), .second, .val (.long z48), .second, .val (.int z72), .val (.int z81), .val (.int z91), .val (.double z98), .second, .val (.double z105), .second, .val (.ref b15), .val (.double z138), .second, .val (.double c151_z30), .second, .unset, .unset] [(.long z173), (.long z168)])) _
      refine XS.lconst X19.here hx rfl (hb hby at_174) ?_
      show Steps p.tables e below (T19.setTop (mkF m 175 #[.val (.int p0), .val (.int p1), .val (.int p2), .val (.int p3), .val (.int p4), .val (.long z4), .second, .val (.long z11), .second, .val (.long z18), .second, .val (.long z26), .second, .val (.long z37), .second, .val (.long z48), .second, .val (.int z72), .val (.int z81), .val (.int z91), .val (.double z98), .second, .val (.double z105), .second, .val (.ref b15), .val (.double z138), .second, .val (.double c151_z30), .second, .unset, .unset] [(.long (1 : Int64)), (.long z173), (.long z168)])) _
      refine XS.iload X19.here hx rfl (hb hby at_175) rfl ?_
      show Steps p.tables e below (T19.setTop (mkF m 177 #[.val (.int p0), .val (.int p1), .val (.int p2), .val (.int p3), .val (.int p4), .val (.long z4), .second, .val (.long z11), .second, .val (.long z18), .second, .val (.long z26), .second, .val (.long z37), .second, .val (.long z48), .second, .val (.int z72), .val (.int z81), .val (.int z91), .val (.double z98), .second, .val (.double z105), .second, .val (.ref b15), .val (.double z138), .second, .val (.double c151_z30), .second, .unset, .unset] [(.int z72), (.long (1 : Int64)), (.long z173), (.long z168)])) _
      refine XS.iload X19.here hx rfl (hb hby at_177) rfl ?_
      show Steps p.tables e below (T19.setTop (mkF m 179 #[.val (.int p0), .val (.int p1), .val (.int p2), .val (.int p3), .val (.int p4), .val (.long z4), .second, .val (.long z11), .second, .val (.long z18), .second, .val (.long z26), .second, .val (.long z37), .second, .val (.long z48), .second, .val (.int z72), .val (.int z81), .val (.int z91), .val (.double z98), .second, .val (.double z105), .second, .val (.ref b15), .val (.double z138), .second, .val (.double c151_z30), .second, .unset, .unset] [(.int z91), (.int z72), (.long (1 : Int64)), (.long z173), (.long z168)])) _
      refine Jvm.OwnK.iadd X19.here hx rfl (hb hby at_179) rfl hz179 ?_
      show Steps p.tables e below (T19.setTop (mkF m 180 #[.val (.int p0), .val (.int p1), .val (.int p2), .val (.int p3), .val (.int p4), .val (.long z4), .second, .val (.long z11), .second, .val (.long z18), .second, .val (.long z26), .second, .val (.long z37), .second, .val (.long z48), .second, .val (.int z72), .val (.int z81), .val (.int z91), .val (.double z98), .second, .val (.double z105), .second, .val (.ref b15), .val (.double z138), .second, .val (.double c151_z30), .second, .unset, .unset] [(.int z179), (.long (1 : Int64)), (.long z173), (.long z168)])) _
      refine Jvm.OwnK.lshl X19.here hx rfl (hb hby at_180) rfl hz180 ?_
      show Steps p.tables e below (T19.setTop (mkF m 181 #[.val (.int p0), .val (.int p1), .val (.int p2), .val (.int p3), .val (.int p4), .val (.long z4), .second, .val (.long z11), .second, .val (.long z18), .second, .val (.long z26), .second, .val (.long z37), .second, .val (.long z48), .second, .val (.int z72), .val (.int z81), .val (.int z91), .val (.double z98), .second, .val (.double z105), .second, .val (.ref b15), .val (.double z138), .second, .val (.double c151_z30), .second, .unset, .unset] [(.long z180), (.long z173), (.long z168)])) _
      refine Jvm.OwnK.lmul X19.here hx rfl (hb hby at_181) rfl hz181 ?_
      show Steps p.tables e below (T19.setTop (mkF m 182 #[.val (.int p0), .val (.int p1), .val (.int p2), .val (.int p3), .val (.int p4), .val (.long z4), .second, .val (.long z11), .second, .val (.long z18), .second, .val (.long z26), .second, .val (.long z37), .second, .val (.long z48), .second, .val (.int z72), .val (.int z81), .val (.int z91), .val (.double z98), .second, .val (.double z105), .second, .val (.ref b15), .val (.double z138), .second, .val (.double c151_z30), .second, .unset, .unset] [(.long z181), (.long z168)])) _
      refine Jvm.OwnK.ladd X19.here hx rfl (hb hby at_182) rfl hz182 ?_
      show Steps p.tables e below (T19.setTop (mkF m 183 #[.val (.int p0), .val (.int p1), .val (.int p2), .val (.int p3), .val (.int p4), .val (.long z4), .second, .val (.long z11), .second, .val (.long z18), .second, .val (.long z26), .second, .val (.long z37), .second, .val (.long z48), .second, .val (.int z72), .val (.int z81), .val (.int z91), .val (.double z98), .second, .val (.double z105), .second, .val (.ref b15), .val (.double z138), .second, .val (.double c151_z30), .second, .unset, .unset] [(.long z182)])) _
      refine XS.lload X19.here hx rfl (hb hby at_183) rfl ?_
      show Steps p.tables e below (T19.setTop (mkF m 185 #[.val (.int p0), .val (.int p1), .val (.int p2), .val (.int p3), .val (.int p4), .val (.long z4), .second, .val (.long z11), .second, .val (.long z18), .second, .val (.long z26), .second, .val (.long z37), .second, .val (.long z48), .second, .val (.int z72), .val (.int z81), .val (.int z91), .val (.double z98), .second, .val (.double z105), .second, .val (.ref b15), .val (.double z138), .second, .val (.double c151_z30), .second, .unset, .unset] [(.long z48), (.long z182)])) _
      refine XS.lload X19.here hx rfl (hb hby at_185) rfl ?_
      show Steps p.tables e below (T19.setTop (mkF m 187 #[.val (.int p0), .val (.int p1), .val (.int p2), .val (.int p3), .val (.int p4), .val (.long z4), .second, .val (.long z11), .second, .val (.long z18), .second, .val (.long z26), .second, .val (.long z37), .second, .val (.long z48), .second, .val (.int z72), .val (.int z81), .val (.int z91), .val (.double z98), .second, .val (.double z105), .second, .val (.ref b15), .val (.double z138), .second, .val (.double c151_z30), .second, .unset, .unset] [(.long z18), (.long z48), (.long z182)])) _
      refine Jvm.OwnK.lmul X19.here hx rfl (hb hby at_187) rfl hz187 ?_
      show Steps p.tables e below (T19.setTop (mkF m 188 #[.val (.int p0), .val (.int p1), .val (.int p2), .val (.int p3), .val (.int p4), .val (.long z4), .second, .val (.long z11), .second, .val (.long z18), .second, .val (.long z26), .second, .val (.long z37), .second, .val (.long z48), .second, .val (.int z72), .val (.int z81), .val (.int z91), .val (.double z98), .second, .val (.double z105), .second, .val (.ref b15), .val (.double z138), .second, .val (.double c151_z30), .second, .unset, .unset] [(.long z187), (.long z182)])) _
      refine XS.lconst X19.here hx rfl (hb hby at_188) ?_
      show Steps p.tables e below (T19.setTop (mkF m 189 #[.val (.int p0), .val (.int p1), .val (.int p2), .val (.int p3), .val (.int p4), .val (.long z4), .second, .val (.long z11), .second, .val (.long z18), .second, .val (.long z26), .second, .val (.long z37), .second, .val (.long z48), .second, .val (.int z72), .val (.int z81), .val (.int z91), .val (.double z98), .second, .val (.double z105), .second, .val (.ref b15), .val (.double z138), .second, .val (.double c151_z30), .second, .unset, .unset] [(.long (1 : Int64)), (.long z187), (.long z182)])) _
      refine XS.iload X19.here hx rfl (hb hby at_189) rfl ?_
      show Steps p.tables e below (T19.setTop (mkF m 191 #[.val (.int p0), .val (.int p1), .val (.int p2), .val (.int p3), .val (.int p4), .val (.long z4), .second, .val (.long z11), .second, .val (.long z18), .second, .val (.long z26), .second, .val (.long z37), .second, .val (.long z48), .second, .val (.int z72), .val (.int z81), .val (.int z91), .val (.double z98), .second, .val (.double z105), .second, .val (.ref b15), .val (.double z138), .second, .val (.double c151_z30), .second, .unset, .unset] [(.int z72), (.long (1 : Int64)), (.long z187), (.long z182)])) _
      refine XS.iload X19.here hx rfl (hb hby at_191) rfl ?_
      show Steps p.tables e below (T19.setTop (mkF m 193 #[.val (.int p0), .val (.int p1), .val (.int p2), .val (.int p3), .val (.int p4), .val (.long z4), .second, .val (.long z11), .second, .val (.long z18), .second, .val (.long z26), .second, .val (.long z37), .second, .val (.long z48), .second, .val (.int z72), .val (.int z81), .val (.int z91), .val (.double z98), .second, .val (.double z105), .second, .val (.ref b15), .val (.double z138), .second, .val (.double c151_z30), .second, .unset, .unset] [(.int z81), (.int z72), (.long (1 : Int64)), (.long z187), (.long z182)])) _
      refine Jvm.OwnK.iadd X19.here hx rfl (hb hby at_193) rfl hz193 ?_
      show Steps p.tables e below (T19.setTop (mkF m 194 #[.val (.int p0), .val (.int p1), .val (.int p2), .val (.int p3), .val (.int p4), .val (.long z4), .second, .val (.long z11), .second, .val (.long z18), .second, .val (.long z26), .second, .val (.long z37), .second, .val (.long z48), .second, .val (.int z72), .val (.int z81), .val (.int z91), .val (.double z98), .second, .val (.double z105), .second, .val (.ref b15), .val (.double z138), .second, .val (.double c151_z30), .second, .unset, .unset] [(.int z193), (.long (1 : Int64)), (.long z187), (.long z182)])) _
      refine Jvm.OwnK.lshl X19.here hx rfl (hb hby at_194) rfl hz194 ?_
      show Steps p.tables e below (T19.setTop (mkF m 195 #[.val (.int p0), .val (.int p1), .val (.int p2), .val (.int p3), .val (.int p4), .val (.long z4), .second, .val (.long z11), .second, .val (.long z18), .second, .val (.long z26), .second, .val (.long z37), .second, .val (.long z48), .second, .val (.int z72), .val (.int z81), .val (.int z91), .val (.double z98), .second, .val (.double z105), .second, .val (.ref b15), .val (.double z138), .second, .val (.double c151_z30), .second, .unset, .unset] [(.long z194), (.long z187), (.long z182)])) _
      refine Jvm.OwnK.lmul X19.here hx rfl (hb hby at_195) rfl hz195 ?_
      show Steps p.tables e below (T19.setTop (mkF m 196 #[.val (.int p0), .val (.int p1), .val (.int p2), .val (.int p3), .val (.int p4), .val (.long z4), .second, .val (.long z11), .second, .val (.long z18), .second, .val (.long z26), .second, .val (.long z37), .second, .val (.long z48), .second, .val (.int z72), .val (.int z81), .val (.int z91), .val (.double z98), .second, .val (.double z105), .second, .val (.ref b15), .val (.double z138), .second, .val (.double c151_z30), .second, .unset, .unset] [(.long z195), (.long z182)])) _
      refine Jvm.OwnK.ladd X19.here hx rfl (hb hby at_196) rfl hz196 ?_
      show Steps p.tables e below (T19.setTop (mkF m 197 #[.val (.int p0), .val (.int p1), .val (.int p2), .val (.int p3), .val (.int p4), .val (.long z4), .second, .val (.long z11), .second, .val (.long z18), .second, .val (.long z26), .second, .val (.long z37), .second, .val (.long z48), .second, .val (.int z72), .val (.int z81), .val (.int z91), .val (.double z98), .second, .val (.double z105), .second, .val (.ref b15), .val (.double z138), .second, .val (.double c151_z30), .second, .unset, .unset] [(.long z196)])) _
      refine XS.lstore X19.here hx rfl (hb hby at_197) rfl (l' := #[.val (.int p0), .val (.int p1), .val (.int p2), .val (.int p3), .val (.int p4), .val (.long z4), .second, .val (.long z11), .second, .val (.long z18), .second, .val (.long z26), .second, .val (.long z37), .second, .val (.long z48), .second, .val (.int z72), .val (.int z81), .val (.int z91), .val (.double z98), .second, .val (.double z105), .second, .val (.ref b15), .val (.double z138), .second, .val (.double c151_z30), .second, .val (.long z196), .second]) rfl ?_
      show Steps p.tables e below (T19.setTop (mkF m 199 #[.val (.int p0), .val (.int p1), .val (.int p2), .val (.int p3), .val (.int p4), .val (.long z4), .second, .val (.long z11), .second, .val (.long z18), .second, .val (.long z26), .second, .val (.long z37), .second, .val (.long z48), .second, .val (.int z72), .val (.int z81), .val (.int z91), .val (.double z98), .second, .val (.double z105), .second, .val (.ref b15), .val (.double z138), .second, .val (.double c151_z30), .second, .val (.long z196), .second] [])) _
      refine XS.dload X19.here hx rfl (hb hby at_199) rfl ?_
      show Steps p.tables e below (T19.setTop (mkF m 201 #[.val (.int p0), .val (.int p1), .val (.int p2), .val (.int p3), .val (.int p4), .val (.long z4), .second, .val (.long z11), .second, .val (.long z18), .second, .val (.long z26), .second, .val (.long z37), .second, .val (.long z48), .second, .val (.int z72), .val (.int z81), .val (.int z91), .val (.double z98), .second, .val (.double z105), .second, .val (.ref b15), .val (.double z138), .second, .val (.double c151_z30), .second, .val (.long z196), .second] [(.double c151_z30)])) _
      refine XS.lconst X19.here hx rfl (hb hby at_201) ?_
      show Steps p.tables e below (T19.setTop (mkF m 202 #[.val (.int p0), .val (.int p1), .val (.int p2), .val (.int p3), .val (.int p4), .val (.long z4), .second, .val (.long z11), .second, .val (.long z18), .second, .val (.long z26), .second, .val (.long z37), .second, .val (.long z48), .second, .val (.int z72), .val (.int z81), .val (.int z91), .val (.double z98), .second, .val (.double z105), .second, .val (.ref b15), .val (.double z138), .second, .val (.double c151_z30), .second, .val (.long z196), .second] [(.long (1 : Int64)), (.double c151_z30)])) _
      refine XS.iload X19.here hx rfl (hb hby at_202) rfl ?_
      show Steps p.tables e below (T19.setTop (mkF m 204 #[.val (.int p0), .val (.int p1), .val (.int p2), .val (.int p3), .val (.int p4), .val (.long z4), .second, .val (.long z11), .second, .val (.long z18), .second, .val (.long z26), .second, .val (.long z37), .second, .val (.long z48), .second, .val (.int z72), .val (.int z81), .val (.int z91), .val (.double z98), .second, .val (.double z105), .second, .val (.ref b15), .val (.double z138), .second, .val (.double c151_z30), .second, .val (.long z196), .second] [(.int z72), (.long (1 : Int64)), (.double c151_z30)])) _
      refine XS.iload X19.here hx rfl (hb hby at_204) rfl ?_
      show Steps p.tables e below (T19.setTop (mkF m 206 #[.val (.int p0), .val (.int p1), .val (.int p2), .val (.int p3), .val (.int p4), .val (.long z4), .second, .val (.long z11), .second, .val (.long z18), .second, .val (.long z26), .second, .val (.long z37), .second, .val (.long z48), .second, .val (.int z72), .val (.int z81), .val (.int z91), .val (.double z98), .second, .val (.double z105), .second, .val (.ref b15), .val (.double z138), .second, .val (.double c151_z30), .second, .val (.long z196), .second] [(.int z81), (.int z72), (.long (1 : Int64)), (.double c151_z30)])) _
      refine Jvm.OwnK.iadd X19.here hx rfl (hb hby at_206) rfl hz206 ?_
      show Steps p.tables e below (T19.setTop (mkF m 207 #[.val (.int p0), .val (.int p1), .val (.int p2), .val (.int p3), .val (.int p4), .val (.long z4), .second, .val (.long z11), .second, .val (.long z18), .second, .val (.long z26), .second, .val (.long z37), .second, .val (.long z48), .second, .val (.int z72), .val (.int z81), .val (.int z91), .val (.double z98), .second, .val (.double z105), .second, .val (.ref b15), .val (.double z138), .second, .val (.double c151_z30), .second, .val (.long z196), .second] [(.int z206), (.long (1 : Int64)), (.double c151_z30)])) _
      refine XS.iload X19.here hx rfl (hb hby at_207) rfl ?_
      show Steps p.tables e below (T19.setTop (mkF m 209 #[.val (.int p0), .val (.int p1), .val (.int p2), .val (.int p3), .val (.int p4), .val (.long z4), .second, .val (.long z11), .second, .val (.long z18), .second, .val (.long z26), .second, .val (.long z37), .second, .val (.long z48), .second, .val (.int z72), .val (.int z81), .val (.int z91), .val (.double z98), .second, .val (.double z105), .second, .val (.ref b15), .val (.double z138), .second, .val (.double c151_z30), .second, .val (.long z196), .second] [(.int z91), (.int z206), (.long (1 : Int64)), (.double c151_z30)])) _
      refine Jvm.OwnK.iadd X19.here hx rfl (hb hby at_209) rfl hz209 ?_
      show Steps p.tables e below (T19.setTop (mkF m 210 #[.val (.int p0), .val (.int p1), .val (.int p2), .val (.int p3), .val (.int p4), .val (.long z4), .second, .val (.long z11), .second, .val (.long z18), .second, .val (.long z26), .second, .val (.long z37), .second, .val (.long z48), .second, .val (.int z72), .val (.int z81), .val (.int z91), .val (.double z98), .second, .val (.double z105), .second, .val (.ref b15), .val (.double z138), .second, .val (.double c151_z30), .second, .val (.long z196), .second] [(.int z209), (.long (1 : Int64)), (.double c151_z30)])) _
      refine Jvm.OwnK.lshl X19.here hx rfl (hb hby at_210) rfl hz210 ?_
      show Steps p.tables e below (T19.setTop (mkF m 211 #[.val (.int p0), .val (.int p1), .val (.int p2), .val (.int p3), .val (.int p4), .val (.long z4), .second, .val (.long z11), .second, .val (.long z18), .second, .val (.long z26), .second, .val (.long z37), .second, .val (.long z48), .second, .val (.int z72), .val (.int z81), .val (.int z91), .val (.double z98), .second, .val (.double z105), .second, .val (.ref b15), .val (.double z138), .second, .val (.double c151_z30), .second, .val (.long z196), .second] [(.long z210), (.double c151_z30)])) _
      refine XS.l2dS X19.here hx rfl (hb hby at_211) rfl hz211 ?_
      show Steps p.tables e below (T19.setTop (mkF m 212 #[.val (.int p0), .val (.int p1), .val (.int p2), .val (.int p3), .val (.int p4), .val (.long z4), .second, .val (.long z11), .second, .val (.long z18), .second, .val (.long z26), .second, .val (.long z37), .second, .val (.long z48), .second, .val (.int z72), .val (.int z81), .val (.int z91), .val (.double z98), .second, .val (.double z105), .second, .val (.ref b15), .val (.double z138), .second, .val (.double c151_z30), .second, .val (.long z196), .second] [(.double z211), (.double c151_z30)])) _
      refine Jvm.OwnK.dmul X19.here hx rfl (hb hby at_212) rfl hz212 nn212 ?_
      show Steps p.tables e below (T19.setTop (mkF m 213 #[.val (.int p0), .val (.int p1), .val (.int p2), .val (.int p3), .val (.int p4), .val (.long z4), .second, .val (.long z11), .second, .val (.long z18), .second, .val (.long z26), .second, .val (.long z37), .second, .val (.long z48), .second, .val (.int z72), .val (.int z81), .val (.int z91), .val (.double z98), .second, .val (.double z105), .second, .val (.ref b15), .val (.double z138), .second, .val (.double c151_z30), .second, .val (.long z196), .second] [(.double z212)])) _
      refine XS.lload X19.here hx rfl (hb hby at_213) rfl ?_
      show Steps p.tables e below (T19.setTop (mkF m 215 #[.val (.int p0), .val (.int p1), .val (.int p2), .val (.int p3), .val (.int p4), .val (.long z4), .second, .val (.long z11), .second, .val (.long z18), .second, .val (.long z26), .second, .val (.long z37), .second, .val (.long z48), .second, .val (.int z72), .val (.int z81), .val (.int z91), .val (.double z98), .second, .val (.double z105), .second, .val (.ref b15), .val (.double z138), .second, .val (.double c151_z30), .second, .val (.long z196), .second] [(.long z196), (.double z212)])) _
      refine XS.l2dS X19.here hx rfl (hb hby at_215) rfl hz215 ?_
      show Steps p.tables e below (T19.setTop (mkF m 216 #[.val (.int p0), .val (.int p1), .val (.int p2), .val (.int p3), .val (.int p4), .val (.long z4), .second, .val (.long z11), .second, .val (.long z18), .second, .val (.long z26), .second, .val (.long z37), .second, .val (.long z48), .second, .val (.int z72), .val (.int z81), .val (.int z91), .val (.double z98), .second, .val (.double z105), .second, .val (.ref b15), .val (.double z138), .second, .val (.double c151_z30), .second, .val (.long z196), .second] [(.double z215), (.double z212)])) _
      refine XS.dcmpS X19.here hx rfl (hb hby at_216) rfl hz216 ?_
      show Steps p.tables e below (T19.setTop (mkF m 217 #[.val (.int p0), .val (.int p1), .val (.int p2), .val (.int p3), .val (.int p4), .val (.long z4), .second, .val (.long z11), .second, .val (.long z18), .second, .val (.long z26), .second, .val (.long z37), .second, .val (.long z48), .second, .val (.int z72), .val (.int z81), .val (.int z91), .val (.double z98), .second, .val (.double z105), .second, .val (.ref b15), .val (.double z138), .second, .val (.double c151_z30), .second, .val (.long z196), .second] [(.int z216)])) _
      refine XS.ifNo X19.here hx rfl (hb hby at_217) rfl (Jvm.Free.XT.i0_ne_f br217) ?_
      show Steps p.tables e below (T19.setTop (mkF m 220 #[.val (.int p0), .val (.int p1), .val (.int p2), .val (.int p3), .val (.int p4), .val (.long z4), .second, .val (.long z11), .second, .val (.long z18), .second, .val (.long z26), .second, .val (.long z37), .second, .val (.long z48), .second, .val (.int z72), .val (.int z81), .val (.int z91), .val (.double z98), .second, .val (.double z105), .second, .val (.ref b15), .val (.double z138), .second, .val (.double c151_z30), .second, .val (.long z196), .second] [])) _
      refine XS.iconst X19.here hx rfl (hb hby at_220) ?_
      show Steps p.tables e below (T19.setTop (mkF m 221 #[.val (.int p0), .val (.int p1), .val (.int p2), .val (.int p3), .val (.int p4), .val (.long z4), .second, .val (.long z11), .second, .val (.long z18), .second, .val (.long z26), .second, .val (.long z37), .second, .val (.long z48), .second, .val (.int z72), .val (.int z81), .val (.int z91), .val (.double z98), .second, .val (.double z105), .second, .val (.ref b15), .val (.double z138), .second, .val (.double c151_z30), .second, .val (.long z196), .second] [(.int (1 : Int32))])) _
      refine XS.goto X19.here hx rfl (pc0 := 221) (pc' := 225) rfl (hb hby at_221) (by decide) (by decide) ?_
      exact k
    obtain ⟨fs, hr, hrun, hended, hW, hsame⟩ := X19.leave (v := some (.int (1 : Int32))) (fun h => by rw [Bd.returns] at h; cases h)
    refine ⟨_, _, c20 _ ?_, hrun, hended, _, _, rfl, ?_, ⟨_, rfl⟩, hW, hsame.mono (by decide) (by decide)⟩
    · show Steps p.tables e below (T19.setTop (mkF m 225 #[.val (.int p0), .val (.int p1), .val (.int p2), .val (.int p3), .val (.int p4), .val (.long z4), .second, .val (.long z11), .second, .val (.long z18), .second, .val (.long z26), .second, .val (.long z37), .second, .val (.long z48), .second, .val (.int z72), .val (.int z81), .val (.int z91), .val (.double z98), .second, .val (.double z105), .second, .val (.ref b15), .val (.double z138), .second, .val (.double c151_z30), .second, .val (.long z196), .second] [(.int (1 : Int32))])) _
      exact retOut X19 hx Bd.returns rfl (Or.inl ⟨rfl, by simp, _, rfl⟩) (hb hby at_225) hr
    · show Q0 n0 _ T19.heap _
      rw [e19]
      exact ⟨rfl, by first | assumption | exact N0⟩
set_option maxRecDepth 65536 in
set_option maxHeartbeats 40000000 in
theorem comes_1 {Post : Tables → Env → Array Value → State → Outcome → State → Prop} (hpost : ∀ tb e args s v u, (limb_1_1.after args s (.returned v) u = true ∧ limb_1_2.after args s (.returned v) u = true ∧ True) → FrameEnd s (.returned v) u (Jvm.fieldLocs frame_1_writes args s ++ Jvm.arrayLocs frame_1_arrays args s ++ Jvm.staticLocs frame_1_statics s) 16 128 → Post tb e args s (.returned v) u) :
    ArmFor flags0 classFile x code maxLocals ret World_1 tables_1 room_1 Calls_1 rest_1 Pre_1 Post := by
  intro l hfl _ _ p e ha hc hk s m args below hf hA hF happ hP
  obtain ⟨hcalls, hrest, hpre⟩ := hP
  obtain ⟨-, -, -, hnamed, -, -, -, hat⟩ := (Spec.applies_iff hf).mp happ
  obtain ⟨hg, hn⟩ := and_e (Cond.before_iff.mp (show (Jvm.Cond.and given_1 narrow_1).before args s = true from hpre))
  obtain ⟨g1, g2⟩ := and_e hg
  obtain ⟨g3, g4⟩ := and_e g2
  obtain ⟨g5, g6⟩ := and_e g4
  obtain ⟨g7, g8⟩ := and_e g6
  obtain ⟨g9, g10⟩ := and_e g8
  obtain ⟨w0, w1, w2, w3, w4, rfl⟩ : ∃ w0 w1 w2 w3 w4 : Value, args = #[w0, w1, w2, w3, w4] := by
    have hs : args.size = 5 := by simpa [Cond.value, given_1] using g1
    obtain ⟨L⟩ := args
    match L, hs with
    | [w0, w1, w2, w3, w4], _ => exact ⟨w0, w1, w2, w3, w4, rfl⟩
  have hw := fun d (hd : d ∈ tables_1) => atoms_spec (ws := Jvm.Cond.code x code maxLocals ret :: tables_1) hat d (List.mem_cons_of_mem _ hd)
  have hfit : Fit s := fun {y c} hc i hi => by
    obtain ⟨ha, rfl⟩ := Array.getElem?_eq_some_iff.mp hc
    have q := List.all_eq_true.mp ((Array.all_eq_true_iff_forall_mem.mp hF) _ (Array.getElem_mem ha)) i (List.mem_range.mpr hi)
    simpa [Array.getElem?_eq_getElem hi] using q
  obtain ⟨i0, ei0⟩ := is_v g3
  obtain rfl : w0 = (.int i0) := Option.some.inj ei0
  obtain ⟨i1, ei1⟩ := is_v g5
  obtain rfl : w1 = (.int i1) := Option.some.inj ei1
  obtain ⟨i2, ei2⟩ := is_v g7
  obtain rfl : w2 = (.int i2) := Option.some.inj ei2
  obtain ⟨i3, ei3⟩ := is_v g9
  obtain rfl : w3 = (.int i3) := Option.some.inj ei3
  obtain ⟨i4, ei4⟩ := is_v g10
  obtain rfl : w4 = (.int i4) := Option.some.inj ei4
  obtain ⟨n, o, h1, h2, h3, _, L, rfl, ⟨rfl, N⟩, hq⟩ := rm0 l s _ hw tables_1 i0 i1 i2 i3 i4  s.heap s.heap.size (Nat.le_refl _)  p e ha hc hk s m _ below hf ((Spec.applies_iff_loose hf).mp happ).1 ⟨rfl, State.Warmed39.refl s, rfl⟩ trivial
  refine ⟨n, _, h1, h2, h3, hpost _ _ _ _ _ _ ⟨Cond.after_iff.mpr rfl, Cond.after_iff.mpr (eq_i res_at (Term.int_eval (1)) rfl), trivial⟩ ⟨hq.1, hq.2.1, (hq.2.2.sift fun y hy => Or.inr (N y hy)).mono (by decide) (by decide)⟩⟩
theorem main_1_1 : Claimed_1_1 := comes_1 fun _ _ _ _ _ _ h hF => ⟨h.1, hF⟩
theorem main_1_2 : Claimed_1_2 := comes_1 fun _ _ _ _ _ _ h hF => ⟨h.2.1, hF⟩
end Jvm.Pilot.@@N@@
namespace Jvm.Pilot.@@N@@
open Jvm Jvm.ClassFile Sem Op Lib Jvm.Free Jvm.Stand Jvm.Pilot.@@N@@.Jvm.D
/-! MADE BY PROGRAM (witnessworld.py) out of the Statement's table words and the real class files: 18 classes; the members and pool entries that the words name. The judged class is class 1, her method 1. -/
namespace start1
open Jvm.ClassFile
def u (s : String) : CpInfo := .utf8 (stringToUtf16 s)
/-- a pool by its gaps: so many unusable entries, then the entry; so many at the end -/
def gap : Nat → List CpInfo → List CpInfo
  | 0, r => r
  | n + 1, r => .unusable :: gap n r
def poolList (es : List (Nat × CpInfo)) (last : Nat) : List CpInfo := es.foldr (fun e r => gap e.1 (e.2 :: r)) (gap last [])
def pool (es : List (Nat × CpInfo)) (last : Nat) : Array CpInfo := ⟨poolList es last⟩
def fileOf (pool : Array CpInfo) (this : Nat) (attrs : Array Attribute := #[]) (ms : Array MethodInfo := #[]) (fl : Nat := 33) (sup : Nat := 0) (ifs : Array Nat := #[]) (fds : Array FieldInfo := #[]) : ClassFile where
  minorVersion := 0
  majorVersion := 65
  constantPool := pool
  accessFlags := fl
  thisClass := this
  superClass := sup
  interfaces := ifs
  fields := fds
  methods := ms
  attributes := attrs
def plain (name : String) (sup : Option ClassId) : Class where
  name := name
  kind := .ordinary
  loader := none
  accessFlags := 33
  super := sup
  interfaces := #[]
  cf := none
  fields := #[]
  methods := #[]
  instanceTypes := #[]
  staticTypes := #[]
  resolved := #[]
  callSites := []
  init := .initialized
  statics := none
  mirror := none

def pool0 : Array CpInfo := pool [(5, u "<init>"), (0, u "()V"), (1, .class_ 10), (1, u "java/lang/Object")] 113

def k0c0 : Code := { maxStack := 0, maxLocals := 1, code := object_method_1_code, exceptionTable := #[], attributes := #[] }
def k0m0 : Method := { name := "<init>", desc := "()V", sig := { parameters := [], returnType := none }, accessFlags := 1, code := some k0c0 }
/-- java/lang/Object -/
def k0 : Class := { plain "java/lang/Object" none with
  accessFlags := 33
  interfaces := #[]
  cf := some (fileOf pool0 8 #[] #[{ accessFlags := 1, nameIndex := 5, descriptorIndex := 6, attributes := #[] }] 33 0 #[] #[])
  fields := #[]
  methods := #[k0m0]
  instanceTypes := #[]
  staticTypes := #[]
  resolved := Array.replicate 124 none
  statics := none }

def pool1 : Array CpInfo := pool [(2, .class_ 4), (1, u "java/lang/Object"), (0, u "<init>"), (0, u "()V"), (0, .class_ 8), (0, u "com/example/fleetwave/fleetwave/model/CacheCost"), (0, .methodref 7 10), (0, .nameAndType 5 11), (0, u "(DDDDD)V"), (0, .methodref 7 13), (0, .nameAndType 14 15), (0, u "of"), (0, u "(DDD)D"), (0, .class_ 17), (0, u "com/example/fleetwave/fleetwave/model/CacheCostOfPinLaw"), (2, u "law"), (0, u "(IIIII)Z")] 3

def k1m0 : Method := { name := "<init>", desc := "()V", sig := { parameters := [], returnType := none }, accessFlags := 1, code := none }
def k1c1 : Code := { maxStack := 12, maxLocals := 31, code := code, exceptionTable := #[], attributes := #[] }
def k1m1 : Method := { name := "law", desc := "(IIIII)Z", sig := { parameters := [.int, .int, .int, .int, .int], returnType := some .boolean }, accessFlags := 9, code := some k1c1 }
/-- com/example/fleetwave/fleetwave/model/CacheCostOfPinLaw -/
def k1 : Class := { plain "com/example/fleetwave/fleetwave/model/CacheCostOfPinLaw" (some 0) with
  accessFlags := 49
  interfaces := #[]
  cf := some (fileOf pool1 16 #[] #[{ accessFlags := 1, nameIndex := 5, descriptorIndex := 6, attributes := #[] }, { accessFlags := 9, nameIndex := 20, descriptorIndex := 21, attributes := #[] }] 49 2 #[] #[])
  fields := #[]
  methods := #[k1m0, k1m1]
  instanceTypes := #[]
  staticTypes := #[]
  resolved := Array.replicate 25 none
  statics := none }

def pool2 : Array CpInfo := pool [(1, .methodref 2 3), (0, .class_ 4), (0, .nameAndType 5 6), (0, u "java/lang/Object"), (0, u "<init>"), (0, u "()V"), (0, .class_ 8), (0, u "java/lang/Record")] 13

def k2c0 : Code := { maxStack := 1, maxLocals := 1, code := jdk_30_method_1_code, exceptionTable := #[], attributes := #[] }
def k2m0 : Method := { name := "<init>", desc := "()V", sig := { parameters := [], returnType := none }, accessFlags := 4, code := some k2c0 }
/-- java/lang/Record -/
def k2 : Class := { plain "java/lang/Record" (some 0) with
  accessFlags := 1057
  interfaces := #[]
  cf := some (fileOf pool2 7 #[] #[{ accessFlags := 4, nameIndex := 5, descriptorIndex := 6, attributes := #[] }] 1057 2 #[] #[])
  fields := #[]
  methods := #[k2m0]
  instanceTypes := #[]
  staticTypes := #[]
  resolved := Array.replicate 22 none
  statics := none }

def pool3 : Array CpInfo := pool [(1, .methodref 2 3), (0, .class_ 4), (0, .nameAndType 5 6), (0, u "java/lang/Record"), (0, u "<init>"), (0, u "()V"), (0, .methodref 8 9), (0, .class_ 10), (0, .nameAndType 11 12), (0, u "java/lang/Double"), (0, u "isInfinite"), (0, u "(D)Z"), (13, .fieldref 27 28), (0, .class_ 29), (0, .nameAndType 30 31), (0, u "com/example/fleetwave/fleetwave/model/CacheCost"), (0, u "maxDelaySeconds"), (0, u "D"), (0, .fieldref 27 33), (0, .nameAndType 34 31), (0, u "maxEnergyJoules"), (0, .fieldref 27 36), (0, .nameAndType 37 31), (0, u "delayWeight"), (0, .fieldref 27 39), (0, .nameAndType 40 31), (0, u "energyWeight"), (0, .fieldref 27 42), (0, .nameAndType 43 31), (0, u "cacheWeight"), (12, u "(DDDDD)V"), (6, u "of"), (0, u "(DDD)D")] 40

def k3c0 : Code := { maxStack := 5, maxLocals := 17, code := prog_31_method_1_code, exceptionTable := #[], attributes := #[] }
def k3m0 : Method := { name := "<init>", desc := "(DDDDD)V", sig := { parameters := [.double, .double, .double, .double, .double], returnType := none }, accessFlags := 1, code := some k3c0 }
def k3c1 : Code := { maxStack := 6, maxLocals := 7, code := prog_31_method_2_code, exceptionTable := #[], attributes := #[] }
def k3m1 : Method := { name := "of", desc := "(DDD)D", sig := { parameters := [.double, .double, .double], returnType := some .double }, accessFlags := 1, code := some k3c1 }
/-- com/example/fleetwave/fleetwave/model/CacheCost -/
def k3 : Class := { plain "com/example/fleetwave/fleetwave/model/CacheCost" (some 2) with
  accessFlags := 49
  interfaces := #[]
  cf := some (fileOf pool3 27 #[] #[{ accessFlags := 1, nameIndex := 5, descriptorIndex := 56, attributes := #[] }, { accessFlags := 1, nameIndex := 63, descriptorIndex := 64, attributes := #[] }] 49 2 #[] #[{ accessFlags := 18, nameIndex := 30, descriptorIndex := 31, attributes := #[] }, { accessFlags := 18, nameIndex := 34, descriptorIndex := 31, attributes := #[] }, { accessFlags := 18, nameIndex := 37, descriptorIndex := 31, attributes := #[] }, { accessFlags := 18, nameIndex := 40, descriptorIndex := 31, attributes := #[] }, { accessFlags := 18, nameIndex := 43, descriptorIndex := 31, attributes := #[] }])
  fields := #[{ name := "maxDelaySeconds", type := .double, accessFlags := 18, slot := 0, constantValue := 0 }, { name := "maxEnergyJoules", type := .double, accessFlags := 18, slot := 1, constantValue := 0 }, { name := "delayWeight", type := .double, accessFlags := 18, slot := 2, constantValue := 0 }, { name := "energyWeight", type := .double, accessFlags := 18, slot := 3, constantValue := 0 }, { name := "cacheWeight", type := .double, accessFlags := 18, slot := 4, constantValue := 0 }]
  methods := #[k3m0, k3m1]
  instanceTypes := #[.double, .double, .double, .double, .double]
  staticTypes := #[]
  resolved := Array.replicate 105 none
  statics := none }

def pool4 : Array CpInfo := pool [(1, .class_ 2), (0, u "java/io/Serializable"), (0, .class_ 4), (0, u "java/lang/Object")] 2

/-- java/io/Serializable -/
def k4 : Class := { plain "java/io/Serializable" (some 0) with
  accessFlags := 1537
  interfaces := #[]
  cf := some (fileOf pool4 1 #[] #[] 1537 3 #[] #[])
  fields := #[]
  methods := #[]
  instanceTypes := #[]
  staticTypes := #[]
  resolved := Array.replicate 7 none
  statics := none }

def pool5 : Array CpInfo := pool [(2, .class_ 4), (1, u "java/lang/Object"), (0, u "<init>"), (0, u "()V"), (1, .class_ 10), (1, u "java/lang/Number"), (2, .class_ 14), (0, u "java/io/Serializable"), (0, u "serialVersionUID"), (0, u "J")] 20

def k5m0 : Method := { name := "<init>", desc := "()V", sig := { parameters := [], returnType := none }, accessFlags := 1, code := none }
/-- java/lang/Number -/
def k5 : Class := { plain "java/lang/Number" (some 0) with
  accessFlags := 1057
  interfaces := #[4]
  cf := some (fileOf pool5 8 #[] #[{ accessFlags := 1, nameIndex := 5, descriptorIndex := 6, attributes := #[] }] 1057 2 #[13] #[{ accessFlags := 26, nameIndex := 15, descriptorIndex := 16, attributes := #[] }])
  fields := #[{ name := "serialVersionUID", type := .long, accessFlags := 26, slot := 0, constantValue := 0 }]
  methods := #[k5m0]
  instanceTypes := #[]
  staticTypes := #[.long]
  resolved := Array.replicate 37 none
  statics := none }

def pool6 : Array CpInfo := pool [(1, .class_ 2), (0, u "java/lang/Comparable"), (0, .class_ 4), (0, u "java/lang/Object")] 7

/-- java/lang/Comparable -/
def k6 : Class := { plain "java/lang/Comparable" (some 0) with
  accessFlags := 1537
  interfaces := #[]
  cf := some (fileOf pool6 1 #[] #[] 1537 3 #[] #[])
  fields := #[]
  methods := #[]
  instanceTypes := #[]
  staticTypes := #[]
  resolved := Array.replicate 12 none
  statics := none }

def pool7 : Array CpInfo := pool [(1, .class_ 2), (0, u "java/lang/constant/Constable"), (0, .class_ 4), (0, u "java/lang/Object")] 6

/-- java/lang/constant/Constable -/
def k7 : Class := { plain "java/lang/constant/Constable" (some 0) with
  accessFlags := 1537
  interfaces := #[]
  cf := some (fileOf pool7 1 #[] #[] 1537 3 #[] #[])
  fields := #[]
  methods := #[]
  instanceTypes := #[]
  staticTypes := #[]
  resolved := Array.replicate 11 none
  statics := none }

def pool8 : Array CpInfo := pool [(1, .class_ 2), (0, u "java/lang/constant/ConstantDesc"), (0, .class_ 4), (0, u "java/lang/Object")] 32

/-- java/lang/constant/ConstantDesc -/
def k8 : Class := { plain "java/lang/constant/ConstantDesc" (some 0) with
  accessFlags := 1537
  interfaces := #[]
  cf := some (fileOf pool8 1 #[] #[] 1537 3 #[] #[])
  fields := #[]
  methods := #[]
  instanceTypes := #[]
  staticTypes := #[]
  resolved := Array.replicate 37 none
  statics := none }

def pool9 : Array CpInfo := pool [(1, .class_ 2), (0, u "java/lang/Double"), (11, u "(D)Z"), (8, .class_ 25), (1, u "java/lang/Math"), (12, .methodref 23 39), (0, .nameAndType 40 41), (0, u "abs"), (0, u "(D)D"), (69, .double 9218868437227405311), (2, .class_ 116), (1, u "java/lang/Number"), (3, u "value"), (0, u "D"), (5, u "isInfinite"), (45, u "TYPE"), (0, u "Ljava/lang/Class;"), (0, .class_ 176), (0, u "java/lang/Comparable"), (0, .class_ 178), (0, u "java/lang/constant/Constable"), (0, .class_ 180), (0, u "java/lang/constant/ConstantDesc"), (0, u "POSITIVE_INFINITY"), (3, u "NEGATIVE_INFINITY"), (2, u "NaN"), (2, u "MAX_VALUE"), (0, u "MIN_NORMAL"), (0, u "MIN_VALUE"), (2, u "SIZE"), (0, u "I"), (1, u "PRECISION"), (1, u "MAX_EXPONENT"), (1, u "MIN_EXPONENT"), (1, u "BYTES"), (3, u "serialVersionUID"), (0, u "J")] 79

def k9c0 : Code := { maxStack := 4, maxLocals := 2, code := jdk_117_method_7_code, exceptionTable := #[], attributes := #[] }
def k9m0 : Method := { name := "isInfinite", desc := "(D)Z", sig := { parameters := [.double], returnType := some .boolean }, accessFlags := 9, code := some k9c0 }
/-- java/lang/Double -/
def k9 : Class := { plain "java/lang/Double" (some 5) with
  accessFlags := 49
  interfaces := #[6, 7, 8]
  cf := some (fileOf pool9 1 #[] #[{ accessFlags := 9, nameIndex := 127, descriptorIndex := 14, attributes := #[] }] 49 114 #[175, 177, 179] #[{ accessFlags := 25, nameIndex := 181, descriptorIndex := 121, attributes := #[] }, { accessFlags := 25, nameIndex := 185, descriptorIndex := 121, attributes := #[] }, { accessFlags := 25, nameIndex := 188, descriptorIndex := 121, attributes := #[] }, { accessFlags := 25, nameIndex := 191, descriptorIndex := 121, attributes := #[] }, { accessFlags := 25, nameIndex := 192, descriptorIndex := 121, attributes := #[] }, { accessFlags := 25, nameIndex := 193, descriptorIndex := 121, attributes := #[] }, { accessFlags := 25, nameIndex := 196, descriptorIndex := 197, attributes := #[] }, { accessFlags := 25, nameIndex := 199, descriptorIndex := 197, attributes := #[] }, { accessFlags := 25, nameIndex := 201, descriptorIndex := 197, attributes := #[] }, { accessFlags := 25, nameIndex := 203, descriptorIndex := 197, attributes := #[] }, { accessFlags := 25, nameIndex := 205, descriptorIndex := 197, attributes := #[] }, { accessFlags := 25, nameIndex := 173, descriptorIndex := 174, attributes := #[] }, { accessFlags := 18, nameIndex := 120, descriptorIndex := 121, attributes := #[] }, { accessFlags := 26, nameIndex := 209, descriptorIndex := 210, attributes := #[] }])
  fields := #[{ name := "POSITIVE_INFINITY", type := .double, accessFlags := 25, slot := 0, constantValue := 0 }, { name := "NEGATIVE_INFINITY", type := .double, accessFlags := 25, slot := 1, constantValue := 0 }, { name := "NaN", type := .double, accessFlags := 25, slot := 2, constantValue := 0 }, { name := "MAX_VALUE", type := .double, accessFlags := 25, slot := 3, constantValue := 0 }, { name := "MIN_NORMAL", type := .double, accessFlags := 25, slot := 4, constantValue := 0 }, { name := "MIN_VALUE", type := .double, accessFlags := 25, slot := 5, constantValue := 0 }, { name := "SIZE", type := .int, accessFlags := 25, slot := 6, constantValue := 0 }, { name := "PRECISION", type := .int, accessFlags := 25, slot := 7, constantValue := 0 }, { name := "MAX_EXPONENT", type := .int, accessFlags := 25, slot := 8, constantValue := 0 }, { name := "MIN_EXPONENT", type := .int, accessFlags := 25, slot := 9, constantValue := 0 }, { name := "BYTES", type := .int, accessFlags := 25, slot := 10, constantValue := 0 }, { name := "TYPE", type := (.object "java/lang/Class"), accessFlags := 25, slot := 11, constantValue := 0 }, { name := "value", type := .double, accessFlags := 18, slot := 0, constantValue := 0 }, { name := "serialVersionUID", type := .long, accessFlags := 26, slot := 12, constantValue := 0 }]
  methods := #[k9m0]
  instanceTypes := #[.double]
  staticTypes := #[.double, .double, .double, .double, .double, .double, .int, .int, .int, .int, .int, (.object "java/lang/Class"), .long]
  resolved := Array.replicate 290 none
  statics := none }

def pool10 : Array CpInfo := pool [(1, .class_ 2), (0, u "java/lang/Math"), (1, .class_ 6), (1, u "java/lang/Object"), (0, u "<init>"), (0, u "()V"), (5, u "(D)D"), (83, .class_ 100), (1, u "java/lang/Math$RandomNumberGeneratorHolder"), (23, u "abs"), (47, u "negativeZeroFloatBits"), (0, u "J"), (2, u "negativeZeroDoubleBits"), (68, u "$assertionsDisabled"), (0, u "Z"), (91, u "twoToTheDoubleScaleDown"), (0, u "D"), (4, u "twoToTheDoubleScaleUp"), (9, u "E"), (3, u "PI"), (2, u "TAU"), (2, u "DEGREES_TO_RADIANS"), (0, u "RADIANS_TO_DEGREES")] 94

def k10m0 : Method := { name := "<init>", desc := "()V", sig := { parameters := [], returnType := none }, accessFlags := 2, code := none }
def k10c1 : Code := { maxStack := 4, maxLocals := 2, code := jdk_29_method_64_code, exceptionTable := #[], attributes := #[] }
def k10m1 : Method := { name := "abs", desc := "(D)D", sig := { parameters := [.double], returnType := some .double }, accessFlags := 9, code := some k10c1 }
/-- java/lang/Math -/
def k10 : Class := { plain "java/lang/Math" (some 0) with
  accessFlags := 49
  interfaces := #[]
  cf := some (fileOf pool10 1 #[.nestMembers #[98]] #[{ accessFlags := 2, nameIndex := 7, descriptorIndex := 8, attributes := #[] }, { accessFlags := 9, nameIndex := 124, descriptorIndex := 14, attributes := #[] }] 49 4 #[] #[{ accessFlags := 25, nameIndex := 354, descriptorIndex := 339, attributes := #[] }, { accessFlags := 25, nameIndex := 358, descriptorIndex := 339, attributes := #[] }, { accessFlags := 25, nameIndex := 361, descriptorIndex := 339, attributes := #[] }, { accessFlags := 26, nameIndex := 364, descriptorIndex := 339, attributes := #[] }, { accessFlags := 26, nameIndex := 365, descriptorIndex := 339, attributes := #[] }, { accessFlags := 26, nameIndex := 172, descriptorIndex := 173, attributes := #[] }, { accessFlags := 26, nameIndex := 176, descriptorIndex := 173, attributes := #[] }, { accessFlags := 8, nameIndex := 344, descriptorIndex := 339, attributes := #[] }, { accessFlags := 8, nameIndex := 338, descriptorIndex := 339, attributes := #[] }, { accessFlags := 4120, nameIndex := 245, descriptorIndex := 246, attributes := #[] }])
  fields := #[{ name := "E", type := .double, accessFlags := 25, slot := 0, constantValue := 0 }, { name := "PI", type := .double, accessFlags := 25, slot := 1, constantValue := 0 }, { name := "TAU", type := .double, accessFlags := 25, slot := 2, constantValue := 0 }, { name := "DEGREES_TO_RADIANS", type := .double, accessFlags := 26, slot := 3, constantValue := 0 }, { name := "RADIANS_TO_DEGREES", type := .double, accessFlags := 26, slot := 4, constantValue := 0 }, { name := "negativeZeroFloatBits", type := .long, accessFlags := 26, slot := 5, constantValue := 0 }, { name := "negativeZeroDoubleBits", type := .long, accessFlags := 26, slot := 6, constantValue := 0 }, { name := "twoToTheDoubleScaleUp", type := .double, accessFlags := 8, slot := 7, constantValue := 0 }, { name := "twoToTheDoubleScaleDown", type := .double, accessFlags := 8, slot := 8, constantValue := 0 }, { name := "$assertionsDisabled", type := .boolean, accessFlags := 4120, slot := 9, constantValue := 0 }]
  methods := #[k10m0, k10m1]
  instanceTypes := #[]
  staticTypes := #[.double, .double, .double, .double, .double, .long, .long, .double, .double, .boolean]
  resolved := Array.replicate 460 none
  statics := none }

def pool11 : Array CpInfo := pool [(1, u "java/lang/Cloneable"), (0, .class_ 1), (0, u "java/lang/Object"), (0, .class_ 3)] 3

/-- java/lang/Cloneable -/
def k11 : Class := { plain "java/lang/Cloneable" (some 0) with
  accessFlags := 1537
  interfaces := #[]
  cf := some (fileOf pool11 2 #[] #[] 1537 4 #[] #[])
  fields := #[]
  methods := #[]
  instanceTypes := #[]
  staticTypes := #[]
  resolved := Array.replicate 8 none
  statics := none }

/-- the primitive byte -/
def k12 : Class := { plain "byte" none with kind := .primitive 'B', accessFlags := 0x411 }
/-- [B -/
def k13 : Class := { plain "[B" (some 0) with kind := .array 12 .byte, interfaces := #[11, 4], accessFlags := 1041 }

/-- the primitive double -/
def k14 : Class := { plain "double" none with kind := .primitive 'D', accessFlags := 0x411 }
/-- [D -/
def k15 : Class := { plain "[D" (some 0) with kind := .array 14 .double, interfaces := #[11, 4], accessFlags := 1041 }

/-- the primitive int -/
def k16 : Class := { plain "int" none with kind := .primitive 'I', accessFlags := 0x411 }
/-- [I -/
def k17 : Class := { plain "[I" (some 0) with kind := .array 16 .int, interfaces := #[11, 4], accessFlags := 1041 }

def heap : Heap := #[]
def classes : Array Class := #[k0, k1, k2, k3, k4, k5, k6, k7, k8, k9, k10, k11, k12, k13, k14, k15, k16, k17]
def interned : List (Array UInt16 × Addr) := []
def slotsUsed : Nat := 0
def theMethod : MethodId := ⟨1, 1⟩
def args0 : Array Value := #[.int 5, .int 5, .int 5, .int 5, .int 5]
def aboutOver (below : List Frame) : State where
  vm := { classes := classes, interned := interned.toArray }
  heap := heap
  slotsUsed := slotsUsed
  threads := #[{ frames := .invoking theMethod args0 :: below }]
def below0 : List Frame := [.native { method := ⟨0, 0⟩, args := #[] }]
def about1 : State := aboutOver below0
def p0 : Program := .bare "" "" ""
def e0 : Env := launch0.env 0 0 0
theorem w_frames : about1.frames = Frame.invoking theMethod args0 :: below0 := rfl
set_option maxRecDepth 65536 in
theorem w_args : argsFit about1.vm theMethod args0 = true := by decide +kernel
set_option maxRecDepth 65536 in
theorem w_heap : heapFits about1 = true := by decide +kernel
set_option maxRecDepth 65536 in
theorem w_runnable : about1.curStatus? = some .runnable := by decide +kernel
set_option maxRecDepth 65536 in
theorem w_alone : about1.alone = true := by decide +kernel
set_option maxRecDepth 65536 in
theorem w_named : about1.methodNamed? x = some theMethod := by decide +kernel
set_option maxRecDepth 65536 in
theorem w_hears : about1.hears theMethod below0 = true := by decide +kernel
set_option maxRecDepth 65536 in
theorem w_ripe : about1.ripe theMethod args0 below0 = true := by decide +kernel
theorem w_running : about1.status = .running := rfl
set_option maxRecDepth 65536 in
theorem w_room : about1.hasRoom e0.platform room_1 = true :=
  launch0.hasRoom_least _ room_1 (by decide +kernel) (by decide +kernel) (by decide +kernel) (by decide +kernel) (by decide +kernel) (by decide +kernel)
theorem allAtoms_all (ts : List Jvm.Cond) (a : Array Jvm.Value) (st : Jvm.State) : (allAtoms ts).before a st = ts.all (fun c => c.before a st) := by
  induction ts with
  | nil => rfl
  | cons c t ih =>
    show (Jvm.Cond.and c (allAtoms t)).before a st = _
    rw [Jvm.Cond.before_and, ih, List.all_cons]
def words1 : List Jvm.Cond := Jvm.Cond.code x code maxLocals ret :: tables_1
/-- a 'code' word, met by the world's own term for the bytes: nothing is compared byte by byte -/
theorem code_word {y : MethodName} {bytes : ByteArray} {mx : Nat} {rt : Option FieldType} {a : Array Value} {s : State} {m : MethodId} {meth : Method} {c : Code} (h1 : s.methodNamed? y = some m) (h2 : s.vm.method? m = some meth) (h3 : meth.code = some c) (h4 : c.code = bytes)
    (h5 : (c.maxLocals == mx && c.exceptionTable.isEmpty && decide (c.maxStack ≤ mostOperands) && decide (meth.sig.returnType = rt) && !meth.locks && decide (parseMethodDescriptor y.desc = some meth.sig)) = true) : (Jvm.Cond.code y bytes mx rt).before a s = true := by
  simp only [Bool.and_eq_true, beq_iff_eq, Bool.not_eq_true', decide_eq_true_eq] at h5
  obtain ⟨⟨⟨⟨⟨g1, g2⟩, g3⟩, g4⟩, g5⟩, g6⟩ := h5
  simp [Cond.before, Cond.holds, Cond.value, h1, h2, h3, h4, g1, g2, g3, g4, g5, g6]
def isCode : Jvm.Cond → Bool
  | .code _ _ _ _ => true
  | _ => false
theorem all_split {L : List Jvm.Cond} {P : Jvm.Cond → Bool} (h1 : L.all (fun c => isCode c || P c) = true) (h2 : ∀ c ∈ L.filter isCode, P c = true) : L.all P = true := by
  refine List.all_eq_true.mpr fun c hc => ?_
  have h := List.all_eq_true.mp h1 c hc
  rcases Bool.eq_false_or_eq_true (isCode c) with hi | hi
  · exact h2 c (List.mem_filter.mpr ⟨hc, hi⟩)
  · simpa [hi] using h
set_option maxRecDepth 65536 in
theorem w_c0 : (Jvm.Cond.code x code maxLocals ret).before args0 about1 = true := code_word (m := ⟨1, 1⟩) (meth := k1m1) (c := k1c1) (by decide +kernel) rfl rfl rfl (by decide +kernel)
set_option maxRecDepth 65536 in
theorem w_c1 : (Jvm.Cond.code ({ cls := "com/example/fleetwave/fleetwave/model/CacheCost", name := "<init>", desc := "(DDDDD)V" } : Jvm.MethodName) prog_31_method_1_code (17 : Nat) (Option.none : Option Jvm.ClassFile.FieldType)).before args0 about1 = true := code_word (m := ⟨3, 0⟩) (meth := k3m0) (c := k3c0) (by decide +kernel) rfl rfl rfl (by decide +kernel)
set_option maxRecDepth 65536 in
theorem w_c2 : (Jvm.Cond.code ({ cls := "java/lang/Record", name := "<init>", desc := "()V" } : Jvm.MethodName) jdk_30_method_1_code (1 : Nat) (Option.none : Option Jvm.ClassFile.FieldType)).before args0 about1 = true := code_word (m := ⟨2, 0⟩) (meth := k2m0) (c := k2c0) (by decide +kernel) rfl rfl rfl (by decide +kernel)
set_option maxRecDepth 65536 in
theorem w_c3 : (Jvm.Cond.code ({ cls := "java/lang/Object", name := "<init>", desc := "()V" } : Jvm.MethodName) object_method_1_code (1 : Nat) (Option.none : Option Jvm.ClassFile.FieldType)).before args0 about1 = true := code_word (m := ⟨0, 0⟩) (meth := k0m0) (c := k0c0) (by decide +kernel) rfl rfl rfl (by decide +kernel)
set_option maxRecDepth 65536 in
theorem w_c4 : (Jvm.Cond.code ({ cls := "java/lang/Double", name := "isInfinite", desc := "(D)Z" } : Jvm.MethodName) jdk_117_method_7_code (2 : Nat) (Option.some Jvm.ClassFile.FieldType.boolean)).before args0 about1 = true := code_word (m := ⟨9, 0⟩) (meth := k9m0) (c := k9c0) (by decide +kernel) rfl rfl rfl (by decide +kernel)
set_option maxRecDepth 65536 in
theorem w_c5 : (Jvm.Cond.code ({ cls := "java/lang/Math", name := "abs", desc := "(D)D" } : Jvm.MethodName) jdk_29_method_64_code (2 : Nat) (Option.some Jvm.ClassFile.FieldType.double)).before args0 about1 = true := code_word (m := ⟨10, 1⟩) (meth := k10m1) (c := k10c1) (by decide +kernel) rfl rfl rfl (by decide +kernel)
set_option maxRecDepth 65536 in
theorem w_c6 : (Jvm.Cond.code ({ cls := "com/example/fleetwave/fleetwave/model/CacheCost", name := "of", desc := "(DDD)D" } : Jvm.MethodName) prog_31_method_2_code (7 : Nat) (Option.some Jvm.ClassFile.FieldType.double)).before args0 about1 = true := code_word (m := ⟨3, 1⟩) (meth := k3m1) (c := k3c1) (by decide +kernel) rfl rfl rfl (by decide +kernel)
def codes1 : List Jvm.Cond := [Jvm.Cond.code x code maxLocals ret, Jvm.Cond.code ({ cls := "com/example/fleetwave/fleetwave/model/CacheCost", name := "<init>", desc := "(DDDDD)V" } : Jvm.MethodName) prog_31_method_1_code (17 : Nat) (Option.none : Option Jvm.ClassFile.FieldType), Jvm.Cond.code ({ cls := "java/lang/Record", name := "<init>", desc := "()V" } : Jvm.MethodName) jdk_30_method_1_code (1 : Nat) (Option.none : Option Jvm.ClassFile.FieldType), Jvm.Cond.code ({ cls := "java/lang/Object", name := "<init>", desc := "()V" } : Jvm.MethodName) object_method_1_code (1 : Nat) (Option.none : Option Jvm.ClassFile.FieldType), Jvm.Cond.code ({ cls := "java/lang/Double", name := "isInfinite", desc := "(D)Z" } : Jvm.MethodName) jdk_117_method_7_code (2 : Nat) (Option.some Jvm.ClassFile.FieldType.boolean), Jvm.Cond.code ({ cls := "java/lang/Math", name := "abs", desc := "(D)D" } : Jvm.MethodName) jdk_29_method_64_code (2 : Nat) (Option.some Jvm.ClassFile.FieldType.double), Jvm.Cond.code ({ cls := "com/example/fleetwave/fleetwave/model/CacheCost", name := "of", desc := "(DDD)D" } : Jvm.MethodName) prog_31_method_2_code (7 : Nat) (Option.some Jvm.ClassFile.FieldType.double)]
set_option maxRecDepth 65536 in
theorem codes_eq : words1.filter isCode = codes1 := rfl
theorem w_codes : ∀ c ∈ words1.filter isCode, c.before args0 about1 = true := by
  rw [codes_eq]
  intro c hc
  simp only [codes1, List.mem_cons, List.not_mem_nil, or_false] at hc
  rcases hc with rfl | rfl | rfl | rfl | rfl | rfl | rfl
  · exact w_c0
  · exact w_c1
  · exact w_c2
  · exact w_c3
  · exact w_c4
  · exact w_c5
  · exact w_c6
set_option maxRecDepth 65536 in
theorem w_t1 : (words1.take 24).all (fun c => isCode c || c.before args0 about1) = true := by decide +kernel
set_option maxRecDepth 65536 in
theorem w_t2 : (words1.drop 24).all (fun c => isCode c || c.before args0 about1) = true := by decide +kernel
theorem w_tables : (allAtoms (Jvm.Cond.code x code maxLocals ret :: tables_1)).before args0 about1 = true := by
  rw [allAtoms_all]
  show words1.all (fun c => c.before args0 about1) = true
  refine all_split ?_ w_codes
  rw [← List.take_append_drop 24 words1, List.all_append, w_t1, w_t2]
  rfl
set_option maxRecDepth 65536 in
theorem w_case : (Jvm.Cond.and given_1 narrow_1).before args0 about1 = true := by decide +kernel
theorem w_applies : (headSpec (Jvm.Cond.code x code maxLocals ret :: tables_1) room_1).applies x e0.platform about1 = true :=
  (Spec.applies_iff w_frames).mpr ⟨w_running, w_runnable, w_alone, w_named, w_hears, w_ripe, w_room, w_tables⟩
theorem atStart : AtStart classFile x code maxLocals ret World_1 tables_1 room_1 Calls_1 rest_1 Pre_1 launch0 p0 e0 about1 theMethod args0 below0 :=
  ⟨lists_1, trivial, launch0.admits_env _ _ _, launch0.least_env, fairChoices_fair.cas, fairChoices_fair.clock, w_frames, w_args, w_heap, w_applies, trivial, trivial, w_case⟩
end start1
theorem witness_1 : WitnessClaimed_1 := ⟨start1.p0, start1.e0, start1.about1, start1.theMethod, start1.args0, start1.below0, start1.atStart⟩
end Jvm.Pilot.@@N@@
