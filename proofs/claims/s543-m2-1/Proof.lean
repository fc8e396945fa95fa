import JvmDerived
import JvmDerived.Pilot.@@N@@Statement
import JvmDerived.Pilot.@@N@@Code
set_option linter.unusedVariables false
set_option linter.unusedSimpArgs false
set_option maxHeartbeats 4000000
namespace Jvm.OwnK
open Sem ClassFile Op Lib Jvm.Free Jvm.Stand Jvm.LawKit Jvm.RoadKit
theorem iadd {tb : Tables} [Ours tb] {e : Env} {below : List Frame} {T target : State} {m : MethodId} {c : Code} {g : JFrame} (h : At T m c below) (hx : tb.exec = Jvm.exec) (hg : g.method = m) {x v : Int32} {y : Int32} {rest : List Value} (hd : decode c.code g.pc = .ok (.iadd, 1)) (hs : g.stack = .int y :: .int x :: rest) (hv : x + y = v)
    (hr : Steps tb e below (T.setTop { g with pc := g.pc + 1, stack := .int v :: rest }) target) : Steps tb e below (T.setTop g) target := by
  subst hv
  exact XS.iadd h hx hg hd hs hr
theorem isub {tb : Tables} [Ours tb] {e : Env} {below : List Frame} {T target : State} {m : MethodId} {c : Code} {g : JFrame} (h : At T m c below) (hx : tb.exec = Jvm.exec) (hg : g.method = m) {x v : Int32} {y : Int32} {rest : List Value} (hd : decode c.code g.pc = .ok (.isub, 1)) (hs : g.stack = .int y :: .int x :: rest) (hv : x - y = v)
    (hr : Steps tb e below (T.setTop { g with pc := g.pc + 1, stack := .int v :: rest }) target) : Steps tb e below (T.setTop g) target := by
  subst hv
  exact XS.isub h hx hg hd hs hr
theorem imul {tb : Tables} [Ours tb] {e : Env} {below : List Frame} {T target : State} {m : MethodId} {c : Code} {g : JFrame} (h : At T m c below) (hx : tb.exec = Jvm.exec) (hg : g.method = m) {x v : Int32} {y : Int32} {rest : List Value} (hd : decode c.code g.pc = .ok (.imul, 1)) (hs : g.stack = .int y :: .int x :: rest) (hv : x * y = v)
    (hr : Steps tb e below (T.setTop { g with pc := g.pc + 1, stack := .int v :: rest }) target) : Steps tb e below (T.setTop g) target := by
  subst hv
  exact XS.imul h hx hg hd hs hr
theorem iand {tb : Tables} [Ours tb] {e : Env} {below : List Frame} {T target : State} {m : MethodId} {c : Code} {g : JFrame} (h : At T m c below) (hx : tb.exec = Jvm.exec) (hg : g.method = m) {x v : Int32} {y : Int32} {rest : List Value} (hd : decode c.code g.pc = .ok (.iand, 1)) (hs : g.stack = .int y :: .int x :: rest) (hv : x &&& y = v)
    (hr : Steps tb e below (T.setTop { g with pc := g.pc + 1, stack := .int v :: rest }) target) : Steps tb e below (T.setTop g) target := by
  subst hv
  exact XS.iand h hx hg hd hs hr
theorem ior {tb : Tables} [Ours tb] {e : Env} {below : List Frame} {T target : State} {m : MethodId} {c : Code} {g : JFrame} (h : At T m c below) (hx : tb.exec = Jvm.exec) (hg : g.method = m) {x v : Int32} {y : Int32} {rest : List Value} (hd : decode c.code g.pc = .ok (.ior, 1)) (hs : g.stack = .int y :: .int x :: rest) (hv : x ||| y = v)
    (hr : Steps tb e below (T.setTop { g with pc := g.pc + 1, stack := .int v :: rest }) target) : Steps tb e below (T.setTop g) target := by
  subst hv
  exact XS.ior h hx hg hd hs hr
theorem ixor {tb : Tables} [Ours tb] {e : Env} {below : List Frame} {T target : State} {m : MethodId} {c : Code} {g : JFrame} (h : At T m c below) (hx : tb.exec = Jvm.exec) (hg : g.method = m) {x v : Int32} {y : Int32} {rest : List Value} (hd : decode c.code g.pc = .ok (.ixor, 1)) (hs : g.stack = .int y :: .int x :: rest) (hv : x ^^^ y = v)
    (hr : Steps tb e below (T.setTop { g with pc := g.pc + 1, stack := .int v :: rest }) target) : Steps tb e below (T.setTop g) target := by
  subst hv
  exact XS.ixor h hx hg hd hs hr
theorem ishl {tb : Tables} [Ours tb] {e : Env} {below : List Frame} {T target : State} {m : MethodId} {c : Code} {g : JFrame} (h : At T m c below) (hx : tb.exec = Jvm.exec) (hg : g.method = m) {x v : Int32} {y : Int32} {rest : List Value} (hd : decode c.code g.pc = .ok (.ishl, 1)) (hs : g.stack = .int y :: .int x :: rest) (hv : x <<< (y &&& 31) = v)
    (hr : Steps tb e below (T.setTop { g with pc := g.pc + 1, stack := .int v :: rest }) target) : Steps tb e below (T.setTop g) target := by
  subst hv
  exact XS.ishl h hx hg hd hs hr
theorem ishr {tb : Tables} [Ours tb] {e : Env} {below : List Frame} {T target : State} {m : MethodId} {c : Code} {g : JFrame} (h : At T m c below) (hx : tb.exec = Jvm.exec) (hg : g.method = m) {x v : Int32} {y : Int32} {rest : List Value} (hd : decode c.code g.pc = .ok (.ishr, 1)) (hs : g.stack = .int y :: .int x :: rest) (hv : x >>> (y &&& 31) = v)
    (hr : Steps tb e below (T.setTop { g with pc := g.pc + 1, stack := .int v :: rest }) target) : Steps tb e below (T.setTop g) target := by
  subst hv
  exact XS.ishr h hx hg hd hs hr
theorem iushr {tb : Tables} [Ours tb] {e : Env} {below : List Frame} {T target : State} {m : MethodId} {c : Code} {g : JFrame} (h : At T m c below) (hx : tb.exec = Jvm.exec) (hg : g.method = m) {x v : Int32} {y : Int32} {rest : List Value} (hd : decode c.code g.pc = .ok (.iushr, 1)) (hs : g.stack = .int y :: .int x :: rest) (hv : (x.toUInt32 >>> (y &&& 31).toUInt32).toInt32 = v)
    (hr : Steps tb e below (T.setTop { g with pc := g.pc + 1, stack := .int v :: rest }) target) : Steps tb e below (T.setTop g) target := by
  subst hv
  exact XS.iushr h hx hg hd hs hr
theorem idiv {tb : Tables} [Ours tb] {e : Env} {below : List Frame} {T target : State} {m : MethodId} {c : Code} {g : JFrame} (h : At T m c below) (hx : tb.exec = Jvm.exec) (hg : g.method = m) {x v : Int32} {y : Int32} {rest : List Value} (hd : decode c.code g.pc = .ok (.idiv, 1)) (hs : g.stack = .int y :: .int x :: rest) (hy : ¬ y = 0) (hv : x / y = v)
    (hr : Steps tb e below (T.setTop { g with pc := g.pc + 1, stack := .int v :: rest }) target) : Steps tb e below (T.setTop g) target := by
  subst hv
  exact XS.idiv h hx hg hd hs hy hr
theorem irem {tb : Tables} [Ours tb] {e : Env} {below : List Frame} {T target : State} {m : MethodId} {c : Code} {g : JFrame} (h : At T m c below) (hx : tb.exec = Jvm.exec) (hg : g.method = m) {x v : Int32} {y : Int32} {rest : List Value} (hd : decode c.code g.pc = .ok (.irem, 1)) (hs : g.stack = .int y :: .int x :: rest) (hy : ¬ y = 0) (hv : x % y = v)
    (hr : Steps tb e below (T.setTop { g with pc := g.pc + 1, stack := .int v :: rest }) target) : Steps tb e below (T.setTop g) target := by
  subst hv
  have q : x - x / y * y = x % y := irem_eq_mod x y
  exact XS.irem h hx hg hd hs hy (by rw [q]; exact hr)
theorem ladd {tb : Tables} [Ours tb] {e : Env} {below : List Frame} {T target : State} {m : MethodId} {c : Code} {g : JFrame} (h : At T m c below) (hx : tb.exec = Jvm.exec) (hg : g.method = m) {x v : Int64} {y : Int64} {rest : List Value} (hd : decode c.code g.pc = .ok (.ladd, 1)) (hs : g.stack = .long y :: .long x :: rest) (hv : x + y = v)
    (hr : Steps tb e below (T.setTop { g with pc := g.pc + 1, stack := .long v :: rest }) target) : Steps tb e below (T.setTop g) target := by
  subst hv
  exact XS.ladd h hx hg hd hs hr
theorem lsub {tb : Tables} [Ours tb] {e : Env} {below : List Frame} {T target : State} {m : MethodId} {c : Code} {g : JFrame} (h : At T m c below) (hx : tb.exec = Jvm.exec) (hg : g.method = m) {x v : Int64} {y : Int64} {rest : List Value} (hd : decode c.code g.pc = .ok (.lsub, 1)) (hs : g.stack = .long y :: .long x :: rest) (hv : x - y = v)
    (hr : Steps tb e below (T.setTop { g with pc := g.pc + 1, stack := .long v :: rest }) target) : Steps tb e below (T.setTop g) target := by
  subst hv
  exact XS.lsub h hx hg hd hs hr
theorem lmul {tb : Tables} [Ours tb] {e : Env} {below : List Frame} {T target : State} {m : MethodId} {c : Code} {g : JFrame} (h : At T m c below) (hx : tb.exec = Jvm.exec) (hg : g.method = m) {x v : Int64} {y : Int64} {rest : List Value} (hd : decode c.code g.pc = .ok (.lmul, 1)) (hs : g.stack = .long y :: .long x :: rest) (hv : x * y = v)
    (hr : Steps tb e below (T.setTop { g with pc := g.pc + 1, stack := .long v :: rest }) target) : Steps tb e below (T.setTop g) target := by
  subst hv
  exact XS.lmul h hx hg hd hs hr
theorem land {tb : Tables} [Ours tb] {e : Env} {below : List Frame} {T target : State} {m : MethodId} {c : Code} {g : JFrame} (h : At T m c below) (hx : tb.exec = Jvm.exec) (hg : g.method = m) {x v : Int64} {y : Int64} {rest : List Value} (hd : decode c.code g.pc = .ok (.land, 1)) (hs : g.stack = .long y :: .long x :: rest) (hv : x &&& y = v)
    (hr : Steps tb e below (T.setTop { g with pc := g.pc + 1, stack := .long v :: rest }) target) : Steps tb e below (T.setTop g) target := by
  subst hv
  exact XS.land h hx hg hd hs hr
theorem lor {tb : Tables} [Ours tb] {e : Env} {below : List Frame} {T target : State} {m : MethodId} {c : Code} {g : JFrame} (h : At T m c below) (hx : tb.exec = Jvm.exec) (hg : g.method = m) {x v : Int64} {y : Int64} {rest : List Value} (hd : decode c.code g.pc = .ok (.lor, 1)) (hs : g.stack = .long y :: .long x :: rest) (hv : x ||| y = v)
    (hr : Steps tb e below (T.setTop { g with pc := g.pc + 1, stack := .long v :: rest }) target) : Steps tb e below (T.setTop g) target := by
  subst hv
  exact XS.lor h hx hg hd hs hr
theorem lxor {tb : Tables} [Ours tb] {e : Env} {below : List Frame} {T target : State} {m : MethodId} {c : Code} {g : JFrame} (h : At T m c below) (hx : tb.exec = Jvm.exec) (hg : g.method = m) {x v : Int64} {y : Int64} {rest : List Value} (hd : decode c.code g.pc = .ok (.lxor, 1)) (hs : g.stack = .long y :: .long x :: rest) (hv : x ^^^ y = v)
    (hr : Steps tb e below (T.setTop { g with pc := g.pc + 1, stack := .long v :: rest }) target) : Steps tb e below (T.setTop g) target := by
  subst hv
  exact XS.lxor h hx hg hd hs hr
theorem lshl {tb : Tables} [Ours tb] {e : Env} {below : List Frame} {T target : State} {m : MethodId} {c : Code} {g : JFrame} (h : At T m c below) (hx : tb.exec = Jvm.exec) (hg : g.method = m) {x v : Int64} {y : Int32} {rest : List Value} (hd : decode c.code g.pc = .ok (.lshl, 1)) (hs : g.stack = .int y :: .long x :: rest) (hv : x <<< (y &&& 0x3f).toInt64 = v)
    (hr : Steps tb e below (T.setTop { g with pc := g.pc + 1, stack := .long v :: rest }) target) : Steps tb e below (T.setTop g) target := by
  subst hv
  exact XS.lshl h hx hg hd hs hr
theorem lshr {tb : Tables} [Ours tb] {e : Env} {below : List Frame} {T target : State} {m : MethodId} {c : Code} {g : JFrame} (h : At T m c below) (hx : tb.exec = Jvm.exec) (hg : g.method = m) {x v : Int64} {y : Int32} {rest : List Value} (hd : decode c.code g.pc = .ok (.lshr, 1)) (hs : g.stack = .int y :: .long x :: rest) (hv : x >>> (y &&& 0x3f).toInt64 = v)
    (hr : Steps tb e below (T.setTop { g with pc := g.pc + 1, stack := .long v :: rest }) target) : Steps tb e below (T.setTop g) target := by
  subst hv
  exact XS.lshr h hx hg hd hs hr
theorem lushr {tb : Tables} [Ours tb] {e : Env} {below : List Frame} {T target : State} {m : MethodId} {c : Code} {g : JFrame} (h : At T m c below) (hx : tb.exec = Jvm.exec) (hg : g.method = m) {x v : Int64} {y : Int32} {rest : List Value} (hd : decode c.code g.pc = .ok (.lushr, 1)) (hs : g.stack = .int y :: .long x :: rest) (hv : (x.toUInt64 >>> (y &&& 0x3f).toInt64.toUInt64).toInt64 = v)
    (hr : Steps tb e below (T.setTop { g with pc := g.pc + 1, stack := .long v :: rest }) target) : Steps tb e below (T.setTop g) target := by
  subst hv
  exact XS.lushr h hx hg hd hs hr
theorem ldiv {tb : Tables} [Ours tb] {e : Env} {below : List Frame} {T target : State} {m : MethodId} {c : Code} {g : JFrame} (h : At T m c below) (hx : tb.exec = Jvm.exec) (hg : g.method = m) {x v : Int64} {y : Int64} {rest : List Value} (hd : decode c.code g.pc = .ok (.ldiv, 1)) (hs : g.stack = .long y :: .long x :: rest) (hy : ¬ y = 0) (hv : x / y = v)
    (hr : Steps tb e below (T.setTop { g with pc := g.pc + 1, stack := .long v :: rest }) target) : Steps tb e below (T.setTop g) target := by
  subst hv
  exact XS.ldiv h hx hg hd hs hy hr
theorem lrem {tb : Tables} [Ours tb] {e : Env} {below : List Frame} {T target : State} {m : MethodId} {c : Code} {g : JFrame} (h : At T m c below) (hx : tb.exec = Jvm.exec) (hg : g.method = m) {x v : Int64} {y : Int64} {rest : List Value} (hd : decode c.code g.pc = .ok (.lrem, 1)) (hs : g.stack = .long y :: .long x :: rest) (hy : ¬ y = 0) (hv : x % y = v)
    (hr : Steps tb e below (T.setTop { g with pc := g.pc + 1, stack := .long v :: rest }) target) : Steps tb e below (T.setTop g) target := by
  subst hv
  have q : x - x / y * y = x % y := lrem_mod x y
  exact XS.lrem h hx hg hd hs hy (by rw [q]; exact hr)
theorem ineg {tb : Tables} [Ours tb] {e : Env} {below : List Frame} {T target : State} {m : MethodId} {c : Code} {g : JFrame} (h : At T m c below) (hx : tb.exec = Jvm.exec) (hg : g.method = m) {x : Int32} {v : Int32} {rest : List Value} (hd : decode c.code g.pc = .ok (.ineg, 1)) (hs : g.stack = .int x :: rest) (hv : -x = v)
    (hr : Steps tb e below (T.setTop { g with pc := g.pc + 1, stack := .int v :: rest }) target) : Steps tb e below (T.setTop g) target := by
  subst hv
  exact XS.ineg h hx hg hd hs hr
theorem lneg {tb : Tables} [Ours tb] {e : Env} {below : List Frame} {T target : State} {m : MethodId} {c : Code} {g : JFrame} (h : At T m c below) (hx : tb.exec = Jvm.exec) (hg : g.method = m) {x : Int64} {v : Int64} {rest : List Value} (hd : decode c.code g.pc = .ok (.lneg, 1)) (hs : g.stack = .long x :: rest) (hv : -x = v)
    (hr : Steps tb e below (T.setTop { g with pc := g.pc + 1, stack := .long v :: rest }) target) : Steps tb e below (T.setTop g) target := by
  subst hv
  exact XS.lneg h hx hg hd hs hr
theorem i2l {tb : Tables} [Ours tb] {e : Env} {below : List Frame} {T target : State} {m : MethodId} {c : Code} {g : JFrame} (h : At T m c below) (hx : tb.exec = Jvm.exec) (hg : g.method = m) {x : Int32} {v : Int64} {rest : List Value} (hd : decode c.code g.pc = .ok (.i2l, 1)) (hs : g.stack = .int x :: rest) (hv : x.toInt64 = v)
    (hr : Steps tb e below (T.setTop { g with pc := g.pc + 1, stack := .long v :: rest }) target) : Steps tb e below (T.setTop g) target := by
  subst hv
  exact XS.i2l h hx hg hd hs hr
theorem l2i {tb : Tables} [Ours tb] {e : Env} {below : List Frame} {T target : State} {m : MethodId} {c : Code} {g : JFrame} (h : At T m c below) (hx : tb.exec = Jvm.exec) (hg : g.method = m) {x : Int64} {v : Int32} {rest : List Value} (hd : decode c.code g.pc = .ok (.l2i, 1)) (hs : g.stack = .long x :: rest) (hv : x.toInt32 = v)
    (hr : Steps tb e below (T.setTop { g with pc := g.pc + 1, stack := .int v :: rest }) target) : Steps tb e below (T.setTop g) target := by
  subst hv
  exact XS.l2i h hx hg hd hs hr
theorem i2b {tb : Tables} [Ours tb] {e : Env} {below : List Frame} {T target : State} {m : MethodId} {c : Code} {g : JFrame} (h : At T m c below) (hx : tb.exec = Jvm.exec) (hg : g.method = m) {x : Int32} {v : Int32} {rest : List Value} (hd : decode c.code g.pc = .ok (.i2b, 1)) (hs : g.stack = .int x :: rest) (hv : x.toInt8.toInt32 = v)
    (hr : Steps tb e below (T.setTop { g with pc := g.pc + 1, stack := .int v :: rest }) target) : Steps tb e below (T.setTop g) target := by
  subst hv
  exact XS.i2b h hx hg hd hs hr
theorem i2s {tb : Tables} [Ours tb] {e : Env} {below : List Frame} {T target : State} {m : MethodId} {c : Code} {g : JFrame} (h : At T m c below) (hx : tb.exec = Jvm.exec) (hg : g.method = m) {x : Int32} {v : Int32} {rest : List Value} (hd : decode c.code g.pc = .ok (.i2s, 1)) (hs : g.stack = .int x :: rest) (hv : x.toInt16.toInt32 = v)
    (hr : Steps tb e below (T.setTop { g with pc := g.pc + 1, stack := .int v :: rest }) target) : Steps tb e below (T.setTop g) target := by
  subst hv
  exact XS.i2s h hx hg hd hs hr
theorem dadd {tb : Tables} [Ours tb] {e : Env} {below : List Frame} {T target : State} {m : MethodId} {c : Code} {g : JFrame} (h : At T m c below) (hx : tb.exec = Jvm.exec) (hg : g.method = m) {x y v : UInt64} {rest : List Value} (hd : decode c.code g.pc = .ok (.dadd, 1)) (hs : g.stack = .double y :: .double x :: rest) (hv : FP.dadd x y = v) (hn : Jvm.Free.Fl.NoNaN64 v)
    (hr : Steps tb e below (T.setTop { g with pc := g.pc + 1, stack := .double v :: rest }) target) : Steps tb e below (T.setTop g) target := by
  subst hv
  exact XS.daddS h hx hg hd hs hn rfl hr
theorem dsub {tb : Tables} [Ours tb] {e : Env} {below : List Frame} {T target : State} {m : MethodId} {c : Code} {g : JFrame} (h : At T m c below) (hx : tb.exec = Jvm.exec) (hg : g.method = m) {x y v : UInt64} {rest : List Value} (hd : decode c.code g.pc = .ok (.dsub, 1)) (hs : g.stack = .double y :: .double x :: rest) (hv : FP.dsub x y = v) (hn : Jvm.Free.Fl.NoNaN64 v)
    (hr : Steps tb e below (T.setTop { g with pc := g.pc + 1, stack := .double v :: rest }) target) : Steps tb e below (T.setTop g) target := by
  subst hv
  exact XS.dsubS h hx hg hd hs hn rfl hr
theorem dmul {tb : Tables} [Ours tb] {e : Env} {below : List Frame} {T target : State} {m : MethodId} {c : Code} {g : JFrame} (h : At T m c below) (hx : tb.exec = Jvm.exec) (hg : g.method = m) {x y v : UInt64} {rest : List Value} (hd : decode c.code g.pc = .ok (.dmul, 1)) (hs : g.stack = .double y :: .double x :: rest) (hv : FP.dmul x y = v) (hn : Jvm.Free.Fl.NoNaN64 v)
    (hr : Steps tb e below (T.setTop { g with pc := g.pc + 1, stack := .double v :: rest }) target) : Steps tb e below (T.setTop g) target := by
  subst hv
  exact XS.dmulS h hx hg hd hs hn rfl hr
theorem ddiv {tb : Tables} [Ours tb] {e : Env} {below : List Frame} {T target : State} {m : MethodId} {c : Code} {g : JFrame} (h : At T m c below) (hx : tb.exec = Jvm.exec) (hg : g.method = m) {x y v : UInt64} {rest : List Value} (hd : decode c.code g.pc = .ok (.ddiv, 1)) (hs : g.stack = .double y :: .double x :: rest) (hv : FP.ddiv x y = v) (hn : Jvm.Free.Fl.NoNaN64 v)
    (hr : Steps tb e below (T.setTop { g with pc := g.pc + 1, stack := .double v :: rest }) target) : Steps tb e below (T.setTop g) target := by
  subst hv
  exact XS.ddivS h hx hg hd hs hn rfl hr
theorem drem {tb : Tables} [Ours tb] {e : Env} {below : List Frame} {T target : State} {m : MethodId} {c : Code} {g : JFrame} (h : At T m c below) (hx : tb.exec = Jvm.exec) (hg : g.method = m) {x y v : UInt64} {rest : List Value} (hd : decode c.code g.pc = .ok (.drem, 1)) (hs : g.stack = .double y :: .double x :: rest) (hv : FP.drem x y = v) (hn : Jvm.Free.Fl.NoNaN64 v)
    (hr : Steps tb e below (T.setTop { g with pc := g.pc + 1, stack := .double v :: rest }) target) : Steps tb e below (T.setTop g) target := by
  subst hg
  subst hv
  obtain ⟨gm, gp, gl, gs, gk, ge, gr⟩ := g
  simp only at hs hd
  subst hs
  jvm_step h [h.top, hx, hd, Op.drem.at_number h.top hn]
  exact hr
theorem lcmp {tb : Tables} [Ours tb] {e : Env} {below : List Frame} {T target : State} {m : MethodId} {c : Code} {g : JFrame} (h : At T m c below) (hx : tb.exec = Jvm.exec) (hg : g.method = m) {x y : Int64} {v : Int32} {rest : List Value} (hd : decode c.code g.pc = .ok (.lcmp, 1)) (hs : g.stack = .long y :: .long x :: rest) (hv : lcmpW x y = v)
    (hr : Steps tb e below (T.setTop { g with pc := g.pc + 1, stack := .int v :: rest }) target) : Steps tb e below (T.setTop g) target := by
  subst hv
  exact XS.lcmp h hx hg hd hs hr
theorem iinc {tb : Tables} [Ours tb] {e : Env} {below : List Frame} {T target : State} {m : MethodId} {c : Code} {g : JFrame} (h : At T m c below) (hx : tb.exec = Jvm.exec) (hg : g.method = m) {k : Nat} {cst : Int} {x v : Int32} {l' : Array Slot} (hd : decode c.code g.pc = .ok (.iinc k cst, 3)) (hl : g.locals[k]? = some (.val (.int x))) (hv : x + Int32.ofInt cst = v) (hl' : storeLocals g.locals k (.int v) = some l')
    (hr : Steps tb e below (T.setTop { g with pc := g.pc + 3, locals := l' }) target) : Steps tb e below (T.setTop g) target := by
  subst hv
  exact XS.iinc h hx hg hd hl hl' hr
theorem dup2 {tb : Tables} [Ours tb] {e : Env} {below : List Frame} {T target : State} {m : MethodId} {c : Code} {g : JFrame} (h : At T m c below) (hx : tb.exec = Jvm.exec) (hg : g.method = m) {x y : Value} {rest : List Value} (hd : decode c.code g.pc = .ok (.dup2, 1)) (hs : g.stack = x :: y :: rest) (hc : x.category = 1) (hc' : y.category = 1)
    (hr : Steps tb e below (T.setTop { g with pc := g.pc + 1, stack := x :: y :: x :: y :: rest }) target) : Steps tb e below (T.setTop g) target := Jvm.Free.XT.dup2 h hx hg hd hs hc hc' hr
theorem dup2W {tb : Tables} [Ours tb] {e : Env} {below : List Frame} {T target : State} {m : MethodId} {c : Code} {g : JFrame} (h : At T m c below) (hx : tb.exec = Jvm.exec) (hg : g.method = m) {x : Value} {rest : List Value} (hd : decode c.code g.pc = .ok (.dup2, 1)) (hs : g.stack = x :: rest) (hc : x.category = 2)
    (hr : Steps tb e below (T.setTop { g with pc := g.pc + 1, stack := x :: x :: rest }) target) : Steps tb e below (T.setTop g) target := by
  subst hg
  jvm_step h [h.top, hx, hd, hs, hc]
  exact hr
theorem Sta_keep {Z : State} {h h' : Heap} {C n d : String} {w : Value} {ws : List Addr} (F : Sta Z h C n d w) (K : Keep h h' ws) (hn : ∀ x ∈ ws, ∀ cell : Cell, h[x]? = some cell → cell.vm.isStatics = false) : Sta Z h' C n d w := by
  obtain ⟨cf, i, k, f, st, cell, h1, h2, h3, h4, h5, h6, h7⟩ := F
  refine ⟨cf, i, k, f, st, cell, h1, h2, h3, h4, K.2.1 st cell h5 (fun q => ?_), h6, h7⟩
  rw [hn st q cell h5] at h6; cases h6
end Jvm.OwnK
namespace Jvm.OwnF
open Jvm.FP Jvm.FP.Core
/-! doubles as whole numbers of units of 2^-1074 -/
def V (a : UInt64) : Int := zval b64 (val64 a)
def BIG : Nat := 2 ^ 2000
/-- the rounding of n / d, in units -/
def rnd (n : Int) (d : Nat) : Int := zval b64 (roundRatio b64 (decide (n < 0)) n.natAbs d (-1074))
theorem zval_zero (s : Bool) (d : Nat) (e : Int) : zval b64 (roundRatio b64 s 0 d e) = 0 := by
  unfold roundRatio
  rw [if_pos rfl]
  show signed s (0 * 2 ^ (b64.qmin - b64.qmin).toNat) = 0
  rw [Nat.zero_mul, signed_zero]
theorem rnd_signed (s : Bool) (N d : Nat) : zval b64 (roundRatio b64 s N d (-1074)) = rnd (signed s N) d := by
  unfold rnd
  rw [natAbs_signed]
  by_cases h : N = 0
  · subst h; rw [zval_zero, zval_zero]
  · rw [signed_lt_zero s (by omega)]
theorem signed_natAbs (n : Int) : signed (decide (n < 0)) n.natAbs = n := by
  unfold signed
  by_cases h : n < 0 <;> simp [h] <;> omega
theorem bigV : Jvm.FP.Core.fits b64 (.fin false (2 ^ 52) 874) := by refine ⟨?_, ?_, ?_, ?_⟩ <;> decide
theorem bigZ : zmag b64 (.fin false (2 ^ 52) 874) = BIG := by
  show 2 ^ 52 * 2 ^ (874 - b64.qmin).toNat = 2 ^ 2000
  rw [qmin_b64, show (874 - (-1074) : Int).toNat = 1948 from rfl, ← Nat.pow_add]
theorem big_lt : BIG < b64.tails * 2 ^ (b64.exps - 2) := by
  rw [tails_b64, show b64.exps - 2 = 2046 by decide, ← Nat.pow_add]
  exact Nat.pow_lt_pow_right (by decide) (by decide)
theorem un0 (A : Nat) : inUnits A (-1074) (-1074) = A := by unfold inUnits; simp
theorem round_le_big {s : Bool} {A B : Nat} (hB : 0 < B) (h : A ≤ BIG * B) : zmag b64 (roundRatio b64 s A B (-1074)) ≤ BIG := by
  have := zmag_roundRatio_le good_b64 (s := s) (A := A) (B := B) (e := -1074) (e0 := -1074) hB bigV Datum.noConfusion (by rw [qmin_b64]; decide) (by decide) (by rw [bigZ, un0, qmin_b64]; simpa using h)
  rwa [bigZ] at this
theorem fin_round {s : Bool} {A B : Nat} (hB : 0 < B) (h : A ≤ BIG * B) : ∃ c q, roundRatio b64 s A B (-1074) = .fin s c q := by
  rcases roundRatio_cases b64 s A B (-1074) with h1 | h1
  · exact h1
  · exfalso
    have h2 := round_le_big (s := s) hB h
    rw [h1] at h2
    have h3 : zmag b64 (.inf s) = b64.tails * 2 ^ (b64.exps - 2) := rfl
    have := big_lt
    omega
theorem noNaN_fin {a : UInt64} (h : DFin a) : Jvm.Free.Fl.NoNaN64 a := by
  rw [Jvm.Free.Fl.val64_no]; obtain ⟨s, c, q, e⟩ := h; rw [e]; exact Datum.noConfusion
theorem V_dadd {a b : UInt64} (ha : DFin a) (hb : DFin b) (h : (V a + V b).natAbs ≤ BIG) : DFin (FP.dadd a b) ∧ V (FP.dadd a b) = rnd (V a + V b) 1 := by
  obtain ⟨s, c, q, ea⟩ := ha
  obtain ⟨t, d, r, eb⟩ := hb
  have fa : Jvm.FP.Core.fits b64 (.fin s c q) := ea ▸ val64_fits a
  have fb : Jvm.FP.Core.fits b64 (.fin t d r) := eb ▸ val64_fits b
  obtain ⟨sg, n, e, p1, p2, p3⟩ := sum_units fa fb
  rw [qmin_b64] at p2 p3
  have hv : val64 (FP.dadd a b) = roundRatio b64 sg (inUnits n e (-1074)) 1 (-1074) := by
    rw [show FP.dadd a b = Core.dadd a b from rfl, val64_dadd, ea, eb, p1]
    show roundRatio b64 sg n 1 e = _
    refine roundRatio_congr (by decide) (by decide) ?_
    rw [show (-1074 - e).toNat = 0 by omega]
    unfold inUnits; simp
  have hS : signed sg (inUnits n e (-1074)) = V a + V b := by unfold V; rw [ea, eb]; exact p3
  have hN : inUnits n e (-1074) = (V a + V b).natAbs := by rw [← hS, natAbs_signed]
  obtain ⟨c', q', hh⟩ := fin_round (s := sg) (A := inUnits n e (-1074)) (B := 1) (by decide) (by rw [Nat.mul_one, hN]; exact h)
  refine ⟨⟨sg, c', q', hv.trans hh⟩, ?_⟩
  show zval b64 (val64 (FP.dadd a b)) = _
  rw [hv, rnd_signed, hS]
theorem V_neg (a : UInt64) : V (Core.dneg a) = -V a := by unfold V; rw [Core.val64_dneg, zval_negate]
theorem fin_neg {a : UInt64} (h : DFin a) : DFin (Core.dneg a) := by
  obtain ⟨s, c, q, e⟩ := h
  exact ⟨!s, c, q, by rw [Core.val64_dneg, e]; rfl⟩
theorem V_dsub {a b : UInt64} (ha : DFin a) (hb : DFin b) (h : (V a - V b).natAbs ≤ BIG) : DFin (FP.dsub a b) ∧ V (FP.dsub a b) = rnd (V a - V b) 1 := by
  have e : FP.dsub a b = FP.dadd a (Core.dneg b) := dsub_eq a b
  rw [e]
  have := V_dadd ha (fin_neg hb) (by rw [V_neg]; exact h)
  rw [V_neg] at this
  exact this
theorem zmag_V (a : UInt64) : zmag b64 (val64 a) = (V a).natAbs := by unfold V zval; rw [natAbs_signed]
theorem V_dmul {a b : UInt64} (ha : DFin a) (hb : DFin b) (h : (V a * V b).natAbs ≤ BIG * one64) : DFin (FP.dmul a b) ∧ V (FP.dmul a b) = rnd (V a * V b) one64 := by
  have za := zmag_V a
  have zb := zmag_V b
  obtain ⟨s, c, q, ea⟩ := ha
  obtain ⟨t, d, r, eb⟩ := hb
  have fa : Jvm.FP.Core.fits b64 (.fin s c q) := ea ▸ val64_fits a
  have fb : Jvm.FP.Core.fits b64 (.fin t d r) := eb ▸ val64_fits b
  obtain ⟨p1, p2, p3⟩ := product_units fa fb
  rw [← ea, ← eb, za, zb, ← Int.natAbs_mul] at p3
  rw [qmin_b64] at p2 p3
  have hv : val64 (FP.dmul a b) = roundRatio b64 (s != t) (V a * V b).natAbs one64 (-1074) := by
    rw [show FP.dmul a b = Core.dmul a b from rfl, val64_dmul, ea, eb, p1]
    show roundRatio b64 (s != t) (c * d) 1 (q + r) = _
    refine roundRatio_congr (by decide) one64_pos ?_
    rw [← p3]
    unfold inUnits one64
    rw [Nat.mul_one, Nat.mul_assoc (c * d), Nat.mul_assoc (c * d), ← Nat.pow_add, ← Nat.pow_add]
    congr 2
    omega
  have hS : signed (s != t) (V a * V b).natAbs = V a * V b := by
    rw [Int.natAbs_mul, signed_xor, ← za, ← zb]
    unfold V zval
    rw [ea, eb]
    rfl
  obtain ⟨c', q', hh⟩ := fin_round (s := s != t) (A := (V a * V b).natAbs) (B := one64) one64_pos h
  refine ⟨⟨_, c', q', hv.trans hh⟩, ?_⟩
  show zval b64 (val64 (FP.dmul a b)) = _
  rw [hv, rnd_signed, hS]
theorem pw2 (c d x y : Nat) : c * (d * 2 ^ x) * 2 ^ y = c * d * 2 ^ (x + y) := by rw [Nat.pow_add]; ac_rfl
theorem pw3 (c d x y z : Nat) : c * 2 ^ x * 2 ^ y * d * 2 ^ z = c * d * 2 ^ (x + y + z) := by rw [Nat.pow_add, Nat.pow_add]; ac_rfl
theorem V_ddiv {a b : UInt64} (ha : DFin a) (hb : DFin b) (h0 : V b ≠ 0) (h : (V a).natAbs * one64 ≤ BIG * (V b).natAbs) : DFin (FP.ddiv a b) ∧ V (FP.ddiv a b) = rnd (V a * (one64 : Int) * (V b).sign) (V b).natAbs := by
  have za := zmag_V a
  have zb := zmag_V b
  have sb : (V b).sign = signed (sgn (val64 b)) 1 := by
    unfold V zval at h0 ⊢
    cases hsg : sgn (val64 b) <;> rw [hsg] at h0 <;> simp only [signed, if_true, Bool.false_eq_true, if_false] at h0 ⊢
    · exact Int.sign_eq_one_of_pos (by omega)
    · exact Int.sign_eq_neg_one_of_neg (by omega)
  obtain ⟨s, c, q, ea⟩ := ha
  obtain ⟨t, d, r, eb⟩ := hb
  have fa : Jvm.FP.Core.fits b64 (.fin s c q) := ea ▸ val64_fits a
  have fb : Jvm.FP.Core.fits b64 (.fin t d r) := eb ▸ val64_fits b
  have hq1 := fa.2.1
  have hr1 := fb.2.1
  rw [qmin_b64] at hq1 hr1
  have ma : (V a).natAbs = c * 2 ^ (q - (-1074)).toNat := by rw [← za, ea]; show inUnits c q b64.qmin = _; rw [qmin_b64]; rfl
  have mb : (V b).natAbs = d * 2 ^ (r - (-1074)).toNat := by rw [← zb, eb]; show inUnits d r b64.qmin = _; rw [qmin_b64]; rfl
  have hd0 : d ≠ 0 := by
    rintro rfl
    rw [Nat.zero_mul] at mb; omega
  have hBp : 0 < (V b).natAbs := by omega
  have hv : val64 (FP.ddiv a b) = roundRatio b64 (s != t) ((V a).natAbs * one64) (V b).natAbs (-1074) := by
    rw [show FP.ddiv a b = Core.ddiv a b from rfl, val64_ddiv, ea, eb]
    simp only [quotient, if_neg hd0]
    refine roundRatio_congr (by omega) hBp ?_
    rw [ma, mb]
    unfold one64
    rw [pw2, pw3]
    congr 2
    omega
  have hS : signed (s != t) ((V a).natAbs * one64) = V a * (one64 : Int) * (V b).sign := by
    rw [sb, eb]
    show _ = _ * signed t 1
    have : signed (s != t) ((V a).natAbs * one64 * 1) = signed s ((V a).natAbs * one64) * signed t 1 := signed_xor s t _ 1
    rw [Nat.mul_one] at this
    rw [this, signed_mul]
    congr 2
    rw [← za]
    unfold V zval
    rw [ea]
    rfl
  obtain ⟨c', q', hh⟩ := fin_round (s := s != t) (A := (V a).natAbs * one64) (B := (V b).natAbs) hBp h
  refine ⟨⟨_, c', q', hv.trans hh⟩, ?_⟩
  show zval b64 (val64 (FP.ddiv a b)) = _
  rw [hv, rnd_signed, hS]
theorem V_of_int {a : UInt64} {n : Int} (ha : val64 a = round b64 (ofInt n)) (h : n.natAbs ≤ 2 ^ 64) : DFin a ∧ V a = rnd (n * (one64 : Int)) 1 := by
  have hv : val64 a = roundRatio b64 (decide (n < 0)) (n.natAbs * one64) 1 (-1074) := by
    rw [ha]
    show roundRatio b64 (decide (n < 0)) n.natAbs 1 0 = _
    refine roundRatio_congr (by decide) (by decide) ?_
    unfold one64
    rw [show (0 - (-1074) : Int).toNat = 1074 from rfl, show (-1074 - 0 : Int).toNat = 0 from rfl]
    simp
  have hS : signed (decide (n < 0)) (n.natAbs * one64) = n * (one64 : Int) := by rw [signed_mul, signed_natAbs]
  have hB : n.natAbs * one64 ≤ BIG := by
    refine Nat.le_trans (Nat.mul_le_mul_right _ h) ?_
    unfold one64 BIG
    rw [← Nat.pow_add]
    exact Nat.pow_le_pow_right (by decide) (by decide)
  obtain ⟨c', q', hh⟩ := fin_round (s := decide (n < 0)) (A := n.natAbs * one64) (B := 1) (by decide) (by rw [Nat.mul_one]; exact hB)
  refine ⟨⟨_, c', q', hv.trans hh⟩, ?_⟩
  show zval b64 (val64 a) = _
  rw [hv, rnd_signed, hS]
theorem V_l2d (n : Int64) : DFin (FP.l2d n) ∧ V (FP.l2d n) = rnd (n.toInt * (one64 : Int)) 1 :=
  V_of_int (val64_l2d n) (Nat.le_trans (int64_abs n) (by decide))
theorem V_i2d (n : Int32) : DFin (FP.i2d n) ∧ V (FP.i2d n) = rnd (n.toInt * (one64 : Int)) 1 :=
  V_of_int (val64_i2d n) (Nat.le_trans (int32_abs n) (by decide))
theorem V_drem {a b : UInt64} (ha : DFin a) (hb : DFin b) (h0 : V b ≠ 0) : DFin (FP.drem a b) ∧ V (FP.drem a b) = (V a).tmod (V b) := by
  have za := zmag_V a
  have zb := zmag_V b
  obtain ⟨s, c, q, ea⟩ := ha
  obtain ⟨t, d, r, eb⟩ := hb
  have fa : Jvm.FP.Core.fits b64 (.fin s c q) := ea ▸ val64_fits a
  have fb : Jvm.FP.Core.fits b64 (.fin t d r) := eb ▸ val64_fits b
  have hd0 : d ≠ 0 := by
    rintro rfl
    rw [eb] at zb
    have : zmag b64 (.fin t 0 r) = 0 := Nat.zero_mul _
    omega
  obtain ⟨c', q', h1, h2⟩ := remainder_exact good_b64 fa fb hd0
  have hv : val64 (FP.drem a b) = .fin s c' q' := by rw [show FP.drem a b = Core.drem a b from rfl, val64_drem, ea, eb, h1]
  refine ⟨⟨_, _, _, hv⟩, ?_⟩
  have h3 : zmag b64 (.fin s c' q') = (V a).natAbs % (V b).natAbs := by rw [← za, ← zb, ea, eb]; exact h2
  have hVa : V a = signed s (V a).natAbs := by rw [← za]; unfold V zval; rw [ea]; rfl
  show zval b64 (val64 (FP.drem a b)) = _
  rw [hv]
  show signed s (zmag b64 (.fin s c' q')) = _
  rw [h3]
  have hb2 : ∀ x : Int, x.tmod (V b) = x.tmod ((V b).natAbs : Int) := by
    intro x
    rcases Int.natAbs_eq (V b) with e | e
    · rw [← e]
    · rw [e, Int.tmod_neg]; simp
  rw [hb2]
  generalize (V b).natAbs = B at *
  generalize (V a).natAbs = A at *
  rw [hVa]
  cases s <;> simp [signed] <;> exact (Int.tmod_eq_emod_of_nonneg (Int.natCast_nonneg A)).symm
theorem cmp_V {a b : UInt64} (ha : DFin a) (hb : DFin b) : FP.dcmp a b = some (compare (V a) (V b)) := by
  obtain ⟨s, c, q, ea⟩ := ha
  obtain ⟨t, d, r, eb⟩ := hb
  exact dcmp_zval (by rw [ea]; exact Datum.noConfusion) (by rw [eb]; exact Datum.noConfusion)
/-! the rounding -/
theorem rnd_congr {n n' : Int} {d d' : Nat} (hd : 0 < d) (hd' : 0 < d') (h : n * (d' : Int) = n' * (d : Int)) : rnd n d = rnd n' d' := by
  have hs : (n < 0) ↔ (n' < 0) := by
    have p1 : (0 : Int) < d := by omega
    have p2 : (0 : Int) < d' := by omega
    constructor
    · intro q
      have := Int.mul_neg_of_neg_of_pos q p2
      refine Int.lt_of_not_ge fun q' => ?_
      have := Int.mul_nonneg q' (Int.le_of_lt p1)
      omega
    · intro q
      have := Int.mul_neg_of_neg_of_pos q p1
      refine Int.lt_of_not_ge fun q' => ?_
      have := Int.mul_nonneg q' (Int.le_of_lt p2)
      omega
  have hm : n.natAbs * d' = n'.natAbs * d := by
    have := congrArg Int.natAbs h
    rwa [Int.natAbs_mul, Int.natAbs_mul, Int.natAbs_natCast, Int.natAbs_natCast] at this
  unfold rnd
  rw [show decide (n < 0) = decide (n' < 0) from decide_eq_decide.mpr hs]
  congr 1
  exact roundRatio_congr hd hd' (by simpa using hm)
/-- at most 53 binary digits -/
def Rep (r : Int) : Prop := ∃ (m : Int) (e : Nat), r = m * ((2 ^ e : Nat) : Int) ∧ m.natAbs < 2 ^ 53 ∧ e ≤ 2045
theorem rnd_exact {n : Int} {d : Nat} {r : Int} (hd : 0 < d) (h : n = r * (d : Int)) (hr : Rep r) : rnd n d = r := by
  rw [rnd_congr (n' := r) (d' := 1) hd (by decide) (by rw [h]; simp)]
  obtain ⟨m, e, rfl, hm, he⟩ := hr
  have hsg : ∀ k : Nat, signed (decide (m < 0)) (m.natAbs * k) = m * (k : Int) := fun k => by rw [signed_mul, signed_natAbs]
  have h1 : rnd (m * ((2 ^ e : Nat) : Int)) 1 = zval b64 (roundRatio b64 (decide (m < 0)) (m.natAbs * 2 ^ e) 1 (-1074)) := by rw [rnd_signed, hsg]
  rw [h1]
  obtain ⟨c', q', h2, h3⟩ := round_exact good_b64 (decide (m < 0)) (c := m.natAbs) (q := (e : Int) - 1074) hm (by rw [qmin_b64]; omega) (by rw [show b64.qmax = 971 by decide]; omega)
  have h4 : roundRatio b64 (decide (m < 0)) (m.natAbs * 2 ^ e) 1 (-1074) = roundRatio b64 (decide (m < 0)) m.natAbs 1 ((e : Int) - 1074) := by
    refine roundRatio_congr (by decide) (by decide) ?_
    rw [show (-1074 - ((e : Int) - 1074)).toNat = 0 by omega, show ((e : Int) - 1074 - -1074).toNat = e by omega]
    simp
  rw [h4]
  have h5 : roundRatio b64 (decide (m < 0)) m.natAbs 1 ((e : Int) - 1074) = .fin (decide (m < 0)) c' q' := h2
  rw [h5]
  show signed _ (inUnits c' q' b64.qmin) = _
  rw [h3, ← hsg]
  unfold inUnits
  rw [qmin_b64, show ((e : Int) - 1074 - -1074).toNat = e by omega]
  rfl
theorem rep_V {a : UInt64} (ha : DFin a) : Rep (V a) := by
  obtain ⟨s, c, q, ea⟩ := ha
  have fa : Jvm.FP.Core.fits b64 (.fin s c q) := ea ▸ val64_fits a
  obtain ⟨h1, h2, h3, -⟩ := fa
  rw [qmin_b64] at h2
  rw [show b64.qmax = 971 by decide] at h3
  refine ⟨signed s c, (q - (-1074)).toNat, ?_, by rw [natAbs_signed]; exact h1, by omega⟩
  unfold V zval
  rw [ea]
  show signed s (c * 2 ^ (q - b64.qmin).toNat) = _
  rw [signed_mul, qmin_b64]
theorem V_le {a : UInt64} : (V a).natAbs ≤ (V a).natAbs := Nat.le_refl _
end Jvm.OwnF
namespace Jvm.OwnF
open Jvm.FP Jvm.FP.Core
/-! exact values: a is n / 2^k -/
def R53 (n : Int) : Prop := ∃ (m : Int) (e : Nat), n = m * ((2 ^ e : Nat) : Int) ∧ m.natAbs ≤ 2 ^ 53 ∧ e ≤ 800
def DV (n : Int) (k : Nat) (a : UInt64) : Prop := DFin a ∧ k ≤ 1074 ∧ V a = n * ((2 ^ (1074 - k) : Nat) : Int)
theorem r53 {n : Int} (h : n.natAbs ≤ 2 ^ 53) : R53 n := ⟨n, 0, by simp, h, by decide⟩
theorem rep_of {m : Int} {e : Nat} (hm : m.natAbs ≤ 2 ^ 53) (he : e ≤ 1900) : Rep (m * ((2 ^ e : Nat) : Int)) := by
  by_cases h : m.natAbs < 2 ^ 53
  · exact ⟨m, e, rfl, h, by omega⟩
  · refine ⟨m.sign, e + 53, ?_, ?_, by omega⟩
    · have h1 : m.natAbs = 2 ^ 53 := by omega
      have h2 : m = m.sign * (m.natAbs : Int) := (Int.sign_mul_natAbs m).symm
      conv => lhs; rw [h2, h1]
      rw [Nat.pow_add, Int.natCast_mul, Int.mul_assoc]
      congr 1
      rw [Int.mul_comm]
    · have : m.sign.natAbs ≤ 1 := by
        rcases Int.lt_trichotomy m 0 with q | q | q
        · rw [Int.sign_eq_neg_one_of_neg q]; decide
        · rw [q]; decide
        · rw [Int.sign_eq_one_of_pos q]; decide
      omega
theorem rep_R {n : Int} (h : R53 n) {k : Nat} (hk : k ≤ 1074) : Rep (n * ((2 ^ k : Nat) : Int)) := by
  obtain ⟨m, e, rfl, hm, he⟩ := h
  rw [Int.mul_assoc, ← Int.natCast_mul, ← Nat.pow_add]
  exact rep_of hm (by omega)
theorem big_R {n : Int} (h : R53 n) {k : Nat} (hk : k ≤ 1074) : (n * ((2 ^ k : Nat) : Int)).natAbs ≤ BIG := by
  obtain ⟨m, e, rfl, hm, he⟩ := h
  rw [Int.natAbs_mul, Int.natAbs_mul, Int.natAbs_natCast, Int.natAbs_natCast, Nat.mul_assoc, ← Nat.pow_add]
  refine Nat.le_trans (Nat.mul_le_mul_right _ hm) ?_
  unfold BIG
  rw [← Nat.pow_add]
  exact Nat.pow_le_pow_right (by decide) (by omega)
theorem DV.fin {n : Int} {k : Nat} {a : UInt64} (h : DV n k a) : DFin a := h.1
theorem DV.nn {n : Int} {k : Nat} {a : UInt64} (h : DV n k a) : Jvm.Free.Fl.NoNaN64 a := noNaN_fin h.1
theorem DV.of_eq {n m : Int} {k : Nat} {a : UInt64} (h : DV n k a) (e : n = m) : DV m k a := e ▸ h
theorem DV.up {n : Int} {k : Nat} {a : UInt64} (h : DV n k a) (j : Nat) (hj : k + j ≤ 1074) : DV (n * ((2 ^ j : Nat) : Int)) (k + j) a := by
  refine ⟨h.1, hj, ?_⟩
  rw [h.2.2, Int.mul_assoc, ← Int.natCast_mul, ← Nat.pow_add]
  congr 4
  omega
theorem DV.down {n : Int} {k j : Nat} {a : UInt64} (h : DV (n * ((2 ^ j : Nat) : Int)) (k + j) a) : DV n k a := by
  refine ⟨h.1, by have := h.2.1; omega, ?_⟩
  rw [h.2.2, Int.mul_assoc, ← Int.natCast_mul, ← Nat.pow_add]
  congr 4
  have := h.2.1; omega
theorem DV_of_V {n : Int} {k : Nat} {a : UInt64} (hf : DFin a) (hk : k ≤ 1074) (hn : R53 n) (h : V a = rnd (n * ((2 ^ (1074 - k) : Nat) : Int)) 1) : DV n k a :=
  ⟨hf, hk, by rw [h]; exact rnd_exact (by decide) (by simp) (rep_R hn (by omega))⟩
theorem DV_add {n m : Int} {k : Nat} {a b : UInt64} (ha : DV n k a) (hb : DV m k b) (h : R53 (n + m)) : DV (n + m) k (FP.dadd a b) := by
  have e : V a + V b = (n + m) * ((2 ^ (1074 - k) : Nat) : Int) := by rw [ha.2.2, hb.2.2, Int.add_mul]
  obtain ⟨h1, h2⟩ := V_dadd ha.1 hb.1 (by rw [e]; exact big_R h (by omega))
  exact DV_of_V h1 ha.2.1 h (by rw [h2, e])
theorem DV_sub {n m : Int} {k : Nat} {a b : UInt64} (ha : DV n k a) (hb : DV m k b) (h : R53 (n - m)) : DV (n - m) k (FP.dsub a b) := by
  have e : V a - V b = (n - m) * ((2 ^ (1074 - k) : Nat) : Int) := by rw [ha.2.2, hb.2.2, Int.sub_mul]
  obtain ⟨h1, h2⟩ := V_dsub ha.1 hb.1 (by rw [e]; exact big_R h (by omega))
  exact DV_of_V h1 ha.2.1 h (by rw [h2, e])
theorem DV_mul {n m : Int} {k j : Nat} {a b : UInt64} (ha : DV n k a) (hb : DV m j b) (hkj : k + j ≤ 1074) (h : R53 (n * m)) : DV (n * m) (k + j) (FP.dmul a b) := by
  have e : V a * V b = (n * m) * ((2 ^ (1074 - (k + j)) : Nat) : Int) * (one64 : Int) := by
    rw [ha.2.2, hb.2.2]
    have : ((2 ^ (1074 - (k + j)) : Nat) : Int) * (one64 : Int) = ((2 ^ (1074 - k) : Nat) : Int) * ((2 ^ (1074 - j) : Nat) : Int) := by
      rw [← Int.natCast_mul, ← Int.natCast_mul]
      unfold one64
      rw [← Nat.pow_add, ← Nat.pow_add]
      congr 2
      have := ha.2.1; have := hb.2.1; omega
    rw [Int.mul_assoc (n * m), this]
    ac_rfl
  obtain ⟨h1, h2⟩ := V_dmul ha.1 hb.1 (by
    rw [e, Int.natAbs_mul, Int.natAbs_natCast]
    exact Nat.mul_le_mul_right _ (big_R h (by omega)))
  refine ⟨h1, hkj, ?_⟩
  rw [h2]
  exact rnd_exact one64_pos e (rep_R h (by omega))
theorem divalg {n c m P Q X U I J : Int} (h : n * P = c * m * Q) (e2 : X * Q = U) (e3 : I * J * P = U * U) : n * X * U * (Q * P) = c * I * (m * J) * (Q * P) := by
  have l : n * X * U * (Q * P) = (n * P) * (X * Q) * U := by ac_rfl
  have r : c * I * (m * J) * (Q * P) = c * m * Q * (I * J * P) := by ac_rfl
  rw [l, r, h, e2, e3, Int.mul_assoc (c * m * Q)]
theorem DV_div {n m c : Int} {k j i : Nat} {a b : UInt64} (ha : DV n k a) (hb : DV m j b) (hi : i ≤ 1074) (hm : m ≠ 0) (hc : R53 c) (h : n * ((2 ^ (j + i) : Nat) : Int) = c * m * ((2 ^ k : Nat) : Int)) : DV c i (FP.ddiv a b) := by
  have hb0 : V b ≠ 0 := by
    rw [hb.2.2]
    intro q
    rcases Int.mul_eq_zero.mp q with q | q
    · exact hm q
    · have := Nat.two_pow_pos (1074 - j); omega
  have hk := ha.2.1
  have hj := hb.2.1
  -- V a * U = (c * 2^(1074 - i)) * V b
  have e : V a * (one64 : Int) = c * ((2 ^ (1074 - i) : Nat) : Int) * V b := by
    have pp : ((2 ^ (k + j + i) : Nat) : Int) ≠ 0 := by have := Nat.two_pow_pos (k + j + i); omega
    refine Int.eq_of_mul_eq_mul_right pp ?_
    rw [ha.2.2, hb.2.2]
    have e1 : ((2 ^ (k + j + i) : Nat) : Int) = ((2 ^ k : Nat) : Int) * ((2 ^ (j + i) : Nat) : Int) := by rw [← Int.natCast_mul, ← Nat.pow_add, Nat.add_assoc]
    have e2 : ((2 ^ (1074 - k) : Nat) : Int) * ((2 ^ k : Nat) : Int) = (one64 : Int) := by rw [← Int.natCast_mul, ← Nat.pow_add, Nat.sub_add_cancel hk]; rfl
    have e3 : ((2 ^ (1074 - i) : Nat) : Int) * ((2 ^ (1074 - j) : Nat) : Int) * ((2 ^ (j + i) : Nat) : Int) = (one64 : Int) * (one64 : Int) := by
      rw [← Int.natCast_mul, ← Int.natCast_mul, ← Int.natCast_mul]
      unfold one64
      rw [← Nat.pow_add, ← Nat.pow_add, ← Nat.pow_add]
      congr 2
      omega
    rw [e1]
    exact divalg h e2 e3
  have ea : (V a).natAbs * one64 = (c * ((2 ^ (1074 - i) : Nat) : Int)).natAbs * (V b).natAbs := by
    have := congrArg Int.natAbs e
    rwa [Int.natAbs_mul, Int.natAbs_mul, Int.natAbs_natCast] at this
  obtain ⟨h1, h2⟩ := V_ddiv ha.1 hb.1 hb0 (by rw [ea]; exact Nat.mul_le_mul_right _ (big_R hc (by omega)))
  refine ⟨h1, hi, ?_⟩
  rw [h2]
  refine rnd_exact (by omega) ?_ (rep_R hc (by omega))
  rw [e, Int.mul_assoc, Int.mul_sign_self]
theorem DV_l2d {n : Int64} (h : R53 n.toInt) : DV n.toInt 0 (FP.l2d n) := by
  obtain ⟨h1, h2⟩ := V_l2d n
  exact DV_of_V h1 (by decide) h h2
theorem DV_i2d (n : Int32) : DV n.toInt 0 (FP.i2d n) := by
  obtain ⟨h1, h2⟩ := V_i2d n
  exact DV_of_V h1 (by decide) (r53 (Nat.le_trans (int32_abs n) (by decide))) h2
theorem DV_const {a : UInt64} {n : Int} {k : Nat} (h1 : a.toNat % 2 ^ 63 < 9218868437227405312) (hk : k ≤ 1074) (h2 : V a = n * ((2 ^ (1074 - k) : Nat) : Int)) : DV n k a := ⟨(fin_bits a).mpr h1, hk, h2⟩
theorem DV_0 : DV 0 0 FP.dconst0 := DV_const (by decide) (by decide) (by decide +kernel)
theorem DV_1 : DV 1 0 FP.dconst1 := DV_const (by decide) (by decide) (by decide +kernel)
theorem DV_z : DV 0 0 (0 : UInt64) := DV_const (by decide) (by decide) (by decide +kernel)
theorem cmpv_V {a b : UInt64} (ha : DFin a) (hb : DFin b) (o : ClassFile.CmpOp) : (V a < V b → Op.cmpValue (FP.dcmp a b) o = -1) ∧ (V a = V b → Op.cmpValue (FP.dcmp a b) o = 0) ∧ (V b < V a → Op.cmpValue (FP.dcmp a b) o = 1) := by
  rw [cmp_V ha hb]
  refine ⟨fun h => ?_, fun h => ?_, fun h => ?_⟩
  · rw [(compare_lt_iff _ _).mpr h]; rfl
  · rw [(compare_eq_iff _ _).mpr h]; rfl
  · rw [(compare_gt_iff _ _).mpr h]; rfl
theorem DV_le {n m : Int} {k : Nat} {a b : UInt64} (ha : DV n k a) (hb : DV m k b) : (V a < V b ↔ n < m) ∧ (V a = V b ↔ n = m) := by
  rw [ha.2.2, hb.2.2]
  have hp : (0 : Int) < ((2 ^ (1074 - k) : Nat) : Int) := by have := Nat.two_pow_pos (1074 - k); omega
  exact ⟨Int.mul_lt_mul_right hp, ⟨fun q => Int.eq_of_mul_eq_mul_right (by omega) q, fun q => by rw [q]⟩⟩
theorem DV_cmp {n m : Int} {k : Nat} {a b : UInt64} (ha : DV n k a) (hb : DV m k b) (o : ClassFile.CmpOp) : (n < m → Op.cmpValue (FP.dcmp a b) o = -1) ∧ (n = m → Op.cmpValue (FP.dcmp a b) o = 0) ∧ (m < n → Op.cmpValue (FP.dcmp a b) o = 1) := by
  obtain ⟨h1, h2, h3⟩ := cmpv_V ha.1 hb.1 o
  exact ⟨fun q => h1 ((DV_le ha hb).1.mpr q), fun q => h2 ((DV_le ha hb).2.mpr q), fun q => h3 ((DV_le hb ha).1.mpr q)⟩
theorem DV_eq0 {n : Int} {k : Nat} {a b : UInt64} (ha : DV n k a) (hb : DV n k b) (o : ClassFile.CmpOp) : Op.cmpValue (FP.dcmp a b) o = 0 := (DV_cmp ha hb o).2.1 rfl
theorem DV_d2l {n : Int} {a : UInt64} (h : DV n 0 a) (h1 : -9223372036854775808 ≤ n) (h2 : n < 9223372036854775808) : (FP.d2l a).toInt = n := by
  obtain ⟨hf, -, hv⟩ := h
  have hn : val64 a ≠ .nan := by obtain ⟨s, c, q, e⟩ := hf; rw [e]; exact Datum.noConfusion
  rw [show FP.d2l a = Core.d2l a from rfl, d2l_val hn, zmag_V]
  have hs : signed (sgn (val64 a)) (V a).natAbs = V a := by rw [← zmag_V]; rfl
  have ho : (1074 - 0 : Nat) = 1074 := rfl
  rw [ho, show (2 ^ 1074 : Nat) = one64 from rfl] at hv
  have hm : (V a).natAbs = n.natAbs * one64 := by rw [hv, Int.natAbs_mul, Int.natAbs_natCast]
  have hd : (V a).natAbs / one64 = n.natAbs := by rw [hm, Nat.mul_div_cancel _ one64_pos]
  rw [hd]
  have hsn : signed (sgn (val64 a)) n.natAbs = n := by
    rw [hm, signed_mul, hv] at hs
    exact Int.eq_of_mul_eq_mul_right (by have := one64_pos; omega) hs
  rw [hsn]
  omega
end Jvm.OwnF
namespace Jvm.OwnF
open Jvm.RoadKit
/-! ints and longs as whole numbers -/
theorem mul_bd {a b : Int} {A B : Nat} (ha : a.natAbs ≤ A) (hb : b.natAbs ≤ B) : (a * b).natAbs ≤ A * B := by rw [Int.natAbs_mul]; exact Nat.mul_le_mul ha hb
theorem iadd_v {x y z : Int32} (h : x + y = z) (hb : (x.toInt + y.toInt).natAbs < 2147483648) : z.toInt = x.toInt + y.toInt := by rw [← h, Int32.toInt_add]; exact Int.bmod_eq_of_le (by omega) (by omega)
theorem isub_v {x y z : Int32} (h : x - y = z) (hb : (x.toInt - y.toInt).natAbs < 2147483648) : z.toInt = x.toInt - y.toInt := by rw [← h, Int32.toInt_sub]; exact Int.bmod_eq_of_le (by omega) (by omega)
theorem imul_v {x y z : Int32} (h : x * y = z) (hb : (x.toInt * y.toInt).natAbs < 2147483648) : z.toInt = x.toInt * y.toInt := by rw [← h, Int32.toInt_mul]; exact Int.bmod_eq_of_le (by omega) (by omega)
theorem ladd_v {x y z : Int64} (h : x + y = z) (hb : (x.toInt + y.toInt).natAbs < 9223372036854775808) : z.toInt = x.toInt + y.toInt := by rw [← h, Int64.toInt_add]; exact Int.bmod_eq_of_le (by omega) (by omega)
theorem lsub_v {x y z : Int64} (h : x - y = z) (hb : (x.toInt - y.toInt).natAbs < 9223372036854775808) : z.toInt = x.toInt - y.toInt := by rw [← h, Int64.toInt_sub]; exact Int.bmod_eq_of_le (by omega) (by omega)
theorem lmul_v {x y z : Int64} (h : x * y = z) (hb : (x.toInt * y.toInt).natAbs < 9223372036854775808) : z.toInt = x.toInt * y.toInt := by rw [← h, Int64.toInt_mul]; exact Int.bmod_eq_of_le (by omega) (by omega)
theorem i2l_v {x : Int32} {z : Int64} (h : x.toInt64 = z) : z.toInt = x.toInt := by rw [← h]; exact c_i2l x
theorem l2i_v {x : Int64} {z : Int32} (h : x.toInt32 = z) (hb : -2147483648 ≤ x.toInt ∧ x.toInt < 2147483648) : z.toInt = x.toInt := by
  rw [← h]; have h1 := c_l2i x; have h2 := rng32 x.toInt32; omega
theorem rng32b (x : Int32) : x.toInt.natAbs ≤ 2147483648 := by have := rng32 x; omega
theorem rng64b (x : Int64) : x.toInt.natAbs ≤ 9223372036854775808 := by have := rng64 x; omega
theorem ishr16 {p z : Int32} (h : p >>> ((16 : Int32) &&& 31) = z) : z.toInt = p.toInt / 65536 := by
  rw [← h, c_ishr p 16 16 (by decide)]; rfl
theorem i2s_b {x z : Int32} (h : x.toInt16.toInt32 = z) : -32768 ≤ z.toInt ∧ z.toInt < 32768 := by rw [← h]; exact (c_i2s x).2
/-- x % y, y > 0, x ≥ 0 -/
theorem irem_v {x y z : Int32} (h : x % y = z) (hx : 0 ≤ x.toInt) : z.toInt = x.toInt % y.toInt := by rw [← h, Int32.toInt_mod]; exact Int.tmod_eq_emod_of_nonneg hx
theorem lrem_v {x y z : Int64} (h : x % y = z) (hx : 0 ≤ x.toInt) : z.toInt = x.toInt % y.toInt := by rw [← h, Int64.toInt_mod]; exact Int.tmod_eq_emod_of_nonneg hx
theorem mask31 {x z : Int32} (h : x &&& (2147483647 : Int32) = z) : 0 ≤ z.toInt ∧ z.toInt < 2147483648 := by
  rw [← h, c_mask x 2147483647 31 (by decide) (by decide)]
  have e : ((2 ^ 31 : Nat) : Int) = 2147483648 := by decide
  rw [e]; omega
/-- x << q, q < 64, no overflow -/
theorem lshl_v {x z : Int64} {q : Int32} (h : x <<< (q &&& 0x3f).toInt64 = z) {k : Nat} (hq : q.toInt = (k : Int)) (hk : k < 64) (hb : (x.toInt * ((2 ^ k : Nat) : Int)).natAbs < 9223372036854775808) : z.toInt = x.toInt * ((2 ^ k : Nat) : Int) := by
  have hn : q.toBitVec.toNat % 64 = k := by
    have e : q.toBitVec.toNat = k := by
      have h1 : q.toBitVec.toInt = (k : Int) := hq
      have h2 := BitVec.toInt_eq_toNat_bmod q.toBitVec
      rw [h1] at h2
      have h3 := q.toBitVec.isLt
      have h4 := Int.bmod_emod (x := (q.toBitVec.toNat : Int)) (m := 2 ^ 32)
      omega
    omega
  have := c_lshl x q k hn
  rw [h] at this
  have r := rng64 z
  omega
end Jvm.OwnF
namespace Jvm.OwnF
open Jvm.RoadKit
theorem nat32 {q : Int32} {k : Nat} (hq : q.toInt = (k : Int)) : q.toBitVec.toNat = k := by
  have h1 : q.toBitVec.toInt = (k : Int) := hq
  have h2 := BitVec.toInt_eq_toNat_bmod q.toBitVec
  rw [h1] at h2
  have h3 := q.toBitVec.isLt
  have h5 := rng32 q
  have h4 := Int.bmod_emod (x := (q.toBitVec.toNat : Int)) (m := 2 ^ 32)
  omega
theorem ishl_v {x z q : Int32} (h : x <<< (q &&& 31) = z) {k : Nat} (hq : q.toInt = (k : Int)) (hk : k < 32) (hb : (x.toInt * ((2 ^ k : Nat) : Int)).natAbs < 2147483648) : z.toInt = x.toInt * ((2 ^ k : Nat) : Int) := by
  have hn : q.toBitVec.toNat % 32 = k := by rw [nat32 hq]; omega
  have := c_ishl x q k hn
  rw [h] at this
  have r := rng32 z
  omega
theorem ishl_1 {z q : Int32} (h : (1 : Int32) <<< (q &&& 31) = z) {k : Nat} (hq : q.toInt = (k : Int)) (hk : k < 31) : z.toInt = ((2 ^ k : Nat) : Int) := by
  have p : 2 ^ k ≤ 2 ^ 30 := Nat.pow_le_pow_right (by decide) (by omega)
  have := ishl_v h hq (by omega) (by rw [show (1 : Int32).toInt = 1 by decide, Int.one_mul, Int.natAbs_natCast]; omega)
  rw [show (1 : Int32).toInt = 1 by decide, Int.one_mul] at this
  exact this
end Jvm.OwnF
namespace Jvm.OwnF
open Jvm.FP Jvm.FP.Core
/-! the rounding is a nearest one; the sum's error -/
def RepU (r : Int) : Prop := ∃ (m : Int) (e : Nat), r = m * ((2 ^ e : Nat) : Int) ∧ m.natAbs < 2 ^ 53
theorem Rep.u {r : Int} (h : Rep r) : RepU r := by obtain ⟨m, e, h1, h2, -⟩ := h; exact ⟨m, e, h1, h2⟩
theorem RepU.rep {r : Int} (h : RepU r) (hb : r.natAbs ≤ BIG) : Rep r := by
  obtain ⟨m, e, rfl, hm⟩ := h
  by_cases h0 : m = 0
  · subst h0; exact ⟨0, 0, by simp, by decide, by decide⟩
  · refine ⟨m, e, rfl, hm, ?_⟩
    rw [Int.natAbs_mul, Int.natAbs_natCast] at hb
    have h1 : 1 ≤ m.natAbs := by omega
    have h2 : 2 ^ e ≤ 2 ^ 2000 := Nat.le_trans (Nat.le_mul_of_pos_left _ h1) hb
    have := (Nat.pow_le_pow_iff_right (by decide : 1 < 2)).mp h2
    omega
theorem RepU.neg {r : Int} (h : RepU r) : RepU (-r) := by
  obtain ⟨m, e, rfl, hm⟩ := h
  exact ⟨-m, e, by rw [Int.neg_mul], by rwa [Int.natAbs_neg]⟩
theorem RepU.zero : RepU 0 := ⟨0, 0, by simp, by decide⟩
theorem repU_of {m : Int} {e : Nat} (hm : m.natAbs ≤ 2 ^ 53) : RepU (m * ((2 ^ e : Nat) : Int)) := by
  by_cases h : m.natAbs < 2 ^ 53
  · exact ⟨m, e, rfl, h⟩
  · refine ⟨m.sign, e + 53, ?_, ?_⟩
    · have h1 : m.natAbs = 2 ^ 53 := by omega
      have h2 : m = m.sign * (m.natAbs : Int) := (Int.sign_mul_natAbs m).symm
      conv => lhs; rw [h2, h1]
      rw [Nat.pow_add, Int.natCast_mul, Int.mul_assoc]
      congr 1
      rw [Int.mul_comm]
    · have : m.sign.natAbs ≤ 1 := by
        rcases Int.lt_trichotomy m 0 with q | q | q
        · rw [Int.sign_eq_neg_one_of_neg q]; decide
        · rw [q]; decide
        · rw [Int.sign_eq_one_of_pos q]; decide
      omega
theorem rnd_fin {n : Int} {d : Nat} (hd : 0 < d) (hn : n.natAbs ≤ BIG * d) : ∃ c q, roundRatio b64 (decide (n < 0)) n.natAbs d (-1074) = .fin (decide (n < 0)) c q ∧ Jvm.FP.Core.fits b64 (.fin (decide (n < 0)) c q) ∧ rnd n d = signed (decide (n < 0)) (inUnits c q (-1074)) := by
  obtain ⟨c, q, h⟩ := fin_round (s := decide (n < 0)) hd hn
  refine ⟨c, q, h, h ▸ roundRatio_fits good_b64 _ _ hd _, ?_⟩
  unfold rnd
  rw [h]
  show signed _ (inUnits c q b64.qmin) = _
  rw [qmin_b64]
  rfl
theorem rnd_rep {n : Int} {d : Nat} (hd : 0 < d) (hn : n.natAbs ≤ BIG * d) : RepU (rnd n d) := by
  obtain ⟨c, q, -, h2, h3⟩ := rnd_fin hd hn
  rw [h3]
  unfold inUnits
  rw [signed_mul]
  exact ⟨_, _, rfl, by rw [natAbs_signed]; exact h2.1⟩
theorem rnd_near {n : Int} {d : Nat} {r : Int} (hd : 0 < d) (hn : n.natAbs ≤ BIG * d) (hr : RepU r) : (n - rnd n d * (d : Int)).natAbs ≤ (n - r * (d : Int)).natAbs := by
  obtain ⟨c, q, h1, h2, h3⟩ := rnd_fin hd hn
  have near : ∀ (c' : Nat) (e' : Nat), c' < 2 ^ 53 → ((n.natAbs : Int) - (inUnits c q (-1074) : Int) * (d : Int)).natAbs ≤ ((n.natAbs : Int) - ((c' * 2 ^ e' : Nat) : Int) * (d : Int)).natAbs := by
    intro c' e' hc'
    have := roundRatio_nearest good_b64 (e0 := -1074) (q' := (e' : Int) - 1074) hd h1 (c' := c') hc' (by rw [qmin_b64]; omega) (by rw [qmin_b64]; decide) (by decide)
    unfold distance at this
    rw [un0] at this
    unfold inUnits at this ⊢
    rw [show ((e' : Int) - 1074 - -1074).toNat = e' by omega] at this
    exact this
  have hrn : rnd n d * (d : Int) = signed (decide (n < 0)) (inUnits c q (-1074) * d) := by rw [h3, signed_mul]
  rw [hrn]
  have n0 := near 0 0 (by decide)
  obtain ⟨m, e, rfl, hm⟩ := hr
  have nm := near m.natAbs e hm
  have e1 : ((inUnits c q (-1074) : Nat) : Int) * (d : Int) = ((inUnits c q (-1074) * d : Nat) : Int) := by simp
  have e2 : ((m.natAbs * 2 ^ e : Nat) : Int) * (d : Int) = ((m.natAbs * 2 ^ e * d : Nat) : Int) := by simp
  rw [e1] at n0 nm
  rw [e2] at nm
  have e3 : m * ((2 ^ e : Nat) : Int) * (d : Int) = signed (decide (m < 0)) (m.natAbs * 2 ^ e * d) := by rw [Nat.mul_assoc, signed_mul, signed_natAbs, Int.natCast_mul, Int.mul_assoc]
  rw [e3]
  simp only [Nat.zero_mul, Int.natCast_zero, Int.zero_mul, Int.sub_zero] at n0
  generalize inUnits c q (-1074) * d = x at *
  generalize m.natAbs * 2 ^ e * d = y at *
  by_cases hn0 : n < 0 <;> by_cases hm0 : m < 0 <;> simp only [hn0, hm0, decide_true, decide_false, signed, if_true, Bool.false_eq_true, if_false] <;> omega
theorem rnd_mono {n n' : Int} {d d' : Nat} (hd : 0 < d) (hd' : 0 < d') (hn : n.natAbs ≤ BIG * d) (hn' : n'.natAbs ≤ BIG * d') (h : n * (d' : Int) ≤ n' * (d : Int)) : rnd n d ≤ rnd n' d' := by
  refine Int.le_of_not_gt fun hlt => ?_
  have r1 := rnd_near hd hn (rnd_rep hd' hn')
  have r2 := rnd_near hd' hn' (rnd_rep hd hn)
  have hne : n * (d' : Int) ≠ n' * (d : Int) := fun q => by
    have := rnd_congr hd hd' q
    omega
  generalize rnd n d = a at *
  generalize rnd n' d' = b at *
  have pd : (0 : Int) < d := by omega
  have pd' : (0 : Int) < d' := by omega
  have k1 : b * (d : Int) < a * (d : Int) := Int.mul_lt_mul_of_pos_right hlt pd
  have k2 : b * (d' : Int) < a * (d' : Int) := Int.mul_lt_mul_of_pos_right hlt pd'
  -- 2 n ≥ (a + b) d and 2 n' ≤ (a + b) d'
  have q1 : (a + b) * (d : Int) ≤ 2 * n := by rw [Int.add_mul]; omega
  have q2 : 2 * n' ≤ (a + b) * (d' : Int) := by rw [Int.add_mul]; omega
  have q3 := Int.mul_le_mul_of_nonneg_right q1 (Int.le_of_lt pd')
  have q4 := Int.mul_le_mul_of_nonneg_right q2 (Int.le_of_lt pd)
  have q3' : (a + b) * ((d : Int) * (d' : Int)) ≤ 2 * (n * (d' : Int)) := by rw [← Int.mul_assoc (a + b), ← Int.mul_assoc 2 n]; exact q3
  have q4' : 2 * (n' * (d : Int)) ≤ (a + b) * ((d : Int) * (d' : Int)) := by rw [← Int.mul_assoc 2 n', Int.mul_comm (d : Int) d', ← Int.mul_assoc (a + b)]; exact q4
  omega
theorem rnd_neg (n : Int) {d : Nat} (hd : 0 < d) : rnd (-n) d = -rnd n d := by
  by_cases h0 : n = 0
  · subst h0
    have : rnd 0 d = 0 := zval_zero _ _ _
    simp [this]
  · unfold rnd
    rw [Int.natAbs_neg, ← zval_negate, negate_roundRatio]
    congr 2
    by_cases h : n < 0
    · simp [h, show ¬ (0 < n) by omega]
    · simp [h, show 0 < n by omega]
/-- multiples of 2^e up to 2^53 of them -/
theorem g1 {r : Int} {e : Nat} (h : ((2 ^ e : Nat) : Int) ∣ r) (hb : r.natAbs ≤ 2 ^ 53 * 2 ^ e) : RepU r := by
  obtain ⟨k, rfl⟩ := h
  rw [Int.mul_comm]
  refine repU_of ?_
  rw [Int.natAbs_mul, Int.natAbs_natCast, Nat.mul_comm] at hb
  exact Nat.le_of_mul_le_mul_right hb (Nat.two_pow_pos e)
theorem g2 {r : Int} {e : Nat} (h : RepU r) (hb : 2 ^ 52 * 2 ^ e ≤ r.natAbs) : ((2 ^ e : Nat) : Int) ∣ r := by
  obtain ⟨m, f, rfl, hm⟩ := h
  rw [Int.natAbs_mul, Int.natAbs_natCast] at hb
  have h1 : 2 ^ (52 + e) < 2 ^ (53 + f) := by
    rw [Nat.pow_add, Nat.pow_add]
    exact Nat.lt_of_le_of_lt hb (Nat.mul_lt_mul_of_pos_right hm (Nat.two_pow_pos f))
  have h2 := (Nat.pow_lt_pow_iff_right (by decide : 1 < 2)).mp h1
  have h3 : 2 ^ f = 2 ^ e * 2 ^ (f - e) := by rw [← Nat.pow_add]; congr 1; omega
  rw [h3, Int.natCast_mul, ← Int.mul_assoc, Int.mul_comm m, Int.mul_assoc]
  exact Int.dvd_mul_right _ _
theorem floor_bd {n G : Int} (hp : 0 < G) (hb : (n.natAbs : Int) ≤ G * 9007199254740992) (hz : n % G ≠ 0) : -9007199254740992 ≤ n / G ∧ n / G < 9007199254740992 := by
  have hdm := Int.mul_ediv_add_emod n G
  have h0 := Int.emod_nonneg n (Int.ne_of_gt hp)
  have h1 := Int.emod_lt_of_pos n hp
  generalize n / G = k at *
  generalize n % G = x at *
  constructor
  · refine Int.le_of_not_gt fun q => ?_
    have : G * k ≤ G * (-9007199254740993) := Int.mul_le_mul_of_nonneg_left (by omega) (Int.le_of_lt hp)
    rw [Int.mul_neg] at this
    have e1 : G * 9007199254740993 = G * 9007199254740992 + G := by rw [show (9007199254740993 : Int) = 9007199254740992 + 1 from rfl, Int.mul_add, Int.mul_one]
    omega
  · refine Int.lt_of_not_ge fun q => ?_
    have : G * 9007199254740992 ≤ G * k := Int.mul_le_mul_of_nonneg_left q (Int.le_of_lt hp)
    omega
theorem g3 {n : Int} {e : Nat} (hn : n.natAbs ≤ BIG) (hb : n.natAbs ≤ 2 ^ 53 * 2 ^ e) : 2 * (n - rnd n 1).natAbs ≤ 2 ^ e := by
  have hn' : n.natAbs ≤ BIG * 1 := by omega
  have hp : (0 : Int) < ((2 ^ e : Nat) : Int) := by have := Nat.two_pow_pos e; omega
  have near : ∀ {r : Int}, RepU r → (n - rnd n 1).natAbs ≤ (n - r).natAbs := fun {r} hr => by
    have := rnd_near (by decide) hn' hr
    simpa using this
  by_cases hz : n % ((2 ^ e : Nat) : Int) = 0
  · have := near (g1 (Int.dvd_of_emod_eq_zero hz) hb)
    rw [Int.sub_self] at this
    have h2 : (n - rnd n 1).natAbs = 0 := by simpa using this
    rw [h2]; exact Nat.zero_le _
  · have hbI : (n.natAbs : Int) ≤ ((2 ^ e : Nat) : Int) * 9007199254740992 := by
      have : ((n.natAbs : Nat) : Int) ≤ ((2 ^ 53 * 2 ^ e : Nat) : Int) := Int.ofNat_le.mpr hb
      rw [Int.natCast_mul, Int.mul_comm] at this
      exact this
    obtain ⟨k1, k2⟩ := floor_bd hp hbI hz
    have lo := near (repU_of (m := n / ((2 ^ e : Nat) : Int)) (e := e) (by omega))
    have hi := near (repU_of (m := n / ((2 ^ e : Nat) : Int) + 1) (e := e) (by omega))
    have hdm := Int.mul_ediv_add_emod n ((2 ^ e : Nat) : Int)
    have h0 := Int.emod_nonneg n (Int.ne_of_gt hp)
    have h1 := Int.emod_lt_of_pos n hp
    rw [Int.add_mul, Int.one_mul] at hi
    rw [Int.mul_comm] at lo hi
    generalize ((2 ^ e : Nat) : Int) * (n / ((2 ^ e : Nat) : Int)) = f at *
    generalize n % ((2 ^ e : Nat) : Int) = x at *
    generalize (n - rnd n 1).natAbs = w at *
    generalize 2 ^ e = G at *
    omega
theorem near1 {n r : Int} (hn : n.natAbs ≤ BIG) (hr : RepU r) : (n - rnd n 1).natAbs ≤ (n - r).natAbs := by
  have := rnd_near (n := n) (d := 1) (by decide) (by omega) hr
  simpa using this
theorem rep1 {n : Int} (hn : n.natAbs ≤ BIG) : RepU (rnd n 1) := rnd_rep (by decide) (by omega)
theorem exact1 {n : Int} (hn : n.natAbs ≤ BIG) (hr : RepU n) : rnd n 1 = n := rnd_exact (by decide) (by simp) (hr.rep hn)
theorem twice1 {n : Int} (hn : n.natAbs ≤ BIG) : (rnd n 1).natAbs ≤ 2 * n.natAbs := by
  have := near1 hn RepU.zero
  rw [Int.sub_zero] at this
  omega
/-- a number as great as a power rounds to one as great -/
theorem ge1 {n : Int} {e : Nat} (hn : n.natAbs ≤ BIG) (h : 2 ^ e ≤ n.natAbs) : 2 ^ e ≤ (rnd n 1).natAbs := by
  have r1 : RepU ((2 ^ e : Nat) : Int) := ⟨1, e, by simp, by decide⟩
  have n1 := near1 hn r1
  have n2 := near1 hn r1.neg
  omega
/-- the least grid for a number: 2^f with |n| ≤ 2^53 * 2^f, and |n| > 2^52 * 2^f unless f = 0 -/
theorem grid (n : Nat) : ∃ f : Nat, n ≤ 2 ^ 53 * 2 ^ f ∧ (f = 0 ∨ 2 ^ 52 * 2 ^ f < n) := by
  by_cases h : n ≤ 2 ^ 53
  · exact ⟨0, by omega, Or.inl rfl⟩
  · have h1 : 2 ^ (n - 1).log2 ≤ n - 1 := Nat.log2_self_le (by omega)
    have h2 : n - 1 < 2 ^ ((n - 1).log2 + 1) := Nat.lt_log2_self
    have h3 : 53 ≤ (n - 1).log2 := by
      refine Nat.le_of_not_lt fun q => ?_
      have : 2 ^ ((n - 1).log2 + 1) ≤ 2 ^ 53 := Nat.pow_le_pow_right (by decide) (by omega)
      omega
    refine ⟨(n - 1).log2 - 52, ?_, Or.inr ?_⟩
    · rw [← Nat.pow_add, show 53 + ((n - 1).log2 - 52) = (n - 1).log2 + 1 by omega]; omega
    · rw [← Nat.pow_add, show 52 + ((n - 1).log2 - 52) = (n - 1).log2 by omega]; omega
theorem dvd_le {a b : Nat} (h : a ≤ b) : ((2 ^ a : Nat) : Int) ∣ ((2 ^ b : Nat) : Int) := Int.natCast_dvd_natCast.mpr (Nat.pow_dvd_pow 2 h)
/-- the error of a sum is a double -/
theorem err_rep {a b : Int} (ha : RepU a) (hb : RepU b) (hn : (a + b).natAbs ≤ BIG) : RepU (a + b - rnd (a + b) 1) := by
  have na := near1 hn ha
  have nb := near1 hn hb
  obtain ⟨ma, ea, ea', hma⟩ := id ha
  obtain ⟨mb, eb, eb', hmb⟩ := id hb
  -- the lesser of the two exponents
  have key : ∀ e : Nat, e ≤ ea → e ≤ eb → (a.natAbs ≤ 2 ^ 53 * 2 ^ e ∨ b.natAbs ≤ 2 ^ 53 * 2 ^ e) → RepU (a + b - rnd (a + b) 1) := by
    intro e h1 h2 h3
    have da : ((2 ^ e : Nat) : Int) ∣ a := by rw [ea']; exact Int.dvd_trans (dvd_le h1) (Int.dvd_mul_left _ _)
    have db : ((2 ^ e : Nat) : Int) ∣ b := by rw [eb']; exact Int.dvd_trans (dvd_le h2) (Int.dvd_mul_left _ _)
    have ds : ((2 ^ e : Nat) : Int) ∣ a + b := Int.dvd_add da db
    by_cases hs : (a + b).natAbs ≤ 2 ^ 53 * 2 ^ e
    · rw [exact1 hn (g1 ds hs), Int.sub_self]; exact RepU.zero
    · have h4 : 2 ^ (52 + e) ≤ (a + b).natAbs := by rw [Nat.pow_add]; omega
      have h5 := ge1 hn h4
      rw [Nat.pow_add] at h5
      have dr := g2 (rep1 hn) h5
      refine g1 (Int.dvd_sub ds dr) ?_
      rw [show a + b - a = b by omega] at na
      rw [show a + b - b = a by omega] at nb
      omega
  by_cases hle : ea ≤ eb
  · refine key ea (Nat.le_refl _) hle (Or.inl ?_)
    rw [ea', Int.natAbs_mul, Int.natAbs_natCast]
    exact Nat.mul_le_mul_right _ (Nat.le_of_lt hma)
  · refine key eb (by omega) (Nat.le_refl _) (Or.inr ?_)
    rw [eb', Int.natAbs_mul, Int.natAbs_natCast]
    exact Nat.mul_le_mul_right _ (Nat.le_of_lt hmb)
/-- the greater summand taken off the rounded sum leaves a double -/
theorem fast_rep {a b : Int} (ha : RepU a) (hb : RepU b) (hab : b.natAbs ≤ a.natAbs) (hn : (a + b).natAbs ≤ BIG) : RepU (rnd (a + b) 1 - a) := by
  obtain ⟨f, hf1, hf2⟩ := grid (a + b).natAbs
  rcases Nat.eq_zero_or_pos f with h0 | h0
  · subst h0
    have : RepU (a + b) := g1 (e := 0) (by simp) hf1
    rw [exact1 hn this, show a + b - a = b by omega]; exact hb
  · have hf3 : 2 ^ 52 * 2 ^ f < (a + b).natAbs := by omega
    have hG : 2 ^ f = 2 * 2 ^ (f - 1) := by conv => lhs; rw [show f = f - 1 + 1 by omega, Nat.pow_succ, Nat.mul_comm]
    have h5 : 2 ^ 52 * 2 ^ f ≤ (rnd (a + b) 1).natAbs := by
      rw [← Nat.pow_add]
      exact ge1 hn (by rw [Nat.pow_add]; omega)
    have d3 := g3 hn hf1
    have ds := g2 (rep1 hn) h5
    by_cases hbig : 2 ^ 53 * 2 ^ (f - 1) ≤ b.natAbs
    · -- both lie on the grid of the sum: it is exact
      have db := g2 (e := f) hb (by omega)
      have da := g2 (e := f) ha (by omega)
      rw [exact1 hn (g1 (Int.dvd_add da db) hf1), show a + b - a = b by omega]; exact hb
    · have da : ((2 ^ (f - 1) : Nat) : Int) ∣ a := g2 (e := f - 1) ha (by omega)
      have ds' : ((2 ^ (f - 1) : Nat) : Int) ∣ rnd (a + b) 1 := Int.dvd_trans (dvd_le (by omega)) ds
      have dd := Int.dvd_sub ds' da
      obtain ⟨k, hk⟩ := dd
      rw [hk, Int.mul_comm]
      refine repU_of ?_
      have hkn : (rnd (a + b) 1 - a).natAbs = 2 ^ (f - 1) * k.natAbs := by rw [hk, Int.natAbs_mul, Int.natAbs_natCast]
      have hlt : 2 ^ (f - 1) * k.natAbs < 2 ^ (f - 1) * (2 ^ 53 + 1) := by
        rw [← hkn, Nat.mul_add, Nat.mul_one, Nat.mul_comm (2 ^ (f - 1)) (2 ^ 53)]
        generalize rnd (a + b) 1 = s at *
        omega
      have := Nat.lt_of_mul_lt_mul_left hlt
      omega
/-- the smaller summand first: what is taken from the rounded sum lies near the greater one -/
theorem near_rep {a b : Int} (ha : RepU a) (hb : RepU b) (hab : a.natAbs ≤ b.natAbs) (hn : (a + b).natAbs ≤ BIG) (hn2 : (rnd (a + b) 1 - a).natAbs ≤ BIG) : RepU (b - rnd (rnd (a + b) 1 - a) 1) := by
  obtain ⟨f, hf1, hf2⟩ := grid b.natAbs
  have d1 := g3 (e := f + 1) hn (by rw [Nat.pow_succ]; omega)
  rw [Nat.pow_succ] at d1
  have d2 := near1 hn2 hb
  have rx := rep1 hn2
  generalize hs : rnd (a + b) 1 = s at *
  generalize hx : rnd (s - a) 1 = x at *
  have hbx : (b - x).natAbs ≤ 2 * 2 ^ f := by omega
  rcases Nat.eq_zero_or_pos f with h0 | h0
  · subst h0
    exact g1 (e := 0) (by simp) (by omega)
  · have hG : 2 ^ f = 2 * 2 ^ (f - 1) := by conv => lhs; rw [show f = f - 1 + 1 by omega, Nat.pow_succ, Nat.mul_comm]
    have db := g2 (e := f - 1) hb (by omega)
    have hp := Nat.two_pow_pos (f - 1)
    have dx := g2 (e := f - 1) rx (by omega)
    exact g1 (Int.dvd_sub db dx) (by omega)
/-- KNUTH's two-sum -/
theorem two_sum {a b : Int} (ha : RepU a) (hb : RepU b) (ba : a.natAbs ≤ 2 ^ 1900) (bb : b.natAbs ≤ 2 ^ 1900) {s x aa da db r : Int} (hs : s = rnd (a + b) 1) (hx : x = rnd (s - a) 1) (haa : aa = rnd (s - x) 1) (hda : da = rnd (a - aa) 1) (hdb : db = rnd (b - x) 1) (hr : r = rnd (da + db) 1) : r = a + b - s := by
  have hB : 64 * 2 ^ 1900 ≤ BIG := by unfold BIG; rw [show (64 : Nat) = 2 ^ 6 from rfl, ← Nat.pow_add]; exact Nat.pow_le_pow_right (by decide) (by decide)
  generalize 2 ^ 1900 = M at *
  have n1 : (a + b).natAbs ≤ BIG := by omega
  have s2 : s.natAbs ≤ 4 * M := by have := twice1 n1; rw [← hs] at this; omega
  have n2 : (s - a).natAbs ≤ BIG := by omega
  have x2 : x.natAbs ≤ 10 * M := by have := twice1 n2; rw [← hx] at this; omega
  have n3 : (s - x).natAbs ≤ BIG := by omega
  have n4 : (b - x).natAbs ≤ BIG := by omega
  have rs : RepU s := hs ▸ rep1 n1
  have err := err_rep ha hb n1
  rw [← hs] at err
  have eb : (a + b - s).natAbs ≤ BIG := by omega
  -- what suffices: the three differences are exact
  have fin : aa = s - x → da = a - aa → db = b - x → r = a + b - s := by
    intro e1 e2 e3
    rw [hr, e2, e3, e1, show a - (s - x) + (b - x) = a + b - s by omega]
    exact exact1 eb err
  by_cases hab : b.natAbs ≤ a.natAbs
  · have rx := fast_rep ha hb hab n1
    rw [← hs] at rx
    have ex : x = s - a := by rw [hx]; exact exact1 n2 rx
    have e1 : aa = s - x := by rw [haa, ex, show s - (s - a) = a by omega]; exact exact1 (by omega) ha
    refine fin e1 ?_ ?_
    · rw [hda, e1, ex, show a - (s - (s - a)) = 0 by omega]; exact exact1 (Nat.zero_le _) RepU.zero
    · rw [hdb, ex, show b - (s - a) = a + b - s by omega]; exact exact1 eb err
  · have e3 : db = b - x := by
      have := near_rep ha hb (by omega) n1 (by rw [← hs]; exact n2)
      rw [← hs, ← hx] at this
      rw [hdb]; exact exact1 n4 this
    -- either the sum is exact, or it is as great as a
    have alt : s = a + b ∨ a.natAbs ≤ s.natAbs := by
      obtain ⟨f, hf1, hf2⟩ := grid a.natAbs
      have da' : ((2 ^ f : Nat) : Int) ∣ a := by
        rcases hf2 with h0 | h0
        · subst h0; simp
        · exact g2 ha (by omega)
      have db' : ((2 ^ f : Nat) : Int) ∣ b := by
        rcases hf2 with h0 | h0
        · subst h0; simp
        · exact g2 hb (by omega)
      by_cases hsm : (a + b).natAbs ≤ 2 ^ 53 * 2 ^ f
      · exact Or.inl (hs.trans (exact1 n1 (g1 (Int.dvd_add da' db') hsm)))
      · right
        have : 2 ^ (53 + f) ≤ (a + b).natAbs := by rw [Nat.pow_add]; omega
        have := ge1 n1 this
        rw [← hs, Nat.pow_add] at this
        omega
    rcases alt with es | hge
    · have ex : x = b := by rw [hx, es, show a + b - a = b by omega]; exact exact1 (by omega) hb
      have e1 : aa = s - x := by rw [haa, ex, es, show a + b - b = a by omega]; exact exact1 (by omega) ha
      refine fin e1 ?_ e3
      rw [hda, e1, ex, es, show a - (a + b - b) = 0 by omega]; exact exact1 (Nat.zero_le _) RepU.zero
    · have n2' : (s + -a).natAbs ≤ BIG := by rw [← Int.sub_eq_add_neg]; exact n2
      have r1 := fast_rep rs ha.neg (by rw [Int.natAbs_neg]; exact hge) n2'
      have r2 := err_rep rs ha.neg n2'
      rw [← Int.sub_eq_add_neg, ← hx] at r1 r2
      have e1 : aa = s - x := by
        rw [haa]; exact exact1 n3 (by have := r1.neg; rwa [show -(x - s) = s - x by omega] at this)
      refine fin e1 ?_ e3
      rw [hda, e1]
      exact exact1 (by omega) (by have := r2.neg; rwa [show -(s - a - x) = a - (s - x) by omega] at this)
/-- DEKKER's fast two-sum -/
theorem fast_two {a b : Int} (ha : RepU a) (hb : RepU b) (ba : a.natAbs ≤ 2 ^ 1900) (hab : b.natAbs ≤ a.natAbs) {s x r : Int} (hs : s = rnd (a + b) 1) (hx : x = rnd (s - a) 1) (hr : r = rnd (b - x) 1) : r = a + b - s := by
  have hB : 64 * 2 ^ 1900 ≤ BIG := by unfold BIG; rw [show (64 : Nat) = 2 ^ 6 from rfl, ← Nat.pow_add]; exact Nat.pow_le_pow_right (by decide) (by decide)
  generalize 2 ^ 1900 = M at *
  have n1 : (a + b).natAbs ≤ BIG := by omega
  have s2 : s.natAbs ≤ 4 * M := by have := twice1 n1; rw [← hs] at this; omega
  have n2 : (s - a).natAbs ≤ BIG := by omega
  have err := err_rep ha hb n1
  rw [← hs] at err
  have rx := fast_rep ha hb hab n1
  rw [← hs] at rx
  have ex : x = s - a := by rw [hx]; exact exact1 n2 rx
  rw [hr, ex, show b - (s - a) = a + b - s by omega]
  exact exact1 (by omega) err
end Jvm.OwnF
namespace Jvm.OwnF
open Jvm.FP Jvm.FP.Core
/-! rounded whole numbers; two-sum on doubles -/
theorem le1 {n : Int} {e : Nat} (hn : n.natAbs ≤ BIG) (h : n.natAbs ≤ 2 ^ e) : (rnd n 1).natAbs ≤ 2 ^ e := by
  have r1 : RepU ((2 ^ e : Nat) : Int) := ⟨1, e, by simp, by decide⟩
  have n1 := near1 hn r1
  have n2 := near1 hn r1.neg
  have n3 := near1 hn RepU.zero
  generalize 2 ^ e = P at *
  omega
theorem pow_big {k : Nat} (h : k ≤ 2000) : 2 ^ k ≤ BIG := by unfold BIG; exact Nat.pow_le_pow_right (by decide) h
theorem mulU {n : Int} {k : Nat} (h : n.natAbs ≤ 2 ^ k) (j : Nat) : (n * ((2 ^ j : Nat) : Int)).natAbs ≤ 2 ^ (k + j) := by
  rw [Int.natAbs_mul, Int.natAbs_natCast, Nat.pow_add]; exact Nat.mul_le_mul_right _ h
/-- rounding keeps the grid that both stand on -/
theorem dvd_round {n : Int} {j : Nat} (hn : n.natAbs ≤ BIG) (hd : ((2 ^ j : Nat) : Int) ∣ n) : ((2 ^ j : Nat) : Int) ∣ rnd n 1 := by
  by_cases h : n.natAbs ≤ 2 ^ 53 * 2 ^ j
  · rw [exact1 hn (g1 hd h)]; exact hd
  · have h1 : 2 ^ (53 + j) ≤ n.natAbs := by rw [Nat.pow_add]; omega
    have h2 := ge1 hn h1
    rw [Nat.pow_add] at h2
    exact g2 (rep1 hn) (by omega)
theorem DV.fl {n : Int} {k : Nat} {a : UInt64} (h : DV n k a) : RepU (V a) := (rep_V h.1).u
theorem DV_of_dvd {a : UInt64} {k : Nat} (hf : DFin a) (hk : k ≤ 1074) (hd : ((2 ^ (1074 - k) : Nat) : Int) ∣ V a) : ∃ n, DV n k a := by
  obtain ⟨n, hn⟩ := hd
  exact ⟨n, hf, hk, by rw [hn, Int.mul_comm]⟩
/-- a rounded value on the grid 2^-k -/
theorem round_int {a : UInt64} {n : Int} {k j : Nat} (hk : k ≤ 1074) (hj : j ≤ 900) (hf : DFin a) (hn : n.natAbs ≤ 2 ^ j) (hv : V a = rnd (n * ((2 ^ (1074 - k) : Nat) : Int)) 1) : ∃ A : Int, DV A k a ∧ A.natAbs ≤ 2 ^ j := by
  have hb : (n * ((2 ^ (1074 - k) : Nat) : Int)).natAbs ≤ 2 ^ (j + (1074 - k)) := mulU hn _
  have hB : (n * ((2 ^ (1074 - k) : Nat) : Int)).natAbs ≤ BIG := Nat.le_trans hb (pow_big (by omega))
  have hd := dvd_round hB (Int.dvd_mul_left n ((2 ^ (1074 - k) : Nat) : Int))
  rw [← hv] at hd
  obtain ⟨A, hA⟩ := DV_of_dvd hf hk hd
  refine ⟨A, hA, ?_⟩
  have := le1 hB hb
  rw [← hv, hA.2.2, Int.natAbs_mul, Int.natAbs_natCast, Nat.pow_add] at this
  exact Nat.le_of_mul_le_mul_right this (Nat.two_pow_pos _)
theorem V_bd {n : Int} {k j : Nat} {a : UInt64} (h : DV n k a) (hn : n.natAbs ≤ 2 ^ j) : (V a).natAbs ≤ 2 ^ (j + 1074) := by
  rw [h.2.2]
  exact Nat.le_trans (mulU hn _) (Nat.pow_le_pow_right (by decide) (by omega))
theorem V_dadd' {a b z : UInt64} (h : FP.dadd a b = z) (ha : DFin a) (hb : DFin b) (hB : (V a + V b).natAbs ≤ BIG) : DFin z ∧ V z = rnd (V a + V b) 1 := h ▸ V_dadd ha hb hB
theorem V_dsub' {a b z : UInt64} (h : FP.dsub a b = z) (ha : DFin a) (hb : DFin b) (hB : (V a - V b).natAbs ≤ BIG) : DFin z ∧ V z = rnd (V a - V b) 1 := h ▸ V_dsub ha hb hB
theorem bigM : 64 * 2 ^ 1900 ≤ BIG := by unfold BIG; rw [show (64 : Nat) = 2 ^ 6 from rfl, ← Nat.pow_add]; exact Nat.pow_le_pow_right (by decide) (by decide)
theorem tw {n : Int} {z : UInt64} {K : Nat} (hv : V z = rnd n 1) (hn : n.natAbs ≤ BIG) (h : n.natAbs ≤ K) : (V z).natAbs ≤ 2 * K := by
  have := twice1 hn; rw [← hv] at this; omega
theorem DV_two {a b s x aa da db r : UInt64} (fa : DFin a) (fb : DFin b) (ba : (V a).natAbs ≤ 2 ^ 1800) (bb : (V b).natAbs ≤ 2 ^ 1800) (hs : FP.dadd a b = s) (hx : FP.dsub s a = x) (haa : FP.dsub s x = aa) (hda : FP.dsub a aa = da) (hdb : FP.dsub b x = db) (hr : FP.dadd da db = r) :
    DFin s ∧ DFin x ∧ DFin aa ∧ DFin da ∧ DFin db ∧ DFin r ∧ V r = V a + V b - V s := by
  have hB : 1000 * 2 ^ 1800 ≤ BIG := by unfold BIG; refine Nat.le_trans (Nat.mul_le_mul_right _ (show 1000 ≤ 2 ^ 10 by decide)) ?_; rw [← Nat.pow_add]; exact Nat.pow_le_pow_right (by decide) (by decide)
  have hM : 2 ^ 1800 ≤ 2 ^ 1900 := Nat.pow_le_pow_right (by decide) (by decide)
  obtain ⟨fs, vs⟩ := V_dadd' hs fa fb (by omega)
  have b1 := tw (K := 2 * 2 ^ 1800) vs (by omega) (by omega)
  obtain ⟨fx, vx⟩ := V_dsub' hx fs fa (by omega)
  have b2 := tw (K := 5 * 2 ^ 1800) vx (by omega) (by omega)
  obtain ⟨faa, vaa⟩ := V_dsub' haa fs fx (by omega)
  have b3 := tw (K := 14 * 2 ^ 1800) vaa (by omega) (by omega)
  obtain ⟨fda, vda⟩ := V_dsub' hda fa faa (by omega)
  have b4 := tw (K := 29 * 2 ^ 1800) vda (by omega) (by omega)
  obtain ⟨fdb, vdb⟩ := V_dsub' hdb fb fx (by omega)
  have b5 := tw (K := 11 * 2 ^ 1800) vdb (by omega) (by omega)
  obtain ⟨fr, vr⟩ := V_dadd' hr fda fdb (by omega)
  exact ⟨fs, fx, faa, fda, fdb, fr, two_sum (rep_V fa).u (rep_V fb).u (by omega) (by omega) vs vx vaa vda vdb vr⟩
end Jvm.OwnF
namespace Jvm.OwnF
open Jvm.FP Jvm.FP.Core
/-! scaling by a power of two -/
theorem settle_shift {s : Bool} {c : Nat} {q : Int} {j : Nat} {t : Bool} {c' : Nat} {q' : Int} (h : settle b64 s c q = .fin t c' q') (hq : q + 1 + (j : Int) ≤ b64.qmax) : settle b64 s c (q + j) = .fin t c' (q' + j) := by
  unfold settle bound at h ⊢
  by_cases h1 : c < 2 ^ b64.p
  · rw [if_pos h1] at h ⊢
    rw [if_pos (by omega)] at h ⊢
    cases h; rfl
  · rw [if_neg h1] at h ⊢
    rw [if_pos (by omega)] at h ⊢
    cases h
    rw [show q + (j : Int) + 1 = q + 1 + (j : Int) by omega]
theorem rr_shift {s : Bool} {A B : Nat} {j : Nat} {c' : Nat} {q' : Int} {t : Bool} (hA : 0 < A) (hB : 0 < B) (hlead : 53 ≤ leading A B) (hup : leading A B + (j : Int) ≤ 1900) (h : roundRatio b64 s A B (-1074) = .fin t c' q') : roundRatio b64 s A B (-1074 + (j : Int)) = .fin t c' (q' + j) := by
  unfold roundRatio at h ⊢
  rw [if_neg (by omega)] at h ⊢
  have hq : quantum b64 A B (-1074 + (j : Int)) = quantum b64 A B (-1074) + j := by
    unfold quantum
    rw [qmin_b64, show ((b64.p : Nat) : Int) = 53 from rfl]
    omega
  have hqv : quantum b64 A B (-1074) = leading A B - 1126 := by
    unfold quantum
    rw [qmin_b64, show ((b64.p : Nat) : Int) = 53 from rfl]
    omega
  rw [hq]
  unfold roundAt at h ⊢
  have e1 : unitsNum A (-1074 + (j : Int)) (quantum b64 A B (-1074) + j) = unitsNum A (-1074) (quantum b64 A B (-1074)) := by
    unfold unitsNum; congr 3; omega
  have e2 : unitsDen B (-1074 + (j : Int)) (quantum b64 A B (-1074) + j) = unitsDen B (-1074) (quantum b64 A B (-1074)) := by
    unfold unitsDen; congr 3; omega
  rw [e1, e2]
  refine settle_shift h ?_
  rw [hqv, show b64.qmax = 971 by decide]
  omega
theorem leading_ge {A B k : Nat} (hA : 0 < A) (hB : 0 < B) (h : 2 ^ k * B ≤ A) : (k : Int) ≤ leading A B := by
  have h2 := (leading_spec hA hB).2
  refine Int.le_of_not_gt fun q => ?_
  have h3 : Below A B (k : Int) := below_mono (by omega) h2
  unfold Below at h3
  rw [show (-(k : Int)).toNat = 0 by omega, show (k : Int).toNat = k by omega, Nat.mul_comm] at h3
  rw [Nat.mul_comm B] at h3
  omega
theorem leading_le {A B k : Nat} (hA : 0 < A) (hB : 0 < B) (h : A < 2 ^ k * B) : leading A B < (k : Int) := by
  have h2 := (leading_spec hA hB).1
  refine Int.lt_of_not_ge fun q => ?_
  refine h2 (below_mono (a := (k : Int)) q ?_)
  unfold Below
  rw [show (-(k : Int)).toNat = 0 by omega, show (k : Int).toNat = k by omega]
  rw [Nat.mul_comm B]
  omega
/-- above the subnormals scaling by 2^j commutes with rounding -/
theorem rnd_scale {n : Int} {d j K : Nat} (hd : 0 < d) (h1 : 2 ^ 53 * d ≤ n.natAbs) (h2 : n.natAbs < 2 ^ K * d) (hj : K + j ≤ 1900) : rnd (n * ((2 ^ j : Nat) : Int)) d = rnd n d * ((2 ^ j : Nat) : Int) := by
  have hA : 0 < n.natAbs := Nat.lt_of_lt_of_le (Nat.mul_pos (by decide) hd) h1
  have hb : n.natAbs ≤ BIG * d := Nat.le_trans (Nat.le_of_lt h2) (Nat.mul_le_mul_right _ (pow_big (by omega)))
  have hP : (0 : Int) < ((2 ^ j : Nat) : Int) := by have := Nat.two_pow_pos j; omega
  obtain ⟨c, q, e1, e2, e3⟩ := rnd_fin hd hb
  have hl1 := leading_ge hA hd h1
  have hl2 := leading_le hA hd h2
  have hs := rr_shift (j := j) hA hd hl1 (by omega) e1
  have hneg : decide (n * ((2 ^ j : Nat) : Int) < 0) = decide (n < 0) := by
    rw [decide_eq_decide]
    constructor
    · intro t
      refine Int.lt_of_not_ge fun u => ?_
      have := Int.mul_nonneg u (Int.le_of_lt hP)
      omega
    · intro t; exact Int.mul_neg_of_neg_of_pos t hP
  have e4 : rnd (n * ((2 ^ j : Nat) : Int)) d = zval b64 (roundRatio b64 (decide (n < 0)) n.natAbs d (-1074 + (j : Int))) := by
    unfold rnd
    rw [hneg, Int.natAbs_mul, Int.natAbs_natCast]
    congr 1
    refine roundRatio_congr hd hd ?_
    rw [show (-1074 - (-1074 + (j : Int))).toNat = 0 by omega, show (-1074 + (j : Int) - -1074).toNat = j by omega, Nat.pow_zero, Nat.mul_one]
    ac_rfl
  rw [e4, hs, e3]
  show signed _ (inUnits c (q + j) b64.qmin) = _
  rw [← signed_mul, qmin_b64]
  congr 1
  unfold inUnits
  rw [Nat.mul_assoc, ← Nat.pow_add]
  congr 2
  have := e2.2.1
  rw [qmin_b64] at this
  omega
/-- on whole numbers of units scaling always commutes -/
theorem rnd_scale1 {n : Int} {j K : Nat} (h2 : n.natAbs < 2 ^ K) (hj : K + j ≤ 1900) (hj2 : j ≤ 1074) : rnd (n * ((2 ^ j : Nat) : Int)) 1 = rnd n 1 * ((2 ^ j : Nat) : Int) := by
  by_cases h : 2 ^ 53 ≤ n.natAbs
  · exact rnd_scale (K := K) (by decide) (by omega) (by omega) hj
  · have hr : R53 n := r53 (by omega)
    have b0 : n.natAbs ≤ BIG := Nat.le_trans (Nat.le_of_lt h2) (pow_big (by omega))
    have r0 : RepU n := by have := rep_R hr (k := 0) (by decide); rw [Nat.pow_zero] at this; simpa using this.u
    rw [exact1 b0 r0]
    exact exact1 (big_R hr (by omega)) (rep_R hr (by omega)).u
theorem DV.r53 {n : Int} {k j : Nat} {a : UInt64} (h : DV n k a) (hj : j ≤ 700) (hn : n.natAbs ≤ 2 ^ j) : R53 n := by
  obtain ⟨m, e, hm, hb⟩ := h.fl
  rw [h.2.2] at hm
  have hk := h.2.1
  have hP := Nat.two_pow_pos (1074 - k)
  by_cases hle : 1074 - k ≤ e
  · have e1 : n = m * ((2 ^ (e - (1074 - k)) : Nat) : Int) := by
      refine Int.eq_of_mul_eq_mul_right (a := ((2 ^ (1074 - k) : Nat) : Int)) (by omega) ?_
      rw [hm, Int.mul_assoc, ← Int.natCast_mul, ← Nat.pow_add]
      congr 4; omega
    by_cases hm0 : m = 0
    · exact ⟨0, 0, by rw [e1, hm0]; simp, by decide, by decide⟩
    · refine ⟨m, _, e1, Nat.le_of_lt hb, ?_⟩
      have h3 : 2 ^ (e - (1074 - k)) ≤ n.natAbs := by
        rw [e1, Int.natAbs_mul, Int.natAbs_natCast]; exact Nat.le_mul_of_pos_left _ (by omega)
      have h4 := (Nat.pow_le_pow_iff_right (by decide : 1 < 2)).mp (Nat.le_trans h3 hn)
      omega
  · refine Jvm.OwnF.r53 ?_
    have e1 : n * ((2 ^ (1074 - k - e) : Nat) : Int) = m := by
      have he := Nat.two_pow_pos e
      refine Int.eq_of_mul_eq_mul_right (a := ((2 ^ e : Nat) : Int)) (by omega) ?_
      rw [← hm, Int.mul_assoc, ← Int.natCast_mul, ← Nat.pow_add]
      congr 4; omega
    have h5 : n.natAbs ≤ m.natAbs := by
      rw [← e1, Int.natAbs_mul, Int.natAbs_natCast]; exact Nat.le_mul_of_pos_right _ (Nat.two_pow_pos _)
    omega
end Jvm.OwnF
namespace Jvm.OwnF
open Jvm.FP Jvm.FP.Core
theorem le_rep {n : Int} {r : Int} (hn : n.natAbs ≤ BIG) (hr : RepU r) (h : n.natAbs ≤ r.natAbs) : (rnd n 1).natAbs ≤ r.natAbs := by
  have n1 := near1 hn hr
  have n2 := near1 hn hr.neg
  have n3 := near1 hn RepU.zero
  omega
theorem round_int' {a : UInt64} {n B : Int} {k : Nat} (hk : k ≤ 1074) (hB : R53 B) (hf : DFin a) (hn : n.natAbs ≤ B.natAbs) (hv : V a = rnd (n * ((2 ^ (1074 - k) : Nat) : Int)) 1) : ∃ A : Int, DV A k a ∧ A.natAbs ≤ B.natAbs := by
  have hb : (n * ((2 ^ (1074 - k) : Nat) : Int)).natAbs ≤ (B * ((2 ^ (1074 - k) : Nat) : Int)).natAbs := by
    rw [Int.natAbs_mul, Int.natAbs_mul]; exact Nat.mul_le_mul_right _ hn
  have hBB := big_R hB (k := 1074 - k) (by omega)
  have hnB := Nat.le_trans hb hBB
  have hd := dvd_round hnB (Int.dvd_mul_left n ((2 ^ (1074 - k) : Nat) : Int))
  rw [← hv] at hd
  obtain ⟨A, hA⟩ := DV_of_dvd hf hk hd
  refine ⟨A, hA, ?_⟩
  have := le_rep hnB (rep_R hB (by omega)).u hb
  rw [← hv, hA.2.2, Int.natAbs_mul, Int.natAbs_mul, Int.natAbs_natCast] at this
  exact Nat.le_of_mul_le_mul_right this (Nat.two_pow_pos _)
theorem R53.mulp {n : Int} (h : n.natAbs ≤ 2 ^ 53) {e : Nat} (he : e ≤ 800) : R53 (n * ((2 ^ e : Nat) : Int)) := ⟨n, e, rfl, h, he⟩
theorem i32n {z : Int32} {K : Int} (h1 : 0 ≤ z.toInt) (h2 : z.toInt < K) : z.toInt = ((z.toInt.toNat : Nat) : Int) ∧ ((z.toInt.toNat : Nat) : Int) < K := by omega
theorem p2le {a b : Nat} (h : a ≤ b) : (2 : Nat) ^ a ≤ 2 ^ b := Nat.pow_le_pow_right (by decide) h
end Jvm.OwnF
namespace Jvm.OwnF
open Jvm.FP Jvm.FP.Core
/-- a quotient by a whole number -/
theorem V_divi {a c z : UInt64} {D : Int} (dc : DV D 0 c) (hD : 0 < D) (h : FP.ddiv a c = z) (ha : DFin a) (hb : (V a).natAbs ≤ BIG * D.natAbs) : DFin z ∧ V z = rnd (V a) D.natAbs := by
  have hU : (0 : Int) < (one64 : Int) := by have := one64_pos; omega
  have hvc : V c = D * (one64 : Int) := dc.2.2
  have hc0 : V c ≠ 0 := by rw [hvc]; exact Int.ne_of_gt (Int.mul_pos hD hU)
  have hcn : (V c).natAbs = D.natAbs * one64 := by rw [hvc, Int.natAbs_mul, Int.natAbs_natCast]
  have hDp : 0 < D.natAbs := by omega
  obtain ⟨fs, vs⟩ := V_ddiv ha dc.1 hc0 (by rw [hcn, ← Nat.mul_assoc]; exact Nat.mul_le_mul_right _ hb)
  rw [h] at fs vs
  have hsg : (V c).sign = 1 := by rw [hvc]; exact Int.sign_eq_one_of_pos (Int.mul_pos hD hU)
  refine ⟨fs, ?_⟩
  rw [vs, hsg, Int.mul_one, hcn]
  exact rnd_congr (Nat.mul_pos hDp one64_pos) hDp (by rw [Int.natCast_mul, Int.mul_assoc, Int.mul_comm (one64 : Int)])
/-- a positive divisor -/
theorem V_divp {a c z : UInt64} (fc : DFin c) (hc : 0 < V c) (h : FP.ddiv a c = z) (ha : DFin a) (hb : (V a).natAbs * one64 ≤ BIG * (V c).natAbs) : DFin z ∧ V z = rnd (V a * (one64 : Int)) (V c).natAbs := by
  obtain ⟨fs, vs⟩ := V_ddiv ha fc (by omega) hb
  rw [h] at fs vs
  rw [Int.sign_eq_one_of_pos hc, Int.mul_one] at vs
  exact ⟨fs, vs⟩
theorem V_dmul' {a b z : UInt64} (h : FP.dmul a b = z) (ha : DFin a) (hb : DFin b) (hB : (V a * V b).natAbs ≤ BIG * one64) : DFin z ∧ V z = rnd (V a * V b) one64 := h ▸ V_dmul ha hb hB
theorem leR {n : Int} {d e : Nat} (hd : 0 < d) (he : e ≤ 2000) (h : n.natAbs ≤ 2 ^ e * d) : (rnd n d).natAbs ≤ 2 ^ e := by
  have hn : n.natAbs ≤ BIG * d := Nat.le_trans h (Nat.mul_le_mul_right _ (pow_big he))
  have r1 : RepU ((2 ^ e : Nat) : Int) := ⟨1, e, by simp, by decide⟩
  have e1 : rnd ((2 ^ e : Nat) : Int) 1 = ((2 ^ e : Nat) : Int) := exact1 (by rw [Int.natAbs_natCast]; exact pow_big he) r1
  have b1 : (((2 ^ e : Nat) : Int)).natAbs ≤ BIG * 1 := by rw [Nat.mul_one, Int.natAbs_natCast]; exact pow_big he
  have hI : (n.natAbs : Int) ≤ ((2 ^ e : Nat) : Int) * (d : Int) := by rw [← Int.natCast_mul]; exact Int.ofNat_le.mpr h
  have u := rnd_mono hd (by decide) hn b1 (by rw [Int.natCast_one, Int.mul_one]; omega)
  have l := rnd_mono (n := -((2 ^ e : Nat) : Int)) (d := 1) (by decide) hd (by rw [Int.natAbs_neg]; exact b1) hn (by rw [Int.natCast_one, Int.mul_one, Int.neg_mul]; omega)
  rw [rnd_neg _ (by decide), e1] at l
  rw [e1] at u
  omega
theorem rnd_nonneg {n : Int} {d : Nat} (hd : 0 < d) (hn : n.natAbs ≤ BIG * d) (h : 0 ≤ n) : 0 ≤ rnd n d := by
  have e0 : rnd 0 1 = 0 := zval_zero _ _ _
  rw [← e0]
  exact rnd_mono (by decide) hd (Nat.zero_le _) hn (by simpa using h)
end Jvm.OwnF
namespace Jvm.OwnF
open Jvm.FP Jvm.FP.Core
/-- Double.isInfinite of a finite one -/
theorem abs_fin {d : UInt64} (hf : DFin d) : DFin (d &&& 0x7fffffffffffffff) := by
  rw [fin_bits] at hf ⊢
  rw [mask_toNat]; rw [Nat.mod_mod]; exact hf
theorem max_top {a : UInt64} (hf : DFin a) : V a ≤ V 9218868437227405311 := by
  have e : V 9218868437227405311 = 9007199254740991 * ((2 ^ 2045 : Nat) : Int) := by decide +kernel
  rw [e]
  obtain ⟨s, c, q, ea⟩ := hf
  have fa : Jvm.FP.Core.fits b64 (.fin s c q) := ea ▸ val64_fits a
  obtain ⟨h1, h2, h3, -⟩ := fa
  rw [qmin_b64] at h2
  rw [show b64.qmax = 971 by decide] at h3
  rw [show b64.p = 53 from rfl] at h1
  have hz : zmag b64 (val64 a) ≤ 9007199254740991 * 2 ^ 2045 := by
    rw [ea]
    show c * 2 ^ (q - b64.qmin).toNat ≤ _
    rw [qmin_b64]
    exact Nat.mul_le_mul (by omega) (Nat.pow_le_pow_right (by decide) (by omega))
  have hm := zmag_V a
  have : ((V a).natAbs : Int) ≤ ((9007199254740991 * 2 ^ 2045 : Nat) : Int) := by rw [← hm]; exact Int.ofNat_le.mpr hz
  rw [Int.natCast_mul] at this
  have h5 : V a ≤ ((V a).natAbs : Int) := by omega
  exact Int.le_trans h5 this
theorem inf_no {d z : UInt64} {w : Int32} (hf : DFin d) (h1 : d &&& 0x7fffffffffffffff = z) (h2 : Op.cmpValue (FP.dcmp z 9218868437227405311) .l = w) : ¬ (0 : Int32) < w := by
  have fz : DFin z := h1 ▸ abs_fin hf
  have fm : DFin 9218868437227405311 := (fin_bits _).mpr (by decide)
  have k := cmpv_V fz fm .l
  rcases Int.lt_or_eq_of_le (max_top fz) with t | t
  · rw [← h2, k.1 t]; decide
  · rw [← h2, k.2.1 t]; decide
end Jvm.OwnF
namespace Jvm.Pilot.@@N@@
open Jvm Jvm.ClassFile Sem Op Lib Jvm.Free Jvm.Stand Jvm.LawKit Jvm.RoadKit Bundle Jvm.Pilot.@@N@@.Jvm.D
open Jvm.OwnF Jvm.FP.Core in
theorem k1000 : DV 1000 0 (4652007308841189376 : UInt64) := DV_const (by decide) (by decide) (by decide +kernel)
open Jvm.OwnF Jvm.FP.Core in
theorem k3600 : DV 3600 0 (4660134898793709568 : UInt64) := DV_const (by decide) (by decide) (by decide +kernel)
open Jvm.OwnF Jvm.FP.Core in
theorem kfour : DV ((2 ^ 2 : Nat) : Int) 0 (4616189618054758400 : UInt64) := DV_const (by decide) (by decide) (by decide +kernel)
open Jvm.OwnF Jvm.FP.Core in
theorem ktwo : DV 2 0 (4611686018427387904 : UInt64) := DV_const (by decide) (by decide) (by decide +kernel)
open Jvm.OwnF in
theorem ok {d z : UInt64} {n : Int} {w6 w7 : Int32} (dd : DV n 2 d) (hn : 0 < n) (h6 : cmpValue (FP.dcmp d FP.dconst0) .l = w6) (h1 : d &&& 0x7fffffffffffffff = z) (h7 : cmpValue (FP.dcmp z 9218868437227405311) .l = w7) : 0 < w6 ∧ Jvm.Free.Fl.NoNaN64 d ∧ ¬ 0 < w7 := by
  have d0 : DV 0 2 FP.dconst0 := by have := DV_0.up 2 (by decide); exact this
  exact ⟨by rw [← h6, (DV_cmp dd d0 .l).2.2 hn]; decide, dd.nn, inf_no dd.1 h1 h7⟩
open Jvm.OwnF Jvm.FP.Core in
theorem ex {K T : Int} {m v z4 z9 z13 : UInt64} (bK : 1 ≤ K ∧ K ≤ 4096) (bT : T.natAbs ≤ 2147483648) (dm : DV (250 * K * T) 0 m) (dv : DV K 2 v) (h4 : FP.ddiv m (4652007308841189376 : UInt64) = z4) (h9 : FP.ddiv z4 v = z9) (h13 : FP.dmul z9 (4660134898793709568 : UInt64) = z13) :
    Jvm.Free.Fl.NoNaN64 z4 ∧ Jvm.Free.Fl.NoNaN64 z9 ∧ Jvm.Free.Fl.NoNaN64 z13 ∧ DV (T * 3600) 0 z13 := by
  have kt : (K * T).natAbs ≤ 4096 * 2147483648 := mul_bd (by omega) bT
  have d4 : DV (K * T) 2 z4 := h4 ▸ DV_div dm k1000 (by decide) (by decide) (r53 (by omega)) (by
    rw [show ((2 ^ (0 + 2) : Nat) : Int) = 4 from rfl, show ((2 ^ 0 : Nat) : Int) = 1 from rfl, Int.mul_assoc 250 K T]; omega)
  have d9 : DV T 0 z9 := h9 ▸ DV_div d4 dv (by decide) (by omega) (r53 (by omega)) (by rw [Int.mul_comm K T])
  have d13 : DV (T * 3600) 0 z13 := h13 ▸ DV_mul d9 k3600 (by decide) (r53 (by omega))
  exact ⟨d4.nn, d9.nn, d13.nn, d13⟩
open Jvm.OwnF Jvm.FP.Core in
theorem vv {K : Int} {v : UInt64} (bK : 1 ≤ K ∧ K ≤ 8192) (dv : DV K 2 v) : (0 : Int) < V v ∧ (V v).natAbs ≤ 2 ^ 1085 ∧ 2 ^ 1072 ≤ (V v).natAbs := by
  have h := dv.2.2
  have p : (0 : Int) < ((2 ^ (1074 - 2) : Nat) : Int) := by have := Nat.two_pow_pos (1074 - 2); omega
  refine ⟨by rw [h]; exact Int.mul_pos (by omega) p, ?_, ?_⟩
  · rw [h]; exact Nat.le_trans (mulU (k := 13) (by omega) _) (Nat.pow_le_pow_right (by decide) (by decide))
  · rw [h, Int.natAbs_mul, Int.natAbs_natCast]; exact Nat.le_mul_of_pos_left _ (by omega)
open Jvm.OwnF Jvm.FP.Core in
/-- the three steps are finite, and each value a rounding -/
theorem sec {K : Int} {d v z4 z9 z13 : UInt64} (bK : 1 ≤ K ∧ K ≤ 8192) (dv : DV K 2 v) (fd : DFin d) (bd : (V d).natAbs ≤ 2 ^ 1106) (h4 : FP.ddiv d (4652007308841189376 : UInt64) = z4) (h9 : FP.ddiv z4 v = z9) (h13 : FP.dmul z9 (4660134898793709568 : UInt64) = z13) :
    Jvm.Free.Fl.NoNaN64 z4 ∧ Jvm.Free.Fl.NoNaN64 z9 ∧ Jvm.Free.Fl.NoNaN64 z13 ∧ DFin z13 ∧ V z4 = Jvm.OwnF.rnd (V d) 1000 ∧ V z9 = Jvm.OwnF.rnd (V z4 * (one64 : Int)) (V v).natAbs ∧ V z13 = Jvm.OwnF.rnd (V z9 * 3600) 1 ∧ (V z4).natAbs ≤ 2 ^ 1106 ∧ (V z9).natAbs ≤ 2 ^ 1108 := by
  obtain ⟨hv, v1, v2⟩ := vv bK dv
  obtain ⟨f4, e4⟩ := V_divi k1000 (by decide) h4 fd (Nat.le_trans (Nat.le_trans bd (pow_big (by decide))) (Nat.le_mul_of_pos_right _ (by decide)))
  have c4 : (V z4).natAbs ≤ 2 ^ 1106 := by rw [e4]; exact leR (by decide) (by decide) (Nat.le_trans bd (Nat.le_mul_of_pos_right _ (by decide)))
  have m : (V z4).natAbs * one64 ≤ 2 ^ 1108 * (V v).natAbs := by
    refine Nat.le_trans (Nat.mul_le_mul_right _ c4) (Nat.le_trans ?_ (Nat.mul_le_mul_left _ v2))
    unfold one64; rw [← Nat.pow_add, ← Nat.pow_add]; exact Nat.pow_le_pow_right (by decide) (by decide)
  obtain ⟨f9, e9⟩ := V_divp dv.1 hv h9 f4 (Nat.le_trans m (Nat.mul_le_mul_right _ (pow_big (by decide))))
  have c9 : (V z9).natAbs ≤ 2 ^ 1108 := by rw [e9]; exact leR (by omega) (by decide) (by rw [Int.natAbs_mul, Int.natAbs_natCast]; exact m)
  have k : V (4660134898793709568 : UInt64) = 3600 * (one64 : Int) := k3600.2.2
  have hb : (V z9 * V (4660134898793709568 : UInt64)).natAbs ≤ BIG * one64 := by
    rw [k, ← Int.mul_assoc, Int.natAbs_mul, Int.natAbs_natCast]
    refine Nat.mul_le_mul_right _ ?_
    refine Nat.le_trans (mul_bd c9 (show (3600 : Int).natAbs ≤ 2 ^ 12 by decide)) ?_
    rw [← Nat.pow_add]; exact pow_big (by decide)
  obtain ⟨f13, e13⟩ := V_dmul' h13 f9 k3600.1 hb
  refine ⟨noNaN_fin f4, noNaN_fin f9, noNaN_fin f13, f13, e4, e9, ?_, c4, c9⟩
  rw [e13]
  exact rnd_congr one64_pos (by decide) (by rw [k, Int.natCast_one, Int.mul_one, ← Int.mul_assoc])
open Jvm.OwnF Jvm.FP.Core in
theorem b3600 {x : Int} (h : x.natAbs ≤ 2 ^ 1108) : (x * 3600).natAbs ≤ BIG * 1 := by
  rw [Nat.mul_one]
  refine Nat.le_trans (mul_bd h (show (3600 : Int).natAbs ≤ 2 ^ 12 by decide)) ?_
  rw [← Nat.pow_add]; exact pow_big (by decide)
open Jvm.OwnF Jvm.FP.Core in
theorem bU {x : Int} {D : Nat} (h : x.natAbs ≤ 2 ^ 1106) (hD : 2 ^ 1072 ≤ D) : (x * (one64 : Int)).natAbs ≤ BIG * D := by
  rw [Int.natAbs_mul, Int.natAbs_natCast]
  refine Nat.le_trans (Nat.mul_le_mul_right _ h) (Nat.le_trans ?_ (Nat.mul_le_mul (pow_big (k := 1108) (by decide)) hD))
  unfold one64; rw [← Nat.pow_add, ← Nat.pow_add]; exact Nat.pow_le_pow_right (by decide) (by decide)
open Jvm.OwnF Jvm.FP.Core in
theorem b1000 {x : Int} {K : Nat} (hK : K ≤ 2000) (h : x.natAbs ≤ 2 ^ K) : x.natAbs ≤ BIG * 1000 := Nat.le_trans (Nat.le_trans h (pow_big hK)) (Nat.le_mul_of_pos_right _ (by decide))
open Jvm.OwnF Jvm.FP.Core in
theorem mono {K : Int} {d e v z4 z9 z13 y4 y9 y13 : UInt64} {w : Int32} (bK : 1 ≤ K ∧ K ≤ 8192) (dv : DV K 2 v) (fd : DFin d) (fe : DFin e) (bd : (V d).natAbs ≤ 2 ^ 1106) (be : (V e).natAbs ≤ 2 ^ 1106) (hde : V d ≤ V e)
    (h4 : FP.ddiv d (4652007308841189376 : UInt64) = z4) (h9 : FP.ddiv z4 v = z9) (h13 : FP.dmul z9 (4660134898793709568 : UInt64) = z13) (k4 : FP.ddiv e (4652007308841189376 : UInt64) = y4) (k9 : FP.ddiv y4 v = y9) (k13 : FP.dmul y9 (4660134898793709568 : UInt64) = y13) (hw : cmpValue (FP.dcmp z13 y13) .g = w) : ¬ 0 < w := by
  obtain ⟨hv, v1, v2⟩ := vv bK dv
  obtain ⟨-, -, -, f1, e4, e9, e13, c4, c9⟩ := sec bK dv fd bd h4 h9 h13
  obtain ⟨-, -, -, f2, u4, u9, u13, g4, g9⟩ := sec bK dv fe be k4 k9 k13
  have s1 : V z4 ≤ V y4 := by rw [e4, u4]; exact rnd_mono (by decide) (by decide) (b1000 (by decide) bd) (b1000 (by decide) be) (Int.mul_le_mul_of_nonneg_right hde (by decide))
  have hU : (0 : Int) ≤ (one64 : Int) := by omega
  have s2 : V z9 ≤ V y9 := by
    rw [e9, u9]
    exact rnd_mono (by omega) (by omega) (bU c4 v2) (bU g4 v2) (Int.mul_le_mul_of_nonneg_right (Int.mul_le_mul_of_nonneg_right s1 hU) (by omega))
  have s3 : V z13 ≤ V y13 := by rw [e13, u13]; exact rnd_mono (by decide) (by decide) (b3600 c9) (b3600 g9) (by omega)
  have k := cmpv_V f1 f2 .g
  rcases Int.lt_or_eq_of_le s3 with t | t
  · rw [← hw, k.1 t]; decide
  · rw [← hw, k.2.1 t]; decide
open Jvm.OwnF Jvm.FP.Core in
/-- a number of 2^e or more rounds to 2^e or more -/
theorem geR {n : Int} {d e : Nat} (hd : 0 < d) (hn : n.natAbs ≤ BIG * d) (he : e ≤ 2000) (h : ((2 ^ e : Nat) : Int) * (d : Int) ≤ n) : ((2 ^ e : Nat) : Int) ≤ Jvm.OwnF.rnd n d := by
  have r1 : RepU ((2 ^ e : Nat) : Int) := ⟨1, e, by simp, by decide⟩
  have b : (((2 ^ e : Nat) : Int)).natAbs ≤ BIG := by rw [Int.natAbs_natCast]; exact pow_big he
  have e1 : Jvm.OwnF.rnd ((2 ^ e : Nat) : Int) 1 = ((2 ^ e : Nat) : Int) := exact1 b r1
  rw [← e1]
  exact rnd_mono (by decide) hd (by rw [Nat.mul_one]; exact b) hn (by simpa using h)
open Jvm.OwnF Jvm.FP.Core in
/-- a distance above 0: each step lies well above the least numbers -/
theorem posv {K : Int} {d v z4 z9 z13 : UInt64} (bK : 1 ≤ K ∧ K ≤ 8192) (dv : DV K 2 v) (fd : DFin d) (bd : (V d).natAbs ≤ 2 ^ 1106) (h4 : FP.ddiv d (4652007308841189376 : UInt64) = z4) (h9 : FP.ddiv z4 v = z9) (h13 : FP.dmul z9 (4660134898793709568 : UInt64) = z13) (hd : (one64 : Int) ≤ V d) :
    ((2 ^ 1064 : Nat) : Int) ≤ V z4 ∧ ((2 ^ 1053 : Nat) : Int) ≤ V z9 ∧ 0 < V z13 := by
  obtain ⟨hv, v1, v2⟩ := vv bK dv
  obtain ⟨-, -, -, f1, e4, e9, e13, c4, c9⟩ := sec bK dv fd bd h4 h9 h13
  have s1 : ((2 ^ 1064 : Nat) : Int) ≤ V z4 := by
    rw [e4]
    refine geR (by decide) (b1000 (by decide) bd) (by decide) (Int.le_trans ?_ hd)
    rw [← Int.natCast_mul]
    refine Int.ofNat_le.mpr ?_
    unfold one64
    refine Nat.le_trans (Nat.mul_le_mul_left _ (show 1000 ≤ 2 ^ 10 by decide)) ?_
    rw [← Nat.pow_add]; exact Nat.le_refl _
  have s2 : ((2 ^ 1053 : Nat) : Int) ≤ V z9 := by
    rw [e9]
    refine geR (by omega) (bU c4 v2) (by decide) ?_
    have q : ((2 ^ 1053 : Nat) : Int) * (((V v).natAbs : Nat) : Int) ≤ ((2 ^ 1053 : Nat) : Int) * ((2 ^ 1085 : Nat) : Int) := Int.mul_le_mul_of_nonneg_left (Int.ofNat_le.mpr v1) (by omega)
    refine Int.le_trans q (Int.le_trans ?_ (Int.mul_le_mul_of_nonneg_right s1 (by omega)))
    rw [← Int.natCast_mul, ← Int.natCast_mul]
    refine Int.ofNat_le.mpr ?_
    unfold one64
    rw [← Nat.pow_add, ← Nat.pow_add]; exact Nat.pow_le_pow_right (by decide) (by decide)
  refine ⟨s1, s2, ?_⟩
  rw [e13]
  have p := Nat.two_pow_pos 1053
  have := geR (n := V z9 * 3600) (d := 1) (e := 0) (by decide) (b3600 c9) (by decide) (by simp; omega)
  simp at this; omega
open Jvm.OwnF Jvm.FP.Core in
/-- the sign of the result -/
theorem neg_all {K : Int} {d v z4 z9 z13 e y4 y9 y13 : UInt64} (bK : 1 ≤ K ∧ K ≤ 8192) (dv : DV K 2 v) (fd : DFin d) (fe : DFin e) (bd : (V d).natAbs ≤ 2 ^ 1106) (hde : V e = -V d) (h4 : FP.ddiv d (4652007308841189376 : UInt64) = z4) (h9 : FP.ddiv z4 v = z9) (h13 : FP.dmul z9 (4660134898793709568 : UInt64) = z13) (k4 : FP.ddiv e (4652007308841189376 : UInt64) = y4) (k9 : FP.ddiv y4 v = y9) (k13 : FP.dmul y9 (4660134898793709568 : UInt64) = y13) :
    V y4 = -V z4 ∧ V y9 = -V z9 ∧ V y13 = -V z13 := by
  obtain ⟨hv, v1, v2⟩ := vv bK dv
  obtain ⟨-, -, -, f1, e4, e9, e13, c4, c9⟩ := sec bK dv fd bd h4 h9 h13
  obtain ⟨-, -, -, f2, u4, u9, u13, g4, g9⟩ := sec bK dv fe (by rw [hde, Int.natAbs_neg]; exact bd) k4 k9 k13
  have s1 : V y4 = -V z4 := by rw [u4, e4, hde, rnd_neg _ (by decide)]
  have s2 : V y9 = -V z9 := by rw [u9, e9, s1, Int.neg_mul, rnd_neg _ (by omega)]
  have s3 : V y13 = -V z13 := by rw [u13, e13, s2, Int.neg_mul, rnd_neg _ (by decide)]
  exact ⟨s1, s2, s3⟩
open Jvm.OwnF Jvm.FP.Core in
theorem negI (a : Int32) {d : UInt64} (h : FP.i2d a = d) : DV a.toInt 0 d ∧ (V d).natAbs ≤ 2 ^ 1106 ∧ (0 < a.toInt → (one64 : Int) ≤ V d) ∧ DFin (Jvm.FP.Core.dneg d) ∧ V (Jvm.FP.Core.dneg d) = -V d ∧ (V (Jvm.FP.Core.dneg d)).natAbs ≤ 2 ^ 1106 := by
  have dd : DV a.toInt 0 d := h ▸ DV_i2d a
  have r := rng32b a
  have b : (V d).natAbs ≤ 2 ^ 1106 := Nat.le_trans (V_bd (j := 31) dd (by omega)) (Nat.pow_le_pow_right (by decide) (by decide))
  refine ⟨dd, b, fun q => ?_, fin_neg dd.1, V_neg d, by rw [V_neg, Int.natAbs_neg]; exact b⟩
  rw [dd.2.2]
  have : 1 * (one64 : Int) ≤ a.toInt * (one64 : Int) := Int.mul_le_mul_of_nonneg_right (by omega) (by omega)
  rw [Int.one_mul] at this; exact this
open Jvm.OwnF Jvm.FP.Core in
/-- the sign of the seconds is the sign of the metres; and away from 0 the steps lie above the least numbers -/
theorem signs {K : Int} {a : Int32} {d v z4 z9 z13 : UInt64} (bK : 1 ≤ K ∧ K ≤ 8192) (dv : DV K 2 v) (h : FP.i2d a = d) (h4 : FP.ddiv d (4652007308841189376 : UInt64) = z4) (h9 : FP.ddiv z4 v = z9) (h13 : FP.dmul z9 (4660134898793709568 : UInt64) = z13) :
    (0 < a.toInt → 0 < V z13) ∧ (a.toInt < 0 → V z13 < 0) ∧ (a.toInt = 0 → V z13 = 0 ∧ V z9 = 0 ∧ V z4 = 0) ∧ (a.toInt ≠ 0 → 2 ^ 1064 ≤ (V z4).natAbs ∧ 2 ^ 1053 ≤ (V z9).natAbs) := by
  obtain ⟨dd, b, hp, fn, vn, bn⟩ := negI a h
  have P := posv bK dv dd.1 b h4 h9 h13
  have N := neg_all (e := Jvm.FP.Core.dneg d) bK dv dd.1 fn b vn h4 h9 h13 rfl rfl rfl
  have P' := posv (d := Jvm.FP.Core.dneg d) bK dv fn bn rfl rfl rfl
  have hneg : a.toInt < 0 → (one64 : Int) ≤ V (Jvm.FP.Core.dneg d) := fun q => by
    rw [vn, dd.2.2, ← Int.neg_mul]
    have : 1 * (one64 : Int) ≤ -a.toInt * (one64 : Int) := Int.mul_le_mul_of_nonneg_right (by omega) (by omega)
    rw [Int.one_mul] at this; exact this
  obtain ⟨-, -, -, f1, e4, e9, e13, c4, c9⟩ := sec bK dv dd.1 b h4 h9 h13
  refine ⟨fun q => (P (hp q)).2.2, fun q => ?_, fun q => ?_, fun q => ?_⟩
  · have := (P' (hneg q)).2.2; rw [N.2.2] at this; omega
  · have z0 : ∀ k, Jvm.OwnF.rnd 0 k = 0 := fun k => zval_zero _ _ _
    have vd : V d = 0 := by rw [dd.2.2, q, Int.zero_mul]
    have a4 : V z4 = 0 := by rw [e4, vd, z0]
    have a9 : V z9 = 0 := by rw [e9, a4, Int.zero_mul, z0]
    exact ⟨by rw [e13, a9, Int.zero_mul, z0], a9, a4⟩
  · rcases Int.lt_or_lt_of_ne q with t | t
    · have := P' (hneg t); rw [N.1, N.2.1] at this; omega
    · have := P (hp t); omega
open Jvm.OwnF Jvm.FP.Core in
/-- at twice the speed: half the time, and twice that is the time -/
theorem half {K : Int} {a : Int32} {d v v2 z4 z9 z13 y4 y9 y13 t : UInt64} {w : Int32} (bK : 1 ≤ K ∧ K ≤ 4096) (dv : DV K 2 v) (dv2 : DV (2 * K) 2 v2) (h : FP.i2d a = d) (h4 : FP.ddiv d (4652007308841189376 : UInt64) = z4) (h9 : FP.ddiv z4 v = z9) (h13 : FP.dmul z9 (4660134898793709568 : UInt64) = z13)
    (k4 : FP.ddiv d (4652007308841189376 : UInt64) = y4) (k9 : FP.ddiv y4 v2 = y9) (k13 : FP.dmul y9 (4660134898793709568 : UInt64) = y13) (ht : FP.dmul y13 (4611686018427387904 : UInt64) = t) (hw : cmpValue (FP.dcmp t z13) .l = w) : Jvm.Free.Fl.NoNaN64 t ∧ w = 0 := by
  obtain ⟨dd, b, hp, fn, vn, bn⟩ := negI a h
  obtain ⟨-, -, -, f1, e4, e9, e13, c4, c9⟩ := sec (show 1 ≤ K ∧ K ≤ 8192 by omega) dv dd.1 b h4 h9 h13
  obtain ⟨-, -, -, f2, u4, u9, u13, g4, g9⟩ := sec (show 1 ≤ 2 * K ∧ 2 * K ≤ 8192 by omega) dv2 dd.1 b k4 k9 k13
  obtain ⟨-, -, S0, S1⟩ := signs (show 1 ≤ K ∧ K ≤ 8192 by omega) dv h h4 h9 h13
  obtain ⟨hv, v1, w2⟩ := vv (show 1 ≤ K ∧ K ≤ 8192 by omega) dv
  have hvv : V v2 = 2 * V v := by rw [dv2.2.2, dv.2.2, Int.mul_assoc]
  have hvn : (V v2).natAbs = 2 * (V v).natAbs := by rw [hvv, Int.natAbs_mul]; rfl
  have ey4 : V y4 = V z4 := by rw [u4, e4]
  have e1 : V z9 = V y9 * 2 := by
    by_cases ha : a.toInt = 0
    · obtain ⟨-, s9, s4⟩ := S0 ha
      rw [s9, u9, ey4, s4, Int.zero_mul]
      have z0 : ∀ k, Jvm.OwnF.rnd 0 k = 0 := fun k => zval_zero _ _ _
      rw [z0, Int.zero_mul]
    · obtain ⟨q1, -⟩ := S1 ha
      have hn : (V z4 * (one64 : Int)).natAbs = (V z4).natAbs * one64 := by rw [Int.natAbs_mul, Int.natAbs_natCast]
      have sc := rnd_scale (n := V z4 * (one64 : Int)) (d := (V v2).natAbs) (j := 1) (K := 1200) (by omega) (by
          rw [hn, hvn]
          refine Nat.le_trans (Nat.mul_le_mul_left _ (Nat.mul_le_mul_left 2 v1)) (Nat.le_trans ?_ (Nat.mul_le_mul_right _ q1))
          unfold one64
          rw [← Nat.pow_succ' (n := 1085) (m := 2), ← Nat.pow_add, ← Nat.pow_add]
          exact Nat.pow_le_pow_right (by decide) (by decide)) (by
          rw [hn, hvn]
          refine Nat.lt_of_lt_of_le (Nat.lt_of_le_of_lt (Nat.mul_le_mul_right _ c4) ?_) (Nat.mul_le_mul_left _ (Nat.le_trans w2 (Nat.le_mul_of_pos_left _ (by decide))))
          unfold one64
          rw [← Nat.pow_add, ← Nat.pow_add]
          exact Nat.pow_lt_pow_right (by decide) (by decide)) (by decide)
      have cg : Jvm.OwnF.rnd (V z4 * (one64 : Int) * ((2 ^ 1 : Nat) : Int)) (V v2).natAbs = V z9 := by
        rw [e9]
        refine rnd_congr (by omega) (by omega) ?_
        rw [hvn, Int.natCast_mul]
        have : ((2 ^ 1 : Nat) : Int) = ((2 : Nat) : Int) := rfl
        rw [this]
        generalize (one64 : Int) = U
        generalize V z4 = X
        ac_rfl
      rw [cg] at sc
      rw [sc, u9, ey4]; rfl
  have e2 : V z13 = V y13 * 2 := by
    rw [e13, u13, e1]
    have sc := rnd_scale1 (n := V y9 * 3600) (j := 1) (K := 1200) (by
      refine Nat.lt_of_le_of_lt (mul_bd g9 (show (3600 : Int).natAbs ≤ 2 ^ 12 by decide)) ?_
      rw [← Nat.pow_add]; exact Nat.pow_lt_pow_right (by decide) (by decide)) (by decide) (by decide)
    rw [show V y9 * 2 * 3600 = V y9 * 3600 * ((2 ^ 1 : Nat) : Int) by rw [show ((2 ^ 1 : Nat) : Int) = 2 from rfl]; omega, sc]; rfl
  have c13 : (V y13).natAbs ≤ 2 ^ 1120 := by rw [u13]; exact leR (by decide) (by decide) (by
    rw [Nat.mul_one]
    refine Nat.le_trans (mul_bd g9 (show (3600 : Int).natAbs ≤ 2 ^ 12 by decide)) ?_
    rw [← Nat.pow_add]; exact Nat.le_refl _)
  have kt : V (4611686018427387904 : UInt64) = 2 * (one64 : Int) := ktwo.2.2
  obtain ⟨ft, et⟩ := V_dmul' ht f2 ktwo.1 (by
    rw [kt, ← Int.mul_assoc, Int.natAbs_mul, Int.natAbs_natCast]
    refine Nat.mul_le_mul_right _ ?_
    refine Nat.le_trans (mul_bd c13 (show (2 : Int).natAbs ≤ 2 ^ 1 by decide)) ?_
    rw [← Nat.pow_add]; exact pow_big (by decide))
  have e3 : V t = V y13 * 2 := by
    rw [et]
    refine rnd_exact one64_pos (by rw [kt, ← Int.mul_assoc]) ?_
    obtain ⟨m, e, hm, hmb⟩ := (rep_V f2).u
    refine RepU.rep ⟨m, e + 1, by rw [hm, Int.mul_assoc, Nat.pow_succ, Int.natCast_mul]; rfl, hmb⟩ ?_
    refine Nat.le_trans (mul_bd c13 (show (2 : Int).natAbs ≤ 2 ^ 1 by decide)) ?_
    rw [← Nat.pow_add]; exact pow_big (by decide)
  exact ⟨noNaN_fin ft, by rw [← hw]; exact (cmpv_V ft f1 _).2.1 (e3.trans e2.symm)⟩
theorem d2_0 : decode jdk_30_method_1_code 0 = .ok (.aload_n 0, 1) := by decide +kernel
theorem d2_1 : decode jdk_30_method_1_code 1 = .ok (.invokespecial 1, 3) := by decide +kernel
theorem d2_4 : decode jdk_30_method_1_code 4 = .ok (.return_, 1) := by decide +kernel
theorem pn_0 : plainName "java/lang/Record" = true := by first | (simp [plainName, overriddenIn]; done) | decide +kernel
theorem ef_rm2 (m : MethodId) (o0 : Addr) : entryFrame m #[(.ref o0)] 1 = mkF m 0 #[.val (.ref o0)] [] := by first | (simp [entryFrame, mkF, argsToLocals, Value.category]; done) | rfl
theorem d4_0 : decode jdk_117_method_7_code 0 = .ok (.dload_n 0, 1) := by decide +kernel
theorem d4_1 : decode jdk_117_method_7_code 1 = .ok (.invokestatic 38, 3) := by decide +kernel
theorem pd_0 : parseMethodDescriptor "(D)D" = some ⟨[.double], some .double⟩ := by decide +kernel
theorem d4_4 : decode jdk_117_method_7_code 4 = .ok (.ldc2_w 111, 3) := by decide +kernel
theorem d4_7 : decode jdk_117_method_7_code 7 = .ok (.dcmp .l, 1) := by decide +kernel
theorem d4_8 : decode jdk_117_method_7_code 8 = .ok (.ifCond .le 7, 3) := by decide +kernel
theorem d4_15 : decode jdk_117_method_7_code 15 = .ok (.iconst 0, 1) := by decide +kernel
theorem d4_16 : decode jdk_117_method_7_code 16 = .ok (.ireturn, 1) := by decide +kernel
theorem pn_1 : plainName "java/lang/Double" = true := by first | (simp [plainName, overriddenIn]; done) | decide +kernel
theorem ef_rm4 (m : MethodId) (d0 : UInt64) : entryFrame m #[(.double d0)] 2 = mkF m 0 #[.val (.double d0), .second] [] := by first | (simp [entryFrame, mkF, argsToLocals, Value.category]; done) | rfl
theorem d1_0 : decode prog_42_method_1_code 0 = .ok (.aload_n 0, 1) := by decide +kernel
theorem d1_1 : decode prog_42_method_1_code 1 = .ok (.invokespecial 1, 3) := by decide +kernel
theorem pd_1 : parseMethodDescriptor "()V" = some ⟨[], none⟩ := by decide +kernel
theorem d1_4 : decode prog_42_method_1_code 4 = .ok (.dload_n 1, 1) := by decide +kernel
theorem d1_5 : decode prog_42_method_1_code 5 = .ok (.dconst 0, 1) := by decide +kernel
theorem d1_6 : decode prog_42_method_1_code 6 = .ok (.dcmp .l, 1) := by decide +kernel
theorem d1_7 : decode prog_42_method_1_code 7 = .ok (.ifCond .le 10, 3) := by decide +kernel
theorem d1_10 : decode prog_42_method_1_code 10 = .ok (.dload_n 1, 1) := by decide +kernel
theorem d1_11 : decode prog_42_method_1_code 11 = .ok (.invokestatic 7, 3) := by decide +kernel
theorem pd_2 : parseMethodDescriptor "(D)Z" = some ⟨[.double], some .boolean⟩ := by decide +kernel
theorem d1_14 : decode prog_42_method_1_code 14 = .ok (.ifCond .eq 17, 3) := by decide +kernel
theorem d1_31 : decode prog_42_method_1_code 31 = .ok (.aload_n 0, 1) := by decide +kernel
theorem d1_32 : decode prog_42_method_1_code 32 = .ok (.dload_n 1, 1) := by decide +kernel
theorem d1_33 : decode prog_42_method_1_code 33 = .ok (.putfield 22, 3) := by decide +kernel
theorem d1_36 : decode prog_42_method_1_code 36 = .ok (.return_, 1) := by decide +kernel
theorem pn_2 : plainName "com/example/fleetwave/fleetwave/model/DrivingSpeed" = true := by first | (simp [plainName, overriddenIn]; done) | decide +kernel
theorem ef_rm1 (m : MethodId) (o0 : Addr) (d1 : UInt64) : entryFrame m #[(.ref o0), (.double d1)] 3 = mkF m 0 #[.val (.ref o0), .val (.double d1), .second] [] := by first | (simp [entryFrame, mkF, argsToLocals, Value.category]; done) | rfl
theorem d6_0 : decode prog_42_method_2_code 0 = .ok (.dload_n 1, 1) := by decide +kernel
theorem d6_1 : decode prog_42_method_2_code 1 = .ok (.ldc2_w 28, 3) := by decide +kernel
theorem d6_4 : decode prog_42_method_2_code 4 = .ok (.ddiv, 1) := by decide +kernel
theorem d6_5 : decode prog_42_method_2_code 5 = .ok (.aload_n 0, 1) := by decide +kernel
theorem d6_6 : decode prog_42_method_2_code 6 = .ok (.getfield 22, 3) := by decide +kernel
theorem d6_9 : decode prog_42_method_2_code 9 = .ok (.ddiv, 1) := by decide +kernel
theorem d6_10 : decode prog_42_method_2_code 10 = .ok (.ldc2_w 30, 3) := by decide +kernel
theorem d6_13 : decode prog_42_method_2_code 13 = .ok (.dmul, 1) := by decide +kernel
theorem d6_14 : decode prog_42_method_2_code 14 = .ok (.dreturn, 1) := by decide +kernel
theorem ef_rm6 (m : MethodId) (o0 : Addr) (d1 : UInt64) : entryFrame m #[(.ref o0), (.double d1)] 3 = mkF m 0 #[.val (.ref o0), .val (.double d1), .second] [] := by first | (simp [entryFrame, mkF, argsToLocals, Value.category]; done) | rfl
theorem pd_3 : parseMethodDescriptor "(D)V" = some ⟨[.double], none⟩ := by decide +kernel
theorem pn_3 : plainName "com/example/fleetwave/fleetwave/model/DrivingSpeedSecondsPinLaw" = true := by first | (simp [plainName, overriddenIn]; done) | decide +kernel
theorem ef_rm0 (m : MethodId) (p0 : Int32) (p1 : Int32) (p2 : Int32) (p3 : Int32) : entryFrame m #[(.int p0), (.int p1), (.int p2), (.int p3)] maxLocals = mkF m 0 #[.val (.int p0), .val (.int p1), .val (.int p2), .val (.int p3), .unset, .unset, .unset, .unset, .unset, .unset, .unset, .unset, .unset, .unset, .unset, .unset, .unset, .unset, .unset] [] := by first | (simp [entryFrame, mkF, argsToLocals, Value.category, maxLocals]; done) | rfl
def Q2 (Z : State) (o0 : Addr)  (h0 : Heap) (n0 : Nat) (v : Option Value) (h : Heap) (L : List Loc) : Prop := v = none ∧ Fr n0 L ∧ h = h0
set_option maxRecDepth 65536 in
set_option maxHeartbeats 40000000 in
theorem rm2 (l : Launch) (Z : State) (a0 : Array Value) (hw : ∀ d ∈ tables_1, d.before a0 Z = true) (ws : List Jvm.Cond) (o0 : Addr)  (h0 : Heap) (n0 : Nat) (Z0 : n0 ≤ h0.size)  :
    MetFree l (⟨"java/lang/Record", "<init>", "()V"⟩ : MethodName) (head1 (Jvm.Cond.code (⟨"java/lang/Record", "<init>", "()V"⟩ : MethodName) jdk_30_method_1_code 1 none :: ws) ({ frames := 1, cells := 0, slots := 0, locals := 12 } : Room)) (fun a U => a = #[(.ref o0)] ∧ Z.Warmed39 U.vm ∧ U.heap = h0) (fun _ _ _ _ _ => True) (fun _ U o U' => ∃ v L, o = .returned v ∧ Q2 Z o0  h0 n0 v U'.heap L ∧ FrameEnd U o U' L ({ frames := 1, cells := 0, slots := 0, locals := 12 } : Room).cells ({ frames := 1, cells := 0, slots := 0, locals := 12 } : Room).slots) := by
  refine MetFree.of_bodySF (plainFor_of_name pn_0) hisR ?_
  intro p e s m args below meth c s₁ Bd hml0 hP hK
  obtain ⟨rfl, hZ, hh⟩ := hP
  have hx := Bd.exec
  have hby := Bd.bytes
  have hml : c.maxLocals = 1 := hml0
  have hown : s.vm.findClass "java/lang/Record" = some m.cls := findClass_of_methodNamed Bd.named
  have hnm := (name_of_methodNamed Bd.named Bd.method).1
  have X0 : Stand p l e ({ frames := 1, cells := 0, slots := 0, locals := 12 } : Room) s m #[(.ref o0)] below meth c s₁ [] 0 0 := Stand.of_body Bd
  have e0 : s₁.heap = h0 := by rw [← hh, Bd.state]; rfl
  have N0 := Fr.nil n0
  have c0 : ∀ t, Steps p.tables e below (s₁.setTop (mkF m 0 #[.val (.ref o0)] [])) t → Steps p.tables e below (s₁.setTop (entryFrame m #[(.ref o0)] 1)) t := fun t k => castTop (ef_rm2 m o0) k
  obtain ⟨T1, X1, e1, st1⟩ := initO X0 hx hZ hown (hw _ (List.mem_of_getElem? (i := 12) rfl)) (hw _ (List.mem_of_getElem? (i := 13) rfl)) (hw _ (List.mem_of_getElem? (i := 14) rfl)) e0 (g := (mkF m 1 #[.val (.ref o0)] [(.ref o0)])) rfl (by rw [hml]; rfl) rfl (hb hby d2_1) (by decide) (W := 0) (by show 2 * 0 + _ ≤ _; exact Nat.le_of_eq rfl) (by decide)
  have c2 : ∀ t, Steps p.tables e below (T1.setTop (mkF m 4 #[.val (.ref o0)] [])) t → Steps p.tables e below (s₁.setTop (entryFrame m #[(.ref o0)] 1)) t := by
    intro t k
    refine c0 t ?_
    show Steps p.tables e below (s₁.setTop (mkF m 0 #[.val (.ref o0)] [])) _
    refine XS.aloadN X0.here hx rfl (hb hby d2_0) rfl rfl ?_
    show Steps p.tables e below (s₁.setTop (mkF m 1 #[.val (.ref o0)] [(.ref o0)])) _
    refine st1 _ ?_
    exact k
  obtain ⟨fs, hr, hrun, hended, hW, hsame⟩ := X1.leave (v := none) (fun _ => rfl)
  refine ⟨_, _, c2 _ ?_, hrun, hended, _, _, rfl, ?_, ⟨_, rfl⟩, hW, hsame.mono (by decide) (by decide)⟩
  · show Steps p.tables e below (T1.setTop (mkF m 4 #[.val (.ref o0)] [])) _
    exact X1.returnOut hx Bd.returns (hb hby d2_4) hr
  · show Q2 Z o0  h0 n0 _ T1.heap _
    rw [e1]
    exact ⟨rfl, N0, rfl⟩
def Q4 (Z : State) (d0 : UInt64) (z1 : UInt64) (z7 : Int32) (h0 : Heap) (n0 : Nat) (v : Option Value) (h : Heap) (L : List Loc) : Prop := v = some (.int (0 : Int32)) ∧ Fr n0 L ∧ h = h0
set_option maxRecDepth 65536 in
set_option maxHeartbeats 40000000 in
theorem rm4 (l : Launch) (Z : State) (a0 : Array Value) (hw : ∀ d ∈ tables_1, d.before a0 Z = true) (ws : List Jvm.Cond) (d0 : UInt64) (z1 : UInt64) (z7 : Int32) (h0 : Heap) (n0 : Nat) (Z0 : n0 ≤ h0.size) (hz1 : d0 &&& 0x7fffffffffffffff = z1) (hz7 : cmpValue (FP.dcmp z1 (9218868437227405311 : UInt64)) .l = z7) (nm0_1 : Jvm.Free.Fl.NoNaN64 d0) (br8 : ¬ (0 : Int32) < z7) :
    MetFree l (⟨"java/lang/Double", "isInfinite", "(D)Z"⟩ : MethodName) (head1 (Jvm.Cond.code (⟨"java/lang/Double", "isInfinite", "(D)Z"⟩ : MethodName) jdk_117_method_7_code 2 (some .boolean) :: ws) ({ frames := 1, cells := 0, slots := 0, locals := 13 } : Room)) (fun a U => a = #[(.double d0)] ∧ Z.Warmed39 U.vm ∧ U.heap = h0) (fun _ _ _ _ _ => True) (fun _ U o U' => ∃ v L, o = .returned v ∧ Q4 Z d0 z1 z7 h0 n0 v U'.heap L ∧ FrameEnd U o U' L ({ frames := 1, cells := 0, slots := 0, locals := 13 } : Room).cells ({ frames := 1, cells := 0, slots := 0, locals := 13 } : Room).slots) := by
  refine MetFree.of_bodySF (plainFor_of_name pn_1) hisR ?_
  intro p e s m args below meth c s₁ Bd hml0 hP hK
  obtain ⟨rfl, hZ, hh⟩ := hP
  have hx := Bd.exec
  have hby := Bd.bytes
  have hml : c.maxLocals = 2 := hml0
  have hown : s.vm.findClass "java/lang/Double" = some m.cls := findClass_of_methodNamed Bd.named
  have hnm := (name_of_methodNamed Bd.named Bd.method).1
  have X0 : Stand p l e ({ frames := 1, cells := 0, slots := 0, locals := 13 } : Room) s m #[(.double d0)] below meth c s₁ [] 0 0 := Stand.of_body Bd
  have e0 : s₁.heap = h0 := by rw [← hh, Bd.state]; rfl
  have N0 := Fr.nil n0
  have c0 : ∀ t, Steps p.tables e below (s₁.setTop (mkF m 0 #[.val (.double d0), .second] [])) t → Steps p.tables e below (s₁.setTop (entryFrame m #[(.double d0)] 2)) t := fun t k => castTop (ef_rm4 m d0) k
  obtain ⟨T1, X1, e1, st1⟩ := natS X0 hx hZ (y := (⟨"java/lang/Math", "abs", "(D)D"⟩ : MethodName)) hown (hw _ (List.mem_of_getElem? (i := 19) rfl)) (hw _ (List.mem_of_getElem? (i := 20) rfl)) (hw _ (List.mem_of_getElem? (i := 21) rfl)) (hw _ (List.mem_of_getElem? (i := 22) rfl)) (by decide) e0 (W := 0) (fun hq => Jvm.Free.Fl.Abs.absD_pays d0 hq (by decide) (by decide)) (g := (mkF m 1 #[.val (.double d0), .second] [(.double d0)])) rfl (by rw [hml]; rfl) (argsL := [(.double d0)]) (rest := []) (lenOf pd_0 rfl) rfl (by show 2 * 0 + _ ≤ _; exact Nat.le_of_eq rfl) (hb hby d4_1) (by decide) (by decide) ⟨rfl, nm0_1⟩ (congrArg Value.double hz1)
  have c2 : ∀ t, Steps p.tables e below (T1.setTop (mkF m 16 #[.val (.double d0), .second] [(.int (0 : Int32))])) t → Steps p.tables e below (s₁.setTop (entryFrame m #[(.double d0)] 2)) t := by
    intro t k
    refine c0 t ?_
    show Steps p.tables e below (s₁.setTop (mkF m 0 #[.val (.double d0), .second] [])) _
    refine XS.dloadN X0.here hx rfl (hb hby d4_0) rfl ?_
    show Steps p.tables e below (s₁.setTop (mkF m 1 #[.val (.double d0), .second] [(.double d0)])) _
    refine st1 _ ?_
    show Steps p.tables e below (T1.setTop (mkF m 4 #[.val (.double d0), .second] [(.double z1)])) _
    refine X1.ldc2DoubleC hx hown (mvT hZ (hw _ (List.mem_of_getElem? (i := 23) rfl))) (g := (mkF m 4 #[.val (.double d0), .second] [(.double z1)])) rfl (hb hby d4_4) _ ?_
    show Steps p.tables e below (T1.setTop (mkF m 7 #[.val (.double d0), .second] [(.double (9218868437227405311 : UInt64)), (.double z1)])) _
    refine XS.dcmpS X1.here hx rfl (hb hby d4_7) rfl hz7 ?_
    show Steps p.tables e below (T1.setTop (mkF m 8 #[.val (.double d0), .second] [(.int z7)])) _
    refine XS.ifYes X1.here hx rfl (pc0 := 8) (pc' := 15) rfl (hb hby d4_8) rfl (Jvm.Free.XT.i0_le_t br8) (by decide) (by decide) ?_
    show Steps p.tables e below (T1.setTop (mkF m 15 #[.val (.double d0), .second] [])) _
    refine XS.iconst X1.here hx rfl (hb hby d4_15) ?_
    exact k
  obtain ⟨fs, hr, hrun, hended, hW, hsame⟩ := X1.leave (v := some (.int (0 : Int32))) (fun h => by rw [Bd.returns] at h; cases h)
  refine ⟨_, _, c2 _ ?_, hrun, hended, _, _, rfl, ?_, ⟨_, rfl⟩, hW, hsame.mono (by decide) (by decide)⟩
  · show Steps p.tables e below (T1.setTop (mkF m 16 #[.val (.double d0), .second] [(.int (0 : Int32))])) _
    exact retOut X1 hx Bd.returns rfl (Or.inl ⟨rfl, by simp, _, rfl⟩) (hb hby d4_16) hr
  · show Q4 Z d0 z1 z7 h0 n0 _ T1.heap _
    rw [e1]
    exact ⟨rfl, N0, rfl⟩
def Q1 (Z : State) (o0 : Addr) (d1 : UInt64) (u_kilometresPerHour_o0 : Value) (z6 : Int32) (c11_z1 : UInt64) (c11_z7 : Int32) (h0 : Heap) (n0 : Nat) (v : Option Value) (h : Heap) (L : List Loc) : Prop := v = none ∧ Fr n0 L ∧ Keep h0 h [o0] ∧ Exa Z h o0 "com/example/fleetwave/fleetwave/model/DrivingSpeed" ∧ Fld Z h o0 "com/example/fleetwave/fleetwave/model/DrivingSpeed" "kilometresPerHour" "D" (.double d1)
set_option maxRecDepth 65536 in
set_option maxHeartbeats 40000000 in
theorem rm1 (l : Launch) (Z : State) (a0 : Array Value) (hw : ∀ d ∈ tables_1, d.before a0 Z = true) (ws : List Jvm.Cond) (o0 : Addr) (d1 : UInt64) (u_kilometresPerHour_o0 : Value) (z6 : Int32) (c11_z1 : UInt64) (c11_z7 : Int32) (h0 : Heap) (n0 : Nat) (Z0 : n0 ≤ h0.size) (E_o0 : Exa Z h0 o0 "com/example/fleetwave/fleetwave/model/DrivingSpeed") (F_kilometresPerHour_o0 : Fld Z h0 o0 "com/example/fleetwave/fleetwave/model/DrivingSpeed" "kilometresPerHour" "D" u_kilometresPerHour_o0) (g_o0 : n0 ≤ o0) (hz6 : cmpValue (FP.dcmp d1 FP.dconst0) .l = z6) (hc11_z1 : d1 &&& 0x7fffffffffffffff = c11_z1) (hc11_z7 : cmpValue (FP.dcmp c11_z1 (9218868437227405311 : UInt64)) .l = c11_z7) (br7 : (0 : Int32) < z6) (c11_nm0_1 : Jvm.Free.Fl.NoNaN64 d1) (c11_br8 : ¬ (0 : Int32) < c11_z7) :
    MetFree l (⟨"com/example/fleetwave/fleetwave/model/DrivingSpeed", "<init>", "(D)V"⟩ : MethodName) (head1 (Jvm.Cond.code (⟨"com/example/fleetwave/fleetwave/model/DrivingSpeed", "<init>", "(D)V"⟩ : MethodName) prog_42_method_1_code 3 none :: ws) ({ frames := 2, cells := 0, slots := 0, locals := 26 } : Room)) (fun a U => a = #[(.ref o0), (.double d1)] ∧ Z.Warmed39 U.vm ∧ U.heap = h0) (fun _ _ _ _ _ => True) (fun _ U o U' => ∃ v L, o = .returned v ∧ Q1 Z o0 d1 u_kilometresPerHour_o0 z6 c11_z1 c11_z7 h0 n0 v U'.heap L ∧ FrameEnd U o U' L ({ frames := 2, cells := 0, slots := 0, locals := 26 } : Room).cells ({ frames := 2, cells := 0, slots := 0, locals := 26 } : Room).slots) := by
  refine MetFree.of_bodySF (plainFor_of_name pn_2) hisR ?_
  intro p e s m args below meth c s₁ Bd hml0 hP hK
  obtain ⟨rfl, hZ, hh⟩ := hP
  have hx := Bd.exec
  have hby := Bd.bytes
  have hml : c.maxLocals = 3 := hml0
  have hown : s.vm.findClass "com/example/fleetwave/fleetwave/model/DrivingSpeed" = some m.cls := findClass_of_methodNamed Bd.named
  have hnm := (name_of_methodNamed Bd.named Bd.method).1
  have X0 : Stand p l e ({ frames := 2, cells := 0, slots := 0, locals := 26 } : Room) s m #[(.ref o0), (.double d1)] below meth c s₁ [] 0 0 := Stand.of_body Bd
  have e0 : s₁.heap = h0 := by rw [← hh, Bd.state]; rfl
  have N0 := Fr.nil n0
  have c0 : ∀ t, Steps p.tables e below (s₁.setTop (mkF m 0 #[.val (.ref o0), .val (.double d1), .second] [])) t → Steps p.tables e below (s₁.setTop (entryFrame m #[(.ref o0), (.double d1)] 3)) t := fun t k => castTop (ef_rm1 m o0 d1) k
  obtain ⟨_, _, ⟨T1, L1, k1, n1⟩, -, X1, ⟨Lc1, hQ1, ql1, qy1, qz1⟩, st1⟩ := X0.specialBack hx (y := (⟨"java/lang/Record", "<init>", "()V"⟩ : MethodName)) rfl hown (mvT hZ (hw _ (List.mem_of_getElem? (i := 7) rfl))) (mvT hZ (hw _ (List.mem_of_getElem? (i := 8) rfl))) (mvT hZ (hw _ (List.mem_of_getElem? (i := 11) rfl))) (by decide) (backOf (W := 0) (rm2 l Z a0 hw [] o0  h0 n0 Z0 ) hZ (hw _ (List.mem_of_getElem? (i := 11) rfl)) (hw _ (List.mem_of_getElem? (i := 10) rfl)) (by decide) (by decide)) (g := (mkF m 1 #[.val (.ref o0), .val (.double d1), .second] [(.ref o0)])) rfl (by rw [hml]; rfl) (Steps.refl _) (a := o0) (argsL := []) (rest := []) (lenOf pd_1 rfl) rfl (by show 2 * 0 + _ ≤ _; exact Nat.le_of_eq rfl) (hb hby d1_1) (fun _ _ => ⟨rfl, e0, (by decide : 0 + 0 ≤ _), (by decide : 0 + 0 ≤ _)⟩)
  dsimp only [Pt.U, Pt.locs, Pt.cells, Pt.slots] at X1 ql1 qy1 qz1 st1 hQ1
  subst ql1 qy1 qz1
  obtain ⟨rfl, N1q, e1⟩ := hQ1
  have N1 := Fr.app N0 N1q
  obtain ⟨_, _, ⟨T2, L2, k2, n2⟩, -, X2, ⟨Lc2, hQ2, ql2, qy2, qz2⟩, st2⟩ := Jvm.LawKit.callS X1 hx (y := (⟨"java/lang/Double", "isInfinite", "(D)Z"⟩ : MethodName)) hown (mvT hZ (hw _ (List.mem_of_getElem? (i := 15) rfl))) (mvT hZ (hw _ (List.mem_of_getElem? (i := 16) rfl))) (mvT hZ (hw _ (List.mem_of_getElem? (i := 17) rfl))) (mvT hZ (hw _ (List.mem_of_getElem? (i := 18) rfl))) (by decide) (backOf (W := 0) (rm4 l Z a0 hw [] d1 c11_z1 c11_z7 h0 n0 Z0 hc11_z1 hc11_z7 c11_nm0_1 c11_br8) hZ (hw _ (List.mem_of_getElem? (i := 18) rfl)) (hw _ (List.mem_of_getElem? (i := 17) rfl)) (by decide) (by decide)) (g := (mkF m 11 #[.val (.ref o0), .val (.double d1), .second] [(.double d1)])) rfl (by rw [hml]; rfl) (argsL := [(.double d1)]) (rest := []) (lenOf pd_2 rfl) rfl (by show 2 * 0 + _ ≤ _; exact Nat.le_of_eq rfl) (hb hby d1_11) (fun _ _ => ⟨rfl, e1, (by decide : 0 + 0 ≤ _), (by decide : 0 + 0 ≤ _)⟩)
  dsimp only [Pt.U, Pt.locs, Pt.cells, Pt.slots] at X2 ql2 qy2 qz2 st2 hQ2
  subst ql2 qy2 qz2
  obtain ⟨rfl, N2q, e2⟩ := hQ2
  have N2 := Fr.app N1 N2q
  obtain ⟨T3, h3, X3, e3, W3, st3⟩ := putF X2 hx hZ hown (host := "") (Or.inl (hw _ (List.mem_of_getElem? (i := 24) rfl))) Via.refl e2 F_kilometresPerHour_o0 E_o0 (Or.inr ⟨(hw _ (List.mem_of_getElem? (i := 25) rfl)), rfl, hnm⟩) (hw _ (List.mem_of_getElem? (i := 2) rfl)) (ty := .double) (by decide) rfl rfl (g := (mkF m 33 #[.val (.ref o0), .val (.double d1), .second] [(.double d1), (.ref o0)])) rfl rfl (hb hby d1_33)
  have N3 := Fr.snoc X3 N2 g_o0
  have K4 : Keep h0 h3 [o0] := (Keep.refl h0 [o0]).wr W3 (Or.inl (by simp))
  have F3w := F_kilometresPerHour_o0.same W3
  have c5 : ∀ t, Steps p.tables e below (T3.setTop (mkF m 36 #[.val (.ref o0), .val (.double d1), .second] [])) t → Steps p.tables e below (s₁.setTop (entryFrame m #[(.ref o0), (.double d1)] 3)) t := by
    intro t k
    refine c0 t ?_
    show Steps p.tables e below (s₁.setTop (mkF m 0 #[.val (.ref o0), .val (.double d1), .second] [])) _
    refine XS.aloadN X0.here hx rfl (hb hby d1_0) rfl rfl ?_
    show Steps p.tables e below (s₁.setTop (mkF m 1 #[.val (.ref o0), .val (.double d1), .second] [(.ref o0)])) _
    refine st1.trans ?_
    show Steps p.tables e below (T1.setTop (mkF m 4 #[.val (.ref o0), .val (.double d1), .second] [])) _
    refine XS.dloadN X1.here hx rfl (hb hby d1_4) rfl ?_
    show Steps p.tables e below (T1.setTop (mkF m 5 #[.val (.ref o0), .val (.double d1), .second] [(.double d1)])) _
    refine XS.dconst0 X1.here hx rfl (hb hby d1_5) (v := FP.dconst0) rfl ?_
    show Steps p.tables e below (T1.setTop (mkF m 6 #[.val (.ref o0), .val (.double d1), .second] [(.double FP.dconst0), (.double d1)])) _
    refine XS.dcmpS X1.here hx rfl (hb hby d1_6) rfl hz6 ?_
    show Steps p.tables e below (T1.setTop (mkF m 7 #[.val (.ref o0), .val (.double d1), .second] [(.int z6)])) _
    refine XS.ifNo X1.here hx rfl (hb hby d1_7) rfl (Jvm.Free.XT.i0_le_f br7) ?_
    show Steps p.tables e below (T1.setTop (mkF m 10 #[.val (.ref o0), .val (.double d1), .second] [])) _
    refine XS.dloadN X1.here hx rfl (hb hby d1_10) rfl ?_
    show Steps p.tables e below (T1.setTop (mkF m 11 #[.val (.ref o0), .val (.double d1), .second] [(.double d1)])) _
    refine st2 _ ?_
    show Steps p.tables e below (T2.setTop (mkF m 14 #[.val (.ref o0), .val (.double d1), .second] [(.int (0 : Int32))])) _
    refine XS.ifYes X2.here hx rfl (pc0 := 14) (pc' := 31) rfl (hb hby d1_14) rfl (Jvm.Free.XT.i0_eq_t (by decide)) (by decide) (by decide) ?_
    show Steps p.tables e below (T2.setTop (mkF m 31 #[.val (.ref o0), .val (.double d1), .second] [])) _
    refine XS.aloadN X2.here hx rfl (hb hby d1_31) rfl rfl ?_
    show Steps p.tables e below (T2.setTop (mkF m 32 #[.val (.ref o0), .val (.double d1), .second] [(.ref o0)])) _
    refine XS.dloadN X2.here hx rfl (hb hby d1_32) rfl ?_
    show Steps p.tables e below (T2.setTop (mkF m 33 #[.val (.ref o0), .val (.double d1), .second] [(.double d1), (.ref o0)])) _
    refine st3 _ ?_
    exact k
  obtain ⟨fs, hr, hrun, hended, hW, hsame⟩ := X3.leave (v := none) (fun _ => rfl)
  refine ⟨_, _, c5 _ ?_, hrun, hended, _, _, rfl, ?_, ⟨_, rfl⟩, hW, hsame.mono (by decide) (by decide)⟩
  · show Steps p.tables e below (T3.setTop (mkF m 36 #[.val (.ref o0), .val (.double d1), .second] [])) _
    exact X3.returnOut hx Bd.returns (hb hby d1_36) hr
  · show Q1 Z o0 d1 u_kilometresPerHour_o0 z6 c11_z1 c11_z7 h0 n0 _ T3.heap _
    rw [e3]
    exact ⟨rfl, N3, K4, (E_o0.wr W3), F3w⟩
def Q6 (Z : State) (o0 : Addr) (d1 : UInt64) (w_kilometresPerHour_o0 : UInt64) (z4 : UInt64) (z9 : UInt64) (z13 : UInt64) (h0 : Heap) (n0 : Nat) (v : Option Value) (h : Heap) (L : List Loc) : Prop := v = some (.double z13) ∧ Fr n0 L ∧ h = h0
set_option maxRecDepth 65536 in
set_option maxHeartbeats 40000000 in
theorem rm6 (l : Launch) (Z : State) (a0 : Array Value) (hw : ∀ d ∈ tables_1, d.before a0 Z = true) (ws : List Jvm.Cond) (o0 : Addr) (d1 : UInt64) (w_kilometresPerHour_o0 : UInt64) (z4 : UInt64) (z9 : UInt64) (z13 : UInt64) (h0 : Heap) (n0 : Nat) (Z0 : n0 ≤ h0.size) (F_kilometresPerHour_o0 : Fld Z h0 o0 "com/example/fleetwave/fleetwave/model/DrivingSpeed" "kilometresPerHour" "D" (.double w_kilometresPerHour_o0)) (hz4 : FP.ddiv d1 (4652007308841189376 : UInt64) = z4) (hz9 : FP.ddiv z4 w_kilometresPerHour_o0 = z9) (hz13 : FP.dmul z9 (4660134898793709568 : UInt64) = z13) (nn4 : Jvm.Free.Fl.NoNaN64 z4) (nn9 : Jvm.Free.Fl.NoNaN64 z9) (nn13 : Jvm.Free.Fl.NoNaN64 z13) :
    MetFree l (⟨"com/example/fleetwave/fleetwave/model/DrivingSpeed", "seconds", "(D)D"⟩ : MethodName) (head1 (Jvm.Cond.code (⟨"com/example/fleetwave/fleetwave/model/DrivingSpeed", "seconds", "(D)D"⟩ : MethodName) prog_42_method_2_code 3 (some .double) :: ws) ({ frames := 0, cells := 0, slots := 0, locals := 0 } : Room)) (fun a U => a = #[(.ref o0), (.double d1)] ∧ Z.Warmed39 U.vm ∧ U.heap = h0) (fun _ _ _ _ _ => True) (fun _ U o U' => ∃ v L, o = .returned v ∧ Q6 Z o0 d1 w_kilometresPerHour_o0 z4 z9 z13 h0 n0 v U'.heap L ∧ FrameEnd U o U' L ({ frames := 0, cells := 0, slots := 0, locals := 0 } : Room).cells ({ frames := 0, cells := 0, slots := 0, locals := 0 } : Room).slots) := by
  refine MetFree.of_bodySF (plainFor_of_name pn_2) hisR ?_
  intro p e s m args below meth c s₁ Bd hml0 hP hK
  obtain ⟨rfl, hZ, hh⟩ := hP
  have hx := Bd.exec
  have hby := Bd.bytes
  have hml : c.maxLocals = 3 := hml0
  have hown : s.vm.findClass "com/example/fleetwave/fleetwave/model/DrivingSpeed" = some m.cls := findClass_of_methodNamed Bd.named
  have hnm := (name_of_methodNamed Bd.named Bd.method).1
  have X0 : Stand p l e ({ frames := 0, cells := 0, slots := 0, locals := 0 } : Room) s m #[(.ref o0), (.double d1)] below meth c s₁ [] 0 0 := Stand.of_body Bd
  have e0 : s₁.heap = h0 := by rw [← hh, Bd.state]; rfl
  have N0 := Fr.nil n0
  have c0 : ∀ t, Steps p.tables e below (s₁.setTop (mkF m 0 #[.val (.ref o0), .val (.double d1), .second] [])) t → Steps p.tables e below (s₁.setTop (entryFrame m #[(.ref o0), (.double d1)] 3)) t := fun t k => castTop (ef_rm6 m o0 d1) k
  obtain ⟨T1, X1, e1, st1⟩ := getF X0 hx hZ hown (host := "") (Or.inl (hw _ (List.mem_of_getElem? (i := 24) rfl))) Via.refl e0 F_kilometresPerHour_o0 (g := (mkF m 6 #[.val (.ref o0), .val (.double d1), .second] [(.ref o0), (.double z4)])) rfl rfl (hb hby d6_6)
  have c2 : ∀ t, Steps p.tables e below (T1.setTop (mkF m 14 #[.val (.ref o0), .val (.double d1), .second] [(.double z13)])) t → Steps p.tables e below (s₁.setTop (entryFrame m #[(.ref o0), (.double d1)] 3)) t := by
    intro t k
    refine c0 t ?_
    show Steps p.tables e below (s₁.setTop (mkF m 0 #[.val (.ref o0), .val (.double d1), .second] [])) _
    refine XS.dloadN X0.here hx rfl (hb hby d6_0) rfl ?_
    show Steps p.tables e below (s₁.setTop (mkF m 1 #[.val (.ref o0), .val (.double d1), .second] [(.double d1)])) _
    refine X0.ldc2DoubleC hx hown (mvT hZ (hw _ (List.mem_of_getElem? (i := 33) rfl))) (g := (mkF m 1 #[.val (.ref o0), .val (.double d1), .second] [(.double d1)])) rfl (hb hby d6_1) _ ?_
    show Steps p.tables e below (s₁.setTop (mkF m 4 #[.val (.ref o0), .val (.double d1), .second] [(.double (4652007308841189376 : UInt64)), (.double d1)])) _
    refine Jvm.OwnK.ddiv X0.here hx rfl (hb hby d6_4) rfl hz4 nn4 ?_
    show Steps p.tables e below (s₁.setTop (mkF m 5 #[.val (.ref o0), .val (.double d1), .second] [(.double z4)])) _
    refine XS.aloadN X0.here hx rfl (hb hby d6_5) rfl rfl ?_
    show Steps p.tables e below (s₁.setTop (mkF m 6 #[.val (.ref o0), .val (.double d1), .second] [(.ref o0), (.double z4)])) _
    refine st1 _ ?_
    show Steps p.tables e below (T1.setTop (mkF m 9 #[.val (.ref o0), .val (.double d1), .second] [(.double w_kilometresPerHour_o0), (.double z4)])) _
    refine Jvm.OwnK.ddiv X1.here hx rfl (hb hby d6_9) rfl hz9 nn9 ?_
    show Steps p.tables e below (T1.setTop (mkF m 10 #[.val (.ref o0), .val (.double d1), .second] [(.double z9)])) _
    refine X1.ldc2DoubleC hx hown (mvT hZ (hw _ (List.mem_of_getElem? (i := 34) rfl))) (g := (mkF m 10 #[.val (.ref o0), .val (.double d1), .second] [(.double z9)])) rfl (hb hby d6_10) _ ?_
    show Steps p.tables e below (T1.setTop (mkF m 13 #[.val (.ref o0), .val (.double d1), .second] [(.double (4660134898793709568 : UInt64)), (.double z9)])) _
    refine Jvm.OwnK.dmul X1.here hx rfl (hb hby d6_13) rfl hz13 nn13 ?_
    exact k
  obtain ⟨fs, hr, hrun, hended, hW, hsame⟩ := X1.leave (v := some (.double z13)) (fun h => by rw [Bd.returns] at h; cases h)
  refine ⟨_, _, c2 _ ?_, hrun, hended, _, _, rfl, ?_, ⟨_, rfl⟩, hW, hsame.mono (by decide) (by decide)⟩
  · show Steps p.tables e below (T1.setTop (mkF m 14 #[.val (.ref o0), .val (.double d1), .second] [(.double z13)])) _
    exact retOut X1 hx Bd.returns rfl (Or.inr (Or.inr (Or.inl ⟨rfl, rfl, _, rfl⟩))) (hb hby d6_14) hr
  · show Q6 Z o0 d1 w_kilometresPerHour_o0 z4 z9 z13 h0 n0 _ T1.heap _
    rw [e1]
    exact ⟨rfl, N0, rfl⟩
def Q0 (n0 : Nat) (v : Option Value) (h : Heap) (L : List Loc) : Prop := v = some (.int 1) ∧ Fr n0 L
set_option maxRecDepth 65536 in
set_option maxHeartbeats 40000000 in
theorem rm0 (l : Launch) (Z : State) (a0 : Array Value) (hw : ∀ d ∈ tables_1, d.before a0 Z = true) (ws : List Jvm.Cond) (p0 : Int32) (p1 : Int32) (p2 : Int32) (p3 : Int32)  (h0 : Heap) (n0 : Nat) (Z0 : n0 ≤ h0.size)  :
    MetFree l x (head1 (Jvm.Cond.code x code maxLocals ret :: ws) room_1) (fun a U => a = #[(.int p0), (.int p1), (.int p2), (.int p3)] ∧ Z.Warmed39 U.vm ∧ U.heap = h0) (fun _ _ _ _ _ => True) (fun _ U o U' => ∃ v L, o = .returned v ∧ Q0 n0 v U'.heap L ∧ FrameEnd U o U' L room_1.cells room_1.slots) := by
  refine MetFree.of_bodySF (plainFor_of_name pn_3) hisR ?_
  intro p e s m args below meth c s₁ Bd hml0 hP hK
  obtain ⟨rfl, hZ, hh⟩ := hP
  have hx := Bd.exec
  have hby := Bd.bytes
  have hml : c.maxLocals = 19 := hml0
  have hown : s.vm.findClass "com/example/fleetwave/fleetwave/model/DrivingSpeedSecondsPinLaw" = some m.cls := findClass_of_methodNamed Bd.named
  have hnm := (name_of_methodNamed Bd.named Bd.method).1
  have X0 : Stand p l e room_1 s m #[(.int p0), (.int p1), (.int p2), (.int p3)] below meth c s₁ [] 0 0 := Stand.of_body Bd
  have e0 : s₁.heap = h0 := by rw [← hh, Bd.state]; rfl
  have N0 := Fr.nil n0
  have c0 : ∀ t, Steps p.tables e below (s₁.setTop (mkF m 0 #[.val (.int p0), .val (.int p1), .val (.int p2), .val (.int p3), .unset, .unset, .unset, .unset, .unset, .unset, .unset, .unset, .unset, .unset, .unset, .unset, .unset, .unset, .unset] [])) t → Steps p.tables e below (s₁.setTop (entryFrame m #[(.int p0), (.int p1), (.int p2), (.int p3)] maxLocals)) t := fun t k => castTop (ef_rm0 m p0 p1 p2 p3) k
  obtain ⟨z4, hz4⟩ : ∃ z : Int32, p0 &&& (4095 : Int32) = z := ⟨_, rfl⟩
  obtain ⟨z6, hz6⟩ : ∃ z : Int32, z4 + (1 : Int32) = z := ⟨_, rfl⟩
  obtain ⟨z11, hz11⟩ : ∃ z : UInt64, FP.i2d z6 = z := ⟨_, rfl⟩
  obtain ⟨z15, hz15⟩ : ∃ z : UInt64, FP.ddiv z11 (4616189618054758400 : UInt64) = z := ⟨_, rfl⟩
  obtain ⟨c24_z6, hc24_z6⟩ : ∃ z : Int32, cmpValue (FP.dcmp z15 FP.dconst0) .l = z := ⟨_, rfl⟩
  obtain ⟨c24_c11_z1, hc24_c11_z1⟩ : ∃ z : UInt64, z15 &&& 0x7fffffffffffffff = z := ⟨_, rfl⟩
  obtain ⟨c24_c11_z7, hc24_c11_z7⟩ : ∃ z : Int32, cmpValue (FP.dcmp c24_c11_z1 (9218868437227405311 : UInt64)) .l = z := ⟨_, rfl⟩
  obtain ⟨z38, hz38⟩ : ∃ z : UInt64, FP.dmul z15 (4611686018427387904 : UInt64) = z := ⟨_, rfl⟩
  obtain ⟨c39_z6, hc39_z6⟩ : ∃ z : Int32, cmpValue (FP.dcmp z38 FP.dconst0) .l = z := ⟨_, rfl⟩
  obtain ⟨c39_c11_z1, hc39_c11_z1⟩ : ∃ z : UInt64, z38 &&& 0x7fffffffffffffff = z := ⟨_, rfl⟩
  obtain ⟨c39_c11_z7, hc39_c11_z7⟩ : ∃ z : Int32, cmpValue (FP.dcmp c39_c11_z1 (9218868437227405311 : UInt64)) .l = z := ⟨_, rfl⟩
  obtain ⟨z49, hz49⟩ : ∃ z : Int64, z6.toInt64 = z := ⟨_, rfl⟩
  obtain ⟨z50, hz50⟩ : ∃ z : Int64, (250 : Int64) * z49 = z := ⟨_, rfl⟩
  obtain ⟨z52, hz52⟩ : ∃ z : Int64, p1.toInt64 = z := ⟨_, rfl⟩
  obtain ⟨z53, hz53⟩ : ∃ z : Int64, z50 * z52 = z := ⟨_, rfl⟩
  obtain ⟨z54, hz54⟩ : ∃ z : UInt64, FP.l2d z53 = z := ⟨_, rfl⟩
  obtain ⟨c61_z4, hc61_z4⟩ : ∃ z : UInt64, FP.ddiv z54 (4652007308841189376 : UInt64) = z := ⟨_, rfl⟩
  obtain ⟨c61_z9, hc61_z9⟩ : ∃ z : UInt64, FP.ddiv c61_z4 z15 = z := ⟨_, rfl⟩
  obtain ⟨c61_z13, hc61_z13⟩ : ∃ z : UInt64, FP.dmul c61_z9 (4660134898793709568 : UInt64) = z := ⟨_, rfl⟩
  obtain ⟨z65, hz65⟩ : ∃ z : UInt64, FP.i2d p1 = z := ⟨_, rfl⟩
  obtain ⟨z69, hz69⟩ : ∃ z : UInt64, FP.dmul z65 (4660134898793709568 : UInt64) = z := ⟨_, rfl⟩
  obtain ⟨z70, hz70⟩ : ∃ z : Int32, cmpValue (FP.dcmp c61_z13 z69) .l = z := ⟨_, rfl⟩
  obtain ⟨z84, hz84⟩ : ∃ z : UInt64, FP.i2d p2 = z := ⟨_, rfl⟩
  obtain ⟨c85_z4, hc85_z4⟩ : ∃ z : UInt64, FP.ddiv z84 (4652007308841189376 : UInt64) = z := ⟨_, rfl⟩
  obtain ⟨c85_z9, hc85_z9⟩ : ∃ z : UInt64, FP.ddiv c85_z4 z15 = z := ⟨_, rfl⟩
  obtain ⟨c85_z13, hc85_z13⟩ : ∃ z : UInt64, FP.dmul c85_z9 (4660134898793709568 : UInt64) = z := ⟨_, rfl⟩
  obtain ⟨z93, hz93⟩ : ∃ z : UInt64, FP.i2d p3 = z := ⟨_, rfl⟩
  obtain ⟨c94_z4, hc94_z4⟩ : ∃ z : UInt64, FP.ddiv z93 (4652007308841189376 : UInt64) = z := ⟨_, rfl⟩
  obtain ⟨c94_z9, hc94_z9⟩ : ∃ z : UInt64, FP.ddiv c94_z4 z15 = z := ⟨_, rfl⟩
  obtain ⟨c94_z13, hc94_z13⟩ : ∃ z : UInt64, FP.dmul c94_z9 (4660134898793709568 : UInt64) = z := ⟨_, rfl⟩
  have mk := c_mask p0 4095 12 (by decide) (by decide)
  rw [hz4, show ((2 ^ 12 : Nat) : Int) = 4096 by decide] at mk
  have i6 := Jvm.OwnF.iadd_v hz6 (by rw [show (1 : Int32).toInt = 1 by decide]; omega)
  rw [show (1 : Int32).toInt = 1 by decide] at i6
  have bK : 1 ≤ z6.toInt ∧ z6.toInt ≤ 4096 := by omega
  have bK8 : 1 ≤ z6.toInt ∧ z6.toInt ≤ 8192 := by omega
  have dv : Jvm.OwnF.DV z6.toInt 2 z15 := hz15 ▸ hz11 ▸ Jvm.OwnF.DV_div (Jvm.OwnF.DV_i2d z6) kfour (by decide) (by decide) (Jvm.OwnF.r53 (by omega)) (by simp)
  have nn15 := dv.nn
  have dv2 : Jvm.OwnF.DV (2 * z6.toInt) 2 z38 := by
    have := hz38 ▸ Jvm.OwnF.DV_mul dv ktwo (by decide) (Jvm.OwnF.r53 (by omega))
    rw [Int.mul_comm] at this; exact this
  have nn38 := dv2.nn
  obtain ⟨c24_br7, c24_c11_nm0_1, c24_c11_br8⟩ := ok dv (by omega) hc24_z6 hc24_c11_z1 hc24_c11_z7
  obtain ⟨c39_br7, c39_c11_nm0_1, c39_c11_br8⟩ := ok dv2 (by omega) hc39_z6 hc39_c11_z1 hc39_c11_z7
  have rt := Jvm.OwnF.rng32b p1
  have i50 := Jvm.OwnF.lmul_v hz50 (by rw [Jvm.OwnF.i2l_v hz49, show (250 : Int64).toInt = 250 by decide]; omega)
  rw [Jvm.OwnF.i2l_v hz49, show (250 : Int64).toInt = 250 by decide] at i50
  have b53 : (250 * z6.toInt * p1.toInt).natAbs ≤ 1024000 * 2147483648 := Jvm.OwnF.mul_bd (by omega) rt
  have i53 := Jvm.OwnF.lmul_v hz53 (by rw [i50, Jvm.OwnF.i2l_v hz52]; omega)
  rw [i50, Jvm.OwnF.i2l_v hz52] at i53
  have dm : Jvm.OwnF.DV (250 * z6.toInt * p1.toInt) 0 z54 := hz54 ▸ (Jvm.OwnF.DV_l2d (Jvm.OwnF.r53 (by rw [i53]; omega))).of_eq i53
  obtain ⟨c61_nn4, c61_nn9, c61_nn13, dx⟩ := ex bK rt dm dv hc61_z4 hc61_z9 hc61_z13
  have d69 : Jvm.OwnF.DV (p1.toInt * 3600) 0 z69 := hz69 ▸ hz65 ▸ Jvm.OwnF.DV_mul (Jvm.OwnF.DV_i2d p1) k3600 (by decide) (Jvm.OwnF.r53 (by omega))
  have nn69 := d69.nn
  have br71 : z70 = 0 := hz70.symm.trans (Jvm.OwnF.DV_eq0 dx d69 _)
  obtain ⟨da, ba, -, -, -, -⟩ := negI p2 hz84
  obtain ⟨dbb, bb, -, -, -, -⟩ := negI p3 hz93
  obtain ⟨c85_nn4, c85_nn9, c85_nn13, F85, -⟩ := sec bK8 dv da.1 ba hc85_z4 hc85_z9 hc85_z13
  obtain ⟨c94_nn4, c94_nn9, c94_nn13, F94, -⟩ := sec bK8 dv dbb.1 bb hc94_z4 hc94_z9 hc94_z13
  obtain ⟨Sp, Sn, S0, -⟩ := signs bK8 dv hz84 hc85_z4 hc85_z9 hc85_z13
  obtain ⟨T1, h1, X1, e1, E1, A1, D1, -, st1⟩ := newO X0 hx hZ hown (hw _ (List.mem_of_getElem? (i := 1) rfl)) (hw _ (List.mem_of_getElem? (i := 2) rfl)) (hw _ (List.mem_of_getElem? (i := 3) rfl)) e0 (g := (mkF m 18 #[.val (.int p0), .val (.int p1), .val (.int p2), .val (.int p3), .val (.int z6), .val (.double z15), .second, .unset, .unset, .unset, .unset, .unset, .unset, .unset, .unset, .unset, .unset, .unset, .unset] [])) rfl (hb hby at_18) (by decide) (by decide)
  obtain ⟨b1, g1⟩ : ∃ z, z = h0.size := ⟨_, rfl⟩
  rw [← g1] at A1 D1 st1
  have gn1 : n0 ≤ b1 := Nat.le_trans Z0 (Nat.le_of_eq g1.symm)
  have gz1 : h0.size ≤ b1 := Nat.le_trans ((Keep.refl h0 [])).1 (Nat.le_of_eq g1.symm)
  have K2 : Keep h0 h1 [] := (Keep.refl h0 []).ext E1
  have F1_kilometresPerHour : Fld Z h1 b1 "com/example/fleetwave/fleetwave/model/DrivingSpeed" "kilometresPerHour" "D" (.double (0 : UInt64)) := D1 (Or.inr (hw _ (List.mem_of_getElem? (i := 25) rfl))) (ty := .double) (by decide)
  obtain ⟨_, _, ⟨T3, L3, k3, n3⟩, -, X3, ⟨Lc3, hQ3, ql3, qy3, qz3⟩, st3⟩ := X1.specialBack hx (y := (⟨"com/example/fleetwave/fleetwave/model/DrivingSpeed", "<init>", "(D)V"⟩ : MethodName)) rfl hown (mvT hZ (hw _ (List.mem_of_getElem? (i := 4) rfl))) (mvT hZ (hw _ (List.mem_of_getElem? (i := 5) rfl))) (mvT hZ (hw _ (List.mem_of_getElem? (i := 6) rfl))) (by decide) (backOf (W := 1) (rm1 l Z a0 hw [] b1 z15 ((.double (0 : UInt64))) c24_z6 c24_c11_z1 c24_c11_z7 h1 n0 (Nat.le_trans Z0 E1.1) A1 F1_kilometresPerHour gn1 hc24_z6 hc24_c11_z1 hc24_c11_z7 c24_br7 c24_c11_nm0_1 c24_c11_br8) hZ (hw _ (List.mem_of_getElem? (i := 6) rfl)) (hw _ (List.mem_of_getElem? (i := 3) rfl)) (by decide) (by decide)) (g := (mkF m 24 #[.val (.int p0), .val (.int p1), .val (.int p2), .val (.int p3), .val (.int z6), .val (.double z15), .second, .unset, .unset, .unset, .unset, .unset, .unset, .unset, .unset, .unset, .unset, .unset, .unset] [(.double z15), (.ref b1), (.ref b1)])) rfl (by rw [hml]; rfl) (Steps.refl _) (a := b1) (argsL := [(.double z15)]) (rest := [(.ref b1)]) (lenOf pd_3 rfl) rfl (by show 2 * 0 + _ ≤ _; exact Nat.le_of_eq rfl) (hb hby at_24) (fun _ _ => ⟨rfl, e1, (by decide : 1 + 0 ≤ _), (by decide : 1 + 0 ≤ _)⟩)
  dsimp only [Pt.U, Pt.locs, Pt.cells, Pt.slots] at X3 ql3 qy3 qz3 st3 hQ3
  subst ql3 qy3 qz3
  obtain ⟨rfl, N3q, K3q, Q3_0, Q3_1⟩ := hQ3
  have N3 := Fr.app N0 N3q
  have K4 : Keep h0 T3.heap [] := Keep.trans K2 K3q (allS (Or.inr gz1) all0)
  obtain ⟨T5, h5, X5, e5, E5, A5, D5, -, st5⟩ := newO X3 hx hZ hown (hw _ (List.mem_of_getElem? (i := 1) rfl)) (hw _ (List.mem_of_getElem? (i := 2) rfl)) (hw _ (List.mem_of_getElem? (i := 3) rfl)) rfl (g := (mkF m 29 #[.val (.int p0), .val (.int p1), .val (.int p2), .val (.int p3), .val (.int z6), .val (.double z15), .second, .val (.ref b1), .unset, .unset, .unset, .unset, .unset, .unset, .unset, .unset, .unset, .unset, .unset] [])) rfl (hb hby at_29) (by decide) (by decide)
  obtain ⟨b5, g5⟩ : ∃ z, z = T3.heap.size := ⟨_, rfl⟩
  rw [← g5] at A5 D5 st5
  have gn5 : n0 ≤ b5 := Nat.le_trans (Nat.le_trans (Nat.le_trans Z0 E1.1) K3q.1) (Nat.le_of_eq g5.symm)
  have gz5 : h0.size ≤ b5 := Nat.le_trans (K4).1 (Nat.le_of_eq g5.symm)
  have K6 : Keep h0 h5 [] := K4.ext E5
  have F5_kilometresPerHour : Fld Z h5 b5 "com/example/fleetwave/fleetwave/model/DrivingSpeed" "kilometresPerHour" "D" (.double (0 : UInt64)) := D5 (Or.inr (hw _ (List.mem_of_getElem? (i := 25) rfl))) (ty := .double) (by decide)
  obtain ⟨_, _, ⟨T7, L7, k7, n7⟩, -, X7, ⟨Lc7, hQ7, ql7, qy7, qz7⟩, st7⟩ := X5.specialBack hx (y := (⟨"com/example/fleetwave/fleetwave/model/DrivingSpeed", "<init>", "(D)V"⟩ : MethodName)) rfl hown (mvT hZ (hw _ (List.mem_of_getElem? (i := 4) rfl))) (mvT hZ (hw _ (List.mem_of_getElem? (i := 5) rfl))) (mvT hZ (hw _ (List.mem_of_getElem? (i := 6) rfl))) (by decide) (backOf (W := 1) (rm1 l Z a0 hw [] b5 z38 ((.double (0 : UInt64))) c39_z6 c39_c11_z1 c39_c11_z7 h5 n0 (Nat.le_trans (Nat.le_trans (Nat.le_trans Z0 E1.1) K3q.1) E5.1) A5 F5_kilometresPerHour gn5 hc39_z6 hc39_c11_z1 hc39_c11_z7 c39_br7 c39_c11_nm0_1 c39_c11_br8) hZ (hw _ (List.mem_of_getElem? (i := 6) rfl)) (hw _ (List.mem_of_getElem? (i := 3) rfl)) (by decide) (by decide)) (g := (mkF m 39 #[.val (.int p0), .val (.int p1), .val (.int p2), .val (.int p3), .val (.int z6), .val (.double z15), .second, .val (.ref b1), .unset, .unset, .unset, .unset, .unset, .unset, .unset, .unset, .unset, .unset, .unset] [(.double z38), (.ref b5), (.ref b5)])) rfl (by rw [hml]; rfl) (Steps.refl _) (a := b5) (argsL := [(.double z38)]) (rest := [(.ref b5)]) (lenOf pd_3 rfl) rfl (by show 2 * 0 + _ ≤ _; exact Nat.le_of_eq rfl) (hb hby at_39) (fun _ _ => ⟨rfl, e5, (by decide : 2 + 0 ≤ _), (by decide : 2 + 0 ≤ _)⟩)
  dsimp only [Pt.U, Pt.locs, Pt.cells, Pt.slots] at X7 ql7 qy7 qz7 st7 hQ7
  subst ql7 qy7 qz7
  obtain ⟨rfl, N7q, K7q, Q7_0, Q7_1⟩ := hQ7
  have N7 := Fr.app N3 N7q
  have K8 : Keep h0 T7.heap [] := Keep.trans K6 K7q (allS (Or.inr gz5) all0)
  have f9 := ((Q3_1.ext E5).keep K7q (ninS (Nat.ne_of_lt (Nat.lt_of_lt_of_le (Q3_0).lt (Nat.le_of_eq g5.symm))) nin0))
  have f11 := ((Q3_0.ext E5).keep K7q)
  obtain ⟨cq10, kq10, q10a, q10b, q10c⟩ := isOf hZ rfl f11
  obtain ⟨_, _, ⟨T10, L10, k10, n10⟩, -, X10, ⟨Lc10, hQ10, ql10, qy10, qz10⟩, st10⟩ := X7.virtualBack hx (y := (⟨"com/example/fleetwave/fleetwave/model/DrivingSpeed", "seconds", "(D)D"⟩ : MethodName)) (z := (⟨"com/example/fleetwave/fleetwave/model/DrivingSpeed", "seconds", "(D)D"⟩ : MethodName)) hown (mvT hZ (hw _ (List.mem_of_getElem? (i := 28) rfl))) (mvT hZ (hw _ (List.mem_of_getElem? (i := 29) rfl))) (notFace_of_selects (args := #[]) (mvT hZ (hw _ (List.mem_of_getElem? (i := 31) rfl)))) (mvT hZ (hw _ (List.mem_of_getElem? (i := 31) rfl))) (mvT hZ (hw _ (List.mem_of_getElem? (i := 30) rfl))) (by decide) (backOf (W := 0) (rm6 l Z a0 hw [] b1 z54 z15 c61_z4 c61_z9 c61_z13 T7.heap n0 (Nat.le_trans (Nat.le_trans (Nat.le_trans (Nat.le_trans Z0 E1.1) K3q.1) E5.1) K7q.1) f9 hc61_z4 hc61_z9 hc61_z13 c61_nn4 c61_nn9 c61_nn13) hZ (hw _ (List.mem_of_getElem? (i := 32) rfl)) (hw _ (List.mem_of_getElem? (i := 3) rfl)) (by decide) (by decide)) q10a q10c (g := (mkF m 61 #[.val (.int p0), .val (.int p1), .val (.int p2), .val (.int p3), .val (.int z6), .val (.double z15), .second, .val (.ref b1), .val (.ref b5), .val (.double z54), .second, .unset, .unset, .unset, .unset, .unset, .unset, .unset, .unset] [(.double z54), (.ref b1)])) rfl (by rw [hml]; rfl) (Steps.refl _) (argsL := [(.double z54)]) (rest := []) (lenOf pd_0 rfl) rfl (by show 2 * 0 + _ ≤ _; exact Nat.le_of_eq rfl) (hb hby at_61) (fun _ _ => ⟨rfl, rfl, (by decide : 2 + 0 ≤ _), (by decide : 2 + 0 ≤ _)⟩)
  dsimp only [Pt.U, Pt.locs, Pt.cells, Pt.slots] at X10 ql10 qy10 qz10 st10 hQ10
  subst ql10 qy10 qz10
  obtain ⟨rfl, N10q, e10⟩ := hQ10
  have N10 := Fr.app N7 N10q
  obtain ⟨cq12, kq12, q12a, q12b, q12c⟩ := isOf hZ e10 f11
  obtain ⟨_, _, ⟨T12, L12, k12, n12⟩, -, X12, ⟨Lc12, hQ12, ql12, qy12, qz12⟩, st12⟩ := X10.virtualBack hx (y := (⟨"com/example/fleetwave/fleetwave/model/DrivingSpeed", "seconds", "(D)D"⟩ : MethodName)) (z := (⟨"com/example/fleetwave/fleetwave/model/DrivingSpeed", "seconds", "(D)D"⟩ : MethodName)) hown (mvT hZ (hw _ (List.mem_of_getElem? (i := 28) rfl))) (mvT hZ (hw _ (List.mem_of_getElem? (i := 29) rfl))) (notFace_of_selects (args := #[]) (mvT hZ (hw _ (List.mem_of_getElem? (i := 31) rfl)))) (mvT hZ (hw _ (List.mem_of_getElem? (i := 31) rfl))) (mvT hZ (hw _ (List.mem_of_getElem? (i := 30) rfl))) (by decide) (backOf (W := 0) (rm6 l Z a0 hw [] b1 z84 z15 c85_z4 c85_z9 c85_z13 T7.heap n0 (Nat.le_trans (Nat.le_trans (Nat.le_trans (Nat.le_trans Z0 E1.1) K3q.1) E5.1) K7q.1) f9 hc85_z4 hc85_z9 hc85_z13 c85_nn4 c85_nn9 c85_nn13) hZ (hw _ (List.mem_of_getElem? (i := 32) rfl)) (hw _ (List.mem_of_getElem? (i := 3) rfl)) (by decide) (by decide)) q12a q12c (g := (mkF m 85 #[.val (.int p0), .val (.int p1), .val (.int p2), .val (.int p3), .val (.int z6), .val (.double z15), .second, .val (.ref b1), .val (.ref b5), .val (.double z54), .second, .val (.int (1 : Int32)), .unset, .unset, .unset, .unset, .unset, .unset, .unset] [(.double z84), (.ref b1)])) rfl (by rw [hml]; rfl) (Steps.refl _) (argsL := [(.double z84)]) (rest := []) (lenOf pd_0 rfl) rfl (by show 2 * 0 + _ ≤ _; exact Nat.le_of_eq rfl) (hb hby at_85) (fun _ _ => ⟨rfl, e10, (by decide : 2 + 0 ≤ _), (by decide : 2 + 0 ≤ _)⟩)
  dsimp only [Pt.U, Pt.locs, Pt.cells, Pt.slots] at X12 ql12 qy12 qz12 st12 hQ12
  subst ql12 qy12 qz12
  obtain ⟨rfl, N12q, e12⟩ := hQ12
  have N12 := Fr.app N10 N12q
  obtain ⟨cq13, kq13, q13a, q13b, q13c⟩ := isOf hZ e12 f11
  obtain ⟨_, _, ⟨T13, L13, k13, n13⟩, -, X13, ⟨Lc13, hQ13, ql13, qy13, qz13⟩, st13⟩ := X12.virtualBack hx (y := (⟨"com/example/fleetwave/fleetwave/model/DrivingSpeed", "seconds", "(D)D"⟩ : MethodName)) (z := (⟨"com/example/fleetwave/fleetwave/model/DrivingSpeed", "seconds", "(D)D"⟩ : MethodName)) hown (mvT hZ (hw _ (List.mem_of_getElem? (i := 28) rfl))) (mvT hZ (hw _ (List.mem_of_getElem? (i := 29) rfl))) (notFace_of_selects (args := #[]) (mvT hZ (hw _ (List.mem_of_getElem? (i := 31) rfl)))) (mvT hZ (hw _ (List.mem_of_getElem? (i := 31) rfl))) (mvT hZ (hw _ (List.mem_of_getElem? (i := 30) rfl))) (by decide) (backOf (W := 0) (rm6 l Z a0 hw [] b1 z93 z15 c94_z4 c94_z9 c94_z13 T7.heap n0 (Nat.le_trans (Nat.le_trans (Nat.le_trans (Nat.le_trans Z0 E1.1) K3q.1) E5.1) K7q.1) f9 hc94_z4 hc94_z9 hc94_z13 c94_nn4 c94_nn9 c94_nn13) hZ (hw _ (List.mem_of_getElem? (i := 32) rfl)) (hw _ (List.mem_of_getElem? (i := 3) rfl)) (by decide) (by decide)) q13a q13c (g := (mkF m 94 #[.val (.int p0), .val (.int p1), .val (.int p2), .val (.int p3), .val (.int z6), .val (.double z15), .second, .val (.ref b1), .val (.ref b5), .val (.double z54), .second, .val (.int (1 : Int32)), .val (.double c85_z13), .second, .unset, .unset, .unset, .unset, .unset] [(.double z93), (.ref b1)])) rfl (by rw [hml]; rfl) (Steps.refl _) (argsL := [(.double z93)]) (rest := []) (lenOf pd_0 rfl) rfl (by show 2 * 0 + _ ≤ _; exact Nat.le_of_eq rfl) (hb hby at_94) (fun _ _ => ⟨rfl, e12, (by decide : 2 + 0 ≤ _), (by decide : 2 + 0 ≤ _)⟩)
  dsimp only [Pt.U, Pt.locs, Pt.cells, Pt.slots] at X13 ql13 qy13 qz13 st13 hQ13
  subst ql13 qy13 qz13
  obtain ⟨rfl, N13q, e13⟩ := hQ13
  have N13 := Fr.app N12 N13q
  have c14 : ∀ t, Steps p.tables e below (T13.setTop (mkF m 101 #[.val (.int p0), .val (.int p1), .val (.int p2), .val (.int p3), .val (.int z6), .val (.double z15), .second, .val (.ref b1), .val (.ref b5), .val (.double z54), .second, .val (.int (1 : Int32)), .val (.double c85_z13), .second, .val (.double c94_z13), .second, .unset, .unset, .unset] [(.int p3), (.int p2)])) t → Steps p.tables e below (s₁.setTop (entryFrame m #[(.int p0), (.int p1), (.int p2), (.int p3)] maxLocals)) t := by
    intro t k
    refine c0 t ?_
    show Steps p.tables e below (s₁.setTop (mkF m 0 #[.val (.int p0), .val (.int p1), .val (.int p2), .val (.int p3), .unset, .unset, .unset, .unset, .unset, .unset, .unset, .unset, .unset, .unset, .unset, .unset, .unset, .unset, .unset] [])) _
    refine XS.iloadN X0.here hx rfl (hb hby at_0) rfl ?_
    show Steps p.tables e below (s₁.setTop (mkF m 1 #[.val (.int p0), .val (.int p1), .val (.int p2), .val (.int p3), .unset, .unset, .unset, .unset, .unset, .unset, .unset, .unset, .unset, .unset, .unset, .unset, .unset, .unset, .unset] [(.int p0)])) _
    refine XS.sipush X0.here hx rfl (hb hby at_1) ?_
    show Steps p.tables e below (s₁.setTop (mkF m 4 #[.val (.int p0), .val (.int p1), .val (.int p2), .val (.int p3), .unset, .unset, .unset, .unset, .unset, .unset, .unset, .unset, .unset, .unset, .unset, .unset, .unset, .unset, .unset] [(.int (4095 : Int32)), (.int p0)])) _
    refine Jvm.OwnK.iand X0.here hx rfl (hb hby at_4) rfl hz4 ?_
    show Steps p.tables e below (s₁.setTop (mkF m 5 #[.val (.int p0), .val (.int p1), .val (.int p2), .val (.int p3), .unset, .unset, .unset, .unset, .unset, .unset, .unset, .unset, .unset, .unset, .unset, .unset, .unset, .unset, .unset] [(.int z4)])) _
    refine XS.iconst X0.here hx rfl (hb hby at_5) ?_
    show Steps p.tables e below (s₁.setTop (mkF m 6 #[.val (.int p0), .val (.int p1), .val (.int p2), .val (.int p3), .unset, .unset, .unset, .unset, .unset, .unset, .unset, .unset, .unset, .unset, .unset, .unset, .unset, .unset, .unset] [(.int (1 : Int32)), (.int z4)])) _
    refine Jvm.OwnK.iadd X0.here hx rfl (hb hby at_6) rfl hz6 ?_
    show Steps p.tables e below (s₁.setTop (mkF m 7 #[.val (.int p0), .val (.int p1), .val (.int p2), .val (.int p3), .unset, .unset, .unset, .unset, .unset, .unset, .unset, .unset, .unset, .unset, .unset, .unset, .unset, .unset, .unset] [(.int z6)])) _
    refine XS.istore X0.here hx rfl (hb hby at_7) rfl (l' := #[.val (.int p0), .val (.int p1), .val (.int p2), .val (.int p3), .val (.int z6), .unset, .unset, .unset, .unset, .unset, .unset, .unset, .unset, .unset, .unset, .unset, .unset, .unset, .unset]) rfl ?_
    show Steps p.tables e below (s₁.setTop (mkF m 9 #[.val (.int p0), .val (.int p1), .val (.int p2), .val (.int p3), .val (.int z6), .unset, .unset, .unset, .unset, .unset, .unset, .unset, .unset, .unset, .unset, .unset, .unset, .unset, .unset] [])) _
    refine XS.iload X0.here hx rfl (hb hby at_9) rfl ?_
    show Steps p.tables e below (s₁.setTop (mkF m 11 #[.val (.int p0), .val (.int p1), .val (.int p2), .val (.int p3), .val (.int z6), .unset, .unset, .unset, .unset, .unset, .unset, .unset, .unset, .unset, .unset, .unset, .unset, .unset, .unset] [(.int z6)])) _
    refine XS.i2dS X0.here hx rfl (hb hby at_11) rfl hz11 ?_
    show Steps p.tables e below (s₁.setTop (mkF m 12 #[.val (.int p0), .val (.int p1), .val (.int p2), .val (.int p3), .val (.int z6), .unset, .unset, .unset, .unset, .unset, .unset, .unset, .unset, .unset, .unset, .unset, .unset, .unset, .unset] [(.double z11)])) _
    refine X0.ldc2DoubleC hx hown (mvT hZ (hw _ (List.mem_of_getElem? (i := 0) rfl))) (g := (mkF m 12 #[.val (.int p0), .val (.int p1), .val (.int p2), .val (.int p3), .val (.int z6), .unset, .unset, .unset, .unset, .unset, .unset, .unset, .unset, .unset, .unset, .unset, .unset, .unset, .unset] [(.double z11)])) rfl (hb hby at_12) _ ?_
    show Steps p.tables e below (s₁.setTop (mkF m 15 #[.val (.int p0), .val (.int p1), .val (.int p2), .val (.int p3), .val (.int z6), .unset, .unset, .unset, .unset, .unset, .unset, .unset, .unset, .unset, .unset, .unset, .unset, .unset, .unset] [(.double (4616189618054758400 : UInt64)), (.double z11)])) _
    refine Jvm.OwnK.ddiv X0.here hx rfl (hb hby at_15) rfl hz15 nn15 ?_
    show Steps p.tables e below (s₁.setTop (mkF m 16 #[.val (.int p0), .val (.int p1), .val (.int p2), .val (.int p3), .val (.int z6), .unset, .unset, .unset, .unset, .unset, .unset, .unset, .unset, .unset, .unset, .unset, .unset, .unset, .unset] [(.double z15)])) _
    refine XS.dstore X0.here hx rfl (hb hby at_16) rfl (l' := #[.val (.int p0), .val (.int p1), .val (.int p2), .val (.int p3), .val (.int z6), .val (.double z15), .second, .unset, .unset, .unset, .unset, .unset, .unset, .unset, .unset, .unset, .unset, .unset, .unset]) rfl ?_
    show Steps p.tables e below (s₁.setTop (mkF m 18 #[.val (.int p0), .val (.int p1), .val (.int p2), .val (.int p3), .val (.int z6), .val (.double z15), .second, .unset, .unset, .unset, .unset, .unset, .unset, .unset, .unset, .unset, .unset, .unset, .unset] [])) _
    refine st1 _ ?_
    show Steps p.tables e below (T1.setTop (mkF m 21 #[.val (.int p0), .val (.int p1), .val (.int p2), .val (.int p3), .val (.int z6), .val (.double z15), .second, .unset, .unset, .unset, .unset, .unset, .unset, .unset, .unset, .unset, .unset, .unset, .unset] [(.ref b1)])) _
    refine XS.dup X1.here hx rfl (hb hby at_21) rfl rfl ?_
    show Steps p.tables e below (T1.setTop (mkF m 22 #[.val (.int p0), .val (.int p1), .val (.int p2), .val (.int p3), .val (.int z6), .val (.double z15), .second, .unset, .unset, .unset, .unset, .unset, .unset, .unset, .unset, .unset, .unset, .unset, .unset] [(.ref b1), (.ref b1)])) _
    refine XS.dload X1.here hx rfl (hb hby at_22) rfl ?_
    show Steps p.tables e below (T1.setTop (mkF m 24 #[.val (.int p0), .val (.int p1), .val (.int p2), .val (.int p3), .val (.int z6), .val (.double z15), .second, .unset, .unset, .unset, .unset, .unset, .unset, .unset, .unset, .unset, .unset, .unset, .unset] [(.double z15), (.ref b1), (.ref b1)])) _
    refine st3.trans ?_
    show Steps p.tables e below (T3.setTop (mkF m 27 #[.val (.int p0), .val (.int p1), .val (.int p2), .val (.int p3), .val (.int z6), .val (.double z15), .second, .unset, .unset, .unset, .unset, .unset, .unset, .unset, .unset, .unset, .unset, .unset, .unset] [(.ref b1)])) _
    refine XS.astore X3.here hx rfl (hb hby at_27) rfl rfl (l' := #[.val (.int p0), .val (.int p1), .val (.int p2), .val (.int p3), .val (.int z6), .val (.double z15), .second, .val (.ref b1), .unset, .unset, .unset, .unset, .unset, .unset, .unset, .unset, .unset, .unset, .unset]) rfl ?_
    show Steps p.tables e below (T3.setTop (mkF m 29 #[.val (.int p0), .val (.int p1), .val (.int p2), .val (.int p3), .val (.int z6), .val (.double z15), .second, .val (.ref b1), .unset, .unset, .unset, .unset, .unset, .unset, .unset, .unset, .unset, .unset, .unset] [])) _
    refine st5 _ ?_
    show Steps p.tables e below (T5.setTop (mkF m 32 #[.val (.int p0), .val (.int p1), .val (.int p2), .val (.int p3), .val (.int z6), .val (.double z15), .second, .val (.ref b1), .unset, .unset, .unset, .unset, .unset, .unset, .unset, .unset, .unset, .unset, .unset] [(.ref b5)])) _
    refine XS.dup X5.here hx rfl (hb hby at_32) rfl rfl ?_
    show Steps p.tables e below (T5.setTop (mkF m 33 #[.val (.int p0), .val (.int p1), .val (.int p2), .val (.int p3), .val (.int z6), .val (.double z15), .second, .val (.ref b1), .unset, .unset, .unset, .unset, .unset, .unset, .unset, .unset, .unset, .unset, .unset] [(.ref b5), (.ref b5)])) _
    refine XS.dload X5.here hx rfl (hb hby at_33) rfl ?_
    show Steps p.tables e below (T5.setTop (mkF m 35 #[.val (.int p0), .val (.int p1), .val (.int p2), .val (.int p3), .val (.int z6), .val (.double z15), .second, .val (.ref b1), .unset, .unset, .unset, .unset, .unset, .unset, .unset, .unset, .unset, .unset, .unset] [(.double z15), (.ref b5), (.ref b5)])) _
    refine X5.ldc2DoubleC hx hown (mvT hZ (hw _ (List.mem_of_getElem? (i := 26) rfl))) (g := (mkF m 35 #[.val (.int p0), .val (.int p1), .val (.int p2), .val (.int p3), .val (.int z6), .val (.double z15), .second, .val (.ref b1), .unset, .unset, .unset, .unset, .unset, .unset, .unset, .unset, .unset, .unset, .unset] [(.double z15), (.ref b5), (.ref b5)])) rfl (hb hby at_35) _ ?_
    show Steps p.tables e below (T5.setTop (mkF m 38 #[.val (.int p0), .val (.int p1), .val (.int p2), .val (.int p3), .val (.int z6), .val (.double z15), .second, .val (.ref b1), .unset, .unset, .unset, .unset, .unset, .unset, .unset, .unset, .unset, .unset, .unset] [(.double (4611686018427387904 : UInt64)), (.double z15), (.ref b5), (.ref b5)])) _
    refine Jvm.OwnK.dmul X5.here hx rfl (hb hby at_38) rfl hz38 nn38 ?_
    show Steps p.tables e below (T5.setTop (mkF m 39 #[.val (.int p0), .val (.int p1), .val (.int p2), .val (.int p3), .val (.int z6), .val (.double z15), .second, .val (.ref b1), .unset, .unset, .unset, .unset, .unset, .unset, .unset, .unset, .unset, .unset, .unset] [(.double z38), (.ref b5), (.ref b5)])) _
    refine st7.trans ?_
    show Steps p.tables e below (T7.setTop (mkF m 42 #[.val (.int p0), .val (.int p1), .val (.int p2), .val (.int p3), .val (.int z6), .val (.double z15), .second, .val (.ref b1), .unset, .unset, .unset, .unset, .unset, .unset, .unset, .unset, .unset, .unset, .unset] [(.ref b5)])) _
    refine XS.astore X7.here hx rfl (hb hby at_42) rfl rfl (l' := #[.val (.int p0), .val (.int p1), .val (.int p2), .val (.int p3), .val (.int z6), .val (.double z15), .second, .val (.ref b1), .val (.ref b5), .unset, .unset, .unset, .unset, .unset, .unset, .unset, .unset, .unset, .unset]) rfl ?_
    show Steps p.tables e below (T7.setTop (mkF m 44 #[.val (.int p0), .val (.int p1), .val (.int p2), .val (.int p3), .val (.int z6), .val (.double z15), .second, .val (.ref b1), .val (.ref b5), .unset, .unset, .unset, .unset, .unset, .unset, .unset, .unset, .unset, .unset] [])) _
    refine X7.ldc2Long hx hown (mvT hZ (hw _ (List.mem_of_getElem? (i := 27) rfl))) (g := (mkF m 44 #[.val (.int p0), .val (.int p1), .val (.int p2), .val (.int p3), .val (.int z6), .val (.double z15), .second, .val (.ref b1), .val (.ref b5), .unset, .unset, .unset, .unset, .unset, .unset, .unset, .unset, .unset, .unset] [])) rfl (hb hby at_44) _ ?_
    show Steps p.tables e below (T7.setTop (mkF m 47 #[.val (.int p0), .val (.int p1), .val (.int p2), .val (.int p3), .val (.int z6), .val (.double z15), .second, .val (.ref b1), .val (.ref b5), .unset, .unset, .unset, .unset, .unset, .unset, .unset, .unset, .unset, .unset] [(.long (250 : Int64))])) _
    refine XS.iload X7.here hx rfl (hb hby at_47) rfl ?_
    show Steps p.tables e below (T7.setTop (mkF m 49 #[.val (.int p0), .val (.int p1), .val (.int p2), .val (.int p3), .val (.int z6), .val (.double z15), .second, .val (.ref b1), .val (.ref b5), .unset, .unset, .unset, .unset, .unset, .unset, .unset, .unset, .unset, .unset] [(.int z6), (.long (250 : Int64))])) _
    refine Jvm.OwnK.i2l X7.here hx rfl (hb hby at_49) rfl hz49 ?_
    show Steps p.tables e below (T7.setTop (mkF m 50 #[.val (.int p0), .val (.int p1), .val (.int p2), .val (.int p3), .val (.int z6), .val (.double z15), .second, .val (.ref b1), .val (.ref b5), .unset, .unset, .unset, .unset, .unset, .unset, .unset, .unset, .unset, .unset] [(.long z49), (.long (250 : Int64))])) _
    refine Jvm.OwnK.lmul X7.here hx rfl (hb hby at_50) rfl hz50 ?_
    show Steps p.tables e below (T7.setTop (mkF m 51 #[.val (.int p0), .val (.int p1), .val (.int p2), .val (.int p3), .val (.int z6), .val (.double z15), .second, .val (.ref b1), .val (.ref b5), .unset, .unset, .unset, .unset, .unset, .unset, .unset, .unset, .unset, .unset] [(.long z50)])) _
    refine XS.iloadN X7.here hx rfl (hb hby at_51) rfl ?_
    show Steps p.tables e below (T7.setTop (mkF m 52 #[.val (.int p0), .val (.int p1), .val (.int p2), .val (.int p3), .val (.int z6), .val (.double z15), .second, .val (.ref b1), .val (.ref b5), .unset, .unset, .unset, .unset, .unset, .unset, .unset, .unset, .unset, .unset] [(.int p1), (.long z50)])) _
    refine Jvm.OwnK.i2l X7.here hx rfl (hb hby at_52) rfl hz52 ?_
    show Steps p.tables e below (T7.setTop (mkF m 53 #[.val (.int p0), .val (.int p1), .val (.int p2), .val (.int p3), .val (.int z6), .val (.double z15), .second, .val (.ref b1), .val (.ref b5), .unset, .unset, .unset, .unset, .unset, .unset, .unset, .unset, .unset, .unset] [(.long z52), (.long z50)])) _
    refine Jvm.OwnK.lmul X7.here hx rfl (hb hby at_53) rfl hz53 ?_
    show Steps p.tables e below (T7.setTop (mkF m 54 #[.val (.int p0), .val (.int p1), .val (.int p2), .val (.int p3), .val (.int z6), .val (.double z15), .second, .val (.ref b1), .val (.ref b5), .unset, .unset, .unset, .unset, .unset, .unset, .unset, .unset, .unset, .unset] [(.long z53)])) _
    refine XS.l2dS X7.here hx rfl (hb hby at_54) rfl hz54 ?_
    show Steps p.tables e below (T7.setTop (mkF m 55 #[.val (.int p0), .val (.int p1), .val (.int p2), .val (.int p3), .val (.int z6), .val (.double z15), .second, .val (.ref b1), .val (.ref b5), .unset, .unset, .unset, .unset, .unset, .unset, .unset, .unset, .unset, .unset] [(.double z54)])) _
    refine XS.dstore X7.here hx rfl (hb hby at_55) rfl (l' := #[.val (.int p0), .val (.int p1), .val (.int p2), .val (.int p3), .val (.int z6), .val (.double z15), .second, .val (.ref b1), .val (.ref b5), .val (.double z54), .second, .unset, .unset, .unset, .unset, .unset, .unset, .unset, .unset]) rfl ?_
    show Steps p.tables e below (T7.setTop (mkF m 57 #[.val (.int p0), .val (.int p1), .val (.int p2), .val (.int p3), .val (.int z6), .val (.double z15), .second, .val (.ref b1), .val (.ref b5), .val (.double z54), .second, .unset, .unset, .unset, .unset, .unset, .unset, .unset, .unset] [])) _
    refine XS.aload X7.here hx rfl (hb hby at_57) rfl rfl ?_
    show Steps p.tables e below (T7.setTop (mkF m 59 #[.val (.int p0), .val (.int p1), .val (.int p2), .val (.int p3), .val (.int z6), .val (.double z15), .second, .val (.ref b1), .val (.ref b5), .val (.double z54), .second, .unset, .unset, .unset, .unset, .unset, .unset, .unset, .unset] [(.ref b1)])) _
    refine XS.dload X7.here hx rfl (hb hby at_59) rfl ?_
    show Steps p.tables e below (T7.setTop (mkF m 61 #[.val (.int p0), .val (.int p1), .val (.int p2), .val (.int p3), .val (.int z6), .val (.double z15), .second, .val (.ref b1), .val (.ref b5), .val (.double z54), .second, .unset, .unset, .unset, .unset, .unset, .unset, .unset, .unset] [(.double z54), (.ref b1)])) _
    refine st10.trans ?_
    show Steps p.tables e below (T10.setTop (mkF m 64 #[.val (.int p0), .val (.int p1), .val (.int p2), .val (.int p3), .val (.int z6), .val (.double z15), .second, .val (.ref b1), .val (.ref b5), .val (.double z54), .second, .unset, .unset, .unset, .unset, .unset, .unset, .unset, .unset] [(.double c61_z13)])) _
    refine XS.iloadN X10.here hx rfl (hb hby at_64) rfl ?_
    show Steps p.tables e below (T10.setTop (mkF m 65 #[.val (.int p0), .val (.int p1), .val (.int p2), .val (.int p3), .val (.int z6), .val (.double z15), .second, .val (.ref b1), .val (.ref b5), .val (.double z54), .second, .unset, .unset, .unset, .unset, .unset, .unset, .unset, .unset] [(.int p1), (.double c61_z13)])) _
    refine XS.i2dS X10.here hx rfl (hb hby at_65) rfl hz65 ?_
    show Steps p.tables e below (T10.setTop (mkF m 66 #[.val (.int p0), .val (.int p1), .val (.int p2), .val (.int p3), .val (.int z6), .val (.double z15), .second, .val (.ref b1), .val (.ref b5), .val (.double z54), .second, .unset, .unset, .unset, .unset, .unset, .unset, .unset, .unset] [(.double z65), (.double c61_z13)])) _
    refine X10.ldc2DoubleC hx hown (mvT hZ (hw _ (List.mem_of_getElem? (i := 35) rfl))) (g := (mkF m 66 #[.val (.int p0), .val (.int p1), .val (.int p2), .val (.int p3), .val (.int z6), .val (.double z15), .second, .val (.ref b1), .val (.ref b5), .val (.double z54), .second, .unset, .unset, .unset, .unset, .unset, .unset, .unset, .unset] [(.double z65), (.double c61_z13)])) rfl (hb hby at_66) _ ?_
    show Steps p.tables e below (T10.setTop (mkF m 69 #[.val (.int p0), .val (.int p1), .val (.int p2), .val (.int p3), .val (.int z6), .val (.double z15), .second, .val (.ref b1), .val (.ref b5), .val (.double z54), .second, .unset, .unset, .unset, .unset, .unset, .unset, .unset, .unset] [(.double (4660134898793709568 : UInt64)), (.double z65), (.double c61_z13)])) _
    refine Jvm.OwnK.dmul X10.here hx rfl (hb hby at_69) rfl hz69 nn69 ?_
    show Steps p.tables e below (T10.setTop (mkF m 70 #[.val (.int p0), .val (.int p1), .val (.int p2), .val (.int p3), .val (.int z6), .val (.double z15), .second, .val (.ref b1), .val (.ref b5), .val (.double z54), .second, .unset, .unset, .unset, .unset, .unset, .unset, .unset, .unset] [(.double z69), (.double c61_z13)])) _
    refine XS.dcmpS X10.here hx rfl (hb hby at_70) rfl hz70 ?_
    show Steps p.tables e below (T10.setTop (mkF m 71 #[.val (.int p0), .val (.int p1), .val (.int p2), .val (.int p3), .val (.int z6), .val (.double z15), .second, .val (.ref b1), .val (.ref b5), .val (.double z54), .second, .unset, .unset, .unset, .unset, .unset, .unset, .unset, .unset] [(.int z70)])) _
    refine XS.ifNo X10.here hx rfl (hb hby at_71) rfl (Jvm.Free.XT.i0_ne_f br71) ?_
    show Steps p.tables e below (T10.setTop (mkF m 74 #[.val (.int p0), .val (.int p1), .val (.int p2), .val (.int p3), .val (.int z6), .val (.double z15), .second, .val (.ref b1), .val (.ref b5), .val (.double z54), .second, .unset, .unset, .unset, .unset, .unset, .unset, .unset, .unset] [])) _
    refine XS.iconst X10.here hx rfl (hb hby at_74) ?_
    show Steps p.tables e below (T10.setTop (mkF m 75 #[.val (.int p0), .val (.int p1), .val (.int p2), .val (.int p3), .val (.int z6), .val (.double z15), .second, .val (.ref b1), .val (.ref b5), .val (.double z54), .second, .unset, .unset, .unset, .unset, .unset, .unset, .unset, .unset] [(.int (1 : Int32))])) _
    refine XS.goto X10.here hx rfl (pc0 := 75) (pc' := 79) rfl (hb hby at_75) (by decide) (by decide) ?_
    show Steps p.tables e below (T10.setTop (mkF m 79 #[.val (.int p0), .val (.int p1), .val (.int p2), .val (.int p3), .val (.int z6), .val (.double z15), .second, .val (.ref b1), .val (.ref b5), .val (.double z54), .second, .unset, .unset, .unset, .unset, .unset, .unset, .unset, .unset] [(.int (1 : Int32))])) _
    refine XS.istore X10.here hx rfl (hb hby at_79) rfl (l' := #[.val (.int p0), .val (.int p1), .val (.int p2), .val (.int p3), .val (.int z6), .val (.double z15), .second, .val (.ref b1), .val (.ref b5), .val (.double z54), .second, .val (.int (1 : Int32)), .unset, .unset, .unset, .unset, .unset, .unset, .unset]) rfl ?_
    show Steps p.tables e below (T10.setTop (mkF m 81 #[.val (.int p0), .val (.int p1), .val (.int p2), .val (.int p3), .val (.int z6), .val (.double z15), .second, .val (.ref b1), .val (.ref b5), .val (.double z54), .second, .val (.int (1 : Int32)), .unset, .unset, .unset, .unset, .unset, .unset, .unset] [])) _
    refine XS.aload X10.here hx rfl (hb hby at_81) rfl rfl ?_
    show Steps p.tables e below (T10.setTop (mkF m 83 #[.val (.int p0), .val (.int p1), .val (.int p2), .val (.int p3), .val (.int z6), .val (.double z15), .second, .val (.ref b1), .val (.ref b5), .val (.double z54), .second, .val (.int (1 : Int32)), .unset, .unset, .unset, .unset, .unset, .unset, .unset] [(.ref b1)])) _
    refine XS.iloadN X10.here hx rfl (hb hby at_83) rfl ?_
    show Steps p.tables e below (T10.setTop (mkF m 84 #[.val (.int p0), .val (.int p1), .val (.int p2), .val (.int p3), .val (.int z6), .val (.double z15), .second, .val (.ref b1), .val (.ref b5), .val (.double z54), .second, .val (.int (1 : Int32)), .unset, .unset, .unset, .unset, .unset, .unset, .unset] [(.int p2), (.ref b1)])) _
    refine XS.i2dS X10.here hx rfl (hb hby at_84) rfl hz84 ?_
    show Steps p.tables e below (T10.setTop (mkF m 85 #[.val (.int p0), .val (.int p1), .val (.int p2), .val (.int p3), .val (.int z6), .val (.double z15), .second, .val (.ref b1), .val (.ref b5), .val (.double z54), .second, .val (.int (1 : Int32)), .unset, .unset, .unset, .unset, .unset, .unset, .unset] [(.double z84), (.ref b1)])) _
    refine st12.trans ?_
    show Steps p.tables e below (T12.setTop (mkF m 88 #[.val (.int p0), .val (.int p1), .val (.int p2), .val (.int p3), .val (.int z6), .val (.double z15), .second, .val (.ref b1), .val (.ref b5), .val (.double z54), .second, .val (.int (1 : Int32)), .unset, .unset, .unset, .unset, .unset, .unset, .unset] [(.double c85_z13)])) _
    refine XS.dstore X12.here hx rfl (hb hby at_88) rfl (l' := #[.val (.int p0), .val (.int p1), .val (.int p2), .val (.int p3), .val (.int z6), .val (.double z15), .second, .val (.ref b1), .val (.ref b5), .val (.double z54), .second, .val (.int (1 : Int32)), .val (.double c85_z13), .second, .unset, .unset, .unset, .unset, .unset]) rfl ?_
    show Steps p.tables e below (T12.setTop (mkF m 90 #[.val (.int p0), .val (.int p1), .val (.int p2), .val (.int p3), .val (.int z6), .val (.double z15), .second, .val (.ref b1), .val (.ref b5), .val (.double z54), .second, .val (.int (1 : Int32)), .val (.double c85_z13), .second, .unset, .unset, .unset, .unset, .unset] [])) _
    refine XS.aload X12.here hx rfl (hb hby at_90) rfl rfl ?_
    show Steps p.tables e below (T12.setTop (mkF m 92 #[.val (.int p0), .val (.int p1), .val (.int p2), .val (.int p3), .val (.int z6), .val (.double z15), .second, .val (.ref b1), .val (.ref b5), .val (.double z54), .second, .val (.int (1 : Int32)), .val (.double c85_z13), .second, .unset, .unset, .unset, .unset, .unset] [(.ref b1)])) _
    refine XS.iloadN X12.here hx rfl (hb hby at_92) rfl ?_
    show Steps p.tables e below (T12.setTop (mkF m 93 #[.val (.int p0), .val (.int p1), .val (.int p2), .val (.int p3), .val (.int z6), .val (.double z15), .second, .val (.ref b1), .val (.ref b5), .val (.double z54), .second, .val (.int (1 : Int32)), .val (.double c85_z13), .second, .unset, .unset, .unset, .unset, .unset] [(.int p3), (.ref b1)])) _
    refine XS.i2dS X12.here hx rfl (hb hby at_93) rfl hz93 ?_
    show Steps p.tables e below (T12.setTop (mkF m 94 #[.val (.int p0), .val (.int p1), .val (.int p2), .val (.int p3), .val (.int z6), .val (.double z15), .second, .val (.ref b1), .val (.ref b5), .val (.double z54), .second, .val (.int (1 : Int32)), .val (.double c85_z13), .second, .unset, .unset, .unset, .unset, .unset] [(.double z93), (.ref b1)])) _
    refine st13.trans ?_
    show Steps p.tables e below (T13.setTop (mkF m 97 #[.val (.int p0), .val (.int p1), .val (.int p2), .val (.int p3), .val (.int z6), .val (.double z15), .second, .val (.ref b1), .val (.ref b5), .val (.double z54), .second, .val (.int (1 : Int32)), .val (.double c85_z13), .second, .unset, .unset, .unset, .unset, .unset] [(.double c94_z13)])) _
    refine XS.dstore X13.here hx rfl (hb hby at_97) rfl (l' := #[.val (.int p0), .val (.int p1), .val (.int p2), .val (.int p3), .val (.int z6), .val (.double z15), .second, .val (.ref b1), .val (.ref b5), .val (.double z54), .second, .val (.int (1 : Int32)), .val (.double c85_z13), .second, .val (.double c94_z13), .second, .unset, .unset, .unset]) rfl ?_
    show Steps p.tables e below (T13.setTop (mkF m 99 #[.val (.int p0), .val (.int p1), .val (.int p2), .val (.int p3), .val (.int z6), .val (.double z15), .second, .val (.ref b1), .val (.ref b5), .val (.double z54), .second, .val (.int (1 : Int32)), .val (.double c85_z13), .second, .val (.double c94_z13), .second, .unset, .unset, .unset] [])) _
    refine XS.iloadN X13.here hx rfl (hb hby at_99) rfl ?_
    show Steps p.tables e below (T13.setTop (mkF m 100 #[.val (.int p0), .val (.int p1), .val (.int p2), .val (.int p3), .val (.int z6), .val (.double z15), .second, .val (.ref b1), .val (.ref b5), .val (.double z54), .second, .val (.int (1 : Int32)), .val (.double c85_z13), .second, .val (.double c94_z13), .second, .unset, .unset, .unset] [(.int p2)])) _
    refine XS.iloadN X13.here hx rfl (hb hby at_100) rfl ?_
    exact k
  by_cases hb101 : p3 < p2
  · skip
    obtain ⟨z124, hz124⟩ : ∃ z : Int32, cmpValue (FP.dcmp c94_z13 c85_z13) .g = z := ⟨_, rfl⟩
    have br125 := mono bK8 dv dbb.1 da.1 bb ba (by rw [dbb.2.2, da.2.2]; exact Int.mul_le_mul_of_nonneg_right (by rw [Int32.lt_iff_toInt_lt] at hb101; omega) (by omega)) hc94_z4 hc94_z9 hc94_z13 hc85_z4 hc85_z9 hc85_z13 hz124
    have c15 : ∀ t, Steps p.tables e below (T13.setTop (mkF m 136 #[.val (.int p0), .val (.int p1), .val (.int p2), .val (.int p3), .val (.int z6), .val (.double z15), .second, .val (.ref b1), .val (.ref b5), .val (.double z54), .second, .val (.int (1 : Int32)), .val (.double c85_z13), .second, .val (.double c94_z13), .second, .val (.int (1 : Int32)), .unset, .unset] [(.int p2)])) t → Steps p.tables e below (s₁.setTop (entryFrame m #[(.int p0), (.int p1), (.int p2), (.int p3)] maxLocals)) t := by
      intro t k
      refine c14 t ?_
      show Steps p.tables e below (T13.setTop (mkF m 101 #[.val (.int p0), .val (.int p1), .val (.int p2), .val (.int p3), .val (.int z6), .val (.double z15), .second, .val (.ref b1), .val (.ref b5), .val (.double z54), .second, .val (.int (1 : Int32)), .val (.double c85_z13), .second, .val (.double c94_z13), .second, .unset, .unset, .unset] [(.int p3), (.int p2)])) _
      refine XS.icmpYes X13.here hx rfl (pc0 := 101) (pc' := 120) rfl (hb hby at_101) rfl (Jvm.Free.XT.ii_gt_t hb101) (by decide) (by decide) ?_
      show Steps p.tables e below (T13.setTop (mkF m 120 #[.val (.int p0), .val (.int p1), .val (.int p2), .val (.int p3), .val (.int z6), .val (.double z15), .second, .val (.ref b1), .val (.ref b5), .val (.double z54), .second, .val (.int (1 : Int32)), .val (.double c85_z13), .second, .val (.double c94_z13), .second, .unset, .unset, .unset] [])) _
      refine XS.dload X13.here hx rfl (hb hby at_120) rfl ?_
      show Steps p.tables e below (T13.setTop (mkF m 122 #[.val (.int p0), .val (.int p1), .val (.int p2), .val (.int p3), .val (.int z6), .val (.double z15), .second, .val (.ref b1), .val (.ref b5), .val (.double z54), .second, .val (.int (1 : Int32)), .val (.double c85_z13), .second, .val (.double c94_z13), .second, .unset, .unset, .unset] [(.double c94_z13)])) _
      refine XS.dload X13.here hx rfl (hb hby at_122) rfl ?_
      show Steps p.tables e below (T13.setTop (mkF m 124 #[.val (.int p0), .val (.int p1), .val (.int p2), .val (.int p3), .val (.int z6), .val (.double z15), .second, .val (.ref b1), .val (.ref b5), .val (.double z54), .second, .val (.int (1 : Int32)), .val (.double c85_z13), .second, .val (.double c94_z13), .second, .unset, .unset, .unset] [(.double c85_z13), (.double c94_z13)])) _
      refine XS.dcmpS X13.here hx rfl (hb hby at_124) rfl hz124 ?_
      show Steps p.tables e below (T13.setTop (mkF m 125 #[.val (.int p0), .val (.int p1), .val (.int p2), .val (.int p3), .val (.int z6), .val (.double z15), .second, .val (.ref b1), .val (.ref b5), .val (.double z54), .second, .val (.int (1 : Int32)), .val (.double c85_z13), .second, .val (.double c94_z13), .second, .unset, .unset, .unset] [(.int z124)])) _
      refine XS.ifNo X13.here hx rfl (hb hby at_125) rfl (Jvm.Free.XT.i0_gt_f br125) ?_
      show Steps p.tables e below (T13.setTop (mkF m 128 #[.val (.int p0), .val (.int p1), .val (.int p2), .val (.int p3), .val (.int z6), .val (.double z15), .second, .val (.ref b1), .val (.ref b5), .val (.double z54), .second, .val (.int (1 : Int32)), .val (.double c85_z13), .second, .val (.double c94_z13), .second, .unset, .unset, .unset] [])) _
      refine XS.iconst X13.here hx rfl (hb hby at_128) ?_
      show Steps p.tables e below (T13.setTop (mkF m 129 #[.val (.int p0), .val (.int p1), .val (.int p2), .val (.int p3), .val (.int z6), .val (.double z15), .second, .val (.ref b1), .val (.ref b5), .val (.double z54), .second, .val (.int (1 : Int32)), .val (.double c85_z13), .second, .val (.double c94_z13), .second, .unset, .unset, .unset] [(.int (1 : Int32))])) _
      refine XS.goto X13.here hx rfl (pc0 := 129) (pc' := 133) rfl (hb hby at_129) (by decide) (by decide) ?_
      show Steps p.tables e below (T13.setTop (mkF m 133 #[.val (.int p0), .val (.int p1), .val (.int p2), .val (.int p3), .val (.int z6), .val (.double z15), .second, .val (.ref b1), .val (.ref b5), .val (.double z54), .second, .val (.int (1 : Int32)), .val (.double c85_z13), .second, .val (.double c94_z13), .second, .unset, .unset, .unset] [(.int (1 : Int32))])) _
      refine XS.istore X13.here hx rfl (hb hby at_133) rfl (l' := #[.val (.int p0), .val (.int p1), .val (.int p2), .val (.int p3), .val (.int z6), .val (.double z15), .second, .val (.ref b1), .val (.ref b5), .val (.double z54), .second, .val (.int (1 : Int32)), .val (.double c85_z13), .second, .val (.double c94_z13), .second, .val (.int (1 : Int32)), .unset, .unset]) rfl ?_
      show Steps p.tables e below (T13.setTop (mkF m 135 #[.val (.int p0), .val (.int p1), .val (.int p2), .val (.int p3), .val (.int z6), .val (.double z15), .second, .val (.ref b1), .val (.ref b5), .val (.double z54), .second, .val (.int (1 : Int32)), .val (.double c85_z13), .second, .val (.double c94_z13), .second, .val (.int (1 : Int32)), .unset, .unset] [])) _
      refine XS.iloadN X13.here hx rfl (hb hby at_135) rfl ?_
      exact k
    by_cases hb136 : (0 : Int32) < p2
    · skip
      obtain ⟨z142, hz142⟩ : ∃ z : Int32, cmpValue (FP.dcmp c85_z13 FP.dconst0) .l = z := ⟨_, rfl⟩
      obtain ⟨z190, hz190⟩ : ∃ z : UInt64, FP.i2d p2 = z := ⟨_, rfl⟩
      obtain ⟨c191_z4, hc191_z4⟩ : ∃ z : UInt64, FP.ddiv z190 (4652007308841189376 : UInt64) = z := ⟨_, rfl⟩
      obtain ⟨c191_z9, hc191_z9⟩ : ∃ z : UInt64, FP.ddiv c191_z4 z38 = z := ⟨_, rfl⟩
      obtain ⟨c191_z13, hc191_z13⟩ : ∃ z : UInt64, FP.dmul c191_z9 (4660134898793709568 : UInt64) = z := ⟨_, rfl⟩
      obtain ⟨z197, hz197⟩ : ∃ z : UInt64, FP.dmul c191_z13 (4611686018427387904 : UInt64) = z := ⟨_, rfl⟩
      obtain ⟨z200, hz200⟩ : ∃ z : Int32, cmpValue (FP.dcmp z197 c85_z13) .l = z := ⟨_, rfl⟩
      have br143 : 0 < z142 := by rw [← hz142, (Jvm.OwnF.cmpv_V F85 Jvm.OwnF.DV_0.1 .l).2.2 (by rw [show Jvm.OwnF.V FP.dconst0 = 0 by rw [Jvm.OwnF.DV_0.2.2, Int.zero_mul]]; exact Sp (by rw [Int32.lt_iff_toInt_lt] at hb136; exact hb136))]; decide
      obtain ⟨c191_nn4, c191_nn9, c191_nn13, F191, -⟩ := sec (show 1 ≤ 2 * z6.toInt ∧ 2 * z6.toInt ≤ 8192 by omega) dv2 (by rw [← hz190, hz84]; exact da.1) (by rw [← hz190, hz84]; exact ba) hc191_z4 hc191_z9 hc191_z13
      obtain ⟨nn197, br201⟩ := half bK dv dv2 hz84 hc85_z4 hc85_z9 hc85_z13 (by rw [← hz84, hz190]; exact hc191_z4) hc191_z9 hc191_z13 hz197 hz200
      obtain ⟨cq16, kq16, q16a, q16b, q16c⟩ := isOf hZ e13 Q7_0
      obtain ⟨_, _, ⟨T16, L16, k16, n16⟩, -, X16, ⟨Lc16, hQ16, ql16, qy16, qz16⟩, st16⟩ := X13.virtualBack hx (y := (⟨"com/example/fleetwave/fleetwave/model/DrivingSpeed", "seconds", "(D)D"⟩ : MethodName)) (z := (⟨"com/example/fleetwave/fleetwave/model/DrivingSpeed", "seconds", "(D)D"⟩ : MethodName)) hown (mvT hZ (hw _ (List.mem_of_getElem? (i := 28) rfl))) (mvT hZ (hw _ (List.mem_of_getElem? (i := 29) rfl))) (notFace_of_selects (args := #[]) (mvT hZ (hw _ (List.mem_of_getElem? (i := 31) rfl)))) (mvT hZ (hw _ (List.mem_of_getElem? (i := 31) rfl))) (mvT hZ (hw _ (List.mem_of_getElem? (i := 30) rfl))) (by decide) (backOf (W := 0) (rm6 l Z a0 hw [] b5 z190 z38 c191_z4 c191_z9 c191_z13 T7.heap n0 (Nat.le_trans (Nat.le_trans (Nat.le_trans (Nat.le_trans Z0 E1.1) K3q.1) E5.1) K7q.1) Q7_1 hc191_z4 hc191_z9 hc191_z13 c191_nn4 c191_nn9 c191_nn13) hZ (hw _ (List.mem_of_getElem? (i := 32) rfl)) (hw _ (List.mem_of_getElem? (i := 3) rfl)) (by decide) (by decide)) q16a q16c (g := (mkF m 191 #[.val (.int p0), .val (.int p1), .val (.int p2), .val (.int p3), .val (.int z6), .val (.double z15), .second, .val (.ref b1), .val (.ref b5), .val (.double z54), .second, .val (.int (1 : Int32)), .val (.double c85_z13), .second, .val (.double c94_z13), .second, .val (.int (1 : Int32)), .val (.int (1 : Int32)), .unset] [(.double z190), (.ref b5)])) rfl (by rw [hml]; rfl) (Steps.refl _) (argsL := [(.double z190)]) (rest := []) (lenOf pd_0 rfl) rfl (by show 2 * 0 + _ ≤ _; exact Nat.le_of_eq rfl) (hb hby at_191) (fun _ _ => ⟨rfl, e13, (by decide : 2 + 0 ≤ _), (by decide : 2 + 0 ≤ _)⟩)
      dsimp only [Pt.U, Pt.locs, Pt.cells, Pt.slots] at X16 ql16 qy16 qz16 st16 hQ16
      subst ql16 qy16 qz16
      obtain ⟨rfl, N16q, e16⟩ := hQ16
      have N16 := Fr.app N13 N16q
      have c17 : ∀ t, Steps p.tables e below (T16.setTop (mkF m 236 #[.val (.int p0), .val (.int p1), .val (.int p2), .val (.int p3), .val (.int z6), .val (.double z15), .second, .val (.ref b1), .val (.ref b5), .val (.double z54), .second, .val (.int (1 : Int32)), .val (.double c85_z13), .second, .val (.double c94_z13), .second, .val (.int (1 : Int32)), .val (.int (1 : Int32)), .val (.int (1 : Int32))] [(.int (1 : Int32))])) t → Steps p.tables e below (s₁.setTop (entryFrame m #[(.int p0), (.int p1), (.int p2), (.int p3)] maxLocals)) t := by
        intro t k
        refine c15 t ?_
        show Steps p.tables e below (T13.setTop (mkF m 136 #[.val (.int p0), .val (.int p1), .val (.int p2), .val (.int p3), .val (.int z6), .val (.double z15), .second, .val (.ref b1), .val (.ref b5), .val (.double z54), .second, .val (.int (1 : Int32)), .val (.double c85_z13), .second, .val (.double c94_z13), .second, .val (.int (1 : Int32)), .unset, .unset] [(.int p2)])) _
        refine XS.ifNo X13.here hx rfl (hb hby at_136) rfl (Jvm.Free.XT.i0_le_f hb136) ?_
        show Steps p.tables e below (T13.setTop (mkF m 139 #[.val (.int p0), .val (.int p1), .val (.int p2), .val (.int p3), .val (.int z6), .val (.double z15), .second, .val (.ref b1), .val (.ref b5), .val (.double z54), .second, .val (.int (1 : Int32)), .val (.double c85_z13), .second, .val (.double c94_z13), .second, .val (.int (1 : Int32)), .unset, .unset] [])) _
        refine XS.dload X13.here hx rfl (hb hby at_139) rfl ?_
        show Steps p.tables e below (T13.setTop (mkF m 141 #[.val (.int p0), .val (.int p1), .val (.int p2), .val (.int p3), .val (.int z6), .val (.double z15), .second, .val (.ref b1), .val (.ref b5), .val (.double z54), .second, .val (.int (1 : Int32)), .val (.double c85_z13), .second, .val (.double c94_z13), .second, .val (.int (1 : Int32)), .unset, .unset] [(.double c85_z13)])) _
        refine XS.dconst0 X13.here hx rfl (hb hby at_141) (v := FP.dconst0) rfl ?_
        show Steps p.tables e below (T13.setTop (mkF m 142 #[.val (.int p0), .val (.int p1), .val (.int p2), .val (.int p3), .val (.int z6), .val (.double z15), .second, .val (.ref b1), .val (.ref b5), .val (.double z54), .second, .val (.int (1 : Int32)), .val (.double c85_z13), .second, .val (.double c94_z13), .second, .val (.int (1 : Int32)), .unset, .unset] [(.double FP.dconst0), (.double c85_z13)])) _
        refine XS.dcmpS X13.here hx rfl (hb hby at_142) rfl hz142 ?_
        show Steps p.tables e below (T13.setTop (mkF m 143 #[.val (.int p0), .val (.int p1), .val (.int p2), .val (.int p3), .val (.int z6), .val (.double z15), .second, .val (.ref b1), .val (.ref b5), .val (.double z54), .second, .val (.int (1 : Int32)), .val (.double c85_z13), .second, .val (.double c94_z13), .second, .val (.int (1 : Int32)), .unset, .unset] [(.int z142)])) _
        refine XS.ifNo X13.here hx rfl (hb hby at_143) rfl (Jvm.Free.XT.i0_le_f br143) ?_
        show Steps p.tables e below (T13.setTop (mkF m 146 #[.val (.int p0), .val (.int p1), .val (.int p2), .val (.int p3), .val (.int z6), .val (.double z15), .second, .val (.ref b1), .val (.ref b5), .val (.double z54), .second, .val (.int (1 : Int32)), .val (.double c85_z13), .second, .val (.double c94_z13), .second, .val (.int (1 : Int32)), .unset, .unset] [])) _
        refine XS.iconst X13.here hx rfl (hb hby at_146) ?_
        show Steps p.tables e below (T13.setTop (mkF m 147 #[.val (.int p0), .val (.int p1), .val (.int p2), .val (.int p3), .val (.int z6), .val (.double z15), .second, .val (.ref b1), .val (.ref b5), .val (.double z54), .second, .val (.int (1 : Int32)), .val (.double c85_z13), .second, .val (.double c94_z13), .second, .val (.int (1 : Int32)), .unset, .unset] [(.int (1 : Int32))])) _
        refine XS.goto X13.here hx rfl (pc0 := 147) (pc' := 185) rfl (hb hby at_147) (by decide) (by decide) ?_
        show Steps p.tables e below (T13.setTop (mkF m 185 #[.val (.int p0), .val (.int p1), .val (.int p2), .val (.int p3), .val (.int z6), .val (.double z15), .second, .val (.ref b1), .val (.ref b5), .val (.double z54), .second, .val (.int (1 : Int32)), .val (.double c85_z13), .second, .val (.double c94_z13), .second, .val (.int (1 : Int32)), .unset, .unset] [(.int (1 : Int32))])) _
        refine XS.istore X13.here hx rfl (hb hby at_185) rfl (l' := #[.val (.int p0), .val (.int p1), .val (.int p2), .val (.int p3), .val (.int z6), .val (.double z15), .second, .val (.ref b1), .val (.ref b5), .val (.double z54), .second, .val (.int (1 : Int32)), .val (.double c85_z13), .second, .val (.double c94_z13), .second, .val (.int (1 : Int32)), .val (.int (1 : Int32)), .unset]) rfl ?_
        show Steps p.tables e below (T13.setTop (mkF m 187 #[.val (.int p0), .val (.int p1), .val (.int p2), .val (.int p3), .val (.int z6), .val (.double z15), .second, .val (.ref b1), .val (.ref b5), .val (.double z54), .second, .val (.int (1 : Int32)), .val (.double c85_z13), .second, .val (.double c94_z13), .second, .val (.int (1 : Int32)), .val (.int (1 : Int32)), .unset] [])) _
        refine XS.aload X13.here hx rfl (hb hby at_187) rfl rfl ?_
        show Steps p.tables e below (T13.setTop (mkF m 189 #[.val (.int p0), .val (.int p1), .val (.int p2), .val (.int p3), .val (.int z6), .val (.double z15), .second, .val (.ref b1), .val (.ref b5), .val (.double z54), .second, .val (.int (1 : Int32)), .val (.double c85_z13), .second, .val (.double c94_z13), .second, .val (.int (1 : Int32)), .val (.int (1 : Int32)), .unset] [(.ref b5)])) _
        refine XS.iloadN X13.here hx rfl (hb hby at_189) rfl ?_
        show Steps p.tables e below (T13.setTop (mkF m 190 #[.val (.int p0), .val (.int p1), .val (.int p2), .val (.int p3), .val (.int z6), .val (.double z15), .second, .val (.ref b1), .val (.ref b5), .val (.double z54), .second, .val (.int (1 : Int32)), .val (.double c85_z13), .second, .val (.double c94_z13), .second, .val (.int (1 : Int32)), .val (.int (1 : Int32)), .unset] [(.int p2), (.ref b5)])) _
        refine XS.i2dS X13.here hx rfl (hb hby at_190) rfl hz190 ?_
        show Steps p.tables e below (T13.setTop (mkF m 191 #[.val (.int p0), .val (.int p1), .val (.int p2), .val (.int p3), .val (.int z6), .val (.double z15), .second, .val (.ref b1), .val (.ref b5), .val (.double z54), .second, .val (.int (1 : Int32)), .val (.double c85_z13), .second, .val (.double c94_z13), .second, .val (.int (1 : Int32)), .val (.int (1 : Int32)), .unset] [(.double z190), (.ref b5)])) _
        refine st16.trans ?_
        show Steps p.tables e below (T16.setTop (mkF m 194 #[.val (.int p0), .val (.int p1), .val (.int p2), .val (.int p3), .val (.int z6), .val (.double z15), .second, .val (.ref b1), .val (.ref b5), .val (.double z54), .second, .val (.int (1 : Int32)), .val (.double c85_z13), .second, .val (.double c94_z13), .second, .val (.int (1 : Int32)), .val (.int (1 : Int32)), .unset] [(.double c191_z13)])) _
        refine X16.ldc2DoubleC hx hown (mvT hZ (hw _ (List.mem_of_getElem? (i := 26) rfl))) (g := (mkF m 194 #[.val (.int p0), .val (.int p1), .val (.int p2), .val (.int p3), .val (.int z6), .val (.double z15), .second, .val (.ref b1), .val (.ref b5), .val (.double z54), .second, .val (.int (1 : Int32)), .val (.double c85_z13), .second, .val (.double c94_z13), .second, .val (.int (1 : Int32)), .val (.int (1 : Int32)), .unset] [(.double c191_z13)])) rfl (hb hby at_194) _ ?_
        show Steps p.tables e below (T16.setTop (mkF m 197 #[.val (.int p0), .val (.int p1), .val (.int p2), .val (.int p3), .val (.int z6), .val (.double z15), .second, .val (.ref b1), .val (.ref b5), .val (.double z54), .second, .val (.int (1 : Int32)), .val (.double c85_z13), .second, .val (.double c94_z13), .second, .val (.int (1 : Int32)), .val (.int (1 : Int32)), .unset] [(.double (4611686018427387904 : UInt64)), (.double c191_z13)])) _
        refine Jvm.OwnK.dmul X16.here hx rfl (hb hby at_197) rfl hz197 nn197 ?_
        show Steps p.tables e below (T16.setTop (mkF m 198 #[.val (.int p0), .val (.int p1), .val (.int p2), .val (.int p3), .val (.int z6), .val (.double z15), .second, .val (.ref b1), .val (.ref b5), .val (.double z54), .second, .val (.int (1 : Int32)), .val (.double c85_z13), .second, .val (.double c94_z13), .second, .val (.int (1 : Int32)), .val (.int (1 : Int32)), .unset] [(.double z197)])) _
        refine XS.dload X16.here hx rfl (hb hby at_198) rfl ?_
        show Steps p.tables e below (T16.setTop (mkF m 200 #[.val (.int p0), .val (.int p1), .val (.int p2), .val (.int p3), .val (.int z6), .val (.double z15), .second, .val (.ref b1), .val (.ref b5), .val (.double z54), .second, .val (.int (1 : Int32)), .val (.double c85_z13), .second, .val (.double c94_z13), .second, .val (.int (1 : Int32)), .val (.int (1 : Int32)), .unset] [(.double c85_z13), (.double z197)])) _
        refine XS.dcmpS X16.here hx rfl (hb hby at_200) rfl hz200 ?_
        show Steps p.tables e below (T16.setTop (mkF m 201 #[.val (.int p0), .val (.int p1), .val (.int p2), .val (.int p3), .val (.int z6), .val (.double z15), .second, .val (.ref b1), .val (.ref b5), .val (.double z54), .second, .val (.int (1 : Int32)), .val (.double c85_z13), .second, .val (.double c94_z13), .second, .val (.int (1 : Int32)), .val (.int (1 : Int32)), .unset] [(.int z200)])) _
        refine XS.ifNo X16.here hx rfl (hb hby at_201) rfl (Jvm.Free.XT.i0_ne_f br201) ?_
        show Steps p.tables e below (T16.setTop (mkF m 204 #[.val (.int p0), .val (.int p1), .val (.int p2), .val (.int p3), .val (.int z6), .val (.double z15), .second, .val (.ref b1), .val (.ref b5), .val (.double z54), .second, .val (.int (1 : Int32)), .val (.double c85_z13), .second, .val (.double c94_z13), .second, .val (.int (1 : Int32)), .val (.int (1 : Int32)), .unset] [])) _
        refine XS.iconst X16.here hx rfl (hb hby at_204) ?_
        show Steps p.tables e below (T16.setTop (mkF m 205 #[.val (.int p0), .val (.int p1), .val (.int p2), .val (.int p3), .val (.int z6), .val (.double z15), .second, .val (.ref b1), .val (.ref b5), .val (.double z54), .second, .val (.int (1 : Int32)), .val (.double c85_z13), .second, .val (.double c94_z13), .second, .val (.int (1 : Int32)), .val (.int (1 : Int32)), .unset] [(.int (1 : Int32))])) _
        refine XS.goto X16.here hx rfl (pc0 := 205) (pc' := 209) rfl (hb hby at_205) (by decide) (by decide) ?_
        show Steps p.tables e below (T16.setTop (mkF m 209 #[.val (.int p0), .val (.int p1), .val (.int p2), .val (.int p3), .val (.int z6), .val (.double z15), .second, .val (.ref b1), .val (.ref b5), .val (.double z54), .second, .val (.int (1 : Int32)), .val (.double c85_z13), .second, .val (.double c94_z13), .second, .val (.int (1 : Int32)), .val (.int (1 : Int32)), .unset] [(.int (1 : Int32))])) _
        refine XS.istore X16.here hx rfl (hb hby at_209) rfl (l' := #[.val (.int p0), .val (.int p1), .val (.int p2), .val (.int p3), .val (.int z6), .val (.double z15), .second, .val (.ref b1), .val (.ref b5), .val (.double z54), .second, .val (.int (1 : Int32)), .val (.double c85_z13), .second, .val (.double c94_z13), .second, .val (.int (1 : Int32)), .val (.int (1 : Int32)), .val (.int (1 : Int32))]) rfl ?_
        show Steps p.tables e below (T16.setTop (mkF m 211 #[.val (.int p0), .val (.int p1), .val (.int p2), .val (.int p3), .val (.int z6), .val (.double z15), .second, .val (.ref b1), .val (.ref b5), .val (.double z54), .second, .val (.int (1 : Int32)), .val (.double c85_z13), .second, .val (.double c94_z13), .second, .val (.int (1 : Int32)), .val (.int (1 : Int32)), .val (.int (1 : Int32))] [])) _
        refine XS.iload X16.here hx rfl (hb hby at_211) rfl ?_
        show Steps p.tables e below (T16.setTop (mkF m 213 #[.val (.int p0), .val (.int p1), .val (.int p2), .val (.int p3), .val (.int z6), .val (.double z15), .second, .val (.ref b1), .val (.ref b5), .val (.double z54), .second, .val (.int (1 : Int32)), .val (.double c85_z13), .second, .val (.double c94_z13), .second, .val (.int (1 : Int32)), .val (.int (1 : Int32)), .val (.int (1 : Int32))] [(.int (1 : Int32))])) _
        refine XS.ifNo X16.here hx rfl (hb hby at_213) rfl (Jvm.Free.XT.i0_eq_f (by decide)) ?_
        show Steps p.tables e below (T16.setTop (mkF m 216 #[.val (.int p0), .val (.int p1), .val (.int p2), .val (.int p3), .val (.int z6), .val (.double z15), .second, .val (.ref b1), .val (.ref b5), .val (.double z54), .second, .val (.int (1 : Int32)), .val (.double c85_z13), .second, .val (.double c94_z13), .second, .val (.int (1 : Int32)), .val (.int (1 : Int32)), .val (.int (1 : Int32))] [])) _
        refine XS.iload X16.here hx rfl (hb hby at_216) rfl ?_
        show Steps p.tables e below (T16.setTop (mkF m 218 #[.val (.int p0), .val (.int p1), .val (.int p2), .val (.int p3), .val (.int z6), .val (.double z15), .second, .val (.ref b1), .val (.ref b5), .val (.double z54), .second, .val (.int (1 : Int32)), .val (.double c85_z13), .second, .val (.double c94_z13), .second, .val (.int (1 : Int32)), .val (.int (1 : Int32)), .val (.int (1 : Int32))] [(.int (1 : Int32))])) _
        refine XS.ifNo X16.here hx rfl (hb hby at_218) rfl (Jvm.Free.XT.i0_eq_f (by decide)) ?_
        show Steps p.tables e below (T16.setTop (mkF m 221 #[.val (.int p0), .val (.int p1), .val (.int p2), .val (.int p3), .val (.int z6), .val (.double z15), .second, .val (.ref b1), .val (.ref b5), .val (.double z54), .second, .val (.int (1 : Int32)), .val (.double c85_z13), .second, .val (.double c94_z13), .second, .val (.int (1 : Int32)), .val (.int (1 : Int32)), .val (.int (1 : Int32))] [])) _
        refine XS.iload X16.here hx rfl (hb hby at_221) rfl ?_
        show Steps p.tables e below (T16.setTop (mkF m 223 #[.val (.int p0), .val (.int p1), .val (.int p2), .val (.int p3), .val (.int z6), .val (.double z15), .second, .val (.ref b1), .val (.ref b5), .val (.double z54), .second, .val (.int (1 : Int32)), .val (.double c85_z13), .second, .val (.double c94_z13), .second, .val (.int (1 : Int32)), .val (.int (1 : Int32)), .val (.int (1 : Int32))] [(.int (1 : Int32))])) _
        refine XS.ifNo X16.here hx rfl (hb hby at_223) rfl (Jvm.Free.XT.i0_eq_f (by decide)) ?_
        show Steps p.tables e below (T16.setTop (mkF m 226 #[.val (.int p0), .val (.int p1), .val (.int p2), .val (.int p3), .val (.int z6), .val (.double z15), .second, .val (.ref b1), .val (.ref b5), .val (.double z54), .second, .val (.int (1 : Int32)), .val (.double c85_z13), .second, .val (.double c94_z13), .second, .val (.int (1 : Int32)), .val (.int (1 : Int32)), .val (.int (1 : Int32))] [])) _
        refine XS.iload X16.here hx rfl (hb hby at_226) rfl ?_
        show Steps p.tables e below (T16.setTop (mkF m 228 #[.val (.int p0), .val (.int p1), .val (.int p2), .val (.int p3), .val (.int z6), .val (.double z15), .second, .val (.ref b1), .val (.ref b5), .val (.double z54), .second, .val (.int (1 : Int32)), .val (.double c85_z13), .second, .val (.double c94_z13), .second, .val (.int (1 : Int32)), .val (.int (1 : Int32)), .val (.int (1 : Int32))] [(.int (1 : Int32))])) _
        refine XS.ifNo X16.here hx rfl (hb hby at_228) rfl (Jvm.Free.XT.i0_eq_f (by decide)) ?_
        show Steps p.tables e below (T16.setTop (mkF m 231 #[.val (.int p0), .val (.int p1), .val (.int p2), .val (.int p3), .val (.int z6), .val (.double z15), .second, .val (.ref b1), .val (.ref b5), .val (.double z54), .second, .val (.int (1 : Int32)), .val (.double c85_z13), .second, .val (.double c94_z13), .second, .val (.int (1 : Int32)), .val (.int (1 : Int32)), .val (.int (1 : Int32))] [])) _
        refine XS.iconst X16.here hx rfl (hb hby at_231) ?_
        show Steps p.tables e below (T16.setTop (mkF m 232 #[.val (.int p0), .val (.int p1), .val (.int p2), .val (.int p3), .val (.int z6), .val (.double z15), .second, .val (.ref b1), .val (.ref b5), .val (.double z54), .second, .val (.int (1 : Int32)), .val (.double c85_z13), .second, .val (.double c94_z13), .second, .val (.int (1 : Int32)), .val (.int (1 : Int32)), .val (.int (1 : Int32))] [(.int (1 : Int32))])) _
        refine XS.goto X16.here hx rfl (pc0 := 232) (pc' := 236) rfl (hb hby at_232) (by decide) (by decide) ?_
        exact k
      obtain ⟨fs, hr, hrun, hended, hW, hsame⟩ := X16.leave (v := some (.int (1 : Int32))) (fun h => by rw [Bd.returns] at h; cases h)
      refine ⟨_, _, c17 _ ?_, hrun, hended, _, _, rfl, ?_, ⟨_, rfl⟩, hW, hsame.mono (by decide) (by decide)⟩
      · show Steps p.tables e below (T16.setTop (mkF m 236 #[.val (.int p0), .val (.int p1), .val (.int p2), .val (.int p3), .val (.int z6), .val (.double z15), .second, .val (.ref b1), .val (.ref b5), .val (.double z54), .second, .val (.int (1 : Int32)), .val (.double c85_z13), .second, .val (.double c94_z13), .second, .val (.int (1 : Int32)), .val (.int (1 : Int32)), .val (.int (1 : Int32))] [(.int (1 : Int32))])) _
        exact retOut X16 hx Bd.returns rfl (Or.inl ⟨rfl, by simp, _, rfl⟩) (hb hby at_236) hr
      · show Q0 n0 _ T16.heap _
        rw [e16]
        exact ⟨rfl, by first | assumption | exact N0⟩
    · skip
      have c18 : ∀ t, Steps p.tables e below (T13.setTop (mkF m 155 #[.val (.int p0), .val (.int p1), .val (.int p2), .val (.int p3), .val (.int z6), .val (.double z15), .second, .val (.ref b1), .val (.ref b5), .val (.double z54), .second, .val (.int (1 : Int32)), .val (.double c85_z13), .second, .val (.double c94_z13), .second, .val (.int (1 : Int32)), .unset, .unset] [(.int p2)])) t → Steps p.tables e below (s₁.setTop (entryFrame m #[(.int p0), (.int p1), (.int p2), (.int p3)] maxLocals)) t := by
        intro t k
        refine c15 t ?_
        show Steps p.tables e below (T13.setTop (mkF m 136 #[.val (.int p0), .val (.int p1), .val (.int p2), .val (.int p3), .val (.int z6), .val (.double z15), .second, .val (.ref b1), .val (.ref b5), .val (.double z54), .second, .val (.int (1 : Int32)), .val (.double c85_z13), .second, .val (.double c94_z13), .second, .val (.int (1 : Int32)), .unset, .unset] [(.int p2)])) _
        refine XS.ifYes X13.here hx rfl (pc0 := 136) (pc' := 154) rfl (hb hby at_136) rfl (Jvm.Free.XT.i0_le_t hb136) (by decide) (by decide) ?_
        show Steps p.tables e below (T13.setTop (mkF m 154 #[.val (.int p0), .val (.int p1), .val (.int p2), .val (.int p3), .val (.int z6), .val (.double z15), .second, .val (.ref b1), .val (.ref b5), .val (.double z54), .second, .val (.int (1 : Int32)), .val (.double c85_z13), .second, .val (.double c94_z13), .second, .val (.int (1 : Int32)), .unset, .unset] [])) _
        refine XS.iloadN X13.here hx rfl (hb hby at_154) rfl ?_
        exact k
      by_cases hb155 : p2 < (0 : Int32)
      · skip
        obtain ⟨z161, hz161⟩ : ∃ z : Int32, cmpValue (FP.dcmp c85_z13 FP.dconst0) .g = z := ⟨_, rfl⟩
        obtain ⟨z190, hz190⟩ : ∃ z : UInt64, FP.i2d p2 = z := ⟨_, rfl⟩
        obtain ⟨c191_z4, hc191_z4⟩ : ∃ z : UInt64, FP.ddiv z190 (4652007308841189376 : UInt64) = z := ⟨_, rfl⟩
        obtain ⟨c191_z9, hc191_z9⟩ : ∃ z : UInt64, FP.ddiv c191_z4 z38 = z := ⟨_, rfl⟩
        obtain ⟨c191_z13, hc191_z13⟩ : ∃ z : UInt64, FP.dmul c191_z9 (4660134898793709568 : UInt64) = z := ⟨_, rfl⟩
        obtain ⟨z197, hz197⟩ : ∃ z : UInt64, FP.dmul c191_z13 (4611686018427387904 : UInt64) = z := ⟨_, rfl⟩
        obtain ⟨z200, hz200⟩ : ∃ z : Int32, cmpValue (FP.dcmp z197 c85_z13) .l = z := ⟨_, rfl⟩
        have br162 : z161 < 0 := by rw [← hz161, (Jvm.OwnF.cmpv_V F85 Jvm.OwnF.DV_0.1 .g).1 (by rw [show Jvm.OwnF.V FP.dconst0 = 0 by rw [Jvm.OwnF.DV_0.2.2, Int.zero_mul]]; exact Sn (by rw [Int32.lt_iff_toInt_lt] at hb155; exact hb155))]; decide
        obtain ⟨c191_nn4, c191_nn9, c191_nn13, F191, -⟩ := sec (show 1 ≤ 2 * z6.toInt ∧ 2 * z6.toInt ≤ 8192 by omega) dv2 (by rw [← hz190, hz84]; exact da.1) (by rw [← hz190, hz84]; exact ba) hc191_z4 hc191_z9 hc191_z13
        obtain ⟨nn197, br201⟩ := half bK dv dv2 hz84 hc85_z4 hc85_z9 hc85_z13 (by rw [← hz84, hz190]; exact hc191_z4) hc191_z9 hc191_z13 hz197 hz200
        obtain ⟨cq19, kq19, q19a, q19b, q19c⟩ := isOf hZ e13 Q7_0
        obtain ⟨_, _, ⟨T19, L19, k19, n19⟩, -, X19, ⟨Lc19, hQ19, ql19, qy19, qz19⟩, st19⟩ := X13.virtualBack hx (y := (⟨"com/example/fleetwave/fleetwave/model/DrivingSpeed", "seconds", "(D)D"⟩ : MethodName)) (z := (⟨"com/example/fleetwave/fleetwave/model/DrivingSpeed", "seconds", "(D)D"⟩ : MethodName)) hown (mvT hZ (hw _ (List.mem_of_getElem? (i := 28) rfl))) (mvT hZ (hw _ (List.mem_of_getElem? (i := 29) rfl))) (notFace_of_selects (args := #[]) (mvT hZ (hw _ (List.mem_of_getElem? (i := 31) rfl)))) (mvT hZ (hw _ (List.mem_of_getElem? (i := 31) rfl))) (mvT hZ (hw _ (List.mem_of_getElem? (i := 30) rfl))) (by decide) (backOf (W := 0) (rm6 l Z a0 hw [] b5 z190 z38 c191_z4 c191_z9 c191_z13 T7.heap n0 (Nat.le_trans (Nat.le_trans (Nat.le_trans (Nat.le_trans Z0 E1.1) K3q.1) E5.1) K7q.1) Q7_1 hc191_z4 hc191_z9 hc191_z13 c191_nn4 c191_nn9 c191_nn13) hZ (hw _ (List.mem_of_getElem? (i := 32) rfl)) (hw _ (List.mem_of_getElem? (i := 3) rfl)) (by decide) (by decide)) q19a q19c (g := (mkF m 191 #[.val (.int p0), .val (.int p1), .val (.int p2), .val (.int p3), .val (.int z6), .val (.double z15), .second, .val (.ref b1), .val (.ref b5), .val (.double z54), .second, .val (.int (1 : Int32)), .val (.double c85_z13), .second, .val (.double c94_z13), .second, .val (.int (1 : Int32)), .val (.int (1 : Int32)), .unset] [(.double z190), (.ref b5)])) rfl (by rw [hml]; rfl) (Steps.refl _) (argsL := [(.double z190)]) (rest := []) (lenOf pd_0 rfl) rfl (by show 2 * 0 + _ ≤ _; exact Nat.le_of_eq rfl) (hb hby at_191) (fun _ _ => ⟨rfl, e13, (by decide : 2 + 0 ≤ _), (by decide : 2 + 0 ≤ _)⟩)
        dsimp only [Pt.U, Pt.locs, Pt.cells, Pt.slots] at X19 ql19 qy19 qz19 st19 hQ19
        subst ql19 qy19 qz19
        obtain ⟨rfl, N19q, e19⟩ := hQ19
        have N19 := Fr.app N13 N19q
        have c20 : ∀ t, Steps p.tables e below (T19.setTop (mkF m 236 #[.val (.int p0), .val (.int p1), .val (.int p2), .val (.int p3), .val (.int z6), .val (.double z15), .second, .val (.ref b1), .val (.ref b5), .val (.double z54), .second, .val (.int (1 : Int32)), .val (.double c85_z13), .second, .val (.double c94_z13), .second, .val (.int (1 : Int32)), .val (.int (1 : Int32)), .val (.int (1 : Int32))] [(.int (1 : Int32))])) t → Steps p.tables e below (s₁.setTop (entryFrame m #[(.int p0), (.int p1), (.int p2), (.int p3)] maxLocals)) t := by
          intro t k
          refine c18 t ?_
          show Steps p.tables e below (T13.setTop (mkF m 155 #[.val (.int p0), .val (.int p1), .val (.int p2), .val (.int p3), .val (.int z6), .val (.double z15), .second, .val (.ref b1), .val (.ref b5), .val (.double z54), .second, .val (.int (1 : Int32)), .val (.double c85_z13), .second, .val (.double c94_z13), .second, .val (.int (1 : Int32)), .unset, .unset] [(.int p2)])) _
          refine XS.ifNo X13.here hx rfl (hb hby at_155) rfl (Jvm.Free.XT.i0_ge_f hb155) ?_
          show Steps p.tables e below (T13.setTop (mkF m 158 #[.val (.int p0), .val (.int p1), .val (.int p2), .val (.int p3), .val (.int z6), .val (.double z15), .second, .val (.ref b1), .val (.ref b5), .val (.double z54), .second, .val (.int (1 : Int32)), .val (.double c85_z13), .second, .val (.double c94_z13), .second, .val (.int (1 : Int32)), .unset, .unset] [])) _
          refine XS.dload X13.here hx rfl (hb hby at_158) rfl ?_
          show Steps p.tables e below (T13.setTop (mkF m 160 #[.val (.int p0), .val (.int p1), .val (.int p2), .val (.int p3), .val (.int z6), .val (.double z15), .second, .val (.ref b1), .val (.ref b5), .val (.double z54), .second, .val (.int (1 : Int32)), .val (.double c85_z13), .second, .val (.double c94_z13), .second, .val (.int (1 : Int32)), .unset, .unset] [(.double c85_z13)])) _
          refine XS.dconst0 X13.here hx rfl (hb hby at_160) (v := FP.dconst0) rfl ?_
          show Steps p.tables e below (T13.setTop (mkF m 161 #[.val (.int p0), .val (.int p1), .val (.int p2), .val (.int p3), .val (.int z6), .val (.double z15), .second, .val (.ref b1), .val (.ref b5), .val (.double z54), .second, .val (.int (1 : Int32)), .val (.double c85_z13), .second, .val (.double c94_z13), .second, .val (.int (1 : Int32)), .unset, .unset] [(.double FP.dconst0), (.double c85_z13)])) _
          refine XS.dcmpS X13.here hx rfl (hb hby at_161) rfl hz161 ?_
          show Steps p.tables e below (T13.setTop (mkF m 162 #[.val (.int p0), .val (.int p1), .val (.int p2), .val (.int p3), .val (.int z6), .val (.double z15), .second, .val (.ref b1), .val (.ref b5), .val (.double z54), .second, .val (.int (1 : Int32)), .val (.double c85_z13), .second, .val (.double c94_z13), .second, .val (.int (1 : Int32)), .unset, .unset] [(.int z161)])) _
          refine XS.ifNo X13.here hx rfl (hb hby at_162) rfl (Jvm.Free.XT.i0_ge_f br162) ?_
          show Steps p.tables e below (T13.setTop (mkF m 165 #[.val (.int p0), .val (.int p1), .val (.int p2), .val (.int p3), .val (.int z6), .val (.double z15), .second, .val (.ref b1), .val (.ref b5), .val (.double z54), .second, .val (.int (1 : Int32)), .val (.double c85_z13), .second, .val (.double c94_z13), .second, .val (.int (1 : Int32)), .unset, .unset] [])) _
          refine XS.iconst X13.here hx rfl (hb hby at_165) ?_
          show Steps p.tables e below (T13.setTop (mkF m 166 #[.val (.int p0), .val (.int p1), .val (.int p2), .val (.int p3), .val (.int z6), .val (.double z15), .second, .val (.ref b1), .val (.ref b5), .val (.double z54), .second, .val (.int (1 : Int32)), .val (.double c85_z13), .second, .val (.double c94_z13), .second, .val (.int (1 : Int32)), .unset, .unset] [(.int (1 : Int32))])) _
          refine XS.goto X13.here hx rfl (pc0 := 166) (pc' := 185) rfl (hb hby at_166) (by decide) (by decide) ?_
          show Steps p.tables e below (T13.setTop (mkF m 185 #[.val (.int p0), .val (.int p1), .val (.int p2), .val (.int p3), .val (.int z6), .val (.double z15), .second, .val (.ref b1), .val (.ref b5), .val (.double z54), .second, .val (.int (1 : Int32)), .val (.double c85_z13), .second, .val (.double c94_z13), .second, .val (.int (1 : Int32)), .unset, .unset] [(.int (1 : Int32))])) _
          refine XS.istore X13.here hx rfl (hb hby at_185) rfl (l' := #[.val (.int p0), .val (.int p1), .val (.int p2), .val (.int p3), .val (.int z6), .val (.double z15), .second, .val (.ref b1), .val (.ref b5), .val (.double z54), .second, .val (.int (1 : Int32)), .val (.double c85_z13), .second, .val (.double c94_z13), .second, .val (.int (1 : Int32)), .val (.int (1 : Int32)), .unset]) rfl ?_
          show Steps p.tables e below (T13.setTop (mkF m 187 #[.val (.int p0), .val (.int p1), .val (.int p2), .val (.int p3), .val (.int z6), .val (.double z15), .second, .val (.ref b1), .val (.ref b5), .val (.double z54), .second, .val (.int (1 : Int32)), .val (.double c85_z13), .second, .val (.double c94_z13), .second, .val (.int (1 : Int32)), .val (.int (1 : Int32)), .unset] [])) _
          refine XS.aload X13.here hx rfl (hb hby at_187) rfl rfl ?_
          show Steps p.tables e below (T13.setTop (mkF m 189 #[.val (.int p0), .val (.int p1), .val (.int p2), .val (.int p3), .val (.int z6), .val (.double z15), .second, .val (.ref b1), .val (.ref b5), .val (.double z54), .second, .val (.int (1 : Int32)), .val (.double c85_z13), .second, .val (.double c94_z13), .second, .val (.int (1 : Int32)), .val (.int (1 : Int32)), .unset] [(.ref b5)])) _
          refine XS.iloadN X13.here hx rfl (hb hby at_189) rfl ?_
          show Steps p.tables e below (T13.setTop (mkF m 190 #[.val (.int p0), .val (.int p1), .val (.int p2), .val (.int p3), .val (.int z6), .val (.double z15), .second, .val (.ref b1), .val (.ref b5), .val (.double z54), .second, .val (.int (1 : Int32)), .val (.double c85_z13), .second, .val (.double c94_z13), .second, .val (.int (1 : Int32)), .val (.int (1 : Int32)), .unset] [(.int p2), (.ref b5)])) _
          refine XS.i2dS X13.here hx rfl (hb hby at_190) rfl hz190 ?_
          show Steps p.tables e below (T13.setTop (mkF m 191 #[.val (.int p0), .val (.int p1), .val (.int p2), .val (.int p3), .val (.int z6), .val (.double z15), .second, .val (.ref b1), .val (.ref b5), .val (.double z54), .second, .val (.int (1 : Int32)), .val (.double c85_z13), .second, .val (.double c94_z13), .second, .val (.int (1 : Int32)), .val (.int (1 : Int32)), .unset] [(.double z190), (.ref b5)])) _
          refine st19.trans ?_
          show Steps p.tables e below (T19.setTop (mkF m 194 #[.val (.int p0), .val (.int p1), .val (.int p2), .val (.int p3), .val (.int z6), .val (.double z15), .second, .val (.ref b1), .val (.ref b5), .val (.double z54), .second, .val (.int (1 : Int32)), .val (.double c85_z13), .second, .val (.double c94_z13), .second, .val (.int (1 : Int32)), .val (.int (1 : Int32)), .unset] [(.double c191_z13)])) _
          refine X19.ldc2DoubleC hx hown (mvT hZ (hw _ (List.mem_of_getElem? (i := 26) rfl))) (g := (mkF m 194 #[.val (.int p0), .val (.int p1), .val (.int p2), .val (.int p3), .val (.int z6), .val (.double z15), .second, .val (.ref b1), .val (.ref b5), .val (.double z54), .second, .val (.int (1 : Int32)), .val (.double c85_z13), .second, .val (.double c94_z13), .second, .val (.int (1 : Int32)), .val (.int (1 : Int32)), .unset] [(.double c191_z13)])) rfl (hb hby at_194) _ ?_
          show Steps p.tables e below (T19.setTop (mkF m 197 #[.val (.int p0), .val (.int p1), .val (.int p2), .val (.int p3), .val (.int z6), .val (.double z15), .second, .val (.ref b1), .val (.ref b5), .val (.double z54), .second, .val (.int (1 : Int32)), .val (.double c85_z13), .second, .val (.double c94_z13), .second, .val (.int (1 : Int32)), .val (.int (1 : Int32)), .unset] [(.double (4611686018427387904 : UInt64)), (.double c191_z13)])) _
          refine Jvm.OwnK.dmul X19.here hx rfl (hb hby at_197) rfl hz197 nn197 ?_
          show Steps p.tables e below (T19.setTop (mkF m 198 #[.val (.int p0), .val (.int p1), .val (.int p2), .val (.int p3), .val (.int z6), .val (.double z15), .second, .val (.ref b1), .val (.ref b5), .val (.double z54), .second, .val (.int (1 : Int32)), .val (.double c85_z13), .second, .val (.double c94_z13), .second, .val (.int (1 : Int32)), .val (.int (1 : Int32)), .unset] [(.double z197)])) _
          refine XS.dload X19.here hx rfl (hb hby at_198) rfl ?_
          show Steps p.tables e below (T19.setTop (mkF m 200 #[.val (.int p0), .val (.int p1), .val (.int p2), .val (.int p3), .val (.int z6), .val (.double z15), .second, .val (.ref b1), .val (.ref b5), .val (.double z54), .second, .val (.int (1 : Int32)), .val (.double c85_z13), .second, .val (.double c94_z13), .second, .val (.int (1 : Int32)), .val (.int (1 : Int32)), .unset] [(.double c85_z13), (.double z197)])) _
          refine XS.dcmpS X19.here hx rfl (hb hby at_200) rfl hz200 ?_
          show Steps p.tables e below (T19.setTop (mkF m 201 #[.val (.int p0), .val (.int p1), .val (.int p2), .val (.int p3), .val (.int z6), .val (.double z15), .second, .val (.ref b1), .val (.ref b5), .val (.double z54), .second, .val (.int (1 : Int32)), .val (.double c85_z13), .second, .val (.double c94_z13), .second, .val (.int (1 : Int32)), .val (.int (1 : Int32)), .unset] [(.int z200)])) _
          refine XS.ifNo X19.here hx rfl (hb hby at_201) rfl (Jvm.Free.XT.i0_ne_f br201) ?_
          show Steps p.tables e below (T19.setTop (mkF m 204 #[.val (.int p0), .val (.int p1), .val (.int p2), .val (.int p3), .val (.int z6), .val (.double z15), .second, .val (.ref b1), .val (.ref b5), .val (.double z54), .second, .val (.int (1 : Int32)), .val (.double c85_z13), .second, .val (.double c94_z13), .second, .val (.int (1 : Int32)), .val (.int (1 : Int32)), .unset] [])) _
          refine XS.iconst X19.here hx rfl (hb hby at_204) ?_
          show Steps p.tables e below (T19.setTop (mkF m 205 #[.val (.int p0), .val (.int p1), .val (.int p2), .val (.int p3), .val (.int z6), .val (.double z15), .second, .val (.ref b1), .val (.ref b5), .val (.double z54), .second, .val (.int (1 : Int32)), .val (.double c85_z13), .second, .val (.double c94_z13), .second, .val (.int (1 : Int32)), .val (.int (1 : Int32)), .unset] [(.int (1 : Int32))])) _
          refine XS.goto X19.here hx rfl (pc0 := 205) (pc' := 209) rfl (hb hby at_205) (by decide) (by decide) ?_
          show Steps p.tables e below (T19.setTop (mkF m 209 #[.val (.int p0), .val (.int p1), .val (.int p2), .val (.int p3), .val (.int z6), .val (.double z15), .second, .val (.ref b1), .val (.ref b5), .val (.double z54), .second, .val (.int (1 : Int32)), .val (.double c85_z13), .second, .val (.double c94_z13), .second, .val (.int (1 : Int32)), .val (.int (1 : Int32)), .unset] [(.int (1 : Int32))])) _
          refine XS.istore X19.here hx rfl (hb hby at_209) rfl (l' := #[.val (.int p0), .val (.int p1), .val (.int p2), .val (.int p3), .val (.int z6), .val (.double z15), .second, .val (.ref b1), .val (.ref b5), .val (.double z54), .second, .val (.int (1 : Int32)), .val (.double c85_z13), .second, .val (.double c94_z13), .second, .val (.int (1 : Int32)), .val (.int (1 : Int32)), .val (.int (1 : Int32))]) rfl ?_
          show Steps p.tables e below (T19.setTop (mkF m 211 #[.val (.int p0), .val (.int p1), .val (.int p2), .val (.int p3), .val (.int z6), .val (.double z15), .second, .val (.ref b1), .val (.ref b5), .val (.double z54), .second, .val (.int (1 : Int32)), .val (.double c85_z13), .second, .val (.double c94_z13), .second, .val (.int (1 : Int32)), .val (.int (1 : Int32)), .val (.int (1 : Int32))] [])) _
          refine XS.iload X19.here hx rfl (hb hby at_211) rfl ?_
          show Steps p.tables e below (T19.setTop (mkF m 213 #[.val (.int p0), .val (.int p1), .val (.int p2), .val (.int p3), .val (.int z6), .val (.double z15), .second, .val (.ref b1), .val (.ref b5), .val (.double z54), .second, .val (.int (1 : Int32)), .val (.double c85_z13), .second, .val (.double c94_z13), .second, .val (.int (1 : Int32)), .val (.int (1 : Int32)), .val (.int (1 : Int32))] [(.int (1 : Int32))])) _
          refine XS.ifNo X19.here hx rfl (hb hby at_213) rfl (Jvm.Free.XT.i0_eq_f (by decide)) ?_
          show Steps p.tables e below (T19.setTop (mkF m 216 #[.val (.int p0), .val (.int p1), .val (.int p2), .val (.int p3), .val (.int z6), .val (.double z15), .second, .val (.ref b1), .val (.ref b5), .val (.double z54), .second, .val (.int (1 : Int32)), .val (.double c85_z13), .second, .val (.double c94_z13), .second, .val (.int (1 : Int32)), .val (.int (1 : Int32)), .val (.int (1 : Int32))] [])) _
          refine XS.iload X19.here hx rfl (hb hby at_216) rfl ?_
          show Steps p.tables e below (T19.setTop (mkF m 218 #[.val (.int p0), .val (.int p1), .val (.int p2), .val (.int p3), .val (.int z6), .val (.double z15), .second, .val (.ref b1), .val (.ref b5), .val (.double z54), .second, .val (.int (1 : Int32)), .val (.double c85_z13), .second, .val (.double c94_z13), .second, .val (.int (1 : Int32)), .val (.int (1 : Int32)), .val (.int (1 : Int32))] [(.int (1 : Int32))])) _
          refine XS.ifNo X19.here hx rfl (hb hby at_218) rfl (Jvm.Free.XT.i0_eq_f (by decide)) ?_
          show Steps p.tables e below (T19.setTop (mkF m 221 #[.val (.int p0), .val (.int p1), .val (.int p2), .val (.int p3), .val (.int z6), .val (.double z15), .second, .val (.ref b1), .val (.ref b5), .val (.double z54), .second, .val (.int (1 : Int32)), .val (.double c85_z13), .second, .val (.double c94_z13), .second, .val (.int (1 : Int32)), .val (.int (1 : Int32)), .val (.int (1 : Int32))] [])) _
          refine XS.iload X19.here hx rfl (hb hby at_221) rfl ?_
          show Steps p.tables e below (T19.setTop (mkF m 223 #[.val (.int p0), .val (.int p1), .val (.int p2), .val (.int p3), .val (.int z6), .val (.double z15), .second, .val (.ref b1), .val (.ref b5), .val (.double z54), .second, .val (.int (1 : Int32)), .val (.double c85_z13), .second, .val (.double c94_z13), .second, .val (.int (1 : Int32)), .val (.int (1 : Int32)), .val (.int (1 : Int32))] [(.int (1 : Int32))])) _
          refine XS.ifNo X19.here hx rfl (hb hby at_223) rfl (Jvm.Free.XT.i0_eq_f (by decide)) ?_
          show Steps p.tables e below (T19.setTop (mkF m 226 #[.val (.int p0), .val (.int p1), .val (.int p2), .val (.int p3), .val (.int z6), .val (.double z15), .second, .val (.ref b1), .val (.ref b5), .val (.double z54), .second, .val (.int (1 : Int32)), .val (.double c85_z13), .second, .val (.double c94_z13), .second, .val (.int (1 : Int32)), .val (.int (1 : Int32)), .val (.int (1 : Int32))] [])) _
          refine XS.iload X19.here hx rfl (hb hby at_226) rfl ?_
          show Steps p.tables e below (T19.setTop (mkF m 228 #[.val (.int p0), .val (.int p1), .val (.int p2), .val (.int p3), .val (.int z6), .val (.double z15), .second, .val (.ref b1), .val (.ref b5), .val (.double z54), .second, .val (.int (1 : Int32)), .val (.double c85_z13), .second, .val (.double c94_z13), .second, .val (.int (1 : Int32)), .val (.int (1 : Int32)), .val (.int (1 : Int32))] [(.int (1 : Int32))])) _
          refine XS.ifNo X19.here hx rfl (hb hby at_228) rfl (Jvm.Free.XT.i0_eq_f (by decide)) ?_
          show Steps p.tables e below (T19.setTop (mkF m 231 #[.val (.int p0), .val (.int p1), .val (.int p2), .val (.int p3), .val (.int z6), .val (.double z15), .second, .val (.ref b1), .val (.ref b5), .val (.double z54), .second, .val (.int (1 : Int32)), .val (.double c85_z13), .second, .val (.double c94_z13), .second, .val (.int (1 : Int32)), .val (.int (1 : Int32)), .val (.int (1 : Int32))] [])) _
          refine XS.iconst X19.here hx rfl (hb hby at_231) ?_
          show Steps p.tables e below (T19.setTop (mkF m 232 #[.val (.int p0), .val (.int p1), .val (.int p2), .val (.int p3), .val (.int z6), .val (.double z15), .second, .val (.ref b1), .val (.ref b5), .val (.double z54), .second, .val (.int (1 : Int32)), .val (.double c85_z13), .second, .val (.double c94_z13), .second, .val (.int (1 : Int32)), .val (.int (1 : Int32)), .val (.int (1 : Int32))] [(.int (1 : Int32))])) _
          refine XS.goto X19.here hx rfl (pc0 := 232) (pc' := 236) rfl (hb hby at_232) (by decide) (by decide) ?_
          exact k
        obtain ⟨fs, hr, hrun, hended, hW, hsame⟩ := X19.leave (v := some (.int (1 : Int32))) (fun h => by rw [Bd.returns] at h; cases h)
        refine ⟨_, _, c20 _ ?_, hrun, hended, _, _, rfl, ?_, ⟨_, rfl⟩, hW, hsame.mono (by decide) (by decide)⟩
        · show Steps p.tables e below (T19.setTop (mkF m 236 #[.val (.int p0), .val (.int p1), .val (.int p2), .val (.int p3), .val (.int z6), .val (.double z15), .second, .val (.ref b1), .val (.ref b5), .val (.double z54), .second, .val (.int (1 : Int32)), .val (.double c85_z13), .second, .val (.double c94_z13), .second, .val (.int (1 : Int32)), .val (.int (1 : Int32)), .val (.int (1 : Int32))] [(.int (1 : Int32))])) _
          exact retOut X19 hx Bd.returns rfl (Or.inl ⟨rfl, by simp, _, rfl⟩) (hb hby at_236) hr
        · show Q0 n0 _ T19.heap _
          rw [e19]
          exact ⟨rfl, by first | assumption | exact N0⟩
      · skip
        obtain ⟨z176, hz176⟩ : ∃ z : Int32, cmpValue (FP.dcmp c85_z13 FP.dconst0) .l = z := ⟨_, rfl⟩
        obtain ⟨z190, hz190⟩ : ∃ z : UInt64, FP.i2d p2 = z := ⟨_, rfl⟩
        obtain ⟨c191_z4, hc191_z4⟩ : ∃ z : UInt64, FP.ddiv z190 (4652007308841189376 : UInt64) = z := ⟨_, rfl⟩
        obtain ⟨c191_z9, hc191_z9⟩ : ∃ z : UInt64, FP.ddiv c191_z4 z38 = z := ⟨_, rfl⟩
        obtain ⟨c191_z13, hc191_z13⟩ : ∃ z : UInt64, FP.dmul c191_z9 (4660134898793709568 : UInt64) = z := ⟨_, rfl⟩
        obtain ⟨z197, hz197⟩ : ∃ z : UInt64, FP.dmul c191_z13 (4611686018427387904 : UInt64) = z := ⟨_, rfl⟩
        obtain ⟨z200, hz200⟩ : ∃ z : Int32, cmpValue (FP.dcmp z197 c85_z13) .l = z := ⟨_, rfl⟩
        have br177 : z176 = 0 := by rw [← hz176]; exact (Jvm.OwnF.cmpv_V F85 Jvm.OwnF.DV_0.1 .l).2.1 (by rw [show Jvm.OwnF.V FP.dconst0 = 0 by rw [Jvm.OwnF.DV_0.2.2, Int.zero_mul]]; exact (S0 (by rw [Int32.lt_iff_toInt_lt, show (0 : Int32).toInt = 0 by decide] at hb136 hb155; omega)).1)
        obtain ⟨c191_nn4, c191_nn9, c191_nn13, F191, -⟩ := sec (show 1 ≤ 2 * z6.toInt ∧ 2 * z6.toInt ≤ 8192 by omega) dv2 (by rw [← hz190, hz84]; exact da.1) (by rw [← hz190, hz84]; exact ba) hc191_z4 hc191_z9 hc191_z13
        obtain ⟨nn197, br201⟩ := half bK dv dv2 hz84 hc85_z4 hc85_z9 hc85_z13 (by rw [← hz84, hz190]; exact hc191_z4) hc191_z9 hc191_z13 hz197 hz200
        obtain ⟨cq21, kq21, q21a, q21b, q21c⟩ := isOf hZ e13 Q7_0
        obtain ⟨_, _, ⟨T21, L21, k21, n21⟩, -, X21, ⟨Lc21, hQ21, ql21, qy21, qz21⟩, st21⟩ := X13.virtualBack hx (y := (⟨"com/example/fleetwave/fleetwave/model/DrivingSpeed", "seconds", "(D)D"⟩ : MethodName)) (z := (⟨"com/example/fleetwave/fleetwave/model/DrivingSpeed", "seconds", "(D)D"⟩ : MethodName)) hown (mvT hZ (hw _ (List.mem_of_getElem? (i := 28) rfl))) (mvT hZ (hw _ (List.mem_of_getElem? (i := 29) rfl))) (notFace_of_selects (args := #[]) (mvT hZ (hw _ (List.mem_of_getElem? (i := 31) rfl)))) (mvT hZ (hw _ (List.mem_of_getElem? (i := 31) rfl))) (mvT hZ (hw _ (List.mem_of_getElem? (i := 30) rfl))) (by decide) (backOf (W := 0) (rm6 l Z a0 hw [] b5 z190 z38 c191_z4 c191_z9 c191_z13 T7.heap n0 (Nat.le_trans (Nat.le_trans (Nat.le_trans (Nat.le_trans Z0 E1.1) K3q.1) E5.1) K7q.1) Q7_1 hc191_z4 hc191_z9 hc191_z13 c191_nn4 c191_nn9 c191_nn13) hZ (hw _ (List.mem_of_getElem? (i := 32) rfl)) (hw _ (List.mem_of_getElem? (i := 3) rfl)) (by decide) (by decide)) q21a q21c (g := (mkF m 191 #[.val (.int p0), .val (.int p1), .val (.int p2), .val (.int p3), .val (.int z6), .val (.double z15), .second, .val (.ref b1), .val (.ref b5), .val (.double z54), .second, .val (.int (1 : Int32)), .val (.double c85_z13), .second, .val (.double c94_z13), .second, .val (.int (1 : Int32)), .val (.int (1 : Int32)), .unset] [(.double z190), (.ref b5)])) rfl (by rw [hml]; rfl) (Steps.refl _) (argsL := [(.double z190)]) (rest := []) (lenOf pd_0 rfl) rfl (by show 2 * 0 + _ ≤ _; exact Nat.le_of_eq rfl) (hb hby at_191) (fun _ _ => ⟨rfl, e13, (by decide : 2 + 0 ≤ _), (by decide : 2 + 0 ≤ _)⟩)
        dsimp only [Pt.U, Pt.locs, Pt.cells, Pt.slots] at X21 ql21 qy21 qz21 st21 hQ21
        subst ql21 qy21 qz21
        obtain ⟨rfl, N21q, e21⟩ := hQ21
        have N21 := Fr.app N13 N21q
        have c22 : ∀ t, Steps p.tables e below (T21.setTop (mkF m 236 #[.val (.int p0), .val (.int p1), .val (.int p2), .val (.int p3), .val (.int z6), .val (.double z15), .second, .val (.ref b1), .val (.ref b5), .val (.double z54), .second, .val (.int (1 : Int32)), .val (.double c85_z13), .second, .val (.double c94_z13), .second, .val (.int (1 : Int32)), .val (.int (1 : Int32)), .val (.int (1 : Int32))] [(.int (1 : Int32))])) t → Steps p.tables e below (s₁.setTop (entryFrame m #[(.int p0), (.int p1), (.int p2), (.int p3)] maxLocals)) t := by
          intro t k
          refine c18 t ?_
          show Steps p.tables e below (T13.setTop (mkF m 155 #[.val (.int p0), .val (.int p1), .val (.int p2), .val (.int p3), .val (.int z6), .val (.double z15), .second, .val (.ref b1), .val (.ref b5), .val (.double z54), .second, .val (.int (1 : Int32)), .val (.double c85_z13), .second, .val (.double c94_z13), .second, .val (.int (1 : Int32)), .unset, .unset] [(.int p2)])) _
          refine XS.ifYes X13.here hx rfl (pc0 := 155) (pc' := 173) rfl (hb hby at_155) rfl (Jvm.Free.XT.i0_ge_t hb155) (by decide) (by decide) ?_
          show Steps p.tables e below (T13.setTop (mkF m 173 #[.val (.int p0), .val (.int p1), .val (.int p2), .val (.int p3), .val (.int z6), .val (.double z15), .second, .val (.ref b1), .val (.ref b5), .val (.double z54), .second, .val (.int (1 : Int32)), .val (.double c85_z13), .second, .val (.double c94_z13), .second, .val (.int (1 : Int32)), .unset, .unset] [])) _
          refine XS.dload X13.here hx rfl (hb hby at_173) rfl ?_
          show Steps p.tables e below (T13.setTop (mkF m 175 #[.val (.int p0), .val (.int p1), .val (.int p2), .val (.int p3), .val (.int z6), .val (.double z15), .second, .val (.ref b1), .val (.ref b5), .val (.double z54), .second, .val (.int (1 : Int32)), .val (.double c85_z13), .second, .val (.double c94_z13), .second, .val (.int (1 : Int32)), .unset, .unset] [(.double c85_z13)])) _
          refine XS.dconst0 X13.here hx rfl (hb hby at_175) (v := FP.dconst0) rfl ?_
          show Steps p.tables e below (T13.setTop (mkF m 176 #[.val (.int p0), .val (.int p1), .val (.int p2), .val (.int p3), .val (.int z6), .val (.double z15), .second, .val (.ref b1), .val (.ref b5), .val (.double z54), .second, .val (.int (1 : Int32)), .val (.double c85_z13), .second, .val (.double c94_z13), .second, .val (.int (1 : Int32)), .unset, .unset] [(.double FP.dconst0), (.double c85_z13)])) _
          refine XS.dcmpS X13.here hx rfl (hb hby at_176) rfl hz176 ?_
          show Steps p.tables e below (T13.setTop (mkF m 177 #[.val (.int p0), .val (.int p1), .val (.int p2), .val (.int p3), .val (.int z6), .val (.double z15), .second, .val (.ref b1), .val (.ref b5), .val (.double z54), .second, .val (.int (1 : Int32)), .val (.double c85_z13), .second, .val (.double c94_z13), .second, .val (.int (1 : Int32)), .unset, .unset] [(.int z176)])) _
          refine XS.ifNo X13.here hx rfl (hb hby at_177) rfl (Jvm.Free.XT.i0_ne_f br177) ?_
          show Steps p.tables e below (T13.setTop (mkF m 180 #[.val (.int p0), .val (.int p1), .val (.int p2), .val (.int p3), .val (.int z6), .val (.double z15), .second, .val (.ref b1), .val (.ref b5), .val (.double z54), .second, .val (.int (1 : Int32)), .val (.double c85_z13), .second, .val (.double c94_z13), .second, .val (.int (1 : Int32)), .unset, .unset] [])) _
          refine XS.iconst X13.here hx rfl (hb hby at_180) ?_
          show Steps p.tables e below (T13.setTop (mkF m 181 #[.val (.int p0), .val (.int p1), .val (.int p2), .val (.int p3), .val (.int z6), .val (.double z15), .second, .val (.ref b1), .val (.ref b5), .val (.double z54), .second, .val (.int (1 : Int32)), .val (.double c85_z13), .second, .val (.double c94_z13), .second, .val (.int (1 : Int32)), .unset, .unset] [(.int (1 : Int32))])) _
          refine XS.goto X13.here hx rfl (pc0 := 181) (pc' := 185) rfl (hb hby at_181) (by decide) (by decide) ?_
          show Steps p.tables e below (T13.setTop (mkF m 185 #[.val (.int p0), .val (.int p1), .val (.int p2), .val (.int p3), .val (.int z6), .val (.double z15), .second, .val (.ref b1), .val (.ref b5), .val (.double z54), .second, .val (.int (1 : Int32)), .val (.double c85_z13), .second, .val (.double c94_z13), .second, .val (.int (1 : Int32)), .unset, .unset] [(.int (1 : Int32))])) _
          refine XS.istore X13.here hx rfl (hb hby at_185) rfl (l' := #[.val (.int p0), .val (.int p1), .val (.int p2), .val (.int p3), .val (.int z6), .val (.double z15), .second, .val (.ref b1), .val (.ref b5), .val (.double z54), .second, .val (.int (1 : Int32)), .val (.double c85_z13), .second, .val (.double c94_z13), .second, .val (.int (1 : Int32)), .val (.int (1 : Int32)), .unset]) rfl ?_
          show Steps p.tables e below (T13.setTop (mkF m 187 #[.val (.int p0), .val (.int p1), .val (.int p2), .val (.int p3), .val (.int z6), .val (.double z15), .second, .val (.ref b1), .val (.ref b5), .val (.double z54), .second, .val (.int (1 : Int32)), .val (.double c85_z13), .second, .val (.double c94_z13), .second, .val (.int (1 : Int32)), .val (.int (1 : Int32)), .unset] [])) _
          refine XS.aload X13.here hx rfl (hb hby at_187) rfl rfl ?_
          show Steps p.tables e below (T13.setTop (mkF m 189 #[.val (.int p0), .val (.int p1), .val (.int p2), .val (.int p3), .val (.int z6), .val (.double z15), .second, .val (.ref b1), .val (.ref b5), .val (.double z54), .second, .val (.int (1 : Int32)), .val (.double c85_z13), .second, .val (.double c94_z13), .second, .val (.int (1 : Int32)), .val (.int (1 : Int32)), .unset] [(.ref b5)])) _
          refine XS.iloadN X13.here hx rfl (hb hby at_189) rfl ?_
          show Steps p.tables e below (T13.setTop (mkF m 190 #[.val (.int p0), .val (.int p1), .val (.int p2), .val (.int p3), .val (.int z6), .val (.double z15), .second, .val (.ref b1), .val (.ref b5), .val (.double z54), .second, .val (.int (1 : Int32)), .val (.double c85_z13), .second, .val (.double c94_z13), .second, .val (.int (1 : Int32)), .val (.int (1 : Int32)), .unset] [(.int p2), (.ref b5)])) _
          refine XS.i2dS X13.here hx rfl (hb hby at_190) rfl hz190 ?_
          show Steps p.tables e below (T13.setTop (mkF m 191 #[.val (.int p0), .val (.int p1), .val (.int p2), .val (.int p3), .val (.int z6), .val (.double z15), .second, .val (.ref b1), .val (.ref b5), .val (.double z54), .second, .val (.int (1 : Int32)), .val (.double c85_z13), .second, .val (.double c94_z13), .second, .val (.int (1 : Int32)), .val (.int (1 : Int32)), .unset] [(.double z190), (.ref b5)])) _
          refine st21.trans ?_
          show Steps p.tables e below (T21.setTop (mkF m 194 #[.val (.int p0), .val (.int p1), .val (.int p2), .val (.int p3), .val (.int z6), .val (.double z15), .second, .val (.ref b1), .val (.ref b5), .val (.double z54), .second, .val (.int (1 : Int32)), .val (.double c85_z13), .second, .val (.double c94_z13), .second, .val (.int (1 : Int32)), .val (.int (1 : Int32)), .unset] [(.double c191_z13)])) _
          refine X21.ldc2DoubleC hx hown (mvT hZ (hw _ (List.mem_of_getElem? (i := 26) rfl))) (g := (mkF m 194 #[.val (.int p0), .val (.int p1), .val (.int p2), .val (.int p3), .val (.int z6), .val (.double z15), .second, .val (.ref b1), .val (.ref b5), .val (.double z54), .second, .val (.int (1 : Int32)), .val (.double c85_z13), .second, .val (.double c94_z13), .second, .val (.int (1 : Int32)), .val (.int (1 : Int32)), .unset] [(.double c191_z13)])) rfl (hb hby at_194) _ ?_
          show Steps p.tables e below (T21.setTop (mkF m 197 #[.val (.int p0), .val (.int p1), .val (.int p2), .val (.int p3), .val (.int z6), .val (.double z15), .second, .val (.ref b1), .val (.ref b5), .val (.double z54), .second, .val (.int (1 : Int32)), .val (.double c85_z13), .second, .val (.double c94_z13), .second, .val (.int (1 : Int32)), .val (.int (1 : Int32)), .unset] [(.double (4611686018427387904 : UInt64)), (.double c191_z13)])) _
          refine Jvm.OwnK.dmul X21.here hx rfl (hb hby at_197) rfl hz197 nn197 ?_
          show Steps p.tables e below (T21.setTop (mkF m 198 #[.val (.int p0), .val (.int p1), .val (.int p2), .val (.int p3), .val (.int z6), .val (.double z15), .second, .val (.ref b1), .val (.ref b5), .val (.double z54), .second, .val (.int (1 : Int32)), .val (.double c85_z13), .second, .val (.double c94_z13), .second, .val (.int (1 : Int32)), .val (.int (1 : Int32)), .unset] [(.double z197)])) _
          refine XS.dload X21.here hx rfl (hb hby at_198) rfl ?_
          show Steps p.tables e below (T21.setTop (mkF m 200 #[.val (.int p0), .val (.int p1), .val (.int p2), .val (.int p3), .val (.int z6), .val (.double z15), .second, .val (.ref b1), .val (.ref b5), .val (.double z54), .second, .val (.int (1 : Int32)), .val (.double c85_z13), .second, .val (.double c94_z13), .second, .val (.int (1 : Int32)), .val (.int (1 : Int32)), .unset] [(.double c85_z13), (.double z197)])) _
          refine XS.dcmpS X21.here hx rfl (hb hby at_200) rfl hz200 ?_
          show Steps p.tables e below (T21.setTop (mkF m 201 #[.val (.int p0), .val (.int p1), .val (.int p2), .val (.int p3), .val (.int z6), .val (.double z15), .second, .val (.ref b1), .val (.ref b5), .val (.double z54), .second, .val (.int (1 : Int32)), .val (.double c85_z13), .second, .val (.double c94_z13), .second, .val (.int (1 : Int32)), .val (.int (1 : Int32)), .unset] [(.int z200)])) _
          refine XS.ifNo X21.here hx rfl (hb hby at_201) rfl (Jvm.Free.XT.i0_ne_f br201) ?_
          show Steps p.tables e below (T21.setTop (mkF m 204 #[.val (.int p0), .val (.int p1), .val (.int p2), .val (.int p3), .val (.int z6), .val (.double z15), .second, .val (.ref b1), .val (.ref b5), .val (.double z54), .second, .val (.int (1 : Int32)), .val (.double c85_z13), .second, .val (.double c94_z13), .second, .val (.int (1 : Int32)), .val (.int (1 : Int32)), .unset] [])) _
          refine XS.iconst X21.here hx rfl (hb hby at_204) ?_
          show Steps p.tables e below (T21.setTop (mkF m 205 #[.val (.int p0), .val (.int p1), .val (.int p2), .val (.int p3), .val (.int z6), .val (.double z15), .second, .val (.ref b1), .val (.ref b5), .val (.double z54), .second, .val (.int (1 : Int32)), .val (.double c85_z13), .second, .val (.double c94_z13), .second, .val (.int (1 : Int32)), .val (.int (1 : Int32)), .unset] [(.int (1 : Int32))])) _
          refine XS.goto X21.here hx rfl (pc0 := 205) (pc' := 209) rfl (hb hby at_205) (by decide) (by decide) ?_
          show Steps p.tables e below (T21.setTop (mkF m 209 #[.val (.int p0), .val (.int p1), .val (.int p2), .val (.int p3), .val (.int z6), .val (.double z15), .second, .val (.ref b1), .val (.ref b5), .val (.double z54), .second, .val (.int (1 : Int32)), .val (.double c85_z13), .second, .val (.double c94_z13), .second, .val (.int (1 : Int32)), .val (.int (1 : Int32)), .unset] [(.int (1 : Int32))])) _
          refine XS.istore X21.here hx rfl (hb hby at_209) rfl (l' := #[.val (.int p0), .val (.int p1), .val (.int p2), .val (.int p3), .val (.int z6), .val (.double z15), .second, .val (.ref b1), .val (.ref b5), .val (.double z54), .second, .val (.int (1 : Int32)), .val (.double c85_z13), .second, .val (.double c94_z13), .second, .val (.int (1 : Int32)), .val (.int (1 : Int32)), .val (.int (1 : Int32))]) rfl ?_
          show Steps p.tables e below (T21.setTop (mkF m 211 #[.val (.int p0), .val (.int p1), .val (.int p2), .val (.int p3), .val (.int z6), .val (.double z15), .second, .val (.ref b1), .val (.ref b5), .val (.double z54), .second, .val (.int (1 : Int32)), .val (.double c85_z13), .second, .val (.double c94_z13), .second, .val (.int (1 : Int32)), .val (.int (1 : Int32)), .val (.int (1 : Int32))] [])) _
          refine XS.iload X21.here hx rfl (hb hby at_211) rfl ?_
          show Steps p.tables e below (T21.setTop (mkF m 213 #[.val (.int p0), .val (.int p1), .val (.int p2), .val (.int p3), .val (.int z6), .val (.double z15), .second, .val (.ref b1), .val (.ref b5), .val (.double z54), .second, .val (.int (1 : Int32)), .val (.double c85_z13), .second, .val (.double c94_z13), .second, .val (.int (1 : Int32)), .val (.int (1 : Int32)), .val (.int (1 : Int32))] [(.int (1 : Int32))])) _
          refine XS.ifNo X21.here hx rfl (hb hby at_213) rfl (Jvm.Free.XT.i0_eq_f (by decide)) ?_
          show Steps p.tables e below (T21.setTop (mkF m 216 #[.val (.int p0), .val (.int p1), .val (.int p2), .val (.int p3), .val (.int z6), .val (.double z15), .second, .val (.ref b1), .val (.ref b5), .val (.double z54), .second, .val (.int (1 : Int32)), .val (.double c85_z13), .second, .val (.double c94_z13), .second, .val (.int (1 : Int32)), .val (.int (1 : Int32)), .val (.int (1 : Int32))] [])) _
          refine XS.iload X21.here hx rfl (hb hby at_216) rfl ?_
          show Steps p.tables e below (T21.setTop (mkF m 218 #[.val (.int p0), .val (.int p1), .val (.int p2), .val (.int p3), .val (.int z6), .val (.double z15), .second, .val (.ref b1), .val (.ref b5), .val (.double z54), .second, .val (.int (1 : Int32)), .val (.double c85_z13), .second, .val (.double c94_z13), .second, .val (.int (1 : Int32)), .val (.int (1 : Int32)), .val (.int (1 : Int32))] [(.int (1 : Int32))])) _
          refine XS.ifNo X21.here hx rfl (hb hby at_218) rfl (Jvm.Free.XT.i0_eq_f (by decide)) ?_
          show Steps p.tables e below (T21.setTop (mkF m 221 #[.val (.int p0), .val (.int p1), .val (.int p2), .val (.int p3), .val (.int z6), .val (.double z15), .second, .val (.ref b1), .val (.ref b5), .val (.double z54), .second, .val (.int (1 : Int32)), .val (.double c85_z13), .second, .val (.double c94_z13), .second, .val (.int (1 : Int32)), .val (.int (1 : Int32)), .val (.int (1 : Int32))] [])) _
          refine XS.iload X21.here hx rfl (hb hby at_221) rfl ?_
          show Steps p.tables e below (T21.setTop (mkF m 223 #[.val (.int p0), .val (.int p1), .val (.int p2), .val (.int p3), .val (.int z6), .val (.double z15), .second, .val (.ref b1), .val (.ref b5), .val (.double z54), .second, .val (.int (1 : Int32)), .val (.double c85_z13), .second, .val (.double c94_z13), .second, .val (.int (1 : Int32)), .val (.int (1 : Int32)), .val (.int (1 : Int32))] [(.int (1 : Int32))])) _
          refine XS.ifNo X21.here hx rfl (hb hby at_223) rfl (Jvm.Free.XT.i0_eq_f (by decide)) ?_
          show Steps p.tables e below (T21.setTop (mkF m 226 #[.val (.int p0), .val (.int p1), .val (.int p2), .val (.int p3), .val (.int z6), .val (.double z15), .second, .val (.ref b1), .val (.ref b5), .val (.double z54), .second, .val (.int (1 : Int32)), .val (.double c85_z13), .second, .val (.double c94_z13), .second, .val (.int (1 : Int32)), .val (.int (1 : Int32)), .val (.int (1 : Int32))] [])) _
          refine XS.iload X21.here hx rfl (hb hby at_226) rfl ?_
          show Steps p.tables e below (T21.setTop (mkF m 228 #[.val (.int p0), .val (.int p1), .val (.int p2), .val (.int p3), .val (.int z6), .val (.double z15), .second, .val (.ref b1), .val (.ref b5), .val (.double z54), .second, .val (.int (1 : Int32)), .val (.double c85_z13), .second, .val (.double c94_z13), .second, .val (.int (1 : Int32)), .val (.int (1 : Int32)), .val (.int (1 : Int32))] [(.int (1 : Int32))])) _
          refine XS.ifNo X21.here hx rfl (hb hby at_228) rfl (Jvm.Free.XT.i0_eq_f (by decide)) ?_
          show Steps p.tables e below (T21.setTop (mkF m 231 #[.val (.int p0), .val (.int p1), .val (.int p2), .val (.int p3), .val (.int z6), .val (.double z15), .second, .val (.ref b1), .val (.ref b5), .val (.double z54), .second, .val (.int (1 : Int32)), .val (.double c85_z13), .second, .val (.double c94_z13), .second, .val (.int (1 : Int32)), .val (.int (1 : Int32)), .val (.int (1 : Int32))] [])) _
          refine XS.iconst X21.here hx rfl (hb hby at_231) ?_
          show Steps p.tables e below (T21.setTop (mkF m 232 #[.val (.int p0), .val (.int p1), .val (.int p2), .val (.int p3), .val (.int z6), .val (.double z15), .second, .val (.ref b1), .val (.ref b5), .val (.double z54), .second, .val (.int (1 : Int32)), .val (.double c85_z13), .second, .val (.double c94_z13), .second, .val (.int (1 : Int32)), .val (.int (1 : Int32)), .val (.int (1 : Int32))] [(.int (1 : Int32))])) _
          refine XS.goto X21.here hx rfl (pc0 := 232) (pc' := 236) rfl (hb hby at_232) (by decide) (by decide) ?_
          exact k
        obtain ⟨fs, hr, hrun, hended, hW, hsame⟩ := X21.leave (v := some (.int (1 : Int32))) (fun h => by rw [Bd.returns] at h; cases h)
        refine ⟨_, _, c22 _ ?_, hrun, hended, _, _, rfl, ?_, ⟨_, rfl⟩, hW, hsame.mono (by decide) (by decide)⟩
        · show Steps p.tables e below (T21.setTop (mkF m 236 #[.val (.int p0), .val (.int p1), .val (.int p2), .val (.int p3), .val (.int z6), .val (.double z15), .second, .val (.ref b1), .val (.ref b5), .val (.double z54), .second, .val (.int (1 : Int32)), .val (.double c85_z13), .second, .val (.double c94_z13), .second, .val (.int (1 : Int32)), .val (.int (1 : Int32)), .val (.int (1 : Int32))] [(.int (1 : Int32))])) _
          exact retOut X21 hx Bd.returns rfl (Or.inl ⟨rfl, by simp, _, rfl⟩) (hb hby at_236) hr
        · show Q0 n0 _ T21.heap _
          rw [e21]
          exact ⟨rfl, by first | assumption | exact N0⟩
  · skip
    obtain ⟨z108, hz108⟩ : ∃ z : Int32, cmpValue (FP.dcmp c85_z13 c94_z13) .g = z := ⟨_, rfl⟩
    have br109 := mono bK8 dv da.1 dbb.1 ba bb (by rw [da.2.2, dbb.2.2]; exact Int.mul_le_mul_of_nonneg_right (by rw [Int32.lt_iff_toInt_lt] at hb101; omega) (by omega)) hc85_z4 hc85_z9 hc85_z13 hc94_z4 hc94_z9 hc94_z13 hz108
    have c23 : ∀ t, Steps p.tables e below (T13.setTop (mkF m 136 #[.val (.int p0), .val (.int p1), .val (.int p2), .val (.int p3), .val (.int z6), .val (.double z15), .second, .val (.ref b1), .val (.ref b5), .val (.double z54), .second, .val (.int (1 : Int32)), .val (.double c85_z13), .second, .val (.double c94_z13), .second, .val (.int (1 : Int32)), .unset, .unset] [(.int p2)])) t → Steps p.tables e below (s₁.setTop (entryFrame m #[(.int p0), (.int p1), (.int p2), (.int p3)] maxLocals)) t := by
      intro t k
      refine c14 t ?_
      show Steps p.tables e below (T13.setTop (mkF m 101 #[.val (.int p0), .val (.int p1), .val (.int p2), .val (.int p3), .val (.int z6), .val (.double z15), .second, .val (.ref b1), .val (.ref b5), .val (.double z54), .second, .val (.int (1 : Int32)), .val (.double c85_z13), .second, .val (.double c94_z13), .second, .unset, .unset, .unset] [(.int p3), (.int p2)])) _
      refine XS.icmpNo X13.here hx rfl (hb hby at_101) rfl (Jvm.Free.XT.ii_gt_f hb101) ?_
      show Steps p.tables e below (T13.setTop (mkF m 104 #[.val (.int p0), .val (.int p1), .val (.int p2), .val (.int p3), .val (.int z6), .val (.double z15), .second, .val (.ref b1), .val (.ref b5), .val (.double z54), .second, .val (.int (1 : Int32)), .val (.double c85_z13), .second, .val (.double c94_z13), .second, .unset, .unset, .unset] [])) _
      refine XS.dload X13.here hx rfl (hb hby at_104) rfl ?_
      show Steps p.tables e below (T13.setTop (mkF m 106 #[.val (.int p0), .val (.int p1), .val (.int p2), .val (.int p3), .val (.int z6), .val (.double z15), .second, .val (.ref b1), .val (.ref b5), .val (.double z54), .second, .val (.int (1 : Int32)), .val (.double c85_z13), .second, .val (.double c94_z13), .second, .unset, .unset, .unset] [(.double c85_z13)])) _
      refine XS.dload X13.here hx rfl (hb hby at_106) rfl ?_
      show Steps p.tables e below (T13.setTop (mkF m 108 #[.val (.int p0), .val (.int p1), .val (.int p2), .val (.int p3), .val (.int z6), .val (.double z15), .second, .val (.ref b1), .val (.ref b5), .val (.double z54), .second, .val (.int (1 : Int32)), .val (.double c85_z13), .second, .val (.double c94_z13), .second, .unset, .unset, .unset] [(.double c94_z13), (.double c85_z13)])) _
      refine XS.dcmpS X13.here hx rfl (hb hby at_108) rfl hz108 ?_
      show Steps p.tables e below (T13.setTop (mkF m 109 #[.val (.int p0), .val (.int p1), .val (.int p2), .val (.int p3), .val (.int z6), .val (.double z15), .second, .val (.ref b1), .val (.ref b5), .val (.double z54), .second, .val (.int (1 : Int32)), .val (.double c85_z13), .second, .val (.double c94_z13), .second, .unset, .unset, .unset] [(.int z108)])) _
      refine XS.ifNo X13.here hx rfl (hb hby at_109) rfl (Jvm.Free.XT.i0_gt_f br109) ?_
      show Steps p.tables e below (T13.setTop (mkF m 112 #[.val (.int p0), .val (.int p1), .val (.int p2), .val (.int p3), .val (.int z6), .val (.double z15), .second, .val (.ref b1), .val (.ref b5), .val (.double z54), .second, .val (.int (1 : Int32)), .val (.double c85_z13), .second, .val (.double c94_z13), .second, .unset, .unset, .unset] [])) _
      refine XS.iconst X13.here hx rfl (hb hby at_112) ?_
      show Steps p.tables e below (T13.setTop (mkF m 113 #[.val (.int p0), .val (.int p1), .val (.int p2), .val (.int p3), .val (.int z6), .val (.double z15), .second, .val (.ref b1), .val (.ref b5), .val (.double z54), .second, .val (.int (1 : Int32)), .val (.double c85_z13), .second, .val (.double c94_z13), .second, .unset, .unset, .unset] [(.int (1 : Int32))])) _
      refine XS.goto X13.here hx rfl (pc0 := 113) (pc' := 133) rfl (hb hby at_113) (by decide) (by decide) ?_
      show Steps p.tables e below (T13.setTop (mkF m 133 #[.val (.int p0), .val (.int p1), .val (.int p2), .val (.int p3), .val (.int z6), .val (.double z15), .second, .val (.ref b1), .val (.ref b5), .val (.double z54), .second, .val (.int (1 : Int32)), .val (.double c85_z13), .second, .val (.double c94_z13), .second, .unset, .unset, .unset] [(.int (1 : Int32))])) _
      refine XS.istore X13.here hx rfl (hb hby at_133) rfl (l' := #[.val (.int p0), .val (.int p1), .val (.int p2), .val (.int p3), .val (.int z6), .val (.double z15), .second, .val (.ref b1), .val (.ref b5), .val (.double z54), .second, .val (.int (1 : Int32)), .val (.double c85_z13), .second, .val (.double c94_z13), .second, .val (.int (1 : Int32)), .unset, .unset]) rfl ?_
      show Steps p.tables e below (T13.setTop (mkF m 135 #[.val (.int p0), .val (.int p1), .val (.int p2), .val (.int p3), .val (.int z6), .val (.double z15), .second, .val (.ref b1), .val (.ref b5), .val (.double z54), .second, .val (.int (1 : Int32)), .val (.double c85_z13), .second, .val (.double c94_z13), .second, .val (.int (1 : Int32)), .unset, .unset] [])) _
      refine XS.iloadN X13.here hx rfl (hb hby at_135) rfl ?_
      exact k
    by_cases hb136 : (0 : Int32) < p2
    · skip
      obtain ⟨z142, hz142⟩ : ∃ z : Int32, cmpValue (FP.dcmp c85_z13 FP.dconst0) .l = z := ⟨_, rfl⟩
      obtain ⟨z190, hz190⟩ : ∃ z : UInt64, FP.i2d p2 = z := ⟨_, rfl⟩
      obtain ⟨c191_z4, hc191_z4⟩ : ∃ z : UInt64, FP.ddiv z190 (4652007308841189376 : UInt64) = z := ⟨_, rfl⟩
      obtain ⟨c191_z9, hc191_z9⟩ : ∃ z : UInt64, FP.ddiv c191_z4 z38 = z := ⟨_, rfl⟩
      obtain ⟨c191_z13, hc191_z13⟩ : ∃ z : UInt64, FP.dmul c191_z9 (4660134898793709568 : UInt64) = z := ⟨_, rfl⟩
      obtain ⟨z197, hz197⟩ : ∃ z : UInt64, FP.dmul c191_z13 (4611686018427387904 : UInt64) = z := ⟨_, rfl⟩
      obtain ⟨z200, hz200⟩ : ∃ z : Int32, cmpValue (FP.dcmp z197 c85_z13) .l = z := ⟨_, rfl⟩
      have br143 : 0 < z142 := by rw [← hz142, (Jvm.OwnF.cmpv_V F85 Jvm.OwnF.DV_0.1 .l).2.2 (by rw [show Jvm.OwnF.V FP.dconst0 = 0 by rw [Jvm.OwnF.DV_0.2.2, Int.zero_mul]]; exact Sp (by rw [Int32.lt_iff_toInt_lt] at hb136; exact hb136))]; decide
      obtain ⟨c191_nn4, c191_nn9, c191_nn13, F191, -⟩ := sec (show 1 ≤ 2 * z6.toInt ∧ 2 * z6.toInt ≤ 8192 by omega) dv2 (by rw [← hz190, hz84]; exact da.1) (by rw [← hz190, hz84]; exact ba) hc191_z4 hc191_z9 hc191_z13
      obtain ⟨nn197, br201⟩ := half bK dv dv2 hz84 hc85_z4 hc85_z9 hc85_z13 (by rw [← hz84, hz190]; exact hc191_z4) hc191_z9 hc191_z13 hz197 hz200
      obtain ⟨cq24, kq24, q24a, q24b, q24c⟩ := isOf hZ e13 Q7_0
      obtain ⟨_, _, ⟨T24, L24, k24, n24⟩, -, X24, ⟨Lc24, hQ24, ql24, qy24, qz24⟩, st24⟩ := X13.virtualBack hx (y := (⟨"com/example/fleetwave/fleetwave/model/DrivingSpeed", "seconds", "(D)D"⟩ : MethodName)) (z := (⟨"com/example/fleetwave/fleetwave/model/DrivingSpeed", "seconds", "(D)D"⟩ : MethodName)) hown (mvT hZ (hw _ (List.mem_of_getElem? (i := 28) rfl))) (mvT hZ (hw _ (List.mem_of_getElem? (i := 29) rfl))) (notFace_of_selects (args := #[]) (mvT hZ (hw _ (List.mem_of_getElem? (i := 31) rfl)))) (mvT hZ (hw _ (List.mem_of_getElem? (i := 31) rfl))) (mvT hZ (hw _ (List.mem_of_getElem? (i := 30) rfl))) (by decide) (backOf (W := 0) (rm6 l Z a0 hw [] b5 z190 z38 c191_z4 c191_z9 c191_z13 T7.heap n0 (Nat.le_trans (Nat.le_trans (Nat.le_trans (Nat.le_trans Z0 E1.1) K3q.1) E5.1) K7q.1) Q7_1 hc191_z4 hc191_z9 hc191_z13 c191_nn4 c191_nn9 c191_nn13) hZ (hw _ (List.mem_of_getElem? (i := 32) rfl)) (hw _ (List.mem_of_getElem? (i := 3) rfl)) (by decide) (by decide)) q24a q24c (g := (mkF m 191 #[.val (.int p0), .val (.int p1), .val (.int p2), .val (.int p3), .val (.int z6), .val (.double z15), .second, .val (.ref b1), .val (.ref b5), .val (.double z54), .second, .val (.int (1 : Int32)), .val (.double c85_z13), .second, .val (.double c94_z13), .second, .val (.int (1 : Int32)), .val (.int (1 : Int32)), .unset] [(.double z190), (.ref b5)])) rfl (by rw [hml]; rfl) (Steps.refl _) (argsL := [(.double z190)]) (rest := []) (lenOf pd_0 rfl) rfl (by show 2 * 0 + _ ≤ _; exact Nat.le_of_eq rfl) (hb hby at_191) (fun _ _ => ⟨rfl, e13, (by decide : 2 + 0 ≤ _), (by decide : 2 + 0 ≤ _)⟩)
      dsimp only [Pt.U, Pt.locs, Pt.cells, Pt.slots] at X24 ql24 qy24 qz24 st24 hQ24
      subst ql24 qy24 qz24
      obtain ⟨rfl, N24q, e24⟩ := hQ24
      have N24 := Fr.app N13 N24q
      have c25 : ∀ t, Steps p.tables e below (T24.setTop (mkF m 236 #[.val (.int p0), .val (.int p1), .val (.int p2), .val (.int p3), .val (.int z6), .val (.double z15), .second, .val (.ref b1), .val (.ref b5), .val (.double z54), .second, .val (.int (1 : Int32)), .val (.double c85_z13), .second, .val (.double c94_z13), .second, .val (.int (1 : Int32)), .val (.int (1 : Int32)), .val (.int (1 : Int32))] [(.int (1 : Int32))])) t → Steps p.tables e below (s₁.setTop (entryFrame m #[(.int p0), (.int p1), (.int p2), (.int p3)] maxLocals)) t := by
        intro t k
        refine c23 t ?_
        show Steps p.tables e below (T13.setTop (mkF m 136 #[.val (.int p0), .val (.int p1), .val (.int p2), .val (.int p3), .val (.int z6), .val (.double z15), .second, .val (.ref b1), .val (.ref b5), .val (.double z54), .second, .val (.int (1 : Int32)), .val (.double c85_z13), .second, .val (.double c94_z13), .second, .val (.int (1 : Int32)), .unset, .unset] [(.int p2)])) _
        refine XS.ifNo X13.here hx rfl (hb hby at_136) rfl (Jvm.Free.XT.i0_le_f hb136) ?_
        show Steps p.tables e below (T13.setTop (mkF m 139 #[.val (.int p0), .val (.int p1), .val (.int p2), .val (.int p3), .val (.int z6), .val (.double z15), .second, .val (.ref b1), .val (.ref b5), .val (.double z54), .second, .val (.int (1 : Int32)), .val (.double c85_z13), .second, .val (.double c94_z13), .second, .val (.int (1 : Int32)), .unset, .unset] [])) _
        refine XS.dload X13.here hx rfl (hb hby at_139) rfl ?_
        show Steps p.tables e below (T13.setTop (mkF m 141 #[.val (.int p0), .val (.int p1), .val (.int p2), .val (.int p3), .val (.int z6), .val (.double z15), .second, .val (.ref b1), .val (.ref b5), .val (.double z54), .second, .val (.int (1 : Int32)), .val (.double c85_z13), .second, .val (.double c94_z13), .second, .val (.int (1 : Int32)), .unset, .unset] [(.double c85_z13)])) _
        refine XS.dconst0 X13.here hx rfl (hb hby at_141) (v := FP.dconst0) rfl ?_
        show Steps p.tables e below (T13.setTop (mkF m 142 #[.val (.int p0), .val (.int p1), .val (.int p2), .val (.int p3), .val (.int z6), .val (.double z15), .second, .val (.ref b1), .val (.ref b5), .val (.double z54), .second, .val (.int (1 : Int32)), .val (.double c85_z13), .second, .val (.double c94_z13), .second, .val (.int (1 : Int32)), .unset, .unset] [(.double FP.dconst0), (.double c85_z13)])) _
        refine XS.dcmpS X13.here hx rfl (hb hby at_142) rfl hz142 ?_
        show Steps p.tables e below (T13.setTop (mkF m 143 #[.val (.int p0), .val (.int p1), .val (.int p2), .val (.int p3), .val (.int z6), .val (.double z15), .second, .val (.ref b1), .val (.ref b5), .val (.double z54), .second, .val (.int (1 : Int32)), .val (.double c85_z13), .second, .val (.double c94_z13), .second, .val (.int (1 : Int32)), .unset, .unset] [(.int z142)])) _
        refine XS.ifNo X13.here hx rfl (hb hby at_143) rfl (Jvm.Free.XT.i0_le_f br143) ?_
        show Steps p.tables e below (T13.setTop (mkF m 146 #[.val (.int p0), .val (.int p1), .val (.int p2), .val (.int p3), .val (.int z6), .val (.double z15), .second, .val (.ref b1), .val (.ref b5), .val (.double z54), .second, .val (.int (1 : Int32)), .val (.double c85_z13), .second, .val (.double c94_z13), .second, .val (.int (1 : Int32)), .unset, .unset] [])) _
        refine XS.iconst X13.here hx rfl (hb hby at_146) ?_
        show Steps p.tables e below (T13.setTop (mkF m 147 #[.val (.int p0), .val (.int p1), .val (.int p2), .val (.int p3), .val (.int z6), .val (.double z15), .second, .val (.ref b1), .val (.ref b5), .val (.double z54), .second, .val (.int (1 : Int32)), .val (.double c85_z13), .second, .val (.double c94_z13), .second, .val (.int (1 : Int32)), .unset, .unset] [(.int (1 : Int32))])) _
        refine XS.goto X13.here hx rfl (pc0 := 147) (pc' := 185) rfl (hb hby at_147) (by decide) (by decide) ?_
        show Steps p.tables e below (T13.setTop (mkF m 185 #[.val (.int p0), .val (.int p1), .val (.int p2), .val (.int p3), .val (.int z6), .val (.double z15), .second, .val (.ref b1), .val (.ref b5), .val (.double z54), .second, .val (.int (1 : Int32)), .val (.double c85_z13), .second, .val (.double c94_z13), .second, .val (.int (1 : Int32)), .unset, .unset] [(.int (1 : Int32))])) _
        refine XS.istore X13.here hx rfl (hb hby at_185) rfl (l' := #[.val (.int p0), .val (.int p1), .val (.int p2), .val (.int p3), .val (.int z6), .val (.double z15), .second, .val (.ref b1), .val (.ref b5), .val (.double z54), .second, .val (.int (1 : Int32)), .val (.double c85_z13), .second, .val (.double c94_z13), .second, .val (.int (1 : Int32)), .val (.int (1 : Int32)), .unset]) rfl ?_
        show Steps p.tables e below (T13.setTop (mkF m 187 #[.val (.int p0), .val (.int p1), .val (.int p2), .val (.int p3), .val (.int z6), .val (.double z15), .second, .val (.ref b1), .val (.ref b5), .val (.double z54), .second, .val (.int (1 : Int32)), .val (.double c85_z13), .second, .val (.double c94_z13), .second, .val (.int (1 : Int32)), .val (.int (1 : Int32)), .unset] [])) _
        refine XS.aload X13.here hx rfl (hb hby at_187) rfl rfl ?_
        show Steps p.tables e below (T13.setTop (mkF m 189 #[.val (.int p0), .val (.int p1), .val (.int p2), .val (.int p3), .val (.int z6), .val (.double z15), .second, .val (.ref b1), .val (.ref b5), .val (.double z54), .second, .val (.int (1 : Int32)), .val (.double c85_z13), .second, .val (.double c94_z13), .second, .val (.int (1 : Int32)), .val (.int (1 : Int32)), .unset] [(.ref b5)])) _
        refine XS.iloadN X13.here hx rfl (hb hby at_189) rfl ?_
        show Steps p.tables e below (T13.setTop (mkF m 190 #[.val (.int p0), .val (.int p1), .val (.int p2), .val (.int p3), .val (.int z6), .val (.double z15), .second, .val (.ref b1), .val (.ref b5), .val (.double z54), .second, .val (.int (1 : Int32)), .val (.double c85_z13), .second, .val (.double c94_z13), .second, .val (.int (1 : Int32)), .val (.int (1 : Int32)), .unset] [(.int p2), (.ref b5)])) _
        refine XS.i2dS X13.here hx rfl (hb hby at_190) rfl hz190 ?_
        show Steps p.tables e below (T13.setTop (mkF m 191 #[.val (.int p0), .val (.int p1), .val (.int p2), .val (.int p3), .val (.int z6), .val (.double z15), .second, .val (.ref b1), .val (.ref b5), .val (.double z54), .second, .val (.int (1 : Int32)), .val (.double c85_z13), .second, .val (.double c94_z13), .second, .val (.int (1 : Int32)), .val (.int (1 : Int32)), .unset] [(.double z190), (.ref b5)])) _
        refine st24.trans ?_
        show Steps p.tables e below (T24.setTop (mkF m 194 #[.val (.int p0), .val (.int p1), .val (.int p2), .val (.int p3), .val (.int z6), .val (.double z15), .second, .val (.ref b1), .val (.ref b5), .val (.double z54), .second, .val (.int (1 : Int32)), .val (.double c85_z13), .second, .val (.double c94_z13), .second, .val (.int (1 : Int32)), .val (.int (1 : Int32)), .unset] [(.double c191_z13)])) _
        refine X24.ldc2DoubleC hx hown (mvT hZ (hw _ (List.mem_of_getElem? (i := 26) rfl))) (g := (mkF m 194 #[.val (.int p0), .val (.int p1), .val (.int p2), .val (.int p3), .val (.int z6), .val (.double z15), .second, .val (.ref b1), .val (.ref b5), .val (.double z54), .second, .val (.int (1 : Int32)), .val (.double c85_z13), .second, .val (.double c94_z13), .second, .val (.int (1 : Int32)), .val (.int (1 : Int32)), .unset] [(.double c191_z13)])) rfl (hb hby at_194) _ ?_
        show Steps p.tables e below (T24.setTop (mkF m 197 #[.val (.int p0), .val (.int p1), .val (.int p2), .val (.int p3), .val (.int z6), .val (.double z15), .second, .val (.ref b1), .val (.ref b5), .val (.double z54), .second, .val (.int (1 : Int32)), .val (.double c85_z13), .second, .val (.double c94_z13), .second, .val (.int (1 : Int32)), .val (.int (1 : Int32)), .unset] [(.double (4611686018427387904 : UInt64)), (.double c191_z13)])) _
        refine Jvm.OwnK.dmul X24.here hx rfl (hb hby at_197) rfl hz197 nn197 ?_
        show Steps p.tables e below (T24.setTop (mkF m 198 #[.val (.int p0), .val (.int p1), .val (.int p2), .val (.int p3), .val (.int z6), .val (.double z15), .second, .val (.ref b1), .val (.ref b5), .val (.double z54), .second, .val (.int (1 : Int32)), .val (.double c85_z13), .second, .val (.double c94_z13), .second, .val (.int (1 : Int32)), .val (.int (1 : Int32)), .unset] [(.double z197)])) _
        refine XS.dload X24.here hx rfl (hb hby at_198) rfl ?_
        show Steps p.tables e below (T24.setTop (mkF m 200 #[.val (.int p0), .val (.int p1), .val (.int p2), .val (.int p3), .val (.int z6), .val (.double z15), .second, .val (.ref b1), .val (.ref b5), .val (.double z54), .second, .val (.int (1 : Int32)), .val (.double c85_z13), .second, .val (.double c94_z13), .second, .val (.int (1 : Int32)), .val (.int (1 : Int32)), .unset] [(.double c85_z13), (.double z197)])) _
        refine XS.dcmpS X24.here hx rfl (hb hby at_200) rfl hz200 ?_
        show Steps p.tables e below (T24.setTop (mkF m 201 #[.val (.int p0), .val (.int p1), .val (.int p2), .val (.int p3), .val (.int z6), .val (.double z15), .second, .val (.ref b1), .val (.ref b5), .val (.double z54), .second, .val (.int (1 : Int32)), .val (.double c85_z13), .second, .val (.double c94_z13), .second, .val (.int (1 : Int32)), .val (.int (1 : Int32)), .unset] [(.int z200)])) _
        refine XS.ifNo X24.here hx rfl (hb hby at_201) rfl (Jvm.Free.XT.i0_ne_f br201) ?_
        show Steps p.tables e below (T24.setTop (mkF m 204 #[.val (.int p0), .val (.int p1), .val (.int p2), .val (.int p3), .val (.int z6), .val (.double z15), .second, .val (.ref b1), .val (.ref b5), .val (.double z54), .second, .val (.int (1 : Int32)), .val (.double c85_z13), .second, .val (.double c94_z13), .second, .val (.int (1 : Int32)), .val (.int (1 : Int32)), .unset] [])) _
        refine XS.iconst X24.here hx rfl (hb hby at_204) ?_
        show Steps p.tables e below (T24.setTop (mkF m 205 #[.val (.int p0), .val (.int p1), .val (.int p2), .val (.int p3), .val (.int z6), .val (.double z15), .second, .val (.ref b1), .val (.ref b5), .val (.double z54), .second, .val (.int (1 : Int32)), .val (.double c85_z13), .second, .val (.double c94_z13), .second, .val (.int (1 : Int32)), .val (.int (1 : Int32)), .unset] [(.int (1 : Int32))])) _
        refine XS.goto X24.here hx rfl (pc0 := 205) (pc' := 209) rfl (hb hby at_205) (by decide) (by decide) ?_
        show Steps p.tables e below (T24.setTop (mkF m 209 #[.val (.int p0), .val (.int p1), .val (.int p2), .val (.int p3), .val (.int z6), .val (.double z15), .second, .val (.ref b1), .val (.ref b5), .val (.double z54), .second, .val (.int (1 : Int32)), .val (.double c85_z13), .second, .val (.double c94_z13), .second, .val (.int (1 : Int32)), .val (.int (1 : Int32)), .unset] [(.int (1 : Int32))])) _
        refine XS.istore X24.here hx rfl (hb hby at_209) rfl (l' := #[.val (.int p0), .val (.int p1), .val (.int p2), .val (.int p3), .val (.int z6), .val (.double z15), .second, .val (.ref b1), .val (.ref b5), .val (.double z54), .second, .val (.int (1 : Int32)), .val (.double c85_z13), .second, .val (.double c94_z13), .second, .val (.int (1 : Int32)), .val (.int (1 : Int32)), .val (.int (1 : Int32))]) rfl ?_
        show Steps p.tables e below (T24.setTop (mkF m 211 #[.val (.int p0), .val (.int p1), .val (.int p2), .val (.int p3), .val (.int z6), .val (.double z15), .second, .val (.ref b1), .val (.ref b5), .val (.double z54), .second, .val (.int (1 : Int32)), .val (.double c85_z13), .second, .val (.double c94_z13), .second, .val (.int (1 : Int32)), .val (.int (1 : Int32)), .val (.int (1 : Int32))] [])) _
        refine XS.iload X24.here hx rfl (hb hby at_211) rfl ?_
        show Steps p.tables e below (T24.setTop (mkF m 213 #[.val (.int p0), .val (.int p1), .val (.int p2), .val (.int p3), .val (.int z6), .val (.double z15), .second, .val (.ref b1), .val (.ref b5), .val (.double z54), .second, .val (.int (1 : Int32)), .val (.double c85_z13), .second, .val (.double c94_z13), .second, .val (.int (1 : Int32)), .val (.int (1 : Int32)), .val (.int (1 : Int32))] [(.int (1 : Int32))])) _
        refine XS.ifNo X24.here hx rfl (hb hby at_213) rfl (Jvm.Free.XT.i0_eq_f (by decide)) ?_
        show Steps p.tables e below (T24.setTop (mkF m 216 #[.val (.int p0), .val (.int p1), .val (.int p2), .val (.int p3), .val (.int z6), .val (.double z15), .second, .val (.ref b1), .val (.ref b5), .val (.double z54), .second, .val (.int (1 : Int32)), .val (.double c85_z13), .second, .val (.double c94_z13), .second, .val (.int (1 : Int32)), .val (.int (1 : Int32)), .val (.int (1 : Int32))] [])) _
        refine XS.iload X24.here hx rfl (hb hby at_216) rfl ?_
        show Steps p.tables e below (T24.setTop (mkF m 218 #[.val (.int p0), .val (.int p1), .val (.int p2), .val (.int p3), .val (.int z6), .val (.double z15), .second, .val (.ref b1), .val (.ref b5), .val (.double z54), .second, .val (.int (1 : Int32)), .val (.double c85_z13), .second, .val (.double c94_z13), .second, .val (.int (1 : Int32)), .val (.int (1 : Int32)), .val (.int (1 : Int32))] [(.int (1 : Int32))])) _
        refine XS.ifNo X24.here hx rfl (hb hby at_218) rfl (Jvm.Free.XT.i0_eq_f (by decide)) ?_
        show Steps p.tables e below (T24.setTop (mkF m 221 #[.val (.int p0), .val (.int p1), .val (.int p2), .val (.int p3), .val (.int z6), .val (.double z15), .second, .val (.ref b1), .val (.ref b5), .val (.double z54), .second, .val (.int (1 : Int32)), .val (.double c85_z13), .second, .val (.double c94_z13), .second, .val (.int (1 : Int32)), .val (.int (1 : Int32)), .val (.int (1 : Int32))] [])) _
        refine XS.iload X24.here hx rfl (hb hby at_221) rfl ?_
        show Steps p.tables e below (T24.setTop (mkF m 223 #[.val (.int p0), .val (.int p1), .val (.int p2), .val (.int p3), .val (.int z6), .val (.double z15), .second, .val (.ref b1), .val (.ref b5), .val (.double z54), .second, .val (.int (1 : Int32)), .val (.double c85_z13), .second, .val (.double c94_z13), .second, .val (.int (1 : Int32)), .val (.int (1 : Int32)), .val (.int (1 : Int32))] [(.int (1 : Int32))])) _
        refine XS.ifNo X24.here hx rfl (hb hby at_223) rfl (Jvm.Free.XT.i0_eq_f (by decide)) ?_
        show Steps p.tables e below (T24.setTop (mkF m 226 #[.val (.int p0), .val (.int p1), .val (.int p2), .val (.int p3), .val (.int z6), .val (.double z15), .second, .val (.ref b1), .val (.ref b5), .val (.double z54), .second, .val (.int (1 : Int32)), .val (.double c85_z13), .second, .val (.double c94_z13), .second, .val (.int (1 : Int32)), .val (.int (1 : Int32)), .val (.int (1 : Int32))] [])) _
        refine XS.iload X24.here hx rfl (hb hby at_226) rfl ?_
        show Steps p.tables e below (T24.setTop (mkF m 228 #[.val (.int p0), .val (.int p1), .val (.int p2), .val (.int p3), .val (.int z6), .val (.double z15), .second, .val (.ref b1), .val (.ref b5), .val (.double z54), .second, .val (.int (1 : Int32)), .val (.double c85_z13), .second, .val (.double c94_z13), .second, .val (.int (1 : Int32)), .val (.int (1 : Int32)), .val (.int (1 : Int32))] [(.int (1 : Int32))])) _
        refine XS.ifNo X24.here hx rfl (hb hby at_228) rfl (Jvm.Free.XT.i0_eq_f (by decide)) ?_
        show Steps p.tables e below (T24.setTop (mkF m 231 #[.val (.int p0), .val (.int p1), .val (.int p2), .val (.int p3), .val (.int z6), .val (.double z15), .second, .val (.ref b1), .val (.ref b5), .val (.double z54), .second, .val (.int (1 : Int32)), .val (.double c85_z13), .second, .val (.double c94_z13), .second, .val (.int (1 : Int32)), .val (.int (1 : Int32)), .val (.int (1 : Int32))] [])) _
        refine XS.iconst X24.here hx rfl (hb hby at_231) ?_
        show Steps p.tables e below (T24.setTop (mkF m 232 #[.val (.int p0), .val (.int p1), .val (.int p2), .val (.int p3), .val (.int z6), .val (.double z15), .second, .val (.ref b1), .val (.ref b5), .val (.double z54), .second, .val (.int (1 : Int32)), .val (.double c85_z13), .second, .val (.double c94_z13), .second, .val (.int (1 : Int32)), .val (.int (1 : Int32)), .val (.int (1 : Int32))] [(.int (1 : Int32))])) _
        refine XS.goto X24.here hx rfl (pc0 := 232) (pc' := 236) rfl (hb hby at_232) (by decide) (by decide) ?_
        exact k
      obtain ⟨fs, hr, hrun, hended, hW, hsame⟩ := X24.leave (v := some (.int (1 : Int32))) (fun h => by rw [Bd.returns] at h; cases h)
      refine ⟨_, _, c25 _ ?_, hrun, hended, _, _, rfl, ?_, ⟨_, rfl⟩, hW, hsame.mono (by decide) (by decide)⟩
      · show Steps p.tables e below (T24.setTop (mkF m 236 #[.val (.int p0), .val (.int p1), .val (.int p2), .val (.int p3), .val (.int z6), .val (.double z15), .second, .val (.ref b1), .val (.ref b5), .val (.double z54), .second, .val (.int (1 : Int32)), .val (.double c85_z13), .second, .val (.double c94_z13), .second, .val (.int (1 : Int32)), .val (.int (1 : Int32)), .val (.int (1 : Int32))] [(.int (1 : Int32))])) _
        exact retOut X24 hx Bd.returns rfl (Or.inl ⟨rfl, by simp, _, rfl⟩) (hb hby at_236) hr
      · show Q0 n0 _ T24.heap _
        rw [e24]
        exact ⟨rfl, by first | assumption | exact N0⟩
    · skip
      have c26 : ∀ t, Steps p.tables e below (T13.setTop (mkF m 155 #[.val (.int p0), .val (.int p1), .val (.int p2), .val (.int p3), .val (.int z6), .val (.double z15), .second, .val (.ref b1), .val (.ref b5), .val (.double z54), .second, .val (.int (1 : Int32)), .val (.double c85_z13), .second, .val (.double c94_z13), .second, .val (.int (1 : Int32)), .unset, .unset] [(.int p2)])) t → Steps p.tables e below (s₁.setTop (entryFrame m #[(.int p0), (.int p1), (.int p2), (.int p3)] maxLocals)) t := by
        intro t k
        refine c23 t ?_
        show Steps p.tables e below (T13.setTop (mkF m 136 #[.val (.int p0), .val (.int p1), .val (.int p2), .val (.int p3), .val (.int z6), .val (.double z15), .second, .val (.ref b1), .val (.ref b5), .val (.double z54), .second, .val (.int (1 : Int32)), .val (.double c85_z13), .second, .val (.double c94_z13), .second, .val (.int (1 : Int32)), .unset, .unset] [(.int p2)])) _
        refine XS.ifYes X13.here hx rfl (pc0 := 136) (pc' := 154) rfl (hb hby at_136) rfl (Jvm.Free.XT.i0_le_t hb136) (by decide) (by decide) ?_
        show Steps p.tables e below (T13.setTop (mkF m 154 #[.val (.int p0), .val (.int p1), .val (.int p2), .val (.int p3), .val (.int z6), .val (.double z15), .second, .val (.ref b1), .val (.ref b5), .val (.double z54), .second, .val (.int (1 : Int32)), .val (.double c85_z13), .second, .val (.double c94_z13), .second, .val (.int (1 : Int32)), .unset, .unset] [])) _
        refine XS.iloadN X13.here hx rfl (hb hby at_154) rfl ?_
        exact k
      by_cases hb155 : p2 < (0 : Int32)
      · skip
        obtain ⟨z161, hz161⟩ : ∃ z : Int32, cmpValue (FP.dcmp c85_z13 FP.dconst0) .g = z := ⟨_, rfl⟩
        obtain ⟨z190, hz190⟩ : ∃ z : UInt64, FP.i2d p2 = z := ⟨_, rfl⟩
        obtain ⟨c191_z4, hc191_z4⟩ : ∃ z : UInt64, FP.ddiv z190 (4652007308841189376 : UInt64) = z := ⟨_, rfl⟩
        obtain ⟨c191_z9, hc191_z9⟩ : ∃ z : UInt64, FP.ddiv c191_z4 z38 = z := ⟨_, rfl⟩
        obtain ⟨c191_z13, hc191_z13⟩ : ∃ z : UInt64, FP.dmul c191_z9 (4660134898793709568 : UInt64) = z := ⟨_, rfl⟩
        obtain ⟨z197, hz197⟩ : ∃ z : UInt64, FP.dmul c191_z13 (4611686018427387904 : UInt64) = z := ⟨_, rfl⟩
        obtain ⟨z200, hz200⟩ : ∃ z : Int32, cmpValue (FP.dcmp z197 c85_z13) .l = z := ⟨_, rfl⟩
        have br162 : z161 < 0 := by rw [← hz161, (Jvm.OwnF.cmpv_V F85 Jvm.OwnF.DV_0.1 .g).1 (by rw [show Jvm.OwnF.V FP.dconst0 = 0 by rw [Jvm.OwnF.DV_0.2.2, Int.zero_mul]]; exact Sn (by rw [Int32.lt_iff_toInt_lt] at hb155; exact hb155))]; decide
        obtain ⟨c191_nn4, c191_nn9, c191_nn13, F191, -⟩ := sec (show 1 ≤ 2 * z6.toInt ∧ 2 * z6.toInt ≤ 8192 by omega) dv2 (by rw [← hz190, hz84]; exact da.1) (by rw [← hz190, hz84]; exact ba) hc191_z4 hc191_z9 hc191_z13
        obtain ⟨nn197, br201⟩ := half bK dv dv2 hz84 hc85_z4 hc85_z9 hc85_z13 (by rw [← hz84, hz190]; exact hc191_z4) hc191_z9 hc191_z13 hz197 hz200
        obtain ⟨cq27, kq27, q27a, q27b, q27c⟩ := isOf hZ e13 Q7_0
        obtain ⟨_, _, ⟨T27, L27, k27, n27⟩, -, X27, ⟨Lc27, hQ27, ql27, qy27, qz27⟩, st27⟩ := X13.virtualBack hx (y := (⟨"com/example/fleetwave/fleetwave/model/DrivingSpeed", "seconds", "(D)D"⟩ : MethodName)) (z := (⟨"com/example/fleetwave/fleetwave/model/DrivingSpeed", "seconds", "(D)D"⟩ : MethodName)) hown (mvT hZ (hw _ (List.mem_of_getElem? (i := 28) rfl))) (mvT hZ (hw _ (List.mem_of_getElem? (i := 29) rfl))) (notFace_of_selects (args := #[]) (mvT hZ (hw _ (List.mem_of_getElem? (i := 31) rfl)))) (mvT hZ (hw _ (List.mem_of_getElem? (i := 31) rfl))) (mvT hZ (hw _ (List.mem_of_getElem? (i := 30) rfl))) (by decide) (backOf (W := 0) (rm6 l Z a0 hw [] b5 z190 z38 c191_z4 c191_z9 c191_z13 T7.heap n0 (Nat.le_trans (Nat.le_trans (Nat.le_trans (Nat.le_trans Z0 E1.1) K3q.1) E5.1) K7q.1) Q7_1 hc191_z4 hc191_z9 hc191_z13 c191_nn4 c191_nn9 c191_nn13) hZ (hw _ (List.mem_of_getElem? (i := 32) rfl)) (hw _ (List.mem_of_getElem? (i := 3) rfl)) (by decide) (by decide)) q27a q27c (g := (mkF m 191 #[.val (.int p0), .val (.int p1), .val (.int p2), .val (.int p3), .val (.int z6), .val (.double z15), .second, .val (.ref b1), .val (.ref b5), .val (.double z54), .second, .val (.int (1 : Int32)), .val (.double c85_z13), .second, .val (.double c94_z13), .second, .val (.int (1 : Int32)), .val (.int (1 : Int32)), .unset] [(.double z190), (.ref b5)])) rfl (by rw [hml]; rfl) (Steps.refl _) (argsL := [(.double z190)]) (rest := []) (lenOf pd_0 rfl) rfl (by show 2 * 0 + _ ≤ _; exact Nat.le_of_eq rfl) (hb hby at_191) (fun _ _ => ⟨rfl, e13, (by decide : 2 + 0 ≤ _), (by decide : 2 + 0 ≤ _)⟩)
        dsimp only [Pt.U, Pt.locs, Pt.cells, Pt.slots] at X27 ql27 qy27 qz27 st27 hQ27
        subst ql27 qy27 qz27
        obtain ⟨rfl, N27q, e27⟩ := hQ27
        have N27 := Fr.app N13 N27q
        have c28 : ∀ t, Steps p.tables e below (T27.setTop (mkF m 236 #[.val (.int p0), .val (.int p1), .val (.int p2), .val (.int p3), .val (.int z6), .val (.double z15), .second, .val (.ref b1), .val (.ref b5), .val (.double z54), .second, .val (.int (1 : Int32)), .val (.double c85_z13), .second, .val (.double c94_z13), .second, .val (.int (1 : Int32)), .val (.int (1 : Int32)), .val (.int (1 : Int32))] [(.int (1 : Int32))])) t → Steps p.tables e below (s₁.setTop (entryFrame m #[(.int p0), (.int p1), (.int p2), (.int p3)] maxLocals)) t := by
          intro t k
          refine c26 t ?_
          show Steps p.tables e below (T13.setTop (mkF m 155 #[.val (.int p0), .val (.int p1), .val (.int p2), .val (.int p3), .val (.int z6), .val (.double z15), .second, .val (.ref b1), .val (.ref b5), .val (.double z54), .second, .val (.int (1 : Int32)), .val (.double c85_z13), .second, .val (.double c94_z13), .second, .val (.int (1 : Int32)), .unset, .unset] [(.int p2)])) _
          refine XS.ifNo X13.here hx rfl (hb hby at_155) rfl (Jvm.Free.XT.i0_ge_f hb155) ?_
          show Steps p.tables e below (T13.setTop (mkF m 158 #[.val (.int p0), .val (.int p1), .val (.int p2), .val (.int p3), .val (.int z6), .val (.double z15), .second, .val (.ref b1), .val (.ref b5), .val (.double z54), .second, .val (.int (1 : Int32)), .val (.double c85_z13), .second, .val (.double c94_z13), .second, .val (.int (1 : Int32)), .unset, .unset] [])) _
          refine XS.dload X13.here hx rfl (hb hby at_158) rfl ?_
          show Steps p.tables e below (T13.setTop (mkF m 160 #[.val (.int p0), .val (.int p1), .val (.int p2), .val (.int p3), .val (.int z6), .val (.double z15), .second, .val (.ref b1), .val (.ref b5), .val (.double z54), .second, .val (.int (1 : Int32)), .val (.double c85_z13), .second, .val (.double c94_z13), .second, .val (.int (1 : Int32)), .unset, .unset] [(.double c85_z13)])) _
          refine XS.dconst0 X13.here hx rfl (hb hby at_160) (v := FP.dconst0) rfl ?_
          show Steps p.tables e below (T13.setTop (mkF m 161 #[.val (.int p0), .val (.int p1), .val (.int p2), .val (.int p3), .val (.int z6), .val (.double z15), .second, .val (.ref b1), .val (.ref b5), .val (.double z54), .second, .val (.int (1 : Int32)), .val (.double c85_z13), .second, .val (.double c94_z13), .second, .val (.int (1 : Int32)), .unset, .unset] [(.double FP.dconst0), (.double c85_z13)])) _
          refine XS.dcmpS X13.here hx rfl (hb hby at_161) rfl hz161 ?_
          show Steps p.tables e below (T13.setTop (mkF m 162 #[.val (.int p0), .val (.int p1), .val (.int p2), .val (.int p3), .val (.int z6), .val (.double z15), .second, .val (.ref b1), .val (.ref b5), .val (.double z54), .second, .val (.int (1 : Int32)), .val (.double c85_z13), .second, .val (.double c94_z13), .second, .val (.int (1 : Int32)), .unset, .unset] [(.int z161)])) _
          refine XS.ifNo X13.here hx rfl (hb hby at_162) rfl (Jvm.Free.XT.i0_ge_f br162) ?_
          show Steps p.tables e below (T13.setTop (mkF m 165 #[.val (.int p0), .val (.int p1), .val (.int p2), .val (.int p3), .val (.int z6), .val (.double z15), .second, .val (.ref b1), .val (.ref b5), .val (.double z54), .second, .val (.int (1 : Int32)), .val (.double c85_z13), .second, .val (.double c94_z13), .second, .val (.int (1 : Int32)), .unset, .unset] [])) _
          refine XS.iconst X13.here hx rfl (hb hby at_165) ?_
          show Steps p.tables e below (T13.setTop (mkF m 166 #[.val (.int p0), .val (.int p1), .val (.int p2), .val (.int p3), .val (.int z6), .val (.double z15), .second, .val (.ref b1), .val (.ref b5), .val (.double z54), .second, .val (.int (1 : Int32)), .val (.double c85_z13), .second, .val (.double c94_z13), .second, .val (.int (1 : Int32)), .unset, .unset] [(.int (1 : Int32))])) _
          refine XS.goto X13.here hx rfl (pc0 := 166) (pc' := 185) rfl (hb hby at_166) (by decide) (by decide) ?_
          show Steps p.tables e below (T13.setTop (mkF m 185 #[.val (.int p0), .val (.int p1), .val (.int p2), .val (.int p3), .val (.int z6), .val (.double z15), .second, .val (.ref b1), .val (.ref b5), .val (.double z54), .second, .val (.int (1 : Int32)), .val (.double c85_z13), .second, .val (.double c94_z13), .second, .val (.int (1 : Int32)), .unset, .unset] [(.int (1 : Int32))])) _
          refine XS.istore X13.here hx rfl (hb hby at_185) rfl (l' := #[.val (.int p0), .val (.int p1), .val (.int p2), .val (.int p3), .val (.int z6), .val (.double z15), .second, .val (.ref b1), .val (.ref b5), .val (.double z54), .second, .val (.int (1 : Int32)), .val (.double c85_z13), .second, .val (.double c94_z13), .second, .val (.int (1 : Int32)), .val (.int (1 : Int32)), .unset]) rfl ?_
          show Steps p.tables e below (T13.setTop (mkF m 187 #[.val (.int p0), .val (.int p1), .val (.int p2), .val (.int p3), .val (.int z6), .val (.double z15), .second, .val (.ref b1), .val (.ref b5), .val (.double z54), .second, .val (.int (1 : Int32)), .val (.double c85_z13), .second, .val (.double c94_z13), .second, .val (.int (1 : Int32)), .val (.int (1 : Int32)), .unset] [])) _
          refine XS.aload X13.here hx rfl (hb hby at_187) rfl rfl ?_
          show Steps p.tables e below (T13.setTop (mkF m 189 #[.val (.int p0), .val (.int p1), .val (.int p2), .val (.int p3), .val (.int z6), .val (.double z15), .second, .val (.ref b1), .val (.ref b5), .val (.double z54), .second, .val (.int (1 : Int32)), .val (.double c85_z13), .second, .val (.double c94_z13), .second, .val (.int (1 : Int32)), .val (.int (1 : Int32)), .unset] [(.ref b5)])) _
          refine XS.iloadN X13.here hx rfl (hb hby at_189) rfl ?_
          show Steps p.tables e below (T13.setTop (mkF m 190 #[.val (.int p0), .val (.int p1), .val (.int p2), .val (.int p3), .val (.int z6), .val (.double z15), .second, .val (.ref b1), .val (.ref b5), .val (.double z54), .second, .val (.int (1 : Int32)), .val (.double c85_z13), .second, .val (.double c94_z13), .second, .val (.int (1 : Int32)), .val (.int (1 : Int32)), .unset] [(.int p2), (.ref b5)])) _
          refine XS.i2dS X13.here hx rfl (hb hby at_190) rfl hz190 ?_
          show Steps p.tables e below (T13.setTop (mkF m 191 #[.val (.int p0), .val (.int p1), .val (.int p2), .val (.int p3), .val (.int z6), .val (.double z15), .second, .val (.ref b1), .val (.ref b5), .val (.double z54), .second, .val (.int (1 : Int32)), .val (.double c85_z13), .second, .val (.double c94_z13), .second, .val (.int (1 : Int32)), .val (.int (1 : Int32)), .unset] [(.double z190), (.ref b5)])) _
          refine st27.trans ?_
          show Steps p.tables e below (T27.setTop (mkF m 194 #[.val (.int p0), .val (.int p1), .val (.int p2), .val (.int p3), .val (.int z6), .val (.double z15), .second, .val (.ref b1), .val (.ref b5), .val (.double z54), .second, .val (.int (1 : Int32)), .val (.double c85_z13), .second, .val (.double c94_z13), .second, .val (.int (1 : Int32)), .val (.int (1 : Int32)), .unset] [(.double c191_z13)])) _
          refine X27.ldc2DoubleC hx hown (mvT hZ (hw _ (List.mem_of_getElem? (i := 26) rfl))) (g := (mkF m 194 #[.val (.int p0), .val (.int p1), .val (.int p2), .val (.int p3), .val (.int z6), .val (.double z15), .second, .val (.ref b1), .val (.ref b5), .val (.double z54), .second, .val (.int (1 : Int32)), .val (.double c85_z13), .second, .val (.double c94_z13), .second, .val (.int (1 : Int32)), .val (.int (1 : Int32)), .unset] [(.double c191_z13)])) rfl (hb hby at_194) _ ?_
          show Steps p.tables e below (T27.setTop (mkF m 197 #[.val (.int p0), .val (.int p1), .val (.int p2), .val (.int p3), .val (.int z6), .val (.double z15), .second, .val (.ref b1), .val (.ref b5), .val (.double z54), .second, .val (.int (1 : Int32)), .val (.double c85_z13), .second, .val (.double c94_z13), .second, .val (.int (1 : Int32)), .val (.int (1 : Int32)), .unset] [(.double (4611686018427387904 : UInt64)), (.double c191_z13)])) _
          refine Jvm.OwnK.dmul X27.here hx rfl (hb hby at_197) rfl hz197 nn197 ?_
          show Steps p.tables e below (T27.setTop (mkF m 198 #[.val (.int p0), .val (.int p1), .val (.int p2), .val (.int p3), .val (.int z6), .val (.double z15), .second, .val (.ref b1), .val (.ref b5), .val (.double z54), .second, .val (.int (1 : Int32)), .val (.double c85_z13), .second, .val (.double c94_z13), .second, .val (.int (1 : Int32)), .val (.int (1 : Int32)), .unset] [(.double z197)])) _
          refine XS.dload X27.here hx rfl (hb hby at_198) rfl ?_
          show Steps p.tables e below (T27.setTop (mkF m 200 #[.val (.int p0), .val (.int p1), .val (.int p2), .val (.int p3), .val (.int z6), .val (.double z15), .second, .val (.ref b1), .val (.ref b5), .val (.double z54), .second, .val (.int (1 : Int32)), .val (.double c85_z13), .second, .val (.double c94_z13), .second, .val (.int (1 : Int32)), .val (.int (1 : Int32)), .unset] [(.double c85_z13), (.double z197)])) _
          refine XS.dcmpS X27.here hx rfl (hb hby at_200) rfl hz200 ?_
          show Steps p.tables e below (T27.setTop (mkF m 201 #[.val (.int p0), .val (.int p1), .val (.int p2), .val (.int p3), .val (.int z6), .val (.double z15), .second, .val (.ref b1), .val (.ref b5), .val (.double z54), .second, .val (.int (1 : Int32)), .val (.double c85_z13), .second, .val (.double c94_z13), .second, .val (.int (1 : Int32)), .val (.int (1 : Int32)), .unset] [(.int z200)])) _
          refine XS.ifNo X27.here hx rfl (hb hby at_201) rfl (Jvm.Free.XT.i0_ne_f br201) ?_
          show Steps p.tables e below (T27.setTop (mkF m 204 #[.val (.int p0), .val (.int p1), .val (.int p2), .val (.int p3), .val (.int z6), .val (.double z15), .second, .val (.ref b1), .val (.ref b5), .val (.double z54), .second, .val (.int (1 : Int32)), .val (.double c85_z13), .second, .val (.double c94_z13), .second, .val (.int (1 : Int32)), .val (.int (1 : Int32)), .unset] [])) _
          refine XS.iconst X27.here hx rfl (hb hby at_204) ?_
          show Steps p.tables e below (T27.setTop (mkF m 205 #[.val (.int p0), .val (.int p1), .val (.int p2), .val (.int p3), .val (.int z6), .val (.double z15), .second, .val (.ref b1), .val (.ref b5), .val (.double z54), .second, .val (.int (1 : Int32)), .val (.double c85_z13), .second, .val (.double c94_z13), .second, .val (.int (1 : Int32)), .val (.int (1 : Int32)), .unset] [(.int (1 : Int32))])) _
          refine XS.goto X27.here hx rfl (pc0 := 205) (pc' := 209) rfl (hb hby at_205) (by decide) (by decide) ?_
          show Steps p.tables e below (T27.setTop (mkF m 209 #[.val (.int p0), .val (.int p1), .val (.int p2), .val (.int p3), .val (.int z6), .val (.double z15), .second, .val (.ref b1), .val (.ref b5), .val (.double z54), .second, .val (.int (1 : Int32)), .val (.double c85_z13), .second, .val (.double c94_z13), .second, .val (.int (1 : Int32)), .val (.int (1 : Int32)), .unset] [(.int (1 : Int32))])) _
          refine XS.istore X27.here hx rfl (hb hby at_209) rfl (l' := #[.val (.int p0), .val (.int p1), .val (.int p2), .val (.int p3), .val (.int z6), .val (.double z15), .second, .val (.ref b1), .val (.ref b5), .val (.double z54), .second, .val (.int (1 : Int32)), .val (.double c85_z13), .second, .val (.double c94_z13), .second, .val (.int (1 : Int32)), .val (.int (1 : Int32)), .val (.int (1 : Int32))]) rfl ?_
          show Steps p.tables e below (T27.setTop (mkF m 211 #[.val (.int p0), .val (.int p1), .val (.int p2), .val (.int p3), .val (.int z6), .val (.double z15), .second, .val (.ref b1), .val (.ref b5), .val (.double z54), .second, .val (.int (1 : Int32)), .val (.double c85_z13), .second, .val (.double c94_z13), .second, .val (.int (1 : Int32)), .val (.int (1 : Int32)), .val (.int (1 : Int32))] [])) _
          refine XS.iload X27.here hx rfl (hb hby at_211) rfl ?_
          show Steps p.tables e below (T27.setTop (mkF m 213 #[.val (.int p0), .val (.int p1), .val (.int p2), .val (.int p3), .val (.int z6), .val (.double z15), .second, .val (.ref b1), .val (.ref b5), .val (.double z54), .second, .val (.int (1 : Int32)), .val (.double c85_z13), .second, .val (.double c94_z13), .second, .val (.int (1 : Int32)), .val (.int (1 : Int32)), .val (.int (1 : Int32))] [(.int (1 : Int32))])) _
          refine XS.ifNo X27.here hx rfl (hb hby at_213) rfl (Jvm.Free.XT.i0_eq_f (by decide)) ?_
          show Steps p.tables e below (T27.setTop (mkF m 216 #[.val (.int p0), .val (.int p1), .val (.int p2), .val (.int p3), .val (.int z6), .val (.double z15), .second, .val (.ref b1), .val (.ref b5), .val (.double z54), .second, .val (.int (1 : Int32)), .val (.double c85_z13), .second, .val (.double c94_z13), .second, .val (.int (1 : Int32)), .val (.int (1 : Int32)), .val (.int (1 : Int32))] [])) _
          refine XS.iload X27.here hx rfl (hb hby at_216) rfl ?_
          show Steps p.tables e below (T27.setTop (mkF m 218 #[.val (.int p0), .val (.int p1), .val (.int p2), .val (.int p3), .val (.int z6), .val (.double z15), .second, .val (.ref b1), .val (.ref b5), .val (.double z54), .second, .val (.int (1 : Int32)), .val (.double c85_z13), .second, .val (.double c94_z13), .second, .val (.int (1 : Int32)), .val (.int (1 : Int32)), .val (.int (1 : Int32))] [(.int (1 : Int32))])) _
          refine XS.ifNo X27.here hx rfl (hb hby at_218) rfl (Jvm.Free.XT.i0_eq_f (by decide)) ?_
          show Steps p.tables e below (T27.setTop (mkF m 221 #[.val (.int p0), .val (.int p1), .val (.int p2), .val (.int p3), .val (.int z6), .val (.double z15), .second, .val (.ref b1), .val (.ref b5), .val (.double z54), .second, .val (.int (1 : Int32)), .val (.double c85_z13), .second, .val (.double c94_z13), .second, .val (.int (1 : Int32)), .val (.int (1 : Int32)), .val (.int (1 : Int32))] [])) _
          refine XS.iload X27.here hx rfl (hb hby at_221) rfl ?_
          show Steps p.tables e below (T27.setTop (mkF m 223 #[.val (.int p0), .val (.int p1), .val (.int p2), .val (.int p3), .val (.int z6), .val (.double z15), .second, .val (.ref b1), .val (.ref b5), .val (.double z54), .second, .val (.int (1 : Int32)), .val (.double c85_z13), .second, .val (.double c94_z13), .second, .val (.int (1 : Int32)), .val (.int (1 : Int32)), .val (.int (1 : Int32))] [(.int (1 : Int32))])) _
          refine XS.ifNo X27.here hx rfl (hb hby at_223) rfl (Jvm.Free.XT.i0_eq_f (by decide)) ?_
          show Steps p.tables e below (T27.setTop (mkF m 226 #[.val (.int p0), .val (.int p1), .val (.int p2), .val (.int p3), .val (.int z6), .val (.double z15), .second, .val (.ref b1), .val (.ref b5), .val (.double z54), .second, .val (.int (1 : Int32)), .val (.double c85_z13), .second, .val (.double c94_z13), .second, .val (.int (1 : Int32)), .val (.int (1 : Int32)), .val (.int (1 : Int32))] [])) _
          refine XS.iload X27.here hx rfl (hb hby at_226) rfl ?_
          show Steps p.tables e below (T27.setTop (mkF m 228 #[.val (.int p0), .val (.int p1), .val (.int p2), .val (.int p3), .val (.int z6), .val (.double z15), .second, .val (.ref b1), .val (.ref b5), .val (.double z54), .second, .val (.int (1 : Int32)), .val (.double c85_z13), .second, .val (.double c94_z13), .second, .val (.int (1 : Int32)), .val (.int (1 : Int32)), .val (.int (1 : Int32))] [(.int (1 : Int32))])) _
          refine XS.ifNo X27.here hx rfl (hb hby at_228) rfl (Jvm.Free.XT.i0_eq_f (by decide)) ?_
          show Steps p.tables e below (T27.setTop (mkF m 231 #[.val (.int p0), .val (.int p1), .val (.int p2), .val (.int p3), .val (.int z6), .val (.double z15), .second, .val (.ref b1), .val (.ref b5), .val (.double z54), .second, .val (.int (1 : Int32)), .val (.double c85_z13), .second, .val (.double c94_z13), .second, .val (.int (1 : Int32)), .val (.int (1 : Int32)), .val (.int (1 : Int32))] [])) _
          refine XS.iconst X27.here hx rfl (hb hby at_231) ?_
          show Steps p.tables e below (T27.setTop (mkF m 232 #[.val (.int p0), .val (.int p1), .val (.int p2), .val (.int p3), .val (.int z6), .val (.double z15), .second, .val (.ref b1), .val (.ref b5), .val (.double z54), .second, .val (.int (1 : Int32)), .val (.double c85_z13), .second, .val (.double c94_z13), .second, .val (.int (1 : Int32)), .val (.int (1 : Int32)), .val (.int (1 : Int32))] [(.int (1 : Int32))])) _
          refine XS.goto X27.here hx rfl (pc0 := 232) (pc' := 236) rfl (hb hby at_232) (by decide) (by decide) ?_
          exact k
        obtain ⟨fs, hr, hrun, hended, hW, hsame⟩ := X27.leave (v := some (.int (1 : Int32))) (fun h => by rw [Bd.returns] at h; cases h)
        refine ⟨_, _, c28 _ ?_, hrun, hended, _, _, rfl, ?_, ⟨_, rfl⟩, hW, hsame.mono (by decide) (by decide)⟩
        · show Steps p.tables e below (T27.setTop (mkF m 236 #[.val (.int p0), .val (.int p1), .val (.int p2), .val (.int p3), .val (.int z6), .val (.double z15), .second, .val (.ref b1), .val (.ref b5), .val (.double z54), .second, .val (.int (1 : Int32)), .val (.double c85_z13), .second, .val (.double c94_z13), .second, .val (.int (1 : Int32)), .val (.int (1 : Int32)), .val (.int (1 : Int32))] [(.int (1 : Int32))])) _
          exact retOut X27 hx Bd.returns rfl (Or.inl ⟨rfl, by simp, _, rfl⟩) (hb hby at_236) hr
        · show Q0 n0 _ T27.heap _
          rw [e27]
          exact ⟨rfl, by first | assumption | exact N0⟩
      · skip
        obtain ⟨z176, hz176⟩ : ∃ z : Int32, cmpValue (FP.dcmp c85_z13 FP.dconst0) .l = z := ⟨_, rfl⟩
        obtain ⟨z190, hz190⟩ : ∃ z : UInt64, FP.i2d p2 = z := ⟨_, rfl⟩
        obtain ⟨c191_z4, hc191_z4⟩ : ∃ z : UInt64, FP.ddiv z190 (4652007308841189376 : UInt64) = z := ⟨_, rfl⟩
        obtain ⟨c191_z9, hc191_z9⟩ : ∃ z : UInt64, FP.ddiv c191_z4 z38 = z := ⟨_, rfl⟩
        obtain ⟨c191_z13, hc191_z13⟩ : ∃ z : UInt64, FP.dmul c191_z9 (4660134898793709568 : UInt64) = z := ⟨_, rfl⟩
        obtain ⟨z197, hz197⟩ : ∃ z : UInt64, FP.dmul c191_z13 (4611686018427387904 : UInt64) = z := ⟨_, rfl⟩
        obtain ⟨z200, hz200⟩ : ∃ z : Int32, cmpValue (FP.dcmp z197 c85_z13) .l = z := ⟨_, rfl⟩
        have br177 : z176 = 0 := by rw [← hz176]; exact (Jvm.OwnF.cmpv_V F85 Jvm.OwnF.DV_0.1 .l).2.1 (by rw [show Jvm.OwnF.V FP.dconst0 = 0 by rw [Jvm.OwnF.DV_0.2.2, Int.zero_mul]]; exact (S0 (by rw [Int32.lt_iff_toInt_lt, show (0 : Int32).toInt = 0 by decide] at hb136 hb155; omega)).1)
        obtain ⟨c191_nn4, c191_nn9, c191_nn13, F191, -⟩ := sec (show 1 ≤ 2 * z6.toInt ∧ 2 * z6.toInt ≤ 8192 by omega) dv2 (by rw [← hz190, hz84]; exact da.1) (by rw [← hz190, hz84]; exact ba) hc191_z4 hc191_z9 hc191_z13
        obtain ⟨nn197, br201⟩ := half bK dv dv2 hz84 hc85_z4 hc85_z9 hc85_z13 (by rw [← hz84, hz190]; exact hc191_z4) hc191_z9 hc191_z13 hz197 hz200
        obtain ⟨cq29, kq29, q29a, q29b, q29c⟩ := isOf hZ e13 Q7_0
        obtain ⟨_, _, ⟨T29, L29, k29, n29⟩, -, X29, ⟨Lc29, hQ29, ql29, qy29, qz29⟩, st29⟩ := X13.virtualBack hx (y := (⟨"com/example/fleetwave/fleetwave/model/DrivingSpeed", "seconds", "(D)D"⟩ : MethodName)) (z := (⟨"com/example/fleetwave/fleetwave/model/DrivingSpeed", "seconds", "(D)D"⟩ : MethodName)) hown (mvT hZ (hw _ (List.mem_of_getElem? (i := 28) rfl))) (mvT hZ (hw _ (List.mem_of_getElem? (i := 29) rfl))) (notFace_of_selects (args := #[]) (mvT hZ (hw _ (List.mem_of_getElem? (i := 31) rfl)))) (mvT hZ (hw _ (List.mem_of_getElem? (i := 31) rfl))) (mvT hZ (hw _ (List.mem_of_getElem? (i := 30) rfl))) (by decide) (backOf (W := 0) (rm6 l Z a0 hw [] b5 z190 z38 c191_z4 c191_z9 c191_z13 T7.heap n0 (Nat.le_trans (Nat.le_trans (Nat.le_trans (Nat.le_trans Z0 E1.1) K3q.1) E5.1) K7q.1) Q7_1 hc191_z4 hc191_z9 hc191_z13 c191_nn4 c191_nn9 c191_nn13) hZ (hw _ (List.mem_of_getElem? (i := 32) rfl)) (hw _ (List.mem_of_getElem? (i := 3) rfl)) (by decide) (by decide)) q29a q29c (g := (mkF m 191 #[.val (.int p0), .val (.int p1), .val (.int p2), .val (.int p3), .val (.int z6), .val (.double z15), .second, .val (.ref b1), .val (.ref b5), .val (.double z54), .second, .val (.int (1 : Int32)), .val (.double c85_z13), .second, .val (.double c94_z13), .second, .val (.int (1 : Int32)), .val (.int (1 : Int32)), .unset] [(.double z190), (.ref b5)])) rfl (by rw [hml]; rfl) (Steps.refl _) (argsL := [(.double z190)]) (rest := []) (lenOf pd_0 rfl) rfl (by show 2 * 0 + _ ≤ _; exact Nat.le_of_eq rfl) (hb hby at_191) (fun _ _ => ⟨rfl, e13, (by decide : 2 + 0 ≤ _), (by decide : 2 + 0 ≤ _)⟩)
        dsimp only [Pt.U, Pt.locs, Pt.cells, Pt.slots] at X29 ql29 qy29 qz29 st29 hQ29
        subst ql29 qy29 qz29
        obtain ⟨rfl, N29q, e29⟩ := hQ29
        have N29 := Fr.app N13 N29q
        have c30 : ∀ t, Steps p.tables e below (T29.setTop (mkF m 236 #[.val (.int p0), .val (.int p1), .val (.int p2), .val (.int p3), .val (.int z6), .val (.double z15), .second, .val (.ref b1), .val (.ref b5), .val (.double z54), .second, .val (.int (1 : Int32)), .val (.double c85_z13), .second, .val (.double c94_z13), .second, .val (.int (1 : Int32)), .val (.int (1 : Int32)), .val (.int (1 : Int32))] [(.int (1 : Int32))])) t → Steps p.tables e below (s₁.setTop (entryFrame m #[(.int p0), (.int p1), (.int p2), (.int p3)] maxLocals)) t := by
          intro t k
          refine c26 t ?_
          show Steps p.tables e below (T13.setTop (mkF m 155 #[.val (.int p0), .val (.int p1), .val (.int p2), .val (.int p3), .val (.int z6), .val (.double z15), .second, .val (.ref b1), .val (.ref b5), .val (.double z54), .second, .val (.int (1 : Int32)), .val (.double c85_z13), .second, .val (.double c94_z13), .second, .val (.int (1 : Int32)), .unset, .unset] [(.int p2)])) _
          refine XS.ifYes X13.here hx rfl (pc0 := 155) (pc' := 173) rfl (hb hby at_155) rfl (Jvm.Free.XT.i0_ge_t hb155) (by decide) (by decide) ?_
          show Steps p.tables e below (T13.setTop (mkF m 173 #[.val (.int p0), .val (.int p1), .val (.int p2), .val (.int p3), .val (.int z6), .val (.double z15), .second, .val (.ref b1), .val (.ref b5), .val (.double z54), .second, .val (.int (1 : Int32)), .val (.double c85_z13), .second, .val (.double c94_z13), .second, .val (.int (1 : Int32)), .unset, .unset] [])) _
          refine XS.dload X13.here hx rfl (hb hby at_173) rfl ?_
          show Steps p.tables e below (T13.setTop (mkF m 175 #[.val (.int p0), .val (.int p1), .val (.int p2), .val (.int p3), .val (.int z6), .val (.double z15), .second, .val (.ref b1), .val (.ref b5), .val (.double z54), .second, .val (.int (1 : Int32)), .val (.double c85_z13), .second, .val (.double c94_z13), .second, .val (.int (1 : Int32)), .unset, .unset] [(.double c85_z13)])) _
          refine XS.dconst0 X13.here hx rfl (hb hby at_175) (v := FP.dconst0) rfl ?_
          show Steps p.tables e below (T13.setTop (mkF m 176 #[.val (.int p0), .val (.int p1), .val (.int p2), .val (.int p3), .val (.int z6), .val (.double z15), .second, .val (.ref b1), .val (.ref b5), .val (.double z54), .second, .val (.int (1 : Int32)), .val (.double c85_z13), .second, .val (.double c94_z13), .second, .val (.int (1 : Int32)), .unset, .unset] [(.double FP.dconst0), (.double c85_z13)])) _
          refine XS.dcmpS X13.here hx rfl (hb hby at_176) rfl hz176 ?_
          show Steps p.tables e below (T13.setTop (mkF m 177 #[.val (.int p0), .val (.int p1), .val (.int p2), .val (.int p3), .val (.int z6), .val (.double z15), .second, .val (.ref b1), .val (.ref b5), .val (.double z54), .second, .val (.int (1 : Int32)), .val (.double c85_z13), .second, .val (.double c94_z13), .second, .val (.int (1 : Int32)), .unset, .unset] [(.int z176)])) _
          refine XS.ifNo X13.here hx rfl (hb hby at_177) rfl (Jvm.Free.XT.i0_ne_f br177) ?_
          show Steps p.tables e below (T13.setTop (mkF m 180 #[.val (.int p0), .val (.int p1), .val (.int p2), .val (.int p3), .val (.int z6), .val (.double z15), .second, .val (.ref b1), .val (.ref b5), .val (.double z54), .second, .val (.int (1 : Int32)), .val (.double c85_z13), .second, .val (.double c94_z13), .second, .val (.int (1 : Int32)), .unset, .unset] [])) _
          refine XS.iconst X13.here hx rfl (hb hby at_180) ?_
          show Steps p.tables e below (T13.setTop (mkF m 181 #[.val (.int p0), .val (.int p1), .val (.int p2), .val (.int p3), .val (.int z6), .val (.double z15), .second, .val (.ref b1), .val (.ref b5), .val (.double z54), .second, .val (.int (1 : Int32)), .val (.double c85_z13), .second, .val (.double c94_z13), .second, .val (.int (1 : Int32)), .unset, .unset] [(.int (1 : Int32))])) _
          refine XS.goto X13.here hx rfl (pc0 := 181) (pc' := 185) rfl (hb hby at_181) (by decide) (by decide) ?_
          show Steps p.tables e below (T13.setTop (mkF m 185 #[.val (.int p0), .val (.int p1), .val (.int p2), .val (.int p3), .val (.int z6), .val (.double z15), .second, .val (.ref b1), .val (.ref b5), .val (.double z54), .second, .val (.int (1 : Int32)), .val (.double c85_z13), .second, .val (.double c94_z13), .second, .val (.int (1 : Int32)), .unset, .unset] [(.int (1 : Int32))])) _
          refine XS.istore X13.here hx rfl (hb hby at_185) rfl (l' := #[.val (.int p0), .val (.int p1), .val (.int p2), .val (.int p3), .val (.int z6), .val (.double z15), .second, .val (.ref b1), .val (.ref b5), .val (.double z54), .second, .val (.int (1 : Int32)), .val (.double c85_z13), .second, .val (.double c94_z13), .second, .val (.int (1 : Int32)), .val (.int (1 : Int32)), .unset]) rfl ?_
          show Steps p.tables e below (T13.setTop (mkF m 187 #[.val (.int p0), .val (.int p1), .val (.int p2), .val (.int p3), .val (.int z6), .val (.double z15), .second, .val (.ref b1), .val (.ref b5), .val (.double z54), .second, .val (.int (1 : Int32)), .val (.double c85_z13), .second, .val (.double c94_z13), .second, .val (.int (1 : Int32)), .val (.int (1 : Int32)), .unset] [])) _
          refine XS.aload X13.here hx rfl (hb hby at_187) rfl rfl ?_
          show Steps p.tables e below (T13.setTop (mkF m 189 #[.val (.int p0), .val (.int p1), .val (.int p2), .val (.int p3), .val (.int z6), .val (.double z15), .second, .val (.ref b1), .val (.ref b5), .val (.double z54), .second, .val (.int (1 : Int32)), .val (.double c85_z13), .second, .val (.double c94_z13), .second, .val (.int (1 : Int32)), .val (.int (1 : Int32)), .unset] [(.ref b5)])) _
          refine XS.iloadN X13.here hx rfl (hb hby at_189) rfl ?_
          show Steps p.tables e below (T13.setTop (mkF m 190 #[.val (.int p0), .val (.int p1), .val (.int p2), .val (.int p3), .val (.int z6), .val (.double z15), .second, .val (.ref b1), .val (.ref b5), .val (.double z54), .second, .val (.int (1 : Int32)), .val (.double c85_z13), .second, .val (.double c94_z13), .second, .val (.int (1 : Int32)), .val (.int (1 : Int32)), .unset] [(.int p2), (.ref b5)])) _
          refine XS.i2dS X13.here hx rfl (hb hby at_190) rfl hz190 ?_
          show Steps p.tables e below (T13.setTop (mkF m 191 #[.val (.int p0), .val (.int p1), .val (.int p2), .val (.int p3), .val (.int z6), .val (.double z15), .second, .val (.ref b1), .val (.ref b5), .val (.double z54), .second, .val (.int (1 : Int32)), .val (.double c85_z13), .second, .val (.double c94_z13), .second, .val (.int (1 : Int32)), .val (.int (1 : Int32)), .unset] [(.double z190), (.ref b5)])) _
          refine st29.trans ?_
          show Steps p.tables e below (T29.setTop (mkF m 194 #[.val (.int p0), .val (.int p1), .val (.int p2), .val (.int p3), .val (.int z6), .val (.double z15), .second, .val (.ref b1), .val (.ref b5), .val (.double z54), .second, .val (.int (1 : Int32)), .val (.double c85_z13), .second, .val (.double c94_z13), .second, .val (.int (1 : Int32)), .val (.int (1 : Int32)), .unset] [(.double c191_z13)])) _
          refine X29.ldc2DoubleC hx hown (mvT hZ (hw _ (List.mem_of_getElem? (i := 26) rfl))) (g := (mkF m 194 #[.val (.int p0), .val (.int p1), .val (.int p2), .val (.int p3), .val (.int z6), .val (.double z15), .second, .val (.ref b1), .val (.ref b5), .val (.double z54), .second, .val (.int (1 : Int32)), .val (.double c85_z13), .second, .val (.double c94_z13), .second, .val (.int (1 : Int32)), .val (.int (1 : Int32)), .unset] [(.double c191_z13)])) rfl (hb hby at_194) _ ?_
          show Steps p.tables e below (T29.setTop (mkF m 197 #[.val (.int p0), .val (.int p1), .val (.int p2), .val (.int p3), .val (.int z6), .val (.double z15), .second, .val (.ref b1), .val (.ref b5), .val (.double z54), .second, .val (.int (1 : Int32)), .val (.double c85_z13), .second, .val (.double c94_z13), .second, .val (.int (1 : Int32)), .val (.int (1 : Int32)), .unset] [(.double (4611686018427387904 : UInt64)), (.double c191_z13)])) _
          refine Jvm.OwnK.dmul X29.here hx rfl (hb hby at_197) rfl hz197 nn197 ?_
          show Steps p.tables e below (T29.setTop (mkF m 198 #[.val (.int p0), .val (.int p1), .val (.int p2), .val (.int p3), .val (.int z6), .val (.double z15), .second, .val (.ref b1), .val (.ref b5), .val (.double z54), .second, .val (.int (1 : Int32)), .val (.double c85_z13), .second, .val (.double c94_z13), .second, .val (.int (1 : Int32)), .val (.int (1 : Int32)), .unset] [(.double z197)])) _
          refine XS.dload X29.here hx rfl (hb hby at_198) rfl ?_
          show Steps p.tables e below (T29.setTop (mkF m 200 #[.val (.int p0), .val (.int p1), .val (.int p2), .val (.int p3), .val (.int z6), .val (.double z15), .second, .val (.ref b1), .val (.ref b5), .val (.double z54), .second, .val (.int (1 : Int32)), .val (.double c85_z13), .second, .val (.double c94_z13), .second, .val (.int (1 : Int32)), .val (.int (1 : Int32)), .unset] [(.double c85_z13), (.double z197)])) _
          refine XS.dcmpS X29.here hx rfl (hb hby at_200) rfl hz200 ?_
          show Steps p.tables e below (T29.setTop (mkF m 201 #[.val (.int p0), .val (.int p1), .val (.int p2), .val (.int p3), .val (.int z6), .val (.double z15), .second, .val (.ref b1), .val (.ref b5), .val (.double z54), .second, .val (.int (1 : Int32)), .val (.double c85_z13), .second, .val (.double c94_z13), .second, .val (.int (1 : Int32)), .val (.int (1 : Int32)), .unset] [(.int z200)])) _
          refine XS.ifNo X29.here hx rfl (hb hby at_201) rfl (Jvm.Free.XT.i0_ne_f br201) ?_
          show Steps p.tables e below (T29.setTop (mkF m 204 #[.val (.int p0), .val (.int p1), .val (.int p2), .val (.int p3), .val (.int z6), .val (.double z15), .second, .val (.ref b1), .val (.ref b5), .val (.double z54), .second, .val (.int (1 : Int32)), .val (.double c85_z13), .second, .val (.double c94_z13), .second, .val (.int (1 : Int32)), .val (.int (1 : Int32)), .unset] [])) _
          refine XS.iconst X29.here hx rfl (hb hby at_204) ?_
          show Steps p.tables e below (T29.setTop (mkF m 205 #[.val (.int p0), .val (.int p1), .val (.int p2), .val (.int p3), .val (.int z6), .val (.double z15), .second, .val (.ref b1), .val (.ref b5), .val (.double z54), .second, .val (.int (1 : Int32)), .val (.double c85_z13), .second, .val (.double c94_z13), .second, .val (.int (1 : Int32)), .val (.int (1 : Int32)), .unset] [(.int (1 : Int32))])) _
          refine XS.goto X29.here hx rfl (pc0 := 205) (pc' := 209) rfl (hb hby at_205) (by decide) (by decide) ?_
          show Steps p.tables e below (T29.setTop (mkF m 209 #[.val (.int p0), .val (.int p1), .val (.int p2), .val (.int p3), .val (.int z6), .val (.double z15), .second, .val (.ref b1), .val (.ref b5), .val (.double z54), .second, .val (.int (1 : Int32)), .val (.double c85_z13), .second, .val (.double c94_z13), .second, .val (.int (1 : Int32)), .val (.int (1 : Int32)), .unset] [(.int (1 : Int32))])) _
          refine XS.istore X29.here hx rfl (hb hby at_209) rfl (l' := #[.val (.int p0), .val (.int p1), .val (.int p2), .val (.int p3), .val (.int z6), .val (.double z15), .second, .val (.ref b1), .val (.ref b5), .val (.double z54), .second, .val (.int (1 : Int32)), .val (.double c85_z13), .second, .val (.double c94_z13), .second, .val (.int (1 : Int32)), .val (.int (1 : Int32)), .val (.int (1 : Int32))]) rfl ?_
          show Steps p.tables e below (T29.setTop (mkF m 211 #[.val (.int p0), .val (.int p1), .val (.int p2), .val (.int p3), .val (.int z6), .val (.double z15), .second, .val (.ref b1), .val (.ref b5), .val (.double z54), .second, .val (.int (1 : Int32)), .val (.double c85_z13), .second, .val (.double c94_z13), .second, .val (.int (1 : Int32)), .val (.int (1 : Int32)), .val (.int (1 : Int32))] [])) _
          refine XS.iload X29.here hx rfl (hb hby at_211) rfl ?_
          show Steps p.tables e below (T29.setTop (mkF m 213 #[.val (.int p0), .val (.int p1), .val (.int p2), .val (.int p3), .val (.int z6), .val (.double z15), .second, .val (.ref b1), .val (.ref b5), .val (.double z54), .second, .val (.int (1 : Int32)), .val (.double c85_z13), .second, .val (.double c94_z13), .second, .val (.int (1 : Int32)), .val (.int (1 : Int32)), .val (.int (1 : Int32))] [(.int (1 : Int32))])) _
          refine XS.ifNo X29.here hx rfl (hb hby at_213) rfl (Jvm.Free.XT.i0_eq_f (by decide)) ?_
          show Steps p.tables e below (T29.setTop (mkF m 216 #[.val (.int p0), .val (.int p1), .val (.int p2), .val (.int p3), .val (.int z6), .val (.double z15), .second, .val (.ref b1), .val (.ref b5), .val (.double z54), .second, .val (.int (1 : Int32)), .val (.double c85_z13), .second, .val (.double c94_z13), .second, .val (.int (1 : Int32)), .val (.int (1 : Int32)), .val (.int (1 : Int32))] [])) _
          refine XS.iload X29.here hx rfl (hb hby at_216) rfl ?_
          show Steps p.tables e below (T29.setTop (mkF m 218 #[.val (.int p0), .val (.int p1), .val (.int p2), .val (.int p3), .val (.int z6), .val (.double z15), .second, .val (.ref b1), .val (.ref b5), .val (.double z54), .second, .val (.int (1 : Int32)), .val (.double c85_z13), .second, .val (.double c94_z13), .second, .val (.int (1 : Int32)), .val (.int (1 : Int32)), .val (.int (1 : Int32))] [(.int (1 : Int32))])) _
          refine XS.ifNo X29.here hx rfl (hb hby at_218) rfl (Jvm.Free.XT.i0_eq_f (by decide)) ?_
          show Steps p.tables e below (T29.setTop (mkF m 221 #[.val (.int p0), .val (.int p1), .val (.int p2), .val (.int p3), .val (.int z6), .val (.double z15), .second, .val (.ref b1), .val (.ref b5), .val (.double z54), .second, .val (.int (1 : Int32)), .val (.double c85_z13), .second, .val (.double c94_z13), .second, .val (.int (1 : Int32)), .val (.int (1 : Int32)), .val (.int (1 : Int32))] [])) _
          refine XS.iload X29.here hx rfl (hb hby at_221) rfl ?_
          show Steps p.tables e below (T29.setTop (mkF m 223 #[.val (.int p0), .val (.int p1), .val (.int p2), .val (.int p3), .val (.int z6), .val (.double z15), .second, .val (.ref b1), .val (.ref b5), .val (.double z54), .second, .val (.int (1 : Int32)), .val (.double c85_z13), .second, .val (.double c94_z13), .second, .val (.int (1 : Int32)), .val (.int (1 : Int32)), .val (.int (1 : Int32))] [(.int (1 : Int32))])) _
          refine XS.ifNo X29.here hx rfl (hb hby at_223) rfl (Jvm.Free.XT.i0_eq_f (by decide)) ?_
          show Steps p.tables e below (T29.setTop (mkF m 226 #[.val (.int p0), .val (.int p1), .val (.int p2), .val (.int p3), .val (.int z6), .val (.double z15), .second, .val (.ref b1), .val (.ref b5), .val (.double z54), .second, .val (.int (1 : Int32)), .val (.double c85_z13), .second, .val (.double c94_z13), .second, .val (.int (1 : Int32)), .val (.int (1 : Int32)), .val (.int (1 : Int32))] [])) _
          refine XS.iload X29.here hx rfl (hb hby at_226) rfl ?_
          show Steps p.tables e below (T29.setTop (mkF m 228 #[.val (.int p0), .val (.int p1), .val (.int p2), .val (.int p3), .val (.int z6), .val (.double z15), .second, .val (.ref b1), .val (.ref b5), .val (.double z54), .second, .val (.int (1 : Int32)), .val (.double c85_z13), .second, .val (.double c94_z13), .second, .val (.int (1 : Int32)), .val (.int (1 : Int32)), .val (.int (1 : Int32))] [(.int (1 : Int32))])) _
          refine XS.ifNo X29.here hx rfl (hb hby at_228) rfl (Jvm.Free.XT.i0_eq_f (by decide)) ?_
          show Steps p.tables e below (T29.setTop (mkF m 231 #[.val (.int p0), .val (.int p1), .val (.int p2), .val (.int p3), .val (.int z6), .val (.double z15), .second, .val (.ref b1), .val (.ref b5), .val (.double z54), .second, .val (.int (1 : Int32)), .val (.double c85_z13), .second, .val (.double c94_z13), .second, .val (.int (1 : Int32)), .val (.int (1 : Int32)), .val (.int (1 : Int32))] [])) _
          refine XS.iconst X29.here hx rfl (hb hby at_231) ?_
          show Steps p.tables e below (T29.setTop (mkF m 232 #[.val (.int p0), .val (.int p1), .val (.int p2), .val (.int p3), .val (.int z6), .val (.double z15), .second, .val (.ref b1), .val (.ref b5), .val (.double z54), .second, .val (.int (1 : Int32)), .val (.double c85_z13), .second, .val (.double c94_z13), .second, .val (.int (1 : Int32)), .val (.int (1 : Int32)), .val (.int (1 : Int32))] [(.int (1 : Int32))])) _
          refine XS.goto X29.here hx rfl (pc0 := 232) (pc' := 236) rfl (hb hby at_232) (by decide) (by decide) ?_
          exact k
        obtain ⟨fs, hr, hrun, hended, hW, hsame⟩ := X29.leave (v := some (.int (1 : Int32))) (fun h => by rw [Bd.returns] at h; cases h)
        refine ⟨_, _, c30 _ ?_, hrun, hended, _, _, rfl, ?_, ⟨_, rfl⟩, hW, hsame.mono (by decide) (by decide)⟩
        · show Steps p.tables e below (T29.setTop (mkF m 236 #[.val (.int p0), .val (.int p1), .val (.int p2), .val (.int p3), .val (.int z6), .val (.double z15), .second, .val (.ref b1), .val (.ref b5), .val (.double z54), .second, .val (.int (1 : Int32)), .val (.double c85_z13), .second, .val (.double c94_z13), .second, .val (.int (1 : Int32)), .val (.int (1 : Int32)), .val (.int (1 : Int32))] [(.int (1 : Int32))])) _
          exact retOut X29 hx Bd.returns rfl (Or.inl ⟨rfl, by simp, _, rfl⟩) (hb hby at_236) hr
        · show Q0 n0 _ T29.heap _
          rw [e29]
          exact ⟨rfl, by first | assumption | exact N0⟩
set_option maxRecDepth 65536 in
set_option maxHeartbeats 40000000 in
theorem comes_1 {Post : Tables → Env → Array Value → State → Outcome → State → Prop} (hpost : ∀ tb e args s v u, (limb_1_1.after args s (.returned v) u = true ∧ limb_1_2.after args s (.returned v) u = true ∧ True) → FrameEnd s (.returned v) u (Jvm.fieldLocs frame_1_writes args s ++ Jvm.arrayLocs frame_1_arrays args s ++ Jvm.staticLocs frame_1_statics s) 16 128 → Post tb e args s (.returned v) u) :
    ArmFor flags0 classFile x code maxLocals ret World_1 tables_1 room_1 Calls_1 rest_1 Pre_1 Post := by
  intro l hfl _ _ p e ha hc hk s m args below hf hA hF happ hP
  obtain ⟨hcalls, hrest, hpre⟩ := hP
  obtain ⟨-, -, -, hnamed, -, -, -, hat⟩ := (Spec.applies_iff hf).mp happ
  obtain ⟨hg, hn⟩ := and_e (Cond.before_iff.mp (show (Jvm.Cond.and given_1 narrow_1).before args s = true from hpre))
  obtain ⟨g1, g2⟩ := and_e hg
  obtain ⟨g3, g4⟩ := and_e g2
  obtain ⟨g5, g6⟩ := and_e g4
  obtain ⟨g7, g8⟩ := and_e g6
  obtain ⟨w0, w1, w2, w3, rfl⟩ : ∃ w0 w1 w2 w3 : Value, args = #[w0, w1, w2, w3] := by
    have hs : args.size = 4 := by simpa [Cond.value, given_1] using g1
    obtain ⟨L⟩ := args
    match L, hs with
    | [w0, w1, w2, w3], _ => exact ⟨w0, w1, w2, w3, rfl⟩
  have hw := fun d (hd : d ∈ tables_1) => atoms_spec (ws := Jvm.Cond.code x code maxLocals ret :: tables_1) hat d (List.mem_cons_of_mem _ hd)
  have hfit : Fit s := fun {y c} hc i hi => by
    obtain ⟨ha, rfl⟩ := Array.getElem?_eq_some_iff.mp hc
    have q := List.all_eq_true.mp ((Array.all_eq_true_iff_forall_mem.mp hF) _ (Array.getElem_mem ha)) i (List.mem_range.mpr hi)
    simpa [Array.getElem?_eq_getElem hi] using q
  obtain ⟨i0, ei0⟩ := is_v g3
  obtain rfl : w0 = (.int i0) := Option.some.inj ei0
  obtain ⟨i1, ei1⟩ := is_v g5
  obtain rfl : w1 = (.int i1) := Option.some.inj ei1
  obtain ⟨i2, ei2⟩ := is_v g7
  obtain rfl : w2 = (.int i2) := Option.some.inj ei2
  obtain ⟨i3, ei3⟩ := is_v g8
  obtain rfl : w3 = (.int i3) := Option.some.inj ei3
  obtain ⟨n, o, h1, h2, h3, _, L, rfl, ⟨rfl, N⟩, hq⟩ := rm0 l s _ hw tables_1 i0 i1 i2 i3  s.heap s.heap.size (Nat.le_refl _)  p e ha hc hk s m _ below hf ((Spec.applies_iff_loose hf).mp happ).1 ⟨rfl, State.Warmed39.refl s, rfl⟩ trivial
  refine ⟨n, _, h1, h2, h3, hpost _ _ _ _ _ _ ⟨Cond.after_iff.mpr rfl, Cond.after_iff.mpr (eq_i res_at (Term.int_eval (1)) rfl), trivial⟩ ⟨hq.1, hq.2.1, (hq.2.2.sift fun y hy => Or.inr (N y hy)).mono (by decide) (by decide)⟩⟩
theorem main_1_1 : Claimed_1_1 := comes_1 fun _ _ _ _ _ _ h hF => ⟨h.1, hF⟩
theorem main_1_2 : Claimed_1_2 := comes_1 fun _ _ _ _ _ _ h hF => ⟨h.2.1, hF⟩
end Jvm.Pilot.@@N@@
namespace Jvm.Pilot.@@N@@
open Jvm Jvm.ClassFile Sem Op Lib Jvm.Free Jvm.Stand Jvm.Pilot.@@N@@.Jvm.D
/-! MADE BY PROGRAM (witnessworld.py) out of the Statement's table words and the real class files: 16 classes; the members and pool entries that the words name. The judged class is class 1, her method 1. -/
namespace start1
open Jvm.ClassFile
def u (s : String) : CpInfo := .utf8 (stringToUtf16 s)
/-- a pool by its gaps: so many unusable entries, then the entry; so many at the end -/
def gap : Nat → List CpInfo → List CpInfo
  | 0, r => r
  | n + 1, r => .unusable :: gap n r
def poolList (es : List (Nat × CpInfo)) (last : Nat) : List CpInfo := es.foldr (fun e r => gap e.1 (e.2 :: r)) (gap last [])
def pool (es : List (Nat × CpInfo)) (last : Nat) : Array CpInfo := ⟨poolList es last⟩
def fileOf (pool : Array CpInfo) (this : Nat) (attrs : Array Attribute := #[]) (ms : Array MethodInfo := #[]) (fl : Nat := 33) (sup : Nat := 0) (ifs : Array Nat := #[]) (fds : Array FieldInfo := #[]) : ClassFile where
  minorVersion := 0
  majorVersion := 65
  constantPool := pool
  accessFlags := fl
  thisClass := this
  superClass := sup
  interfaces := ifs
  fields := fds
  methods := ms
  attributes := attrs
def plain (name : String) (sup : Option ClassId) : Class where
  name := name
  kind := .ordinary
  loader := none
  accessFlags := 33
  super := sup
  interfaces := #[]
  cf := none
  fields := #[]
  methods := #[]
  instanceTypes := #[]
  staticTypes := #[]
  resolved := #[]
  callSites := []
  init := .initialized
  statics := none
  mirror := none

def pool0 : Array CpInfo := pool [(5, u "<init>"), (0, u "()V"), (1, .class_ 10), (1, u "java/lang/Object")] 113

def k0c0 : Code := { maxStack := 0, maxLocals := 1, code := object_method_1_code, exceptionTable := #[], attributes := #[] }
def k0m0 : Method := { name := "<init>", desc := "()V", sig := { parameters := [], returnType := none }, accessFlags := 1, code := some k0c0 }
/-- java/lang/Object -/
def k0 : Class := { plain "java/lang/Object" none with
  accessFlags := 33
  interfaces := #[]
  cf := some (fileOf pool0 8 #[] #[{ accessFlags := 1, nameIndex := 5, descriptorIndex := 6, attributes := #[] }] 33 0 #[] #[])
  fields := #[]
  methods := #[k0m0]
  instanceTypes := #[]
  staticTypes := #[]
  resolved := Array.replicate 124 none
  statics := none }

def pool1 : Array CpInfo := pool [(2, .class_ 4), (1, u "java/lang/Object"), (0, u "<init>"), (0, u "()V"), (0, .double 4616189618054758400), (1, .class_ 10), (0, u "com/example/fleetwave/fleetwave/model/DrivingSpeed"), (0, .methodref 9 12), (0, .nameAndType 5 13), (0, u "(D)V"), (0, .double 4611686018427387904), (1, .long 250), (1, .methodref 9 19), (0, .nameAndType 20 21), (0, u "seconds"), (0, u "(D)D"), (0, .double 4660134898793709568), (1, .class_ 25), (0, u "com/example/fleetwave/fleetwave/model/DrivingSpeedSecondsPinLaw"), (2, u "law"), (0, u "(IIII)Z")] 3

def k1m0 : Method := { name := "<init>", desc := "()V", sig := { parameters := [], returnType := none }, accessFlags := 1, code := none }
def k1c1 : Code := { maxStack := 6, maxLocals := 19, code := code, exceptionTable := #[], attributes := #[] }
def k1m1 : Method := { name := "law", desc := "(IIII)Z", sig := { parameters := [.int, .int, .int, .int], returnType := some .boolean }, accessFlags := 9, code := some k1c1 }
/-- com/example/fleetwave/fleetwave/model/DrivingSpeedSecondsPinLaw -/
def k1 : Class := { plain "com/example/fleetwave/fleetwave/model/DrivingSpeedSecondsPinLaw" (some 0) with
  accessFlags := 49
  interfaces := #[]
  cf := some (fileOf pool1 24 #[] #[{ accessFlags := 1, nameIndex := 5, descriptorIndex := 6, attributes := #[] }, { accessFlags := 9, nameIndex := 28, descriptorIndex := 29, attributes := #[] }] 49 2 #[] #[])
  fields := #[]
  methods := #[k1m0, k1m1]
  instanceTypes := #[]
  staticTypes := #[]
  resolved := Array.replicate 33 none
  statics := none }

def pool2 : Array CpInfo := pool [(1, .methodref 2 3), (0, .class_ 4), (0, .nameAndType 5 6), (0, u "java/lang/Object"), (0, u "<init>"), (0, u "()V"), (0, .class_ 8), (0, u "java/lang/Record")] 13

def k2c0 : Code := { maxStack := 1, maxLocals := 1, code := jdk_30_method_1_code, exceptionTable := #[], attributes := #[] }
def k2m0 : Method := { name := "<init>", desc := "()V", sig := { parameters := [], returnType := none }, accessFlags := 4, code := some k2c0 }
/-- java/lang/Record -/
def k2 : Class := { plain "java/lang/Record" (some 0) with
  accessFlags := 1057
  interfaces := #[]
  cf := some (fileOf pool2 7 #[] #[{ accessFlags := 4, nameIndex := 5, descriptorIndex := 6, attributes := #[] }] 1057 2 #[] #[])
  fields := #[]
  methods := #[k2m0]
  instanceTypes := #[]
  staticTypes := #[]
  resolved := Array.replicate 22 none
  statics := none }

def pool3 : Array CpInfo := pool [(1, .methodref 2 3), (0, .class_ 4), (0, .nameAndType 5 6), (0, u "java/lang/Record"), (0, u "<init>"), (0, u "()V"), (0, .methodref 8 9), (0, .class_ 10), (0, .nameAndType 11 12), (0, u "java/lang/Double"), (0, u "isInfinite"), (0, u "(D)Z"), (9, .fieldref 23 24), (0, .class_ 25), (0, .nameAndType 26 27), (0, u "com/example/fleetwave/fleetwave/model/DrivingSpeed"), (0, u "kilometresPerHour"), (0, u "D"), (0, .double 4652007308841189376), (1, .double 4660134898793709568), (13, u "DEFAULT_KILOMETRES_PER_HOUR"), (3, u "SECONDS_PER_HOUR"), (0, u "(D)V"), (4, u "seconds"), (0, u "(D)D")] 31

def k3c0 : Code := { maxStack := 4, maxLocals := 3, code := prog_42_method_1_code, exceptionTable := #[], attributes := #[] }
def k3m0 : Method := { name := "<init>", desc := "(D)V", sig := { parameters := [.double], returnType := none }, accessFlags := 1, code := some k3c0 }
def k3c1 : Code := { maxStack := 4, maxLocals := 3, code := prog_42_method_2_code, exceptionTable := #[], attributes := #[] }
def k3m1 : Method := { name := "seconds", desc := "(D)D", sig := { parameters := [.double], returnType := some .double }, accessFlags := 1, code := some k3c1 }
/-- com/example/fleetwave/fleetwave/model/DrivingSpeed -/
def k3 : Class := { plain "com/example/fleetwave/fleetwave/model/DrivingSpeed" (some 2) with
  accessFlags := 49
  interfaces := #[]
  cf := some (fileOf pool3 23 #[] #[{ accessFlags := 1, nameIndex := 5, descriptorIndex := 49, attributes := #[] }, { accessFlags := 1, nameIndex := 54, descriptorIndex := 55, attributes := #[] }] 49 2 #[] #[{ accessFlags := 18, nameIndex := 26, descriptorIndex := 27, attributes := #[] }, { accessFlags := 25, nameIndex := 44, descriptorIndex := 27, attributes := #[] }, { accessFlags := 26, nameIndex := 48, descriptorIndex := 27, attributes := #[] }])
  fields := #[{ name := "kilometresPerHour", type := .double, accessFlags := 18, slot := 0, constantValue := 0 }, { name := "DEFAULT_KILOMETRES_PER_HOUR", type := .double, accessFlags := 25, slot := 0, constantValue := 0 }, { name := "SECONDS_PER_HOUR", type := .double, accessFlags := 26, slot := 1, constantValue := 0 }]
  methods := #[k3m0, k3m1]
  instanceTypes := #[.double]
  staticTypes := #[.double, .double]
  resolved := Array.replicate 87 none
  statics := none }

def pool4 : Array CpInfo := pool [(1, .class_ 2), (0, u "java/io/Serializable"), (0, .class_ 4), (0, u "java/lang/Object")] 2

/-- java/io/Serializable -/
def k4 : Class := { plain "java/io/Serializable" (some 0) with
  accessFlags := 1537
  interfaces := #[]
  cf := some (fileOf pool4 1 #[] #[] 1537 3 #[] #[])
  fields := #[]
  methods := #[]
  instanceTypes := #[]
  staticTypes := #[]
  resolved := Array.replicate 7 none
  statics := none }

def pool5 : Array CpInfo := pool [(2, .class_ 4), (1, u "java/lang/Object"), (0, u "<init>"), (0, u "()V"), (1, .class_ 10), (1, u "java/lang/Number"), (2, .class_ 14), (0, u "java/io/Serializable"), (0, u "serialVersionUID"), (0, u "J")] 20

def k5m0 : Method := { name := "<init>", desc := "()V", sig := { parameters := [], returnType := none }, accessFlags := 1, code := none }
/-- java/lang/Number -/
def k5 : Class := { plain "java/lang/Number" (some 0) with
  accessFlags := 1057
  interfaces := #[4]
  cf := some (fileOf pool5 8 #[] #[{ accessFlags := 1, nameIndex := 5, descriptorIndex := 6, attributes := #[] }] 1057 2 #[13] #[{ accessFlags := 26, nameIndex := 15, descriptorIndex := 16, attributes := #[] }])
  fields := #[{ name := "serialVersionUID", type := .long, accessFlags := 26, slot := 0, constantValue := 0 }]
  methods := #[k5m0]
  instanceTypes := #[]
  staticTypes := #[.long]
  resolved := Array.replicate 37 none
  statics := none }

def pool6 : Array CpInfo := pool [(1, .class_ 2), (0, u "java/lang/Comparable"), (0, .class_ 4), (0, u "java/lang/Object")] 7

/-- java/lang/Comparable -/
def k6 : Class := { plain "java/lang/Comparable" (some 0) with
  accessFlags := 1537
  interfaces := #[]
  cf := some (fileOf pool6 1 #[] #[] 1537 3 #[] #[])
  fields := #[]
  methods := #[]
  instanceTypes := #[]
  staticTypes := #[]
  resolved := Array.replicate 12 none
  statics := none }

def pool7 : Array CpInfo := pool [(1, .class_ 2), (0, u "java/lang/constant/Constable"), (0, .class_ 4), (0, u "java/lang/Object")] 6

/-- java/lang/constant/Constable -/
def k7 : Class := { plain "java/lang/constant/Constable" (some 0) with
  accessFlags := 1537
  interfaces := #[]
  cf := some (fileOf pool7 1 #[] #[] 1537 3 #[] #[])
  fields := #[]
  methods := #[]
  instanceTypes := #[]
  staticTypes := #[]
  resolved := Array.replicate 11 none
  statics := none }

def pool8 : Array CpInfo := pool [(1, .class_ 2), (0, u "java/lang/constant/ConstantDesc"), (0, .class_ 4), (0, u "java/lang/Object")] 32

/-- java/lang/constant/ConstantDesc -/
def k8 : Class := { plain "java/lang/constant/ConstantDesc" (some 0) with
  accessFlags := 1537
  interfaces := #[]
  cf := some (fileOf pool8 1 #[] #[] 1537 3 #[] #[])
  fields := #[]
  methods := #[]
  instanceTypes := #[]
  staticTypes := #[]
  resolved := Array.replicate 37 none
  statics := none }

def pool9 : Array CpInfo := pool [(1, .class_ 2), (0, u "java/lang/Double"), (11, u "(D)Z"), (8, .class_ 25), (1, u "java/lang/Math"), (12, .methodref 23 39), (0, .nameAndType 40 41), (0, u "abs"), (0, u "(D)D"), (69, .double 9218868437227405311), (2, .class_ 116), (1, u "java/lang/Number"), (3, u "value"), (0, u "D"), (5, u "isInfinite"), (45, u "TYPE"), (0, u "Ljava/lang/Class;"), (0, .class_ 176), (0, u "java/lang/Comparable"), (0, .class_ 178), (0, u "java/lang/constant/Constable"), (0, .class_ 180), (0, u "java/lang/constant/ConstantDesc"), (0, u "POSITIVE_INFINITY"), (3, u "NEGATIVE_INFINITY"), (2, u "NaN"), (2, u "MAX_VALUE"), (0, u "MIN_NORMAL"), (0, u "MIN_VALUE"), (2, u "SIZE"), (0, u "I"), (1, u "PRECISION"), (1, u "MAX_EXPONENT"), (1, u "MIN_EXPONENT"), (1, u "BYTES"), (3, u "serialVersionUID"), (0, u "J")] 79

def k9c0 : Code := { maxStack := 4, maxLocals := 2, code := jdk_117_method_7_code, exceptionTable := #[], attributes := #[] }
def k9m0 : Method := { name := "isInfinite", desc := "(D)Z", sig := { parameters := [.double], returnType := some .boolean }, accessFlags := 9, code := some k9c0 }
/-- java/lang/Double -/
def k9 : Class := { plain "java/lang/Double" (some 5) with
  accessFlags := 49
  interfaces := #[6, 7, 8]
  cf := some (fileOf pool9 1 #[] #[{ accessFlags := 9, nameIndex := 127, descriptorIndex := 14, attributes := #[] }] 49 114 #[175, 177, 179] #[{ accessFlags := 25, nameIndex := 181, descriptorIndex := 121, attributes := #[] }, { accessFlags := 25, nameIndex := 185, descriptorIndex := 121, attributes := #[] }, { accessFlags := 25, nameIndex := 188, descriptorIndex := 121, attributes := #[] }, { accessFlags := 25, nameIndex := 191, descriptorIndex := 121, attributes := #[] }, { accessFlags := 25, nameIndex := 192, descriptorIndex := 121, attributes := #[] }, { accessFlags := 25, nameIndex := 193, descriptorIndex := 121, attributes := #[] }, { accessFlags := 25, nameIndex := 196, descriptorIndex := 197, attributes := #[] }, { accessFlags := 25, nameIndex := 199, descriptorIndex := 197, attributes := #[] }, { accessFlags := 25, nameIndex := 201, descriptorIndex := 197, attributes := #[] }, { accessFlags := 25, nameIndex := 203, descriptorIndex := 197, attributes := #[] }, { accessFlags := 25, nameIndex := 205, descriptorIndex := 197, attributes := #[] }, { accessFlags := 25, nameIndex := 173, descriptorIndex := 174, attributes := #[] }, { accessFlags := 18, nameIndex := 120, descriptorIndex := 121, attributes := #[] }, { accessFlags := 26, nameIndex := 209, descriptorIndex := 210, attributes := #[] }])
  fields := #[{ name := "POSITIVE_INFINITY", type := .double, accessFlags := 25, slot := 0, constantValue := 0 }, { name := "NEGATIVE_INFINITY", type := .double, accessFlags := 25, slot := 1, constantValue := 0 }, { name := "NaN", type := .double, accessFlags := 25, slot := 2, constantValue := 0 }, { name := "MAX_VALUE", type := .double, accessFlags := 25, slot := 3, constantValue := 0 }, { name := "MIN_NORMAL", type := .double, accessFlags := 25, slot := 4, constantValue := 0 }, { name := "MIN_VALUE", type := .double, accessFlags := 25, slot := 5, constantValue := 0 }, { name := "SIZE", type := .int, accessFlags := 25, slot := 6, constantValue := 0 }, { name := "PRECISION", type := .int, accessFlags := 25, slot := 7, constantValue := 0 }, { name := "MAX_EXPONENT", type := .int, accessFlags := 25, slot := 8, constantValue := 0 }, { name := "MIN_EXPONENT", type := .int, accessFlags := 25, slot := 9, constantValue := 0 }, { name := "BYTES", type := .int, accessFlags := 25, slot := 10, constantValue := 0 }, { name := "TYPE", type := (.object "java/lang/Class"), accessFlags := 25, slot := 11, constantValue := 0 }, { name := "value", type := .double, accessFlags := 18, slot := 0, constantValue := 0 }, { name := "serialVersionUID", type := .long, accessFlags := 26, slot := 12, constantValue := 0 }]
  methods := #[k9m0]
  instanceTypes := #[.double]
  staticTypes := #[.double, .double, .double, .double, .double, .double, .int, .int, .int, .int, .int, (.object "java/lang/Class"), .long]
  resolved := Array.replicate 290 none
  statics := none }

def pool10 : Array CpInfo := pool [(1, .class_ 2), (0, u "java/lang/Math"), (1, .class_ 6), (1, u "java/lang/Object"), (0, u "<init>"), (0, u "()V"), (5, u "(D)D"), (83, .class_ 100), (1, u "java/lang/Math$RandomNumberGeneratorHolder"), (23, u "abs"), (47, u "negativeZeroFloatBits"), (0, u "J"), (2, u "negativeZeroDoubleBits"), (68, u "$assertionsDisabled"), (0, u "Z"), (91, u "twoToTheDoubleScaleDown"), (0, u "D"), (4, u "twoToTheDoubleScaleUp"), (9, u "E"), (3, u "PI"), (2, u "TAU"), (2, u "DEGREES_TO_RADIANS"), (0, u "RADIANS_TO_DEGREES")] 94

def k10m0 : Method := { name := "<init>", desc := "()V", sig := { parameters := [], returnType := none }, accessFlags := 2, code := none }
def k10c1 : Code := { maxStack := 4, maxLocals := 2, code := jdk_29_method_64_code, exceptionTable := #[], attributes := #[] }
def k10m1 : Method := { name := "abs", desc := "(D)D", sig := { parameters := [.double], returnType := some .double }, accessFlags := 9, code := some k10c1 }
/-- java/lang/Math -/
def k10 : Class := { plain "java/lang/Math" (some 0) with
  accessFlags := 49
  interfaces := #[]
  cf := some (fileOf pool10 1 #[.nestMembers #[98]] #[{ accessFlags := 2, nameIndex := 7, descriptorIndex := 8, attributes := #[] }, { accessFlags := 9, nameIndex := 124, descriptorIndex := 14, attributes := #[] }] 49 4 #[] #[{ accessFlags := 25, nameIndex := 354, descriptorIndex := 339, attributes := #[] }, { accessFlags := 25, nameIndex := 358, descriptorIndex := 339, attributes := #[] }, { accessFlags := 25, nameIndex := 361, descriptorIndex := 339, attributes := #[] }, { accessFlags := 26, nameIndex := 364, descriptorIndex := 339, attributes := #[] }, { accessFlags := 26, nameIndex := 365, descriptorIndex := 339, attributes := #[] }, { accessFlags := 26, nameIndex := 172, descriptorIndex := 173, attributes := #[] }, { accessFlags := 26, nameIndex := 176, descriptorIndex := 173, attributes := #[] }, { accessFlags := 8, nameIndex := 344, descriptorIndex := 339, attributes := #[] }, { accessFlags := 8, nameIndex := 338, descriptorIndex := 339, attributes := #[] }, { accessFlags := 4120, nameIndex := 245, descriptorIndex := 246, attributes := #[] }])
  fields := #[{ name := "E", type := .double, accessFlags := 25, slot := 0, constantValue := 0 }, { name := "PI", type := .double, accessFlags := 25, slot := 1, constantValue := 0 }, { name := "TAU", type := .double, accessFlags := 25, slot := 2, constantValue := 0 }, { name := "DEGREES_TO_RADIANS", type := .double, accessFlags := 26, slot := 3, constantValue := 0 }, { name := "RADIANS_TO_DEGREES", type := .double, accessFlags := 26, slot := 4, constantValue := 0 }, { name := "negativeZeroFloatBits", type := .long, accessFlags := 26, slot := 5, constantValue := 0 }, { name := "negativeZeroDoubleBits", type := .long, accessFlags := 26, slot := 6, constantValue := 0 }, { name := "twoToTheDoubleScaleUp", type := .double, accessFlags := 8, slot := 7, constantValue := 0 }, { name := "twoToTheDoubleScaleDown", type := .double, accessFlags := 8, slot := 8, constantValue := 0 }, { name := "$assertionsDisabled", type := .boolean, accessFlags := 4120, slot := 9, constantValue := 0 }]
  methods := #[k10m0, k10m1]
  instanceTypes := #[]
  staticTypes := #[.double, .double, .double, .double, .double, .long, .long, .double, .double, .boolean]
  resolved := Array.replicate 460 none
  statics := none }

def pool11 : Array CpInfo := pool [(1, u "java/lang/Cloneable"), (0, .class_ 1), (0, u "java/lang/Object"), (0, .class_ 3)] 3

/-- java/lang/Cloneable -/
def k11 : Class := { plain "java/lang/Cloneable" (some 0) with
  accessFlags := 1537
  interfaces := #[]
  cf := some (fileOf pool11 2 #[] #[] 1537 4 #[] #[])
  fields := #[]
  methods := #[]
  instanceTypes := #[]
  staticTypes := #[]
  resolved := Array.replicate 8 none
  statics := none }

/-- the primitive byte -/
def k12 : Class := { plain "byte" none with kind := .primitive 'B', accessFlags := 0x411 }
/-- [B -/
def k13 : Class := { plain "[B" (some 0) with kind := .array 12 .byte, interfaces := #[11, 4], accessFlags := 1041 }

/-- the primitive int -/
def k14 : Class := { plain "int" none with kind := .primitive 'I', accessFlags := 0x411 }
/-- [I -/
def k15 : Class := { plain "[I" (some 0) with kind := .array 14 .int, interfaces := #[11, 4], accessFlags := 1041 }

def heap : Heap := #[]
def classes : Array Class := #[k0, k1, k2, k3, k4, k5, k6, k7, k8, k9, k10, k11, k12, k13, k14, k15]
def interned : List (Array UInt16 × Addr) := []
def slotsUsed : Nat := 0
def theMethod : MethodId := ⟨1, 1⟩
def args0 : Array Value := #[.int 5, .int 5, .int 5, .int 5]
def aboutOver (below : List Frame) : State where
  vm := { classes := classes, interned := interned.toArray }
  heap := heap
  slotsUsed := slotsUsed
  threads := #[{ frames := .invoking theMethod args0 :: below }]
def below0 : List Frame := [.native { method := ⟨0, 0⟩, args := #[] }]
def about1 : State := aboutOver below0
def p0 : Program := .bare "" "" ""
def e0 : Env := launch0.env 0 0 0
theorem w_frames : about1.frames = Frame.invoking theMethod args0 :: below0 := rfl
set_option maxRecDepth 65536 in
theorem w_args : argsFit about1.vm theMethod args0 = true := by decide +kernel
set_option maxRecDepth 65536 in
theorem w_heap : heapFits about1 = true := by decide +kernel
set_option maxRecDepth 65536 in
theorem w_runnable : about1.curStatus? = some .runnable := by decide +kernel
set_option maxRecDepth 65536 in
theorem w_alone : about1.alone = true := by decide +kernel
set_option maxRecDepth 65536 in
theorem w_named : about1.methodNamed? x = some theMethod := by decide +kernel
set_option maxRecDepth 65536 in
theorem w_hears : about1.hears theMethod below0 = true := by decide +kernel
set_option maxRecDepth 65536 in
theorem w_ripe : about1.ripe theMethod args0 below0 = true := by decide +kernel
theorem w_running : about1.status = .running := rfl
set_option maxRecDepth 65536 in
theorem w_room : about1.hasRoom e0.platform room_1 = true :=
  launch0.hasRoom_least _ room_1 (by decide +kernel) (by decide +kernel) (by decide +kernel) (by decide +kernel) (by decide +kernel) (by decide +kernel)
theorem allAtoms_all (ts : List Jvm.Cond) (a : Array Jvm.Value) (st : Jvm.State) : (allAtoms ts).before a st = ts.all (fun c => c.before a st) := by
  induction ts with
  | nil => rfl
  | cons c t ih =>
    show (Jvm.Cond.and c (allAtoms t)).before a st = _
    rw [Jvm.Cond.before_and, ih, List.all_cons]
def words1 : List Jvm.Cond := Jvm.Cond.code x code maxLocals ret :: tables_1
/-- a 'code' word, met by the world's own term for the bytes: nothing is compared byte by byte -/
theorem code_word {y : MethodName} {bytes : ByteArray} {mx : Nat} {rt : Option FieldType} {a : Array Value} {s : State} {m : MethodId} {meth : Method} {c : Code} (h1 : s.methodNamed? y = some m) (h2 : s.vm.method? m = some meth) (h3 : meth.code = some c) (h4 : c.code = bytes)
    (h5 : (c.maxLocals == mx && c.exceptionTable.isEmpty && decide (c.maxStack ≤ mostOperands) && decide (meth.sig.returnType = rt) && !meth.locks && decide (parseMethodDescriptor y.desc = some meth.sig)) = true) : (Jvm.Cond.code y bytes mx rt).before a s = true := by
  simp only [Bool.and_eq_true, beq_iff_eq, Bool.not_eq_true', decide_eq_true_eq] at h5
  obtain ⟨⟨⟨⟨⟨g1, g2⟩, g3⟩, g4⟩, g5⟩, g6⟩ := h5
  simp [Cond.before, Cond.holds, Cond.value, h1, h2, h3, h4, g1, g2, g3, g4, g5, g6]
def isCode : Jvm.Cond → Bool
  | .code _ _ _ _ => true
  | _ => false
theorem all_split {L : List Jvm.Cond} {P : Jvm.Cond → Bool} (h1 : L.all (fun c => isCode c || P c) = true) (h2 : ∀ c ∈ L.filter isCode, P c = true) : L.all P = true := by
  refine List.all_eq_true.mpr fun c hc => ?_
  have h := List.all_eq_true.mp h1 c hc
  rcases Bool.eq_false_or_eq_true (isCode c) with hi | hi
  · exact h2 c (List.mem_filter.mpr ⟨hc, hi⟩)
  · simpa [hi] using h
set_option maxRecDepth 65536 in
theorem w_c0 : (Jvm.Cond.code x code maxLocals ret).before args0 about1 = true := code_word (m := ⟨1, 1⟩) (meth := k1m1) (c := k1c1) (by decide +kernel) rfl rfl rfl (by decide +kernel)
set_option maxRecDepth 65536 in
theorem w_c1 : (Jvm.Cond.code ({ cls := "com/example/fleetwave/fleetwave/model/DrivingSpeed", name := "<init>", desc := "(D)V" } : Jvm.MethodName) prog_42_method_1_code (3 : Nat) (Option.none : Option Jvm.ClassFile.FieldType)).before args0 about1 = true := code_word (m := ⟨3, 0⟩) (meth := k3m0) (c := k3c0) (by decide +kernel) rfl rfl rfl (by decide +kernel)
set_option maxRecDepth 65536 in
theorem w_c2 : (Jvm.Cond.code ({ cls := "java/lang/Record", name := "<init>", desc := "()V" } : Jvm.MethodName) jdk_30_method_1_code (1 : Nat) (Option.none : Option Jvm.ClassFile.FieldType)).before args0 about1 = true := code_word (m := ⟨2, 0⟩) (meth := k2m0) (c := k2c0) (by decide +kernel) rfl rfl rfl (by decide +kernel)
set_option maxRecDepth 65536 in
theorem w_c3 : (Jvm.Cond.code ({ cls := "java/lang/Object", name := "<init>", desc := "()V" } : Jvm.MethodName) object_method_1_code (1 : Nat) (Option.none : Option Jvm.ClassFile.FieldType)).before args0 about1 = true := code_word (m := ⟨0, 0⟩) (meth := k0m0) (c := k0c0) (by decide +kernel) rfl rfl rfl (by decide +kernel)
set_option maxRecDepth 65536 in
theorem w_c4 : (Jvm.Cond.code ({ cls := "java/lang/Double", name := "isInfinite", desc := "(D)Z" } : Jvm.MethodName) jdk_117_method_7_code (2 : Nat) (Option.some Jvm.ClassFile.FieldType.boolean)).before args0 about1 = true := code_word (m := ⟨9, 0⟩) (meth := k9m0) (c := k9c0) (by decide +kernel) rfl rfl rfl (by decide +kernel)
set_option maxRecDepth 65536 in
theorem w_c5 : (Jvm.Cond.code ({ cls := "java/lang/Math", name := "abs", desc := "(D)D" } : Jvm.MethodName) jdk_29_method_64_code (2 : Nat) (Option.some Jvm.ClassFile.FieldType.double)).before args0 about1 = true := code_word (m := ⟨10, 1⟩) (meth := k10m1) (c := k10c1) (by decide +kernel) rfl rfl rfl (by decide +kernel)
set_option maxRecDepth 65536 in
theorem w_c6 : (Jvm.Cond.code ({ cls := "com/example/fleetwave/fleetwave/model/DrivingSpeed", name := "seconds", desc := "(D)D" } : Jvm.MethodName) prog_42_method_2_code (3 : Nat) (Option.some Jvm.ClassFile.FieldType.double)).before args0 about1 = true := code_word (m := ⟨3, 1⟩) (meth := k3m1) (c := k3c1) (by decide +kernel) rfl rfl rfl (by decide +kernel)
def codes1 : List Jvm.Cond := [Jvm.Cond.code x code maxLocals ret, Jvm.Cond.code ({ cls := "com/example/fleetwave/fleetwave/model/DrivingSpeed", name := "<init>", desc := "(D)V" } : Jvm.MethodName) prog_42_method_1_code (3 : Nat) (Option.none : Option Jvm.ClassFile.FieldType), Jvm.Cond.code ({ cls := "java/lang/Record", name := "<init>", desc := "()V" } : Jvm.MethodName) jdk_30_method_1_code (1 : Nat) (Option.none : Option Jvm.ClassFile.FieldType), Jvm.Cond.code ({ cls := "java/lang/Object", name := "<init>", desc := "()V" } : Jvm.MethodName) object_method_1_code (1 : Nat) (Option.none : Option Jvm.ClassFile.FieldType), Jvm.Cond.code ({ cls := "java/lang/Double", name := "isInfinite", desc := "(D)Z" } : Jvm.MethodName) jdk_117_method_7_code (2 : Nat) (Option.some Jvm.ClassFile.FieldType.boolean), Jvm.Cond.code ({ cls := "java/lang/Math", name := "abs", desc := "(D)D" } : Jvm.MethodName) jdk_29_method_64_code (2 : Nat) (Option.some Jvm.ClassFile.FieldType.double), Jvm.Cond.code ({ cls := "com/example/fleetwave/fleetwave/model/DrivingSpeed", name := "seconds", desc := "(D)D" } : Jvm.MethodName) prog_42_method_2_code (3 : Nat) (Option.some Jvm.ClassFile.FieldType.double)]
set_option maxRecDepth 65536 in
theorem codes_eq : words1.filter isCode = codes1 := rfl
theorem w_codes : ∀ c ∈ words1.filter isCode, c.before args0 about1 = true := by
  rw [codes_eq]
  intro c hc
  simp only [codes1, List.mem_cons, List.not_mem_nil, or_false] at hc
  rcases hc with rfl | rfl | rfl | rfl | rfl | rfl | rfl
  · exact w_c0
  · exact w_c1
  · exact w_c2
  · exact w_c3
  · exact w_c4
  · exact w_c5
  · exact w_c6
set_option maxRecDepth 65536 in
theorem w_t1 : (words1.take 24).all (fun c => isCode c || c.before args0 about1) = true := by decide +kernel
set_option maxRecDepth 65536 in
theorem w_t2 : (words1.drop 24).all (fun c => isCode c || c.before args0 about1) = true := by decide +kernel
theorem w_tables : (allAtoms (Jvm.Cond.code x code maxLocals ret :: tables_1)).before args0 about1 = true := by
  rw [allAtoms_all]
  show words1.all (fun c => c.before args0 about1) = true
  refine all_split ?_ w_codes
  rw [← List.take_append_drop 24 words1, List.all_append, w_t1, w_t2]
  rfl
set_option maxRecDepth 65536 in
theorem w_case : (Jvm.Cond.and given_1 narrow_1).before args0 about1 = true := by decide +kernel
theorem w_applies : (headSpec (Jvm.Cond.code x code maxLocals ret :: tables_1) room_1).applies x e0.platform about1 = true :=
  (Spec.applies_iff w_frames).mpr ⟨w_running, w_runnable, w_alone, w_named, w_hears, w_ripe, w_room, w_tables⟩
theorem atStart : AtStart classFile x code maxLocals ret World_1 tables_1 room_1 Calls_1 rest_1 Pre_1 launch0 p0 e0 about1 theMethod args0 below0 :=
  ⟨lists_1, trivial, launch0.admits_env _ _ _, launch0.least_env, fairChoices_fair.cas, fairChoices_fair.clock, w_frames, w_args, w_heap, w_applies, trivial, trivial, w_case⟩
end start1
theorem witness_1 : WitnessClaimed_1 := ⟨start1.p0, start1.e0, start1.about1, start1.theMethod, start1.args0, start1.below0, start1.atStart⟩
end Jvm.Pilot.@@N@@
