import JvmDerived
import JvmDerived.Pilot.@@N@@Statement
import JvmDerived.Pilot.@@N@@Code
set_option linter.unusedVariables false
set_option linter.unusedSimpArgs false
set_option maxHeartbeats 4000000
namespace Jvm.OwnK
open Sem ClassFile Op Lib Jvm.Free Jvm.Stand Jvm.LawKit Jvm.RoadKit
theorem iadd {tb : Tables} [Ours tb] {e : Env} {below : List Frame} {T target : State} {m : MethodId} {c : Code} {g : JFrame} (h : At T m c below) (hx : tb.exec = Jvm.exec) (hg : g.method = m) {x v : Int32} {y : Int32} {rest : List Value} (hd : decode c.code g.pc = .ok (.iadd, 1)) (hs : g.stack = .int y :: .int x :: rest) (hv : x + y = v)
    (hr : Steps tb e below (T.setTop { g with pc := g.pc + 1, stack := .int v :: rest }) target) : Steps tb e below (T.setTop g) target := by
  subst hv
  exact XS.iadd h hx hg hd hs hr
theorem isub {tb : Tables} [Ours tb] {e : Env} {below : List Frame} {T target : State} {m : MethodId} {c : Code} {g : JFrame} (h : At T m c below) (hx : tb.exec = Jvm.exec) (hg : g.method = m) {x v : Int32} {y : Int32} {rest : List Value} (hd : decode c.code g.pc = .ok (.isub, 1)) (hs : g.stack = .int y :: .int x :: rest) (hv : x - y = v)
    (hr : Steps tb e below (T.setTop { g with pc := g.pc + 1, stack := .int v :: rest }) target) : Steps tb e below (T.setTop g) target := by
  subst hv
  exact XS.isub h hx hg hd hs hr
theorem imul {tb : Tables} [Ours tb] {e : Env} {below : List Frame} {T target : State} {m : MethodId} {c : Code} {g : JFrame} (h : At T m c below) (hx : tb.exec = Jvm.exec) (hg : g.method = m) {x v : Int32} {y : Int32} {rest : List Value} (hd : decode c.code g.pc = .ok (.imul, 1)) (hs : g.stack = .int y :: .int x :: rest) (hv : x * y = v)
    (hr : Steps tb e below (T.setTop { g with pc := g.pc + 1, stack := .int v :: rest }) target) : Steps tb e below (T.setTop g) target := by
  subst hv
  exact XS.imul h hx hg hd hs hr
theorem iand {tb : Tables} [Ours tb] {e : Env} {below : List Frame} {T target : State} {m : MethodId} {c : Code} {g : JFrame} (h : At T m c below) (hx : tb.exec = Jvm.exec) (hg : g.method = m) {x v : Int32} {y : Int32} {rest : List Value} (hd : decode c.code g.pc = .ok (.iand, 1)) (hs : g.stack = .int y :: .int x :: rest) (hv : x &&& y = v)
    (hr : Steps tb e below (T.setTop { g with pc := g.pc + 1, stack := .int v :: rest }) target) : Steps tb e below (T.setTop g) target := by
  subst hv
  exact XS.iand h hx hg hd hs hr
theorem ior {tb : Tables} [Ours tb] {e : Env} {below : List Frame} {T target : State} {m : MethodId} {c : Code} {g : JFrame} (h : At T m c below) (hx : tb.exec = Jvm.exec) (hg : g.method = m) {x v : Int32} {y : Int32} {rest : List Value} (hd : decode c.code g.pc = .ok (.ior, 1)) (hs : g.stack = .int y :: .int x :: rest) (hv : x ||| y = v)
    (hr : Steps tb e below (T.setTop { g with pc := g.pc + 1, stack := .int v :: rest }) target) : Steps tb e below (T.setTop g) target := by
  subst hv
  exact XS.ior h hx hg hd hs hr
theorem ixor {tb : Tables} [Ours tb] {e : Env} {below : List Frame} {T target : State} {m : MethodId} {c : Code} {g : JFrame} (h : At T m c below) (hx : tb.exec = Jvm.exec) (hg : g.method = m) {x v : Int32} {y : Int32} {rest : List Value} (hd : decode c.code g.pc = .ok (.ixor, 1)) (hs : g.stack = .int y :: .int x :: rest) (hv : x ^^^ y = v)
    (hr : Steps tb e below (T.setTop { g with pc := g.pc + 1, stack := .int v :: rest }) target) : Steps tb e below (T.setTop g) target := by
  subst hv
  exact XS.ixor h hx hg hd hs hr
theorem ishl {tb : Tables} [Ours tb] {e : Env} {below : List Frame} {T target : State} {m : MethodId} {c : Code} {g : JFrame} (h : At T m c below) (hx : tb.exec = Jvm.exec) (hg : g.method = m) {x v : Int32} {y : Int32} {rest : List Value} (hd : decode c.code g.pc = .ok (.ishl, 1)) (hs : g.stack = .int y :: .int x :: rest) (hv : x <<< (y &&& 31) = v)
    (hr : Steps tb e below (T.setTop { g with pc := g.pc + 1, stack := .int v :: rest }) target) : Steps tb e below (T.setTop g) target := by
  subst hv
  exact XS.ishl h hx hg hd hs hr
theorem ishr {tb : Tables} [Ours tb] {e : Env} {below : List Frame} {T target : State} {m : MethodId} {c : Code} {g : JFrame} (h : At T m c below) (hx : tb.exec = Jvm.exec) (hg : g.method = m) {x v : Int32} {y : Int32} {rest : List Value} (hd : decode c.code g.pc = .ok (.ishr, 1)) (hs : g.stack = .int y :: .int x :: rest) (hv : x >>> (y &&& 31) = v)
    (hr : Steps tb e below (T.setTop { g with pc := g.pc + 1, stack := .int v :: rest }) target) : Steps tb e below (T.setTop g) target := by
  subst hv
  exact XS.ishr h hx hg hd hs hr
theorem iushr {tb : Tables} [Ours tb] {e : Env} {below : List Frame} {T target : State} {m : MethodId} {c : Code} {g : JFrame} (h : At T m c below) (hx : tb.exec = Jvm.exec) (hg : g.method = m) {x v : Int32} {y : Int32} {rest : List Value} (hd : decode c.code g.pc = .ok (.iushr, 1)) (hs : g.stack = .int y :: .int x :: rest) (hv : (x.toUInt32 >>> (y &&& 31).toUInt32).toInt32 = v)
    (hr : Steps tb e below (T.setTop { g with pc := g.pc + 1, stack := .int v :: rest }) target) : Steps tb e below (T.setTop g) target := by
  subst hv
  exact XS.iushr h hx hg hd hs hr
theorem idiv {tb : Tables} [Ours tb] {e : Env} {below : List Frame} {T target : State} {m : MethodId} {c : Code} {g : JFrame} (h : At T m c below) (hx : tb.exec = Jvm.exec) (hg : g.method = m) {x v : Int32} {y : Int32} {rest : List Value} (hd : decode c.code g.pc = .ok (.idiv, 1)) (hs : g.stack = .int y :: .int x :: rest) (hy : ¬ y = 0) (hv : x / y = v)
    (hr : Steps tb e below (T.setTop { g with pc := g.pc + 1, stack := .int v :: rest }) target) : Steps tb e below (T.setTop g) target := by
  subst hv
  exact XS.idiv h hx hg hd hs hy hr
theorem irem {tb : Tables} [Ours tb] {e : Env} {below : List Frame} {T target : State} {m : MethodId} {c : Code} {g : JFrame} (h : At T m c below) (hx : tb.exec = Jvm.exec) (hg : g.method = m) {x v : Int32} {y : Int32} {rest : List Value} (hd : decode c.code g.pc = .ok (.irem, 1)) (hs : g.stack = .int y :: .int x :: rest) (hy : ¬ y = 0) (hv : x % y = v)
    (hr : Steps tb e below (T.setTop { g with pc := g.pc + 1, stack := .int v :: rest }) target) : Steps tb e below (T.setTop g) target := by
  subst hv
  have q : x - x / y * y = x % y := irem_eq_mod x y
  exact XS.irem h hx hg hd hs hy (by rw [q]; exact hr)
theorem ladd {tb : Tables} [Ours tb] {e : Env} {below : List Frame} {T target : State} {m : MethodId} {c : Code} {g : JFrame} (h : At T m c below) (hx : tb.exec = Jvm.exec) (hg : g.method = m) {x v : Int64} {y : Int64} {rest : List Value} (hd : decode c.code g.pc = .ok (.ladd, 1)) (hs : g.stack = .long y :: .long x :: rest) (hv : x + y = v)
    (hr : Steps tb e below (T.setTop { g with pc := g.pc + 1, stack := .long v :: rest }) target) : Steps tb e below (T.setTop g) target := by
  subst hv
  exact XS.ladd h hx hg hd hs hr
theorem lsub {tb : Tables} [Ours tb] {e : Env} {below : List Frame} {T target : State} {m : MethodId} {c : Code} {g : JFrame} (h : At T m c below) (hx : tb.exec = Jvm.exec) (hg : g.method = m) {x v : Int64} {y : Int64} {rest : List Value} (hd : decode c.code g.pc = .ok (.lsub, 1)) (hs : g.stack = .long y :: .long x :: rest) (hv : x - y = v)
    (hr : Steps tb e below (T.setTop { g with pc := g.pc + 1, stack := .long v :: rest }) target) : Steps tb e below (T.setTop g) target := by
  subst hv
  exact XS.lsub h hx hg hd hs hr
theorem lmul {tb : Tables} [Ours tb] {e : Env} {below : List Frame} {T target : State} {m : MethodId} {c : Code} {g : JFrame} (h : At T m c below) (hx : tb.exec = Jvm.exec) (hg : g.method = m) {x v : Int64} {y : Int64} {rest : List Value} (hd : decode c.code g.pc = .ok (.lmul, 1)) (hs : g.stack = .long y :: .long x :: rest) (hv : x * y = v)
    (hr : Steps tb e below (T.setTop { g with pc := g.pc + 1, stack := .long v :: rest }) target) : Steps tb e below (T.setTop g) target := by
  subst hv
  exact XS.lmul h hx hg hd hs hr
theorem land {tb : Tables} [Ours tb] {e : Env} {below : List Frame} {T target : State} {m : MethodId} {c : Code} {g : JFrame} (h : At T m c below) (hx : tb.exec = Jvm.exec) (hg : g.method = m) {x v : Int64} {y : Int64} {rest : List Value} (hd : decode c.code g.pc = .ok (.land, 1)) (hs : g.stack = .long y :: .long x :: rest) (hv : x &&& y = v)
    (hr : Steps tb e below (T.setTop { g with pc := g.pc + 1, stack := .long v :: rest }) target) : Steps tb e below (T.setTop g) target := by
  subst hv
  exact XS.land h hx hg hd hs hr
theorem lor {tb : Tables} [Ours tb] {e : Env} {below : List Frame} {T target : State} {m : MethodId} {c : Code} {g : JFrame} (h : At T m c below) (hx : tb.exec = Jvm.exec) (hg : g.method = m) {x v : Int64} {y : Int64} {rest : List Value} (hd : decode c.code g.pc = .ok (.lor, 1)) (hs : g.stack = .long y :: .long x :: rest) (hv : x ||| y = v)
    (hr : Steps tb e below (T.setTop { g with pc := g.pc + 1, stack := .long v :: rest }) target) : Steps tb e below (T.setTop g) target := by
  subst hv
  exact XS.lor h hx hg hd hs hr
theorem lxor {tb : Tables} [Ours tb] {e : Env} {below : List Frame} {T target : State} {m : MethodId} {c : Code} {g : JFrame} (h : At T m c below) (hx : tb.exec = Jvm.exec) (hg : g.method = m) {x v : Int64} {y : Int64} {rest : List Value} (hd : decode c.code g.pc = .ok (.lxor, 1)) (hs : g.stack = .long y :: .long x :: rest) (hv : x ^^^ y = v)
    (hr : Steps tb e below (T.setTop { g with pc := g.pc + 1, stack := .long v :: rest }) target) : Steps tb e below (T.setTop g) target := by
  subst hv
  exact XS.lxor h hx hg hd hs hr
theorem lshl {tb : Tables} [Ours tb] {e : Env} {below : List Frame} {T target : State} {m : MethodId} {c : Code} {g : JFrame} (h : At T m c below) (hx : tb.exec = Jvm.exec) (hg : g.method = m) {x v : Int64} {y : Int32} {rest : List Value} (hd : decode c.code g.pc = .ok (.lshl, 1)) (hs : g.stack = .int y :: .long x :: rest) (hv : x <<< (y &&& 0x3f).toInt64 = v)
    (hr : Steps tb e below (T.setTop { g with pc := g.pc + 1, stack := .long v :: rest }) target) : Steps tb e below (T.setTop g) target := by
  subst hv
  exact XS.lshl h hx hg hd hs hr
theorem lshr {tb : Tables} [Ours tb] {e : Env} {below : List Frame} {T target : State} {m : MethodId} {c : Code} {g : JFrame} (h : At T m c below) (hx : tb.exec = Jvm.exec) (hg : g.method = m) {x v : Int64} {y : Int32} {rest : List Value} (hd : decode c.code g.pc = .ok (.lshr, 1)) (hs : g.stack = .int y :: .long x :: rest) (hv : x >>> (y &&& 0x3f).toInt64 = v)
    (hr : Steps tb e below (T.setTop { g with pc := g.pc + 1, stack := .long v :: rest }) target) : Steps tb e below (T.setTop g) target := by
  subst hv
  exact XS.lshr h hx hg hd hs hr
theorem lushr {tb : Tables} [Ours tb] {e : Env} {below : List Frame} {T target : State} {m : MethodId} {c : Code} {g : JFrame} (h : At T m c below) (hx : tb.exec = Jvm.exec) (hg : g.method = m) {x v : Int64} {y : Int32} {rest : List Value} (hd : decode c.code g.pc = .ok (.lushr, 1)) (hs : g.stack = .int y :: .long x :: rest) (hv : (x.toUInt64 >>> (y &&& 0x3f).toInt64.toUInt64).toInt64 = v)
    (hr : Steps tb e below (T.setTop { g with pc := g.pc + 1, stack := .long v :: rest }) target) : Steps tb e below (T.setTop g) target := by
  subst hv
  exact XS.lushr h hx hg hd hs hr
theorem ldiv {tb : Tables} [Ours tb] {e : Env} {below : List Frame} {T target : State} {m : MethodId} {c : Code} {g : JFrame} (h : At T m c below) (hx : tb.exec = Jvm.exec) (hg : g.method = m) {x v : Int64} {y : Int64} {rest : List Value} (hd : decode c.code g.pc = .ok (.ldiv, 1)) (hs : g.stack = .long y :: .long x :: rest) (hy : ¬ y = 0) (hv : x / y = v)
    (hr : Steps tb e below (T.setTop { g with pc := g.pc + 1, stack := .long v :: rest }) target) : Steps tb e below (T.setTop g) target := by
  subst hv
  exact XS.ldiv h hx hg hd hs hy hr
theorem lrem {tb : Tables} [Ours tb] {e : Env} {below : List Frame} {T target : State} {m : MethodId} {c : Code} {g : JFrame} (h : At T m c below) (hx : tb.exec = Jvm.exec) (hg : g.method = m) {x v : Int64} {y : Int64} {rest : List Value} (hd : decode c.code g.pc = .ok (.lrem, 1)) (hs : g.stack = .long y :: .long x :: rest) (hy : ¬ y = 0) (hv : x % y = v)
    (hr : Steps tb e below (T.setTop { g with pc := g.pc + 1, stack := .long v :: rest }) target) : Steps tb e below (T.setTop g) target := by
  subst hv
  have q : x - x / y * y = x % y := lrem_mod x y
  exact XS.lrem h hx hg hd hs hy (by rw [q]; exact hr)
theorem ineg {tb : Tables} [Ours tb] {e : Env} {below : List Frame} {T target : State} {m : MethodId} {c : Code} {g : JFrame} (h : At T m c below) (hx : tb.exec = Jvm.exec) (hg : g.method = m) {x : Int32} {v : Int32} {rest : List Value} (hd : decode c.code g.pc = .ok (.ineg, 1)) (hs : g.stack = .int x :: rest) (hv : -x = v)
    (hr : Steps tb e below (T.setTop { g with pc := g.pc + 1, stack := .int v :: rest }) target) : Steps tb e below (T.setTop g) target := by
  subst hv
  exact XS.ineg h hx hg hd hs hr
theorem lneg {tb : Tables} [Ours tb] {e : Env} {below : List Frame} {T target : State} {m : MethodId} {c : Code} {g : JFrame} (h : At T m c below) (hx : tb.exec = Jvm.exec) (hg : g.method = m) {x : Int64} {v : Int64} {rest : List Value} (hd : decode c.code g.pc = .ok (.lneg, 1)) (hs : g.stack = .long x :: rest) (hv : -x = v)
    (hr : Steps tb e below (T.setTop { g with pc := g.pc + 1, stack := .long v :: rest }) target) : Steps tb e below (T.setTop g) target := by
  subst hv
  exact XS.lneg h hx hg hd hs hr
theorem i2l {tb : Tables} [Ours tb] {e : Env} {below : List Frame} {T target : State} {m : MethodId} {c : Code} {g : JFrame} (h : At T m c below) (hx : tb.exec = Jvm.exec) (hg : g.method = m) {x : Int32} {v : Int64} {rest : List Value} (hd : decode c.code g.pc = .ok (.i2l, 1)) (hs : g.stack = .int x :: rest) (hv : x.toInt64 = v)
    (hr : Steps tb e below (T.setTop { g with pc := g.pc + 1, stack := .long v :: rest }) target) : Steps tb e below (T.setTop g) target := by
  subst hv
  exact XS.i2l h hx hg hd hs hr
theorem l2i {tb : Tables} [Ours tb] {e : Env} {below : List Frame} {T target : State} {m : MethodId} {c : Code} {g : JFrame} (h : At T m c below) (hx : tb.exec = Jvm.exec) (hg : g.method = m) {x : Int64} {v : Int32} {rest : List Value} (hd : decode c.code g.pc = .ok (.l2i, 1)) (hs : g.stack = .long x :: rest) (hv : x.toInt32 = v)
    (hr : Steps tb e below (T.setTop { g with pc := g.pc + 1, stack := .int v :: rest }) target) : Steps tb e below (T.setTop g) target := by
  subst hv
  exact XS.l2i h hx hg hd hs hr
theorem i2b {tb : Tables} [Ours tb] {e : Env} {below : List Frame} {T target : State} {m : MethodId} {c : Code} {g : JFrame} (h : At T m c below) (hx : tb.exec = Jvm.exec) (hg : g.method = m) {x : Int32} {v : Int32} {rest : List Value} (hd : decode c.code g.pc = .ok (.i2b, 1)) (hs : g.stack = .int x :: rest) (hv : x.toInt8.toInt32 = v)
    (hr : Steps tb e below (T.setTop { g with pc := g.pc + 1, stack := .int v :: rest }) target) : Steps tb e below (T.setTop g) target := by
  subst hv
  exact XS.i2b h hx hg hd hs hr
theorem i2s {tb : Tables} [Ours tb] {e : Env} {below : List Frame} {T target : State} {m : MethodId} {c : Code} {g : JFrame} (h : At T m c below) (hx : tb.exec = Jvm.exec) (hg : g.method = m) {x : Int32} {v : Int32} {rest : List Value} (hd : decode c.code g.pc = .ok (.i2s, 1)) (hs : g.stack = .int x :: rest) (hv : x.toInt16.toInt32 = v)
    (hr : Steps tb e below (T.setTop { g with pc := g.pc + 1, stack := .int v :: rest }) target) : Steps tb e below (T.setTop g) target := by
  subst hv
  exact XS.i2s h hx hg hd hs hr
theorem dadd {tb : Tables} [Ours tb] {e : Env} {below : List Frame} {T target : State} {m : MethodId} {c : Code} {g : JFrame} (h : At T m c below) (hx : tb.exec = Jvm.exec) (hg : g.method = m) {x y v : UInt64} {rest : List Value} (hd : decode c.code g.pc = .ok (.dadd, 1)) (hs : g.stack = .double y :: .double x :: rest) (hv : FP.dadd x y = v) (hn : Jvm.Free.Fl.NoNaN64 v)
    (hr : Steps tb e below (T.setTop { g with pc := g.pc + 1, stack := .double v :: rest }) target) : Steps tb e below (T.setTop g) target := by
  subst hv
  exact XS.daddS h hx hg hd hs hn rfl hr
theorem dsub {tb : Tables} [Ours tb] {e : Env} {below : List Frame} {T target : State} {m : MethodId} {c : Code} {g : JFrame} (h : At T m c below) (hx : tb.exec = Jvm.exec) (hg : g.method = m) {x y v : UInt64} {rest : List Value} (hd : decode c.code g.pc = .ok (.dsub, 1)) (hs : g.stack = .double y :: .double x :: rest) (hv : FP.dsub x y = v) (hn : Jvm.Free.Fl.NoNaN64 v)
    (hr : Steps tb e below (T.setTop { g with pc := g.pc + 1, stack := .double v :: rest }) target) : Steps tb e below (T.setTop g) target := by
  subst hv
  exact XS.dsubS h hx hg hd hs hn rfl hr
theorem dmul {tb : Tables} [Ours tb] {e : Env} {below : List Frame} {T target : State} {m : MethodId} {c : Code} {g : JFrame} (h : At T m c below) (hx : tb.exec = Jvm.exec) (hg : g.method = m) {x y v : UInt64} {rest : List Value} (hd : decode c.code g.pc = .ok (.dmul, 1)) (hs : g.stack = .double y :: .double x :: rest) (hv : FP.dmul x y = v) (hn : Jvm.Free.Fl.NoNaN64 v)
    (hr : Steps tb e below (T.setTop { g with pc := g.pc + 1, stack := .double v :: rest }) target) : Steps tb e below (T.setTop g) target := by
  subst hv
  exact XS.dmulS h hx hg hd hs hn rfl hr
theorem ddiv {tb : Tables} [Ours tb] {e : Env} {below : List Frame} {T target : State} {m : MethodId} {c : Code} {g : JFrame} (h : At T m c below) (hx : tb.exec = Jvm.exec) (hg : g.method = m) {x y v : UInt64} {rest : List Value} (hd : decode c.code g.pc = .ok (.ddiv, 1)) (hs : g.stack = .double y :: .double x :: rest) (hv : FP.ddiv x y = v) (hn : Jvm.Free.Fl.NoNaN64 v)
    (hr : Steps tb e below (T.setTop { g with pc := g.pc + 1, stack := .double v :: rest }) target) : Steps tb e below (T.setTop g) target := by
  subst hv
  exact XS.ddivS h hx hg hd hs hn rfl hr
theorem drem {tb : Tables} [Ours tb] {e : Env} {below : List Frame} {T target : State} {m : MethodId} {c : Code} {g : JFrame} (h : At T m c below) (hx : tb.exec = Jvm.exec) (hg : g.method = m) {x y v : UInt64} {rest : List Value} (hd : decode c.code g.pc = .ok (.drem, 1)) (hs : g.stack = .double y :: .double x :: rest) (hv : FP.drem x y = v) (hn : Jvm.Free.Fl.NoNaN64 v)
    (hr : Steps tb e below (T.setTop { g with pc := g.pc + 1, stack := .double v :: rest }) target) : Steps tb e below (T.setTop g) target := by
  subst hg
  subst hv
  obtain ⟨gm, gp, gl, gs, gk, ge, gr⟩ := g
  simp only at hs hd
  subst hs
  jvm_step h [h.top, hx, hd, Op.drem.at_number h.top hn]
  exact hr
theorem lcmp {tb : Tables} [Ours tb] {e : Env} {below : List Frame} {T target : State} {m : MethodId} {c : Code} {g : JFrame} (h : At T m c below) (hx : tb.exec = Jvm.exec) (hg : g.method = m) {x y : Int64} {v : Int32} {rest : List Value} (hd : decode c.code g.pc = .ok (.lcmp, 1)) (hs : g.stack = .long y :: .long x :: rest) (hv : lcmpW x y = v)
    (hr : Steps tb e below (T.setTop { g with pc := g.pc + 1, stack := .int v :: rest }) target) : Steps tb e below (T.setTop g) target := by
  subst hv
  exact XS.lcmp h hx hg hd hs hr
theorem iinc {tb : Tables} [Ours tb] {e : Env} {below : List Frame} {T target : State} {m : MethodId} {c : Code} {g : JFrame} (h : At T m c below) (hx : tb.exec = Jvm.exec) (hg : g.method = m) {k : Nat} {cst : Int} {x v : Int32} {l' : Array Slot} (hd : decode c.code g.pc = .ok (.iinc k cst, 3)) (hl : g.locals[k]? = some (.val (.int x))) (hv : x + Int32.ofInt cst = v) (hl' : storeLocals g.locals k (.int v) = some l')
    (hr : Steps tb e below (T.setTop { g with pc := g.pc + 3, locals := l' }) target) : Steps tb e below (T.setTop g) target := by
  subst hv
  exact XS.iinc h hx hg hd hl hl' hr
theorem dup2 {tb : Tables} [Ours tb] {e : Env} {below : List Frame} {T target : State} {m : MethodId} {c : Code} {g : JFrame} (h : At T m c below) (hx : tb.exec = Jvm.exec) (hg : g.method = m) {x y : Value} {rest : List Value} (hd : decode c.code g.pc = .ok (.dup2, 1)) (hs : g.stack = x :: y :: rest) (hc : x.category = 1) (hc' : y.category = 1)
    (hr : Steps tb e below (T.setTop { g with pc := g.pc + 1, stack := x :: y :: x :: y :: rest }) target) : Steps tb e below (T.setTop g) target := Jvm.Free.XT.dup2 h hx hg hd hs hc hc' hr
theorem dup2W {tb : Tables} [Ours tb] {e : Env} {below : List Frame} {T target : State} {m : MethodId} {c : Code} {g : JFrame} (h : At T m c below) (hx : tb.exec = Jvm.exec) (hg : g.method = m) {x : Value} {rest : List Value} (hd : decode c.code g.pc = .ok (.dup2, 1)) (hs : g.stack = x :: rest) (hc : x.category = 2)
    (hr : Steps tb e below (T.setTop { g with pc := g.pc + 1, stack := x :: x :: rest }) target) : Steps tb e below (T.setTop g) target := by
  subst hg
  jvm_step h [h.top, hx, hd, hs, hc]
  exact hr
theorem Sta_keep {Z : State} {h h' : Heap} {C n d : String} {w : Value} {ws : List Addr} (F : Sta Z h C n d w) (K : Keep h h' ws) (hn : ∀ x ∈ ws, ∀ cell : Cell, h[x]? = some cell → cell.vm.isStatics = false) : Sta Z h' C n d w := by
  obtain ⟨cf, i, k, f, st, cell, h1, h2, h3, h4, h5, h6, h7⟩ := F
  refine ⟨cf, i, k, f, st, cell, h1, h2, h3, h4, K.2.1 st cell h5 (fun q => ?_), h6, h7⟩
  rw [hn st q cell h5] at h6; cases h6
end Jvm.OwnK
namespace Jvm.OwnF
open Jvm.FP Jvm.FP.Core
/-! doubles as whole numbers of units of 2^-1074 -/
def V (a : UInt64) : Int := zval b64 (val64 a)
def BIG : Nat := 2 ^ 2000
/-- the rounding of n / d, in units -/
def rnd (n : Int) (d : Nat) : Int := zval b64 (roundRatio b64 (decide (n < 0)) n.natAbs d (-1074))
theorem zval_zero (s : Bool) (d : Nat) (e : Int) : zval b64 (roundRatio b64 s 0 d e) = 0 := by
  unfold roundRatio
  rw [if_pos rfl]
  show signed s (0 * 2 ^ (b64.qmin - b64.qmin).toNat) = 0
  rw [Nat.zero_mul, signed_zero]
theorem rnd_signed (s : Bool) (N d : Nat) : zval b64 (roundRatio b64 s N d (-1074)) = rnd (signed s N) d := by
  unfold rnd
  rw [natAbs_signed]
  by_cases h : N = 0
  · subst h; rw [zval_zero, zval_zero]
  · rw [signed_lt_zero s (by omega)]
theorem signed_natAbs (n : Int) : signed (decide (n < 0)) n.natAbs = n := by
  unfold signed
  by_cases h : n < 0 <;> simp [h] <;> omega
theorem bigV : Jvm.FP.Core.fits b64 (.fin false (2 ^ 52) 874) := by refine ⟨?_, ?_, ?_, ?_⟩ <;> decide
theorem bigZ : zmag b64 (.fin false (2 ^ 52) 874) = BIG := by
  show 2 ^ 52 * 2 ^ (874 - b64.qmin).toNat = 2 ^ 2000
  rw [qmin_b64, show (874 - (-1074) : Int).toNat = 1948 from rfl, ← Nat.pow_add]
theorem big_lt : BIG < b64.tails * 2 ^ (b64.exps - 2) := by
  rw [tails_b64, show b64.exps - 2 = 2046 by decide, ← Nat.pow_add]
  exact Nat.pow_lt_pow_right (by decide) (by decide)
theorem un0 (A : Nat) : inUnits A (-1074) (-1074) = A := by unfold inUnits; simp
theorem round_le_big {s : Bool} {A B : Nat} (hB : 0 < B) (h : A ≤ BIG * B) : zmag b64 (roundRatio b64 s A B (-1074)) ≤ BIG := by
  have := zmag_roundRatio_le good_b64 (s := s) (A := A) (B := B) (e := -1074) (e0 := -1074) hB bigV Datum.noConfusion (by rw [qmin_b64]; decide) (by decide) (by rw [bigZ, un0, qmin_b64]; simpa using h)
  rwa [bigZ] at this
theorem fin_round {s : Bool} {A B : Nat} (hB : 0 < B) (h : A ≤ BIG * B) : ∃ c q, roundRatio b64 s A B (-1074) = .fin s c q := by
  rcases roundRatio_cases b64 s A B (-1074) with h1 | h1
  · exact h1
  · exfalso
    have h2 := round_le_big (s := s) hB h
    rw [h1] at h2
    have h3 : zmag b64 (.inf s) = b64.tails * 2 ^ (b64.exps - 2) := rfl
    have := big_lt
    omega
theorem noNaN_fin {a : UInt64} (h : DFin a) : Jvm.Free.Fl.NoNaN64 a := by
  rw [Jvm.Free.Fl.val64_no]; obtain ⟨s, c, q, e⟩ := h; rw [e]; exact Datum.noConfusion
theorem V_dadd {a b : UInt64} (ha : DFin a) (hb : DFin b) (h : (V a + V b).natAbs ≤ BIG) : DFin (FP.dadd a b) ∧ V (FP.dadd a b) = rnd (V a + V b) 1 := by
  obtain ⟨s, c, q, ea⟩ := ha
  obtain ⟨t, d, r, eb⟩ := hb
  have fa : Jvm.FP.Core.fits b64 (.fin s c q) := ea ▸ val64_fits a
  have fb : Jvm.FP.Core.fits b64 (.fin t d r) := eb ▸ val64_fits b
  obtain ⟨sg, n, e, p1, p2, p3⟩ := sum_units fa fb
  rw [qmin_b64] at p2 p3
  have hv : val64 (FP.dadd a b) = roundRatio b64 sg (inUnits n e (-1074)) 1 (-1074) := by
    rw [show FP.dadd a b = Core.dadd a b from rfl, val64_dadd, ea, eb, p1]
    show roundRatio b64 sg n 1 e = _
    refine roundRatio_congr (by decide) (by decide) ?_
    rw [show (-1074 - e).toNat = 0 by omega]
    unfold inUnits; simp
  have hS : signed sg (inUnits n e (-1074)) = V a + V b := by unfold V; rw [ea, eb]; exact p3
  have hN : inUnits n e (-1074) = (V a + V b).natAbs := by rw [← hS, natAbs_signed]
  obtain ⟨c', q', hh⟩ := fin_round (s := sg) (A := inUnits n e (-1074)) (B := 1) (by decide) (by rw [Nat.mul_one, hN]; exact h)
  refine ⟨⟨sg, c', q', hv.trans hh⟩, ?_⟩
  show zval b64 (val64 (FP.dadd a b)) = _
  rw [hv, rnd_signed, hS]
theorem V_neg (a : UInt64) : V (Core.dneg a) = -V a := by unfold V; rw [Core.val64_dneg, zval_negate]
theorem fin_neg {a : UInt64} (h : DFin a) : DFin (Core.dneg a) := by
  obtain ⟨s, c, q, e⟩ := h
  exact ⟨!s, c, q, by rw [Core.val64_dneg, e]; rfl⟩
theorem V_dsub {a b : UInt64} (ha : DFin a) (hb : DFin b) (h : (V a - V b).natAbs ≤ BIG) : DFin (FP.dsub a b) ∧ V (FP.dsub a b) = rnd (V a - V b) 1 := by
  have e : FP.dsub a b = FP.dadd a (Core.dneg b) := dsub_eq a b
  rw [e]
  have := V_dadd ha (fin_neg hb) (by rw [V_neg]; exact h)
  rw [V_neg] at this
  exact this
theorem zmag_V (a : UInt64) : zmag b64 (val64 a) = (V a).natAbs := by unfold V zval; rw [natAbs_signed]
theorem V_dmul {a b : UInt64} (ha : DFin a) (hb : DFin b) (h : (V a * V b).natAbs ≤ BIG * one64) : DFin (FP.dmul a b) ∧ V (FP.dmul a b) = rnd (V a * V b) one64 := by
  have za := zmag_V a
  have zb := zmag_V b
  obtain ⟨s, c, q, ea⟩ := ha
  obtain ⟨t, d, r, eb⟩ := hb
  have fa : Jvm.FP.Core.fits b64 (.fin s c q) := ea ▸ val64_fits a
  have fb : Jvm.FP.Core.fits b64 (.fin t d r) := eb ▸ val64_fits b
  obtain ⟨p1, p2, p3⟩ := product_units fa fb
  rw [← ea, ← eb, za, zb, ← Int.natAbs_mul] at p3
  rw [qmin_b64] at p2 p3
  have hv : val64 (FP.dmul a b) = roundRatio b64 (s != t) (V a * V b).natAbs one64 (-1074) := by
    rw [show FP.dmul a b = Core.dmul a b from rfl, val64_dmul, ea, eb, p1]
    show roundRatio b64 (s != t) (c * d) 1 (q + r) = _
    refine roundRatio_congr (by decide) one64_pos ?_
    rw [← p3]
    unfold inUnits one64
    rw [Nat.mul_one, Nat.mul_assoc (c * d), Nat.mul_assoc (c * d), ← Nat.pow_add, ← Nat.pow_add]
    congr 2
    omega
  have hS : signed (s != t) (V a * V b).natAbs = V a * V b := by
    rw [Int.natAbs_mul, signed_xor, ← za, ← zb]
    unfold V zval
    rw [ea, eb]
    rfl
  obtain ⟨c', q', hh⟩ := fin_round (s := s != t) (A := (V a * V b).natAbs) (B := one64) one64_pos h
  refine ⟨⟨_, c', q', hv.trans hh⟩, ?_⟩
  show zval b64 (val64 (FP.dmul a b)) = _
  rw [hv, rnd_signed, hS]
theorem pw2 (c d x y : Nat) : c * (d * 2 ^ x) * 2 ^ y = c * d * 2 ^ (x + y) := by rw [Nat.pow_add]; ac_rfl
theorem pw3 (c d x y z : Nat) : c * 2 ^ x * 2 ^ y * d * 2 ^ z = c * d * 2 ^ (x + y + z) := by rw [Nat.pow_add, Nat.pow_add]; ac_rfl
theorem V_ddiv {a b : UInt64} (ha : DFin a) (hb : DFin b) (h0 : V b ≠ 0) (h : (V a).natAbs * one64 ≤ BIG * (V b).natAbs) : DFin (FP.ddiv a b) ∧ V (FP.ddiv a b) = rnd (V a * (one64 : Int) * (V b).sign) (V b).natAbs := by
  have za := zmag_V a
  have zb := zmag_V b
  have sb : (V b).sign = signed (sgn (val64 b)) 1 := by
    unfold V zval at h0 ⊢
    cases hsg : sgn (val64 b) <;> rw [hsg] at h0 <;> simp only [signed, if_true, Bool.false_eq_true, if_false] at h0 ⊢
    · exact Int.sign_eq_one_of_pos (by omega)
    · exact Int.sign_eq_neg_one_of_neg (by omega)
  obtain ⟨s, c, q, ea⟩ := ha
  obtain ⟨t, d, r, eb⟩ := hb
  have fa : Jvm.FP.Core.fits b64 (.fin s c q) := ea ▸ val64_fits a
  have fb : Jvm.FP.Core.fits b64 (.fin t d r) := eb ▸ val64_fits b
  have hq1 := fa.2.1
  have hr1 := fb.2.1
  rw [qmin_b64] at hq1 hr1
  have ma : (V a).natAbs = c * 2 ^ (q - (-1074)).toNat := by rw [← za, ea]; show inUnits c q b64.qmin = _; rw [qmin_b64]; rfl
  have mb : (V b).natAbs = d * 2 ^ (r - (-1074)).toNat := by rw [← zb, eb]; show inUnits d r b64.qmin = _; rw [qmin_b64]; rfl
  have hd0 : d ≠ 0 := by
    rintro rfl
    rw [Nat.zero_mul] at mb; omega
  have hBp : 0 < (V b).natAbs := by omega
  have hv : val64 (FP.ddiv a b) = roundRatio b64 (s != t) ((V a).natAbs * one64) (V b).natAbs (-1074) := by
    rw [show FP.ddiv a b = Core.ddiv a b from rfl, val64_ddiv, ea, eb]
    simp only [quotient, if_neg hd0]
    refine roundRatio_congr (by omega) hBp ?_
    rw [ma, mb]
    unfold one64
    rw [pw2, pw3]
    congr 2
    omega
  have hS : signed (s != t) ((V a).natAbs * one64) = V a * (one64 : Int) * (V b).sign := by
    rw [sb, eb]
    show _ = _ * signed t 1
    have : signed (s != t) ((V a).natAbs * one64 * 1) = signed s ((V a).natAbs * one64) * signed t 1 := signed_xor s t _ 1
    rw [Nat.mul_one] at this
    rw [this, signed_mul]
    congr 2
    rw [← za]
    unfold V zval
    rw [ea]
    rfl
  obtain ⟨c', q', hh⟩ := fin_round (s := s != t) (A := (V a).natAbs * one64) (B := (V b).natAbs) hBp h
  refine ⟨⟨_, c', q', hv.trans hh⟩, ?_⟩
  show zval b64 (val64 (FP.ddiv a b)) = _
  rw [hv, rnd_signed, hS]
theorem V_of_int {a : UInt64} {n : Int} (ha : val64 a = round b64 (ofInt n)) (h : n.natAbs ≤ 2 ^ 64) : DFin a ∧ V a = rnd (n * (one64 : Int)) 1 := by
  have hv : val64 a = roundRatio b64 (decide (n < 0)) (n.natAbs * one64) 1 (-1074) := by
    rw [ha]
    show roundRatio b64 (decide (n < 0)) n.natAbs 1 0 = _
    refine roundRatio_congr (by decide) (by decide) ?_
    unfold one64
    rw [show (0 - (-1074) : Int).toNat = 1074 from rfl, show (-1074 - 0 : Int).toNat = 0 from rfl]
    simp
  have hS : signed (decide (n < 0)) (n.natAbs * one64) = n * (one64 : Int) := by rw [signed_mul, signed_natAbs]
  have hB : n.natAbs * one64 ≤ BIG := by
    refine Nat.le_trans (Nat.mul_le_mul_right _ h) ?_
    unfold one64 BIG
    rw [← Nat.pow_add]
    exact Nat.pow_le_pow_right (by decide) (by decide)
  obtain ⟨c', q', hh⟩ := fin_round (s := decide (n < 0)) (A := n.natAbs * one64) (B := 1) (by decide) (by rw [Nat.mul_one]; exact hB)
  refine ⟨⟨_, c', q', hv.trans hh⟩, ?_⟩
  show zval b64 (val64 a) = _
  rw [hv, rnd_signed, hS]
theorem V_l2d (n : Int64) : DFin (FP.l2d n) ∧ V (FP.l2d n) = rnd (n.toInt * (one64 : Int)) 1 :=
  V_of_int (val64_l2d n) (Nat.le_trans (int64_abs n) (by decide))
theorem V_i2d (n : Int32) : DFin (FP.i2d n) ∧ V (FP.i2d n) = rnd (n.toInt * (one64 : Int)) 1 :=
  V_of_int (val64_i2d n) (Nat.le_trans (int32_abs n) (by decide))
theorem V_drem {a b : UInt64} (ha : DFin a) (hb : DFin b) (h0 : V b ≠ 0) : DFin (FP.drem a b) ∧ V (FP.drem a b) = (V a).tmod (V b) := by
  have za := zmag_V a
  have zb := zmag_V b
  obtain ⟨s, c, q, ea⟩ := ha
  obtain ⟨t, d, r, eb⟩ := hb
  have fa : Jvm.FP.Core.fits b64 (.fin s c q) := ea ▸ val64_fits a
  have fb : Jvm.FP.Core.fits b64 (.fin t d r) := eb ▸ val64_fits b
  have hd0 : d ≠ 0 := by
    rintro rfl
    rw [eb] at zb
    have : zmag b64 (.fin t 0 r) = 0 := Nat.zero_mul _
    omega
  obtain ⟨c', q', h1, h2⟩ := remainder_exact good_b64 fa fb hd0
  have hv : val64 (FP.drem a b) = .fin s c' q' := by rw [show FP.drem a b = Core.drem a b from rfl, val64_drem, ea, eb, h1]
  refine ⟨⟨_, _, _, hv⟩, ?_⟩
  have h3 : zmag b64 (.fin s c' q') = (V a).natAbs % (V b).natAbs := by rw [← za, ← zb, ea, eb]; exact h2
  have hVa : V a = signed s (V a).natAbs := by rw [← za]; unfold V zval; rw [ea]; rfl
  show zval b64 (val64 (FP.drem a b)) = _
  rw [hv]
  show signed s (zmag b64 (.fin s c' q')) = _
  rw [h3]
  have hb2 : ∀ x : Int, x.tmod (V b) = x.tmod ((V b).natAbs : Int) := by
    intro x
    rcases Int.natAbs_eq (V b) with e | e
    · rw [← e]
    · rw [e, Int.tmod_neg]; simp
  rw [hb2]
  generalize (V b).natAbs = B at *
  generalize (V a).natAbs = A at *
  rw [hVa]
  cases s <;> simp [signed] <;> exact (Int.tmod_eq_emod_of_nonneg (Int.natCast_nonneg A)).symm
theorem cmp_V {a b : UInt64} (ha : DFin a) (hb : DFin b) : FP.dcmp a b = some (compare (V a) (V b)) := by
  obtain ⟨s, c, q, ea⟩ := ha
  obtain ⟨t, d, r, eb⟩ := hb
  exact dcmp_zval (by rw [ea]; exact Datum.noConfusion) (by rw [eb]; exact Datum.noConfusion)
/-! the rounding -/
theorem rnd_congr {n n' : Int} {d d' : Nat} (hd : 0 < d) (hd' : 0 < d') (h : n * (d' : Int) = n' * (d : Int)) : rnd n d = rnd n' d' := by
  have hs : (n < 0) ↔ (n' < 0) := by
    have p1 : (0 : Int) < d := by omega
    have p2 : (0 : Int) < d' := by omega
    constructor
    · intro q
      have := Int.mul_neg_of_neg_of_pos q p2
      refine Int.lt_of_not_ge fun q' => ?_
      have := Int.mul_nonneg q' (Int.le_of_lt p1)
      omega
    · intro q
      have := Int.mul_neg_of_neg_of_pos q p1
      refine Int.lt_of_not_ge fun q' => ?_
      have := Int.mul_nonneg q' (Int.le_of_lt p2)
      omega
  have hm : n.natAbs * d' = n'.natAbs * d := by
    have := congrArg Int.natAbs h
    rwa [Int.natAbs_mul, Int.natAbs_mul, Int.natAbs_natCast, Int.natAbs_natCast] at this
  unfold rnd
  rw [show decide (n < 0) = decide (n' < 0) from decide_eq_decide.mpr hs]
  congr 1
  exact roundRatio_congr hd hd' (by simpa using hm)
/-- at most 53 binary digits -/
def Rep (r : Int) : Prop := ∃ (m : Int) (e : Nat), r = m * ((2 ^ e : Nat) : Int) ∧ m.natAbs < 2 ^ 53 ∧ e ≤ 2045
theorem rnd_exact {n : Int} {d : Nat} {r : Int} (hd : 0 < d) (h : n = r * (d : Int)) (hr : Rep r) : rnd n d = r := by
  rw [rnd_congr (n' := r) (d' := 1) hd (by decide) (by rw [h]; simp)]
  obtain ⟨m, e, rfl, hm, he⟩ := hr
  have hsg : ∀ k : Nat, signed (decide (m < 0)) (m.natAbs * k) = m * (k : Int) := fun k => by rw [signed_mul, signed_natAbs]
  have h1 : rnd (m * ((2 ^ e : Nat) : Int)) 1 = zval b64 (roundRatio b64 (decide (m < 0)) (m.natAbs * 2 ^ e) 1 (-1074)) := by rw [rnd_signed, hsg]
  rw [h1]
  obtain ⟨c', q', h2, h3⟩ := round_exact good_b64 (decide (m < 0)) (c := m.natAbs) (q := (e : Int) - 1074) hm (by rw [qmin_b64]; omega) (by rw [show b64.qmax = 971 by decide]; omega)
  have h4 : roundRatio b64 (decide (m < 0)) (m.natAbs * 2 ^ e) 1 (-1074) = roundRatio b64 (decide (m < 0)) m.natAbs 1 ((e : Int) - 1074) := by
    refine roundRatio_congr (by decide) (by decide) ?_
    rw [show (-1074 - ((e : Int) - 1074)).toNat = 0 by omega, show ((e : Int) - 1074 - -1074).toNat = e by omega]
    simp
  rw [h4]
  have h5 : roundRatio b64 (decide (m < 0)) m.natAbs 1 ((e : Int) - 1074) = .fin (decide (m < 0)) c' q' := h2
  rw [h5]
  show signed _ (inUnits c' q' b64.qmin) = _
  rw [h3, ← hsg]
  unfold inUnits
  rw [qmin_b64, show ((e : Int) - 1074 - -1074).toNat = e by omega]
  rfl
theorem rep_V {a : UInt64} (ha : DFin a) : Rep (V a) := by
  obtain ⟨s, c, q, ea⟩ := ha
  have fa : Jvm.FP.Core.fits b64 (.fin s c q) := ea ▸ val64_fits a
  obtain ⟨h1, h2, h3, -⟩ := fa
  rw [qmin_b64] at h2
  rw [show b64.qmax = 971 by decide] at h3
  refine ⟨signed s c, (q - (-1074)).toNat, ?_, by rw [natAbs_signed]; exact h1, by omega⟩
  unfold V zval
  rw [ea]
  show signed s (c * 2 ^ (q - b64.qmin).toNat) = _
  rw [signed_mul, qmin_b64]
theorem V_le {a : UInt64} : (V a).natAbs ≤ (V a).natAbs := Nat.le_refl _
end Jvm.OwnF
namespace Jvm.OwnF
open Jvm.FP Jvm.FP.Core
/-! exact values: a is n / 2^k -/
def R53 (n : Int) : Prop := ∃ (m : Int) (e : Nat), n = m * ((2 ^ e : Nat) : Int) ∧ m.natAbs ≤ 2 ^ 53 ∧ e ≤ 800
def DV (n : Int) (k : Nat) (a : UInt64) : Prop := DFin a ∧ k ≤ 1074 ∧ V a = n * ((2 ^ (1074 - k) : Nat) : Int)
theorem r53 {n : Int} (h : n.natAbs ≤ 2 ^ 53) : R53 n := ⟨n, 0, by simp, h, by decide⟩
theorem rep_of {m : Int} {e : Nat} (hm : m.natAbs ≤ 2 ^ 53) (he : e ≤ 1900) : Rep (m * ((2 ^ e : Nat) : Int)) := by
  by_cases h : m.natAbs < 2 ^ 53
  · exact ⟨m, e, rfl, h, by omega⟩
  · refine ⟨m.sign, e + 53, ?_, ?_, by omega⟩
    · have h1 : m.natAbs = 2 ^ 53 := by omega
      have h2 : m = m.sign * (m.natAbs : Int) := (Int.sign_mul_natAbs m).symm
      conv => lhs; rw [h2, h1]
      rw [Nat.pow_add, Int.natCast_mul, Int.mul_assoc]
      congr 1
      rw [Int.mul_comm]
    · have : m.sign.natAbs ≤ 1 := by
        rcases Int.lt_trichotomy m 0 with q | q | q
        · rw [Int.sign_eq_neg_one_of_neg q]; decide
        · rw [q]; decide
        · rw [Int.sign_eq_one_of_pos q]; decide
      omega
theorem rep_R {n : Int} (h : R53 n) {k : Nat} (hk : k ≤ 1074) : Rep (n * ((2 ^ k : Nat) : Int)) := by
  obtain ⟨m, e, rfl, hm, he⟩ := h
  rw [Int.mul_assoc, ← Int.natCast_mul, ← Nat.pow_add]
  exact rep_of hm (by omega)
theorem big_R {n : Int} (h : R53 n) {k : Nat} (hk : k ≤ 1074) : (n * ((2 ^ k : Nat) : Int)).natAbs ≤ BIG := by
  obtain ⟨m, e, rfl, hm, he⟩ := h
  rw [Int.natAbs_mul, Int.natAbs_mul, Int.natAbs_natCast, Int.natAbs_natCast, Nat.mul_assoc, ← Nat.pow_add]
  refine Nat.le_trans (Nat.mul_le_mul_right _ hm) ?_
  unfold BIG
  rw [← Nat.pow_add]
  exact Nat.pow_le_pow_right (by decide) (by omega)
theorem DV.fin {n : Int} {k : Nat} {a : UInt64} (h : DV n k a) : DFin a := h.1
theorem DV.nn {n : Int} {k : Nat} {a : UInt64} (h : DV n k a) : Jvm.Free.Fl.NoNaN64 a := noNaN_fin h.1
theorem DV.of_eq {n m : Int} {k : Nat} {a : UInt64} (h : DV n k a) (e : n = m) : DV m k a := e ▸ h
theorem DV.up {n : Int} {k : Nat} {a : UInt64} (h : DV n k a) (j : Nat) (hj : k + j ≤ 1074) : DV (n * ((2 ^ j : Nat) : Int)) (k + j) a := by
  refine ⟨h.1, hj, ?_⟩
  rw [h.2.2, Int.mul_assoc, ← Int.natCast_mul, ← Nat.pow_add]
  congr 4
  omega
theorem DV.down {n : Int} {k j : Nat} {a : UInt64} (h : DV (n * ((2 ^ j : Nat) : Int)) (k + j) a) : DV n k a := by
  refine ⟨h.1, by have := h.2.1; omega, ?_⟩
  rw [h.2.2, Int.mul_assoc, ← Int.natCast_mul, ← Nat.pow_add]
  congr 4
  have := h.2.1; omega
theorem DV_of_V {n : Int} {k : Nat} {a : UInt64} (hf : DFin a) (hk : k ≤ 1074) (hn : R53 n) (h : V a = rnd (n * ((2 ^ (1074 - k) : Nat) : Int)) 1) : DV n k a :=
  ⟨hf, hk, by rw [h]; exact rnd_exact (by decide) (by simp) (rep_R hn (by omega))⟩
theorem DV_add {n m : Int} {k : Nat} {a b : UInt64} (ha : DV n k a) (hb : DV m k b) (h : R53 (n + m)) : DV (n + m) k (FP.dadd a b) := by
  have e : V a + V b = (n + m) * ((2 ^ (1074 - k) : Nat) : Int) := by rw [ha.2.2, hb.2.2, Int.add_mul]
  obtain ⟨h1, h2⟩ := V_dadd ha.1 hb.1 (by rw [e]; exact big_R h (by omega))
  exact DV_of_V h1 ha.2.1 h (by rw [h2, e])
theorem DV_sub {n m : Int} {k : Nat} {a b : UInt64} (ha : DV n k a) (hb : DV m k b) (h : R53 (n - m)) : DV (n - m) k (FP.dsub a b) := by
  have e : V a - V b = (n - m) * ((2 ^ (1074 - k) : Nat) : Int) := by rw [ha.2.2, hb.2.2, Int.sub_mul]
  obtain ⟨h1, h2⟩ := V_dsub ha.1 hb.1 (by rw [e]; exact big_R h (by omega))
  exact DV_of_V h1 ha.2.1 h (by rw [h2, e])
theorem DV_mul {n m : Int} {k j : Nat} {a b : UInt64} (ha : DV n k a) (hb : DV m j b) (hkj : k + j ≤ 1074) (h : R53 (n * m)) : DV (n * m) (k + j) (FP.dmul a b) := by
  have e : V a * V b = (n * m) * ((2 ^ (1074 - (k + j)) : Nat) : Int) * (one64 : Int) := by
    rw [ha.2.2, hb.2.2]
    have : ((2 ^ (1074 - (k + j)) : Nat) : Int) * (one64 : Int) = ((2 ^ (1074 - k) : Nat) : Int) * ((2 ^ (1074 - j) : Nat) : Int) := by
      rw [← Int.natCast_mul, ← Int.natCast_mul]
      unfold one64
      rw [← Nat.pow_add, ← Nat.pow_add]
      congr 2
      have := ha.2.1; have := hb.2.1; omega
    rw [Int.mul_assoc (n * m), this]
    ac_rfl
  obtain ⟨h1, h2⟩ := V_dmul ha.1 hb.1 (by
    rw [e, Int.natAbs_mul, Int.natAbs_natCast]
    exact Nat.mul_le_mul_right _ (big_R h (by omega)))
  refine ⟨h1, hkj, ?_⟩
  rw [h2]
  exact rnd_exact one64_pos e (rep_R h (by omega))
theorem divalg {n c m P Q X U I J : Int} (h : n * P = c * m * Q) (e2 : X * Q = U) (e3 : I * J * P = U * U) : n * X * U * (Q * P) = c * I * (m * J) * (Q * P) := by
  have l : n * X * U * (Q * P) = (n * P) * (X * Q) * U := by ac_rfl
  have r : c * I * (m * J) * (Q * P) = c * m * Q * (I * J * P) := by ac_rfl
  rw [l, r, h, e2, e3, Int.mul_assoc (c * m * Q)]
theorem DV_div {n m c : Int} {k j i : Nat} {a b : UInt64} (ha : DV n k a) (hb : DV m j b) (hi : i ≤ 1074) (hm : m ≠ 0) (hc : R53 c) (h : n * ((2 ^ (j + i) : Nat) : Int) = c * m * ((2 ^ k : Nat) : Int)) : DV c i (FP.ddiv a b) := by
  have hb0 : V b ≠ 0 := by
    rw [hb.2.2]
    intro q
    rcases Int.mul_eq_zero.mp q with q | q
    · exact hm q
    · have := Nat.two_pow_pos (1074 - j); omega
  have hk := ha.2.1
  have hj := hb.2.1
  -- V a * U = (c * 2^(1074 - i)) * V b
  have e : V a * (one64 : Int) = c * ((2 ^ (1074 - i) : Nat) : Int) * V b := by
    have pp : ((2 ^ (k + j + i) : Nat) : Int) ≠ 0 := by have := Nat.two_pow_pos (k + j + i); omega
    refine Int.eq_of_mul_eq_mul_right pp ?_
    rw [ha.2.2, hb.2.2]
    have e1 : ((2 ^ (k + j + i) : Nat) : Int) = ((2 ^ k : Nat) : Int) * ((2 ^ (j + i) : Nat) : Int) := by rw [← Int.natCast_mul, ← Nat.pow_add, Nat.add_assoc]
    have e2 : ((2 ^ (1074 - k) : Nat) : Int) * ((2 ^ k : Nat) : Int) = (one64 : Int) := by rw [← Int.natCast_mul, ← Nat.pow_add, Nat.sub_add_cancel hk]; rfl
    have e3 : ((2 ^ (1074 - i) : Nat) : Int) * ((2 ^ (1074 - j) : Nat) : Int) * ((2 ^ (j + i) : Nat) : Int) = (one64 : Int) * (one64 : Int) := by
      rw [← Int.natCast_mul, ← Int.natCast_mul, ← Int.natCast_mul]
      unfold one64
      rw [← Nat.pow_add, ← Nat.pow_add, ← Nat.pow_add]
      congr 2
      omega
    rw [e1]
    exact divalg h e2 e3
  have ea : (V a).natAbs * one64 = (c * ((2 ^ (1074 - i) : Nat) : Int)).natAbs * (V b).natAbs := by
    have := congrArg Int.natAbs e
    rwa [Int.natAbs_mul, Int.natAbs_mul, Int.natAbs_natCast] at this
  obtain ⟨h1, h2⟩ := V_ddiv ha.1 hb.1 hb0 (by rw [ea]; exact Nat.mul_le_mul_right _ (big_R hc (by omega)))
  refine ⟨h1, hi, ?_⟩
  rw [h2]
  refine rnd_exact (by omega) ?_ (rep_R hc (by omega))
  rw [e, Int.mul_assoc, Int.mul_sign_self]
theorem DV_l2d {n : Int64} (h : R53 n.toInt) : DV n.toInt 0 (FP.l2d n) := by
  obtain ⟨h1, h2⟩ := V_l2d n
  exact DV_of_V h1 (by decide) h h2
theorem DV_i2d (n : Int32) : DV n.toInt 0 (FP.i2d n) := by
  obtain ⟨h1, h2⟩ := V_i2d n
  exact DV_of_V h1 (by decide) (r53 (Nat.le_trans (int32_abs n) (by decide))) h2
theorem DV_const {a : UInt64} {n : Int} {k : Nat} (h1 : a.toNat % 2 ^ 63 < 9218868437227405312) (hk : k ≤ 1074) (h2 : V a = n * ((2 ^ (1074 - k) : Nat) : Int)) : DV n k a := ⟨(fin_bits a).mpr h1, hk, h2⟩
theorem DV_0 : DV 0 0 FP.dconst0 := DV_const (by decide) (by decide) (by decide +kernel)
theorem DV_1 : DV 1 0 FP.dconst1 := DV_const (by decide) (by decide) (by decide +kernel)
theorem DV_z : DV 0 0 (0 : UInt64) := DV_const (by decide) (by decide) (by decide +kernel)
theorem cmpv_V {a b : UInt64} (ha : DFin a) (hb : DFin b) (o : ClassFile.CmpOp) : (V a < V b → Op.cmpValue (FP.dcmp a b) o = -1) ∧ (V a = V b → Op.cmpValue (FP.dcmp a b) o = 0) ∧ (V b < V a → Op.cmpValue (FP.dcmp a b) o = 1) := by
  rw [cmp_V ha hb]
  refine ⟨fun h => ?_, fun h => ?_, fun h => ?_⟩
  · rw [(compare_lt_iff _ _).mpr h]; rfl
  · rw [(compare_eq_iff _ _).mpr h]; rfl
  · rw [(compare_gt_iff _ _).mpr h]; rfl
theorem DV_le {n m : Int} {k : Nat} {a b : UInt64} (ha : DV n k a) (hb : DV m k b) : (V a < V b ↔ n < m) ∧ (V a = V b ↔ n = m) := by
  rw [ha.2.2, hb.2.2]
  have hp : (0 : Int) < ((2 ^ (1074 - k) : Nat) : Int) := by have := Nat.two_pow_pos (1074 - k); omega
  exact ⟨Int.mul_lt_mul_right hp, ⟨fun q => Int.eq_of_mul_eq_mul_right (by omega) q, fun q => by rw [q]⟩⟩
theorem DV_cmp {n m : Int} {k : Nat} {a b : UInt64} (ha : DV n k a) (hb : DV m k b) (o : ClassFile.CmpOp) : (n < m → Op.cmpValue (FP.dcmp a b) o = -1) ∧ (n = m → Op.cmpValue (FP.dcmp a b) o = 0) ∧ (m < n → Op.cmpValue (FP.dcmp a b) o = 1) := by
  obtain ⟨h1, h2, h3⟩ := cmpv_V ha.1 hb.1 o
  exact ⟨fun q => h1 ((DV_le ha hb).1.mpr q), fun q => h2 ((DV_le ha hb).2.mpr q), fun q => h3 ((DV_le hb ha).1.mpr q)⟩
theorem DV_eq0 {n : Int} {k : Nat} {a b : UInt64} (ha : DV n k a) (hb : DV n k b) (o : ClassFile.CmpOp) : Op.cmpValue (FP.dcmp a b) o = 0 := (DV_cmp ha hb o).2.1 rfl
theorem DV_d2l {n : Int} {a : UInt64} (h : DV n 0 a) (h1 : -9223372036854775808 ≤ n) (h2 : n < 9223372036854775808) : (FP.d2l a).toInt = n := by
  obtain ⟨hf, -, hv⟩ := h
  have hn : val64 a ≠ .nan := by obtain ⟨s, c, q, e⟩ := hf; rw [e]; exact Datum.noConfusion
  rw [show FP.d2l a = Core.d2l a from rfl, d2l_val hn, zmag_V]
  have hs : signed (sgn (val64 a)) (V a).natAbs = V a := by rw [← zmag_V]; rfl
  have ho : (1074 - 0 : Nat) = 1074 := rfl
  rw [ho, show (2 ^ 1074 : Nat) = one64 from rfl] at hv
  have hm : (V a).natAbs = n.natAbs * one64 := by rw [hv, Int.natAbs_mul, Int.natAbs_natCast]
  have hd : (V a).natAbs / one64 = n.natAbs := by rw [hm, Nat.mul_div_cancel _ one64_pos]
  rw [hd]
  have hsn : signed (sgn (val64 a)) n.natAbs = n := by
    rw [hm, signed_mul, hv] at hs
    exact Int.eq_of_mul_eq_mul_right (by have := one64_pos; omega) hs
  rw [hsn]
  omega
end Jvm.OwnF
namespace Jvm.OwnF
open Jvm.RoadKit
/-! ints and longs as whole numbers -/
theorem mul_bd {a b : Int} {A B : Nat} (ha : a.natAbs ≤ A) (hb : b.natAbs ≤ B) : (a * b).natAbs ≤ A * B := by rw [Int.natAbs_mul]; exact Nat.mul_le_mul ha hb
theorem iadd_v {x y z : Int32} (h : x + y = z) (hb : (x.toInt + y.toInt).natAbs < 2147483648) : z.toInt = x.toInt + y.toInt := by rw [← h, Int32.toInt_add]; exact Int.bmod_eq_of_le (by omega) (by omega)
theorem isub_v {x y z : Int32} (h : x - y = z) (hb : (x.toInt - y.toInt).natAbs < 2147483648) : z.toInt = x.toInt - y.toInt := by rw [← h, Int32.toInt_sub]; exact Int.bmod_eq_of_le (by omega) (by omega)
theorem imul_v {x y z : Int32} (h : x * y = z) (hb : (x.toInt * y.toInt).natAbs < 2147483648) : z.toInt = x.toInt * y.toInt := by rw [← h, Int32.toInt_mul]; exact Int.bmod_eq_of_le (by omega) (by omega)
theorem ladd_v {x y z : Int64} (h : x + y = z) (hb : (x.toInt + y.toInt).natAbs < 9223372036854775808) : z.toInt = x.toInt + y.toInt := by rw [← h, Int64.toInt_add]; exact Int.bmod_eq_of_le (by omega) (by omega)
theorem lsub_v {x y z : Int64} (h : x - y = z) (hb : (x.toInt - y.toInt).natAbs < 9223372036854775808) : z.toInt = x.toInt - y.toInt := by rw [← h, Int64.toInt_sub]; exact Int.bmod_eq_of_le (by omega) (by omega)
theorem lmul_v {x y z : Int64} (h : x * y = z) (hb : (x.toInt * y.toInt).natAbs < 9223372036854775808) : z.toInt = x.toInt * y.toInt := by rw [← h, Int64.toInt_mul]; exact Int.bmod_eq_of_le (by omega) (by omega)
theorem i2l_v {x : Int32} {z : Int64} (h : x.toInt64 = z) : z.toInt = x.toInt := by rw [← h]; exact c_i2l x
theorem l2i_v {x : Int64} {z : Int32} (h : x.toInt32 = z) (hb : -2147483648 ≤ x.toInt ∧ x.toInt < 2147483648) : z.toInt = x.toInt := by
  rw [← h]; have h1 := c_l2i x; have h2 := rng32 x.toInt32; omega
theorem rng32b (x : Int32) : x.toInt.natAbs ≤ 2147483648 := by have := rng32 x; omega
theorem rng64b (x : Int64) : x.toInt.natAbs ≤ 9223372036854775808 := by have := rng64 x; omega
theorem ishr16 {p z : Int32} (h : p >>> ((16 : Int32) &&& 31) = z) : z.toInt = p.toInt / 65536 := by
  rw [← h, c_ishr p 16 16 (by decide)]; rfl
theorem i2s_b {x z : Int32} (h : x.toInt16.toInt32 = z) : -32768 ≤ z.toInt ∧ z.toInt < 32768 := by rw [← h]; exact (c_i2s x).2
/-- x % y, y > 0, x ≥ 0 -/
theorem irem_v {x y z : Int32} (h : x % y = z) (hx : 0 ≤ x.toInt) : z.toInt = x.toInt % y.toInt := by rw [← h, Int32.toInt_mod]; exact Int.tmod_eq_emod_of_nonneg hx
theorem lrem_v {x y z : Int64} (h : x % y = z) (hx : 0 ≤ x.toInt) : z.toInt = x.toInt % y.toInt := by rw [← h, Int64.toInt_mod]; exact Int.tmod_eq_emod_of_nonneg hx
theorem mask31 {x z : Int32} (h : x &&& (2147483647 : Int32) = z) : 0 ≤ z.toInt ∧ z.toInt < 2147483648 := by
  rw [← h, c_mask x 2147483647 31 (by decide) (by decide)]
  have e : ((2 ^ 31 : Nat) : Int) = 2147483648 := by decide
  rw [e]; omega
/-- x << q, q < 64, no overflow -/
theorem lshl_v {x z : Int64} {q : Int32} (h : x <<< (q &&& 0x3f).toInt64 = z) {k : Nat} (hq : q.toInt = (k : Int)) (hk : k < 64) (hb : (x.toInt * ((2 ^ k : Nat) : Int)).natAbs < 9223372036854775808) : z.toInt = x.toInt * ((2 ^ k : Nat) : Int) := by
  have hn : q.toBitVec.toNat % 64 = k := by
    have e : q.toBitVec.toNat = k := by
      have h1 : q.toBitVec.toInt = (k : Int) := hq
      have h2 := BitVec.toInt_eq_toNat_bmod q.toBitVec
      rw [h1] at h2
      have h3 := q.toBitVec.isLt
      have h4 := Int.bmod_emod (x := (q.toBitVec.toNat : Int)) (m := 2 ^ 32)
      omega
    omega
  have := c_lshl x q k hn
  rw [h] at this
  have r := rng64 z
  omega
end Jvm.OwnF
namespace Jvm.OwnF
open Jvm.RoadKit
theorem nat32 {q : Int32} {k : Nat} (hq : q.toInt = (k : Int)) : q.toBitVec.toNat = k := by
  have h1 : q.toBitVec.toInt = (k : Int) := hq
  have h2 := BitVec.toInt_eq_toNat_bmod q.toBitVec
  rw [h1] at h2
  have h3 := q.toBitVec.isLt
  have h5 := rng32 q
  have h4 := Int.bmod_emod (x := (q.toBitVec.toNat : Int)) (m := 2 ^ 32)
  omega
theorem ishl_v {x z q : Int32} (h : x <<< (q &&& 31) = z) {k : Nat} (hq : q.toInt = (k : Int)) (hk : k < 32) (hb : (x.toInt * ((2 ^ k : Nat) : Int)).natAbs < 2147483648) : z.toInt = x.toInt * ((2 ^ k : Nat) : Int) := by
  have hn : q.toBitVec.toNat % 32 = k := by rw [nat32 hq]; omega
  have := c_ishl x q k hn
  rw [h] at this
  have r := rng32 z
  omega
theorem ishl_1 {z q : Int32} (h : (1 : Int32) <<< (q &&& 31) = z) {k : Nat} (hq : q.toInt = (k : Int)) (hk : k < 31) : z.toInt = ((2 ^ k : Nat) : Int) := by
  have p : 2 ^ k ≤ 2 ^ 30 := Nat.pow_le_pow_right (by decide) (by omega)
  have := ishl_v h hq (by omega) (by rw [show (1 : Int32).toInt = 1 by decide, Int.one_mul, Int.natAbs_natCast]; omega)
  rw [show (1 : Int32).toInt = 1 by decide, Int.one_mul] at this
  exact this
end Jvm.OwnF
namespace Jvm.Pilot.@@N@@
open Jvm Jvm.ClassFile Sem Op Lib Jvm.Free Jvm.Stand Jvm.LawKit Jvm.RoadKit Bundle Jvm.Pilot.@@N@@.Jvm.D
theorem and3 (x : Int32) : x &&& (3 : Int32) = 0 ∨ x &&& (3 : Int32) = 1 ∨ x &&& (3 : Int32) = 2 ∨ x &&& (3 : Int32) = 3 := by
  have h := c_mask x 3 2 (by decide) (by decide)
  have e : ((2 ^ 2 : Nat) : Int) = 4 := by decide
  rw [e] at h
  simp only [← Int32.toInt_inj]
  have e0 : (0 : Int32).toInt = 0 := by decide
  have e1 : (1 : Int32).toInt = 1 := by decide
  have e2 : (2 : Int32).toInt = 2 := by decide
  have e3 : (3 : Int32).toInt = 3 := by decide
  omega
open Jvm.OwnF in
/-- one turn: the exact sum so far, the two components, their product added; the same in longs -/
theorem turn {E : Int} {B : Nat} {u v w x y : UInt64} {a b z1 z2 : Int32} {r s t l m : Int64} (hE : DV E 0 u) (hr : r.toInt = E) (bE : E.natAbs ≤ B) (hB : B ≤ 2147483648) (ha : z1.toInt16.toInt32 = a) (hb : z2.toInt16.toInt32 = b) (hx : FP.i2d a = x) (hy : FP.i2d b = y) (hv : FP.dmul x y = v) (hw : FP.dadd u v = w)
    (h1 : a.toInt64 = l) (h2 : b.toInt64 = m) (h3 : l * m = s) (h4 : r + s = t) : Jvm.Free.Fl.NoNaN64 v ∧ Jvm.Free.Fl.NoNaN64 w ∧ DV (E + a.toInt * b.toInt) 0 w ∧ t.toInt = E + a.toInt * b.toInt ∧ (E + a.toInt * b.toInt).natAbs ≤ B + 1073741824 := by
  have ba := i2s_b ha; have bb := i2s_b hb
  have m1 := mul_bd (A := 32768) (B := 32768) (show a.toInt.natAbs ≤ 32768 by omega) (show b.toInt.natAbs ≤ 32768 by omega)
  have i1 := i2l_v h1; have i2 := i2l_v h2
  have i3 := lmul_v h3 (by rw [i1, i2]; omega)
  rw [i1, i2] at i3
  have i4 := ladd_v h4 (by rw [hr, i3]; omega)
  have dv : DV (a.toInt * b.toInt) 0 v := hv ▸ hx ▸ hy ▸ DV_mul (DV_i2d a) (DV_i2d b) (by decide) (r53 (by omega))
  have dw : DV (E + a.toInt * b.toInt) 0 w := hw ▸ DV_add hE dv (r53 (by omega))
  exact ⟨dv.nn, dw.nn, dw, by rw [i4, hr, i3], by omega⟩
theorem d1_0 : decode prog_32_method_4_code 0 = .ok (.dconst 0, 1) := by decide +kernel
theorem d1_1 : decode prog_32_method_4_code 1 = .ok (.dstore_n 2, 1) := by decide +kernel
theorem d1_2 : decode prog_32_method_4_code 2 = .ok (.iconst 0, 1) := by decide +kernel
theorem d1_3 : decode prog_32_method_4_code 3 = .ok (.istore 4, 2) := by decide +kernel
theorem d1_5 : decode prog_32_method_4_code 5 = .ok (.iload 4, 2) := by decide +kernel
theorem d1_7 : decode prog_32_method_4_code 7 = .ok (.aload_n 1, 1) := by decide +kernel
theorem d1_8 : decode prog_32_method_4_code 8 = .ok (.arraylength, 1) := by decide +kernel
theorem d1_9 : decode prog_32_method_4_code 9 = .ok (.if_icmp .ge 21, 3) := by decide +kernel
theorem d1_30 : decode prog_32_method_4_code 30 = .ok (.dload_n 2, 1) := by decide +kernel
theorem d1_31 : decode prog_32_method_4_code 31 = .ok (.dreturn, 1) := by decide +kernel
theorem pn_0 : plainName "com/example/credal_choice/credalchoice/model/Gambles" = true := by first | (simp [plainName, overriddenIn]; done) | decide +kernel
theorem ef_rm1_0 (m : MethodId) (o0 : Addr) (o1 : Addr) : entryFrame m #[(.ref o0), (.ref o1)] 5 = mkF m 0 #[.val (.ref o0), .val (.ref o1), .unset, .unset, .unset] [] := by first | (simp [entryFrame, mkF, argsToLocals, Value.category]; done) | rfl
theorem d1_12 : decode prog_32_method_4_code 12 = .ok (.dload_n 2, 1) := by decide +kernel
theorem d1_13 : decode prog_32_method_4_code 13 = .ok (.aload_n 0, 1) := by decide +kernel
theorem d1_14 : decode prog_32_method_4_code 14 = .ok (.iload 4, 2) := by decide +kernel
theorem d1_16 : decode prog_32_method_4_code 16 = .ok (.daload, 1) := by decide +kernel
theorem d1_17 : decode prog_32_method_4_code 17 = .ok (.aload_n 1, 1) := by decide +kernel
theorem d1_18 : decode prog_32_method_4_code 18 = .ok (.iload 4, 2) := by decide +kernel
theorem d1_20 : decode prog_32_method_4_code 20 = .ok (.daload, 1) := by decide +kernel
theorem d1_21 : decode prog_32_method_4_code 21 = .ok (.dmul, 1) := by decide +kernel
theorem d1_22 : decode prog_32_method_4_code 22 = .ok (.dadd, 1) := by decide +kernel
theorem d1_23 : decode prog_32_method_4_code 23 = .ok (.dstore_n 2, 1) := by decide +kernel
theorem d1_24 : decode prog_32_method_4_code 24 = .ok (.iinc 4 1, 3) := by decide +kernel
theorem d1_27 : decode prog_32_method_4_code 27 = .ok (.goto (-22), 3) := by decide +kernel
theorem ef_rm1_1 (m : MethodId) (o0 : Addr) (o1 : Addr) : entryFrame m #[(.ref o0), (.ref o1)] 5 = mkF m 0 #[.val (.ref o0), .val (.ref o1), .unset, .unset, .unset] [] := by first | (simp [entryFrame, mkF, argsToLocals, Value.category]; done) | rfl
theorem ef_rm1_2 (m : MethodId) (o0 : Addr) (o1 : Addr) : entryFrame m #[(.ref o0), (.ref o1)] 5 = mkF m 0 #[.val (.ref o0), .val (.ref o1), .unset, .unset, .unset] [] := by first | (simp [entryFrame, mkF, argsToLocals, Value.category]; done) | rfl
theorem ef_rm1_3 (m : MethodId) (o0 : Addr) (o1 : Addr) : entryFrame m #[(.ref o0), (.ref o1)] 5 = mkF m 0 #[.val (.ref o0), .val (.ref o1), .unset, .unset, .unset] [] := by first | (simp [entryFrame, mkF, argsToLocals, Value.category]; done) | rfl
theorem pd_0 : parseMethodDescriptor "([D[D)D" = some ⟨[(.array .double), (.array .double)], some .double⟩ := by decide +kernel
theorem pn_1 : plainName "com/example/credal_choice/credalchoice/model/GamblesExpectationPinLaw" = true := by first | (simp [plainName, overriddenIn]; done) | decide +kernel
theorem ef_rm0 (m : MethodId) (p0 : Int32) (p1 : Int32) (p2 : Int32) (p3 : Int32) : entryFrame m #[(.int p0), (.int p1), (.int p2), (.int p3)] maxLocals = mkF m 0 #[.val (.int p0), .val (.int p1), .val (.int p2), .val (.int p3), .unset, .unset, .unset, .unset, .unset, .unset, .unset, .unset, .unset, .unset, .unset, .unset, .unset, .unset] [] := by first | (simp [entryFrame, mkF, argsToLocals, Value.category, maxLocals]; done) | rfl
def Q1_0 (Z : State) (o0 : Addr) (o1 : Addr) (k_o0 : ClassId) (x0 : UInt64) (k_o1 : ClassId)  (h0 : Heap) (n0 : Nat) (v : Option Value) (h : Heap) (L : List Loc) : Prop := v = some (.double FP.dconst0) ∧ Fr n0 L ∧ h = h0
set_option maxRecDepth 65536 in
set_option maxHeartbeats 40000000 in
theorem rm1_0 (l : Launch) (Z : State) (a0 : Array Value) (hw : ∀ d ∈ tables_1, d.before a0 Z = true) (ws : List Jvm.Cond) (o0 : Addr) (o1 : Addr) (k_o0 : ClassId) (x0 : UInt64) (k_o1 : ClassId)  (h0 : Heap) (n0 : Nat) (Z0 : n0 ≤ h0.size) (V_o0 : Arv Z h0 o0 k_o0 .double (1 : Int32) [(.double x0)] (.double (0 : UInt64))) (V_o1 : Arv Z h0 o1 k_o1 .double (0 : Int32) [] (.double (0 : UInt64))) :
    MetFree l (⟨"com/example/credal_choice/credalchoice/model/Gambles", "expectation", "([D[D)D"⟩ : MethodName) (head1 (Jvm.Cond.code (⟨"com/example/credal_choice/credalchoice/model/Gambles", "expectation", "([D[D)D"⟩ : MethodName) prog_32_method_4_code 5 (some .double) :: ws) ({ frames := 0, cells := 0, slots := 0, locals := 0 } : Room)) (fun a U => a = #[(.ref o0), (.ref o1)] ∧ Z.Warmed39 U.vm ∧ U.heap = h0) (fun _ _ _ _ _ => True) (fun _ U o U' => ∃ v L, o = .returned v ∧ Q1_0 Z o0 o1 k_o0 x0 k_o1  h0 n0 v U'.heap L ∧ FrameEnd U o U' L ({ frames := 0, cells := 0, slots := 0, locals := 0 } : Room).cells ({ frames := 0, cells := 0, slots := 0, locals := 0 } : Room).slots) := by
  refine MetFree.of_bodySF (plainFor_of_name pn_0) hisR ?_
  intro p e s m args below meth c s₁ Bd hml0 hP hK
  obtain ⟨rfl, hZ, hh⟩ := hP
  have hx := Bd.exec
  have hby := Bd.bytes
  have hml : c.maxLocals = 5 := hml0
  have hown : s.vm.findClass "com/example/credal_choice/credalchoice/model/Gambles" = some m.cls := findClass_of_methodNamed Bd.named
  have hnm := (name_of_methodNamed Bd.named Bd.method).1
  have X0 : Stand p l e ({ frames := 0, cells := 0, slots := 0, locals := 0 } : Room) s m #[(.ref o0), (.ref o1)] below meth c s₁ [] 0 0 := Stand.of_body Bd
  have e0 : s₁.heap = h0 := by rw [← hh, Bd.state]; rfl
  have N0 := Fr.nil n0
  have c0 : ∀ t, Steps p.tables e below (s₁.setTop (mkF m 0 #[.val (.ref o0), .val (.ref o1), .unset, .unset, .unset] [])) t → Steps p.tables e below (s₁.setTop (entryFrame m #[(.ref o0), (.ref o1)] 5)) t := fun t k => castTop (ef_rm1_0 m o0 o1) k
  obtain ⟨cl1, Ar1, -, S1, Nn1, -, -⟩ := id V_o1
  have c2 : ∀ t, Steps p.tables e below (s₁.setTop (mkF m 31 #[.val (.ref o0), .val (.ref o1), .val (.double FP.dconst0), .second, .val (.int (0 : Int32))] [(.double FP.dconst0)])) t → Steps p.tables e below (s₁.setTop (entryFrame m #[(.ref o0), (.ref o1)] 5)) t := by
    intro t k
    refine c0 t ?_
    show Steps p.tables e below (s₁.setTop (mkF m 0 #[.val (.ref o0), .val (.ref o1), .unset, .unset, .unset] [])) _
    refine XS.dconst0 X0.here hx rfl (hb hby d1_0) (v := FP.dconst0) rfl ?_
    show Steps p.tables e below (s₁.setTop (mkF m 1 #[.val (.ref o0), .val (.ref o1), .unset, .unset, .unset] [(.double FP.dconst0)])) _
    refine XS.dstoreN X0.here hx rfl (hb hby d1_1) rfl (l' := #[.val (.ref o0), .val (.ref o1), .val (.double FP.dconst0), .second, .unset]) rfl ?_
    show Steps p.tables e below (s₁.setTop (mkF m 2 #[.val (.ref o0), .val (.ref o1), .val (.double FP.dconst0), .second, .unset] [])) _
    refine XS.iconst X0.here hx rfl (hb hby d1_2) ?_
    show Steps p.tables e below (s₁.setTop (mkF m 3 #[.val (.ref o0), .val (.ref o1), .val (.double FP.dconst0), .second, .unset] [(.int (0 : Int32))])) _
    refine XS.istore X0.here hx rfl (hb hby d1_3) rfl (l' := #[.val (.ref o0), .val (.ref o1), .val (.double FP.dconst0), .second, .val (.int (0 : Int32))]) rfl ?_
    show Steps p.tables e below (s₁.setTop (mkF m 5 #[.val (.ref o0), .val (.ref o1), .val (.double FP.dconst0), .second, .val (.int (0 : Int32))] [])) _
    refine XS.iload X0.here hx rfl (hb hby d1_5) rfl ?_
    show Steps p.tables e below (s₁.setTop (mkF m 7 #[.val (.ref o0), .val (.ref o1), .val (.double FP.dconst0), .second, .val (.int (0 : Int32))] [(.int (0 : Int32))])) _
    refine XS.aloadN X0.here hx rfl (hb hby d1_7) rfl rfl ?_
    show Steps p.tables e below (s₁.setTop (mkF m 8 #[.val (.ref o0), .val (.ref o1), .val (.double FP.dconst0), .second, .val (.int (0 : Int32))] [(.ref o1), (.int (0 : Int32))])) _
    refine X0.arraylength hx (by rw [e0]; exact Ar1.1) (State.isArrayOf_alike hZ.alike Ar1.2.1) (g := (mkF m 8 #[.val (.ref o0), .val (.ref o1), .val (.double FP.dconst0), .second, .val (.int (0 : Int32))] [(.ref o1), (.int (0 : Int32))])) rfl rfl (hb hby d1_8) _ ?_
    rw [len_of S1 Nn1]
    show Steps p.tables e below (s₁.setTop (mkF m 9 #[.val (.ref o0), .val (.ref o1), .val (.double FP.dconst0), .second, .val (.int (0 : Int32))] [(.int (0 : Int32)), (.int (0 : Int32))])) _
    refine XS.icmpYes X0.here hx rfl (pc0 := 9) (pc' := 30) rfl (hb hby d1_9) rfl (Jvm.Free.XT.ii_ge_t (by decide)) (by decide) (by decide) ?_
    show Steps p.tables e below (s₁.setTop (mkF m 30 #[.val (.ref o0), .val (.ref o1), .val (.double FP.dconst0), .second, .val (.int (0 : Int32))] [])) _
    refine XS.dloadN X0.here hx rfl (hb hby d1_30) rfl ?_
    exact k
  obtain ⟨fs, hr, hrun, hended, hW, hsame⟩ := X0.leave (v := some (.double FP.dconst0)) (fun h => by rw [Bd.returns] at h; cases h)
  refine ⟨_, _, c2 _ ?_, hrun, hended, _, _, rfl, ?_, ⟨_, rfl⟩, hW, hsame.mono (by decide) (by decide)⟩
  · show Steps p.tables e below (s₁.setTop (mkF m 31 #[.val (.ref o0), .val (.ref o1), .val (.double FP.dconst0), .second, .val (.int (0 : Int32))] [(.double FP.dconst0)])) _
    exact retOut X0 hx Bd.returns rfl (Or.inr (Or.inr (Or.inl ⟨rfl, rfl, _, rfl⟩))) (hb hby d1_31) hr
  · show Q1_0 Z o0 o1 k_o0 x0 k_o1  h0 n0 _ s₁.heap _
    rw [e0]
    exact ⟨rfl, N0, rfl⟩
def Q1_1 (Z : State) (o0 : Addr) (o1 : Addr) (k_o0 : ClassId) (x0 : UInt64) (x1 : UInt64) (k_o1 : ClassId) (y0 : UInt64) (z21 : UInt64) (z22 : UInt64) (h0 : Heap) (n0 : Nat) (v : Option Value) (h : Heap) (L : List Loc) : Prop := v = some (.double z22) ∧ Fr n0 L ∧ h = h0
set_option maxRecDepth 65536 in
set_option maxHeartbeats 40000000 in
theorem rm1_1 (l : Launch) (Z : State) (a0 : Array Value) (hw : ∀ d ∈ tables_1, d.before a0 Z = true) (ws : List Jvm.Cond) (o0 : Addr) (o1 : Addr) (k_o0 : ClassId) (x0 : UInt64) (x1 : UInt64) (k_o1 : ClassId) (y0 : UInt64) (z21 : UInt64) (z22 : UInt64) (h0 : Heap) (n0 : Nat) (Z0 : n0 ≤ h0.size) (V_o0 : Arv Z h0 o0 k_o0 .double (2 : Int32) [(.double x0), (.double x1)] (.double (0 : UInt64))) (V_o1 : Arv Z h0 o1 k_o1 .double (1 : Int32) [(.double y0)] (.double (0 : UInt64))) (hz21 : FP.dmul x0 y0 = z21) (hz22 : FP.dadd FP.dconst0 z21 = z22) (nn21 : Jvm.Free.Fl.NoNaN64 z21) (nn22 : Jvm.Free.Fl.NoNaN64 z22) :
    MetFree l (⟨"com/example/credal_choice/credalchoice/model/Gambles", "expectation", "([D[D)D"⟩ : MethodName) (head1 (Jvm.Cond.code (⟨"com/example/credal_choice/credalchoice/model/Gambles", "expectation", "([D[D)D"⟩ : MethodName) prog_32_method_4_code 5 (some .double) :: ws) ({ frames := 0, cells := 0, slots := 0, locals := 0 } : Room)) (fun a U => a = #[(.ref o0), (.ref o1)] ∧ Z.Warmed39 U.vm ∧ U.heap = h0) (fun _ _ _ _ _ => True) (fun _ U o U' => ∃ v L, o = .returned v ∧ Q1_1 Z o0 o1 k_o0 x0 x1 k_o1 y0 z21 z22 h0 n0 v U'.heap L ∧ FrameEnd U o U' L ({ frames := 0, cells := 0, slots := 0, locals := 0 } : Room).cells ({ frames := 0, cells := 0, slots := 0, locals := 0 } : Room).slots) := by
  refine MetFree.of_bodySF (plainFor_of_name pn_0) hisR ?_
  intro p e s m args below meth c s₁ Bd hml0 hP hK
  obtain ⟨rfl, hZ, hh⟩ := hP
  have hx := Bd.exec
  have hby := Bd.bytes
  have hml : c.maxLocals = 5 := hml0
  have hown : s.vm.findClass "com/example/credal_choice/credalchoice/model/Gambles" = some m.cls := findClass_of_methodNamed Bd.named
  have hnm := (name_of_methodNamed Bd.named Bd.method).1
  have X0 : Stand p l e ({ frames := 0, cells := 0, slots := 0, locals := 0 } : Room) s m #[(.ref o0), (.ref o1)] below meth c s₁ [] 0 0 := Stand.of_body Bd
  have e0 : s₁.heap = h0 := by rw [← hh, Bd.state]; rfl
  have N0 := Fr.nil n0
  have c0 : ∀ t, Steps p.tables e below (s₁.setTop (mkF m 0 #[.val (.ref o0), .val (.ref o1), .unset, .unset, .unset] [])) t → Steps p.tables e below (s₁.setTop (entryFrame m #[(.ref o0), (.ref o1)] 5)) t := fun t k => castTop (ef_rm1_1 m o0 o1) k
  obtain ⟨cl1, Ar1, -, S1, Nn1, -, -⟩ := id V_o1
  obtain ⟨cl2, Ar2, -, S2, -, Ha2, -⟩ := id V_o0
  have in2 : ¬ ((0 : Int32) < 0 ∨ cl2.slots.size ≤ ((0 : Int32)).toNatClampNeg) := inb_of S2 ⟨by decide, by decide⟩
  obtain ⟨cl3, Ar3, -, S3, -, Ha3, -⟩ := id V_o1
  have in3 : ¬ ((0 : Int32) < 0 ∨ cl3.slots.size ≤ ((0 : Int32)).toNatClampNeg) := inb_of S3 ⟨by decide, by decide⟩
  obtain ⟨cl4, Ar4, -, S4, Nn4, -, -⟩ := id V_o1
  have c5 : ∀ t, Steps p.tables e below (s₁.setTop (mkF m 31 #[.val (.ref o0), .val (.ref o1), .val (.double z22), .second, .val (.int (1 : Int32))] [(.double z22)])) t → Steps p.tables e below (s₁.setTop (entryFrame m #[(.ref o0), (.ref o1)] 5)) t := by
    intro t k
    refine c0 t ?_
    show Steps p.tables e below (s₁.setTop (mkF m 0 #[.val (.ref o0), .val (.ref o1), .unset, .unset, .unset] [])) _
    refine XS.dconst0 X0.here hx rfl (hb hby d1_0) (v := FP.dconst0) rfl ?_
    show Steps p.tables e below (s₁.setTop (mkF m 1 #[.val (.ref o0), .val (.ref o1), .unset, .unset, .unset] [(.double FP.dconst0)])) _
    refine XS.dstoreN X0.here hx rfl (hb hby d1_1) rfl (l' := #[.val (.ref o0), .val (.ref o1), .val (.double FP.dconst0), .second, .unset]) rfl ?_
    show Steps p.tables e below (s₁.setTop (mkF m 2 #[.val (.ref o0), .val (.ref o1), .val (.double FP.dconst0), .second, .unset] [])) _
    refine XS.iconst X0.here hx rfl (hb hby d1_2) ?_
    show Steps p.tables e below (s₁.setTop (mkF m 3 #[.val (.ref o0), .val (.ref o1), .val (.double FP.dconst0), .second, .unset] [(.int (0 : Int32))])) _
    refine XS.istore X0.here hx rfl (hb hby d1_3) rfl (l' := #[.val (.ref o0), .val (.ref o1), .val (.double FP.dconst0), .second, .val (.int (0 : Int32))]) rfl ?_
    show Steps p.tables e below (s₁.setTop (mkF m 5 #[.val (.ref o0), .val (.ref o1), .val (.double FP.dconst0), .second, .val (.int (0 : Int32))] [])) _
    refine XS.iload X0.here hx rfl (hb hby d1_5) rfl ?_
    show Steps p.tables e below (s₁.setTop (mkF m 7 #[.val (.ref o0), .val (.ref o1), .val (.double FP.dconst0), .second, .val (.int (0 : Int32))] [(.int (0 : Int32))])) _
    refine XS.aloadN X0.here hx rfl (hb hby d1_7) rfl rfl ?_
    show Steps p.tables e below (s₁.setTop (mkF m 8 #[.val (.ref o0), .val (.ref o1), .val (.double FP.dconst0), .second, .val (.int (0 : Int32))] [(.ref o1), (.int (0 : Int32))])) _
    refine X0.arraylength hx (by rw [e0]; exact Ar1.1) (State.isArrayOf_alike hZ.alike Ar1.2.1) (g := (mkF m 8 #[.val (.ref o0), .val (.ref o1), .val (.double FP.dconst0), .second, .val (.int (0 : Int32))] [(.ref o1), (.int (0 : Int32))])) rfl rfl (hb hby d1_8) _ ?_
    rw [len_of S1 Nn1]
    show Steps p.tables e below (s₁.setTop (mkF m 9 #[.val (.ref o0), .val (.ref o1), .val (.double FP.dconst0), .second, .val (.int (0 : Int32))] [(.int (1 : Int32)), (.int (0 : Int32))])) _
    refine XS.icmpNo X0.here hx rfl (hb hby d1_9) rfl (Jvm.Free.XT.ii_ge_f (by decide)) ?_
    show Steps p.tables e below (s₁.setTop (mkF m 12 #[.val (.ref o0), .val (.ref o1), .val (.double FP.dconst0), .second, .val (.int (0 : Int32))] [])) _
    refine XS.dloadN X0.here hx rfl (hb hby d1_12) rfl ?_
    show Steps p.tables e below (s₁.setTop (mkF m 13 #[.val (.ref o0), .val (.ref o1), .val (.double FP.dconst0), .second, .val (.int (0 : Int32))] [(.double FP.dconst0)])) _
    refine XS.aloadN X0.here hx rfl (hb hby d1_13) rfl rfl ?_
    show Steps p.tables e below (s₁.setTop (mkF m 14 #[.val (.ref o0), .val (.ref o1), .val (.double FP.dconst0), .second, .val (.int (0 : Int32))] [(.ref o0), (.double FP.dconst0)])) _
    refine XS.iload X0.here hx rfl (hb hby d1_14) rfl ?_
    show Steps p.tables e below (s₁.setTop (mkF m 16 #[.val (.ref o0), .val (.ref o1), .val (.double FP.dconst0), .second, .val (.int (0 : Int32))] [(.int (0 : Int32)), (.ref o0), (.double FP.dconst0)])) _
    refine X0.daload hx (j := (0 : Int32)) (v := (.double x0)) (by rw [e0]; exact Ar2.1) (State.isArrayOf_alike hZ.alike Ar2.2.1) Ar2.2.2 in2 (Has.at Ha2 in2 rfl) (g := (mkF m 16 #[.val (.ref o0), .val (.ref o1), .val (.double FP.dconst0), .second, .val (.int (0 : Int32))] [(.int (0 : Int32)), (.ref o0), (.double FP.dconst0)])) rfl rfl (hb hby d1_16) _ ?_
    show Steps p.tables e below (s₁.setTop (mkF m 17 #[.val (.ref o0), .val (.ref o1), .val (.double FP.dconst0), .second, .val (.int (0 : Int32))] [(.double x0), (.double FP.dconst0)])) _
    refine XS.aloadN X0.here hx rfl (hb hby d1_17) rfl rfl ?_
    show Steps p.tables e below (s₁.setTop (mkF m 18 #[.val (.ref o0), .val (.ref o1), .val (.double FP.dconst0), .second, .val (.int (0 : Int32))] [(.ref o1), (.double x0), (.double FP.dconst0)])) _
    refine XS.iload X0.here hx rfl (hb hby d1_18) rfl ?_
    show Steps p.tables e below (s₁.setTop (mkF m 20 #[.val (.ref o0), .val (.ref o1), .val (.double FP.dconst0), .second, .val (.int (0 : Int32))] [(.int (0 : Int32)), (.ref o1), (.double x0), (.double FP.dconst0)])) _
    refine X0.daload hx (j := (0 : Int32)) (v := (.double y0)) (by rw [e0]; exact Ar3.1) (State.isArrayOf_alike hZ.alike Ar3.2.1) Ar3.2.2 in3 (Has.at Ha3 in3 rfl) (g := (mkF m 20 #[.val (.ref o0), .val (.ref o1), .val (.double FP.dconst0), .second, .val (.int (0 : Int32))] [(.int (0 : Int32)), (.ref o1), (.double x0), (.double FP.dconst0)])) rfl rfl (hb hby d1_20) _ ?_
    show Steps p.tables e below (s₁.setTop (mkF m 21 #[.val (.ref o0), .val (.ref o1), .val (.double FP.dconst0), .second, .val (.int (0 : Int32))] [(.double y0), (.double x0), (.double FP.dconst0)])) _
    refine Jvm.OwnK.dmul X0.here hx rfl (hb hby d1_21) rfl hz21 nn21 ?_
    show Steps p.tables e below (s₁.setTop (mkF m 22 #[.val (.ref o0), .val (.ref o1), .val (.double FP.dconst0), .second, .val (.int (0 : Int32))] [(.double z21), (.double FP.dconst0)])) _
    refine Jvm.OwnK.dadd X0.here hx rfl (hb hby d1_22) rfl hz22 nn22 ?_
    show Steps p.tables e below (s₁.setTop (mkF m 23 #[.val (.ref o0), .val (.ref o1), .val (.double FP.dconst0), .second, .val (.int (0 : Int32))] [(.double z22)])) _
    refine XS.dstoreN X0.here hx rfl (hb hby d1_23) rfl (l' := #[.val (.ref o0), .val (.ref o1), .val (.double z22), .second, .val (.int (0 : Int32))]) rfl ?_
    show Steps p.tables e below (s₁.setTop (mkF m 24 #[.val (.ref o0), .val (.ref o1), .val (.double z22), .second, .val (.int (0 : Int32))] [])) _
    refine Jvm.OwnK.iinc X0.here hx rfl (hb hby d1_24) rfl (l' := #[.val (.ref o0), .val (.ref o1), .val (.double z22), .second, .val (.int (1 : Int32))]) (v := (1 : Int32)) (by decide) rfl ?_
    show Steps p.tables e below (s₁.setTop (mkF m 27 #[.val (.ref o0), .val (.ref o1), .val (.double z22), .second, .val (.int (1 : Int32))] [])) _
    refine XS.goto X0.here hx rfl (pc0 := 27) (pc' := 5) rfl (hb hby d1_27) (by decide) (by decide) ?_
    show Steps p.tables e below (s₁.setTop (mkF m 5 #[.val (.ref o0), .val (.ref o1), .val (.double z22), .second, .val (.int (1 : Int32))] [])) _
    refine XS.iload X0.here hx rfl (hb hby d1_5) rfl ?_
    show Steps p.tables e below (s₁.setTop (mkF m 7 #[.val (.ref o0), .val (.ref o1), .val (.double z22), .second, .val (.int (1 : Int32))] [(.int (1 : Int32))])) _
    refine XS.aloadN X0.here hx rfl (hb hby d1_7) rfl rfl ?_
    show Steps p.tables e below (s₁.setTop (mkF m 8 #[.val (.ref o0), .val (.ref o1), .val (.double z22), .second, .val (.int (1 : Int32))] [(.ref o1), (.int (1 : Int32))])) _
    refine X0.arraylength hx (by rw [e0]; exact Ar4.1) (State.isArrayOf_alike hZ.alike Ar4.2.1) (g := (mkF m 8 #[.val (.ref o0), .val (.ref o1), .val (.double z22), .second, .val (.int (1 : Int32))] [(.ref o1), (.int (1 : Int32))])) rfl rfl (hb hby d1_8) _ ?_
    rw [len_of S4 Nn4]
    show Steps p.tables e below (s₁.setTop (mkF m 9 #[.val (.ref o0), .val (.ref o1), .val (.double z22), .second, .val (.int (1 : Int32))] [(.int (1 : Int32)), (.int (1 : Int32))])) _
    refine XS.icmpYes X0.here hx rfl (pc0 := 9) (pc' := 30) rfl (hb hby d1_9) rfl (Jvm.Free.XT.ii_ge_t (by decide)) (by decide) (by decide) ?_
    show Steps p.tables e below (s₁.setTop (mkF m 30 #[.val (.ref o0), .val (.ref o1), .val (.double z22), .second, .val (.int (1 : Int32))] [])) _
    refine XS.dloadN X0.here hx rfl (hb hby d1_30) rfl ?_
    exact k
  obtain ⟨fs, hr, hrun, hended, hW, hsame⟩ := X0.leave (v := some (.double z22)) (fun h => by rw [Bd.returns] at h; cases h)
  refine ⟨_, _, c5 _ ?_, hrun, hended, _, _, rfl, ?_, ⟨_, rfl⟩, hW, hsame.mono (by decide) (by decide)⟩
  · show Steps p.tables e below (s₁.setTop (mkF m 31 #[.val (.ref o0), .val (.ref o1), .val (.double z22), .second, .val (.int (1 : Int32))] [(.double z22)])) _
    exact retOut X0 hx Bd.returns rfl (Or.inr (Or.inr (Or.inl ⟨rfl, rfl, _, rfl⟩))) (hb hby d1_31) hr
  · show Q1_1 Z o0 o1 k_o0 x0 x1 k_o1 y0 z21 z22 h0 n0 _ s₁.heap _
    rw [e0]
    exact ⟨rfl, N0, rfl⟩
def Q1_2 (Z : State) (o0 : Addr) (o1 : Addr) (k_o0 : ClassId) (x0 : UInt64) (x1 : UInt64) (x2 : UInt64) (k_o1 : ClassId) (y0 : UInt64) (y1 : UInt64) (z21 : UInt64) (z22 : UInt64) (z21_2 : UInt64) (z22_2 : UInt64) (h0 : Heap) (n0 : Nat) (v : Option Value) (h : Heap) (L : List Loc) : Prop := v = some (.double z22_2) ∧ Fr n0 L ∧ h = h0
set_option maxRecDepth 65536 in
set_option maxHeartbeats 40000000 in
theorem rm1_2 (l : Launch) (Z : State) (a0 : Array Value) (hw : ∀ d ∈ tables_1, d.before a0 Z = true) (ws : List Jvm.Cond) (o0 : Addr) (o1 : Addr) (k_o0 : ClassId) (x0 : UInt64) (x1 : UInt64) (x2 : UInt64) (k_o1 : ClassId) (y0 : UInt64) (y1 : UInt64) (z21 : UInt64) (z22 : UInt64) (z21_2 : UInt64) (z22_2 : UInt64) (h0 : Heap) (n0 : Nat) (Z0 : n0 ≤ h0.size) (V_o0 : Arv Z h0 o0 k_o0 .double (3 : Int32) [(.double x0), (.double x1), (.double x2)] (.double (0 : UInt64))) (V_o1 : Arv Z h0 o1 k_o1 .double (2 : Int32) [(.double y0), (.double y1)] (.double (0 : UInt64))) (hz21 : FP.dmul x0 y0 = z21) (hz22 : FP.dadd FP.dconst0 z21 = z22) (hz21_2 : FP.dmul x1 y1 = z21_2) (hz22_2 : FP.dadd z22 z21_2 = z22_2) (nn21 : Jvm.Free.Fl.NoNaN64 z21) (nn22 : Jvm.Free.Fl.NoNaN64 z22) (nn21_2 : Jvm.Free.Fl.NoNaN64 z21_2) (nn22_2 : Jvm.Free.Fl.NoNaN64 z22_2) :
    MetFree l (⟨"com/example/credal_choice/credalchoice/model/Gambles", "expectation", "([D[D)D"⟩ : MethodName) (head1 (Jvm.Cond.code (⟨"com/example/credal_choice/credalchoice/model/Gambles", "expectation", "([D[D)D"⟩ : MethodName) prog_32_method_4_code 5 (some .double) :: ws) ({ frames := 0, cells := 0, slots := 0, locals := 0 } : Room)) (fun a U => a = #[(.ref o0), (.ref o1)] ∧ Z.Warmed39 U.vm ∧ U.heap = h0) (fun _ _ _ _ _ => True) (fun _ U o U' => ∃ v L, o = .returned v ∧ Q1_2 Z o0 o1 k_o0 x0 x1 x2 k_o1 y0 y1 z21 z22 z21_2 z22_2 h0 n0 v U'.heap L ∧ FrameEnd U o U' L ({ frames := 0, cells := 0, slots := 0, locals := 0 } : Room).cells ({ frames := 0, cells := 0, slots := 0, locals := 0 } : Room).slots) := by
  refine MetFree.of_bodySF (plainFor_of_name pn_0) hisR ?_
  intro p e s m args below meth c s₁ Bd hml0 hP hK
  obtain ⟨rfl, hZ, hh⟩ := hP
  have hx := Bd.exec
  have hby := Bd.bytes
  have hml : c.maxLocals = 5 := hml0
  have hown : s.vm.findClass "com/example/credal_choice/credalchoice/model/Gambles" = some m.cls := findClass_of_methodNamed Bd.named
  have hnm := (name_of_methodNamed Bd.named Bd.method).1
  have X0 : Stand p l e ({ frames := 0, cells := 0, slots := 0, locals := 0 } : Room) s m #[(.ref o0), (.ref o1)] below meth c s₁ [] 0 0 := Stand.of_body Bd
  have e0 : s₁.heap = h0 := by rw [← hh, Bd.state]; rfl
  have N0 := Fr.nil n0
  have c0 : ∀ t, Steps p.tables e below (s₁.setTop (mkF m 0 #[.val (.ref o0), .val (.ref o1), .unset, .unset, .unset] [])) t → Steps p.tables e below (s₁.setTop (entryFrame m #[(.ref o0), (.ref o1)] 5)) t := fun t k => castTop (ef_rm1_2 m o0 o1) k
  obtain ⟨cl1, Ar1, -, S1, Nn1, -, -⟩ := id V_o1
  obtain ⟨cl2, Ar2, -, S2, -, Ha2, -⟩ := id V_o0
  have in2 : ¬ ((0 : Int32) < 0 ∨ cl2.slots.size ≤ ((0 : Int32)).toNatClampNeg) := inb_of S2 ⟨by decide, by decide⟩
  obtain ⟨cl3, Ar3, -, S3, -, Ha3, -⟩ := id V_o1
  have in3 : ¬ ((0 : Int32) < 0 ∨ cl3.slots.size ≤ ((0 : Int32)).toNatClampNeg) := inb_of S3 ⟨by decide, by decide⟩
  obtain ⟨cl4, Ar4, -, S4, Nn4, -, -⟩ := id V_o1
  obtain ⟨cl5, Ar5, -, S5, -, Ha5, -⟩ := id V_o0
  have in5 : ¬ ((1 : Int32) < 0 ∨ cl5.slots.size ≤ ((1 : Int32)).toNatClampNeg) := inb_of S5 ⟨by decide, by decide⟩
  obtain ⟨cl6, Ar6, -, S6, -, Ha6, -⟩ := id V_o1
  have in6 : ¬ ((1 : Int32) < 0 ∨ cl6.slots.size ≤ ((1 : Int32)).toNatClampNeg) := inb_of S6 ⟨by decide, by decide⟩
  obtain ⟨cl7, Ar7, -, S7, Nn7, -, -⟩ := id V_o1
  have c8 : ∀ t, Steps p.tables e below (s₁.setTop (mkF m 31 #[.val (.ref o0), .val (.ref o1), .val (.double z22_2), .second, .val (.int (2 : Int32))] [(.double z22_2)])) t → Steps p.tables e below (s₁.setTop (entryFrame m #[(.ref o0), (.ref o1)] 5)) t := by
    intro t k
    refine c0 t ?_
    show Steps p.tables e below (s₁.setTop (mkF m 0 #[.val (.ref o0), .val (.ref o1), .unset, .unset, .unset] [])) _
    refine XS.dconst0 X0.here hx rfl (hb hby d1_0) (v := FP.dconst0) rfl ?_
    show Steps p.tables e below (s₁.setTop (mkF m 1 #[.val (.ref o0), .val (.ref o1), .unset, .unset, .unset] [(.double FP.dconst0)])) _
    refine XS.dstoreN X0.here hx rfl (hb hby d1_1) rfl (l' := #[.val (.ref o0), .val (.ref o1), .val (.double FP.dconst0), .second, .unset]) rfl ?_
    show Steps p.tables e below (s₁.setTop (mkF m 2 #[.val (.ref o0), .val (.ref o1), .val (.double FP.dconst0), .second, .unset] [])) _
    refine XS.iconst X0.here hx rfl (hb hby d1_2) ?_
    show Steps p.tables e below (s₁.setTop (mkF m 3 #[.val (.ref o0), .val (.ref o1), .val (.double FP.dconst0), .second, .unset] [(.int (0 : Int32))])) _
    refine XS.istore X0.here hx rfl (hb hby d1_3) rfl (l' := #[.val (.ref o0), .val (.ref o1), .val (.double FP.dconst0), .second, .val (.int (0 : Int32))]) rfl ?_
    show Steps p.tables e below (s₁.setTop (mkF m 5 #[.val (.ref o0), .val (.ref o1), .val (.double FP.dconst0), .second, .val (.int (0 : Int32))] [])) _
    refine XS.iload X0.here hx rfl (hb hby d1_5) rfl ?_
    show Steps p.tables e below (s₁.setTop (mkF m 7 #[.val (.ref o0), .val (.ref o1), .val (.double FP.dconst0), .second, .val (.int (0 : Int32))] [(.int (0 : Int32))])) _
    refine XS.aloadN X0.here hx rfl (hb hby d1_7) rfl rfl ?_
    show Steps p.tables e below (s₁.setTop (mkF m 8 #[.val (.ref o0), .val (.ref o1), .val (.double FP.dconst0), .second, .val (.int (0 : Int32))] [(.ref o1), (.int (0 : Int32))])) _
    refine X0.arraylength hx (by rw [e0]; exact Ar1.1) (State.isArrayOf_alike hZ.alike Ar1.2.1) (g := (mkF m 8 #[.val (.ref o0), .val (.ref o1), .val (.double FP.dconst0), .second, .val (.int (0 : Int32))] [(.ref o1), (.int (0 : Int32))])) rfl rfl (hb hby d1_8) _ ?_
    rw [len_of S1 Nn1]
    show Steps p.tables e below (s₁.setTop (mkF m 9 #[.val (.ref o0), .val (.ref o1), .val (.double FP.dconst0), .second, .val (.int (0 : Int32))] [(.int (2 : Int32)), (.int (0 : Int32))])) _
    refine XS.icmpNo X0.here hx rfl (hb hby d1_9) rfl (Jvm.Free.XT.ii_ge_f (by decide)) ?_
    show Steps p.tables e below (s₁.setTop (mkF m 12 #[.val (.ref o0), .val (.ref o1), .val (.double FP.dconst0), .second, .val (.int (0 : Int32))] [])) _
    refine XS.dloadN X0.here hx rfl (hb hby d1_12) rfl ?_
    show Steps p.tables e below (s₁.setTop (mkF m 13 #[.val (.ref o0), .val (.ref o1), .val (.double FP.dconst0), .second, .val (.int (0 : Int32))] [(.double FP.dconst0)])) _
    refine XS.aloadN X0.here hx rfl (hb hby d1_13) rfl rfl ?_
    show Steps p.tables e below (s₁.setTop (mkF m 14 #[.val (.ref o0), .val (.ref o1), .val (.double FP.dconst0), .second, .val (.int (0 : Int32))] [(.ref o0), (.double FP.dconst0)])) _
    refine XS.iload X0.here hx rfl (hb hby d1_14) rfl ?_
    show Steps p.tables e below (s₁.setTop (mkF m 16 #[.val (.ref o0), .val (.ref o1), .val (.double FP.dconst0), .second, .val (.int (0 : Int32))] [(.int (0 : Int32)), (.ref o0), (.double FP.dconst0)])) _
    refine X0.daload hx (j := (0 : Int32)) (v := (.double x0)) (by rw [e0]; exact Ar2.1) (State.isArrayOf_alike hZ.alike Ar2.2.1) Ar2.2.2 in2 (Has.at Ha2 in2 rfl) (g := (mkF m 16 #[.val (.ref o0), .val (.ref o1), .val (.double FP.dconst0), .second, .val (.int (0 : Int32))] [(.int (0 : Int32)), (.ref o0), (.double FP.dconst0)])) rfl rfl (hb hby d1_16) _ ?_
    show Steps p.tables e below (s₁.setTop (mkF m 17 #[.val (.ref o0), .val (.ref o1), .val (.double FP.dconst0), .second, .val (.int (0 : Int32))] [(.double x0), (.double FP.dconst0)])) _
    refine XS.aloadN X0.here hx rfl (hb hby d1_17) rfl rfl ?_
    show Steps p.tables e below (s₁.setTop (mkF m 18 #[.val (.ref o0), .val (.ref o1), .val (.double FP.dconst0), .second, .val (.int (0 : Int32))] [(.ref o1), (.double x0), (.double FP.dconst0)])) _
    refine XS.iload X0.here hx rfl (hb hby d1_18) rfl ?_
    show Steps p.tables e below (s₁.setTop (mkF m 20 #[.val (.ref o0), .val (.ref o1), .val (.double FP.dconst0), .second, .val (.int (0 : Int32))] [(.int (0 : Int32)), (.ref o1), (.double x0), (.double FP.dconst0)])) _
    refine X0.daload hx (j := (0 : Int32)) (v := (.double y0)) (by rw [e0]; exact Ar3.1) (State.isArrayOf_alike hZ.alike Ar3.2.1) Ar3.2.2 in3 (Has.at Ha3 in3 rfl) (g := (mkF m 20 #[.val (.ref o0), .val (.ref o1), .val (.double FP.dconst0), .second, .val (.int (0 : Int32))] [(.int (0 : Int32)), (.ref o1), (.double x0), (.double FP.dconst0)])) rfl rfl (hb hby d1_20) _ ?_
    show Steps p.tables e below (s₁.setTop (mkF m 21 #[.val (.ref o0), .val (.ref o1), .val (.double FP.dconst0), .second, .val (.int (0 : Int32))] [(.double y0), (.double x0), (.double FP.dconst0)])) _
    refine Jvm.OwnK.dmul X0.here hx rfl (hb hby d1_21) rfl hz21 nn21 ?_
    show Steps p.tables e below (s₁.setTop (mkF m 22 #[.val (.ref o0), .val (.ref o1), .val (.double FP.dconst0), .second, .val (.int (0 : Int32))] [(.double z21), (.double FP.dconst0)])) _
    refine Jvm.OwnK.dadd X0.here hx rfl (hb hby d1_22) rfl hz22 nn22 ?_
    show Steps p.tables e below (s₁.setTop (mkF m 23 #[.val (.ref o0), .val (.ref o1), .val (.double FP.dconst0), .second, .val (.int (0 : Int32))] [(.double z22)])) _
    refine XS.dstoreN X0.here hx rfl (hb hby d1_23) rfl (l' := #[.val (.ref o0), .val (.ref o1), .val (.double z22), .second, .val (.int (0 : Int32))]) rfl ?_
    show Steps p.tables e below (s₁.setTop (mkF m 24 #[.val (.ref o0), .val (.ref o1), .val (.double z22), .second, .val (.int (0 : Int32))] [])) _
    refine Jvm.OwnK.iinc X0.here hx rfl (hb hby d1_24) rfl (l' := #[.val (.ref o0), .val (.ref o1), .val (.double z22), .second, .val (.int (1 : Int32))]) (v := (1 : Int32)) (by decide) rfl ?_
    show Steps p.tables e below (s₁.setTop (mkF m 27 #[.val (.ref o0), .val (.ref o1), .val (.double z22), .second, .val (.int (1 : Int32))] [])) _
    refine XS.goto X0.here hx rfl (pc0 := 27) (pc' := 5) rfl (hb hby d1_27) (by decide) (by decide) ?_
    show Steps p.tables e below (s₁.setTop (mkF m 5 #[.val (.ref o0), .val (.ref o1), .val (.double z22), .second, .val (.int (1 : Int32))] [])) _
    refine XS.iload X0.here hx rfl (hb hby d1_5) rfl ?_
    show Steps p.tables e below (s₁.setTop (mkF m 7 #[.val (.ref o0), .val (.ref o1), .val (.double z22), .second, .val (.int (1 : Int32))] [(.int (1 : Int32))])) _
    refine XS.aloadN X0.here hx rfl (hb hby d1_7) rfl rfl ?_
    show Steps p.tables e below (s₁.setTop (mkF m 8 #[.val (.ref o0), .val (.ref o1), .val (.double z22), .second, .val (.int (1 : Int32))] [(.ref o1), (.int (1 : Int32))])) _
    refine X0.arraylength hx (by rw [e0]; exact Ar4.1) (State.isArrayOf_alike hZ.alike Ar4.2.1) (g := (mkF m 8 #[.val (.ref o0), .val (.ref o1), .val (.double z22), .second, .val (.int (1 : Int32))] [(.ref o1), (.int (1 : Int32))])) rfl rfl (hb hby d1_8) _ ?_
    rw [len_of S4 Nn4]
    show Steps p.tables e below (s₁.setTop (mkF m 9 #[.val (.ref o0), .val (.ref o1), .val (.double z22), .second, .val (.int (1 : Int32))] [(.int (2 : Int32)), (.int (1 : Int32))])) _
    refine XS.icmpNo X0.here hx rfl (hb hby d1_9) rfl (Jvm.Free.XT.ii_ge_f (by decide)) ?_
    show Steps p.tables e below (s₁.setTop (mkF m 12 #[.val (.ref o0), .val (.ref o1), .val (.double z22), .second, .val (.int (1 : Int32))] [])) _
    refine XS.dloadN X0.here hx rfl (hb hby d1_12) rfl ?_
    show Steps p.tables e below (s₁.setTop (mkF m 13 #[.val (.ref o0), .val (.ref o1), .val (.double z22), .second, .val (.int (1 : Int32))] [(.double z22)])) _
    refine XS.aloadN X0.here hx rfl (hb hby d1_13) rfl rfl ?_
    show Steps p.tables e below (s₁.setTop (mkF m 14 #[.val (.ref o0), .val (.ref o1), .val (.double z22), .second, .val (.int (1 : Int32))] [(.ref o0), (.double z22)])) _
    refine XS.iload X0.here hx rfl (hb hby d1_14) rfl ?_
    show Steps p.tables e below (s₁.setTop (mkF m 16 #[.val (.ref o0), .val (.ref o1), .val (.double z22), .second, .val (.int (1 : Int32))] [(.int (1 : Int32)), (.ref o0), (.double z22)])) _
    refine X0.daload hx (j := (1 : Int32)) (v := (.double x1)) (by rw [e0]; exact Ar5.1) (State.isArrayOf_alike hZ.alike Ar5.2.1) Ar5.2.2 in5 (Has.at Ha5 in5 rfl) (g := (mkF m 16 #[.val (.ref o0), .val (.ref o1), .val (.double z22), .second, .val (.int (1 : Int32))] [(.int (1 : Int32)), (.ref o0), (.double z22)])) rfl rfl (hb hby d1_16) _ ?_
    show Steps p.tables e below (s₁.setTop (mkF m 17 #[.val (.ref o0), .val (.ref o1), .val (.double z22), .second, .val (.int (1 : Int32))] [(.double x1), (.double z22)])) _
    refine XS.aloadN X0.here hx rfl (hb hby d1_17) rfl rfl ?_
    show Steps p.tables e below (s₁.setTop (mkF m 18 #[.val (.ref o0), .val (.ref o1), .val (.double z22), .second, .val (.int (1 : Int32))] [(.ref o1), (.double x1), (.double z22)])) _
    refine XS.iload X0.here hx rfl (hb hby d1_18) rfl ?_
    show Steps p.tables e below (s₁.setTop (mkF m 20 #[.val (.ref o0), .val (.ref o1), .val (.double z22), .second, .val (.int (1 : Int32))] [(.int (1 : Int32)), (.ref o1), (.double x1), (.double z22)])) _
    refine X0.daload hx (j := (1 : Int32)) (v := (.double y1)) (by rw [e0]; exact Ar6.1) (State.isArrayOf_alike hZ.alike Ar6.2.1) Ar6.2.2 in6 (Has.at Ha6 in6 rfl) (g := (mkF m 20 #[.val (.ref o0), .val (.ref o1), .val (.double z22), .second, .val (.int (1 : Int32))] [(.int (1 : Int32)), (.ref o1), (.double x1), (.double z22)])) rfl rfl (hb hby d1_20) _ ?_
    show Steps p.tables e below (s₁.setTop (mkF m 21 #[.val (.ref o0), .val (.ref o1), .val (.double z22), .second, .val (.int (1 : Int32))] [(.double y1), (.double x1), (.double z22)])) _
    refine Jvm.OwnK.dmul X0.here hx rfl (hb hby d1_21) rfl hz21_2 nn21_2 ?_
    show Steps p.tables e below (s₁.setTop (mkF m 22 #[.val (.ref o0), .val (.ref o1), .val (.double z22), .second, .val (.int (1 : Int32))] [(.double z21_2), (.double z22)])) _
    refine Jvm.OwnK.dadd X0.here hx rfl (hb hby d1_22) rfl hz22_2 nn22_2 ?_
    show Steps p.tables e below (s₁.setTop (mkF m 23 #[.val (.ref o0), .val (.ref o1), .val (.double z22), .second, .val (.int (1 : Int32))] [(.double z22_2)])) _
    refine XS.dstoreN X0.here hx rfl (hb hby d1_23) rfl (l' := #[.val (.ref o0), .val (.ref o1), .val (.double z22_2), .second, .val (.int (1 : Int32))]) rfl ?_
    show Steps p.tables e below (s₁.setTop (mkF m 24 #[.val (.ref o0), .val (.ref o1), .val (.double z22_2), .second, .val (.int (1 : Int32))] [])) _
    refine Jvm.OwnK.iinc X0.here hx rfl (hb hby d1_24) rfl (l' := #[.val (.ref o0), .val (.ref o1), .val (.double z22_2), .second, .val (.int (2 : Int32))]) (v := (2 : Int32)) (by decide) rfl ?_
    show Steps p.tables e below (s₁.setTop (mkF m 27 #[.val (.ref o0), .val (.ref o1), .val (.double z22_2), .second, .val (.int (2 : Int32))] [])) _
    refine XS.goto X0.here hx rfl (pc0 := 27) (pc' := 5) rfl (hb hby d1_27) (by decide) (by decide) ?_
    show Steps p.tables e below (s₁.setTop (mkF m 5 #[.val (.ref o0), .val (.ref o1), .val (.double z22_2), .second, .val (.int (2 : Int32))] [])) _
    refine XS.iload X0.here hx rfl (hb hby d1_5) rfl ?_
    show Steps p.tables e below (s₁.setTop (mkF m 7 #[.val (.ref o0), .val (.ref o1), .val (.double z22_2), .second, .val (.int (2 : Int32))] [(.int (2 : Int32))])) _
    refine XS.aloadN X0.here hx rfl (hb hby d1_7) rfl rfl ?_
    show Steps p.tables e below (s₁.setTop (mkF m 8 #[.val (.ref o0), .val (.ref o1), .val (.double z22_2), .second, .val (.int (2 : Int32))] [(.ref o1), (.int (2 : Int32))])) _
    refine X0.arraylength hx (by rw [e0]; exact Ar7.1) (State.isArrayOf_alike hZ.alike Ar7.2.1) (g := (mkF m 8 #[.val (.ref o0), .val (.ref o1), .val (.double z22_2), .second, .val (.int (2 : Int32))] [(.ref o1), (.int (2 : Int32))])) rfl rfl (hb hby d1_8) _ ?_
    rw [len_of S7 Nn7]
    show Steps p.tables e below (s₁.setTop (mkF m 9 #[.val (.ref o0), .val (.ref o1), .val (.double z22_2), .second, .val (.int (2 : Int32))] [(.int (2 : Int32)), (.int (2 : Int32))])) _
    refine XS.icmpYes X0.here hx rfl (pc0 := 9) (pc' := 30) rfl (hb hby d1_9) rfl (Jvm.Free.XT.ii_ge_t (by decide)) (by decide) (by decide) ?_
    show Steps p.tables e below (s₁.setTop (mkF m 30 #[.val (.ref o0), .val (.ref o1), .val (.double z22_2), .second, .val (.int (2 : Int32))] [])) _
    refine XS.dloadN X0.here hx rfl (hb hby d1_30) rfl ?_
    exact k
  obtain ⟨fs, hr, hrun, hended, hW, hsame⟩ := X0.leave (v := some (.double z22_2)) (fun h => by rw [Bd.returns] at h; cases h)
  refine ⟨_, _, c8 _ ?_, hrun, hended, _, _, rfl, ?_, ⟨_, rfl⟩, hW, hsame.mono (by decide) (by decide)⟩
  · show Steps p.tables e below (s₁.setTop (mkF m 31 #[.val (.ref o0), .val (.ref o1), .val (.double z22_2), .second, .val (.int (2 : Int32))] [(.double z22_2)])) _
    exact retOut X0 hx Bd.returns rfl (Or.inr (Or.inr (Or.inl ⟨rfl, rfl, _, rfl⟩))) (hb hby d1_31) hr
  · show Q1_2 Z o0 o1 k_o0 x0 x1 x2 k_o1 y0 y1 z21 z22 z21_2 z22_2 h0 n0 _ s₁.heap _
    rw [e0]
    exact ⟨rfl, N0, rfl⟩
def Q1_3 (Z : State) (o0 : Addr) (o1 : Addr) (k_o0 : ClassId) (x0 : UInt64) (x1 : UInt64) (x2 : UInt64) (x3 : UInt64) (k_o1 : ClassId) (y0 : UInt64) (y1 : UInt64) (y2 : UInt64) (z21 : UInt64) (z22 : UInt64) (z21_2 : UInt64) (z22_2 : UInt64) (z21_3 : UInt64) (z22_3 : UInt64) (h0 : Heap) (n0 : Nat) (v : Option Value) (h : Heap) (L : List Loc) : Prop := v = some (.double z22_3) ∧ Fr n0 L ∧ h = h0
set_option maxRecDepth 65536 in
set_option maxHeartbeats 40000000 in
theorem rm1_3 (l : Launch) (Z : State) (a0 : Array Value) (hw : ∀ d ∈ tables_1, d.before a0 Z = true) (ws : List Jvm.Cond) (o0 : Addr) (o1 : Addr) (k_o0 : ClassId) (x0 : UInt64) (x1 : UInt64) (x2 : UInt64) (x3 : UInt64) (k_o1 : ClassId) (y0 : UInt64) (y1 : UInt64) (y2 : UInt64) (z21 : UInt64) (z22 : UInt64) (z21_2 : UInt64) (z22_2 : UInt64) (z21_3 : UInt64) (z22_3 : UInt64) (h0 : Heap) (n0 : Nat) (Z0 : n0 ≤ h0.size) (V_o0 : Arv Z h0 o0 k_o0 .double (4 : Int32) [(.double x0), (.double x1), (.double x2), (.double x3)] (.double (0 : UInt64))) (V_o1 : Arv Z h0 o1 k_o1 .double (3 : Int32) [(.double y0), (.double y1), (.double y2)] (.double (0 : UInt64))) (hz21 : FP.dmul x0 y0 = z21) (hz22 : FP.dadd FP.dconst0 z21 = z22) (hz21_2 : FP.dmul x1 y1 = z21_2) (hz22_2 : FP.dadd z22 z21_2 = z22_2) (hz21_3 : FP.dmul x2 y2 = z21_3) (hz22_3 : FP.dadd z22_2 z21_3 = z22_3) (nn21 : Jvm.Free.Fl.NoNaN64 z21) (nn22 : Jvm.Free.Fl.NoNaN64 z22) (nn21_2 : Jvm.Free.Fl.NoNaN64 z21_2) (nn22_2 : Jvm.Free.Fl.NoNaN64 z22_2) (nn21_3 : Jvm.Free.Fl.NoNaN64 z21_3) (nn22_3 : Jvm.Free.Fl.NoNaN64 z22_3) :
    MetFree l (⟨"com/example/credal_choice/credalchoice/model/Gambles", "expectation", "([D[D)D"⟩ : MethodName) (head1 (Jvm.Cond.code (⟨"com/example/credal_choice/credalchoice/model/Gambles", "expectation", "([D[D)D"⟩ : MethodName) prog_32_method_4_code 5 (some .double) :: ws) ({ frames := 0, cells := 0, slots := 0, locals := 0 } : Room)) (fun a U => a = #[(.ref o0), (.ref o1)] ∧ Z.Warmed39 U.vm ∧ U.heap = h0) (fun _ _ _ _ _ => True) (fun _ U o U' => ∃ v L, o = .returned v ∧ Q1_3 Z o0 o1 k_o0 x0 x1 x2 x3 k_o1 y0 y1 y2 z21 z22 z21_2 z22_2 z21_3 z22_3 h0 n0 v U'.heap L ∧ FrameEnd U o U' L ({ frames := 0, cells := 0, slots := 0, locals := 0 } : Room).cells ({ frames := 0, cells := 0, slots := 0, locals := 0 } : Room).slots) := by
  refine MetFree.of_bodySF (plainFor_of_name pn_0) hisR ?_
  intro p e s m args below meth c s₁ Bd hml0 hP hK
  obtain ⟨rfl, hZ, hh⟩ := hP
  have hx := Bd.exec
  have hby := Bd.bytes
  have hml : c.maxLocals = 5 := hml0
  have hown : s.vm.findClass "com/example/credal_choice/credalchoice/model/Gambles" = some m.cls := findClass_of_methodNamed Bd.named
  have hnm := (name_of_methodNamed Bd.named Bd.method).1
  have X0 : Stand p l e ({ frames := 0, cells := 0, slots := 0, locals := 0 } : Room) s m #[(.ref o0), (.ref o1)] below meth c s₁ [] 0 0 := Stand.of_body Bd
  have e0 : s₁.heap = h0 := by rw [← hh, Bd.state]; rfl
  have N0 := Fr.nil n0
  have c0 : ∀ t, Steps p.tables e below (s₁.setTop (mkF m 0 #[.val (.ref o0), .val (.ref o1), .unset, .unset, .unset] [])) t → Steps p.tables e below (s₁.setTop (entryFrame m #[(.ref o0), (.ref o1)] 5)) t := fun t k => castTop (ef_rm1_3 m o0 o1) k
  obtain ⟨cl1, Ar1, -, S1, Nn1, -, -⟩ := id V_o1
  obtain ⟨cl2, Ar2, -, S2, -, Ha2, -⟩ := id V_o0
  have in2 : ¬ ((0 : Int32) < 0 ∨ cl2.slots.size ≤ ((0 : Int32)).toNatClampNeg) := inb_of S2 ⟨by decide, by decide⟩
  obtain ⟨cl3, Ar3, -, S3, -, Ha3, -⟩ := id V_o1
  have in3 : ¬ ((0 : Int32) < 0 ∨ cl3.slots.size ≤ ((0 : Int32)).toNatClampNeg) := inb_of S3 ⟨by decide, by decide⟩
  obtain ⟨cl4, Ar4, -, S4, Nn4, -, -⟩ := id V_o1
  obtain ⟨cl5, Ar5, -, S5, -, Ha5, -⟩ := id V_o0
  have in5 : ¬ ((1 : Int32) < 0 ∨ cl5.slots.size ≤ ((1 : Int32)).toNatClampNeg) := inb_of S5 ⟨by decide, by decide⟩
  obtain ⟨cl6, Ar6, -, S6, -, Ha6, -⟩ := id V_o1
  have in6 : ¬ ((1 : Int32) < 0 ∨ cl6.slots.size ≤ ((1 : Int32)).toNatClampNeg) := inb_of S6 ⟨by decide, by decide⟩
  obtain ⟨cl7, Ar7, -, S7, Nn7, -, -⟩ := id V_o1
  obtain ⟨cl8, Ar8, -, S8, -, Ha8, -⟩ := id V_o0
  have in8 : ¬ ((2 : Int32) < 0 ∨ cl8.slots.size ≤ ((2 : Int32)).toNatClampNeg) := inb_of S8 ⟨by decide, by decide⟩
  obtain ⟨cl9, Ar9, -, S9, -, Ha9, -⟩ := id V_o1
  have in9 : ¬ ((2 : Int32) < 0 ∨ cl9.slots.size ≤ ((2 : Int32)).toNatClampNeg) := inb_of S9 ⟨by decide, by decide⟩
  obtain ⟨cl10, Ar10, -, S10, Nn10, -, -⟩ := id V_o1
  have c11 : ∀ t, Steps p.tables e below (s₁.setTop (mkF m 31 #[.val (.ref o0), .val (.ref o1), .val (.double z22_3), .second, .val (.int (3 : Int32))] [(.double z22_3)])) t → Steps p.tables e below (s₁.setTop (entryFrame m #[(.ref o0), (.ref o1)] 5)) t := by
    intro t k
    refine c0 t ?_
    show Steps p.tables e below (s₁.setTop (mkF m 0 #[.val (.ref o0), .val (.ref o1), .unset, .unset, .unset] [])) _
    refine XS.dconst0 X0.here hx rfl (hb hby d1_0) (v := FP.dconst0) rfl ?_
    show Steps p.tables e below (s₁.setTop (mkF m 1 #[.val (.ref o0), .val (.ref o1), .unset, .unset, .unset] [(.double FP.dconst0)])) _
    refine XS.dstoreN X0.here hx rfl (hb hby d1_1) rfl (l' := #[.val (.ref o0), .val (.ref o1), .val (.double FP.dconst0), .second, .unset]) rfl ?_
    show Steps p.tables e below (s₁.setTop (mkF m 2 #[.val (.ref o0), .val (.ref o1), .val (.double FP.dconst0), .second, .unset] [])) _
    refine XS.iconst X0.here hx rfl (hb hby d1_2) ?_
    show Steps p.tables e below (s₁.setTop (mkF m 3 #[.val (.ref o0), .val (.ref o1), .val (.double FP.dconst0), .second, .unset] [(.int (0 : Int32))])) _
    refine XS.istore X0.here hx rfl (hb hby d1_3) rfl (l' := #[.val (.ref o0), .val (.ref o1), .val (.double FP.dconst0), .second, .val (.int (0 : Int32))]) rfl ?_
    show Steps p.tables e below (s₁.setTop (mkF m 5 #[.val (.ref o0), .val (.ref o1), .val (.double FP.dconst0), .second, .val (.int (0 : Int32))] [])) _
    refine XS.iload X0.here hx rfl (hb hby d1_5) rfl ?_
    show Steps p.tables e below (s₁.setTop (mkF m 7 #[.val (.ref o0), .val (.ref o1), .val (.double FP.dconst0), .second, .val (.int (0 : Int32))] [(.int (0 : Int32))])) _
    refine XS.aloadN X0.here hx rfl (hb hby d1_7) rfl rfl ?_
    show Steps p.tables e below (s₁.setTop (mkF m 8 #[.val (.ref o0), .val (.ref o1), .val (.double FP.dconst0), .second, .val (.int (0 : Int32))] [(.ref o1), (.int (0 : Int32))])) _
    refine X0.arraylength hx (by rw [e0]; exact Ar1.1) (State.isArrayOf_alike hZ.alike Ar1.2.1) (g := (mkF m 8 #[.val (.ref o0), .val (.ref o1), .val (.double FP.dconst0), .second, .val (.int (0 : Int32))] [(.ref o1), (.int (0 : Int32))])) rfl rfl (hb hby d1_8) _ ?_
    rw [len_of S1 Nn1]
    show Steps p.tables e below (s₁.setTop (mkF m 9 #[.val (.ref o0), .val (.ref o1), .val (.double FP.dconst0), .second, .val (.int (0 : Int32))] [(.int (3 : Int32)), (.int (0 : Int32))])) _
    refine XS.icmpNo X0.here hx rfl (hb hby d1_9) rfl (Jvm.Free.XT.ii_ge_f (by decide)) ?_
    show Steps p.tables e below (s₁.setTop (mkF m 12 #[.val (.ref o0), .val (.ref o1), .val (.double FP.dconst0), .second, .val (.int (0 : Int32))] [])) _
    refine XS.dloadN X0.here hx rfl (hb hby d1_12) rfl ?_
    show Steps p.tables e below (s₁.setTop (mkF m 13 #[.val (.ref o0), .val (.ref o1), .val (.double FP.dconst0), .second, .val (.int (0 : Int32))] [(.double FP.dconst0)])) _
    refine XS.aloadN X0.here hx rfl (hb hby d1_13) rfl rfl ?_
    show Steps p.tables e below (s₁.setTop (mkF m 14 #[.val (.ref o0), .val (.ref o1), .val (.double FP.dconst0), .second, .val (.int (0 : Int32))] [(.ref o0), (.double FP.dconst0)])) _
    refine XS.iload X0.here hx rfl (hb hby d1_14) rfl ?_
    show Steps p.tables e below (s₁.setTop (mkF m 16 #[.val (.ref o0), .val (.ref o1), .val (.double FP.dconst0), .second, .val (.int (0 : Int32))] [(.int (0 : Int32)), (.ref o0), (.double FP.dconst0)])) _
    refine X0.daload hx (j := (0 : Int32)) (v := (.double x0)) (by rw [e0]; exact Ar2.1) (State.isArrayOf_alike hZ.alike Ar2.2.1) Ar2.2.2 in2 (Has.at Ha2 in2 rfl) (g := (mkF m 16 #[.val (.ref o0), .val (.ref o1), .val (.double FP.dconst0), .second, .val (.int (0 : Int32))] [(.int (0 : Int32)), (.ref o0), (.double FP.dconst0)])) rfl rfl (hb hby d1_16) _ ?_
    show Steps p.tables e below (s₁.setTop (mkF m 17 #[.val (.ref o0), .val (.ref o1), .val (.double FP.dconst0), .second, .val (.int (0 : Int32))] [(.double x0), (.double FP.dconst0)])) _
    refine XS.aloadN X0.here hx rfl (hb hby d1_17) rfl rfl ?_
    show Steps p.tables e below (s₁.setTop (mkF m 18 #[.val (.ref o0), .val (.ref o1), .val (.double FP.dconst0), .second, .val (.int (0 : Int32))] [(.ref o1), (.double x0), (.double FP.dconst0)])) _
    refine XS.iload X0.here hx rfl (hb hby d1_18) rfl ?_
    show Steps p.tables e below (s₁.setTop (mkF m 20 #[.val (.ref o0), .val (.ref o1), .val (.double FP.dconst0), .second, .val (.int (0 : Int32))] [(.int (0 : Int32)), (.ref o1), (.double x0), (.double FP.dconst0)])) _
    refine X0.daload hx (j := (0 : Int32)) (v := (.double y0)) (by rw [e0]; exact Ar3.1) (State.isArrayOf_alike hZ.alike Ar3.2.1) Ar3.2.2 in3 (Has.at Ha3 in3 rfl) (g := (mkF m 20 #[.val (.ref o0), .val (.ref o1), .val (.double FP.dconst0), .second, .val (.int (0 : Int32))] [(.int (0 : Int32)), (.ref o1), (.double x0), (.double FP.dconst0)])) rfl rfl (hb hby d1_20) _ ?_
    show Steps p.tables e below (s₁.setTop (mkF m 21 #[.val (.ref o0), .val (.ref o1), .val (.double FP.dconst0), .second, .val (.int (0 : Int32))] [(.double y0), (.double x0), (.double FP.dconst0)])) _
    refine Jvm.OwnK.dmul X0.here hx rfl (hb hby d1_21) rfl hz21 nn21 ?_
    show Steps p.tables e below (s₁.setTop (mkF m 22 #[.val (.ref o0), .val (.ref o1), .val (.double FP.dconst0), .second, .val (.int (0 : Int32))] [(.double z21), (.double FP.dconst0)])) _
    refine Jvm.OwnK.dadd X0.here hx rfl (hb hby d1_22) rfl hz22 nn22 ?_
    show Steps p.tables e below (s₁.setTop (mkF m 23 #[.val (.ref o0), .val (.ref o1), .val (.double FP.dconst0), .second, .val (.int (0 : Int32))] [(.double z22)])) _
    refine XS.dstoreN X0.here hx rfl (hb hby d1_23) rfl (l' := #[.val (.ref o0), .val (.ref o1), .val (.double z22), .second, .val (.int (0 : Int32))]) rfl ?_
    show Steps p.tables e below (s₁.setTop (mkF m 24 #[.val (.ref o0), .val (.ref o1), .val (.double z22), .second, .val (.int (0 : Int32))] [])) _
    refine Jvm.OwnK.iinc X0.here hx rfl (hb hby d1_24) rfl (l' := #[.val (.ref o0), .val (.ref o1), .val (.double z22), .second, .val (.int (1 : Int32))]) (v := (1 : Int32)) (by decide) rfl ?_
    show Steps p.tables e below (s₁.setTop (mkF m 27 #[.val (.ref o0), .val (.ref o1), .val (.double z22), .second, .val (.int (1 : Int32))] [])) _
    refine XS.goto X0.here hx rfl (pc0 := 27) (pc' := 5) rfl (hb hby d1_27) (by decide) (by decide) ?_
    show Steps p.tables e below (s₁.setTop (mkF m 5 #[.val (.ref o0), .val (.ref o1), .val (.double z22), .second, .val (.int (1 : Int32))] [])) _
    refine XS.iload X0.here hx rfl (hb hby d1_5) rfl ?_
    show Steps p.tables e below (s₁.setTop (mkF m 7 #[.val (.ref o0), .val (.ref o1), .val (.double z22), .second, .val (.int (1 : Int32))] [(.int (1 : Int32))])) _
    refine XS.aloadN X0.here hx rfl (hb hby d1_7) rfl rfl ?_
    show Steps p.tables e below (s₁.setTop (mkF m 8 #[.val (.ref o0), .val (.ref o1), .val (.double z22), .second, .val (.int (1 : Int32))] [(.ref o1), (.int (1 : Int32))])) _
    refine X0.arraylength hx (by rw [e0]; exact Ar4.1) (State.isArrayOf_alike hZ.alike Ar4.2.1) (g := (mkF m 8 #[.val (.ref o0), .val (.ref o1), .val (.double z22), .second, .val (.int (1 : Int32))] [(.ref o1), (.int (1 : Int32))])) rfl rfl (hb hby d1_8) _ ?_
    rw [len_of S4 Nn4]
    show Steps p.tables e below (s₁.setTop (mkF m 9 #[.val (.ref o0), .val (.ref o1), .val (.double z22), .second, .val (.int (1 : Int32))] [(.int (3 : Int32)), (.int (1 : Int32))])) _
    refine XS.icmpNo X0.here hx rfl (hb hby d1_9) rfl (Jvm.Free.XT.ii_ge_f (by decide)) ?_
    show Steps p.tables e below (s₁.setTop (mkF m 12 #[.val (.ref o0), .val (.ref o1), .val (.double z22), .second, .val (.int (1 : Int32))] [])) _
    refine XS.dloadN X0.here hx rfl (hb hby d1_12) rfl ?_
    show Steps p.tables e below (s₁.setTop (mkF m 13 #[.val (.ref o0), .val (.ref o1), .val (.double z22), .second, .val (.int (1 : Int32))] [(.double z22)])) _
    refine XS.aloadN X0.here hx rfl (hb hby d1_13) rfl rfl ?_
    show Steps p.tables e below (s₁.setTop (mkF m 14 #[.val (.ref o0), .val (.ref o1), .val (.double z22), .second, .val (.int (1 : Int32))] [(.ref o0), (.double z22)])) _
    refine XS.iload X0.here hx rfl (hb hby d1_14) rfl ?_
    show Steps p.tables e below (s₁.setTop (mkF m 16 #[.val (.ref o0), .val (.ref o1), .val (.double z22), .second, .val (.int (1 : Int32))] [(.int (1 : Int32)), (.ref o0), (.double z22)])) _
    refine X0.daload hx (j := (1 : Int32)) (v := (.double x1)) (by rw [e0]; exact Ar5.1) (State.isArrayOf_alike hZ.alike Ar5.2.1) Ar5.2.2 in5 (Has.at Ha5 in5 rfl) (g := (mkF m 16 #[.val (.ref o0), .val (.ref o1), .val (.double z22), .second, .val (.int (1 : Int32))] [(.int (1 : Int32)), (.ref o0), (.double z22)])) rfl rfl (hb hby d1_16) _ ?_
    show Steps p.tables e below (s₁.setTop (mkF m 17 #[.val (.ref o0), .val (.ref o1), .val (.double z22), .second, .val (.int (1 : Int32))] [(.double x1), (.double z22)])) _
    refine XS.aloadN X0.here hx rfl (hb hby d1_17) rfl rfl ?_
    show Steps p.tables e below (s₁.setTop (mkF m 18 #[.val (.ref o0), .val (.ref o1), .val (.double z22), .second, .val (.int (1 : Int32))] [(.ref o1), (.double x1), (.double z22)])) _
    refine XS.iload X0.here hx rfl (hb hby d1_18) rfl ?_
    show Steps p.tables e below (s₁.setTop (mkF m 20 #[.val (.ref o0), .val (.ref o1), .val (.double z22), .second, .val (.int (1 : Int32))] [(.int (1 : Int32)), (.ref o1), (.double x1), (.double z22)])) _
    refine X0.daload hx (j := (1 : Int32)) (v := (.double y1)) (by rw [e0]; exact Ar6.1) (State.isArrayOf_alike hZ.alike Ar6.2.1) Ar6.2.2 in6 (Has.at Ha6 in6 rfl) (g := (mkF m 20 #[.val (.ref o0), .val (.ref o1), .val (.double z22), .second, .val (.int (1 : Int32))] [(.int (1 : Int32)), (.ref o1), (.double x1), (.double z22)])) rfl rfl (hb hby d1_20) _ ?_
    show Steps p.tables e below (s₁.setTop (mkF m 21 #[.val (.ref o0), .val (.ref o1), .val (.double z22), .second, .val (.int (1 : Int32))] [(.double y1), (.double x1), (.double z22)])) _
    refine Jvm.OwnK.dmul X0.here hx rfl (hb hby d1_21) rfl hz21_2 nn21_2 ?_
    show Steps p.tables e below (s₁.setTop (mkF m 22 #[.val (.ref o0), .val (.ref o1), .val (.double z22), .second, .val (.int (1 : Int32))] [(.double z21_2), (.double z22)])) _
    refine Jvm.OwnK.dadd X0.here hx rfl (hb hby d1_22) rfl hz22_2 nn22_2 ?_
    show Steps p.tables e below (s₁.setTop (mkF m 23 #[.val (.ref o0), .val (.ref o1), .val (.double z22), .second, .val (.int (1 : Int32))] [(.double z22_2)])) _
    refine XS.dstoreN X0.here hx rfl (hb hby d1_23) rfl (l' := #[.val (.ref o0), .val (.ref o1), .val (.double z22_2), .second, .val (.int (1 : Int32))]) rfl ?_
    show Steps p.tables e below (s₁.setTop (mkF m 24 #[.val (.ref o0), .val (.ref o1), .val (.double z22_2), .second, .val (.int (1 : Int32))] [])) _
    refine Jvm.OwnK.iinc X0.here hx rfl (hb hby d1_24) rfl (l' := #[.val (.ref o0), .val (.ref o1), .val (.double z22_2), .second, .val (.int (2 : Int32))]) (v := (2 : Int32)) (by decide) rfl ?_
    show Steps p.tables e below (s₁.setTop (mkF m 27 #[.val (.ref o0), .val (.ref o1), .val (.double z22_2), .second, .val (.int (2 : Int32))] [])) _
    refine XS.goto X0.here hx rfl (pc0 := 27) (pc' := 5) rfl (hb hby d1_27) (by decide) (by decide) ?_
    show Steps p.tables e below (s₁.setTop (mkF m 5 #[.val (.ref o0), .val (.ref o1), .val (.double z22_2), .second, .val (.int (2 : Int32))] [])) _
    refine XS.iload X0.here hx rfl (hb hby d1_5) rfl ?_
    show Steps p.tables e below (s₁.setTop (mkF m 7 #[.val (.ref o0), .val (.ref o1), .val (.double z22_2), .second, .val (.int (2 : Int32))] [(.int (2 : Int32))])) _
    refine XS.aloadN X0.here hx rfl (hb hby d1_7) rfl rfl ?_
    show Steps p.tables e below (s₁.setTop (mkF m 8 #[.val (.ref o0), .val (.ref o1), .val (.double z22_2), .second, .val (.int (2 : Int32))] [(.ref o1), (.int (2 : Int32))])) _
    refine X0.arraylength hx (by rw [e0]; exact Ar7.1) (State.isArrayOf_alike hZ.alike Ar7.2.1) (g := (mkF m 8 #[.val (.ref o0), .val (.ref o1), .val (.double z22_2), .second, .val (.int (2 : Int32))] [(.ref o1), (.int (2 : Int32))])) rfl rfl (hb hby d1_8) _ ?_
    rw [len_of S7 Nn7]
    show Steps p.tables e below (s₁.setTop (mkF m 9 #[.val (.ref o0), .val (.ref o1), .val (.double z22_2), .second, .val (.int (2 : Int32))] [(.int (3 : Int32)), (.int (2 : Int32))])) _
    refine XS.icmpNo X0.here hx rfl (hb hby d1_9) rfl (Jvm.Free.XT.ii_ge_f (by decide)) ?_
    show Steps p.tables e below (s₁.setTop (mkF m 12 #[.val (.ref o0), .val (.ref o1), .val (.double z22_2), .second, .val (.int (2 : Int32))] [])) _
    refine XS.dloadN X0.here hx rfl (hb hby d1_12) rfl ?_
    show Steps p.tables e below (s₁.setTop (mkF m 13 #[.val (.ref o0), .val (.ref o1), .val (.double z22_2), .second, .val (.int (2 : Int32))] [(.double z22_2)])) _
    refine XS.aloadN X0.here hx rfl (hb hby d1_13) rfl rfl ?_
    show Steps p.tables e below (s₁.setTop (mkF m 14 #[.val (.ref o0), .val (.ref o1), .val (.double z22_2), .second, .val (.int (2 : Int32))] [(.ref o0), (.double z22_2)])) _
    refine XS.iload X0.here hx rfl (hb hby d1_14) rfl ?_
    show Steps p.tables e below (s₁.setTop (mkF m 16 #[.val (.ref o0), .val (.ref o1), .val (.double z22_2), .second, .val (.int (2 : Int32))] [(.int (2 : Int32)), (.ref o0), (.double z22_2)])) _
    refine X0.daload hx (j := (2 : Int32)) (v := (.double x2)) (by rw [e0]; exact Ar8.1) (State.isArrayOf_alike hZ.alike Ar8.2.1) Ar8.2.2 in8 (Has.at Ha8 in8 rfl) (g := (mkF m 16 #[.val (.ref o0), .val (.ref o1), .val (.double z22_2), .second, .val (.int (2 : Int32))] [(.int (2 : Int32)), (.ref o0), (.double z22_2)])) rfl rfl (hb hby d1_16) _ ?_
    show Steps p.tables e below (s₁.setTop (mkF m 17 #[.val (.ref o0), .val (.ref o1), .val (.double z22_2), .second, .val (.int (2 : Int32))] [(.double x2), (.double z22_2)])) _
    refine XS.aloadN X0.here hx rfl (hb hby d1_17) rfl rfl ?_
    show Steps p.tables e below (s₁.setTop (mkF m 18 #[.val (.ref o0), .val (.ref o1), .val (.double z22_2), .second, .val (.int (2 : Int32))] [(.ref o1), (.double x2), (.double z22_2)])) _
    refine XS.iload X0.here hx rfl (hb hby d1_18) rfl ?_
    show Steps p.tables e below (s₁.setTop (mkF m 20 #[.val (.ref o0), .val (.ref o1), .val (.double z22_2), .second, .val (.int (2 : Int32))] [(.int (2 : Int32)), (.ref o1), (.double x2), (.double z22_2)])) _
    refine X0.daload hx (j := (2 : Int32)) (v := (.double y2)) (by rw [e0]; exact Ar9.1) (State.isArrayOf_alike hZ.alike Ar9.2.1) Ar9.2.2 in9 (Has.at Ha9 in9 rfl) (g := (mkF m 20 #[.val (.ref o0), .val (.ref o1), .val (.double z22_2), .second, .val (.int (2 : Int32))] [(.int (2 : Int32)), (.ref o1), (.double x2), (.double z22_2)])) rfl rfl (hb hby d1_20) _ ?_
    show Steps p.tables e below (s₁.setTop (mkF m 21 #[.val (.ref o0), .val (.ref o1), .val (.double z22_2), .second, .val (.int (2 : Int32))] [(.double y2), (.double x2), (.double z22_2)])) _
    refine Jvm.OwnK.dmul X0.here hx rfl (hb hby d1_21) rfl hz21_3 nn21_3 ?_
    show Steps p.tables e below (s₁.setTop (mkF m 22 #[.val (.ref o0), .val (.ref o1), .val (.double z22_2), .second, .val (.int (2 : Int32))] [(.double z21_3), (.double z22_2)])) _
    refine Jvm.OwnK.dadd X0.here hx rfl (hb hby d1_22) rfl hz22_3 nn22_3 ?_
    show Steps p.tables e below (s₁.setTop (mkF m 23 #[.val (.ref o0), .val (.ref o1), .val (.double z22_2), .second, .val (.int (2 : Int32))] [(.double z22_3)])) _
    refine XS.dstoreN X0.here hx rfl (hb hby d1_23) rfl (l' := #[.val (.ref o0), .val (.ref o1), .val (.double z22_3), .second, .val (.int (2 : Int32))]) rfl ?_
    show Steps p.tables e below (s₁.setTop (mkF m 24 #[.val (.ref o0), .val (.ref o1), .val (.double z22_3), .second, .val (.int (2 : Int32))] [])) _
    refine Jvm.OwnK.iinc X0.here hx rfl (hb hby d1_24) rfl (l' := #[.val (.ref o0), .val (.ref o1), .val (.double z22_3), .second, .val (.int (3 : Int32))]) (v := (3 : Int32)) (by decide) rfl ?_
    show Steps p.tables e below (s₁.setTop (mkF m 27 #[.val (.ref o0), .val (.ref o1), .val (.double z22_3), .second, .val (.int (3 : Int32))] [])) _
    refine XS.goto X0.here hx rfl (pc0 := 27) (pc' := 5) rfl (hb hby d1_27) (by decide) (by decide) ?_
    show Steps p.tables e below (s₁.setTop (mkF m 5 #[.val (.ref o0), .val (.ref o1), .val (.double z22_3), .second, .val (.int (3 : Int32))] [])) _
    refine XS.iload X0.here hx rfl (hb hby d1_5) rfl ?_
    show Steps p.tables e below (s₁.setTop (mkF m 7 #[.val (.ref o0), .val (.ref o1), .val (.double z22_3), .second, .val (.int (3 : Int32))] [(.int (3 : Int32))])) _
    refine XS.aloadN X0.here hx rfl (hb hby d1_7) rfl rfl ?_
    show Steps p.tables e below (s₁.setTop (mkF m 8 #[.val (.ref o0), .val (.ref o1), .val (.double z22_3), .second, .val (.int (3 : Int32))] [(.ref o1), (.int (3 : Int32))])) _
    refine X0.arraylength hx (by rw [e0]; exact Ar10.1) (State.isArrayOf_alike hZ.alike Ar10.2.1) (g := (mkF m 8 #[.val (.ref o0), .val (.ref o1), .val (.double z22_3), .second, .val (.int (3 : Int32))] [(.ref o1), (.int (3 : Int32))])) rfl rfl (hb hby d1_8) _ ?_
    rw [len_of S10 Nn10]
    show Steps p.tables e below (s₁.setTop (mkF m 9 #[.val (.ref o0), .val (.ref o1), .val (.double z22_3), .second, .val (.int (3 : Int32))] [(.int (3 : Int32)), (.int (3 : Int32))])) _
    refine XS.icmpYes X0.here hx rfl (pc0 := 9) (pc' := 30) rfl (hb hby d1_9) rfl (Jvm.Free.XT.ii_ge_t (by decide)) (by decide) (by decide) ?_
    show Steps p.tables e below (s₁.setTop (mkF m 30 #[.val (.ref o0), .val (.ref o1), .val (.double z22_3), .second, .val (.int (3 : Int32))] [])) _
    refine XS.dloadN X0.here hx rfl (hb hby d1_30) rfl ?_
    exact k
  obtain ⟨fs, hr, hrun, hended, hW, hsame⟩ := X0.leave (v := some (.double z22_3)) (fun h => by rw [Bd.returns] at h; cases h)
  refine ⟨_, _, c11 _ ?_, hrun, hended, _, _, rfl, ?_, ⟨_, rfl⟩, hW, hsame.mono (by decide) (by decide)⟩
  · show Steps p.tables e below (s₁.setTop (mkF m 31 #[.val (.ref o0), .val (.ref o1), .val (.double z22_3), .second, .val (.int (3 : Int32))] [(.double z22_3)])) _
    exact retOut X0 hx Bd.returns rfl (Or.inr (Or.inr (Or.inl ⟨rfl, rfl, _, rfl⟩))) (hb hby d1_31) hr
  · show Q1_3 Z o0 o1 k_o0 x0 x1 x2 x3 k_o1 y0 y1 y2 z21 z22 z21_2 z22_2 z21_3 z22_3 h0 n0 _ s₁.heap _
    rw [e0]
    exact ⟨rfl, N0, rfl⟩
def Q0 (n0 : Nat) (v : Option Value) (h : Heap) (L : List Loc) : Prop := v = some (.int 1) ∧ Fr n0 L
set_option maxRecDepth 65536 in
set_option maxHeartbeats 40000000 in
theorem rm0 (l : Launch) (Z : State) (a0 : Array Value) (hw : ∀ d ∈ tables_1, d.before a0 Z = true) (ws : List Jvm.Cond) (p0 : Int32) (p1 : Int32) (p2 : Int32) (p3 : Int32)  (h0 : Heap) (n0 : Nat) (Z0 : n0 ≤ h0.size)  :
    MetFree l x (head1 (Jvm.Cond.code x code maxLocals ret :: ws) room_1) (fun a U => a = #[(.int p0), (.int p1), (.int p2), (.int p3)] ∧ Z.Warmed39 U.vm ∧ U.heap = h0) (fun _ _ _ _ _ => True) (fun _ U o U' => ∃ v L, o = .returned v ∧ Q0 n0 v U'.heap L ∧ FrameEnd U o U' L room_1.cells room_1.slots) := by
  refine MetFree.of_bodySF (plainFor_of_name pn_1) hisR ?_
  intro p e s m args below meth c s₁ Bd hml0 hP hK
  obtain ⟨rfl, hZ, hh⟩ := hP
  have hx := Bd.exec
  have hby := Bd.bytes
  have hml : c.maxLocals = 18 := hml0
  have hown : s.vm.findClass "com/example/credal_choice/credalchoice/model/GamblesExpectationPinLaw" = some m.cls := findClass_of_methodNamed Bd.named
  have hnm := (name_of_methodNamed Bd.named Bd.method).1
  have X0 : Stand p l e room_1 s m #[(.int p0), (.int p1), (.int p2), (.int p3)] below meth c s₁ [] 0 0 := Stand.of_body Bd
  have e0 : s₁.heap = h0 := by rw [← hh, Bd.state]; rfl
  have N0 := Fr.nil n0
  have c0 : ∀ t, Steps p.tables e below (s₁.setTop (mkF m 0 #[.val (.int p0), .val (.int p1), .val (.int p2), .val (.int p3), .unset, .unset, .unset, .unset, .unset, .unset, .unset, .unset, .unset, .unset, .unset, .unset, .unset, .unset] [])) t → Steps p.tables e below (s₁.setTop (entryFrame m #[(.int p0), (.int p1), (.int p2), (.int p3)] maxLocals)) t := fun t k => castTop (ef_rm0 m p0 p1 p2 p3) k
  obtain ⟨z2, hz2⟩ : ∃ z : Int32, p3 &&& (3 : Int32) = z := ⟨_, rfl⟩
  have c1 : ∀ t, Steps p.tables e below (s₁.setTop (mkF m 3 #[.val (.int p0), .val (.int p1), .val (.int p2), .val (.int p3), .unset, .unset, .unset, .unset, .unset, .unset, .unset, .unset, .unset, .unset, .unset, .unset, .unset, .unset] [(.int z2)])) t → Steps p.tables e below (s₁.setTop (entryFrame m #[(.int p0), (.int p1), (.int p2), (.int p3)] maxLocals)) t := by
    intro t k
    refine c0 t ?_
    show Steps p.tables e below (s₁.setTop (mkF m 0 #[.val (.int p0), .val (.int p1), .val (.int p2), .val (.int p3), .unset, .unset, .unset, .unset, .unset, .unset, .unset, .unset, .unset, .unset, .unset, .unset, .unset, .unset] [])) _
    refine XS.iloadN X0.here hx rfl (hb hby at_0) rfl ?_
    show Steps p.tables e below (s₁.setTop (mkF m 1 #[.val (.int p0), .val (.int p1), .val (.int p2), .val (.int p3), .unset, .unset, .unset, .unset, .unset, .unset, .unset, .unset, .unset, .unset, .unset, .unset, .unset, .unset] [(.int p3)])) _
    refine XS.iconst X0.here hx rfl (hb hby at_1) ?_
    show Steps p.tables e below (s₁.setTop (mkF m 2 #[.val (.int p0), .val (.int p1), .val (.int p2), .val (.int p3), .unset, .unset, .unset, .unset, .unset, .unset, .unset, .unset, .unset, .unset, .unset, .unset, .unset, .unset] [(.int (3 : Int32)), (.int p3)])) _
    refine Jvm.OwnK.iand X0.here hx rfl (hb hby at_2) rfl hz2 ?_
    exact k
  rcases ((by have := and3 p3; rw [hz2] at this; exact this : z2 = 0 ∨ z2 = 1 ∨ z2 = 2 ∨ z2 = 3)) with q2 | q2 | q2 | q2
  · obtain rfl := q2
    obtain ⟨z6, hz6⟩ : ∃ z : Int32, p0.toInt16.toInt32 = z := ⟨_, rfl⟩
    obtain ⟨z12, hz12⟩ : ∃ z : Int32, p0 >>> ((16 : Int32) &&& 31) = z := ⟨_, rfl⟩
    obtain ⟨z13, hz13⟩ : ∃ z : Int32, z12.toInt16.toInt32 = z := ⟨_, rfl⟩
    obtain ⟨z17, hz17⟩ : ∃ z : Int32, p1.toInt16.toInt32 = z := ⟨_, rfl⟩
    obtain ⟨z23, hz23⟩ : ∃ z : Int32, p1 >>> ((16 : Int32) &&& 31) = z := ⟨_, rfl⟩
    obtain ⟨z24, hz24⟩ : ∃ z : Int32, z23.toInt16.toInt32 = z := ⟨_, rfl⟩
    obtain ⟨z28, hz28⟩ : ∃ z : Int32, p2.toInt16.toInt32 = z := ⟨_, rfl⟩
    obtain ⟨z34, hz34⟩ : ∃ z : Int32, p2 >>> ((16 : Int32) &&& 31) = z := ⟨_, rfl⟩
    obtain ⟨z35, hz35⟩ : ∃ z : Int32, z34.toInt16.toInt32 = z := ⟨_, rfl⟩
    obtain ⟨z41, hz41⟩ : ∃ z : Int32, p3 >>> ((16 : Int32) &&& 31) = z := ⟨_, rfl⟩
    obtain ⟨z42, hz42⟩ : ∃ z : Int32, z41.toInt16.toInt32 = z := ⟨_, rfl⟩
    obtain ⟨z169, hz169⟩ : ∃ z : UInt64, FP.i2d z42 = z := ⟨_, rfl⟩
    obtain ⟨z184, hz184⟩ : ∃ z : UInt64, FP.l2d (0 : Int64) = z := ⟨_, rfl⟩
    obtain ⟨z185, hz185⟩ : ∃ z : Int32, cmpValue (FP.dcmp FP.dconst0 z184) .l = z := ⟨_, rfl⟩
    obtain ⟨T3, h3, k3, X3, e3, E3, A3, st3⟩ := newP X0 hx hZ (hw _ (List.mem_of_getElem? (i := 0) rfl)) e0 (g := (mkF m 53 #[.val (.int p0), .val (.int p1), .val (.int p2), .val (.int p3), .val (.int (0 : Int32)), .val (.int z6), .val (.int z13), .val (.int z17), .val (.int z24), .val (.int z28), .val (.int z35), .val (.int z42), .unset, .unset, .unset, .unset, .unset, .unset] [(.int (0 : Int32))])) rfl (hb hby at_53) rfl (by decide) (cap := 0) (by decide) (by decide) (by decide) (by decide)
    obtain ⟨b3, g3⟩ : ∃ z, z = h0.size := ⟨_, rfl⟩
    rw [← g3] at A3 st3
    have gn3 : n0 ≤ b3 := Nat.le_trans Z0 (Nat.le_of_eq g3.symm)
    have gz3 : h0.size ≤ b3 := Nat.le_trans ((Keep.refl h0 [])).1 (Nat.le_of_eq g3.symm)
    have K4 : Keep h0 h3 [] := (Keep.refl h0 []).ext E3
    have V3 : Arv Z h3 b3 k3 .double (0 : Int32) [] (.double (0 : UInt64)) := (Arv.new A3 (by decide)).pad (pad_rep [] (.double (0 : UInt64)) 0)
    obtain ⟨T5, h5, k5, X5, e5, E5, A5, st5⟩ := newP X3 hx hZ (hw _ (List.mem_of_getElem? (i := 0) rfl)) e3 (g := (mkF m 61 #[.val (.int p0), .val (.int p1), .val (.int p2), .val (.int p3), .val (.int (0 : Int32)), .val (.int z6), .val (.int z13), .val (.int z17), .val (.int z24), .val (.int z28), .val (.int z35), .val (.int z42), .val (.ref b3), .unset, .unset, .unset, .unset, .unset] [(.int (1 : Int32))])) rfl (hb hby at_61) rfl (by decide) (cap := 1) (by decide) (by decide) (by decide) (by decide)
    obtain ⟨b5, g5⟩ : ∃ z, z = h3.size := ⟨_, rfl⟩
    rw [← g5] at A5 st5
    have gn5 : n0 ≤ b5 := Nat.le_trans (Nat.le_trans Z0 E3.1) (Nat.le_of_eq g5.symm)
    have gz5 : h0.size ≤ b5 := Nat.le_trans (K4).1 (Nat.le_of_eq g5.symm)
    have K6 : Keep h0 h5 [] := K4.ext E5
    have V5 : Arv Z h5 b5 k5 .double (1 : Int32) [(.double (0 : UInt64))] (.double (0 : UInt64)) := (Arv.new A5 (by decide)).pad (pad_rep [] (.double (0 : UInt64)) 1)
    obtain ⟨cl7, Ar7, q7, S7, Nn7, Ha7, G7⟩ := id V5
    have in7 : ¬ ((0 : Int32) < 0 ∨ cl7.slots.size ≤ ((0 : Int32)).toNatClampNeg) := inb_of S7 ⟨by decide, by decide⟩
    obtain ⟨T8, h8, X8, e8, W8, st8⟩ := stD X5 hx hZ e5 Ar7 (j := (0 : Int32)) in7 (g := (mkF m 170 #[.val (.int p0), .val (.int p1), .val (.int p2), .val (.int p3), .val (.int (0 : Int32)), .val (.int z6), .val (.int z13), .val (.int z17), .val (.int z24), .val (.int z28), .val (.int z35), .val (.int z42), .val (.ref b3), .val (.ref b5), .val (.long (0 : Int64)), .second, .unset, .unset] [(.double z169), (.int (0 : Int32)), (.ref b5)])) rfl rfl (hb hby at_170)
    have N8 := Fr.snoc X8 N0 gn5
    have K9 : Keep h0 h8 [] := K6.wr W8 (Or.inr gz5)
    have V8 : Arv Z h8 b5 k5 .double (1 : Int32) [(.double z169)] (.double (0 : UInt64)) := Arv.set Ar7 q7 S7 Nn7 Ha7 G7 rfl W8 0 rfl (show (0 : Nat) < 1 by decide)
    have br186 : z185 = 0 := by rw [← hz185, ← hz184]; exact Jvm.OwnF.DV_eq0 Jvm.OwnF.DV_0 (Jvm.OwnF.DV_l2d (n := 0) (Jvm.OwnF.r53 (by decide))) _
    have f10 := ((V3.ext E5).other W8 (Nat.ne_of_lt (Nat.lt_of_lt_of_le (V3).lt (Nat.le_of_eq g5.symm))))
    obtain ⟨_, _, ⟨T11, L11, k11, n11⟩, -, X11, ⟨Lc11, hQ11, ql11, qy11, qz11⟩, st11⟩ := Jvm.LawKit.callS X8 hx (y := (⟨"com/example/credal_choice/credalchoice/model/Gambles", "expectation", "([D[D)D"⟩ : MethodName)) hown (mvT hZ (hw _ (List.mem_of_getElem? (i := 1) rfl))) (mvT hZ (hw _ (List.mem_of_getElem? (i := 2) rfl))) (mvT hZ (hw _ (List.mem_of_getElem? (i := 3) rfl))) (mvT hZ (hw _ (List.mem_of_getElem? (i := 4) rfl))) (by decide) (backOf (W := 0) (rm1_0 l Z a0 hw [] b5 b3 k5 z169 k3  h8 n0 (Nat.le_trans (Nat.le_trans (Nat.le_trans Z0 E3.1) E5.1) (Keep.of_wr W8).1) V8 f10) hZ (hw _ (List.mem_of_getElem? (i := 4) rfl)) (hw _ (List.mem_of_getElem? (i := 3) rfl)) (by decide) (by decide)) (g := (mkF m 175 #[.val (.int p0), .val (.int p1), .val (.int p2), .val (.int p3), .val (.int (0 : Int32)), .val (.int z6), .val (.int z13), .val (.int z17), .val (.int z24), .val (.int z28), .val (.int z35), .val (.int z42), .val (.ref b3), .val (.ref b5), .val (.long (0 : Int64)), .second, .unset, .unset] [(.ref b3), (.ref b5)])) rfl (by rw [hml]; rfl) (argsL := [(.ref b5), (.ref b3)]) (rest := []) (lenOf pd_0 rfl) rfl (by show 2 * 0 + _ ≤ _; exact Nat.le_of_eq rfl) (hb hby at_175) (fun _ _ => ⟨rfl, e8, (by decide : 2 + 0 ≤ _), (by decide : 1 + 0 ≤ _)⟩)
    dsimp only [Pt.U, Pt.locs, Pt.cells, Pt.slots] at X11 ql11 qy11 qz11 st11 hQ11
    subst ql11 qy11 qz11
    obtain ⟨rfl, N11q, e11⟩ := hQ11
    have N11 := Fr.app N8 N11q
    have c12 : ∀ t, Steps p.tables e below (T11.setTop (mkF m 194 #[.val (.int p0), .val (.int p1), .val (.int p2), .val (.int p3), .val (.int (0 : Int32)), .val (.int z6), .val (.int z13), .val (.int z17), .val (.int z24), .val (.int z28), .val (.int z35), .val (.int z42), .val (.ref b3), .val (.ref b5), .val (.long (0 : Int64)), .second, .val (.double FP.dconst0), .second] [(.int (1 : Int32))])) t → Steps p.tables e below (s₁.setTop (entryFrame m #[(.int p0), (.int p1), (.int p2), (.int p3)] maxLocals)) t := by
      intro t k
      refine c1 t ?_
      show Steps p.tables e below (s₁.setTop (mkF m 3 #[.val (.int p0), .val (.int p1), .val (.int p2), .val (.int p3), .unset, .unset, .unset, .unset, .unset, .unset, .unset, .unset, .unset, .unset, .unset, .unset, .unset, .unset] [(.int (0 : Int32))])) _
      refine XS.istore X0.here hx rfl (hb hby at_3) rfl (l' := #[.val (.int p0), .val (.int p1), .val (.int p2), .val (.int p3), .val (.int (0 : Int32)), .unset, .unset, .unset, .unset, .unset, .unset, .unset, .unset, .unset, .unset, .unset, .unset, .unset]) rfl ?_
      show Steps p.tables e below (s₁.setTop (mkF m 5 #[.val (.int p0), .val (.int p1), .val (.int p2), .val (.int p3), .val (.int (0 : Int32)), .unset, .unset, .unset, .unset, .unset, .unset, .unset, .unset, .unset, .unset, .unset, .unset, .unset] [])) _
      refine XS.iloadN X0.here hx rfl (hb hby at_5) rfl ?_
      show Steps p.tables e below (s₁.setTop (mkF m 6 #[.val (.int p0), .val (.int p1), .val (.int p2), .val (.int p3), .val (.int (0 : Int32)), .unset, .unset, .unset, .unset, .unset, .unset, .unset, .unset, .unset, .unset, .unset, .unset, .unset] [(.int p0)])) _
      refine Jvm.OwnK.i2s X0.here hx rfl (hb hby at_6) rfl hz6 ?_
      show Steps p.tables e below (s₁.setTop (mkF m 7 #[.val (.int p0), .val (.int p1), .val (.int p2), .val (.int p3), .val (.int (0 : Int32)), .unset, .unset, .unset, .unset, .unset, .unset, .unset, .unset, .unset, .unset, .unset, .unset, .unset] [(.int z6)])) _
      refine XS.istore X0.here hx rfl (hb hby at_7) rfl (l' := #[.val (.int p0), .val (.int p1), .val (.int p2), .val (.int p3), .val (.int (0 : Int32)), .val (.int z6), .unset, .unset, .unset, .unset, .unset, .unset, .unset, .unset, .unset, .unset, .unset, .unset]) rfl ?_
      show Steps p.tables e below (s₁.setTop (mkF m 9 #[.val (.int p0), .val (.int p1), .val (.int p2), .val (.int p3), .val (.int (0 : Int32)), .val (.int z6), .unset, .unset, .unset, .unset, .unset, .unset, .unset, .unset, .unset, .unset, .unset, .unset] [])) _
      refine XS.iloadN X0.here hx rfl (hb hby at_9) rfl ?_
      show Steps p.tables e below (s₁.setTop (mkF m 10 #[.val (.int p0), .val (.int p1), .val (.int p2), .val (.int p3), .val (.int (0 : Int32)), .val (.int z6), .unset, .unset, .unset, .unset, .unset, .unset, .unset, .unset, .unset, .unset, .unset, .unset] [(.int p0)])) _
      refine XS.bipush X0.here hx rfl (hb hby at_10) ?_
      show Steps p.tables e below (s₁.setTop (mkF m 12 #[.val (.int p0), .val (.int p1), .val (.int p2), .val (.int p3), .val (.int (0 : Int32)), .val (.int z6), .unset, .unset, .unset, .unset, .unset, .unset, .unset, .unset, .unset, .unset, .unset, .unset] [(.int (16 : Int32)), (.int p0)])) _
      refine Jvm.OwnK.ishr X0.here hx rfl (hb hby at_12) rfl hz12 ?_
      show Steps p.tables e below (s₁.setTop (mkF m 13 #[.val (.int p0), .val (.int p1), .val (.int p2), .val (.int p3), .val (.int (0 : Int32)), .val (.int z6), .unset, .unset, .unset, .unset, .unset, .unset, .unset, .unset, .unset, .unset, .unset, .unset] [(.int z12)])) _
      refine Jvm.OwnK.i2s X0.here hx rfl (hb hby at_13) rfl hz13 ?_
      show Steps p.tables e below (s₁.setTop (mkF m 14 #[.val (.int p0), .val (.int p1), .val (.int p2), .val (.int p3), .val (.int (0 : Int32)), .val (.int z6), .unset, .unset, .unset, .unset, .unset, .unset, .unset, .unset, .unset, .unset, .unset, .unset] [(.int z13)])) _
      refine XS.istore X0.here hx rfl (hb hby at_14) rfl (l' := #[.val (.int p0), .val (.int p1), .val (.int p2), .val (.int p3), .val (.int (0 : Int32)), .val (.int z6), .val (.int z13), .unset, .unset, .unset, .unset, .unset, .unset, .unset, .unset, .unset, .unset, .unset]) rfl ?_
      show Steps p.tables e below (s₁.setTop (mkF m 16 #[.val (.int p0), .val (.int p1), .val (.int p2), .val (.int p3), .val (.int (0 : Int32)), .val (.int z6), .val (.int z13), .unset, .unset, .unset, .unset, .unset, .unset, .unset, .unset, .unset, .unset, .unset] [])) _
      refine XS.iloadN X0.here hx rfl (hb hby at_16) rfl ?_
      show Steps p.tables e below (s₁.setTop (mkF m 17 #[.val (.int p0), .val (.int p1), .val (.int p2), .val (.int p3), .val (.int (0 : Int32)), .val (.int z6), .val (.int z13), .unset, .unset, .unset, .unset, .unset, .unset, .unset, .unset, .unset, .unset, .unset] [(.int p1)])) _
      refine Jvm.OwnK.i2s X0.here hx rfl (hb hby at_17) rfl hz17 ?_
      show Steps p.tables e below (s₁.setTop (mkF m 18 #[.val (.int p0), .val (.int p1), .val (.int p2), .val (.int p3), .val (.int (0 : Int32)), .val (.int z6), .val (.int z13), .unset, .unset, .unset, .unset, .unset, .unset, .unset, .unset, .unset, .unset, .unset] [(.int z17)])) _
      refine XS.istore X0.here hx rfl (hb hby at_18) rfl (l' := #[.val (.int p0), .val (.int p1), .val (.int p2), .val (.int p3), .val (.int (0 : Int32)), .val (.int z6), .val (.int z13), .val (.int z17), .unset, .unset, .unset, .unset, .unset, .unset, .unset, .unset, .unset, .unset]) rfl ?_
      show Steps p.tables e below (s₁.setTop (mkF m 20 #[.val (.int p0), .val (.int p1), .val (.int p2), .val (.int p3), .val (.int (0 : Int32)), .val (.int z6), .val (.int z13), .val (.int z17), .unset, .unset, .unset, .unset, .unset, .unset, .unset, .unset, .unset, .unset] [])) _
      refine XS.iloadN X0.here hx rfl (hb hby at_20) rfl ?_
      show Steps p.tables e below (s₁.setTop (mkF m 21 #[.val (.int p0), .val (.int p1), .val (.int p2), .val (.int p3), .val (.int (0 : Int32)), .val (.int z6), .val (.int z13), .val (.int z17), .unset, .unset, .unset, .unset, .unset, .unset, .unset, .unset, .unset, .unset] [(.int p1)])) _
      refine XS.bipush X0.here hx rfl (hb hby at_21) ?_
      show Steps p.tables e below (s₁.setTop (mkF m 23 #[.val (.int p0), .val (.int p1), .val (.int p2), .val (.int p3), .val (.int (0 : Int32)), .val (.int z6), .val (.int z13), .val (.int z17), .unset, .unset, .unset, .unset, .unset, .unset, .unset, .unset, .unset, .unset] [(.int (16 : Int32)), (.int p1)])) _
      refine Jvm.OwnK.ishr X0.here hx rfl (hb hby at_23) rfl hz23 ?_
      show Steps p.tables e below (s₁.setTop (mkF m 24 #[.val (.int p0), .val (.int p1), .val (.int p2), .val (.int p3), .val (.int (0 : Int32)), .val (.int z6), .val (.int z13), .val (.int z17), .unset, .unset, .unset, .unset, .unset, .unset, .unset, .unset, .unset, .unset] [(.int z23)])) _
      refine Jvm.OwnK.i2s X0.here hx rfl (hb hby at_24) rfl hz24 ?_
      show Steps p.tables e below (s₁.setTop (mkF m 25 #[.val (.int p0), .val (.int p1), .val (.int p2), .val (.int p3), .val (.int (0 : Int32)), .val (.int z6), .val (.int z13), .val (.int z17), .unset, .unset, .unset, .unset, .unset, .unset, .unset, .unset, .unset, .unset] [(.int z24)])) _
      refine XS.istore X0.here hx rfl (hb hby at_25) rfl (l' := #[.val (.int p0), .val (.int p1), .val (.int p2), .val (.int p3), .val (.int (0 : Int32)), .val (.int z6), .val (.int z13), .val (.int z17), .val (.int z24), .unset, .unset, .unset, .unset, .unset, .unset, .unset, .unset, .unset]) rfl ?_
      show Steps p.tables e below (s₁.setTop (mkF m 27 #[.val (.int p0), .val (.int p1), .val (.int p2), .val (.int p3), .val (.int (0 : Int32)), .val (.int z6), .val (.int z13), .val (.int z17), .val (.int z24), .unset, .unset, .unset, .unset, .unset, .unset, .unset, .unset, .unset] [])) _
      refine XS.iloadN X0.here hx rfl (hb hby at_27) rfl ?_
      show Steps p.tables e below (s₁.setTop (mkF m 28 #[.val (.int p0), .val (.int p1), .val (.int p2), .val (.int p3), .val (.int (0 : Int32)), .val (.int z6), .val (.int z13), .val (.int z17), .val (.int z24), .unset, .unset, .unset, .unset, .unset, .unset, .unset, .unset, .unset] [(.int p2)])) _
      refine Jvm.OwnK.i2s X0.here hx rfl (hb hby at_28) rfl hz28 ?_
      show Steps p.tables e below (s₁.setTop (mkF m 29 #[.val (.int p0), .val (.int p1), .val (.int p2), .val (.int p3), .val (.int (0 : Int32)), .val (.int z6), .val (.int z13), .val (.int z17), .val (.int z24), .unset, .unset, .unset, .unset, .unset, .unset, .unset, .unset, .unset] [(.int z28)])) _
      refine XS.istore X0.here hx rfl (hb hby at_29) rfl (l' := #[.val (.int p0), .val (.int p1), .val (.int p2), .val (.int p3), .val (.int (0 : Int32)), .val (.int z6), .val (.int z13), .val (.int z17), .val (.int z24), .val (.int z28), .unset, .unset, .unset, .unset, .unset, .unset, .unset, .unset]) rfl ?_
      show Steps p.tables e below (s₁.setTop (mkF m 31 #[.val (.int p0), .val (.int p1), .val (.int p2), .val (.int p3), .val (.int (0 : Int32)), .val (.int z6), .val (.int z13), .val (.int z17), .val (.int z24), .val (.int z28), .unset, .unset, .unset, .unset, .unset, .unset, .unset, .unset] [])) _
      refine XS.iloadN X0.here hx rfl (hb hby at_31) rfl ?_
      show Steps p.tables e below (s₁.setTop (mkF m 32 #[.val (.int p0), .val (.int p1), .val (.int p2), .val (.int p3), .val (.int (0 : Int32)), .val (.int z6), .val (.int z13), .val (.int z17), .val (.int z24), .val (.int z28), .unset, .unset, .unset, .unset, .unset, .unset, .unset, .unset] [(.int p2)])) _
      refine XS.bipush X0.here hx rfl (hb hby at_32) ?_
      show Steps p.tables e below (s₁.setTop (mkF m 34 #[.val (.int p0), .val (.int p1), .val (.int p2), .val (.int p3), .val (.int (0 : Int32)), .val (.int z6), .val (.int z13), .val (.int z17), .val (.int z24), .val (.int z28), .unset, .unset, .unset, .unset, .unset, .unset, .unset, .unset] [(.int (16 : Int32)), (.int p2)])) _
      refine Jvm.OwnK.ishr X0.here hx rfl (hb hby at_34) rfl hz34 ?_
      show Steps p.tables e below (s₁.setTop (mkF m 35 #[.val (.int p0), .val (.int p1), .val (.int p2), .val (.int p3), .val (.int (0 : Int32)), .val (.int z6), .val (.int z13), .val (.int z17), .val (.int z24), .val (.int z28), .unset, .unset, .unset, .unset, .unset, .unset, .unset, .unset] [(.int z34)])) _
      refine Jvm.OwnK.i2s X0.here hx rfl (hb hby at_35) rfl hz35 ?_
      show Steps p.tables e below (s₁.setTop (mkF m 36 #[.val (.int p0), .val (.int p1), .val (.int p2), .val (.int p3), .val (.int (0 : Int32)), .val (.int z6), .val (.int z13), .val (.int z17), .val (.int z24), .val (.int z28), .unset, .unset, .unset, .unset, .unset, .unset, .unset, .unset] [(.int z35)])) _
      refine XS.istore X0.here hx rfl (hb hby at_36) rfl (l' := #[.val (.int p0), .val (.int p1), .val (.int p2), .val (.int p3), .val (.int (0 : Int32)), .val (.int z6), .val (.int z13), .val (.int z17), .val (.int z24), .val (.int z28), .val (.int z35), .unset, .unset, .unset, .unset, .unset, .unset, .unset]) rfl ?_
      show Steps p.tables e below (s₁.setTop (mkF m 38 #[.val (.int p0), .val (.int p1), .val (.int p2), .val (.int p3), .val (.int (0 : Int32)), .val (.int z6), .val (.int z13), .val (.int z17), .val (.int z24), .val (.int z28), .val (.int z35), .unset, .unset, .unset, .unset, .unset, .unset, .unset] [])) _
      refine XS.iloadN X0.here hx rfl (hb hby at_38) rfl ?_
      show Steps p.tables e below (s₁.setTop (mkF m 39 #[.val (.int p0), .val (.int p1), .val (.int p2), .val (.int p3), .val (.int (0 : Int32)), .val (.int z6), .val (.int z13), .val (.int z17), .val (.int z24), .val (.int z28), .val (.int z35), .unset, .unset, .unset, .unset, .unset, .unset, .unset] [(.int p3)])) _
      refine XS.bipush X0.here hx rfl (hb hby at_39) ?_
      show Steps p.tables e below (s₁.setTop (mkF m 41 #[.val (.int p0), .val (.int p1), .val (.int p2), .val (.int p3), .val (.int (0 : Int32)), .val (.int z6), .val (.int z13), .val (.int z17), .val (.int z24), .val (.int z28), .val (.int z35), .unset, .unset, .unset, .unset, .unset, .unset, .unset] [(.int (16 : Int32)), (.int p3)])) _
      refine Jvm.OwnK.ishr X0.here hx rfl (hb hby at_41) rfl hz41 ?_
      show Steps p.tables e below (s₁.setTop (mkF m 42 #[.val (.int p0), .val (.int p1), .val (.int p2), .val (.int p3), .val (.int (0 : Int32)), .val (.int z6), .val (.int z13), .val (.int z17), .val (.int z24), .val (.int z28), .val (.int z35), .unset, .unset, .unset, .unset, .unset, .unset, .unset] [(.int z41)])) _
      refine Jvm.OwnK.i2s X0.here hx rfl (hb hby at_42) rfl hz42 ?_
      show Steps p.tables e below (s₁.setTop (mkF m 43 #[.val (.int p0), .val (.int p1), .val (.int p2), .val (.int p3), .val (.int (0 : Int32)), .val (.int z6), .val (.int z13), .val (.int z17), .val (.int z24), .val (.int z28), .val (.int z35), .unset, .unset, .unset, .unset, .unset, .unset, .unset] [(.int z42)])) _
      refine XS.istore X0.here hx rfl (hb hby at_43) rfl (l' := #[.val (.int p0), .val (.int p1), .val (.int p2), .val (.int p3), .val (.int (0 : Int32)), .val (.int z6), .val (.int z13), .val (.int z17), .val (.int z24), .val (.int z28), .val (.int z35), .val (.int z42), .unset, .unset, .unset, .unset, .unset, .unset]) rfl ?_
      show Steps p.tables e below (s₁.setTop (mkF m 45 #[.val (.int p0), .val (.int p1), .val (.int p2), .val (.int p3), .val (.int (0 : Int32)), .val (.int z6), .val (.int z13), .val (.int z17), .val (.int z24), .val (.int z28), .val (.int z35), .val (.int z42), .unset, .unset, .unset, .unset, .unset, .unset] [])) _
      refine XS.iload X0.here hx rfl (hb hby at_45) rfl ?_
      show Steps p.tables e below (s₁.setTop (mkF m 47 #[.val (.int p0), .val (.int p1), .val (.int p2), .val (.int p3), .val (.int (0 : Int32)), .val (.int z6), .val (.int z13), .val (.int z17), .val (.int z24), .val (.int z28), .val (.int z35), .val (.int z42), .unset, .unset, .unset, .unset, .unset, .unset] [(.int (0 : Int32))])) _
      refine XS.iconst X0.here hx rfl (hb hby at_47) ?_
      show Steps p.tables e below (s₁.setTop (mkF m 48 #[.val (.int p0), .val (.int p1), .val (.int p2), .val (.int p3), .val (.int (0 : Int32)), .val (.int z6), .val (.int z13), .val (.int z17), .val (.int z24), .val (.int z28), .val (.int z35), .val (.int z42), .unset, .unset, .unset, .unset, .unset, .unset] [(.int (3 : Int32)), (.int (0 : Int32))])) _
      refine XS.icmpYes X0.here hx rfl (pc0 := 48) (pc' := 51) rfl (hb hby at_48) rfl (Jvm.Free.XT.ii_ne_t (by decide)) (by decide) (by decide) ?_
      show Steps p.tables e below (s₁.setTop (mkF m 51 #[.val (.int p0), .val (.int p1), .val (.int p2), .val (.int p3), .val (.int (0 : Int32)), .val (.int z6), .val (.int z13), .val (.int z17), .val (.int z24), .val (.int z28), .val (.int z35), .val (.int z42), .unset, .unset, .unset, .unset, .unset, .unset] [])) _
      refine XS.iload X0.here hx rfl (hb hby at_51) rfl ?_
      show Steps p.tables e below (s₁.setTop (mkF m 53 #[.val (.int p0), .val (.int p1), .val (.int p2), .val (.int p3), .val (.int (0 : Int32)), .val (.int z6), .val (.int z13), .val (.int z17), .val (.int z24), .val (.int z28), .val (.int z35), .val (.int z42), .unset, .unset, .unset, .unset, .unset, .unset] [(.int (0 : Int32))])) _
      refine st3 _ ?_
      show Steps p.tables e below (T3.setTop (mkF m 55 #[.val (.int p0), .val (.int p1), .val (.int p2), .val (.int p3), .val (.int (0 : Int32)), .val (.int z6), .val (.int z13), .val (.int z17), .val (.int z24), .val (.int z28), .val (.int z35), .val (.int z42), .unset, .unset, .unset, .unset, .unset, .unset] [(.ref b3)])) _
      refine XS.astore X3.here hx rfl (hb hby at_55) rfl rfl (l' := #[.val (.int p0), .val (.int p1), .val (.int p2), .val (.int p3), .val (.int (0 : Int32)), .val (.int z6), .val (.int z13), .val (.int z17), .val (.int z24), .val (.int z28), .val (.int z35), .val (.int z42), .val (.ref b3), .unset, .unset, .unset, .unset, .unset]) rfl ?_
      show Steps p.tables e below (T3.setTop (mkF m 57 #[.val (.int p0), .val (.int p1), .val (.int p2), .val (.int p3), .val (.int (0 : Int32)), .val (.int z6), .val (.int z13), .val (.int z17), .val (.int z24), .val (.int z28), .val (.int z35), .val (.int z42), .val (.ref b3), .unset, .unset, .unset, .unset, .unset] [])) _
      refine XS.iload X3.here hx rfl (hb hby at_57) rfl ?_
      show Steps p.tables e below (T3.setTop (mkF m 59 #[.val (.int p0), .val (.int p1), .val (.int p2), .val (.int p3), .val (.int (0 : Int32)), .val (.int z6), .val (.int z13), .val (.int z17), .val (.int z24), .val (.int z28), .val (.int z35), .val (.int z42), .val (.ref b3), .unset, .unset, .unset, .unset, .unset] [(.int (0 : Int32))])) _
      refine XS.iconst X3.here hx rfl (hb hby at_59) ?_
      show Steps p.tables e below (T3.setTop (mkF m 60 #[.val (.int p0), .val (.int p1), .val (.int p2), .val (.int p3), .val (.int (0 : Int32)), .val (.int z6), .val (.int z13), .val (.int z17), .val (.int z24), .val (.int z28), .val (.int z35), .val (.int z42), .val (.ref b3), .unset, .unset, .unset, .unset, .unset] [(.int (1 : Int32)), (.int (0 : Int32))])) _
      refine Jvm.OwnK.iadd X3.here hx rfl (hb hby at_60) rfl (v := (1 : Int32)) (by decide) ?_
      show Steps p.tables e below (T3.setTop (mkF m 61 #[.val (.int p0), .val (.int p1), .val (.int p2), .val (.int p3), .val (.int (0 : Int32)), .val (.int z6), .val (.int z13), .val (.int z17), .val (.int z24), .val (.int z28), .val (.int z35), .val (.int z42), .val (.ref b3), .unset, .unset, .unset, .unset, .unset] [(.int (1 : Int32))])) _
      refine st5 _ ?_
      show Steps p.tables e below (T5.setTop (mkF m 63 #[.val (.int p0), .val (.int p1), .val (.int p2), .val (.int p3), .val (.int (0 : Int32)), .val (.int z6), .val (.int z13), .val (.int z17), .val (.int z24), .val (.int z28), .val (.int z35), .val (.int z42), .val (.ref b3), .unset, .unset, .unset, .unset, .unset] [(.ref b5)])) _
      refine XS.astore X5.here hx rfl (hb hby at_63) rfl rfl (l' := #[.val (.int p0), .val (.int p1), .val (.int p2), .val (.int p3), .val (.int (0 : Int32)), .val (.int z6), .val (.int z13), .val (.int z17), .val (.int z24), .val (.int z28), .val (.int z35), .val (.int z42), .val (.ref b3), .val (.ref b5), .unset, .unset, .unset, .unset]) rfl ?_
      show Steps p.tables e below (T5.setTop (mkF m 65 #[.val (.int p0), .val (.int p1), .val (.int p2), .val (.int p3), .val (.int (0 : Int32)), .val (.int z6), .val (.int z13), .val (.int z17), .val (.int z24), .val (.int z28), .val (.int z35), .val (.int z42), .val (.ref b3), .val (.ref b5), .unset, .unset, .unset, .unset] [])) _
      refine XS.lconst X5.here hx rfl (hb hby at_65) ?_
      show Steps p.tables e below (T5.setTop (mkF m 66 #[.val (.int p0), .val (.int p1), .val (.int p2), .val (.int p3), .val (.int (0 : Int32)), .val (.int z6), .val (.int z13), .val (.int z17), .val (.int z24), .val (.int z28), .val (.int z35), .val (.int z42), .val (.ref b3), .val (.ref b5), .unset, .unset, .unset, .unset] [(.long (0 : Int64))])) _
      refine XS.lstore X5.here hx rfl (hb hby at_66) rfl (l' := #[.val (.int p0), .val (.int p1), .val (.int p2), .val (.int p3), .val (.int (0 : Int32)), .val (.int z6), .val (.int z13), .val (.int z17), .val (.int z24), .val (.int z28), .val (.int z35), .val (.int z42), .val (.ref b3), .val (.ref b5), .val (.long (0 : Int64)), .second, .unset, .unset]) rfl ?_
      show Steps p.tables e below (T5.setTop (mkF m 68 #[.val (.int p0), .val (.int p1), .val (.int p2), .val (.int p3), .val (.int (0 : Int32)), .val (.int z6), .val (.int z13), .val (.int z17), .val (.int z24), .val (.int z28), .val (.int z35), .val (.int z42), .val (.ref b3), .val (.ref b5), .val (.long (0 : Int64)), .second, .unset, .unset] [])) _
      refine XS.iload X5.here hx rfl (hb hby at_68) rfl ?_
      show Steps p.tables e below (T5.setTop (mkF m 70 #[.val (.int p0), .val (.int p1), .val (.int p2), .val (.int p3), .val (.int (0 : Int32)), .val (.int z6), .val (.int z13), .val (.int z17), .val (.int z24), .val (.int z28), .val (.int z35), .val (.int z42), .val (.ref b3), .val (.ref b5), .val (.long (0 : Int64)), .second, .unset, .unset] [(.int (0 : Int32))])) _
      refine XS.ifYes X5.here hx rfl (pc0 := 70) (pc' := 99) rfl (hb hby at_70) rfl (Jvm.Free.XT.i0_le_t (by decide)) (by decide) (by decide) ?_
      show Steps p.tables e below (T5.setTop (mkF m 99 #[.val (.int p0), .val (.int p1), .val (.int p2), .val (.int p3), .val (.int (0 : Int32)), .val (.int z6), .val (.int z13), .val (.int z17), .val (.int z24), .val (.int z28), .val (.int z35), .val (.int z42), .val (.ref b3), .val (.ref b5), .val (.long (0 : Int64)), .second, .unset, .unset] [])) _
      refine XS.iload X5.here hx rfl (hb hby at_99) rfl ?_
      show Steps p.tables e below (T5.setTop (mkF m 101 #[.val (.int p0), .val (.int p1), .val (.int p2), .val (.int p3), .val (.int (0 : Int32)), .val (.int z6), .val (.int z13), .val (.int z17), .val (.int z24), .val (.int z28), .val (.int z35), .val (.int z42), .val (.ref b3), .val (.ref b5), .val (.long (0 : Int64)), .second, .unset, .unset] [(.int (0 : Int32))])) _
      refine XS.iconst X5.here hx rfl (hb hby at_101) ?_
      show Steps p.tables e below (T5.setTop (mkF m 102 #[.val (.int p0), .val (.int p1), .val (.int p2), .val (.int p3), .val (.int (0 : Int32)), .val (.int z6), .val (.int z13), .val (.int z17), .val (.int z24), .val (.int z28), .val (.int z35), .val (.int z42), .val (.ref b3), .val (.ref b5), .val (.long (0 : Int64)), .second, .unset, .unset] [(.int (1 : Int32)), (.int (0 : Int32))])) _
      refine XS.icmpYes X5.here hx rfl (pc0 := 102) (pc' := 131) rfl (hb hby at_102) rfl (Jvm.Free.XT.ii_le_t (by decide)) (by decide) (by decide) ?_
      show Steps p.tables e below (T5.setTop (mkF m 131 #[.val (.int p0), .val (.int p1), .val (.int p2), .val (.int p3), .val (.int (0 : Int32)), .val (.int z6), .val (.int z13), .val (.int z17), .val (.int z24), .val (.int z28), .val (.int z35), .val (.int z42), .val (.ref b3), .val (.ref b5), .val (.long (0 : Int64)), .second, .unset, .unset] [])) _
      refine XS.iload X5.here hx rfl (hb hby at_131) rfl ?_
      show Steps p.tables e below (T5.setTop (mkF m 133 #[.val (.int p0), .val (.int p1), .val (.int p2), .val (.int p3), .val (.int (0 : Int32)), .val (.int z6), .val (.int z13), .val (.int z17), .val (.int z24), .val (.int z28), .val (.int z35), .val (.int z42), .val (.ref b3), .val (.ref b5), .val (.long (0 : Int64)), .second, .unset, .unset] [(.int (0 : Int32))])) _
      refine XS.iconst X5.here hx rfl (hb hby at_133) ?_
      show Steps p.tables e below (T5.setTop (mkF m 134 #[.val (.int p0), .val (.int p1), .val (.int p2), .val (.int p3), .val (.int (0 : Int32)), .val (.int z6), .val (.int z13), .val (.int z17), .val (.int z24), .val (.int z28), .val (.int z35), .val (.int z42), .val (.ref b3), .val (.ref b5), .val (.long (0 : Int64)), .second, .unset, .unset] [(.int (2 : Int32)), (.int (0 : Int32))])) _
      refine XS.icmpYes X5.here hx rfl (pc0 := 134) (pc' := 163) rfl (hb hby at_134) rfl (Jvm.Free.XT.ii_le_t (by decide)) (by decide) (by decide) ?_
      show Steps p.tables e below (T5.setTop (mkF m 163 #[.val (.int p0), .val (.int p1), .val (.int p2), .val (.int p3), .val (.int (0 : Int32)), .val (.int z6), .val (.int z13), .val (.int z17), .val (.int z24), .val (.int z28), .val (.int z35), .val (.int z42), .val (.ref b3), .val (.ref b5), .val (.long (0 : Int64)), .second, .unset, .unset] [])) _
      refine XS.aload X5.here hx rfl (hb hby at_163) rfl rfl ?_
      show Steps p.tables e below (T5.setTop (mkF m 165 #[.val (.int p0), .val (.int p1), .val (.int p2), .val (.int p3), .val (.int (0 : Int32)), .val (.int z6), .val (.int z13), .val (.int z17), .val (.int z24), .val (.int z28), .val (.int z35), .val (.int z42), .val (.ref b3), .val (.ref b5), .val (.long (0 : Int64)), .second, .unset, .unset] [(.ref b5)])) _
      refine XS.iload X5.here hx rfl (hb hby at_165) rfl ?_
      show Steps p.tables e below (T5.setTop (mkF m 167 #[.val (.int p0), .val (.int p1), .val (.int p2), .val (.int p3), .val (.int (0 : Int32)), .val (.int z6), .val (.int z13), .val (.int z17), .val (.int z24), .val (.int z28), .val (.int z35), .val (.int z42), .val (.ref b3), .val (.ref b5), .val (.long (0 : Int64)), .second, .unset, .unset] [(.int (0 : Int32)), (.ref b5)])) _
      refine XS.iload X5.here hx rfl (hb hby at_167) rfl ?_
      show Steps p.tables e below (T5.setTop (mkF m 169 #[.val (.int p0), .val (.int p1), .val (.int p2), .val (.int p3), .val (.int (0 : Int32)), .val (.int z6), .val (.int z13), .val (.int z17), .val (.int z24), .val (.int z28), .val (.int z35), .val (.int z42), .val (.ref b3), .val (.ref b5), .val (.long (0 : Int64)), .second, .unset, .unset] [(.int z42), (.int (0 : Int32)), (.ref b5)])) _
      refine XS.i2dS X5.here hx rfl (hb hby at_169) rfl hz169 ?_
      show Steps p.tables e below (T5.setTop (mkF m 170 #[.val (.int p0), .val (.int p1), .val (.int p2), .val (.int p3), .val (.int (0 : Int32)), .val (.int z6), .val (.int z13), .val (.int z17), .val (.int z24), .val (.int z28), .val (.int z35), .val (.int z42), .val (.ref b3), .val (.ref b5), .val (.long (0 : Int64)), .second, .unset, .unset] [(.double z169), (.int (0 : Int32)), (.ref b5)])) _
      refine st8 _ ?_
      show Steps p.tables e below (T8.setTop (mkF m 171 #[.val (.int p0), .val (.int p1), .val (.int p2), .val (.int p3), .val (.int (0 : Int32)), .val (.int z6), .val (.int z13), .val (.int z17), .val (.int z24), .val (.int z28), .val (.int z35), .val (.int z42), .val (.ref b3), .val (.ref b5), .val (.long (0 : Int64)), .second, .unset, .unset] [])) _
      refine XS.aload X8.here hx rfl (hb hby at_171) rfl rfl ?_
      show Steps p.tables e below (T8.setTop (mkF m 173 #[.val (.int p0), .val (.int p1), .val (.int p2), .val (.int p3), .val (.int (0 : Int32)), .val (.int z6), .val (.int z13), .val (.int z17), .val (.int z24), .val (.int z28), .val (.int z35), .val (.int z42), .val (.ref b3), .val (.ref b5), .val (.long (0 : Int64)), .second, .unset, .unset] [(.ref b5)])) _
      refine XS.aload X8.here hx rfl (hb hby at_173) rfl rfl ?_
      show Steps p.tables e below (T8.setTop (mkF m 175 #[.val (.int p0), .val (.int p1), .val (.int p2), .val (.int p3), .val (.int (0 : Int32)), .val (.int z6), .val (.int z13), .val (.int z17), .val (.int z24), .val (.int z28), .val (.int z35), .val (.int z42), .val (.ref b3), .val (.ref b5), .val (.long (0 : Int64)), .second, .unset, .unset] [(.ref b3), (.ref b5)])) _
      refine st11 _ ?_
      show Steps p.tables e below (T11.setTop (mkF m 178 #[.val (.int p0), .val (.int p1), .val (.int p2), .val (.int p3), .val (.int (0 : Int32)), .val (.int z6), .val (.int z13), .val (.int z17), .val (.int z24), .val (.int z28), .val (.int z35), .val (.int z42), .val (.ref b3), .val (.ref b5), .val (.long (0 : Int64)), .second, .unset, .unset] [(.double FP.dconst0)])) _
      refine XS.dstore X11.here hx rfl (hb hby at_178) rfl (l' := #[.val (.int p0), .val (.int p1), .val (.int p2), .val (.int p3), .val (.int (0 : Int32)), .val (.int z6), .val (.int z13), .val (.int z17), .val (.int z24), .val (.int z28), .val (.int z35), .val (.int z42), .val (.ref b3), .val (.ref b5), .val (.long (0 : Int64)), .second, .val (.double FP.dconst0), .second]) rfl ?_
      show Steps p.tables e below (T11.setTop (mkF m 180 #[.val (.int p0), .val (.int p1), .val (.int p2), .val (.int p3), .val (.int (0 : Int32)), .val (.int z6), .val (.int z13), .val (.int z17), .val (.int z24), .val (.int z28), .val (.int z35), .val (.int z42), .val (.ref b3), .val (.ref b5), .val (.long (0 : Int64)), .second, .val (.double FP.dconst0), .second] [])) _
      refine XS.dload X11.here hx rfl (hb hby at_180) rfl ?_
      show Steps p.tables e below (T11.setTop (mkF m 182 #[.val (.int p0), .val (.int p1), .val (.int p2), .val (.int p3), .val (.int (0 : Int32)), .val (.int z6), .val (.int z13), .val (.int z17), .val (.int z24), .val (.int z28), .val (.int z35), .val (.int z42), .val (.ref b3), .val (.ref b5), .val (.long (0 : Int64)), .second, .val (.double FP.dconst0), .second] [(.double FP.dconst0)])) _
      refine XS.lload X11.here hx rfl (hb hby at_182) rfl ?_
      show Steps p.tables e below (T11.setTop (mkF m 184 #[.val (.int p0), .val (.int p1), .val (.int p2), .val (.int p3), .val (.int (0 : Int32)), .val (.int z6), .val (.int z13), .val (.int z17), .val (.int z24), .val (.int z28), .val (.int z35), .val (.int z42), .val (.ref b3), .val (.ref b5), .val (.long (0 : Int64)), .second, .val (.double FP.dconst0), .second] [(.long (0 : Int64)), (.double FP.dconst0)])) _
      refine XS.l2dS X11.here hx rfl (hb hby at_184) rfl hz184 ?_
      show Steps p.tables e below (T11.setTop (mkF m 185 #[.val (.int p0), .val (.int p1), .val (.int p2), .val (.int p3), .val (.int (0 : Int32)), .val (.int z6), .val (.int z13), .val (.int z17), .val (.int z24), .val (.int z28), .val (.int z35), .val (.int z42), .val (.ref b3), .val (.ref b5), .val (.long (0 : Int64)), .second, .val (.double FP.dconst0), .second] [(.double z184), (.double FP.dconst0)])) _
      refine XS.dcmpS X11.here hx rfl (hb hby at_185) rfl hz185 ?_
      show Steps p.tables e below (T11.setTop (mkF m 186 #[.val (.int p0), .val (.int p1), .val (.int p2), .val (.int p3), .val (.int (0 : Int32)), .val (.int z6), .val (.int z13), .val (.int z17), .val (.int z24), .val (.int z28), .val (.int z35), .val (.int z42), .val (.ref b3), .val (.ref b5), .val (.long (0 : Int64)), .second, .val (.double FP.dconst0), .second] [(.int z185)])) _
      refine XS.ifNo X11.here hx rfl (hb hby at_186) rfl (Jvm.Free.XT.i0_ne_f br186) ?_
      show Steps p.tables e below (T11.setTop (mkF m 189 #[.val (.int p0), .val (.int p1), .val (.int p2), .val (.int p3), .val (.int (0 : Int32)), .val (.int z6), .val (.int z13), .val (.int z17), .val (.int z24), .val (.int z28), .val (.int z35), .val (.int z42), .val (.ref b3), .val (.ref b5), .val (.long (0 : Int64)), .second, .val (.double FP.dconst0), .second] [])) _
      refine XS.iconst X11.here hx rfl (hb hby at_189) ?_
      show Steps p.tables e below (T11.setTop (mkF m 190 #[.val (.int p0), .val (.int p1), .val (.int p2), .val (.int p3), .val (.int (0 : Int32)), .val (.int z6), .val (.int z13), .val (.int z17), .val (.int z24), .val (.int z28), .val (.int z35), .val (.int z42), .val (.ref b3), .val (.ref b5), .val (.long (0 : Int64)), .second, .val (.double FP.dconst0), .second] [(.int (1 : Int32))])) _
      refine XS.goto X11.here hx rfl (pc0 := 190) (pc' := 194) rfl (hb hby at_190) (by decide) (by decide) ?_
      exact k
    obtain ⟨fs, hr, hrun, hended, hW, hsame⟩ := X11.leave (v := some (.int (1 : Int32))) (fun h => by rw [Bd.returns] at h; cases h)
    refine ⟨_, _, c12 _ ?_, hrun, hended, _, _, rfl, ?_, ⟨_, rfl⟩, hW, hsame.mono (by decide) (by decide)⟩
    · show Steps p.tables e below (T11.setTop (mkF m 194 #[.val (.int p0), .val (.int p1), .val (.int p2), .val (.int p3), .val (.int (0 : Int32)), .val (.int z6), .val (.int z13), .val (.int z17), .val (.int z24), .val (.int z28), .val (.int z35), .val (.int z42), .val (.ref b3), .val (.ref b5), .val (.long (0 : Int64)), .second, .val (.double FP.dconst0), .second] [(.int (1 : Int32))])) _
      exact retOut X11 hx Bd.returns rfl (Or.inl ⟨rfl, by simp, _, rfl⟩) (hb hby at_194) hr
    · show Q0 n0 _ T11.heap _
      rw [e11]
      exact ⟨rfl, by first | assumption | exact N0⟩
  · obtain rfl := q2
    obtain ⟨z6, hz6⟩ : ∃ z : Int32, p0.toInt16.toInt32 = z := ⟨_, rfl⟩
    obtain ⟨z12, hz12⟩ : ∃ z : Int32, p0 >>> ((16 : Int32) &&& 31) = z := ⟨_, rfl⟩
    obtain ⟨z13, hz13⟩ : ∃ z : Int32, z12.toInt16.toInt32 = z := ⟨_, rfl⟩
    obtain ⟨z17, hz17⟩ : ∃ z : Int32, p1.toInt16.toInt32 = z := ⟨_, rfl⟩
    obtain ⟨z23, hz23⟩ : ∃ z : Int32, p1 >>> ((16 : Int32) &&& 31) = z := ⟨_, rfl⟩
    obtain ⟨z24, hz24⟩ : ∃ z : Int32, z23.toInt16.toInt32 = z := ⟨_, rfl⟩
    obtain ⟨z28, hz28⟩ : ∃ z : Int32, p2.toInt16.toInt32 = z := ⟨_, rfl⟩
    obtain ⟨z34, hz34⟩ : ∃ z : Int32, p2 >>> ((16 : Int32) &&& 31) = z := ⟨_, rfl⟩
    obtain ⟨z35, hz35⟩ : ∃ z : Int32, z34.toInt16.toInt32 = z := ⟨_, rfl⟩
    obtain ⟨z41, hz41⟩ : ∃ z : Int32, p3 >>> ((16 : Int32) &&& 31) = z := ⟨_, rfl⟩
    obtain ⟨z42, hz42⟩ : ∃ z : Int32, z41.toInt16.toInt32 = z := ⟨_, rfl⟩
    obtain ⟨z78, hz78⟩ : ∃ z : UInt64, FP.i2d z6 = z := ⟨_, rfl⟩
    obtain ⟨z85, hz85⟩ : ∃ z : UInt64, FP.i2d z13 = z := ⟨_, rfl⟩
    obtain ⟨z91, hz91⟩ : ∃ z : Int64, z6.toInt64 = z := ⟨_, rfl⟩
    obtain ⟨z94, hz94⟩ : ∃ z : Int64, z13.toInt64 = z := ⟨_, rfl⟩
    obtain ⟨z95, hz95⟩ : ∃ z : Int64, z91 * z94 = z := ⟨_, rfl⟩
    obtain ⟨z96, hz96⟩ : ∃ z : Int64, (0 : Int64) + z95 = z := ⟨_, rfl⟩
    obtain ⟨z169, hz169⟩ : ∃ z : UInt64, FP.i2d z42 = z := ⟨_, rfl⟩
    obtain ⟨c175_z21, hc175_z21⟩ : ∃ z : UInt64, FP.dmul z78 z85 = z := ⟨_, rfl⟩
    obtain ⟨c175_z22, hc175_z22⟩ : ∃ z : UInt64, FP.dadd FP.dconst0 c175_z21 = z := ⟨_, rfl⟩
    obtain ⟨z184, hz184⟩ : ∃ z : UInt64, FP.l2d z96 = z := ⟨_, rfl⟩
    obtain ⟨z185, hz185⟩ : ∃ z : Int32, cmpValue (FP.dcmp c175_z22 z184) .l = z := ⟨_, rfl⟩
    obtain ⟨T13, h13, k13, X13, e13, E13, A13, st13⟩ := newP X0 hx hZ (hw _ (List.mem_of_getElem? (i := 0) rfl)) e0 (g := (mkF m 53 #[.val (.int p0), .val (.int p1), .val (.int p2), .val (.int p3), .val (.int (1 : Int32)), .val (.int z6), .val (.int z13), .val (.int z17), .val (.int z24), .val (.int z28), .val (.int z35), .val (.int z42), .unset, .unset, .unset, .unset, .unset, .unset] [(.int (1 : Int32))])) rfl (hb hby at_53) rfl (by decide) (cap := 1) (by decide) (by decide) (by decide) (by decide)
    obtain ⟨b13, g13⟩ : ∃ z, z = h0.size := ⟨_, rfl⟩
    rw [← g13] at A13 st13
    have gn13 : n0 ≤ b13 := Nat.le_trans Z0 (Nat.le_of_eq g13.symm)
    have gz13 : h0.size ≤ b13 := Nat.le_trans ((Keep.refl h0 [])).1 (Nat.le_of_eq g13.symm)
    have K14 : Keep h0 h13 [] := (Keep.refl h0 []).ext E13
    have V13 : Arv Z h13 b13 k13 .double (1 : Int32) [(.double (0 : UInt64))] (.double (0 : UInt64)) := (Arv.new A13 (by decide)).pad (pad_rep [] (.double (0 : UInt64)) 1)
    obtain ⟨T15, h15, k15, X15, e15, E15, A15, st15⟩ := newP X13 hx hZ (hw _ (List.mem_of_getElem? (i := 0) rfl)) e13 (g := (mkF m 61 #[.val (.int p0), .val (.int p1), .val (.int p2), .val (.int p3), .val (.int (1 : Int32)), .val (.int z6), .val (.int z13), .val (.int z17), .val (.int z24), .val (.int z28), .val (.int z35), .val (.int z42), .val (.ref b13), .unset, .unset, .unset, .unset, .unset] [(.int (2 : Int32))])) rfl (hb hby at_61) rfl (by decide) (cap := 2) (by decide) (by decide) (by decide) (by decide)
    obtain ⟨b15, g15⟩ : ∃ z, z = h13.size := ⟨_, rfl⟩
    rw [← g15] at A15 st15
    have gn15 : n0 ≤ b15 := Nat.le_trans (Nat.le_trans Z0 E13.1) (Nat.le_of_eq g15.symm)
    have gz15 : h0.size ≤ b15 := Nat.le_trans (K14).1 (Nat.le_of_eq g15.symm)
    have K16 : Keep h0 h15 [] := K14.ext E15
    have V15 : Arv Z h15 b15 k15 .double (2 : Int32) [(.double (0 : UInt64)), (.double (0 : UInt64))] (.double (0 : UInt64)) := (Arv.new A15 (by decide)).pad (pad_rep [] (.double (0 : UInt64)) 2)
    obtain ⟨cl17, Ar17, q17, S17, Nn17, Ha17, G17⟩ := id V15
    have in17 : ¬ ((0 : Int32) < 0 ∨ cl17.slots.size ≤ ((0 : Int32)).toNatClampNeg) := inb_of S17 ⟨by decide, by decide⟩
    obtain ⟨T18, h18, X18, e18, W18, st18⟩ := stD X15 hx hZ e15 Ar17 (j := (0 : Int32)) in17 (g := (mkF m 79 #[.val (.int p0), .val (.int p1), .val (.int p2), .val (.int p3), .val (.int (1 : Int32)), .val (.int z6), .val (.int z13), .val (.int z17), .val (.int z24), .val (.int z28), .val (.int z35), .val (.int z42), .val (.ref b13), .val (.ref b15), .val (.long (0 : Int64)), .second, .unset, .unset] [(.double z78), (.int (0 : Int32)), (.ref b15)])) rfl rfl (hb hby at_79)
    have N18 := Fr.snoc X18 N0 gn15
    have K19 : Keep h0 h18 [] := K16.wr W18 (Or.inr gz15)
    have V18 : Arv Z h18 b15 k15 .double (2 : Int32) [(.double z78), (.double (0 : UInt64))] (.double (0 : UInt64)) := Arv.set Ar17 q17 S17 Nn17 Ha17 G17 rfl W18 0 rfl (show (0 : Nat) < 2 by decide)
    have f20 := ((V13.ext E15).other W18 (Nat.ne_of_lt (Nat.lt_of_lt_of_le (V13).lt (Nat.le_of_eq g15.symm))))
    obtain ⟨cl21, Ar21, q21, S21, Nn21, Ha21, G21⟩ := id f20
    have in21 : ¬ ((0 : Int32) < 0 ∨ cl21.slots.size ≤ ((0 : Int32)).toNatClampNeg) := inb_of S21 ⟨by decide, by decide⟩
    obtain ⟨T22, h22, X22, e22, W22, st22⟩ := stD X18 hx hZ e18 Ar21 (j := (0 : Int32)) in21 (g := (mkF m 86 #[.val (.int p0), .val (.int p1), .val (.int p2), .val (.int p3), .val (.int (1 : Int32)), .val (.int z6), .val (.int z13), .val (.int z17), .val (.int z24), .val (.int z28), .val (.int z35), .val (.int z42), .val (.ref b13), .val (.ref b15), .val (.long (0 : Int64)), .second, .unset, .unset] [(.double z85), (.int (0 : Int32)), (.ref b13)])) rfl rfl (hb hby at_86)
    have N22 := Fr.snoc X22 N18 gn13
    have K23 : Keep h0 h22 [] := K19.wr W22 (Or.inr gz13)
    have V22 : Arv Z h22 b13 k13 .double (1 : Int32) [(.double z85)] (.double (0 : UInt64)) := Arv.set Ar21 q21 S21 Nn21 Ha21 G21 rfl W22 0 rfl (show (0 : Nat) < 1 by decide)
    have f24 := (V18.other W22 (Ne.symm (Nat.ne_of_lt (Nat.lt_of_lt_of_le (V13).lt (Nat.le_of_eq g15.symm)))))
    obtain ⟨cl25, Ar25, q25, S25, Nn25, Ha25, G25⟩ := id f24
    have in25 : ¬ ((1 : Int32) < 0 ∨ cl25.slots.size ≤ ((1 : Int32)).toNatClampNeg) := inb_of S25 ⟨by decide, by decide⟩
    obtain ⟨T26, h26, X26, e26, W26, st26⟩ := stD X22 hx hZ e22 Ar25 (j := (1 : Int32)) in25 (g := (mkF m 170 #[.val (.int p0), .val (.int p1), .val (.int p2), .val (.int p3), .val (.int (1 : Int32)), .val (.int z6), .val (.int z13), .val (.int z17), .val (.int z24), .val (.int z28), .val (.int z35), .val (.int z42), .val (.ref b13), .val (.ref b15), .val (.long z96), .second, .unset, .unset] [(.double z169), (.int (1 : Int32)), (.ref b15)])) rfl rfl (hb hby at_170)
    have N26 := Fr.snoc X26 N22 gn15
    have K27 : Keep h0 h26 [] := K23.wr W26 (Or.inr gz15)
    have V26 : Arv Z h26 b15 k15 .double (2 : Int32) [(.double z78), (.double z169)] (.double (0 : UInt64)) := Arv.set Ar25 q25 S25 Nn25 Ha25 G25 rfl W26 1 rfl (show (1 : Nat) < 2 by decide)
    obtain ⟨c175_nn21, c175_nn22, D0, R0, B0⟩ := turn Jvm.OwnF.DV_0 (by decide : (0 : Int64).toInt = 0) (by decide : (0 : Int).natAbs ≤ 0) (by decide) hz6 hz13 hz78 hz85 hc175_z21 hc175_z22 hz91 hz94 hz95 hz96
    have br186 : z185 = 0 := by
      have dl := Jvm.OwnF.DV_l2d (n := z96) (Jvm.OwnF.r53 (by rw [R0]; omega))
      rw [R0, hz184] at dl
      rw [← hz185]
      exact Jvm.OwnF.DV_eq0 D0 dl _
    have f28 := (V22.other W26 (Nat.ne_of_lt (Nat.lt_of_lt_of_le (V13).lt (Nat.le_of_eq g15.symm))))
    obtain ⟨_, _, ⟨T29, L29, k29, n29⟩, -, X29, ⟨Lc29, hQ29, ql29, qy29, qz29⟩, st29⟩ := Jvm.LawKit.callS X26 hx (y := (⟨"com/example/credal_choice/credalchoice/model/Gambles", "expectation", "([D[D)D"⟩ : MethodName)) hown (mvT hZ (hw _ (List.mem_of_getElem? (i := 1) rfl))) (mvT hZ (hw _ (List.mem_of_getElem? (i := 2) rfl))) (mvT hZ (hw _ (List.mem_of_getElem? (i := 3) rfl))) (mvT hZ (hw _ (List.mem_of_getElem? (i := 4) rfl))) (by decide) (backOf (W := 0) (rm1_1 l Z a0 hw [] b15 b13 k15 z78 z169 k13 z85 c175_z21 c175_z22 h26 n0 (Nat.le_trans (Nat.le_trans (Nat.le_trans (Nat.le_trans (Nat.le_trans Z0 E13.1) E15.1) (Keep.of_wr W18).1) (Keep.of_wr W22).1) (Keep.of_wr W26).1) V26 f28 hc175_z21 hc175_z22 c175_nn21 c175_nn22) hZ (hw _ (List.mem_of_getElem? (i := 4) rfl)) (hw _ (List.mem_of_getElem? (i := 3) rfl)) (by decide) (by decide)) (g := (mkF m 175 #[.val (.int p0), .val (.int p1), .val (.int p2), .val (.int p3), .val (.int (1 : Int32)), .val (.int z6), .val (.int z13), .val (.int z17), .val (.int z24), .val (.int z28), .val (.int z35), .val (.int z42), .val (.ref b13), .val (.ref b15), .val (.long z96), .second, .unset, .unset] [(.ref b13), (.ref b15)])) rfl (by rw [hml]; rfl) (argsL := [(.ref b15), (.ref b13)]) (rest := []) (lenOf pd_0 rfl) rfl (by show 2 * 0 + _ ≤ _; exact Nat.le_of_eq rfl) (hb hby at_175) (fun _ _ => ⟨rfl, e26, (by decide : 2 + 0 ≤ _), (by decide : 3 + 0 ≤ _)⟩)
    dsimp only [Pt.U, Pt.locs, Pt.cells, Pt.slots] at X29 ql29 qy29 qz29 st29 hQ29
    subst ql29 qy29 qz29
    obtain ⟨rfl, N29q, e29⟩ := hQ29
    have N29 := Fr.app N26 N29q
    have c30 : ∀ t, Steps p.tables e below (T29.setTop (mkF m 194 #[.val (.int p0), .val (.int p1), .val (.int p2), .val (.int p3), .val (.int (1 : Int32)), .val (.int z6), .val (.int z13), .val (.int z17), .val (.int z24), .val (.int z28), .val (.int z35), .val (.int z42), .val (.ref b13), .val (.ref b15), .val (.long z96), .second, .val (.double c175_z22), .second] [(.int (1 : Int32))])) t → Steps p.tables e below (s₁.setTop (entryFrame m #[(.int p0), (.int p1), (.int p2), (.int p3)] maxLocals)) t := by
      intro t k
      refine c1 t ?_
      show Steps p.tables e below (s₁.setTop (mkF m 3 #[.val (.int p0), .val (.int p1), .val (.int p2), .val (.int p3), .unset, .unset, .unset, .unset, .unset, .unset, .unset, .unset, .unset, .unset, .unset, .unset, .unset, .unset] [(.int (1 : Int32))])) _
      refine XS.istore X0.here hx rfl (hb hby at_3) rfl (l' := #[.val (.int p0), .val (.int p1), .val (.int p2), .val (.int p3), .val (.int (1 : Int32)), .unset, .unset, .unset, .unset, .unset, .unset, .unset, .unset, .unset, .unset, .unset, .unset, .unset]) rfl ?_
      show Steps p.tables e below (s₁.setTop (mkF m 5 #[.val (.int p0), .val (.int p1), .val (.int p2), .val (.int p3), .val (.int (1 : Int32)), .unset, .unset, .unset, .unset, .unset, .unset, .unset, .unset, .unset, .unset, .unset, .unset, .unset] [])) _
      refine XS.iloadN X0.here hx rfl (hb hby at_5) rfl ?_
      show Steps p.tables e below (s₁.setTop (mkF m 6 #[.val (.int p0), .val (.int p1), .val (.int p2), .val (.int p3), .val (.int (1 : Int32)), .unset, .unset, .unset, .unset, .unset, .unset, .unset, .unset, .unset, .unset, .unset, .unset, .unset] [(.int p0)])) _
      refine Jvm.OwnK.i2s X0.here hx rfl (hb hby at_6) rfl hz6 ?_
      show Steps p.tables e below (s₁.setTop (mkF m 7 #[.val (.int p0), .val (.int p1), .val (.int p2), .val (.int p3), .val (.int (1 : Int32)), .unset, .unset, .unset, .unset, .unset, .unset, .unset, .unset, .unset, .unset, .unset, .unset, .unset] [(.int z6)])) _
      refine XS.istore X0.here hx rfl (hb hby at_7) rfl (l' := #[.val (.int p0), .val (.int p1), .val (.int p2), .val (.int p3), .val (.int (1 : Int32)), .val (.int z6), .unset, .unset, .unset, .unset, .unset, .unset, .unset, .unset, .unset, .unset, .unset, .unset]) rfl ?_
      show Steps p.tables e below (s₁.setTop (mkF m 9 #[.val (.int p0), .val (.int p1), .val (.int p2), .val (.int p3), .val (.int (1 : Int32)), .val (.int z6), .unset, .unset, .unset, .unset, .unset, .unset, .unset, .unset, .unset, .unset, .unset, .unset] [])) _
      refine XS.iloadN X0.here hx rfl (hb hby at_9) rfl ?_
      show Steps p.tables e below (s₁.setTop (mkF m 10 #[.val (.int p0), .val (.int p1), .val (.int p2), .val (.int p3), .val (.int (1 : Int32)), .val (.int z6), .unset, .unset, .unset, .unset, .unset, .unset, .unset, .unset, .unset, .unset, .unset, .unset] [(.int p0)])) _
      refine XS.bipush X0.here hx rfl (hb hby at_10) ?_
      show Steps p.tables e below (s₁.setTop (mkF m 12 #[.val (.int p0), .val (.int p1), .val (.int p2), .val (.int p3), .val (.int (1 : Int32)), .val (.int z6), .unset, .unset, .unset, .unset, .unset, .unset, .unset, .unset, .unset, .unset, .unset, .unset] [(.int (16 : Int32)), (.int p0)])) _
      refine Jvm.OwnK.ishr X0.here hx rfl (hb hby at_12) rfl hz12 ?_
      show Steps p.tables e below (s₁.setTop (mkF m 13 #[.val (.int p0), .val (.int p1), .val (.int p2), .val (.int p3), .val (.int (1 : Int32)), .val (.int z6), .unset, .unset, .unset, .unset, .unset, .unset, .unset, .unset, .unset, .unset, .unset, .unset] [(.int z12)])) _
      refine Jvm.OwnK.i2s X0.here hx rfl (hb hby at_13) rfl hz13 ?_
      show Steps p.tables e below (s₁.setTop (mkF m 14 #[.val (.int p0), .val (.int p1), .val (.int p2), .val (.int p3), .val (.int (1 : Int32)), .val (.int z6), .unset, .unset, .unset, .unset, .unset, .unset, .unset, .unset, .unset, .unset, .unset, .unset] [(.int z13)])) _
      refine XS.istore X0.here hx rfl (hb hby at_14) rfl (l' := #[.val (.int p0), .val (.int p1), .val (.int p2), .val (.int p3), .val (.int (1 : Int32)), .val (.int z6), .val (.int z13), .unset, .unset, .unset, .unset, .unset, .unset, .unset, .unset, .unset, .unset, .unset]) rfl ?_
      show Steps p.tables e below (s₁.setTop (mkF m 16 #[.val (.int p0), .val (.int p1), .val (.int p2), .val (.int p3), .val (.int (1 : Int32)), .val (.int z6), .val (.int z13), .unset, .unset, .unset, .unset, .unset, .unset, .unset, .unset, .unset, .unset, .unset] [])) _
      refine XS.iloadN X0.here hx rfl (hb hby at_16) rfl ?_
      show Steps p.tables e below (s₁.setTop (mkF m 17 #[.val (.int p0), .val (.int p1), .val (.int p2), .val (.int p3), .val (.int (1 : Int32)), .val (.int z6), .val (.int z13), .unset, .unset, .unset, .unset, .unset, .unset, .unset, .unset, .unset, .unset, .unset] [(.int p1)])) _
      refine Jvm.OwnK.i2s X0.here hx rfl (hb hby at_17) rfl hz17 ?_
      show Steps p.tables e below (s₁.setTop (mkF m 18 #[.val (.int p0), .val (.int p1), .val (.int p2), .val (.int p3), .val (.int (1 : Int32)), .val (.int z6), .val (.int z13), .unset, .unset, .unset, .unset, .unset, .unset, .unset, .unset, .unset, .unset, .unset] [(.int z17)])) _
      refine XS.istore X0.here hx rfl (hb hby at_18) rfl (l' := #[.val (.int p0), .val (.int p1), .val (.int p2), .val (.int p3), .val (.int (1 : Int32)), .val (.int z6), .val (.int z13), .val (.int z17), .unset, .unset, .unset, .unset, .unset, .unset, .unset, .unset, .unset, .unset]) rfl ?_
      show Steps p.tables e below (s₁.setTop (mkF m 20 #[.val (.int p0), .val (.int p1), .val (.int p2), .val (.int p3), .val (.int (1 : Int32)), .val (.int z6), .val (.int z13), .val (.int z17), .unset, .unset, .unset, .unset, .unset, .unset, .unset, .unset, .unset, .unset] [])) _
      refine XS.iloadN X0.here hx rfl (hb hby at_20) rfl ?_
      show Steps p.tables e below (s₁.setTop (mkF m 21 #[.val (.int p0), .val (.int p1), .val (.int p2), .val (.int p3), .val (.int (1 : Int32)), .val (.int z6), .val (.int z13), .val (.int z17), .unset, .unset, .unset, .unset, .unset, .unset, .unset, .unset, .unset, .unset] [(.int p1)])) _
      refine XS.bipush X0.here hx rfl (hb hby at_21) ?_
      show Steps p.tables e below (s₁.setTop (mkF m 23 #[.val (.int p0), .val (.int p1), .val (.int p2), .val (.int p3), .val (.int (1 : Int32)), .val (.int z6), .val (.int z13), .val (.int z17), .unset, .unset, .unset, .unset, .unset, .unset, .unset, .unset, .unset, .unset] [(.int (16 : Int32)), (.int p1)])) _
      refine Jvm.OwnK.ishr X0.here hx rfl (hb hby at_23) rfl hz23 ?_
      show Steps p.tables e below (s₁.setTop (mkF m 24 #[.val (.int p0), .val (.int p1), .val (.int p2), .val (.int p3), .val (.int (1 : Int32)), .val (.int z6), .val (.int z13), .val (.int z17), .unset, .unset, .unset, .unset, .unset, .unset, .unset, .unset, .unset, .unset] [(.int z23)])) _
      refine Jvm.OwnK.i2s X0.here hx rfl (hb hby at_24) rfl hz24 ?_
      show Steps p.tables e below (s₁.setTop (mkF m 25 #[.val (.int p0), .val (.int p1), .val (.int p2), .val (.int p3), .val (.int (1 : Int32)), .val (.int z6), .val (.int z13), .val (.int z17), .unset, .unset, .unset, .unset, .unset, .unset, .unset, .unset, .unset, .unset] [(.int z24)])) _
      refine XS.istore X0.here hx rfl (hb hby at_25) rfl (l' := #[.val (.int p0), .val (.int p1), .val (.int p2), .val (.int p3), .val (.int (1 : Int32)), .val (.int z6), .val (.int z13), .val (.int z17), .val (.int z24), .unset, .unset, .unset, .unset, .unset, .unset, .unset, .unset, .unset]) rfl ?_
      show Steps p.tables e below (s₁.setTop (mkF m 27 #[.val (.int p0), .val (.int p1), .val (.int p2), .val (.int p3), .val (.int (1 : Int32)), .val (.int z6), .val (.int z13), .val (.int z17), .val (.int z24), .unset, .unset, .unset, .unset, .unset, .unset, .unset, .unset, .unset] [])) _
      refine XS.iloadN X0.here hx rfl (hb hby at_27) rfl ?_
      show Steps p.tables e below (s₁.setTop (mkF m 28 #[.val (.int p0), .val (.int p1), .val (.int p2), .val (.int p3), .val (.int (1 : Int32)), .val (.int z6), .val (.int z13), .val (.int z17), .val (.int z24), .unset, .unset, .unset, .unset, .unset, .unset, .unset, .unset, .unset] [(.int p2)])) _
      refine Jvm.OwnK.i2s X0.here hx rfl (hb hby at_28) rfl hz28 ?_
      show Steps p.tables e below (s₁.setTop (mkF m 29 #[.val (.int p0), .val (.int p1), .val (.int p2), .val (.int p3), .val (.int (1 : Int32)), .val (.int z6), .val (.int z13), .val (.int z17), .val (.int z24), .unset, .unset, .unset, .unset, .unset, .unset, .unset, .unset, .unset] [(.int z28)])) _
      refine XS.istore X0.here hx rfl (hb hby at_29) rfl (l' := #[.val (.int p0), .val (.int p1), .val (.int p2), .val (.int p3), .val (.int (1 : Int32)), .val (.int z6), .val (.int z13), .val (.int z17), .val (.int z24), .val (.int z28), .unset, .unset, .unset, .unset, .unset, .unset, .unset, .unset]) rfl ?_
      show Steps p.tables e below (s₁.setTop (mkF m 31 #[.val (.int p0), .val (.int p1), .val (.int p2), .val (.int p3), .val (.int (1 : Int32)), .val (.int z6), .val (.int z13), .val (.int z17), .val (.int z24), .val (.int z28), .unset, .unset, .unset, .unset, .unset, .unset, .unset, .unset] [])) _
      refine XS.iloadN X0.here hx rfl (hb hby at_31) rfl ?_
      show Steps p.tables e below (s₁.setTop (mkF m 32 #[.val (.int p0), .val (.int p1), .val (.int p2), .val (.int p3), .val (.int (1 : Int32)), .val (.int z6), .val (.int z13), .val (.int z17), .val (.int z24), .val (.int z28), .unset, .unset, .unset, .unset, .unset, .unset, .unset, .unset] [(.int p2)])) _
      refine XS.bipush X0.here hx rfl (hb hby at_32) ?_
      show Steps p.tables e below (s₁.setTop (mkF m 34 #[.val (.int p0), .val (.int p1), .val (.int p2), .val (.int p3), .val (.int (1 : Int32)), .val (.int z6), .val (.int z13), .val (.int z17), .val (.int z24), .val (.int z28), .unset, .unset, .unset, .unset, .unset, .unset, .unset, .unset] [(.int (16 : Int32)), (.int p2)])) _
      refine Jvm.OwnK.ishr X0.here hx rfl (hb hby at_34) rfl hz34 ?_
      show Steps p.tables e below (s₁.setTop (mkF m 35 #[.val (.int p0), .val (.int p1), .val (.int p2), .val (.int p3), .val (.int (1 : Int32)), .val (.int z6), .val (.int z13), .val (.int z17), .val (.int z24), .val (.int z28), .unset, .unset, .unset, .unset, .unset, .unset, .unset, .unset] [(.int z34)])) _
      refine Jvm.OwnK.i2s X0.here hx rfl (hb hby at_35) rfl hz35 ?_
      show Steps p.tables e below (s₁.setTop (mkF m 36 #[.val (.int p0), .val (.int p1), .val (.int p2), .val (.int p3), .val (.int (1 : Int32)), .val (.int z6), .val (.int z13), .val (.int z17), .val (.int z24), .val (.int z28), .unset, .unset, .unset, .unset, .unset, .unset, .unset, .unset] [(.int z35)])) _
      refine XS.istore X0.here hx rfl (hb hby at_36) rfl (l' := #[.val (.int p0), .val (.int p1), .val (.int p2), .val (.int p3), .val (.int (1 : Int32)), .val (.int z6), .val (.int z13), .val (.int z17), .val (.int z24), .val (.int z28), .val (.int z35), .unset, .unset, .unset, .unset, .unset, .unset, .unset]) rfl ?_
      show Steps p.tables e below (s₁.setTop (mkF m 38 #[.val (.int p0), .val (.int p1), .val (.int p2), .val (.int p3), .val (.int (1 : Int32)), .val (.int z6), .val (.int z13), .val (.int z17), .val (.int z24), .val (.int z28), .val (.int z35), .unset, .unset, .unset, .unset, .unset, .unset, .unset] [])) _
      refine XS.iloadN X0.here hx rfl (hb hby at_38) rfl ?_
      show Steps p.tables e below (s₁.setTop (mkF m 39 #[.val (.int p0), .val (.int p1), .val (.int p2), .val (.int p3), .val (.int (1 : Int32)), .val (.int z6), .val (.int z13), .val (.int z17), .val (.int z24), .val (.int z28), .val (.int z35), .unset, .unset, .unset, .unset, .unset, .unset, .unset] [(.int p3)])) _
      refine XS.bipush X0.here hx rfl (hb hby at_39) ?_
      show Steps p.tables e below (s₁.setTop (mkF m 41 #[.val (.int p0), .val (.int p1), .val (.int p2), .val (.int p3), .val (.int (1 : Int32)), .val (.int z6), .val (.int z13), .val (.int z17), .val (.int z24), .val (.int z28), .val (.int z35), .unset, .unset, .unset, .unset, .unset, .unset, .unset] [(.int (16 : Int32)), (.int p3)])) _
      refine Jvm.OwnK.ishr X0.here hx rfl (hb hby at_41) rfl hz41 ?_
      show Steps p.tables e below (s₁.setTop (mkF m 42 #[.val (.int p0), .val (.int p1), .val (.int p2), .val (.int p3), .val (.int (1 : Int32)), .val (.int z6), .val (.int z13), .val (.int z17), .val (.int z24), .val (.int z28), .val (.int z35), .unset, .unset, .unset, .unset, .unset, .unset, .unset] [(.int z41)])) _
      refine Jvm.OwnK.i2s X0.here hx rfl (hb hby at_42) rfl hz42 ?_
      show Steps p.tables e below (s₁.setTop (mkF m 43 #[.val (.int p0), .val (.int p1), .val (.int p2), .val (.int p3), .val (.int (1 : Int32)), .val (.int z6), .val (.int z13), .val (.int z17), .val (.int z24), .val (.int z28), .val (.int z35), .unset, .unset, .unset, .unset, .unset, .unset, .unset] [(.int z42)])) _
      refine XS.istore X0.here hx rfl (hb hby at_43) rfl (l' := #[.val (.int p0), .val (.int p1), .val (.int p2), .val (.int p3), .val (.int (1 : Int32)), .val (.int z6), .val (.int z13), .val (.int z17), .val (.int z24), .val (.int z28), .val (.int z35), .val (.int z42), .unset, .unset, .unset, .unset, .unset, .unset]) rfl ?_
      show Steps p.tables e below (s₁.setTop (mkF m 45 #[.val (.int p0), .val (.int p1), .val (.int p2), .val (.int p3), .val (.int (1 : Int32)), .val (.int z6), .val (.int z13), .val (.int z17), .val (.int z24), .val (.int z28), .val (.int z35), .val (.int z42), .unset, .unset, .unset, .unset, .unset, .unset] [])) _
      refine XS.iload X0.here hx rfl (hb hby at_45) rfl ?_
      show Steps p.tables e below (s₁.setTop (mkF m 47 #[.val (.int p0), .val (.int p1), .val (.int p2), .val (.int p3), .val (.int (1 : Int32)), .val (.int z6), .val (.int z13), .val (.int z17), .val (.int z24), .val (.int z28), .val (.int z35), .val (.int z42), .unset, .unset, .unset, .unset, .unset, .unset] [(.int (1 : Int32))])) _
      refine XS.iconst X0.here hx rfl (hb hby at_47) ?_
      show Steps p.tables e below (s₁.setTop (mkF m 48 #[.val (.int p0), .val (.int p1), .val (.int p2), .val (.int p3), .val (.int (1 : Int32)), .val (.int z6), .val (.int z13), .val (.int z17), .val (.int z24), .val (.int z28), .val (.int z35), .val (.int z42), .unset, .unset, .unset, .unset, .unset, .unset] [(.int (3 : Int32)), (.int (1 : Int32))])) _
      refine XS.icmpYes X0.here hx rfl (pc0 := 48) (pc' := 51) rfl (hb hby at_48) rfl (Jvm.Free.XT.ii_ne_t (by decide)) (by decide) (by decide) ?_
      show Steps p.tables e below (s₁.setTop (mkF m 51 #[.val (.int p0), .val (.int p1), .val (.int p2), .val (.int p3), .val (.int (1 : Int32)), .val (.int z6), .val (.int z13), .val (.int z17), .val (.int z24), .val (.int z28), .val (.int z35), .val (.int z42), .unset, .unset, .unset, .unset, .unset, .unset] [])) _
      refine XS.iload X0.here hx rfl (hb hby at_51) rfl ?_
      show Steps p.tables e below (s₁.setTop (mkF m 53 #[.val (.int p0), .val (.int p1), .val (.int p2), .val (.int p3), .val (.int (1 : Int32)), .val (.int z6), .val (.int z13), .val (.int z17), .val (.int z24), .val (.int z28), .val (.int z35), .val (.int z42), .unset, .unset, .unset, .unset, .unset, .unset] [(.int (1 : Int32))])) _
      refine st13 _ ?_
      show Steps p.tables e below (T13.setTop (mkF m 55 #[.val (.int p0), .val (.int p1), .val (.int p2), .val (.int p3), .val (.int (1 : Int32)), .val (.int z6), .val (.int z13), .val (.int z17), .val (.int z24), .val (.int z28), .val (.int z35), .val (.int z42), .unset, .unset, .unset, .unset, .unset, .unset] [(.ref b13)])) _
      refine XS.astore X13.here hx rfl (hb hby at_55) rfl rfl (l' := #[.val (.int p0), .val (.int p1), .val (.int p2), .val (.int p3), .val (.int (1 : Int32)), .val (.int z6), .val (.int z13), .val (.int z17), .val (.int z24), .val (.int z28), .val (.int z35), .val (.int z42), .val (.ref b13), .unset, .unset, .unset, .unset, .unset]) rfl ?_
      show Steps p.tables e below (T13.setTop (mkF m 57 #[.val (.int p0), .val (.int p1), .val (.int p2), .val (.int p3), .val (.int (1 : Int32)), .val (.int z6), .val (.int z13), .val (.int z17), .val (.int z24), .val (.int z28), .val (.int z35), .val (.int z42), .val (.ref b13), .unset, .unset, .unset, .unset, .unset] [])) _
      refine XS.iload X13.here hx rfl (hb hby at_57) rfl ?_
      show Steps p.tables e below (T13.setTop (mkF m 59 #[.val (.int p0), .val (.int p1), .val (.int p2), .val (.int p3), .val (.int (1 : Int32)), .val (.int z6), .val (.int z13), .val (.int z17), .val (.int z24), .val (.int z28), .val (.int z35), .val (.int z42), .val (.ref b13), .unset, .unset, .unset, .unset, .unset] [(.int (1 : Int32))])) _
      refine XS.iconst X13.here hx rfl (hb hby at_59) ?_
      show Steps p.tables e below (T13.setTop (mkF m 60 #[.val (.int p0), .val (.int p1), .val (.int p2), .val (.int p3), .val (.int (1 : Int32)), .val (.int z6), .val (.int z13), .val (.int z17), .val (.int z24), .val (.int z28), .val (.int z35), .val (.int z42), .val (.ref b13), .unset, .unset, .unset, .unset, .unset] [(.int (1 : Int32)), (.int (1 : Int32))])) _
      refine Jvm.OwnK.iadd X13.here hx rfl (hb hby at_60) rfl (v := (2 : Int32)) (by decide) ?_
      show Steps p.tables e below (T13.setTop (mkF m 61 #[.val (.int p0), .val (.int p1), .val (.int p2), .val (.int p3), .val (.int (1 : Int32)), .val (.int z6), .val (.int z13), .val (.int z17), .val (.int z24), .val (.int z28), .val (.int z35), .val (.int z42), .val (.ref b13), .unset, .unset, .unset, .unset, .unset] [(.int (2 : Int32))])) _
      refine st15 _ ?_
      show Steps p.tables e below (T15.setTop (mkF m 63 #[.val (.int p0), .val (.int p1), .val (.int p2), .val (.int p3), .val (.int (1 : Int32)), .val (.int z6), .val (.int z13), .val (.int z17), .val (.int z24), .val (.int z28), .val (.int z35), .val (.int z42), .val (.ref b13), .unset, .unset, .unset, .unset, .unset] [(.ref b15)])) _
      refine XS.astore X15.here hx rfl (hb hby at_63) rfl rfl (l' := #[.val (.int p0), .val (.int p1), .val (.int p2), .val (.int p3), .val (.int (1 : Int32)), .val (.int z6), .val (.int z13), .val (.int z17), .val (.int z24), .val (.int z28), .val (.int z35), .val (.int z42), .val (.ref b13), .val (.ref b15), .unset, .unset, .unset, .unset]) rfl ?_
      show Steps p.tables e below (T15.setTop (mkF m 65 #[.val (.int p0), .val (.int p1), .val (.int p2), .val (.int p3), .val (.int (1 : Int32)), .val (.int z6), .val (.int z13), .val (.int z17), .val (.int z24), .val (.int z28), .val (.int z35), .val (.int z42), .val (.ref b13), .val (.ref b15), .unset, .unset, .unset, .unset] [])) _
      refine XS.lconst X15.here hx rfl (hb hby at_65) ?_
      show Steps p.tables e below (T15.setTop (mkF m 66 #[.val (.int p0), .val (.int p1), .val (.int p2), .val (.int p3), .val (.int (1 : Int32)), .val (.int z6), .val (.int z13), .val (.int z17), .val (.int z24), .val (.int z28), .val (.int z35), .val (.int z42), .val (.ref b13), .val (.ref b15), .unset, .unset, .unset, .unset] [(.long (0 : Int64))])) _
      refine XS.lstore X15.here hx rfl (hb hby at_66) rfl (l' := #[.val (.int p0), .val (.int p1), .val (.int p2), .val (.int p3), .val (.int (1 : Int32)), .val (.int z6), .val (.int z13), .val (.int z17), .val (.int z24), .val (.int z28), .val (.int z35), .val (.int z42), .val (.ref b13), .val (.ref b15), .val (.long (0 : Int64)), .second, .unset, .unset]) rfl ?_
      show Steps p.tables e below (T15.setTop (mkF m 68 #[.val (.int p0), .val (.int p1), .val (.int p2), .val (.int p3), .val (.int (1 : Int32)), .val (.int z6), .val (.int z13), .val (.int z17), .val (.int z24), .val (.int z28), .val (.int z35), .val (.int z42), .val (.ref b13), .val (.ref b15), .val (.long (0 : Int64)), .second, .unset, .unset] [])) _
      refine XS.iload X15.here hx rfl (hb hby at_68) rfl ?_
      show Steps p.tables e below (T15.setTop (mkF m 70 #[.val (.int p0), .val (.int p1), .val (.int p2), .val (.int p3), .val (.int (1 : Int32)), .val (.int z6), .val (.int z13), .val (.int z17), .val (.int z24), .val (.int z28), .val (.int z35), .val (.int z42), .val (.ref b13), .val (.ref b15), .val (.long (0 : Int64)), .second, .unset, .unset] [(.int (1 : Int32))])) _
      refine XS.ifNo X15.here hx rfl (hb hby at_70) rfl (Jvm.Free.XT.i0_le_f (by decide)) ?_
      show Steps p.tables e below (T15.setTop (mkF m 73 #[.val (.int p0), .val (.int p1), .val (.int p2), .val (.int p3), .val (.int (1 : Int32)), .val (.int z6), .val (.int z13), .val (.int z17), .val (.int z24), .val (.int z28), .val (.int z35), .val (.int z42), .val (.ref b13), .val (.ref b15), .val (.long (0 : Int64)), .second, .unset, .unset] [])) _
      refine XS.aload X15.here hx rfl (hb hby at_73) rfl rfl ?_
      show Steps p.tables e below (T15.setTop (mkF m 75 #[.val (.int p0), .val (.int p1), .val (.int p2), .val (.int p3), .val (.int (1 : Int32)), .val (.int z6), .val (.int z13), .val (.int z17), .val (.int z24), .val (.int z28), .val (.int z35), .val (.int z42), .val (.ref b13), .val (.ref b15), .val (.long (0 : Int64)), .second, .unset, .unset] [(.ref b15)])) _
      refine XS.iconst X15.here hx rfl (hb hby at_75) ?_
      show Steps p.tables e below (T15.setTop (mkF m 76 #[.val (.int p0), .val (.int p1), .val (.int p2), .val (.int p3), .val (.int (1 : Int32)), .val (.int z6), .val (.int z13), .val (.int z17), .val (.int z24), .val (.int z28), .val (.int z35), .val (.int z42), .val (.ref b13), .val (.ref b15), .val (.long (0 : Int64)), .second, .unset, .unset] [(.int (0 : Int32)), (.ref b15)])) _
      refine XS.iload X15.here hx rfl (hb hby at_76) rfl ?_
      show Steps p.tables e below (T15.setTop (mkF m 78 #[.val (.int p0), .val (.int p1), .val (.int p2), .val (.int p3), .val (.int (1 : Int32)), .val (.int z6), .val (.int z13), .val (.int z17), .val (.int z24), .val (.int z28), .val (.int z35), .val (.int z42), .val (.ref b13), .val (.ref b15), .val (.long (0 : Int64)), .second, .unset, .unset] [(.int z6), (.int (0 : Int32)), (.ref b15)])) _
      refine XS.i2dS X15.here hx rfl (hb hby at_78) rfl hz78 ?_
      show Steps p.tables e below (T15.setTop (mkF m 79 #[.val (.int p0), .val (.int p1), .val (.int p2), .val (.int p3), .val (.int (1 : Int32)), .val (.int z6), .val (.int z13), .val (.int z17), .val (.int z24), .val (.int z28), .val (.int z35), .val (.int z42), .val (.ref b13), .val (.ref b15), .val (.long (0 : Int64)), .second, .unset, .unset] [(.double z78), (.int (0 : Int32)), (.ref b15)])) _
      refine st18 _ ?_
      show Steps p.tables e below (T18.setTop (mkF m 80 #[.val (.int p0), .val (.int p1), .val (.int p2), .val (.int p3), .val (.int (1 : Int32)), .val (.int z6), .val (.int z13), .val (.int z17), .val (.int z24), .val (.int z28), .val (.int z35), .val (.int z42), .val (.ref b13), .val (.ref b15), .val (.long (0 : Int64)), .second, .unset, .unset] [])) _
      refine XS.aload X18.here hx rfl (hb hby at_80) rfl rfl ?_
      show Steps p.tables e below (T18.setTop (mkF m 82 #[.val (.int p0), .val (.int p1), .val (.int p2), .val (.int p3), .val (.int (1 : Int32)), .val (.int z6), .val (.int z13), .val (.int z17), .val (.int z24), .val (.int z28), .val (.int z35), .val (.int z42), .val (.ref b13), .val (.ref b15), .val (.long (0 : Int64)), .second, .unset, .unset] [(.ref b13)])) _
      refine XS.iconst X18.here hx rfl (hb hby at_82) ?_
      show Steps p.tables e below (T18.setTop (mkF m 83 #[.val (.int p0), .val (.int p1), .val (.int p2), .val (.int p3), .val (.int (1 : Int32)), .val (.int z6), .val (.int z13), .val (.int z17), .val (.int z24), .val (.int z28), .val (.int z35), .val (.int z42), .val (.ref b13), .val (.ref b15), .val (.long (0 : Int64)), .second, .unset, .unset] [(.int (0 : Int32)), (.ref b13)])) _
      refine XS.iload X18.here hx rfl (hb hby at_83) rfl ?_
      show Steps p.tables e below (T18.setTop (mkF m 85 #[.val (.int p0), .val (.int p1), .val (.int p2), .val (.int p3), .val (.int (1 : Int32)), .val (.int z6), .val (.int z13), .val (.int z17), .val (.int z24), .val (.int z28), .val (.int z35), .val (.int z42), .val (.ref b13), .val (.ref b15), .val (.long (0 : Int64)), .second, .unset, .unset] [(.int z13), (.int (0 : Int32)), (.ref b13)])) _
      refine XS.i2dS X18.here hx rfl (hb hby at_85) rfl hz85 ?_
      show Steps p.tables e below (T18.setTop (mkF m 86 #[.val (.int p0), .val (.int p1), .val (.int p2), .val (.int p3), .val (.int (1 : Int32)), .val (.int z6), .val (.int z13), .val (.int z17), .val (.int z24), .val (.int z28), .val (.int z35), .val (.int z42), .val (.ref b13), .val (.ref b15), .val (.long (0 : Int64)), .second, .unset, .unset] [(.double z85), (.int (0 : Int32)), (.ref b13)])) _
      refine st22 _ ?_
      show Steps p.tables e below (T22.setTop (mkF m 87 #[.val (.int p0), .val (.int p1), .val (.int p2), .val (.int p3), .val (.int (1 : Int32)), .val (.int z6), .val (.int z13), .val (.int z17), .val (.int z24), .val (.int z28), .val (.int z35), .val (.int z42), .val (.ref b13), .val (.ref b15), .val (.long (0 : Int64)), .second, .unset, .unset] [])) _
      refine XS.lload X22.here hx rfl (hb hby at_87) rfl ?_
      show Steps p.tables e below (T22.setTop (mkF m 89 #[.val (.int p0), .val (.int p1), .val (.int p2), .val (.int p3), .val (.int (1 : Int32)), .val (.int z6), .val (.int z13), .val (.int z17), .val (.int z24), .val (.int z28), .val (.int z35), .val (.int z42), .val (.ref b13), .val (.ref b15), .val (.long (0 : Int64)), .second, .unset, .unset] [(.long (0 : Int64))])) _
      refine XS.iload X22.here hx rfl (hb hby at_89) rfl ?_
      show Steps p.tables e below (T22.setTop (mkF m 91 #[.val (.int p0), .val (.int p1), .val (.int p2), .val (.int p3), .val (.int (1 : Int32)), .val (.int z6), .val (.int z13), .val (.int z17), .val (.int z24), .val (.int z28), .val (.int z35), .val (.int z42), .val (.ref b13), .val (.ref b15), .val (.long (0 : Int64)), .second, .unset, .unset] [(.int z6), (.long (0 : Int64))])) _
      refine Jvm.OwnK.i2l X22.here hx rfl (hb hby at_91) rfl hz91 ?_
      show Steps p.tables e below (T22.setTop (mkF m 92 #[.val (.int p0), .val (.int p1), .val (.int p2), .val (.int p3), .val (.int (1 : Int32)), .val (.int z6), .val (.int z13), .val (.int z17), .val (.int z24), .val (.int z28), .val (.int z35), .val (.int z42), .val (.ref b13), .val (.ref b15), .val (.long (0 : Int64)), .second, .unset, .unset] [(.long z91), (.long (0 : Int64))])) _
      refine XS.iload X22.here hx rfl (hb hby at_92) rfl ?_
      show Steps p.tables e below (T22.setTop (mkF m 94 #[.val (.int p0), .val (.int p1), .val (.int p2), .val (.int p3), .val (.int (1 : Int32)), .val (.int z6), .val (.int z13), .val (.int z17), .val (.int z24), .val (.int z28), .val (.int z35), .val (.int z42), .val (.ref b13), .val (.ref b15), .val (.long (0 : Int64)), .second, .unset, .unset] [(.int z13), (.long z91), (.long (0 : Int64))])) _
      refine Jvm.OwnK.i2l X22.here hx rfl (hb hby at_94) rfl hz94 ?_
      show Steps p.tables e below (T22.setTop (mkF m 95 #[.val (.int p0), .val (.int p1), .val (.int p2), .val (.int p3), .val (.int (1 : Int32)), .val (.int z6), .val (.int z13), .val (.int z17), .val (.int z24), .val (.int z28), .val (.int z35), .val (.int z42), .val (.ref b13), .val (.ref b15), .val (.long (0 : Int64)), .second, .unset, .unset] [(.long z94), (.long z91), (.long (0 : Int64))])) _
      refine Jvm.OwnK.lmul X22.here hx rfl (hb hby at_95) rfl hz95 ?_
      show Steps p.tables e below (T22.setTop (mkF m 96 #[.val (.int p0), .val (.int p1), .val (.int p2), .val (.int p3), .val (.int (1 : Int32)), .val (.int z6), .val (.int z13), .val (.int z17), .val (.int z24), .val (.int z28), .val (.int z35), .val (.int z42), .val (.ref b13), .val (.ref b15), .val (.long (0 : Int64)), .second, .unset, .unset] [(.long z95), (.long (0 : Int64))])) _
      refine Jvm.OwnK.ladd X22.here hx rfl (hb hby at_96) rfl hz96 ?_
      show Steps p.tables e below (T22.setTop (mkF m 97 #[.val (.int p0), .val (.int p1), .val (.int p2), .val (.int p3), .val (.int (1 : Int32)), .val (.int z6), .val (.int z13), .val (.int z17), .val (.int z24), .val (.int z28), .val (.int z35), .val (.int z42), .val (.ref b13), .val (.ref b15), .val (.long (0 : Int64)), .second, .unset, .unset] [(.long z96)])) _
      refine XS.lstore X22.here hx rfl (hb hby at_97) rfl (l' := #[.val (.int p0), .val (.int p1), .val (.int p2), .val (.int p3), .val (.int (1 : Int32)), .val (.int z6), .val (.int z13), .val (.int z17), .val (.int z24), .val (.int z28), .val (.int z35), .val (.int z42), .val (.ref b13), .val (.ref b15), .val (.long z96), .second, .unset, .unset]) rfl ?_
      show Steps p.tables e below (T22.setTop (mkF m 99 #[.val (.int p0), .val (.int p1), .val (.int p2), .val (.int p3), .val (.int (1 : Int32)), .val (.int z6), .val (.int z13), .val (.int z17), .val (.int z24), .val (.int z28), .val (.int z35), .val (.int z42), .val (.ref b13), .val (.ref b15), .val (.long z96), .second, .unset, .unset] [])) _
      refine XS.iload X22.here hx rfl (hb hby at_99) rfl ?_
      show Steps p.tables e below (T22.setTop (mkF m 101 #[.val (.int p0), .val (.int p1), .val (.int p2), .val (.int p3), .val (.int (1 : Int32)), .val (.int z6), .val (.int z13), .val (.int z17), .val (.int z24), .val (.int z28), .val (.int z35), .val (.int z42), .val (.ref b13), .val (.ref b15), .val (.long z96), .second, .unset, .unset] [(.int (1 : Int32))])) _
      refine XS.iconst X22.here hx rfl (hb hby at_101) ?_
      show Steps p.tables e below (T22.setTop (mkF m 102 #[.val (.int p0), .val (.int p1), .val (.int p2), .val (.int p3), .val (.int (1 : Int32)), .val (.int z6), .val (.int z13), .val (.int z17), .val (.int z24), .val (.int z28), .val (.int z35), .val (.int z42), .val (.ref b13), .val (.ref b15), .val (.long z96), .second, .unset, .unset] [(.int (1 : Int32)), (.int (1 : Int32))])) _
      refine XS.icmpYes X22.here hx rfl (pc0 := 102) (pc' := 131) rfl (hb hby at_102) rfl (Jvm.Free.XT.ii_le_t (by decide)) (by decide) (by decide) ?_
      show Steps p.tables e below (T22.setTop (mkF m 131 #[.val (.int p0), .val (.int p1), .val (.int p2), .val (.int p3), .val (.int (1 : Int32)), .val (.int z6), .val (.int z13), .val (.int z17), .val (.int z24), .val (.int z28), .val (.int z35), .val (.int z42), .val (.ref b13), .val (.ref b15), .val (.long z96), .second, .unset, .unset] [])) _
      refine XS.iload X22.here hx rfl (hb hby at_131) rfl ?_
      show Steps p.tables e below (T22.setTop (mkF m 133 #[.val (.int p0), .val (.int p1), .val (.int p2), .val (.int p3), .val (.int (1 : Int32)), .val (.int z6), .val (.int z13), .val (.int z17), .val (.int z24), .val (.int z28), .val (.int z35), .val (.int z42), .val (.ref b13), .val (.ref b15), .val (.long z96), .second, .unset, .unset] [(.int (1 : Int32))])) _
      refine XS.iconst X22.here hx rfl (hb hby at_133) ?_
      show Steps p.tables e below (T22.setTop (mkF m 134 #[.val (.int p0), .val (.int p1), .val (.int p2), .val (.int p3), .val (.int (1 : Int32)), .val (.int z6), .val (.int z13), .val (.int z17), .val (.int z24), .val (.int z28), .val (.int z35), .val (.int z42), .val (.ref b13), .val (.ref b15), .val (.long z96), .second, .unset, .unset] [(.int (2 : Int32)), (.int (1 : Int32))])) _
      refine XS.icmpYes X22.here hx rfl (pc0 := 134) (pc' := 163) rfl (hb hby at_134) rfl (Jvm.Free.XT.ii_le_t (by decide)) (by decide) (by decide) ?_
      show Steps p.tables e below (T22.setTop (mkF m 163 #[.val (.int p0), .val (.int p1), .val (.int p2), .val (.int p3), .val (.int (1 : Int32)), .val (.int z6), .val (.int z13), .val (.int z17), .val (.int z24), .val (.int z28), .val (.int z35), .val (.int z42), .val (.ref b13), .val (.ref b15), .val (.long z96), .second, .unset, .unset] [])) _
      refine XS.aload X22.here hx rfl (hb hby at_163) rfl rfl ?_
      show Steps p.tables e below (T22.setTop (mkF m 165 #[.val (.int p0), .val (.int p1), .val (.int p2), .val (.int p3), .val (.int (1 : Int32)), .val (.int z6), .val (.int z13), .val (.int z17), .val (.int z24), .val (.int z28), .val (.int z35), .val (.int z42), .val (.ref b13), .val (.ref b15), .val (.long z96), .second, .unset, .unset] [(.ref b15)])) _
      refine XS.iload X22.here hx rfl (hb hby at_165) rfl ?_
      show Steps p.tables e below (T22.setTop (mkF m 167 #[.val (.int p0), .val (.int p1), .val (.int p2), .val (.int p3), .val (.int (1 : Int32)), .val (.int z6), .val (.int z13), .val (.int z17), .val (.int z24), .val (.int z28), .val (.int z35), .val (.int z42), .val (.ref b13), .val (.ref b15), .val (.long z96), .second, .unset, .unset] [(.int (1 : Int32)), (.ref b15)])) _
      refine XS.iload X22.here hx rfl (hb hby at_167) rfl ?_
      show Steps p.tables e below (T22.setTop (mkF m 169 #[.val (.int p0), .val (.int p1), .val (.int p2), .val (.int p3), .val (.int (1 : Int32)), .val (.int z6), .val (.int z13), .val (.int z17), .val (.int z24), .val (.int z28), .val (.int z35), .val (.int z42), .val (.ref b13), .val (.ref b15), .val (.long z96), .second, .unset, .unset] [(.int z42), (.int (1 : Int32)), (.ref b15)])) _
      refine XS.i2dS X22.here hx rfl (hb hby at_169) rfl hz169 ?_
      show Steps p.tables e below (T22.setTop (mkF m 170 #[.val (.int p0), .val (.int p1), .val (.int p2), .val (.int p3), .val (.int (1 : Int32)), .val (.int z6), .val (.int z13), .val (.int z17), .val (.int z24), .val (.int z28), .val (.int z35), .val (.int z42), .val (.ref b13), .val (.ref b15), .val (.long z96), .second, .unset, .unset] [(.double z169), (.int (1 : Int32)), (.ref b15)])) _
      refine st26 _ ?_
      show Steps p.tables e below (T26.setTop (mkF m 171 #[.val (.int p0), .val (.int p1), .val (.int p2), .val (.int p3), .val (.int (1 : Int32)), .val (.int z6), .val (.int z13), .val (.int z17), .val (.int z24), .val (.int z28), .val (.int z35), .val (.int z42), .val (.ref b13), .val (.ref b15), .val (.long z96), .second, .unset, .unset] [])) _
      refine XS.aload X26.here hx rfl (hb hby at_171) rfl rfl ?_
      show Steps p.tables e below (T26.setTop (mkF m 173 #[.val (.int p0), .val (.int p1), .val (.int p2), .val (.int p3), .val (.int (1 : Int32)), .val (.int z6), .val (.int z13), .val (.int z17), .val (.int z24), .val (.int z28), .val (.int z35), .val (.int z42), .val (.ref b13), .val (.ref b15), .val (.long z96), .second, .unset, .unset] [(.ref b15)])) _
      refine XS.aload X26.here hx rfl (hb hby at_173) rfl rfl ?_
      show Steps p.tables e below (T26.setTop (mkF m 175 #[.val (.int p0), .val (.int p1), .val (.int p2), .val (.int p3), .val (.int (1 : Int32)), .val (.int z6), .val (.int z13), .val (.int z17), .val (.int z24), .val (.int z28), .val (.int z35), .val (.int z42), .val (.ref b13), .val (.ref b15), .val (.long z96), .second, .unset, .unset] [(.ref b13), (.ref b15)])) _
      refine st29 _ ?_
      show Steps p.tables e below (T29.setTop (mkF m 178 #[.val (.int p0), .val (.int p1), .val (.int p2), .val (.int p3), .val (.int (1 : Int32)), .val (.int z6), .val (.int z13), .val (.int z17), .val (.int z24), .val (.int z28), .val (.int z35), .val (.int z42), .val (.ref b13), .val (.ref b15), .val (.long z96), .second, .unset, .unset] [(.double c175_z22)])) _
      refine XS.dstore X29.here hx rfl (hb hby at_178) rfl (l' := #[.val (.int p0), .val (.int p1), .val (.int p2), .val (.int p3), .val (.int (1 : Int32)), .val (.int z6), .val (.int z13), .val (.int z17), .val (.int z24), .val (.int z28), .val (.int z35), .val (.int z42), .val (.ref b13), .val (.ref b15), .val (.long z96), .second, .val (.double c175_z22), .second]) rfl ?_
      show Steps p.tables e below (T29.setTop (mkF m 180 #[.val (.int p0), .val (.int p1), .val (.int p2), .val (.int p3), .val (.int (1 : Int32)), .val (.int z6), .val (.int z13), .val (.int z17), .val (.int z24), .val (.int z28), .val (.int z35), .val (.int z42), .val (.ref b13), .val (.ref b15), .val (.long z96), .second, .val (.double c175_z22), .second] [])) _
      refine XS.dload X29.here hx rfl (hb hby at_180) rfl ?_
      show Steps p.tables e below (T29.setTop (mkF m 182 #[.val (.int p0), .val (.int p1), .val (.int p2), .val (.int p3), .val (.int (1 : Int32)), .val (.int z6), .val (.int z13), .val (.int z17), .val (.int z24), .val (.int z28), .val (.int z35), .val (.int z42), .val (.ref b13), .val (.ref b15), .val (.long z96), .second, .val (.double c175_z22), .second] [(.double c175_z22)])) _
      refine XS.lload X29.here hx rfl (hb hby at_182) rfl ?_
      show Steps p.tables e below (T29.setTop (mkF m 184 #[.val (.int p0), .val (.int p1), .val (.int p2), .val (.int p3), .val (.int (1 : Int32)), .val (.int z6), .val (.int z13), .val (.int z17), .val (.int z24), .val (.int z28), .val (.int z35), .val (.int z42), .val (.ref b13), .val (.ref b15), .val (.long z96), .second, .val (.double c175_z22), .second] [(.long z96), (.double c175_z22)])) _
      refine XS.l2dS X29.here hx rfl (hb hby at_184) rfl hz184 ?_
      show Steps p.tables e below (T29.setTop (mkF m 185 #[.val (.int p0), .val (.int p1), .val (.int p2), .val (.int p3), .val (.int (1 : Int32)), .val (.int z6), .val (.int z13), .val (.int z17), .val (.int z24), .val (.int z28), .val (.int z35), .val (.int z42), .val (.ref b13), .val (.ref b15), .val (.long z96), .second, .val (.double c175_z22), .second] [(.double z184), (.double c175_z22)])) _
      refine XS.dcmpS X29.here hx rfl (hb hby at_185) rfl hz185 ?_
      show Steps p.tables e below (T29.setTop (mkF m 186 #[.val (.int p0), .val (.int p1), .val (.int p2), .val (.int p3), .val (.int (1 : Int32)), .val (.int z6), .val (.int z13), .val (.int z17), .val (.int z24), .val (.int z28), .val (.int z35), .val (.int z42), .val (.ref b13), .val (.ref b15), .val (.long z96), .second, .val (.double c175_z22), .second] [(.int z185)])) _
      refine XS.ifNo X29.here hx rfl (hb hby at_186) rfl (Jvm.Free.XT.i0_ne_f br186) ?_
      show Steps p.tables e below (T29.setTop (mkF m 189 #[.val (.int p0), .val (.int p1), .val (.int p2), .val (.int p3), .val (.int (1 : Int32)), .val (.int z6), .val (.int z13), .val (.int z17), .val (.int z24), .val (.int z28), .val (.int z35), .val (.int z42), .val (.ref b13), .val (.ref b15), .val (.long z96), .second, .val (.double c175_z22), .second] [])) _
      refine XS.iconst X29.here hx rfl (hb hby at_189) ?_
      show Steps p.tables e below (T29.setTop (mkF m 190 #[.val (.int p0), .val (.int p1), .val (.int p2), .val (.int p3), .val (.int (1 : Int32)), .val (.int z6), .val (.int z13), .val (.int z17), .val (.int z24), .val (.int z28), .val (.int z35), .val (.int z42), .val (.ref b13), .val (.ref b15), .val (.long z96), .second, .val (.double c175_z22), .second] [(.int (1 : Int32))])) _
      refine XS.goto X29.here hx rfl (pc0 := 190) (pc' := 194) rfl (hb hby at_190) (by decide) (by decide) ?_
      exact k
    obtain ⟨fs, hr, hrun, hended, hW, hsame⟩ := X29.leave (v := some (.int (1 : Int32))) (fun h => by rw [Bd.returns] at h; cases h)
    refine ⟨_, _, c30 _ ?_, hrun, hended, _, _, rfl, ?_, ⟨_, rfl⟩, hW, hsame.mono (by decide) (by decide)⟩
    · show Steps p.tables e below (T29.setTop (mkF m 194 #[.val (.int p0), .val (.int p1), .val (.int p2), .val (.int p3), .val (.int (1 : Int32)), .val (.int z6), .val (.int z13), .val (.int z17), .val (.int z24), .val (.int z28), .val (.int z35), .val (.int z42), .val (.ref b13), .val (.ref b15), .val (.long z96), .second, .val (.double c175_z22), .second] [(.int (1 : Int32))])) _
      exact retOut X29 hx Bd.returns rfl (Or.inl ⟨rfl, by simp, _, rfl⟩) (hb hby at_194) hr
    · show Q0 n0 _ T29.heap _
      rw [e29]
      exact ⟨rfl, by first | assumption | exact N0⟩
  · obtain rfl := q2
    obtain ⟨z6, hz6⟩ : ∃ z : Int32, p0.toInt16.toInt32 = z := ⟨_, rfl⟩
    obtain ⟨z12, hz12⟩ : ∃ z : Int32, p0 >>> ((16 : Int32) &&& 31) = z := ⟨_, rfl⟩
    obtain ⟨z13, hz13⟩ : ∃ z : Int32, z12.toInt16.toInt32 = z := ⟨_, rfl⟩
    obtain ⟨z17, hz17⟩ : ∃ z : Int32, p1.toInt16.toInt32 = z := ⟨_, rfl⟩
    obtain ⟨z23, hz23⟩ : ∃ z : Int32, p1 >>> ((16 : Int32) &&& 31) = z := ⟨_, rfl⟩
    obtain ⟨z24, hz24⟩ : ∃ z : Int32, z23.toInt16.toInt32 = z := ⟨_, rfl⟩
    obtain ⟨z28, hz28⟩ : ∃ z : Int32, p2.toInt16.toInt32 = z := ⟨_, rfl⟩
    obtain ⟨z34, hz34⟩ : ∃ z : Int32, p2 >>> ((16 : Int32) &&& 31) = z := ⟨_, rfl⟩
    obtain ⟨z35, hz35⟩ : ∃ z : Int32, z34.toInt16.toInt32 = z := ⟨_, rfl⟩
    obtain ⟨z41, hz41⟩ : ∃ z : Int32, p3 >>> ((16 : Int32) &&& 31) = z := ⟨_, rfl⟩
    obtain ⟨z42, hz42⟩ : ∃ z : Int32, z41.toInt16.toInt32 = z := ⟨_, rfl⟩
    obtain ⟨z78, hz78⟩ : ∃ z : UInt64, FP.i2d z6 = z := ⟨_, rfl⟩
    obtain ⟨z85, hz85⟩ : ∃ z : UInt64, FP.i2d z13 = z := ⟨_, rfl⟩
    obtain ⟨z91, hz91⟩ : ∃ z : Int64, z6.toInt64 = z := ⟨_, rfl⟩
    obtain ⟨z94, hz94⟩ : ∃ z : Int64, z13.toInt64 = z := ⟨_, rfl⟩
    obtain ⟨z95, hz95⟩ : ∃ z : Int64, z91 * z94 = z := ⟨_, rfl⟩
    obtain ⟨z96, hz96⟩ : ∃ z : Int64, (0 : Int64) + z95 = z := ⟨_, rfl⟩
    obtain ⟨z110, hz110⟩ : ∃ z : UInt64, FP.i2d z17 = z := ⟨_, rfl⟩
    obtain ⟨z117, hz117⟩ : ∃ z : UInt64, FP.i2d z24 = z := ⟨_, rfl⟩
    obtain ⟨z123, hz123⟩ : ∃ z : Int64, z17.toInt64 = z := ⟨_, rfl⟩
    obtain ⟨z126, hz126⟩ : ∃ z : Int64, z24.toInt64 = z := ⟨_, rfl⟩
    obtain ⟨z127, hz127⟩ : ∃ z : Int64, z123 * z126 = z := ⟨_, rfl⟩
    obtain ⟨z128, hz128⟩ : ∃ z : Int64, z96 + z127 = z := ⟨_, rfl⟩
    obtain ⟨z169, hz169⟩ : ∃ z : UInt64, FP.i2d z42 = z := ⟨_, rfl⟩
    obtain ⟨c175_z21, hc175_z21⟩ : ∃ z : UInt64, FP.dmul z78 z85 = z := ⟨_, rfl⟩
    obtain ⟨c175_z22, hc175_z22⟩ : ∃ z : UInt64, FP.dadd FP.dconst0 c175_z21 = z := ⟨_, rfl⟩
    obtain ⟨c175_z21_2, hc175_z21_2⟩ : ∃ z : UInt64, FP.dmul z110 z117 = z := ⟨_, rfl⟩
    obtain ⟨c175_z22_2, hc175_z22_2⟩ : ∃ z : UInt64, FP.dadd c175_z22 c175_z21_2 = z := ⟨_, rfl⟩
    obtain ⟨z184, hz184⟩ : ∃ z : UInt64, FP.l2d z128 = z := ⟨_, rfl⟩
    obtain ⟨z185, hz185⟩ : ∃ z : Int32, cmpValue (FP.dcmp c175_z22_2 z184) .l = z := ⟨_, rfl⟩
    obtain ⟨T31, h31, k31, X31, e31, E31, A31, st31⟩ := newP X0 hx hZ (hw _ (List.mem_of_getElem? (i := 0) rfl)) e0 (g := (mkF m 53 #[.val (.int p0), .val (.int p1), .val (.int p2), .val (.int p3), .val (.int (2 : Int32)), .val (.int z6), .val (.int z13), .val (.int z17), .val (.int z24), .val (.int z28), .val (.int z35), .val (.int z42), .unset, .unset, .unset, .unset, .unset, .unset] [(.int (2 : Int32))])) rfl (hb hby at_53) rfl (by decide) (cap := 2) (by decide) (by decide) (by decide) (by decide)
    obtain ⟨b31, g31⟩ : ∃ z, z = h0.size := ⟨_, rfl⟩
    rw [← g31] at A31 st31
    have gn31 : n0 ≤ b31 := Nat.le_trans Z0 (Nat.le_of_eq g31.symm)
    have gz31 : h0.size ≤ b31 := Nat.le_trans ((Keep.refl h0 [])).1 (Nat.le_of_eq g31.symm)
    have K32 : Keep h0 h31 [] := (Keep.refl h0 []).ext E31
    have V31 : Arv Z h31 b31 k31 .double (2 : Int32) [(.double (0 : UInt64)), (.double (0 : UInt64))] (.double (0 : UInt64)) := (Arv.new A31 (by decide)).pad (pad_rep [] (.double (0 : UInt64)) 2)
    obtain ⟨T33, h33, k33, X33, e33, E33, A33, st33⟩ := newP X31 hx hZ (hw _ (List.mem_of_getElem? (i := 0) rfl)) e31 (g := (mkF m 61 #[.val (.int p0), .val (.int p1), .val (.int p2), .val (.int p3), .val (.int (2 : Int32)), .val (.int z6), .val (.int z13), .val (.int z17), .val (.int z24), .val (.int z28), .val (.int z35), .val (.int z42), .val (.ref b31), .unset, .unset, .unset, .unset, .unset] [(.int (3 : Int32))])) rfl (hb hby at_61) rfl (by decide) (cap := 3) (by decide) (by decide) (by decide) (by decide)
    obtain ⟨b33, g33⟩ : ∃ z, z = h31.size := ⟨_, rfl⟩
    rw [← g33] at A33 st33
    have gn33 : n0 ≤ b33 := Nat.le_trans (Nat.le_trans Z0 E31.1) (Nat.le_of_eq g33.symm)
    have gz33 : h0.size ≤ b33 := Nat.le_trans (K32).1 (Nat.le_of_eq g33.symm)
    have K34 : Keep h0 h33 [] := K32.ext E33
    have V33 : Arv Z h33 b33 k33 .double (3 : Int32) [(.double (0 : UInt64)), (.double (0 : UInt64)), (.double (0 : UInt64))] (.double (0 : UInt64)) := (Arv.new A33 (by decide)).pad (pad_rep [] (.double (0 : UInt64)) 3)
    obtain ⟨cl35, Ar35, q35, S35, Nn35, Ha35, G35⟩ := id V33
    have in35 : ¬ ((0 : Int32) < 0 ∨ cl35.slots.size ≤ ((0 : Int32)).toNatClampNeg) := inb_of S35 ⟨by decide, by decide⟩
    obtain ⟨T36, h36, X36, e36, W36, st36⟩ := stD X33 hx hZ e33 Ar35 (j := (0 : Int32)) in35 (g := (mkF m 79 #[.val (.int p0), .val (.int p1), .val (.int p2), .val (.int p3), .val (.int (2 : Int32)), .val (.int z6), .val (.int z13), .val (.int z17), .val (.int z24), .val (.int z28), .val (.int z35), .val (.int z42), .val (.ref b31), .val (.ref b33), .val (.long (0 : Int64)), .second, .unset, .unset] [(.double z78), (.int (0 : Int32)), (.ref b33)])) rfl rfl (hb hby at_79)
    have N36 := Fr.snoc X36 N0 gn33
    have K37 : Keep h0 h36 [] := K34.wr W36 (Or.inr gz33)
    have V36 : Arv Z h36 b33 k33 .double (3 : Int32) [(.double z78), (.double (0 : UInt64)), (.double (0 : UInt64))] (.double (0 : UInt64)) := Arv.set Ar35 q35 S35 Nn35 Ha35 G35 rfl W36 0 rfl (show (0 : Nat) < 3 by decide)
    have f38 := ((V31.ext E33).other W36 (Nat.ne_of_lt (Nat.lt_of_lt_of_le (V31).lt (Nat.le_of_eq g33.symm))))
    obtain ⟨cl39, Ar39, q39, S39, Nn39, Ha39, G39⟩ := id f38
    have in39 : ¬ ((0 : Int32) < 0 ∨ cl39.slots.size ≤ ((0 : Int32)).toNatClampNeg) := inb_of S39 ⟨by decide, by decide⟩
    obtain ⟨T40, h40, X40, e40, W40, st40⟩ := stD X36 hx hZ e36 Ar39 (j := (0 : Int32)) in39 (g := (mkF m 86 #[.val (.int p0), .val (.int p1), .val (.int p2), .val (.int p3), .val (.int (2 : Int32)), .val (.int z6), .val (.int z13), .val (.int z17), .val (.int z24), .val (.int z28), .val (.int z35), .val (.int z42), .val (.ref b31), .val (.ref b33), .val (.long (0 : Int64)), .second, .unset, .unset] [(.double z85), (.int (0 : Int32)), (.ref b31)])) rfl rfl (hb hby at_86)
    have N40 := Fr.snoc X40 N36 gn31
    have K41 : Keep h0 h40 [] := K37.wr W40 (Or.inr gz31)
    have V40 : Arv Z h40 b31 k31 .double (2 : Int32) [(.double z85), (.double (0 : UInt64))] (.double (0 : UInt64)) := Arv.set Ar39 q39 S39 Nn39 Ha39 G39 rfl W40 0 rfl (show (0 : Nat) < 2 by decide)
    have f42 := (V36.other W40 (Ne.symm (Nat.ne_of_lt (Nat.lt_of_lt_of_le (V31).lt (Nat.le_of_eq g33.symm)))))
    obtain ⟨cl43, Ar43, q43, S43, Nn43, Ha43, G43⟩ := id f42
    have in43 : ¬ ((1 : Int32) < 0 ∨ cl43.slots.size ≤ ((1 : Int32)).toNatClampNeg) := inb_of S43 ⟨by decide, by decide⟩
    obtain ⟨T44, h44, X44, e44, W44, st44⟩ := stD X40 hx hZ e40 Ar43 (j := (1 : Int32)) in43 (g := (mkF m 111 #[.val (.int p0), .val (.int p1), .val (.int p2), .val (.int p3), .val (.int (2 : Int32)), .val (.int z6), .val (.int z13), .val (.int z17), .val (.int z24), .val (.int z28), .val (.int z35), .val (.int z42), .val (.ref b31), .val (.ref b33), .val (.long z96), .second, .unset, .unset] [(.double z110), (.int (1 : Int32)), (.ref b33)])) rfl rfl (hb hby at_111)
    have N44 := Fr.snoc X44 N40 gn33
    have K45 : Keep h0 h44 [] := K41.wr W44 (Or.inr gz33)
    have V44 : Arv Z h44 b33 k33 .double (3 : Int32) [(.double z78), (.double z110), (.double (0 : UInt64))] (.double (0 : UInt64)) := Arv.set Ar43 q43 S43 Nn43 Ha43 G43 rfl W44 1 rfl (show (1 : Nat) < 3 by decide)
    have f46 := (V40.other W44 (Nat.ne_of_lt (Nat.lt_of_lt_of_le (V31).lt (Nat.le_of_eq g33.symm))))
    obtain ⟨cl47, Ar47, q47, S47, Nn47, Ha47, G47⟩ := id f46
    have in47 : ¬ ((1 : Int32) < 0 ∨ cl47.slots.size ≤ ((1 : Int32)).toNatClampNeg) := inb_of S47 ⟨by decide, by decide⟩
    obtain ⟨T48, h48, X48, e48, W48, st48⟩ := stD X44 hx hZ e44 Ar47 (j := (1 : Int32)) in47 (g := (mkF m 118 #[.val (.int p0), .val (.int p1), .val (.int p2), .val (.int p3), .val (.int (2 : Int32)), .val (.int z6), .val (.int z13), .val (.int z17), .val (.int z24), .val (.int z28), .val (.int z35), .val (.int z42), .val (.ref b31), .val (.ref b33), .val (.long z96), .second, .unset, .unset] [(.double z117), (.int (1 : Int32)), (.ref b31)])) rfl rfl (hb hby at_118)
    have N48 := Fr.snoc X48 N44 gn31
    have K49 : Keep h0 h48 [] := K45.wr W48 (Or.inr gz31)
    have V48 : Arv Z h48 b31 k31 .double (2 : Int32) [(.double z85), (.double z117)] (.double (0 : UInt64)) := Arv.set Ar47 q47 S47 Nn47 Ha47 G47 rfl W48 1 rfl (show (1 : Nat) < 2 by decide)
    have f50 := (V44.other W48 (Ne.symm (Nat.ne_of_lt (Nat.lt_of_lt_of_le (V31).lt (Nat.le_of_eq g33.symm)))))
    obtain ⟨cl51, Ar51, q51, S51, Nn51, Ha51, G51⟩ := id f50
    have in51 : ¬ ((2 : Int32) < 0 ∨ cl51.slots.size ≤ ((2 : Int32)).toNatClampNeg) := inb_of S51 ⟨by decide, by decide⟩
    obtain ⟨T52, h52, X52, e52, W52, st52⟩ := stD X48 hx hZ e48 Ar51 (j := (2 : Int32)) in51 (g := (mkF m 170 #[.val (.int p0), .val (.int p1), .val (.int p2), .val (.int p3), .val (.int (2 : Int32)), .val (.int z6), .val (.int z13), .val (.int z17), .val (.int z24), .val (.int z28), .val (.int z35), .val (.int z42), .val (.ref b31), .val (.ref b33), .val (.long z128), .second, .unset, .unset] [(.double z169), (.int (2 : Int32)), (.ref b33)])) rfl rfl (hb hby at_170)
    have N52 := Fr.snoc X52 N48 gn33
    have K53 : Keep h0 h52 [] := K49.wr W52 (Or.inr gz33)
    have V52 : Arv Z h52 b33 k33 .double (3 : Int32) [(.double z78), (.double z110), (.double z169)] (.double (0 : UInt64)) := Arv.set Ar51 q51 S51 Nn51 Ha51 G51 rfl W52 2 rfl (show (2 : Nat) < 3 by decide)
    obtain ⟨c175_nn21, c175_nn22, D0, R0, B0⟩ := turn Jvm.OwnF.DV_0 (by decide : (0 : Int64).toInt = 0) (by decide : (0 : Int).natAbs ≤ 0) (by decide) hz6 hz13 hz78 hz85 hc175_z21 hc175_z22 hz91 hz94 hz95 hz96
    obtain ⟨c175_nn21_2, c175_nn22_2, D1, R1, B1⟩ := turn D0 R0 B0 (by decide) hz17 hz24 hz110 hz117 hc175_z21_2 hc175_z22_2 hz123 hz126 hz127 hz128
    have br186 : z185 = 0 := by
      have dl := Jvm.OwnF.DV_l2d (n := z128) (Jvm.OwnF.r53 (by rw [R1]; omega))
      rw [R1, hz184] at dl
      rw [← hz185]
      exact Jvm.OwnF.DV_eq0 D1 dl _
    have f54 := (V48.other W52 (Nat.ne_of_lt (Nat.lt_of_lt_of_le (V31).lt (Nat.le_of_eq g33.symm))))
    obtain ⟨_, _, ⟨T55, L55, k55, n55⟩, -, X55, ⟨Lc55, hQ55, ql55, qy55, qz55⟩, st55⟩ := Jvm.LawKit.callS X52 hx (y := (⟨"com/example/credal_choice/credalchoice/model/Gambles", "expectation", "([D[D)D"⟩ : MethodName)) hown (mvT hZ (hw _ (List.mem_of_getElem? (i := 1) rfl))) (mvT hZ (hw _ (List.mem_of_getElem? (i := 2) rfl))) (mvT hZ (hw _ (List.mem_of_getElem? (i := 3) rfl))) (mvT hZ (hw _ (List.mem_of_getElem? (i := 4) rfl))) (by decide) (backOf (W := 0) (rm1_2 l Z a0 hw [] b33 b31 k33 z78 z110 z169 k31 z85 z117 c175_z21 c175_z22 c175_z21_2 c175_z22_2 h52 n0 (Nat.le_trans (Nat.le_trans (Nat.le_trans (Nat.le_trans (Nat.le_trans (Nat.le_trans (Nat.le_trans Z0 E31.1) E33.1) (Keep.of_wr W36).1) (Keep.of_wr W40).1) (Keep.of_wr W44).1) (Keep.of_wr W48).1) (Keep.of_wr W52).1) V52 f54 hc175_z21 hc175_z22 hc175_z21_2 hc175_z22_2 c175_nn21 c175_nn22 c175_nn21_2 c175_nn22_2) hZ (hw _ (List.mem_of_getElem? (i := 4) rfl)) (hw _ (List.mem_of_getElem? (i := 3) rfl)) (by decide) (by decide)) (g := (mkF m 175 #[.val (.int p0), .val (.int p1), .val (.int p2), .val (.int p3), .val (.int (2 : Int32)), .val (.int z6), .val (.int z13), .val (.int z17), .val (.int z24), .val (.int z28), .val (.int z35), .val (.int z42), .val (.ref b31), .val (.ref b33), .val (.long z128), .second, .unset, .unset] [(.ref b31), (.ref b33)])) rfl (by rw [hml]; rfl) (argsL := [(.ref b33), (.ref b31)]) (rest := []) (lenOf pd_0 rfl) rfl (by show 2 * 0 + _ ≤ _; exact Nat.le_of_eq rfl) (hb hby at_175) (fun _ _ => ⟨rfl, e52, (by decide : 2 + 0 ≤ _), (by decide : 5 + 0 ≤ _)⟩)
    dsimp only [Pt.U, Pt.locs, Pt.cells, Pt.slots] at X55 ql55 qy55 qz55 st55 hQ55
    subst ql55 qy55 qz55
    obtain ⟨rfl, N55q, e55⟩ := hQ55
    have N55 := Fr.app N52 N55q
    have c56 : ∀ t, Steps p.tables e below (T55.setTop (mkF m 194 #[.val (.int p0), .val (.int p1), .val (.int p2), .val (.int p3), .val (.int (2 : Int32)), .val (.int z6), .val (.int z13), .val (.int z17), .val (.int z24), .val (.int z28), .val (.int z35), .val (.int z42), .val (.ref b31), .val (.ref b33), .val (.long z128), .second, .val (.double c175_z22_2), .second] [(.int (1 : Int32))])) t → Steps p.tables e below (s₁.setTop (entryFrame m #[(.int p0), (.int p1), (.int p2), (.int p3)] maxLocals)) t := by
      intro t k
      refine c1 t ?_
      show Steps p.tables e below (s₁.setTop (mkF m 3 #[.val (.int p0), .val (.int p1), .val (.int p2), .val (.int p3), .unset, .unset, .unset, .unset, .unset, .unset, .unset, .unset, .unset, .unset, .unset, .unset, .unset, .unset] [(.int (2 : Int32))])) _
      refine XS.istore X0.here hx rfl (hb hby at_3) rfl (l' := #[.val (.int p0), .val (.int p1), .val (.int p2), .val (.int p3), .val (.int (2 : Int32)), .unset, .unset, .unset, .unset, .unset, .unset, .unset, .unset, .unset, .unset, .unset, .unset, .unset]) rfl ?_
      show Steps p.tables e below (s₁.setTop (mkF m 5 #[.val (.int p0), .val (.int p1), .val (.int p2), .val (.int p3), .val (.int (2 : Int32)), .unset, .unset, .unset, .unset, .unset, .unset, .unset, .unset, .unset, .unset, .unset, .unset, .unset] [])) _
      refine XS.iloadN X0.here hx rfl (hb hby at_5) rfl ?_
      show Steps p.tables e below (s₁.setTop (mkF m 6 #[.val (.int p0), .val (.int p1), .val (.int p2), .val (.int p3), .val (.int (2 : Int32)), .unset, .unset, .unset, .unset, .unset, .unset, .unset, .unset, .unset, .unset, .unset, .unset, .unset] [(.int p0)])) _
      refine Jvm.OwnK.i2s X0.here hx rfl (hb hby at_6) rfl hz6 ?_
      show Steps p.tables e below (s₁.setTop (mkF m 7 #[.val (.int p0), .val (.int p1), .val (.int p2), .val (.int p3), .val (.int (2 : Int32)), .unset, .unset, .unset, .unset, .unset, .unset, .unset, .unset, .unset, .unset, .unset, .unset, .unset] [(.int z6)])) _
      refine XS.istore X0.here hx rfl (hb hby at_7) rfl (l' := #[.val (.int p0), .val (.int p1), .val (.int p2), .val (.int p3), .val (.int (2 : Int32)), .val (.int z6), .unset, .unset, .unset, .unset, .unset, .unset, .unset, .unset, .unset, .unset, .unset, .unset]) rfl ?_
      show Steps p.tables e below (s₁.setTop (mkF m 9 #[.val (.int p0), .val (.int p1), .val (.int p2), .val (.int p3), .val (.int (2 : Int32)), .val (.int z6), .unset, .unset, .unset, .unset, .unset, .unset, .unset, .unset, .unset, .unset, .unset, .unset] [])) _
      refine XS.iloadN X0.here hx rfl (hb hby at_9) rfl ?_
      show Steps p.tables e below (s₁.setTop (mkF m 10 #[.val (.int p0), .val (.int p1), .val (.int p2), .val (.int p3), .val (.int (2 : Int32)), .val (.int z6), .unset, .unset, .unset, .unset, .unset, .unset, .unset, .unset, .unset, .unset, .unset, .unset] [(.int p0)])) _
      refine XS.bipush X0.here hx rfl (hb hby at_10) ?_
      show Steps p.tables e below (s₁.setTop (mkF m 12 #[.val (.int p0), .val (.int p1), .val (.int p2), .val (.int p3), .val (.int (2 : Int32)), .val (.int z6), .unset, .unset, .unset, .unset, .unset, .unset, .unset, .unset, .unset, .unset, .unset, .unset] [(.int (16 : Int32)), (.int p0)])) _
      refine Jvm.OwnK.ishr X0.here hx rfl (hb hby at_12) rfl hz12 ?_
      show Steps p.tables e below (s₁.setTop (mkF m 13 #[.val (.int p0), .val (.int p1), .val (.int p2), .val (.int p3), .val (.int (2 : Int32)), .val (.int z6), .unset, .unset, .unset, .unset, .unset, .unset, .unset, .unset, .unset, .unset, .unset, .unset] [(.int z12)])) _
      refine Jvm.OwnK.i2s X0.here hx rfl (hb hby at_13) rfl hz13 ?_
      show Steps p.tables e below (s₁.setTop (mkF m 14 #[.val (.int p0), .val (.int p1), .val (.int p2), .val (.int p3), .val (.int (2 : Int32)), .val (.int z6), .unset, .unset, .unset, .unset, .unset, .unset, .unset, .unset, .unset, .unset, .unset, .unset] [(.int z13)])) _
      refine XS.istore X0.here hx rfl (hb hby at_14) rfl (l' := #[.val (.int p0), .val (.int p1), .val (.int p2), .val (.int p3), .val (.int (2 : Int32)), .val (.int z6), .val (.int z13), .unset, .unset, .unset, .unset, .unset, .unset, .unset, .unset, .unset, .unset, .unset]) rfl ?_
      show Steps p.tables e below (s₁.setTop (mkF m 16 #[.val (.int p0), .val (.int p1), .val (.int p2), .val (.int p3), .val (.int (2 : Int32)), .val (.int z6), .val (.int z13), .unset, .unset, .unset, .unset, .unset, .unset, .unset, .unset, .unset, .unset, .unset] [])) _
      refine XS.iloadN X0.here hx rfl (hb hby at_16) rfl ?_
      show Steps p.tables e below (s₁.setTop (mkF m 17 #[.val (.int p0), .val (.int p1), .val (.int p2), .val (.int p3), .val (.int (2 : Int32)), .val (.int z6), .val (.int z13), .unset, .unset, .unset, .unset, .unset, .unset, .unset, .unset, .unset, .unset, .unset] [(.int p1)])) _
      refine Jvm.OwnK.i2s X0.here hx rfl (hb hby at_17) rfl hz17 ?_
      show Steps p.tables e below (s₁.setTop (mkF m 18 #[.val (.int p0), .val (.int p1), .val (.int p2), .val (.int p3), .val (.int (2 : Int32)), .val (.int z6), .val (.int z13), .unset, .unset, .unset, .unset, .unset, .unset, .unset, .unset, .unset, .unset, .unset] [(.int z17)])) _
      refine XS.istore X0.here hx rfl (hb hby at_18) rfl (l' := #[.val (.int p0), .val (.int p1), .val (.int p2), .val (.int p3), .val (.int (2 : Int32)), .val (.int z6), .val (.int z13), .val (.int z17), .unset, .unset, .unset, .unset, .unset, .unset, .unset, .unset, .unset, .unset]) rfl ?_
      show Steps p.tables e below (s₁.setTop (mkF m 20 #[.val (.int p0), .val (.int p1), .val (.int p2), .val (.int p3), .val (.int (2 : Int32)), .val (.int z6), .val (.int z13), .val (.int z17), .unset, .unset, .unset, .unset, .unset, .unset, .unset, .unset, .unset, .unset] [])) _
      refine XS.iloadN X0.here hx rfl (hb hby at_20) rfl ?_
      show Steps p.tables e below (s₁.setTop (mkF m 21 #[.val (.int p0), .val (.int p1), .val (.int p2), .val (.int p3), .val (.int (2 : Int32)), .val (.int z6), .val (.int z13), .val (.int z17), .unset, .unset, .unset, .unset, .unset, .unset, .unset, .unset, .unset, .unset] [(.int p1)])) _
      refine XS.bipush X0.here hx rfl (hb hby at_21) ?_
      show Steps p.tables e below (s₁.setTop (mkF m 23 #[.val (.int p0), .val (.int p1), .val (.int p2), .val (.int p3), .val (.int (2 : Int32)), .val (.int z6), .val (.int z13), .val (.int z17), .unset, .unset, .unset, .unset, .unset, .unset, .unset, .unset, .unset, .unset] [(.int (16 : Int32)), (.int p1)])) _
      refine Jvm.OwnK.ishr X0.here hx rfl (hb hby at_23) rfl hz23 ?_
      show Steps p.tables e below (s₁.setTop (mkF m 24 #[.val (.int p0), .val (.int p1), .val (.int p2), .val (.int p3), .val (.int (2 : Int32)), .val (.int z6), .val (.int z13), .val (.int z17), .unset, .unset, .unset, .unset, .unset, .unset, .unset, .unset, .unset, .unset] [(.int z23)])) _
      refine Jvm.OwnK.i2s X0.here hx rfl (hb hby at_24) rfl hz24 ?_
      show Steps p.tables e below (s₁.setTop (mkF m 25 #[.val (.int p0), .val (.int p1), .val (.int p2), .val (.int p3), .val (.int (2 : Int32)), .val (.int z6), .val (.int z13), .val (.int z17), .unset, .unset, .unset, .unset, .unset, .unset, .unset, .unset, .unset, .unset] [(.int z24)])) _
      refine XS.istore X0.here hx rfl (hb hby at_25) rfl (l' := #[.val (.int p0), .val (.int p1), .val (.int p2), .val (.int p3), .val (.int (2 : Int32)), .val (.int z6), .val (.int z13), .val (.int z17), .val (.int z24), .unset, .unset, .unset, .unset, .unset, .unset, .unset, .unset, .unset]) rfl ?_
      show Steps p.tables e below (s₁.setTop (mkF m 27 #[.val (.int p0), .val (.int p1), .val (.int p2), .val (.int p3), .val (.int (2 : Int32)), .val (.int z6), .val (.int z13), .val (.int z17), .val (.int z24), .unset, .unset, .unset, .unset, .unset, .unset, .unset, .unset, .unset] [])) _
      refine XS.iloadN X0.here hx rfl (hb hby at_27) rfl ?_
      show Steps p.tables e below (s₁.setTop (mkF m 28 #[.val (.int p0), .val (.int p1), .val (.int p2), .val (.int p3), .val (.int (2 : Int32)), .val (.int z6), .val (.int z13), .val (.int z17), .val (.int z24), .unset, .unset, .unset, .unset, .unset, .unset, .unset, .unset, .unset] [(.int p2)])) _
      refine Jvm.OwnK.i2s X0.here hx rfl (hb hby at_28) rfl hz28 ?_
      show Steps p.tables e below (s₁.setTop (mkF m 29 #[.val (.int p0), .val (.int p1), .val (.int p2), .val (.int p3), .val (.int (2 : Int32)), .val (.int z6), .val (.int z13), .val (.int z17), .val (.int z24), .unset, .unset, .unset, .unset, .unset, .unset, .unset, .unset, .unset] [(.int z28)])) _
      refine XS.istore X0.here hx rfl (hb hby at_29) rfl (l' := #[.val (.int p0), .val (.int p1), .val (.int p2), .val (.int p3), .val (.int (2 : Int32)), .val (.int z6), .val (.int z13), .val (.int z17), .val (.int z24), .val (.int z28), .unset, .unset, .unset, .unset, .unset, .unset, .unset, .unset]) rfl ?_
      show Steps p.tables e below (s₁.setTop (mkF m 31 #[.val (.int p0), .val (.int p1), .val (.int p2), .val (.int p3), .val (.int (2 : Int32)), .val (.int z6), .val (.int z13), .val (.int z17), .val (.int z24), .val (.int z28), .unset, .unset, .unset, .unset, .unset, .unset, .unset, .unset] [])) _
      refine XS.iloadN X0.here hx rfl (hb hby at_31) rfl ?_
      show Steps p.tables e below (s₁.setTop (mkF m 32 #[.val (.int p0), .val (.int p1), .val (.int p2), .val (.int p3), .val (.int (2 : Int32)), .val (.int z6), .val (.int z13), .val (.int z17), .val (.int z24), .val (.int z28), .unset, .unset, .unset, .unset, .unset, .unset, .unset, .unset] [(.int p2)])) _
      refine XS.bipush X0.here hx rfl (hb hby at_32) ?_
      show Steps p.tables e below (s₁.setTop (mkF m 34 #[.val (.int p0), .val (.int p1), .val (.int p2), .val (.int p3), .val (.int (2 : Int32)), .val (.int z6), .val (.int z13), .val (.int z17), .val (.int z24), .val (.int z28), .unset, .unset, .unset, .unset, .unset, .unset, .unset, .unset] [(.int (16 : Int32)), (.int p2)])) _
      refine Jvm.OwnK.ishr X0.here hx rfl (hb hby at_34) rfl hz34 ?_
      show Steps p.tables e below (s₁.setTop (mkF m 35 #[.val (.int p0), .val (.int p1), .val (.int p2), .val (.int p3), .val (.int (2 : Int32)), .val (.int z6), .val (.int z13), .val (.int z17), .val (.int z24), .val (.int z28), .unset, .unset, .unset, .unset, .unset, .unset, .unset, .unset] [(.int z34)])) _
      refine Jvm.OwnK.i2s X0.here hx rfl (hb hby at_35) rfl hz35 ?_
      show Steps p.tables e below (s₁.setTop (mkF m 36 #[.val (.int p0), .val (.int p1), .val (.int p2), .val (.int p3), .val (.int (2 : Int32)), .val (.int z6), .val (.int z13), .val (.int z17), .val (.int z24), .val (.int z28), .unset, .unset, .unset, .unset, .unset, .unset, .unset, .unset] [(.int z35)])) _
      refine XS.istore X0.here hx rfl (hb hby at_36) rfl (l' := #[.val (.int p0), .val (.int p1), .val (.int p2), .val (.int p3), .val (.int (2 : Int32)), .val (.int z6), .val (.int z13), .val (.int z17), .val (.int z24), .val (.int z28), .val (.int z35), .unset, .unset, .unset, .unset, .unset, .unset, .unset]) rfl ?_
      show Steps p.tables e below (s₁.setTop (mkF m 38 #[.val (.int p0), .val (.int p1), .val (.int p2), .val (.int p3), .val (.int (2 : Int32)), .val (.int z6), .val (.int z13), .val (.int z17), .val (.int z24), .val (.int z28), .val (.int z35), .unset, .unset, .unset, .unset, .unset, .unset, .unset] [])) _
      refine XS.iloadN X0.here hx rfl (hb hby at_38) rfl ?_
      show Steps p.tables e below (s₁.setTop (mkF m 39 #[.val (.int p0), .val (.int p1), .val (.int p2), .val (.int p3), .val (.int (2 : Int32)), .val (.int z6), .val (.int z13), .val (.int z17), .val (.int z24), .val (.int z28), .val (.int z35), .unset, .unset, .unset, .unset, .unset, .unset, .unset] [(.int p3)])) _
      refine XS.bipush X0.here hx rfl (hb hby at_39) ?_
      show Steps p.tables e below (s₁.setTop (mkF m 41 #[.val (.int p0), .val (.int p1), .val (.int p2), .val (.int p3), .val (.int (2 : Int32)), .val (.int z6), .val (.int z13), .val (.int z17), .val (.int z24), .val (.int z28), .val (.int z35), .unset, .unset, .unset, .unset, .unset, .unset, .unset] [(.int (16 : Int32)), (.int p3)])) _
      refine Jvm.OwnK.ishr X0.here hx rfl (hb hby at_41) rfl hz41 ?_
      show Steps p.tables e below (s₁.setTop (mkF m 42 #[.val (.int p0), .val (.int p1), .val (.int p2), .val (.int p3), .val (.int (2 : Int32)), .val (.int z6), .val (.int z13), .val (.int z17), .val (.int z24), .val (.int z28), .val (.int z35), .unset, .unset, .unset, .unset, .unset, .unset, .unset] [(.int z41)])) _
      refine Jvm.OwnK.i2s X0.here hx rfl (hb hby at_42) rfl hz42 ?_
      show Steps p.tables e below (s₁.setTop (mkF m 43 #[.val (.int p0), .val (.int p1), .val (.int p2), .val (.int p3), .val (.int (2 : Int32)), .val (.int z6), .val (.int z13), .val (.int z17), .val (.int z24), .val (.int z28), .val (.int z35), .unset, .unset, .unset, .unset, .unset, .unset, .unset] [(.int z42)])) _
      refine XS.istore X0.here hx rfl (hb hby at_43) rfl (l' := #[.val (.int p0), .val (.int p1), .val (.int p2), .val (.int p3), .val (.int (2 : Int32)), .val (.int z6), .val (.int z13), .val (.int z17), .val (.int z24), .val (.int z28), .val (.int z35), .val (.int z42), .unset, .unset, .unset, .unset, .unset, .unset]) rfl ?_
      show Steps p.tables e below (s₁.setTop (mkF m 45 #[.val (.int p0), .val (.int p1), .val (.int p2), .val (.int p3), .val (.int (2 : Int32)), .val (.int z6), .val (.int z13), .val (.int z17), .val (.int z24), .val (.int z28), .val (.int z35), .val (.int z42), .unset, .unset, .unset, .unset, .unset, .unset] [])) _
      refine XS.iload X0.here hx rfl (hb hby at_45) rfl ?_
      show Steps p.tables e below (s₁.setTop (mkF m 47 #[.val (.int p0), .val (.int p1), .val (.int p2), .val (.int p3), .val (.int (2 : Int32)), .val (.int z6), .val (.int z13), .val (.int z17), .val (.int z24), .val (.int z28), .val (.int z35), .val (.int z42), .unset, .unset, .unset, .unset, .unset, .unset] [(.int (2 : Int32))])) _
      refine XS.iconst X0.here hx rfl (hb hby at_47) ?_
      show Steps p.tables e below (s₁.setTop (mkF m 48 #[.val (.int p0), .val (.int p1), .val (.int p2), .val (.int p3), .val (.int (2 : Int32)), .val (.int z6), .val (.int z13), .val (.int z17), .val (.int z24), .val (.int z28), .val (.int z35), .val (.int z42), .unset, .unset, .unset, .unset, .unset, .unset] [(.int (3 : Int32)), (.int (2 : Int32))])) _
      refine XS.icmpYes X0.here hx rfl (pc0 := 48) (pc' := 51) rfl (hb hby at_48) rfl (Jvm.Free.XT.ii_ne_t (by decide)) (by decide) (by decide) ?_
      show Steps p.tables e below (s₁.setTop (mkF m 51 #[.val (.int p0), .val (.int p1), .val (.int p2), .val (.int p3), .val (.int (2 : Int32)), .val (.int z6), .val (.int z13), .val (.int z17), .val (.int z24), .val (.int z28), .val (.int z35), .val (.int z42), .unset, .unset, .unset, .unset, .unset, .unset] [])) _
      refine XS.iload X0.here hx rfl (hb hby at_51) rfl ?_
      show Steps p.tables e below (s₁.setTop (mkF m 53 #[.val (.int p0), .val (.int p1), .val (.int p2), .val (.int p3), .val (.int (2 : Int32)), .val (.int z6), .val (.int z13), .val (.int z17), .val (.int z24), .val (.int z28), .val (.int z35), .val (.int z42), .unset, .unset, .unset, .unset, .unset, .unset] [(.int (2 : Int32))])) _
      refine st31 _ ?_
      show Steps p.tables e below (T31.setTop (mkF m 55 #[.val (.int p0), .val (.int p1), .val (.int p2), .val (.int p3), .val (.int (2 : Int32)), .val (.int z6), .val (.int z13), .val (.int z17), .val (.int z24), .val (.int z28), .val (.int z35), .val (.int z42), .unset, .unset, .unset, .unset, .unset, .unset] [(.ref b31)])) _
      refine XS.astore X31.here hx rfl (hb hby at_55) rfl rfl (l' := #[.val (.int p0), .val (.int p1), .val (.int p2), .val (.int p3), .val (.int (2 : Int32)), .val (.int z6), .val (.int z13), .val (.int z17), .val (.int z24), .val (.int z28), .val (.int z35), .val (.int z42), .val (.ref b31), .unset, .unset, .unset, .unset, .unset]) rfl ?_
      show Steps p.tables e below (T31.setTop (mkF m 57 #[.val (.int p0), .val (.int p1), .val (.int p2), .val (.int p3), .val (.int (2 : Int32)), .val (.int z6), .val (.int z13), .val (.int z17), .val (.int z24), .val (.int z28), .val (.int z35), .val (.int z42), .val (.ref b31), .unset, .unset, .unset, .unset, .unset] [])) _
      refine XS.iload X31.here hx rfl (hb hby at_57) rfl ?_
      show Steps p.tables e below (T31.setTop (mkF m 59 #[.val (.int p0), .val (.int p1), .val (.int p2), .val (.int p3), .val (.int (2 : Int32)), .val (.int z6), .val (.int z13), .val (.int z17), .val (.int z24), .val (.int z28), .val (.int z35), .val (.int z42), .val (.ref b31), .unset, .unset, .unset, .unset, .unset] [(.int (2 : Int32))])) _
      refine XS.iconst X31.here hx rfl (hb hby at_59) ?_
      show Steps p.tables e below (T31.setTop (mkF m 60 #[.val (.int p0), .val (.int p1), .val (.int p2), .val (.int p3), .val (.int (2 : Int32)), .val (.int z6), .val (.int z13), .val (.int z17), .val (.int z24), .val (.int z28), .val (.int z35), .val (.int z42), .val (.ref b31), .unset, .unset, .unset, .unset, .unset] [(.int (1 : Int32)), (.int (2 : Int32))])) _
      refine Jvm.OwnK.iadd X31.here hx rfl (hb hby at_60) rfl (v := (3 : Int32)) (by decide) ?_
      show Steps p.tables e below (T31.setTop (mkF m 61 #[.val (.int p0), .val (.int p1), .val (.int p2), .val (.int p3), .val (.int (2 : Int32)), .val (.int z6), .val (.int z13), .val (.int z17), .val (.int z24), .val (.int z28), .val (.int z35), .val (.int z42), .val (.ref b31), .unset, .unset, .unset, .unset, .unset] [(.int (3 : Int32))])) _
      refine st33 _ ?_
      show Steps p.tables e below (T33.setTop (mkF m 63 #[.val (.int p0), .val (.int p1), .val (.int p2), .val (.int p3), .val (.int (2 : Int32)), .val (.int z6), .val (.int z13), .val (.int z17), .val (.int z24), .val (.int z28), .val (.int z35), .val (.int z42), .val (.ref b31), .unset, .unset, .unset, .unset, .unset] [(.ref b33)])) _
      refine XS.astore X33.here hx rfl (hb hby at_63) rfl rfl (l' := #[.val (.int p0), .val (.int p1), .val (.int p2), .val (.int p3), .val (.int (2 : Int32)), .val (.int z6), .val (.int z13), .val (.int z17), .val (.int z24), .val (.int z28), .val (.int z35), .val (.int z42), .val (.ref b31), .val (.ref b33), .unset, .unset, .unset, .unset]) rfl ?_
      show Steps p.tables e below (T33.setTop (mkF m 65 #[.val (.int p0), .val (.int p1), .val (.int p2), .val (.int p3), .val (.int (2 : Int32)), .val (.int z6), .val (.int z13), .val (.int z17), .val (.int z24), .val (.int z28), .val (.int z35), .val (.int z42), .val (.ref b31), .val (.ref b33), .unset, .unset, .unset, .unset] [])) _
      refine XS.lconst X33.here hx rfl (hb hby at_65) ?_
      show Steps p.tables e below (T33.setTop (mkF m 66 #[.val (.int p0), .val (.int p1), .val (.int p2), .val (.int p3), .val (.int (2 : Int32)), .val (.int z6), .val (.int z13), .val (.int z17), .val (.int z24), .val (.int z28), .val (.int z35), .val (.int z42), .val (.ref b31), .val (.ref b33), .unset, .unset, .unset, .unset] [(.long (0 : Int64))])) _
      refine XS.lstore X33.here hx rfl (hb hby at_66) rfl (l' := #[.val (.int p0), .val (.int p1), .val (.int p2), .val (.int p3), .val (.int (2 : Int32)), .val (.int z6), .val (.int z13), .val (.int z17), .val (.int z24), .val (.int z28), .val (.int z35), .val (.int z42), .val (.ref b31), .val (.ref b33), .val (.long (0 : Int64)), .second, .unset, .unset]) rfl ?_
      show Steps p.tables e below (T33.setTop (mkF m 68 #[.val (.int p0), .val (.int p1), .val (.int p2), .val (.int p3), .val (.int (2 : Int32)), .val (.int z6), .val (.int z13), .val (.int z17), .val (.int z24), .val (.int z28), .val (.int z35), .val (.int z42), .val (.ref b31), .val (.ref b33), .val (.long (0 : Int64)), .second, .unset, .unset] [])) _
      refine XS.iload X33.here hx rfl (hb hby at_68) rfl ?_
      show Steps p.tables e below (T33.setTop (mkF m 70 #[.val (.int p0), .val (.int p1), .val (.int p2), .val (.int p3), .val (.int (2 : Int32)), .val (.int z6), .val (.int z13), .val (.int z17), .val (.int z24), .val (.int z28), .val (.int z35), .val (.int z42), .val (.ref b31), .val (.ref b33), .val (.long (0 : Int64)), .second, .unset, .unset] [(.int (2 : Int32))])) _
      refine XS.ifNo X33.here hx rfl (hb hby at_70) rfl (Jvm.Free.XT.i0_le_f (by decide)) ?_
      show Steps p.tables e below (T33.setTop (mkF m 73 #[.val (.int p0), .val (.int p1), .val (.int p2), .val (.int p3), .val (.int (2 : Int32)), .val (.int z6), .val (.int z13), .val (.int z17), .val (.int z24), .val (.int z28), .val (.int z35), .val (.int z42), .val (.ref b31), .val (.ref b33), .val (.long (0 : Int64)), .second, .unset, .unset] [])) _
      refine XS.aload X33.here hx rfl (hb hby at_73) rfl rfl ?_
      show Steps p.tables e below (T33.setTop (mkF m 75 #[.val (.int p0), .val (.int p1), .val (.int p2), .val (.int p3), .val (.int (2 : Int32)), .val (.int z6), .val (.int z13), .val (.int z17), .val (.int z24), .val (.int z28), .val (.int z35), .val (.int z42), .val (.ref b31), .val (.ref b33), .val (.long (0 : Int64)), .second, .unset, .unset] [(.ref b33)])) _
      refine XS.iconst X33.here hx rfl (hb hby at_75) ?_
      show Steps p.tables e below (T33.setTop (mkF m 76 #[.val (.int p0), .val (.int p1), .val (.int p2), .val (.int p3), .val (.int (2 : Int32)), .val (.int z6), .val (.int z13), .val (.int z17), .val (.int z24), .val (.int z28), .val (.int z35), .val (.int z42), .val (.ref b31), .val (.ref b33), .val (.long (0 : Int64)), .second, .unset, .unset] [(.int (0 : Int32)), (.ref b33)])) _
      refine XS.iload X33.here hx rfl (hb hby at_76) rfl ?_
      show Steps p.tables e below (T33.setTop (mkF m 78 #[.val (.int p0), .val (.int p1), .val (.int p2), .val (.int p3), .val (.int (2 : Int32)), .val (.int z6), .val (.int z13), .val (.int z17), .val (.int z24), .val (.int z28), .val (.int z35), .val (.int z42), .val (.ref b31), .val (.ref b33), .val (.long (0 : Int64)), .second, .unset, .unset] [(.int z6), (.int (0 : Int32)), (.ref b33)])) _
      refine XS.i2dS X33.here hx rfl (hb hby at_78) rfl hz78 ?_
      show Steps p.tables e below (T33.setTop (mkF m 79 #[.val (.int p0), .val (.int p1), .val (.int p2), .val (.int p3), .val (.int (2 : Int32)), .val (.int z6), .val (.int z13), .val (.int z17), .val (.int z24), .val (.int z28), .val (.int z35), .val (.int z42), .val (.ref b31), .val (.ref b33), .val (.long (0 : Int64)), .second, .unset, .unset] [(.double z78), (.int (0 : Int32)), (.ref b33)])) _
      refine st36 _ ?_
      show Steps p.tables e below (T36.setTop (mkF m 80 #[.val (.int p0), .val (.int p1), .val (.int p2), .val (.int p3), .val (.int (2 : Int32)), .val (.int z6), .val (.int z13), .val (.int z17), .val (.int z24), .val (.int z28), .val (.int z35), .val (.int z42), .val (.ref b31), .val (.ref b33), .val (.long (0 : Int64)), .second, .unset, .unset] [])) _
      refine XS.aload X36.here hx rfl (hb hby at_80) rfl rfl ?_
      show Steps p.tables e below (T36.setTop (mkF m 82 #[.val (.int p0), .val (.int p1), .val (.int p2), .val (.int p3), .val (.int (2 : Int32)), .val (.int z6), .val (.int z13), .val (.int z17), .val (.int z24), .val (.int z28), .val (.int z35), .val (.int z42), .val (.ref b31), .val (.ref b33), .val (.long (0 : Int64)), .second, .unset, .unset] [(.ref b31)])) _
      refine XS.iconst X36.here hx rfl (hb hby at_82) ?_
      show Steps p.tables e below (T36.setTop (mkF m 83 #[.val (.int p0), .val (.int p1), .val (.int p2), .val (.int p3), .val (.int (2 : Int32)), .val (.int z6), .val (.int z13), .val (.int z17), .val (.int z24), .val (.int z28), .val (.int z35), .val (.int z42), .val (.ref b31), .val (.ref b33), .val (.long (0 : Int64)), .second, .unset, .unset] [(.int (0 : Int32)), (.ref b31)])) _
      refine XS.iload X36.here hx rfl (hb hby at_83) rfl ?_
      show Steps p.tables e below (T36.setTop (mkF m 85 #[.val (.int p0), .val (.int p1), .val (.int p2), .val (.int p3), .val (.int (2 : Int32)), .val (.int z6), .val (.int z13), .val (.int z17), .val (.int z24), .val (.int z28), .val (.int z35), .val (.int z42), .val (.ref b31), .val (.ref b33), .val (.long (0 : Int64)), .second, .unset, .unset] [(.int z13), (.int (0 : Int32)), (.ref b31)])) _
      refine XS.i2dS X36.here hx rfl (hb hby at_85) rfl hz85 ?_
      show Steps p.tables e below (T36.setTop (mkF m 86 #[.val (.int p0), .val (.int p1), .val (.int p2), .val (.int p3), .val (.int (2 : Int32)), .val (.int z6), .val (.int z13), .val (.int z17), .val (.int z24), .val (.int z28), .val (.int z35), .val (.int z42), .val (.ref b31), .val (.ref b33), .val (.long (0 : Int64)), .second, .unset, .unset] [(.double z85), (.int (0 : Int32)), (.ref b31)])) _
      refine st40 _ ?_
      show Steps p.tables e below (T40.setTop (mkF m 87 #[.val (.int p0), .val (.int p1), .val (.int p2), .val (.int p3), .val (.int (2 : Int32)), .val (.int z6), .val (.int z13), .val (.int z17), .val (.int z24), .val (.int z28), .val (.int z35), .val (.int z42), .val (.ref b31), .val (.ref b33), .val (.long (0 : Int64)), .second, .unset, .unset] [])) _
      refine XS.lload X40.here hx rfl (hb hby at_87) rfl ?_
      show Steps p.tables e below (T40.setTop (mkF m 89 #[.val (.int p0), .val (.int p1), .val (.int p2), .val (.int p3), .val (.int (2 : Int32)), .val (.int z6), .val (.int z13), .val (.int z17), .val (.int z24), .val (.int z28), .val (.int z35), .val (.int z42), .val (.ref b31), .val (.ref b33), .val (.long (0 : Int64)), .second, .unset, .unset] [(.long (0 : Int64))])) _
      refine XS.iload X40.here hx rfl (hb hby at_89) rfl ?_
      show Steps p.tables e below (T40.setTop (mkF m 91 #[.val (.int p0), .val (.int p1), .val (.int p2), .val (.int p3), .val (.int (2 : Int32)), .val (.int z6), .val (.int z13), .val (.int z17), .val (.int z24), .val (.int z28), .val (.int z35), .val (.int z42), .val (.ref b31), .val (.ref b33), .val (.long (0 : Int64)), .second, .unset, .unset] [(.int z6), (.long (0 : Int64))])) _
      refine Jvm.OwnK.i2l X40.here hx rfl (hb hby at_91) rfl hz91 ?_
      show Steps p.tables e below (T40.setTop (mkF m 92 #[.val (.int p0), .val (.int p1), .val (.int p2), .val (.int p3), .val (.int (2 : Int32)), .val (.int z6), .val (.int z13), .val (.int z17), .val (.int z24), .val (.int z28), .val (.int z35), .val (.int z42), .val (.ref b31), .val (.ref b33), .val (.long (0 : Int64)), .second, .unset, .unset] [(.long z91), (.long (0 : Int64))])) _
      refine XS.iload X40.here hx rfl (hb hby at_92) rfl ?_
      show Steps p.tables e below (T40.setTop (mkF m 94 #[.val (.int p0), .val (.int p1), .val (.int p2), .val (.int p3), .val (.int (2 : Int32)), .val (.int z6), .val (.int z13), .val (.int z17), .val (.int z24), .val (.int z28), .val (.int z35), .val (.int z42), .val (.ref b31), .val (.ref b33), .val (.long (0 : Int64)), .second, .unset, .unset] [(.int z13), (.long z91), (.long (0 : Int64))])) _
      refine Jvm.OwnK.i2l X40.here hx rfl (hb hby at_94) rfl hz94 ?_
      show Steps p.tables e below (T40.setTop (mkF m 95 #[.val (.int p0), .val (.int p1), .val (.int p2), .val (.int p3), .val (.int (2 : Int32)), .val (.int z6), .val (.int z13), .val (.int z17), .val (.int z24), .val (.int z28), .val (.int z35), .val (.int z42), .val (.ref b31), .val (.ref b33), .val (.long (0 : Int64)), .second, .unset, .unset] [(.long z94), (.long z91), (.long (0 : Int64))])) _
      refine Jvm.OwnK.lmul X40.here hx rfl (hb hby at_95) rfl hz95 ?_
      show Steps p.tables e below (T40.setTop (mkF m 96 #[.val (.int p0), .val (.int p1), .val (.int p2), .val (.int p3), .val (.int (2 : Int32)), .val (.int z6), .val (.int z13), .val (.int z17), .val (.int z24), .val (.int z28), .val (.int z35), .val (.int z42), .val (.ref b31), .val (.ref b33), .val (.long (0 : Int64)), .second, .unset, .unset] [(.long z95), (.long (0 : Int64))])) _
      refine Jvm.OwnK.ladd X40.here hx rfl (hb hby at_96) rfl hz96 ?_
      show Steps p.tables e below (T40.setTop (mkF m 97 #[.val (.int p0), .val (.int p1), .val (.int p2), .val (.int p3), .val (.int (2 : Int32)), .val (.int z6), .val (.int z13), .val (.int z17), .val (.int z24), .val (.int z28), .val (.int z35), .val (.int z42), .val (.ref b31), .val (.ref b33), .val (.long (0 : Int64)), .second, .unset, .unset] [(.long z96)])) _
      refine XS.lstore X40.here hx rfl (hb hby at_97) rfl (l' := #[.val (.int p0), .val (.int p1), .val (.int p2), .val (.int p3), .val (.int (2 : Int32)), .val (.int z6), .val (.int z13), .val (.int z17), .val (.int z24), .val (.int z28), .val (.int z35), .val (.int z42), .val (.ref b31), .val (.ref b33), .val (.long z96), .second, .unset, .unset]) rfl ?_
      show Steps p.tables e below (T40.setTop (mkF m 99 #[.val (.int p0), .val (.int p1), .val (.int p2), .val (.int p3), .val (.int (2 : Int32)), .val (.int z6), .val (.int z13), .val (.int z17), .val (.int z24), .val (.int z28), .val (.int z35), .val (.int z42), .val (.ref b31), .val (.ref b33), .val (.long z96), .second, .unset, .unset] [])) _
      refine XS.iload X40.here hx rfl (hb hby at_99) rfl ?_
      show Steps p.tables e below (T40.setTop (mkF m 101 #[.val (.int p0), .val (.int p1), .val (.int p2), .val (.int p3), .val (.int (2 : Int32)), .val (.int z6), .val (.int z13), .val (.int z17), .val (.int z24), .val (.int z28), .val (.int z35), .val (.int z42), .val (.ref b31), .val (.ref b33), .val (.long z96), .second, .unset, .unset] [(.int (2 : Int32))])) _
      refine XS.iconst X40.here hx rfl (hb hby at_101) ?_
      show Steps p.tables e below (T40.setTop (mkF m 102 #[.val (.int p0), .val (.int p1), .val (.int p2), .val (.int p3), .val (.int (2 : Int32)), .val (.int z6), .val (.int z13), .val (.int z17), .val (.int z24), .val (.int z28), .val (.int z35), .val (.int z42), .val (.ref b31), .val (.ref b33), .val (.long z96), .second, .unset, .unset] [(.int (1 : Int32)), (.int (2 : Int32))])) _
      refine XS.icmpNo X40.here hx rfl (hb hby at_102) rfl (Jvm.Free.XT.ii_le_f (by decide)) ?_
      show Steps p.tables e below (T40.setTop (mkF m 105 #[.val (.int p0), .val (.int p1), .val (.int p2), .val (.int p3), .val (.int (2 : Int32)), .val (.int z6), .val (.int z13), .val (.int z17), .val (.int z24), .val (.int z28), .val (.int z35), .val (.int z42), .val (.ref b31), .val (.ref b33), .val (.long z96), .second, .unset, .unset] [])) _
      refine XS.aload X40.here hx rfl (hb hby at_105) rfl rfl ?_
      show Steps p.tables e below (T40.setTop (mkF m 107 #[.val (.int p0), .val (.int p1), .val (.int p2), .val (.int p3), .val (.int (2 : Int32)), .val (.int z6), .val (.int z13), .val (.int z17), .val (.int z24), .val (.int z28), .val (.int z35), .val (.int z42), .val (.ref b31), .val (.ref b33), .val (.long z96), .second, .unset, .unset] [(.ref b33)])) _
      refine XS.iconst X40.here hx rfl (hb hby at_107) ?_
      show Steps p.tables e below (T40.setTop (mkF m 108 #[.val (.int p0), .val (.int p1), .val (.int p2), .val (.int p3), .val (.int (2 : Int32)), .val (.int z6), .val (.int z13), .val (.int z17), .val (.int z24), .val (.int z28), .val (.int z35), .val (.int z42), .val (.ref b31), .val (.ref b33), .val (.long z96), .second, .unset, .unset] [(.int (1 : Int32)), (.ref b33)])) _
      refine XS.iload X40.here hx rfl (hb hby at_108) rfl ?_
      show Steps p.tables e below (T40.setTop (mkF m 110 #[.val (.int p0), .val (.int p1), .val (.int p2), .val (.int p3), .val (.int (2 : Int32)), .val (.int z6), .val (.int z13), .val (.int z17), .val (.int z24), .val (.int z28), .val (.int z35), .val (.int z42), .val (.ref b31), .val (.ref b33), .val (.long z96), .second, .unset, .unset] [(.int z17), (.int (1 : Int32)), (.ref b33)])) _
      refine XS.i2dS X40.here hx rfl (hb hby at_110) rfl hz110 ?_
      show Steps p.tables e below (T40.setTop (mkF m 111 #[.val (.int p0), .val (.int p1), .val (.int p2), .val (.int p3), .val (.int (2 : Int32)), .val (.int z6), .val (.int z13), .val (.int z17), .val (.int z24), .val (.int z28), .val (.int z35), .val (.int z42), .val (.ref b31), .val (.ref b33), .val (.long z96), .second, .unset, .unset] [(.double z110), (.int (1 : Int32)), (.ref b33)])) _
      refine st44 _ ?_
      show Steps p.tables e below (T44.setTop (mkF m 112 #[.val (.int p0), .val (.int p1), .val (.int p2), .val (.int p3), .val (.int (2 : Int32)), .val (.int z6), .val (.int z13), .val (.int z17), .val (.int z24), .val (.int z28), .val (.int z35), .val (.int z42), .val (.ref b31), .val (.ref b33), .val (.long z96), .second, .unset, .unset] [])) _
      refine XS.aload X44.here hx rfl (hb hby at_112) rfl rfl ?_
      show Steps p.tables e below (T44.setTop (mkF m 114 #[.val (.int p0), .val (.int p1), .val (.int p2), .val (.int p3), .val (.int (2 : Int32)), .val (.int z6), .val (.int z13), .val (.int z17), .val (.int z24), .val (.int z28), .val (.int z35), .val (.int z42), .val (.ref b31), .val (.ref b33), .val (.long z96), .second, .unset, .unset] [(.ref b31)])) _
      refine XS.iconst X44.here hx rfl (hb hby at_114) ?_
      show Steps p.tables e below (T44.setTop (mkF m 115 #[.val (.int p0), .val (.int p1), .val (.int p2), .val (.int p3), .val (.int (2 : Int32)), .val (.int z6), .val (.int z13), .val (.int z17), .val (.int z24), .val (.int z28), .val (.int z35), .val (.int z42), .val (.ref b31), .val (.ref b33), .val (.long z96), .second, .unset, .unset] [(.int (1 : Int32)), (.ref b31)])) _
      refine XS.iload X44.here hx rfl (hb hby at_115) rfl ?_
      show Steps p.tables e below (T44.setTop (mkF m 117 #[.val (.int p0), .val (.int p1), .val (.int p2), .val (.int p3), .val (.int (2 : Int32)), .val (.int z6), .val (.int z13), .val (.int z17), .val (.int z24), .val (.int z28), .val (.int z35), .val (.int z42), .val (.ref b31), .val (.ref b33), .val (.long z96), .second, .unset, .unset] [(.int z24), (.int (1 : Int32)), (.ref b31)])) _
      refine XS.i2dS X44.here hx rfl (hb hby at_117) rfl hz117 ?_
      show Steps p.tables e below (T44.setTop (mkF m 118 #[.val (.int p0), .val (.int p1), .val (.int p2), .val (.int p3), .val (.int (2 : Int32)), .val (.int z6), .val (.int z13), .val (.int z17), .val (.int z24), .val (.int z28), .val (.int z35), .val (.int z42), .val (.ref b31), .val (.ref b33), .val (.long z96), .second, .unset, .unset] [(.double z117), (.int (1 : Int32)), (.ref b31)])) _
      refine st48 _ ?_
      show Steps p.tables e below (T48.setTop (mkF m 119 #[.val (.int p0), .val (.int p1), .val (.int p2), .val (.int p3), .val (.int (2 : Int32)), .val (.int z6), .val (.int z13), .val (.int z17), .val (.int z24), .val (.int z28), .val (.int z35), .val (.int z42), .val (.ref b31), .val (.ref b33), .val (.long z96), .second, .unset, .unset] [])) _
      refine XS.lload X48.here hx rfl (hb hby at_119) rfl ?_
      show Steps p.tables e below (T48.setTop (mkF m 121 #[.val (.int p0), .val (.int p1), .val (.int p2), .val (.int p3), .val (.int (2 : Int32)), .val (.int z6), .val (.int z13), .val (.int z17), .val (.int z24), .val (.int z28), .val (.int z35), .val (.int z42), .val (.ref b31), .val (.ref b33), .val (.long z96), .second, .unset, .unset] [(.long z96)])) _
      refine XS.iload X48.here hx rfl (hb hby at_121) rfl ?_
      show Steps p.tables e below (T48.setTop (mkF m 123 #[.val (.int p0), .val (.int p1), .val (.int p2), .val (.int p3), .val (.int (2 : Int32)), .val (.int z6), .val (.int z13), .val (.int z17), .val (.int z24), .val (.int z28), .val (.int z35), .val (.int z42), .val (.ref b31), .val (.ref b33), .val (.long z96), .second, .unset, .unset] [(.int z17), (.long z96)])) _
      refine Jvm.OwnK.i2l X48.here hx rfl (hb hby at_123) rfl hz123 ?_
      show Steps p.tables e below (T48.setTop (mkF m 124 #[.val (.int p0), .val (.int p1), .val (.int p2), .val (.int p3), .val (.int (2 : Int32)), .val (.int z6), .val (.int z13), .val (.int z17), .val (.int z24), .val (.int z28), .val (.int z35), .val (.int z42), .val (.ref b31), .val (.ref b33), .val (.long z96), .second, .unset, .unset] [(.long z123), (.long z96)])) _
      refine XS.iload X48.here hx rfl (hb hby at_124) rfl ?_
      show Steps p.tables e below (T48.setTop (mkF m 126 #[.val (.int p0), .val (.int p1), .val (.int p2), .val (.int p3), .val (.int (2 : Int32)), .val (.int z6), .val (.int z13), .val (.int z17), .val (.int z24), .val (.int z28), .val (.int z35), .val (.int z42), .val (.ref b31), .val (.ref b33), .val (.long z96), .second, .unset, .unset] [(.int z24), (.long z123), (.long z96)])) _
      refine Jvm.OwnK.i2l X48.here hx rfl (hb hby at_126) rfl hz126 ?_
      show Steps p.tables e below (T48.setTop (mkF m 127 #[.val (.int p0), .val (.int p1), .val (.int p2), .val (.int p3), .val (.int (2 : Int32)), .val (.int z6), .val (.int z13), .val (.int z17), .val (.int z24), .val (.int z28), .val (.int z35), .val (.int z42), .val (.ref b31), .val (.ref b33), .val (.long z96), .second, .unset, .unset] [(.long z126), (.long z123), (.long z96)])) _
      refine Jvm.OwnK.lmul X48.here hx rfl (hb hby at_127) rfl hz127 ?_
      show Steps p.tables e below (T48.setTop (mkF m 128 #[.val (.int p0), .val (.int p1), .val (.int p2), .val (.int p3), .val (.int (2 : Int32)), .val (.int z6), .val (.int z13), .val (.int z17), .val (.int z24), .val (.int z28), .val (.int z35), .val (.int z42), .val (.ref b31), .val (.ref b33), .val (.long z96), .second, .unset, .unset] [(.long z127), (.long z96)])) _
      refine Jvm.OwnK.ladd X48.here hx rfl (hb hby at_128) rfl hz128 ?_
      show Steps p.tables e below (T48.setTop (mkF m 129 #[.val (.int p0), .val (.int p1), .val (.int p2), .val (.int p3), .val (.int (2 : Int32)), .val (.int z6), .val (.int z13), .val (.int z17), .val (.int z24), .val (.int z28), .val (.int z35), .val (.int z42), .val (.ref b31), .val (.ref b33), .val (.long z96), .second, .unset, .unset] [(.long z128)])) _
      refine XS.lstore X48.here hx rfl (hb hby at_129) rfl (l' := #[.val (.int p0), .val (.int p1), .val (.int p2), .val (.int p3), .val (.int (2 : Int32)), .val (.int z6), .val (.int z13), .val (.int z17), .val (.int z24), .val (.int z28), .val (.int z35), .val (.int z42), .val (.ref b31), .val (.ref b33), .val (.long z128), .second, .unset, .unset]) rfl ?_
      show Steps p.tables e below (T48.setTop (mkF m 131 #[.val (.int p0), .val (.int p1), .val (.int p2), .val (.int p3), .val (.int (2 : Int32)), .val (.int z6), .val (.int z13), .val (.int z17), .val (.int z24), .val (.int z28), .val (.int z35), .val (.int z42), .val (.ref b31), .val (.ref b33), .val (.long z128), .second, .unset, .unset] [])) _
      refine XS.iload X48.here hx rfl (hb hby at_131) rfl ?_
      show Steps p.tables e below (T48.setTop (mkF m 133 #[.val (.int p0), .val (.int p1), .val (.int p2), .val (.int p3), .val (.int (2 : Int32)), .val (.int z6), .val (.int z13), .val (.int z17), .val (.int z24), .val (.int z28), .val (.int z35), .val (.int z42), .val (.ref b31), .val (.ref b33), .val (.long z128), .second, .unset, .unset] [(.int (2 : Int32))])) _
      refine XS.iconst X48.here hx rfl (hb hby at_133) ?_
      show Steps p.tables e below (T48.setTop (mkF m 134 #[.val (.int p0), .val (.int p1), .val (.int p2), .val (.int p3), .val (.int (2 : Int32)), .val (.int z6), .val (.int z13), .val (.int z17), .val (.int z24), .val (.int z28), .val (.int z35), .val (.int z42), .val (.ref b31), .val (.ref b33), .val (.long z128), .second, .unset, .unset] [(.int (2 : Int32)), (.int (2 : Int32))])) _
      refine XS.icmpYes X48.here hx rfl (pc0 := 134) (pc' := 163) rfl (hb hby at_134) rfl (Jvm.Free.XT.ii_le_t (by decide)) (by decide) (by decide) ?_
      show Steps p.tables e below (T48.setTop (mkF m 163 #[.val (.int p0), .val (.int p1), .val (.int p2), .val (.int p3), .val (.int (2 : Int32)), .val (.int z6), .val (.int z13), .val (.int z17), .val (.int z24), .val (.int z28), .val (.int z35), .val (.int z42), .val (.ref b31), .val (.ref b33), .val (.long z128), .second, .unset, .unset] [])) _
      refine XS.aload X48.here hx rfl (hb hby at_163) rfl rfl ?_
      show Steps p.tables e below (T48.setTop (mkF m 165 #[.val (.int p0), .val (.int p1), .val (.int p2), .val (.int p3), .val (.int (2 : Int32)), .val (.int z6), .val (.int z13), .val (.int z17), .val (.int z24), .val (.int z28), .val (.int z35), .val (.int z42), .val (.ref b31), .val (.ref b33), .val (.long z128), .second, .unset, .unset] [(.ref b33)])) _
      refine XS.iload X48.here hx rfl (hb hby at_165) rfl ?_
      show Steps p.tables e below (T48.setTop (mkF m 167 #[.val (.int p0), .val (.int p1), .val (.int p2), .val (.int p3), .val (.int (2 : Int32)), .val (.int z6), .val (.int z13), .val (.int z17), .val (.int z24), .val (.int z28), .val (.int z35), .val (.int z42), .val (.ref b31), .val (.ref b33), .val (.long z128), .second, .unset, .unset] [(.int (2 : Int32)), (.ref b33)])) _
      refine XS.iload X48.here hx rfl (hb hby at_167) rfl ?_
      show Steps p.tables e below (T48.setTop (mkF m 169 #[.val (.int p0), .val (.int p1), .val (.int p2), .val (.int p3), .val (.int (2 : Int32)), .val (.int z6), .val (.int z13), .val (.int z17), .val (.int z24), .val (.int z28), .val (.int z35), .val (.int z42), .val (.ref b31), .val (.ref b33), .val (.long z128), .second, .unset, .unset] [(.int z42), (.int (2 : Int32)), (.ref b33)])) _
      refine XS.i2dS X48.here hx rfl (hb hby at_169) rfl hz169 ?_
      show Steps p.tables e below (T48.setTop (mkF m 170 #[.val (.int p0), .val (.int p1), .val (.int p2), .val (.int p3), .val (.int (2 : Int32)), .val (.int z6), .val (.int z13), .val (.int z17), .val (.int z24), .val (.int z28), .val (.int z35), .val (.int z42), .val (.ref b31), .val (.ref b33), .val (.long z128), .second, .unset, .unset] [(.double z169), (.int (2 : Int32)), (.ref b33)])) _
      refine st52 _ ?_
      show Steps p.tables e below (T52.setTop (mkF m 171 #[.val (.int p0), .val (.int p1), .val (.int p2), .val (.int p3), .val (.int (2 : Int32)), .val (.int z6), .val (.int z13), .val (.int z17), .val (.int z24), .val (.int z28), .val (.int z35), .val (.int z42), .val (.ref b31), .val (.ref b33), .val (.long z128), .second, .unset, .unset] [])) _
      refine XS.aload X52.here hx rfl (hb hby at_171) rfl rfl ?_
      show Steps p.tables e below (T52.setTop (mkF m 173 #[.val (.int p0), .val (.int p1), .val (.int p2), .val (.int p3), .val (.int (2 : Int32)), .val (.int z6), .val (.int z13), .val (.int z17), .val (.int z24), .val (.int z28), .val (.int z35), .val (.int z42), .val (.ref b31), .val (.ref b33), .val (.long z128), .second, .unset, .unset] [(.ref b33)])) _
      refine XS.aload X52.here hx rfl (hb hby at_173) rfl rfl ?_
      show Steps p.tables e below (T52.setTop (mkF m 175 #[.val (.int p0), .val (.int p1), .val (.int p2), .val (.int p3), .val (.int (2 : Int32)), .val (.int z6), .val (.int z13), .val (.int z17), .val (.int z24), .val (.int z28), .val (.int z35), .val (.int z42), .val (.ref b31), .val (.ref b33), .val (.long z128), .second, .unset, .unset] [(.ref b31), (.ref b33)])) _
      refine st55 _ ?_
      show Steps p.tables e below (T55.setTop (mkF m 178 #[.val (.int p0), .val (.int p1), .val (.int p2), .val (.int p3), .val (.int (2 : Int32)), .val (.int z6), .val (.int z13), .val (.int z17), .val (.int z24), .val (.int z28), .val (.int z35), .val (.int z42), .val (.ref b31), .val (.ref b33), .val (.long z128), .second, .unset, .unset] [(.double c175_z22_2)])) _
      refine XS.dstore X55.here hx rfl (hb hby at_178) rfl (l' := #[.val (.int p0), .val (.int p1), .val (.int p2), .val (.int p3), .val (.int (2 : Int32)), .val (.int z6), .val (.int z13), .val (.int z17), .val (.int z24), .val (.int z28), .val (.int z35), .val (.int z42), .val (.ref b31), .val (.ref b33), .val (.long z128), .second, .val (.double c175_z22_2), .second]) rfl ?_
      show Steps p.tables e below (T55.setTop (mkF m 180 #[.val (.int p0), .val (.int p1), .val (.int p2), .val (.int p3), .val (.int (2 : Int32)), .val (.int z6), .val (.int z13), .val (.int z17), .val (.int z24), .val (.int z28), .val (.int z35), .val (.int z42), .val (.ref b31), .val (.ref b33), .val (.long z128), .second, .val (.double c175_z22_2), .second] [])) _
      refine XS.dload X55.here hx rfl (hb hby at_180) rfl ?_
      show Steps p.tables e below (T55.setTop (mkF m 182 #[.val (.int p0), .val (.int p1), .val (.int p2), .val (.int p3), .val (.int (2 : Int32)), .val (.int z6), .val (.int z13), .val (.int z17), .val (.int z24), .val (.int z28), .val (.int z35), .val (.int z42), .val (.ref b31), .val (.ref b33), .val (.long z128), .second, .val (.double c175_z22_2), .second] [(.double c175_z22_2)])) _
      refine XS.lload X55.here hx rfl (hb hby at_182) rfl ?_
      show Steps p.tables e below (T55.setTop (mkF m 184 #[.val (.int p0), .val (.int p1), .val (.int p2), .val (.int p3), .val (.int (2 : Int32)), .val (.int z6), .val (.int z13), .val (.int z17), .val (.int z24), .val (.int z28), .val (.int z35), .val (.int z42), .val (.ref b31), .val (.ref b33), .val (.long z128), .second, .val (.double c175_z22_2), .second] [(.long z128), (.double c175_z22_2)])) _
      refine XS.l2dS X55.here hx rfl (hb hby at_184) rfl hz184 ?_
      show Steps p.tables e below (T55.setTop (mkF m 185 #[.val (.int p0), .val (.int p1), .val (.int p2), .val (.int p3), .val (.int (2 : Int32)), .val (.int z6), .val (.int z13), .val (.int z17), .val (.int z24), .val (.int z28), .val (.int z35), .val (.int z42), .val (.ref b31), .val (.ref b33), .val (.long z128), .second, .val (.double c175_z22_2), .second] [(.double z184), (.double c175_z22_2)])) _
      refine XS.dcmpS X55.here hx rfl (hb hby at_185) rfl hz185 ?_
      show Steps p.tables e below (T55.setTop (mkF m 186 #[.val (.int p0), .val (.int p1), .val (.int p2), .val (.int p3), .val (.int (2 : Int32)), .val (.int z6), .val (.int z13), .val (.int z17), .val (.int z24), .val (.int z28), .val (.int z35), .val (.int z42), .val (.ref b31), .val (.ref b33), .val (.long z128), .second, .val (.double c175_z22_2), .second] [(.int z185)])) _
      refine XS.ifNo X55.here hx rfl (hb hby at_186) rfl (Jvm.Free.XT.i0_ne_f br186) ?_
      show Steps p.tables e below (T55.setTop (mkF m 189 #[.val (.int p0), .val (.int p1), .val (.int p2), .val (.int p3), .val (.int (2 : Int32)), .val (.int z6), .val (.int z13), .val (.int z17), .val (.int z24), .val (.int z28), .val (.int z35), .val (.int z42), .val (.ref b31), .val (.ref b33), .val (.long z128), .second, .val (.double c175_z22_2), .second] [])) _
      refine XS.iconst X55.here hx rfl (hb hby at_189) ?_
      show Steps p.tables e below (T55.setTop (mkF m 190 #[.val (.int p0), .val (.int p1), .val (.int p2), .val (.int p3), .val (.int (2 : Int32)), .val (.int z6), .val (.int z13), .val (.int z17), .val (.int z24), .val (.int z28), .val (.int z35), .val (.int z42), .val (.ref b31), .val (.ref b33), .val (.long z128), .second, .val (.double c175_z22_2), .second] [(.int (1 : Int32))])) _
      refine XS.goto X55.here hx rfl (pc0 := 190) (pc' := 194) rfl (hb hby at_190) (by decide) (by decide) ?_
      exact k
    obtain ⟨fs, hr, hrun, hended, hW, hsame⟩ := X55.leave (v := some (.int (1 : Int32))) (fun h => by rw [Bd.returns] at h; cases h)
    refine ⟨_, _, c56 _ ?_, hrun, hended, _, _, rfl, ?_, ⟨_, rfl⟩, hW, hsame.mono (by decide) (by decide)⟩
    · show Steps p.tables e below (T55.setTop (mkF m 194 #[.val (.int p0), .val (.int p1), .val (.int p2), .val (.int p3), .val (.int (2 : Int32)), .val (.int z6), .val (.int z13), .val (.int z17), .val (.int z24), .val (.int z28), .val (.int z35), .val (.int z42), .val (.ref b31), .val (.ref b33), .val (.long z128), .second, .val (.double c175_z22_2), .second] [(.int (1 : Int32))])) _
      exact retOut X55 hx Bd.returns rfl (Or.inl ⟨rfl, by simp, _, rfl⟩) (hb hby at_194) hr
    · show Q0 n0 _ T55.heap _
      rw [e55]
      exact ⟨rfl, by first | assumption | exact N0⟩
  · obtain rfl := q2
    obtain ⟨z6, hz6⟩ : ∃ z : Int32, p0.toInt16.toInt32 = z := ⟨_, rfl⟩
    obtain ⟨z12, hz12⟩ : ∃ z : Int32, p0 >>> ((16 : Int32) &&& 31) = z := ⟨_, rfl⟩
    obtain ⟨z13, hz13⟩ : ∃ z : Int32, z12.toInt16.toInt32 = z := ⟨_, rfl⟩
    obtain ⟨z17, hz17⟩ : ∃ z : Int32, p1.toInt16.toInt32 = z := ⟨_, rfl⟩
    obtain ⟨z23, hz23⟩ : ∃ z : Int32, p1 >>> ((16 : Int32) &&& 31) = z := ⟨_, rfl⟩
    obtain ⟨z24, hz24⟩ : ∃ z : Int32, z23.toInt16.toInt32 = z := ⟨_, rfl⟩
    obtain ⟨z28, hz28⟩ : ∃ z : Int32, p2.toInt16.toInt32 = z := ⟨_, rfl⟩
    obtain ⟨z34, hz34⟩ : ∃ z : Int32, p2 >>> ((16 : Int32) &&& 31) = z := ⟨_, rfl⟩
    obtain ⟨z35, hz35⟩ : ∃ z : Int32, z34.toInt16.toInt32 = z := ⟨_, rfl⟩
    obtain ⟨z41, hz41⟩ : ∃ z : Int32, p3 >>> ((16 : Int32) &&& 31) = z := ⟨_, rfl⟩
    obtain ⟨z42, hz42⟩ : ∃ z : Int32, z41.toInt16.toInt32 = z := ⟨_, rfl⟩
    obtain ⟨z78, hz78⟩ : ∃ z : UInt64, FP.i2d z6 = z := ⟨_, rfl⟩
    obtain ⟨z85, hz85⟩ : ∃ z : UInt64, FP.i2d z13 = z := ⟨_, rfl⟩
    obtain ⟨z91, hz91⟩ : ∃ z : Int64, z6.toInt64 = z := ⟨_, rfl⟩
    obtain ⟨z94, hz94⟩ : ∃ z : Int64, z13.toInt64 = z := ⟨_, rfl⟩
    obtain ⟨z95, hz95⟩ : ∃ z : Int64, z91 * z94 = z := ⟨_, rfl⟩
    obtain ⟨z96, hz96⟩ : ∃ z : Int64, (0 : Int64) + z95 = z := ⟨_, rfl⟩
    obtain ⟨z110, hz110⟩ : ∃ z : UInt64, FP.i2d z17 = z := ⟨_, rfl⟩
    obtain ⟨z117, hz117⟩ : ∃ z : UInt64, FP.i2d z24 = z := ⟨_, rfl⟩
    obtain ⟨z123, hz123⟩ : ∃ z : Int64, z17.toInt64 = z := ⟨_, rfl⟩
    obtain ⟨z126, hz126⟩ : ∃ z : Int64, z24.toInt64 = z := ⟨_, rfl⟩
    obtain ⟨z127, hz127⟩ : ∃ z : Int64, z123 * z126 = z := ⟨_, rfl⟩
    obtain ⟨z128, hz128⟩ : ∃ z : Int64, z96 + z127 = z := ⟨_, rfl⟩
    obtain ⟨z142, hz142⟩ : ∃ z : UInt64, FP.i2d z28 = z := ⟨_, rfl⟩
    obtain ⟨z149, hz149⟩ : ∃ z : UInt64, FP.i2d z35 = z := ⟨_, rfl⟩
    obtain ⟨z155, hz155⟩ : ∃ z : Int64, z28.toInt64 = z := ⟨_, rfl⟩
    obtain ⟨z158, hz158⟩ : ∃ z : Int64, z35.toInt64 = z := ⟨_, rfl⟩
    obtain ⟨z159, hz159⟩ : ∃ z : Int64, z155 * z158 = z := ⟨_, rfl⟩
    obtain ⟨z160, hz160⟩ : ∃ z : Int64, z128 + z159 = z := ⟨_, rfl⟩
    obtain ⟨z169, hz169⟩ : ∃ z : UInt64, FP.i2d z42 = z := ⟨_, rfl⟩
    obtain ⟨c175_z21, hc175_z21⟩ : ∃ z : UInt64, FP.dmul z78 z85 = z := ⟨_, rfl⟩
    obtain ⟨c175_z22, hc175_z22⟩ : ∃ z : UInt64, FP.dadd FP.dconst0 c175_z21 = z := ⟨_, rfl⟩
    obtain ⟨c175_z21_2, hc175_z21_2⟩ : ∃ z : UInt64, FP.dmul z110 z117 = z := ⟨_, rfl⟩
    obtain ⟨c175_z22_2, hc175_z22_2⟩ : ∃ z : UInt64, FP.dadd c175_z22 c175_z21_2 = z := ⟨_, rfl⟩
    obtain ⟨c175_z21_3, hc175_z21_3⟩ : ∃ z : UInt64, FP.dmul z142 z149 = z := ⟨_, rfl⟩
    obtain ⟨c175_z22_3, hc175_z22_3⟩ : ∃ z : UInt64, FP.dadd c175_z22_2 c175_z21_3 = z := ⟨_, rfl⟩
    obtain ⟨z184, hz184⟩ : ∃ z : UInt64, FP.l2d z160 = z := ⟨_, rfl⟩
    obtain ⟨z185, hz185⟩ : ∃ z : Int32, cmpValue (FP.dcmp c175_z22_3 z184) .l = z := ⟨_, rfl⟩
    obtain ⟨T57, h57, k57, X57, e57, E57, A57, st57⟩ := newP X0 hx hZ (hw _ (List.mem_of_getElem? (i := 0) rfl)) e0 (g := (mkF m 53 #[.val (.int p0), .val (.int p1), .val (.int p2), .val (.int p3), .val (.int (3 : Int32)), .val (.int z6), .val (.int z13), .val (.int z17), .val (.int z24), .val (.int z28), .val (.int z35), .val (.int z42), .unset, .unset, .unset, .unset, .unset, .unset] [(.int (3 : Int32))])) rfl (hb hby at_53) rfl (by decide) (cap := 3) (by decide) (by decide) (by decide) (by decide)
    obtain ⟨b57, g57⟩ : ∃ z, z = h0.size := ⟨_, rfl⟩
    rw [← g57] at A57 st57
    have gn57 : n0 ≤ b57 := Nat.le_trans Z0 (Nat.le_of_eq g57.symm)
    have gz57 : h0.size ≤ b57 := Nat.le_trans ((Keep.refl h0 [])).1 (Nat.le_of_eq g57.symm)
    have K58 : Keep h0 h57 [] := (Keep.refl h0 []).ext E57
    have V57 : Arv Z h57 b57 k57 .double (3 : Int32) [(.double (0 : UInt64)), (.double (0 : UInt64)), (.double (0 : UInt64))] (.double (0 : UInt64)) := (Arv.new A57 (by decide)).pad (pad_rep [] (.double (0 : UInt64)) 3)
    obtain ⟨T59, h59, k59, X59, e59, E59, A59, st59⟩ := newP X57 hx hZ (hw _ (List.mem_of_getElem? (i := 0) rfl)) e57 (g := (mkF m 61 #[.val (.int p0), .val (.int p1), .val (.int p2), .val (.int p3), .val (.int (3 : Int32)), .val (.int z6), .val (.int z13), .val (.int z17), .val (.int z24), .val (.int z28), .val (.int z35), .val (.int z42), .val (.ref b57), .unset, .unset, .unset, .unset, .unset] [(.int (4 : Int32))])) rfl (hb hby at_61) rfl (by decide) (cap := 4) (by decide) (by decide) (by decide) (by decide)
    obtain ⟨b59, g59⟩ : ∃ z, z = h57.size := ⟨_, rfl⟩
    rw [← g59] at A59 st59
    have gn59 : n0 ≤ b59 := Nat.le_trans (Nat.le_trans Z0 E57.1) (Nat.le_of_eq g59.symm)
    have gz59 : h0.size ≤ b59 := Nat.le_trans (K58).1 (Nat.le_of_eq g59.symm)
    have K60 : Keep h0 h59 [] := K58.ext E59
    have V59 : Arv Z h59 b59 k59 .double (4 : Int32) [(.double (0 : UInt64)), (.double (0 : UInt64)), (.double (0 : UInt64)), (.double (0 : UInt64))] (.double (0 : UInt64)) := (Arv.new A59 (by decide)).pad (pad_rep [] (.double (0 : UInt64)) 4)
    obtain ⟨cl61, Ar61, q61, S61, Nn61, Ha61, G61⟩ := id V59
    have in61 : ¬ ((0 : Int32) < 0 ∨ cl61.slots.size ≤ ((0 : Int32)).toNatClampNeg) := inb_of S61 ⟨by decide, by decide⟩
    obtain ⟨T62, h62, X62, e62, W62, st62⟩ := stD X59 hx hZ e59 Ar61 (j := (0 : Int32)) in61 (g := (mkF m 79 #[.val (.int p0), .val (.int p1), .val (.int p2), .val (.int p3), .val (.int (3 : Int32)), .val (.int z6), .val (.int z13), .val (.int z17), .val (.int z24), .val (.int z28), .val (.int z35), .val (.int z42), .val (.ref b57), .val (.ref b59), .val (.long (0 : Int64)), .second, .unset, .unset] [(.double z78), (.int (0 : Int32)), (.ref b59)])) rfl rfl (hb hby at_79)
    have N62 := Fr.snoc X62 N0 gn59
    have K63 : Keep h0 h62 [] := K60.wr W62 (Or.inr gz59)
    have V62 : Arv Z h62 b59 k59 .double (4 : Int32) [(.double z78), (.double (0 : UInt64)), (.double (0 : UInt64)), (.double (0 : UInt64))] (.double (0 : UInt64)) := Arv.set Ar61 q61 S61 Nn61 Ha61 G61 rfl W62 0 rfl (show (0 : Nat) < 4 by decide)
    have f64 := ((V57.ext E59).other W62 (Nat.ne_of_lt (Nat.lt_of_lt_of_le (V57).lt (Nat.le_of_eq g59.symm))))
    obtain ⟨cl65, Ar65, q65, S65, Nn65, Ha65, G65⟩ := id f64
    have in65 : ¬ ((0 : Int32) < 0 ∨ cl65.slots.size ≤ ((0 : Int32)).toNatClampNeg) := inb_of S65 ⟨by decide, by decide⟩
    obtain ⟨T66, h66, X66, e66, W66, st66⟩ := stD X62 hx hZ e62 Ar65 (j := (0 : Int32)) in65 (g := (mkF m 86 #[.val (.int p0), .val (.int p1), .val (.int p2), .val (.int p3), .val (.int (3 : Int32)), .val (.int z6), .val (.int z13), .val (.int z17), .val (.int z24), .val (.int z28), .val (.int z35), .val (.int z42), .val (.ref b57), .val (.ref b59), .val (.long (0 : Int64)), .second, .unset, .unset] [(.double z85), (.int (0 : Int32)), (.ref b57)])) rfl rfl (hb hby at_86)
    have N66 := Fr.snoc X66 N62 gn57
    have K67 : Keep h0 h66 [] := K63.wr W66 (Or.inr gz57)
    have V66 : Arv Z h66 b57 k57 .double (3 : Int32) [(.double z85), (.double (0 : UInt64)), (.double (0 : UInt64))] (.double (0 : UInt64)) := Arv.set Ar65 q65 S65 Nn65 Ha65 G65 rfl W66 0 rfl (show (0 : Nat) < 3 by decide)
    have f68 := (V62.other W66 (Ne.symm (Nat.ne_of_lt (Nat.lt_of_lt_of_le (V57).lt (Nat.le_of_eq g59.symm)))))
    obtain ⟨cl69, Ar69, q69, S69, Nn69, Ha69, G69⟩ := id f68
    have in69 : ¬ ((1 : Int32) < 0 ∨ cl69.slots.size ≤ ((1 : Int32)).toNatClampNeg) := inb_of S69 ⟨by decide, by decide⟩
    obtain ⟨T70, h70, X70, e70, W70, st70⟩ := stD X66 hx hZ e66 Ar69 (j := (1 : Int32)) in69 (g := (mkF m 111 #[.val (.int p0), .val (.int p1), .val (.int p2), .val (.int p3), .val (.int (3 : Int32)), .val (.int z6), .val (.int z13), .val (.int z17), .val (.int z24), .val (.int z28), .val (.int z35), .val (.int z42), .val (.ref b57), .val (.ref b59), .val (.long z96), .second, .unset, .unset] [(.double z110), (.int (1 : Int32)), (.ref b59)])) rfl rfl (hb hby at_111)
    have N70 := Fr.snoc X70 N66 gn59
    have K71 : Keep h0 h70 [] := K67.wr W70 (Or.inr gz59)
    have V70 : Arv Z h70 b59 k59 .double (4 : Int32) [(.double z78), (.double z110), (.double (0 : UInt64)), (.double (0 : UInt64))] (.double (0 : UInt64)) := Arv.set Ar69 q69 S69 Nn69 Ha69 G69 rfl W70 1 rfl (show (1 : Nat) < 4 by decide)
    have f72 := (V66.other W70 (Nat.ne_of_lt (Nat.lt_of_lt_of_le (V57).lt (Nat.le_of_eq g59.symm))))
    obtain ⟨cl73, Ar73, q73, S73, Nn73, Ha73, G73⟩ := id f72
    have in73 : ¬ ((1 : Int32) < 0 ∨ cl73.slots.size ≤ ((1 : Int32)).toNatClampNeg) := inb_of S73 ⟨by decide, by decide⟩
    obtain ⟨T74, h74, X74, e74, W74, st74⟩ := stD X70 hx hZ e70 Ar73 (j := (1 : Int32)) in73 (g := (mkF m 118 #[.val (.int p0), .val (.int p1), .val (.int p2), .val (.int p3), .val (.int (3 : Int32)), .val (.int z6), .val (.int z13), .val (.int z17), .val (.int z24), .val (.int z28), .val (.int z35), .val (.int z42), .val (.ref b57), .val (.ref b59), .val (.long z96), .second, .unset, .unset] [(.double z117), (.int (1 : Int32)), (.ref b57)])) rfl rfl (hb hby at_118)
    have N74 := Fr.snoc X74 N70 gn57
    have K75 : Keep h0 h74 [] := K71.wr W74 (Or.inr gz57)
    have V74 : Arv Z h74 b57 k57 .double (3 : Int32) [(.double z85), (.double z117), (.double (0 : UInt64))] (.double (0 : UInt64)) := Arv.set Ar73 q73 S73 Nn73 Ha73 G73 rfl W74 1 rfl (show (1 : Nat) < 3 by decide)
    have f76 := (V70.other W74 (Ne.symm (Nat.ne_of_lt (Nat.lt_of_lt_of_le (V57).lt (Nat.le_of_eq g59.symm)))))
    obtain ⟨cl77, Ar77, q77, S77, Nn77, Ha77, G77⟩ := id f76
    have in77 : ¬ ((2 : Int32) < 0 ∨ cl77.slots.size ≤ ((2 : Int32)).toNatClampNeg) := inb_of S77 ⟨by decide, by decide⟩
    obtain ⟨T78, h78, X78, e78, W78, st78⟩ := stD X74 hx hZ e74 Ar77 (j := (2 : Int32)) in77 (g := (mkF m 143 #[.val (.int p0), .val (.int p1), .val (.int p2), .val (.int p3), .val (.int (3 : Int32)), .val (.int z6), .val (.int z13), .val (.int z17), .val (.int z24), .val (.int z28), .val (.int z35), .val (.int z42), .val (.ref b57), .val (.ref b59), .val (.long z128), .second, .unset, .unset] [(.double z142), (.int (2 : Int32)), (.ref b59)])) rfl rfl (hb hby at_143)
    have N78 := Fr.snoc X78 N74 gn59
    have K79 : Keep h0 h78 [] := K75.wr W78 (Or.inr gz59)
    have V78 : Arv Z h78 b59 k59 .double (4 : Int32) [(.double z78), (.double z110), (.double z142), (.double (0 : UInt64))] (.double (0 : UInt64)) := Arv.set Ar77 q77 S77 Nn77 Ha77 G77 rfl W78 2 rfl (show (2 : Nat) < 4 by decide)
    have f80 := (V74.other W78 (Nat.ne_of_lt (Nat.lt_of_lt_of_le (V57).lt (Nat.le_of_eq g59.symm))))
    obtain ⟨cl81, Ar81, q81, S81, Nn81, Ha81, G81⟩ := id f80
    have in81 : ¬ ((2 : Int32) < 0 ∨ cl81.slots.size ≤ ((2 : Int32)).toNatClampNeg) := inb_of S81 ⟨by decide, by decide⟩
    obtain ⟨T82, h82, X82, e82, W82, st82⟩ := stD X78 hx hZ e78 Ar81 (j := (2 : Int32)) in81 (g := (mkF m 150 #[.val (.int p0), .val (.int p1), .val (.int p2), .val (.int p3), .val (.int (3 : Int32)), .val (.int z6), .val (.int z13), .val (.int z17), .val (.int z24), .val (.int z28), .val (.int z35), .val (.int z42), .val (.ref b57), .val (.ref b59), .val (.long z128), .second, .unset, .unset] [(.double z149), (.int (2 : Int32)), (.ref b57)])) rfl rfl (hb hby at_150)
    have N82 := Fr.snoc X82 N78 gn57
    have K83 : Keep h0 h82 [] := K79.wr W82 (Or.inr gz57)
    have V82 : Arv Z h82 b57 k57 .double (3 : Int32) [(.double z85), (.double z117), (.double z149)] (.double (0 : UInt64)) := Arv.set Ar81 q81 S81 Nn81 Ha81 G81 rfl W82 2 rfl (show (2 : Nat) < 3 by decide)
    have f84 := (V78.other W82 (Ne.symm (Nat.ne_of_lt (Nat.lt_of_lt_of_le (V57).lt (Nat.le_of_eq g59.symm)))))
    obtain ⟨cl85, Ar85, q85, S85, Nn85, Ha85, G85⟩ := id f84
    have in85 : ¬ ((3 : Int32) < 0 ∨ cl85.slots.size ≤ ((3 : Int32)).toNatClampNeg) := inb_of S85 ⟨by decide, by decide⟩
    obtain ⟨T86, h86, X86, e86, W86, st86⟩ := stD X82 hx hZ e82 Ar85 (j := (3 : Int32)) in85 (g := (mkF m 170 #[.val (.int p0), .val (.int p1), .val (.int p2), .val (.int p3), .val (.int (3 : Int32)), .val (.int z6), .val (.int z13), .val (.int z17), .val (.int z24), .val (.int z28), .val (.int z35), .val (.int z42), .val (.ref b57), .val (.ref b59), .val (.long z160), .second, .unset, .unset] [(.double z169), (.int (3 : Int32)), (.ref b59)])) rfl rfl (hb hby at_170)
    have N86 := Fr.snoc X86 N82 gn59
    have K87 : Keep h0 h86 [] := K83.wr W86 (Or.inr gz59)
    have V86 : Arv Z h86 b59 k59 .double (4 : Int32) [(.double z78), (.double z110), (.double z142), (.double z169)] (.double (0 : UInt64)) := Arv.set Ar85 q85 S85 Nn85 Ha85 G85 rfl W86 3 rfl (show (3 : Nat) < 4 by decide)
    obtain ⟨c175_nn21, c175_nn22, D0, R0, B0⟩ := turn Jvm.OwnF.DV_0 (by decide : (0 : Int64).toInt = 0) (by decide : (0 : Int).natAbs ≤ 0) (by decide) hz6 hz13 hz78 hz85 hc175_z21 hc175_z22 hz91 hz94 hz95 hz96
    obtain ⟨c175_nn21_2, c175_nn22_2, D1, R1, B1⟩ := turn D0 R0 B0 (by decide) hz17 hz24 hz110 hz117 hc175_z21_2 hc175_z22_2 hz123 hz126 hz127 hz128
    obtain ⟨c175_nn21_3, c175_nn22_3, D2, R2, B2⟩ := turn D1 R1 B1 (by decide) hz28 hz35 hz142 hz149 hc175_z21_3 hc175_z22_3 hz155 hz158 hz159 hz160
    have br186 : z185 = 0 := by
      have dl := Jvm.OwnF.DV_l2d (n := z160) (Jvm.OwnF.r53 (by rw [R2]; omega))
      rw [R2, hz184] at dl
      rw [← hz185]
      exact Jvm.OwnF.DV_eq0 D2 dl _
    have f88 := (V82.other W86 (Nat.ne_of_lt (Nat.lt_of_lt_of_le (V57).lt (Nat.le_of_eq g59.symm))))
    obtain ⟨_, _, ⟨T89, L89, k89, n89⟩, -, X89, ⟨Lc89, hQ89, ql89, qy89, qz89⟩, st89⟩ := Jvm.LawKit.callS X86 hx (y := (⟨"com/example/credal_choice/credalchoice/model/Gambles", "expectation", "([D[D)D"⟩ : MethodName)) hown (mvT hZ (hw _ (List.mem_of_getElem? (i := 1) rfl))) (mvT hZ (hw _ (List.mem_of_getElem? (i := 2) rfl))) (mvT hZ (hw _ (List.mem_of_getElem? (i := 3) rfl))) (mvT hZ (hw _ (List.mem_of_getElem? (i := 4) rfl))) (by decide) (backOf (W := 0) (rm1_3 l Z a0 hw [] b59 b57 k59 z78 z110 z142 z169 k57 z85 z117 z149 c175_z21 c175_z22 c175_z21_2 c175_z22_2 c175_z21_3 c175_z22_3 h86 n0 (Nat.le_trans (Nat.le_trans (Nat.le_trans (Nat.le_trans (Nat.le_trans (Nat.le_trans (Nat.le_trans (Nat.le_trans (Nat.le_trans Z0 E57.1) E59.1) (Keep.of_wr W62).1) (Keep.of_wr W66).1) (Keep.of_wr W70).1) (Keep.of_wr W74).1) (Keep.of_wr W78).1) (Keep.of_wr W82).1) (Keep.of_wr W86).1) V86 f88 hc175_z21 hc175_z22 hc175_z21_2 hc175_z22_2 hc175_z21_3 hc175_z22_3 c175_nn21 c175_nn22 c175_nn21_2 c175_nn22_2 c175_nn21_3 c175_nn22_3) hZ (hw _ (List.mem_of_getElem? (i := 4) rfl)) (hw _ (List.mem_of_getElem? (i := 3) rfl)) (by decide) (by decide)) (g := (mkF m 175 #[.val (.int p0), .val (.int p1), .val (.int p2), .val (.int p3), .val (.int (3 : Int32)), .val (.int z6), .val (.int z13), .val (.int z17), .val (.int z24), .val (.int z28), .val (.int z35), .val (.int z42), .val (.ref b57), .val (.ref b59), .val (.long z160), .second, .unset, .unset] [(.ref b57), (.ref b59)])) rfl (by rw [hml]; rfl) (argsL := [(.ref b59), (.ref b57)]) (rest := []) (lenOf pd_0 rfl) rfl (by show 2 * 0 + _ ≤ _; exact Nat.le_of_eq rfl) (hb hby at_175) (fun _ _ => ⟨rfl, e86, (by decide : 2 + 0 ≤ _), (by decide : 7 + 0 ≤ _)⟩)
    dsimp only [Pt.U, Pt.locs, Pt.cells, Pt.slots] at X89 ql89 qy89 qz89 st89 hQ89
    subst ql89 qy89 qz89
    obtain ⟨rfl, N89q, e89⟩ := hQ89
    have N89 := Fr.app N86 N89q
    have c90 : ∀ t, Steps p.tables e below (T89.setTop (mkF m 194 #[.val (.int p0), .val (.int p1), .val (.int p2), .val (.int p3), .val (.int (3 : Int32)), .val (.int z6), .val (.int z13), .val (.int z17), .val (.int z24), .val (.int z28), .val (.int z35), .val (.int z42), .val (.ref b57), .val (.ref b59), .val (.long z160), .second, .val (.double c175_z22_3), .second] [(.int (1 : Int32))])) t → Steps p.tables e below (s₁.setTop (entryFrame m #[(.int p0), (.int p1), (.int p2), (.int p3)] maxLocals)) t := by
      intro t k
      refine c1 t ?_
      show Steps p.tables e below (s₁.setTop (mkF m 3 #[.val (.int p0), .val (.int p1), .val (.int p2), .val (.int p3), .unset, .unset, .unset, .unset, .unset, .unset, .unset, .unset, .unset, .unset, .unset, .unset, .unset, .unset] [(.int (3 : Int32))])) _
      refine XS.istore X0.here hx rfl (hb hby at_3) rfl (l' := #[.val (.int p0), .val (.int p1), .val (.int p2), .val (.int p3), .val (.int (3 : Int32)), .unset, .unset, .unset, .unset, .unset, .unset, .unset, .unset, .unset, .unset, .unset, .unset, .unset]) rfl ?_
      show Steps p.tables e below (s₁.setTop (mkF m 5 #[.val (.int p0), .val (.int p1), .val (.int p2), .val (.int p3), .val (.int (3 : Int32)), .unset, .unset, .unset, .unset, .unset, .unset, .unset, .unset, .unset, .unset, .unset, .unset, .unset] [])) _
      refine XS.iloadN X0.here hx rfl (hb hby at_5) rfl ?_
      show Steps p.tables e below (s₁.setTop (mkF m 6 #[.val (.int p0), .val (.int p1), .val (.int p2), .val (.int p3), .val (.int (3 : Int32)), .unset, .unset, .unset, .unset, .unset, .unset, .unset, .unset, .unset, .unset, .unset, .unset, .unset] [(.int p0)])) _
      refine Jvm.OwnK.i2s X0.here hx rfl (hb hby at_6) rfl hz6 ?_
      show Steps p.tables e below (s₁.setTop (mkF m 7 #[.val (.int p0), .val (.int p1), .val (.int p2), .val (.int p3), .val (.int (3 : Int32)), .unset, .unset, .unset, .unset, .unset, .unset, .unset, .unset, .unset, .unset, .unset, .unset, .unset] [(.int z6)])) _
      refine XS.istore X0.here hx rfl (hb hby at_7) rfl (l' := #[.val (.int p0), .val (.int p1), .val (.int p2), .val (.int p3), .val (.int (3 : Int32)), .val (.int z6), .unset, .unset, .unset, .unset, .unset, .unset, .unset, .unset, .unset, .unset, .unset, .unset]) rfl ?_
      show Steps p.tables e below (s₁.setTop (mkF m 9 #[.val (.int p0), .val (.int p1), .val (.int p2), .val (.int p3), .val (.int (3 : Int32)), .val (.int z6), .unset, .unset, .unset, .unset, .unset, .unset, .unset, .unset, .unset, .unset, .unset, .unset] [])) _
      refine XS.iloadN X0.here hx rfl (hb hby at_9) rfl ?_
      show Steps p.tables e below (s₁.setTop (mkF m 10 #[.val (.int p0), .val (.int p1), .val (.int p2), .val (.int p3), .val (.int (3 : Int32)), .val (.int z6), .unset, .unset, .unset, .unset, .unset, .unset, .unset, .unset, .unset, .unset, .unset, .unset] [(.int p0)])) _
      refine XS.bipush X0.here hx rfl (hb hby at_10) ?_
      show Steps p.tables e below (s₁.setTop (mkF m 12 #[.val (.int p0), .val (.int p1), .val (.int p2), .val (.int p3), .val (.int (3 : Int32)), .val (.int z6), .unset, .unset, .unset, .unset, .unset, .unset, .unset, .unset, .unset, .unset, .unset, .unset] [(.int (16 : Int32)), (.int p0)])) _
      refine Jvm.OwnK.ishr X0.here hx rfl (hb hby at_12) rfl hz12 ?_
      show Steps p.tables e below (s₁.setTop (mkF m 13 #[.val (.int p0), .val (.int p1), .val (.int p2), .val (.int p3), .val (.int (3 : Int32)), .val (.int z6), .unset, .unset, .unset, .unset, .unset, .unset, .unset, .unset, .unset, .unset, .unset, .unset] [(.int z12)])) _
      refine Jvm.OwnK.i2s X0.here hx rfl (hb hby at_13) rfl hz13 ?_
      show Steps p.tables e below (s₁.setTop (mkF m 14 #[.val (.int p0), .val (.int p1), .val (.int p2), .val (.int p3), .val (.int (3 : Int32)), .val (.int z6), .unset, .unset, .unset, .unset, .unset, .unset, .unset, .unset, .unset, .unset, .unset, .unset] [(.int z13)])) _
      refine XS.istore X0.here hx rfl (hb hby at_14) rfl (l' := #[.val (.int p0), .val (.int p1), .val (.int p2), .val (.int p3), .val (.int (3 : Int32)), .val (.int z6), .val (.int z13), .unset, .unset, .unset, .unset, .unset, .unset, .unset, .unset, .unset, .unset, .unset]) rfl ?_
      show Steps p.tables e below (s₁.setTop (mkF m 16 #[.val (.int p0), .val (.int p1), .val (.int p2), .val (.int p3), .val (.int (3 : Int32)), .val (.int z6), .val (.int z13), .unset, .unset, .unset, .unset, .unset, .unset, .unset, .unset, .unset, .unset, .unset] [])) _
      refine XS.iloadN X0.here hx rfl (hb hby at_16) rfl ?_
      show Steps p.tables e below (s₁.setTop (mkF m 17 #[.val (.int p0), .val (.int p1), .val (.int p2), .val (.int p3), .val (.int (3 : Int32)), .val (.int z6), .val (.int z13), .unset, .unset, .unset, .unset, .unset, .unset, .unset, .unset, .unset, .unset, .unset] [(.int p1)])) _
      refine Jvm.OwnK.i2s X0.here hx rfl (hb hby at_17) rfl hz17 ?_
      show Steps p.tables e below (s₁.setTop (mkF m 18 #[.val (.int p0), .val (.int p1), .val (.int p2), .val (.int p3), .val (.int (3 : Int32)), .val (.int z6), .val (.int z13), .unset, .unset, .unset, .unset, .unset, .unset, .unset, .unset, .unset, .unset, .unset] [(.int z17)])) _
      refine XS.istore X0.here hx rfl (hb hby at_18) rfl (l' := #[.val (.int p0), .val (.int p1), .val (.int p2), .val (.int p3), .val (.int (3 : Int32)), .val (.int z6), .val (.int z13), .val (.int z17), .unset, .unset, .unset, .unset, .unset, .unset, .unset, .unset, .unset, .unset]) rfl ?_
      show Steps p.tables e below (s₁.setTop (mkF m 20 #[.val (.int p0), .val (.int p1), .val (.int p2), .val (.int p3), .val (.int (3 : Int32)), .val (.int z6), .val (.int z13), .val (.int z17), .unset, .unset, .unset, .unset, .unset, .unset, .unset, .unset, .unset, .unset] [])) _
      refine XS.iloadN X0.here hx rfl (hb hby at_20) rfl ?_
      show Steps p.tables e below (s₁.setTop (mkF m 21 #[.val (.int p0), .val (.int p1), .val (.int p2), .val (.int p3), .val (.int (3 : Int32)), .val (.int z6), .val (.int z13), .val (.int z17), .unset, .unset, .unset, .unset, .unset, .unset, .unset, .unset, .unset, .unset] [(.int p1)])) _
      refine XS.bipush X0.here hx rfl (hb hby at_21) ?_
      show Steps p.tables e below (s₁.setTop (mkF m 23 #[.val (.int p0), .val (.int p1), .val (.int p2), .val (.int p3), .val (.int (3 : Int32)), .val (.int z6), .val (.int z13), .val (.int z17), .unset, .unset, .unset, .unset, .unset, .unset, .unset, .unset, .unset, .unset] [(.int (16 : Int32)), (.int p1)])) _
      refine Jvm.OwnK.ishr X0.here hx rfl (hb hby at_23) rfl hz23 ?_
      show Steps p.tables e below (s₁.setTop (mkF m 24 #[.val (.int p0), .val (.int p1), .val (.int p2), .val (.int p3), .val (.int (3 : Int32)), .val (.int z6), .val (.int z13), .val (.int z17), .unset, .unset, .unset, .unset, .unset, .unset, .unset, .unset, .unset, .unset] [(.int z23)])) _
      refine Jvm.OwnK.i2s X0.here hx rfl (hb hby at_24) rfl hz24 ?_
      show Steps p.tables e below (s₁.setTop (mkF m 25 #[.val (.int p0), .val (.int p1), .val (.int p2), .val (.int p3), .val (.int (3 : Int32)), .val (.int z6), .val (.int z13), .val (.int z17), .unset, .unset, .unset, .unset, .unset, .unset, .unset, .unset, .unset, .unset] [(.int z24)])) _
      refine XS.istore X0.here hx rfl (hb hby at_25) rfl (l' := #[.val (.int p0), .val (.int p1), .val (.int p2), .val (.int p3), .val (.int (3 : Int32)), .val (.int z6), .val (.int z13), .val (.int z17), .val (.int z24), .unset, .unset, .unset, .unset, .unset, .unset, .unset, .unset, .unset]) rfl ?_
      show Steps p.tables e below (s₁.setTop (mkF m 27 #[.val (.int p0), .val (.int p1), .val (.int p2), .val (.int p3), .val (.int (3 : Int32)), .val (.int z6), .val (.int z13), .val (.int z17), .val (.int z24), .unset, .unset, .unset, .unset, .unset, .unset, .unset, .unset, .unset] [])) _
      refine XS.iloadN X0.here hx rfl (hb hby at_27) rfl ?_
      show Steps p.tables e below (s₁.setTop (mkF m 28 #[.val (.int p0), .val (.int p1), .val (.int p2), .val (.int p3), .val (.int (3 : Int32)), .val (.int z6), .val (.int z13), .val (.int z17), .val (.int z24), .unset, .unset, .unset, .unset, .unset, .unset, .unset, .unset, .unset] [(.int p2)])) _
      refine Jvm.OwnK.i2s X0.here hx rfl (hb hby at_28) rfl hz28 ?_
      show Steps p.tables e below (s₁.setTop (mkF m 29 #[.val (.int p0), .val (.int p1), .val (.int p2), .val (.int p3), .val (.int (3 : Int32)), .val (.int z6), .val (.int z13), .val (.int z17), .val (.int z24), .unset, .unset, .unset, .unset, .unset, .unset, .unset, .unset, .unset] [(.int z28)])) _
      refine XS.istore X0.here hx rfl (hb hby at_29) rfl (l' := #[.val (.int p0), .val (.int p1), .val (.int p2), .val (.int p3), .val (.int (3 : Int32)), .val (.int z6), .val (.int z13), .val (.int z17), .val (.int z24), .val (.int z28), .unset, .unset, .unset, .unset, .unset, .unset, .unset, .unset]) rfl ?_
      show Steps p.tables e below (s₁.setTop (mkF m 31 #[.val (.int p0), .val (.int p1), .val (.int p2), .val (.int p3), .val (.int (3 : Int32)), .val (.int z6), .val (.int z13), .val (.int z17), .val (.int z24), .val (.int z28), .unset, .unset, .unset, .unset, .unset, .unset, .unset, .unset] [])) _
      refine XS.iloadN X0.here hx rfl (hb hby at_31) rfl ?_
      show Steps p.tables e below (s₁.setTop (mkF m 32 #[.val (.int p0), .val (.int p1), .val (.int p2), .val (.int p3), .val (.int (3 : Int32)), .val (.int z6), .val (.int z13), .val (.int z17), .val (.int z24), .val (.int z28), .unset, .unset, .unset, .unset, .unset, .unset, .unset, .unset] [(.int p2)])) _
      refine XS.bipush X0.here hx rfl (hb hby at_32) ?_
      show Steps p.tables e below (s₁.setTop (mkF m 34 #[.val (.int p0), .val (.int p1), .val (.int p2), .val (.int p3), .val (.int (3 : Int32)), .val (.int z6), .val (.int z13), .val (.int z17), .val (.int z24), .val (.int z28), .unset, .unset, .unset, .unset, .unset, .unset, .unset, .unset] [(.int (16 : Int32)), (.int p2)])) _
      refine Jvm.OwnK.ishr X0.here hx rfl (hb hby at_34) rfl hz34 ?_
      show Steps p.tables e below (s₁.setTop (mkF m 35 #[.val (.int p0), .val (.int p1), .val (.int p2), .val (.int p3), .val (.int (3 : Int32)), .val (.int z6), .val (.int z13), .val (.int z17), .val (.int z24), .val (.int z28), .unset, .unset, .unset, .unset, .unset, .unset, .unset, .unset] [(.int z34)])) _
      refine Jvm.OwnK.i2s X0.here hx rfl (hb hby at_35) rfl hz35 ?_
      show Steps p.tables e below (s₁.setTop (mkF m 36 #[.val (.int p0), .val (.int p1), .val (.int p2), .val (.int p3), .val (.int (3 : Int32)), .val (.int z6), .val (.int z13), .val (.int z17), .val (.int z24), .val (.int z28), .unset, .unset, .unset, .unset, .unset, .unset, .unset, .unset] [(.int z35)])) _
      refine XS.istore X0.here hx rfl (hb hby at_36) rfl (l' := #[.val (.int p0), .val (.int p1), .val (.int p2), .val (.int p3), .val (.int (3 : Int32)), .val (.int z6), .val (.int z13), .val (.int z17), .val (.int z24), .val (.int z28), .val (.int z35), .unset, .unset, .unset, .unset, .unset, .unset, .unset]) rfl ?_
      show Steps p.tables e below (s₁.setTop (mkF m 38 #[.val (.int p0), .val (.int p1), .val (.int p2), .val (.int p3), .val (.int (3 : Int32)), .val (.int z6), .val (.int z13), .val (.int z17), .val (.int z24), .val (.int z28), .val (.int z35), .unset, .unset, .unset, .unset, .unset, .unset, .unset] [])) _
      refine XS.iloadN X0.here hx rfl (hb hby at_38) rfl ?_
      show Steps p.tables e below (s₁.setTop (mkF m 39 #[.val (.int p0), .val (.int p1), .val (.int p2), .val (.int p3), .val (.int (3 : Int32)), .val (.int z6), .val (.int z13), .val (.int z17), .val (.int z24), .val (.int z28), .val (.int z35), .unset, .unset, .unset, .unset, .unset, .unset, .unset] [(.int p3)])) _
      refine XS.bipush X0.here hx rfl (hb hby at_39) ?_
      show Steps p.tables e below (s₁.setTop (mkF m 41 #[.val (.int p0), .val (.int p1), .val (.int p2), .val (.int p3), .val (.int (3 : Int32)), .val (.int z6), .val (.int z13), .val (.int z17), .val (.int z24), .val (.int z28), .val (.int z35), .unset, .unset, .unset, .unset, .unset, .unset, .unset] [(.int (16 : Int32)), (.int p3)])) _
      refine Jvm.OwnK.ishr X0.here hx rfl (hb hby at_41) rfl hz41 ?_
      show Steps p.tables e below (s₁.setTop (mkF m 42 #[.val (.int p0), .val (.int p1), .val (.int p2), .val (.int p3), .val (.int (3 : Int32)), .val (.int z6), .val (.int z13), .val (.int z17), .val (.int z24), .val (.int z28), .val (.int z35), .unset, .unset, .unset, .unset, .unset, .unset, .unset] [(.int z41)])) _
      refine Jvm.OwnK.i2s X0.here hx rfl (hb hby at_42) rfl hz42 ?_
      show Steps p.tables e below (s₁.setTop (mkF m 43 #[.val (.int p0), .val (.int p1), .val (.int p2), .val (.int p3), .val (.int (3 : Int32)), .val (.int z6), .val (.int z13), .val (.int z17), .val (.int z24), .val (.int z28), .val (.int z35), .unset, .unset, .unset, .unset, .unset, .unset, .unset] [(.int z42)])) _
      refine XS.istore X0.here hx rfl (hb hby at_43) rfl (l' := #[.val (.int p0), .val (.int p1), .val (.int p2), .val (.int p3), .val (.int (3 : Int32)), .val (.int z6), .val (.int z13), .val (.int z17), .val (.int z24), .val (.int z28), .val (.int z35), .val (.int z42), .unset, .unset, .unset, .unset, .unset, .unset]) rfl ?_
      show Steps p.tables e below (s₁.setTop (mkF m 45 #[.val (.int p0), .val (.int p1), .val (.int p2), .val (.int p3), .val (.int (3 : Int32)), .val (.int z6), .val (.int z13), .val (.int z17), .val (.int z24), .val (.int z28), .val (.int z35), .val (.int z42), .unset, .unset, .unset, .unset, .unset, .unset] [])) _
      refine XS.iload X0.here hx rfl (hb hby at_45) rfl ?_
      show Steps p.tables e below (s₁.setTop (mkF m 47 #[.val (.int p0), .val (.int p1), .val (.int p2), .val (.int p3), .val (.int (3 : Int32)), .val (.int z6), .val (.int z13), .val (.int z17), .val (.int z24), .val (.int z28), .val (.int z35), .val (.int z42), .unset, .unset, .unset, .unset, .unset, .unset] [(.int (3 : Int32))])) _
      refine XS.iconst X0.here hx rfl (hb hby at_47) ?_
      show Steps p.tables e below (s₁.setTop (mkF m 48 #[.val (.int p0), .val (.int p1), .val (.int p2), .val (.int p3), .val (.int (3 : Int32)), .val (.int z6), .val (.int z13), .val (.int z17), .val (.int z24), .val (.int z28), .val (.int z35), .val (.int z42), .unset, .unset, .unset, .unset, .unset, .unset] [(.int (3 : Int32)), (.int (3 : Int32))])) _
      refine XS.icmpNo X0.here hx rfl (hb hby at_48) rfl (Jvm.Free.XT.ii_ne_f (by decide)) ?_
      show Steps p.tables e below (s₁.setTop (mkF m 51 #[.val (.int p0), .val (.int p1), .val (.int p2), .val (.int p3), .val (.int (3 : Int32)), .val (.int z6), .val (.int z13), .val (.int z17), .val (.int z24), .val (.int z28), .val (.int z35), .val (.int z42), .unset, .unset, .unset, .unset, .unset, .unset] [])) _
      refine XS.iload X0.here hx rfl (hb hby at_51) rfl ?_
      show Steps p.tables e below (s₁.setTop (mkF m 53 #[.val (.int p0), .val (.int p1), .val (.int p2), .val (.int p3), .val (.int (3 : Int32)), .val (.int z6), .val (.int z13), .val (.int z17), .val (.int z24), .val (.int z28), .val (.int z35), .val (.int z42), .unset, .unset, .unset, .unset, .unset, .unset] [(.int (3 : Int32))])) _
      refine st57 _ ?_
      show Steps p.tables e below (T57.setTop (mkF m 55 #[.val (.int p0), .val (.int p1), .val (.int p2), .val (.int p3), .val (.int (3 : Int32)), .val (.int z6), .val (.int z13), .val (.int z17), .val (.int z24), .val (.int z28), .val (.int z35), .val (.int z42), .unset, .unset, .unset, .unset, .unset, .unset] [(.ref b57)])) _
      refine XS.astore X57.here hx rfl (hb hby at_55) rfl rfl (l' := #[.val (.int p0), .val (.int p1), .val (.int p2), .val (.int p3), .val (.int (3 : Int32)), .val (.int z6), .val (.int z13), .val (.int z17), .val (.int z24), .val (.int z28), .val (.int z35), .val (.int z42), .val (.ref b57), .unset, .unset, .unset, .unset, .unset]) rfl ?_
      show Steps p.tables e below (T57.setTop (mkF m 57 #[.val (.int p0), .val (.int p1), .val (.int p2), .val (.int p3), .val (.int (3 : Int32)), .val (.int z6), .val (.int z13), .val (.int z17), .val (.int z24), .val (.int z28), .val (.int z35), .val (.int z42), .val (.ref b57), .unset, .unset, .unset, .unset, .unset] [])) _
      refine XS.iload X57.here hx rfl (hb hby at_57) rfl ?_
      show Steps p.tables e below (T57.setTop (mkF m 59 #[.val (.int p0), .val (.int p1), .val (.int p2), .val (.int p3), .val (.int (3 : Int32)), .val (.int z6), .val (.int z13), .val (.int z17), .val (.int z24), .val (.int z28), .val (.int z35), .val (.int z42), .val (.ref b57), .unset, .unset, .unset, .unset, .unset] [(.int (3 : Int32))])) _
      refine XS.iconst X57.here hx rfl (hb hby at_59) ?_
      show Steps p.tables e below (T57.setTop (mkF m 60 #[.val (.int p0), .val (.int p1), .val (.int p2), .val (.int p3), .val (.int (3 : Int32)), .val (.int z6), .val (.int z13), .val (.int z17), .val (.int z24), .val (.int z28), .val (.int z35), .val (.int z42), .val (.ref b57), .unset, .unset, .unset, .unset, .unset] [(.int (1 : Int32)), (.int (3 : Int32))])) _
      refine Jvm.OwnK.iadd X57.here hx rfl (hb hby at_60) rfl (v := (4 : Int32)) (by decide) ?_
      show Steps p.tables e below (T57.setTop (mkF m 61 #[.val (.int p0), .val (.int p1), .val (.int p2), .val (.int p3), .val (.int (3 : Int32)), .val (.int z6), .val (.int z13), .val (.int z17), .val (.int z24), .val (.int z28), .val (.int z35), .val (.int z42), .val (.ref b57), .unset, .unset, .unset, .unset, .unset] [(.int (4 : Int32))])) _
      refine st59 _ ?_
      show Steps p.tables e below (T59.setTop (mkF m 63 #[.val (.int p0), .val (.int p1), .val (.int p2), .val (.int p3), .val (.int (3 : Int32)), .val (.int z6), .val (.int z13), .val (.int z17), .val (.int z24), .val (.int z28), .val (.int z35), .val (.int z42), .val (.ref b57), .unset, .unset, .unset, .unset, .unset] [(.ref b59)])) _
      refine XS.astore X59.here hx rfl (hb hby at_63) rfl rfl (l' := #[.val (.int p0), .val (.int p1), .val (.int p2), .val (.int p3), .val (.int (3 : Int32)), .val (.int z6), .val (.int z13), .val (.int z17), .val (.int z24), .val (.int z28), .val (.int z35), .val (.int z42), .val (.ref b57), .val (.ref b59), .unset, .unset, .unset, .unset]) rfl ?_
      show Steps p.tables e below (T59.setTop (mkF m 65 #[.val (.int p0), .val (.int p1), .val (.int p2), .val (.int p3), .val (.int (3 : Int32)), .val (.int z6), .val (.int z13), .val (.int z17), .val (.int z24), .val (.int z28), .val (.int z35), .val (.int z42), .val (.ref b57), .val (.ref b59), .unset, .unset, .unset, .unset] [])) _
      refine XS.lconst X59.here hx rfl (hb hby at_65) ?_
      show Steps p.tables e below (T59.setTop (mkF m 66 #[.val (.int p0), .val (.int p1), .val (.int p2), .val (.int p3), .val (.int (3 : Int32)), .val (.int z6), .val (.int z13), .val (.int z17), .val (.int z24), .val (.int z28), .val (.int z35), .val (.int z42), .val (.ref b57), .val (.ref b59), .unset, .unset, .unset, .unset] [(.long (0 : Int64))])) _
      refine XS.lstore X59.here hx rfl (hb hby at_66) rfl (l' := #[.val (.int p0), .val (.int p1), .val (.int p2), .val (.int p3), .val (.int (3 : Int32)), .val (.int z6), .val (.int z13), .val (.int z17), .val (.int z24), .val (.int z28), .val (.int z35), .val (.int z42), .val (.ref b57), .val (.ref b59), .val (.long (0 : Int64)), .second, .unset, .unset]) rfl ?_
      show Steps p.tables e below (T59.setTop (mkF m 68 #[.val (.int p0), .val (.int p1), .val (.int p2), .val (.int p3), .val (.int (3 : Int32)), .val (.int z6), .val (.int z13), .val (.int z17), .val (.int z24), .val (.int z28), .val (.int z35), .val (.int z42), .val (.ref b57), .val (.ref b59), .val (.long (0 : Int64)), .second, .unset, .unset] [])) _
      refine XS.iload X59.here hx rfl (hb hby at_68) rfl ?_
      show Steps p.tables e below (T59.setTop (mkF m 70 #[.val (.int p0), .val (.int p1), .val (.int p2), .val (.int p3), .val (.int (3 : Int32)), .val (.int z6), .val (.int z13), .val (.int z17), .val (.int z24), .val (.int z28), .val (.int z35), .val (.int z42), .val (.ref b57), .val (.ref b59), .val (.long (0 : Int64)), .second, .unset, .unset] [(.int (3 : Int32))])) _
      refine XS.ifNo X59.here hx rfl (hb hby at_70) rfl (Jvm.Free.XT.i0_le_f (by decide)) ?_
      show Steps p.tables e below (T59.setTop (mkF m 73 #[.val (.int p0), .val (.int p1), .val (.int p2), .val (.int p3), .val (.int (3 : Int32)), .val (.int z6), .val (.int z13), .val (.int z17), .val (.int z24), .val (.int z28), .val (.int z35), .val (.int z42), .val (.ref b57), .val (.ref b59), .val (.long (0 : Int64)), .second, .unset, .unset] [])) _
      refine XS.aload X59.here hx rfl (hb hby at_73) rfl rfl ?_
      show Steps p.tables e below (T59.setTop (mkF m 75 #[.val (.int p0), .val (.int p1), .val (.int p2), .val (.int p3), .val (.int (3 : Int32)), .val (.int z6), .val (.int z13), .val (.int z17), .val (.int z24), .val (.int z28), .val (.int z35), .val (.int z42), .val (.ref b57), .val (.ref b59), .val (.long (0 : Int64)), .second, .unset, .unset] [(.ref b59)])) _
      refine XS.iconst X59.here hx rfl (hb hby at_75) ?_
      show Steps p.tables e below (T59.setTop (mkF m 76 #[.val (.int p0), .val (.int p1), .val (.int p2), .val (.int p3), .val (.int (3 : Int32)), .val (.int z6), .val (.int z13), .val (.int z17), .val (.int z24), .val (.int z28), .val (.int z35), .val (.int z42), .val (.ref b57), .val (.ref b59), .val (.long (0 : Int64)), .second, .unset, .unset] [(.int (0 : Int32)), (.ref b59)])) _
      refine XS.iload X59.here hx rfl (hb hby at_76) rfl ?_
      show Steps p.tables e below (T59.setTop (mkF m 78 #[.val (.int p0), .val (.int p1), .val (.int p2), .val (.int p3), .val (.int (3 : Int32)), .val (.int z6), .val (.int z13), .val (.int z17), .val (.int z24), .val (.int z28), .val (.int z35), .val (.int z42), .val (.ref b57), .val (.ref b59), .val (.long (0 : Int64)), .second, .unset, .unset] [(.int z6), (.int (0 : Int32)), (.ref b59)])) _
      refine XS.i2dS X59.here hx rfl (hb hby at_78) rfl hz78 ?_
      show Steps p.tables e below (T59.setTop (mkF m 79 #[.val (.int p0), .val (.int p1), .val (.int p2), .val (.int p3), .val (.int (3 : Int32)), .val (.int z6), .val (.int z13), .val (.int z17), .val (.int z24), .val (.int z28), .val (.int z35), .val (.int z42), .val (.ref b57), .val (.ref b59), .val (.long (0 : Int64)), .second, .unset, .unset] [(.double z78), (.int (0 : Int32)), (.ref b59)])) _
      refine st62 _ ?_
      show Steps p.tables e below (T62.setTop (mkF m 80 #[.val (.int p0), .val (.int p1), .val (.int p2), .val (.int p3), .val (.int (3 : Int32)), .val (.int z6), .val (.int z13), .val (.int z17), .val (.int z24), .val (.int z28), .val (.int z35), .val (.int z42), .val (.ref b57), .val (.ref b59), .val (.long (0 : Int64)), .second, .unset, .unset] [])) _
      refine XS.aload X62.here hx rfl (hb hby at_80) rfl rfl ?_
      show Steps p.tables e below (T62.setTop (mkF m 82 #[.val (.int p0), .val (.int p1), .val (.int p2), .val (.int p3), .val (.int (3 : Int32)), .val (.int z6), .val (.int z13), .val (.int z17), .val (.int z24), .val (.int z28), .val (.int z35), .val (.int z42), .val (.ref b57), .val (.ref b59), .val (.long (0 : Int64)), .second, .unset, .unset] [(.ref b57)])) _
      refine XS.iconst X62.here hx rfl (hb hby at_82) ?_
      show Steps p.tables e below (T62.setTop (mkF m 83 #[.val (.int p0), .val (.int p1), .val (.int p2), .val (.int p3), .val (.int (3 : Int32)), .val (.int z6), .val (.int z13), .val (.int z17), .val (.int z24), .val (.int z28), .val (.int z35), .val (.int z42), .val (.ref b57), .val (.ref b59), .val (.long (0 : Int64)), .second, .unset, .unset] [(.int (0 : Int32)), (.ref b57)])) _
      refine XS.iload X62.here hx rfl (hb hby at_83) rfl ?_
      show Steps p.tables e below (T62.setTop (mkF m 85 #[.val (.int p0), .val (.int p1), .val (.int p2), .val (.int p3), .val (.int (3 : Int32)), .val (.int z6), .val (.int z13), .val (.int z17), .val (.int z24), .val (.int z28), .val (.int z35), .val (.int z42), .val (.ref b57), .val (.ref b59), .val (.long (0 : Int64)), .second, .unset, .unset] [(.int z13), (.int (0 : Int32)), (.ref b57)])) _
      refine XS.i2dS X62.here hx rfl (hb hby at_85) rfl hz85 ?_
      show Steps p.tables e below (T62.setTop (mkF m 86 #[.val (.int p0), .val (.int p1), .val (.int p2), .val (.int p3), .val (.int (3 : Int32)), .val (.int z6), .val (.int z13), .val (.int z17), .val (.int z24), .val (.int z28), .val (.int z35), .val (.int z42), .val (.ref b57), .val (.ref b59), .val (.long (0 : Int64)), .second, .unset, .unset] [(.double z85), (.int (0 : Int32)), (.ref b57)])) _
      refine st66 _ ?_
      show Steps p.tables e below (T66.setTop (mkF m 87 #[.val (.int p0), .val (.int p1), .val (.int p2), .val (.int p3), .val (.int (3 : Int32)), .val (.int z6), .val (.int z13), .val (.int z17), .val (.int z24), .val (.int z28), .val (.int z35), .val (.int z42), .val (.ref b57), .val (.ref b59), .val (.long (0 : Int64)), .second, .unset, .unset] [])) _
      refine XS.lload X66.here hx rfl (hb hby at_87) rfl ?_
      show Steps p.tables e below (T66.setTop (mkF m 89 #[.val (.int p0), .val (.int p1), .val (.int p2), .val (.int p3), .val (.int (3 : Int32)), .val (.int z6), .val (.int z13), .val (.int z17), .val (.int z24), .val (.int z28), .val (.int z35), .val (.int z42), .val (.ref b57), .val (.ref b59), .val (.long (0 : Int64)), .second, .unset, .unset] [(.long (0 : Int64))])) _
      refine XS.iload X66.here hx rfl (hb hby at_89) rfl ?_
      show Steps p.tables e below (T66.setTop (mkF m 91 #[.val (.int p0), .val (.int p1), .val (.int p2), .val (.int p3), .val (.int (3 : Int32)), .val (.int z6), .val (.int z13), .val (.int z17), .val (.int z24), .val (.int z28), .val (.int z35), .val (.int z42), .val (.ref b57), .val (.ref b59), .val (.long (0 : Int64)), .second, .unset, .unset] [(.int z6), (.long (0 : Int64))])) _
      refine Jvm.OwnK.i2l X66.here hx rfl (hb hby at_91) rfl hz91 ?_
      show Steps p.tables e below (T66.setTop (mkF m 92 #[.val (.int p0), .val (.int p1), .val (.int p2), .val (.int p3), .val (.int (3 : Int32)), .val (.int z6), .val (.int z13), .val (.int z17), .val (.int z24), .val (.int z28), .val (.int z35), .val (.int z42), .val (.ref b57), .val (.ref b59), .val (.long (0 : Int64)), .second, .unset, .unset] [(.long z91), (.long (0 : Int64))])) _
      refine XS.iload X66.here hx rfl (hb hby at_92) rfl ?_
      show Steps p.tables e below (T66.setTop (mkF m 94 #[.val (.int p0), .val (.int p1), .val (.int p2), .val (.int p3), .val (.int (3 : Int32)), .val (.int z6), .val (.int z13), .val (.int z17), .val (.int z24), .val (.int z28), .val (.int z35), .val (.int z42), .val (.ref b57), .val (.ref b59), .val (.long (0 : Int64)), .second, .unset, .unset] [(.int z13), (.long z91), (.long (0 : Int64))])) _
      refine Jvm.OwnK.i2l X66.here hx rfl (hb hby at_94) rfl hz94 ?_
      show Steps p.tables e below (T66.setTop (mkF m 95 #[.val (.int p0), .val (.int p1), .val (.int p2), .val (.int p3), .val (.int (3 : Int32)), .val (.int z6), .val (.int z13), .val (.int z17), .val (.int z24), .val (.int z28), .val (.int z35), .val (.int z42), .val (.ref b57), .val (.ref b59), .val (.long (0 : Int64)), .second, .unset, .unset] [(.long z94), (.long z91), (.long (0 : Int64))])) _
      refine Jvm.OwnK.lmul X66.here hx rfl (hb hby at_95) rfl hz95 ?_
      show Steps p.tables e below (T66.setTop (mkF m 96 #[.val (.int p0), .val (.int p1), .val (.int p2), .val (.int p3), .val (.int (3 : Int32)), .val (.int z6), .val (.int z13), .val (.int z17), .val (.int z24), .val (.int z28), .val (.int z35), .val (.int z42), .val (.ref b57), .val (.ref b59), .val (.long (0 : Int64)), .second, .unset, .unset] [(.long z95), (.long (0 : Int64))])) _
      refine Jvm.OwnK.ladd X66.here hx rfl (hb hby at_96) rfl hz96 ?_
      show Steps p.tables e below (T66.setTop (mkF m 97 #[.val (.int p0), .val (.int p1), .val (.int p2), .val (.int p3), .val (.int (3 : Int32)), .val (.int z6), .val (.int z13), .val (.int z17), .val (.int z24), .val (.int z28), .val (.int z35), .val (.int z42), .val (.ref b57), .val (.ref b59), .val (.long (0 : Int64)), .second, .unset, .unset] [(.long z96)])) _
      refine XS.lstore X66.here hx rfl (hb hby at_97) rfl (l' := #[.val (.int p0), .val (.int p1), .val (.int p2), .val (.int p3), .val (.int (3 : Int32)), .val (.int z6), .val (.int z13), .val (.int z17), .val (.int z24), .val (.int z28), .val (.int z35), .val (.int z42), .val (.ref b57), .val (.ref b59), .val (.long z96), .second, .unset, .unset]) rfl ?_
      show Steps p.tables e below (T66.setTop (mkF m 99 #[.val (.int p0), .val (.int p1), .val (.int p2), .val (.int p3), .val (.int (3 : Int32)), .val (.int z6), .val (.int z13), .val (.int z17), .val (.int z24), .val (.int z28), .val (.int z35), .val (.int z42), .val (.ref b57), .val (.ref b59), .val (.long z96), .second, .unset, .unset] [])) _
      refine XS.iload X66.here hx rfl (hb hby at_99) rfl ?_
      show Steps p.tables e below (T66.setTop (mkF m 101 #[.val (.int p0), .val (.int p1), .val (.int p2), .val (.int p3), .val (.int (3 : Int32)), .val (.int z6), .val (.int z13), .val (.int z17), .val (.int z24), .val (.int z28), .val (.int z35), .val (.int z42), .val (.ref b57), .val (.ref b59), .val (.long z96), .second, .unset, .unset] [(.int (3 : Int32))])) _
      refine XS.iconst X66.here hx rfl (hb hby at_101) ?_
      show Steps p.tables e below (T66.setTop (mkF m 102 #[.val (.int p0), .val (.int p1), .val (.int p2), .val (.int p3), .val (.int (3 : Int32)), .val (.int z6), .val (.int z13), .val (.int z17), .val (.int z24), .val (.int z28), .val (.int z35), .val (.int z42), .val (.ref b57), .val (.ref b59), .val (.long z96), .second, .unset, .unset] [(.int (1 : Int32)), (.int (3 : Int32))])) _
      refine XS.icmpNo X66.here hx rfl (hb hby at_102) rfl (Jvm.Free.XT.ii_le_f (by decide)) ?_
      show Steps p.tables e below (T66.setTop (mkF m 105 #[.val (.int p0), .val (.int p1), .val (.int p2), .val (.int p3), .val (.int (3 : Int32)), .val (.int z6), .val (.int z13), .val (.int z17), .val (.int z24), .val (.int z28), .val (.int z35), .val (.int z42), .val (.ref b57), .val (.ref b59), .val (.long z96), .second, .unset, .unset] [])) _
      refine XS.aload X66.here hx rfl (hb hby at_105) rfl rfl ?_
      show Steps p.tables e below (T66.setTop (mkF m 107 #[.val (.int p0), .val (.int p1), .val (.int p2), .val (.int p3), .val (.int (3 : Int32)), .val (.int z6), .val (.int z13), .val (.int z17), .val (.int z24), .val (.int z28), .val (.int z35), .val (.int z42), .val (.ref b57), .val (.ref b59), .val (.long z96), .second, .unset, .unset] [(.ref b59)])) _
      refine XS.iconst X66.here hx rfl (hb hby at_107) ?_
      show Steps p.tables e below (T66.setTop (mkF m 108 #[.val (.int p0), .val (.int p1), .val (.int p2), .val (.int p3), .val (.int (3 : Int32)), .val (.int z6), .val (.int z13), .val (.int z17), .val (.int z24), .val (.int z28), .val (.int z35), .val (.int z42), .val (.ref b57), .val (.ref b59), .val (.long z96), .second, .unset, .unset] [(.int (1 : Int32)), (.ref b59)])) _
      refine XS.iload X66.here hx rfl (hb hby at_108) rfl ?_
      show Steps p.tables e below (T66.setTop (mkF m 110 #[.val (.int p0), .val (.int p1), .val (.int p2), .val (.int p3), .val (.int (3 : Int32)), .val (.int z6), .val (.int z13), .val (.int z17), .val (.int z24), .val (.int z28), .val (.int z35), .val (.int z42), .val (.ref b57), .val (.ref b59), .val (.long z96), .second, .unset, .unset] [(.int z17), (.int (1 : Int32)), (.ref b59)])) _
      refine XS.i2dS X66.here hx rfl (hb hby at_110) rfl hz110 ?_
      show Steps p.tables e below (T66.setTop (mkF m 111 #[.val (.int p0), .val (.int p1), .val (.int p2), .val (.int p3), .val (.int (3 : Int32)), .val (.int z6), .val (.int z13), .val (.int z17), .val (.int z24), .val (.int z28), .val (.int z35), .val (.int z42), .val (.ref b57), .val (.ref b59), .val (.long z96), .second, .unset, .unset] [(.double z110), (.int (1 : Int32)), (.ref b59)])) _
      refine st70 _ ?_
      show Steps p.tables e below (T70.setTop (mkF m 112 #[.val (.int p0), .val (.int p1), .val (.int p2), .val (.int p3), .val (.int (3 : Int32)), .val (.int z6), .val (.int z13), .val (.int z17), .val (.int z24), .val (.int z28), .val (.int z35), .val (.int z42), .val (.ref b57), .val (.ref b59), .val (.long z96), .second, .unset, .unset] [])) _
      refine XS.aload X70.here hx rfl (hb hby at_112) rfl rfl ?_
      show Steps p.tables e below (T70.setTop (mkF m 114 #[.val (.int p0), .val (.int p1), .val (.int p2), .val (.int p3), .val (.int (3 : Int32)), .val (.int z6), .val (.int z13), .val (.int z17), .val (.int z24), .val (.int z28), .val (.int z35), .val (.int z42), .val (.ref b57), .val (.ref b59), .val (.long z96), .second, .unset, .unset] [(.ref b57)])) _
      refine XS.iconst X70.here hx rfl (hb hby at_114) ?_
      show Steps p.tables e below (T70.setTop (mkF m 115 #[.val (.int p0), .val (.int p1), .val (.int p2), .val (.int p3), .val (.int (3 : Int32)), .val (.int z6), .val (.int z13), .val (.int z17), .val (.int z24), .val (.int z28), .val (.int z35), .val (.int z42), .val (.ref b57), .val (.ref b59), .val (.long z96), .second, .unset, .unset] [(.int (1 : Int32)), (.ref b57)])) _
      refine XS.iload X70.here hx rfl (hb hby at_115) rfl ?_
      show Steps p.tables e below (T70.setTop (mkF m 117 #[.val (.int p0), .val (.int p1), .val (.int p2), .val (.int p3), .val (.int (3 : Int32)), .val (.int z6), .val (.int z13), .val (.int z17), .val (.int z24), .val (.int z28), .val (.int z35), .val (.int z42), .val (.ref b57), .val (.ref b59), .val (.long z96), .second, .unset, .unset] [(.int z24), (.int (1 : Int32)), (.ref b57)])) _
      refine XS.i2dS X70.here hx rfl (hb hby at_117) rfl hz117 ?_
      show Steps p.tables e below (T70.setTop (mkF m 118 #[.val (.int p0), .val (.int p1), .val (.int p2), .val (.int p3), .val (.int (3 : Int32)), .val (.int z6), .val (.int z13), .val (.int z17), .val (.int z24), .val (.int z28), .val (.int z35), .val (.int z42), .val (.ref b57), .val (.ref b59), .val (.long z96), .second, .unset, .unset] [(.double z117), (.int (1 : Int32)), (.ref b57)])) _
      refine st74 _ ?_
      show Steps p.tables e below (T74.setTop (mkF m 119 #[.val (.int p0), .val (.int p1), .val (.int p2), .val (.int p3), .val (.int (3 : Int32)), .val (.int z6), .val (.int z13), .val (.int z17), .val (.int z24), .val (.int z28), .val (.int z35), .val (.int z42), .val (.ref b57), .val (.ref b59), .val (.long z96), .second, .unset, .unset] [])) _
      refine XS.lload X74.here hx rfl (hb hby at_119) rfl ?_
      show Steps p.tables e below (T74.setTop (mkF m 121 #[.val (.int p0), .val (.int p1), .val (.int p2), .val (.int p3), .val (.int (3 : Int32)), .val (.int z6), .val (.int z13), .val (.int z17), .val (.int z24), .val (.int z28), .val (.int z35), .val (.int z42), .val (.ref b57), .val (.ref b59), .val (.long z96), .second, .unset, .unset] [(.long z96)])) _
      refine XS.iload X74.here hx rfl (hb hby at_121) rfl ?_
      show Steps p.tables e below (T74.setTop (mkF m 123 #[.val (.int p0), .val (.int p1), .val (.int p2), .val (.int p3), .val (.int (3 : Int32)), .val (.int z6), .val (.int z13), .val (.int z17), .val (.int z24), .val (.int z28), .val (.int z35), .val (.int z42), .val (.ref b57), .val (.ref b59), .val (.long z96), .second, .unset, .unset] [(.int z17), (.long z96)])) _
      refine Jvm.OwnK.i2l X74.here hx rfl (hb hby at_123) rfl hz123 ?_
      show Steps p.tables e below (T74.setTop (mkF m 124 #[.val (.int p0), .val (.int p1), .val (.int p2), .val (.int p3), .val (.int (3 : Int32)), .val (.int z6), .val (.int z13), .val (.int z17), .val (.int z24), .val (.int z28), .val (.int z35), .val (.int z42), .val (.ref b57), .val (.ref b59), .val (.long z96), .second, .unset, .unset] [(.long z123), (.long z96)])) _
      refine XS.iload X74.here hx rfl (hb hby at_124) rfl ?_
      show Steps p.tables e below (T74.setTop (mkF m 126 #[.val (.int p0), .val (.int p1), .val (.int p2), .val (.int p3), .val (.int (3 : Int32)), .val (.int z6), .val (.int z13), .val (.int z17), .val (.int z24), .val (.int z28), .val (.int z35), .val (.int z42), .val (.ref b57), .val (.ref b59), .val (.long z96), .second, .unset, .unset] [(.int z24), (.long z123), (.long z96)])) _
      refine Jvm.OwnK.i2l X74.here hx rfl (hb hby at_126) rfl hz126 ?_
      show Steps p.tables e below (T74.setTop (mkF m 127 #[.val (.int p0), .val (.int p1), .val (.int p2), .val (.int p3), .val (.int (3 : Int32)), .val (.int z6), .val (.int z13), .val (.int z17), .val (.int z24), .val (.int z28), .val (.int z35), .val (.int z42), .val (.ref b57), .val (.ref b59), .val (.long z96), .second, .unset, .unset] [(.long z126), (.long z123), (.long z96)])) _
      refine Jvm.OwnK.lmul X74.here hx rfl (hb hby at_127) rfl hz127 ?_
      show Steps p.tables e below (T74.setTop (mkF m 128 #[.val (.int p0), .val (.int p1), .val (.int p2), .val (.int p3), .val (.int (3 : Int32)), .val (.int z6), .val (.int z13), .val (.int z17), .val (.int z24), .val (.int z28), .val (.int z35), .val (.int z42), .val (.ref b57), .val (.ref b59), .val (.long z96), .second, .unset, .unset] [(.long z127), (.long z96)])) _
      refine Jvm.OwnK.ladd X74.here hx rfl (hb hby at_128) rfl hz128 ?_
      show Steps p.tables e below (T74.setTop (mkF m 129 #[.val (.int p0), .val (.int p1), .val (.int p2), .val (.int p3), .val (.int (3 : Int32)), .val (.int z6), .val (.int z13), .val (.int z17), .val (.int z24), .val (.int z28), .val (.int z35), .val (.int z42), .val (.ref b57), .val (.ref b59), .val (.long z96), .second, .unset, .unset] [(.long z128)])) _
      refine XS.lstore X74.here hx rfl (hb hby at_129) rfl (l' := #[.val (.int p0), .val (.int p1), .val (.int p2), .val (.int p3), .val (.int (3 : Int32)), .val (.int z6), .val (.int z13), .val (.int z17), .val (.int z24), .val (.int z28), .val (.int z35), .val (.int z42), .val (.ref b57), .val (.ref b59), .val (.long z128), .second, .unset, .unset]) rfl ?_
      show Steps p.tables e below (T74.setTop (mkF m 131 #[.val (.int p0), .val (.int p1), .val (.int p2), .val (.int p3), .val (.int (3 : Int32)), .val (.int z6), .val (.int z13), .val (.int z17), .val (.int z24), .val (.int z28), .val (.int z35), .val (.int z42), .val (.ref b57), .val (.ref b59), .val (.long z128), .second, .unset, .unset] [])) _
      refine XS.iload X74.here hx rfl (hb hby at_131) rfl ?_
      show Steps p.tables e below (T74.setTop (mkF m 133 #[.val (.int p0), .val (.int p1), .val (.int p2), .val (.int p3), .val (.int (3 : Int32)), .val (.int z6), .val (.int z13), .val (.int z17), .val (.int z24), .val (.int z28), .val (.int z35), .val (.int z42), .val (.ref b57), .val (.ref b59), .val (.long z128), .second, .unset, .unset] [(.int (3 : Int32))])) _
      refine XS.iconst X74.here hx rfl (hb hby at_133) ?_
      show Steps p.tables e below (T74.setTop (mkF m 134 #[.val (.int p0), .val (.int p1), .val (.int p2), .val (.int p3), .val (.int (3 : Int32)), .val (.int z6), .val (.int z13), .val (.int z17), .val (.int z24), .val (.int z28), .val (.int z35), .val (.int z42), .val (.ref b57), .val (.ref b59), .val (.long z128), .second, .unset, .unset] [(.int (2 : Int32)), (.int (3 : Int32))])) _
      refine XS.icmpNo X74.here hx rfl (hb hby at_134) rfl (Jvm.Free.XT.ii_le_f (by decide)) ?_
      show Steps p.tables e below (T74.setTop (mkF m 137 #[.val (.int p0), .val (.int p1), .val (.int p2), .val (.int p3), .val (.int (3 : Int32)), .val (.int z6), .val (.int z13), .val (.int z17), .val (.int z24), .val (.int z28), .val (.int z35), .val (.int z42), .val (.ref b57), .val (.ref b59), .val (.long z128), .second, .unset, .unset] [])) _
      refine XS.aload X74.here hx rfl (hb hby at_137) rfl rfl ?_
      show Steps p.tables e below (T74.setTop (mkF m 139 #[.val (.int p0), .val (.int p1), .val (.int p2), .val (.int p3), .val (.int (3 : Int32)), .val (.int z6), .val (.int z13), .val (.int z17), .val (.int z24), .val (.int z28), .val (.int z35), .val (.int z42), .val (.ref b57), .val (.ref b59), .val (.long z128), .second, .unset, .unset] [(.ref b59)])) _
      refine XS.iconst X74.here hx rfl (hb hby at_139) ?_
      show Steps p.tables e below (T74.setTop (mkF m 140 #[.val (.int p0), .val (.int p1), .val (.int p2), .val (.int p3), .val (.int (3 : Int32)), .val (.int z6), .val (.int z13), .val (.int z17), .val (.int z24), .val (.int z28), .val (.int z35), .val (.int z42), .val (.ref b57), .val (.ref b59), .val (.long z128), .second, .unset, .unset] [(.int (2 : Int32)), (.ref b59)])) _
      refine XS.iload X74.here hx rfl (hb hby at_140) rfl ?_
      show Steps p.tables e below (T74.setTop (mkF m 142 #[.val (.int p0), .val (.int p1), .val (.int p2), .val (.int p3), .val (.int (3 : Int32)), .val (.int z6), .val (.int z13), .val (.int z17), .val (.int z24), .val (.int z28), .val (.int z35), .val (.int z42), .val (.ref b57), .val (.ref b59), .val (.long z128), .second, .unset, .unset] [(.int z28), (.int (2 : Int32)), (.ref b59)])) _
      refine XS.i2dS X74.here hx rfl (hb hby at_142) rfl hz142 ?_
      show Steps p.tables e below (T74.setTop (mkF m 143 #[.val (.int p0), .val (.int p1), .val (.int p2), .val (.int p3), .val (.int (3 : Int32)), .val (.int z6), .val (.int z13), .val (.int z17), .val (.int z24), .val (.int z28), .val (.int z35), .val (.int z42), .val (.ref b57), .val (.ref b59), .val (.long z128), .second, .unset, .unset] [(.double z142), (.int (2 : Int32)), (.ref b59)])) _
      refine st78 _ ?_
      show Steps p.tables e below (T78.setTop (mkF m 144 #[.val (.int p0), .val (.int p1), .val (.int p2), .val (.int p3), .val (.int (3 : Int32)), .val (.int z6), .val (.int z13), .val (.int z17), .val (.int z24), .val (.int z28), .val (.int z35), .val (.int z42), .val (.ref b57), .val (.ref b59), .val (.long z128), .second, .unset, .unset] [])) _
      refine XS.aload X78.here hx rfl (hb hby at_144) rfl rfl ?_
      show Steps p.tables e below (T78.setTop (mkF m 146 #[.val (.int p0), .val (.int p1), .val (.int p2), .val (.int p3), .val (.int (3 : Int32)), .val (.int z6), .val (.int z13), .val (.int z17), .val (.int z24), .val (.int z28), .val (.int z35), .val (.int z42), .val (.ref b57), .val (.ref b59), .val (.long z128), .second, .unset, .unset] [(.ref b57)])) _
      refine XS.iconst X78.here hx rfl (hb hby at_146) ?_
      show Steps p.tables e below (T78.setTop (mkF m 147 #[.val (.int p0), .val (.int p1), .val (.int p2), .val (.int p3), .val (.int (3 : Int32)), .val (.int z6), .val (.int z13), .val (.int z17), .val (.int z24), .val (.int z28), .val (.int z35), .val (.int z42), .val (.ref b57), .val (.ref b59), .val (.long z128), .second, .unset, .unset] [(.int (2 : Int32)), (.ref b57)])) _
      refine XS.iload X78.here hx rfl (hb hby at_147) rfl ?_
      show Steps p.tables e below (T78.setTop (mkF m 149 #[.val (.int p0), .val (.int p1), .val (.int p2), .val (.int p3), .val (.int (3 : Int32)), .val (.int z6), .val (.int z13), .val (.int z17), .val (.int z24), .val (.int z28), .val (.int z35), .val (.int z42), .val (.ref b57), .val (.ref b59), .val (.long z128), .second, .unset, .unset] [(.int z35), (.int (2 : Int32)), (.ref b57)])) _
      refine XS.i2dS X78.here hx rfl (hb hby at_149) rfl hz149 ?_
      show Steps p.tables e below (T78.setTop (mkF m 150 #[.val (.int p0), .val (.int p1), .val (.int p2), .val (.int p3), .val (.int (3 : Int32)), .val (.int z6), .val (.int z13), .val (.int z17), .val (.int z24), .val (.int z28), .val (.int z35), .val (.int z42), .val (.ref b57), .val (.ref b59), .val (.long z128), .second, .unset, .unset] [(.double z149), (.int (2 : Int32)), (.ref b57)])) _
      refine st82 _ ?_
      show Steps p.tables e below (T82.setTop (mkF m 151 #[.val (.int p0), .val (.int p1), .val (.int p2), .val (.int p3), .val (.int (3 : Int32)), .val (.int z6), .val (.int z13), .val (.int z17), .val (.int z24), .val (.int z28), .val (.int z35), .val (.int z42), .val (.ref b57), .val (.ref b59), .val (.long z128), .second, .unset, .unset] [])) _
      refine XS.lload X82.here hx rfl (hb hby at_151) rfl ?_
      show Steps p.tables e below (T82.setTop (mkF m 153 #[.val (.int p0), .val (.int p1), .val (.int p2), .val (.int p3), .val (.int (3 : Int32)), .val (.int z6), .val (.int z13), .val (.int z17), .val (.int z24), .val (.int z28), .val (.int z35), .val (.int z42), .val (.ref b57), .val (.ref b59), .val (.long z128), .second, .unset, .unset] [(.long z128)])) _
      refine XS.iload X82.here hx rfl (hb hby at_153) rfl ?_
      show Steps p.tables e below (T82.setTop (mkF m 155 #[.val (.int p0), .val (.int p1), .val (.int p2), .val (.int p3), .val (.int (3 : Int32)), .val (.int z6), .val (.int z13), .val (.int z17), .val (.int z24), .val (.int z28), .val (.int z35), .val (.int z42), .val (.ref b57), .val (.ref b59), .val (.long z128), .second, .unset, .unset] [(.int z28), (.long z128)])) _
      refine Jvm.OwnK.i2l X82.here hx rfl (hb hby at_155) rfl hz155 ?_
      show Steps p.tables e below (T82.setTop (mkF m 156 #[.val (.int p0), .val (.int p1), .val (.int p2), .val (.int p3), .val (.int (3 : Int32)), .val (.int z6), .val (.int z13), .val (.int z17), .val (.int z24), .val (.int z28), .val (.int z35), .val (.int z42), .val (.ref b57), .val (.ref b59), .val (.long z128), .second, .unset, .unset] [(.long z155), (.long z128)])) _
      refine XS.iload X82.here hx rfl (hb hby at_156) rfl ?_
      show Steps p.tables e below (T82.setTop (mkF m 158 #[.val (.int p0), .val (.int p1), .val (.int p2), .val (.int p3), .val (.int (3 : Int32)), .val (.int z6), .val (.int z13), .val (.int z17), .val (.int z24), .val (.int z28), .val (.int z35), .val (.int z42), .val (.ref b57), .val (.ref b59), .val (.long z128), .second, .unset, .unset] [(.int z35), (.long z155), (.long z128)])) _
      refine Jvm.OwnK.i2l X82.here hx rfl (hb hby at_158) rfl hz158 ?_
      show Steps p.tables e below (T82.setTop (mkF m 159 #[.val (.int p0), .val (.int p1), .val (.int p2), .val (.int p3), .val (.int (3 : Int32)), .val (.int z6), .val (.int z13), .val (.int z17), .val (.int z24), .val (.int z28), .val (.int z35), .val (.int z42), .val (.ref b57), .val (.ref b59), .val (.long z128), .second, .unset, .unset] [(.long z158), (.long z155), (.long z128)])) _
      refine Jvm.OwnK.lmul X82.here hx rfl (hb hby at_159) rfl hz159 ?_
      show Steps p.tables e below (T82.setTop (mkF m 160 #[.val (.int p0), .val (.int p1), .val (.int p2), .val (.int p3), .val (.int (3 : Int32)), .val (.int z6), .val (.int z13), .val (.int z17), .val (.int z24), .val (.int z28), .val (.int z35), .val (.int z42), .val (.ref b57), .val (.ref b59), .val (.long z128), .second, .unset, .unset] [(.long z159), (.long z128)])) _
      refine Jvm.OwnK.ladd X82.here hx rfl (hb hby at_160) rfl hz160 ?_
      show Steps p.tables e below (T82.setTop (mkF m 161 #[.val (.int p0), .val (.int p1), .val (.int p2), .val (.int p3), .val (.int (3 : Int32)), .val (.int z6), .val (.int z13), .val (.int z17), .val (.int z24), .val (.int z28), .val (.int z35), .val (.int z42), .val (.ref b57), .val (.ref b59), .val (.long z128), .second, .unset, .unset] [(.long z160)])) _
      refine XS.lstore X82.here hx rfl (hb hby at_161) rfl (l' := #[.val (.int p0), .val (.int p1), .val (.int p2), .val (.int p3), .val (.int (3 : Int32)), .val (.int z6), .val (.int z13), .val (.int z17), .val (.int z24), .val (.int z28), .val (.int z35), .val (.int z42), .val (.ref b57), .val (.ref b59), .val (.long z160), .second, .unset, .unset]) rfl ?_
      show Steps p.tables e below (T82.setTop (mkF m 163 #[.val (.int p0), .val (.int p1), .val (.int p2), .val (.int p3), .val (.int (3 : Int32)), .val (.int z6), .val (.int z13), .val (.int z17), .val (.int z24), .val (.int z28), .val (.int z35), .val (.int z42), .val (.ref b57), .val (.ref b59), .val (.long z160), .second, .unset, .unset] [])) _
      refine XS.aload X82.here hx rfl (hb hby at_163) rfl rfl ?_
      show Steps p.tables e below (T82.setTop (mkF m 165 #[.val (.int p0), .val (.int p1), .val (.int p2), .val (.int p3), .val (.int (3 : Int32)), .val (.int z6), .val (.int z13), .val (.int z17), .val (.int z24), .val (.int z28), .val (.int z35), .val (.int z42), .val (.ref b57), .val (.ref b59), .val (.long z160), .second, .unset, .unset] [(.ref b59)])) _
      refine XS.iload X82.here hx rfl (hb hby at_165) rfl ?_
      show Steps p.tables e below (T82.setTop (mkF m 167 #[.val (.int p0), .val (.int p1), .val (.int p2), .val (.int p3), .val (.int (3 : Int32)), .val (.int z6), .val (.int z13), .val (.int z17), .val (.int z24), .val (.int z28), .val (.int z35), .val (.int z42), .val (.ref b57), .val (.ref b59), .val (.long z160), .second, .unset, .unset] [(.int (3 : Int32)), (.ref b59)])) _
      refine XS.iload X82.here hx rfl (hb hby at_167) rfl ?_
      show Steps p.tables e below (T82.setTop (mkF m 169 #[.val (.int p0), .val (.int p1), .val (.int p2), .val (.int p3), .val (.int (3 : Int32)), .val (.int z6), .val (.int z13), .val (.int z17), .val (.int z24), .val (.int z28), .val (.int z35), .val (.int z42), .val (.ref b57), .val (.ref b59), .val (.long z160), .second, .unset, .unset] [(.int z42), (.int (3 : Int32)), (.ref b59)])) _
      refine XS.i2dS X82.here hx rfl (hb hby at_169) rfl hz169 ?_
      show Steps p.tables e below (T82.setTop (mkF m 170 #[.val (.int p0), .val (.int p1), .val (.int p2), .val (.int p3), .val (.int (3 : Int32)), .val (.int z6), .val (.int z13), .val (.int z17), .val (.int z24), .val (.int z28), .val (.int z35), .val (.int z42), .val (.ref b57), .val (.ref b59), .val (.long z160), .second, .unset, .unset] [(.double z169), (.int (3 : Int32)), (.ref b59)])) _
      refine st86 _ ?_
      show Steps p.tables e below (T86.setTop (mkF m 171 #[.val (.int p0), .val (.int p1), .val (.int p2), .val (.int p3), .val (.int (3 : Int32)), .val (.int z6), .val (.int z13), .val (.int z17), .val (.int z24), .val (.int z28), .val (.int z35), .val (.int z42), .val (.ref b57), .val (.ref b59), .val (.long z160), .second, .unset, .unset] [])) _
      refine XS.aload X86.here hx rfl (hb hby at_171) rfl rfl ?_
      show Steps p.tables e below (T86.setTop (mkF m 173 #[.val (.int p0), .val (.int p1), .val (.int p2), .val (.int p3), .val (.int (3 : Int32)), .val (.int z6), .val (.int z13), .val (.int z17), .val (.int z24), .val (.int z28), .val (.int z35), .val (.int z42), .val (.ref b57), .val (.ref b59), .val (.long z160), .second, .unset, .unset] [(.ref b59)])) _
      refine XS.aload X86.here hx rfl (hb hby at_173) rfl rfl ?_
      show Steps p.tables e below (T86.setTop (mkF m 175 #[.val (.int p0), .val (.int p1), .val (.int p2), .val (.int p3), .val (.int (3 : Int32)), .val (.int z6), .val (.int z13), .val (.int z17), .val (.int z24), .val (.int z28), .val (.int z35), .val (.int z42), .val (.ref b57), .val (.ref b59), .val (.long z160), .second, .unset, .unset] [(.ref b57), (.ref b59)])) _
      refine st89 _ ?_
      show Steps p.tables e below (T89.setTop (mkF m 178 #[.val (.int p0), .val (.int p1), .val (.int p2), .val (.int p3), .val (.int (3 : Int32)), .val (.int z6), .val (.int z13), .val (.int z17), .val (.int z24), .val (.int z28), .val (.int z35), .val (.int z42), .val (.ref b57), .val (.ref b59), .val (.long z160), .second, .unset, .unset] [(.double c175_z22_3)])) _
      refine XS.dstore X89.here hx rfl (hb hby at_178) rfl (l' := #[.val (.int p0), .val (.int p1), .val (.int p2), .val (.int p3), .val (.int (3 : Int32)), .val (.int z6), .val (.int z13), .val (.int z17), .val (.int z24), .val (.int z28), .val (.int z35), .val (.int z42), .val (.ref b57), .val (.ref b59), .val (.long z160), .second, .val (.double c175_z22_3), .second]) rfl ?_
      show Steps p.tables e below (T89.setTop (mkF m 180 #[.val (.int p0), .val (.int p1), .val (.int p2), .val (.int p3), .val (.int (3 : Int32)), .val (.int z6), .val (.int z13), .val (.int z17), .val (.int z24), .val (.int z28), .val (.int z35), .val (.int z42), .val (.ref b57), .val (.ref b59), .val (.long z160), .second, .val (.double c175_z22_3), .second] [])) _
      refine XS.dload X89.here hx rfl (hb hby at_180) rfl ?_
      show Steps p.tables e below (T89.setTop (mkF m 182 #[.val (.int p0), .val (.int p1), .val (.int p2), .val (.int p3), .val (.int (3 : Int32)), .val (.int z6), .val (.int z13), .val (.int z17), .val (.int z24), .val (.int z28), .val (.int z35), .val (.int z42), .val (.ref b57), .val (.ref b59), .val (.long z160), .second, .val (.double c175_z22_3), .second] [(.double c175_z22_3)])) _
      refine XS.lload X89.here hx rfl (hb hby at_182) rfl ?_
      show Steps p.tables e below (T89.setTop (mkF m 184 #[.val (.int p0), .val (.int p1), .val (.int p2), .val (.int p3), .val (.int (3 : Int32)), .val (.int z6), .val (.int z13), .val (.int z17), .val (.int z24), .val (.int z28), .val (.int z35), .val (.int z42), .val (.ref b57), .val (.ref b59), .val (.long z160), .second, .val (.double c175_z22_3), .second] [(.long z160), (.double c175_z22_3)])) _
      refine XS.l2dS X89.here hx rfl (hb hby at_184) rfl hz184 ?_
      show Steps p.tables e below (T89.setTop (mkF m 185 #[.val (.int p0), .val (.int p1), .val (.int p2), .val (.int p3), .val (.int (3 : Int32)), .val (.int z6), .val (.int z13), .val (.int z17), .val (.int z24), .val (.int z28), .val (.int z35), .val (.int z42), .val (.ref b57), .val (.ref b59), .val (.long z160), .second, .val (.double c175_z22_3), .second] [(.double z184), (.double c175_z22_3)])) _
      refine XS.dcmpS X89.here hx rfl (hb hby at_185) rfl hz185 ?_
      show Steps p.tables e below (T89.setTop (mkF m 186 #[.val (.int p0), .val (.int p1), .val (.int p2), .val (.int p3), .val (.int (3 : Int32)), .val (.int z6), .val (.int z13), .val (.int z17), .val (.int z24), .val (.int z28), .val (.int z35), .val (.int z42), .val (.ref b57), .val (.ref b59), .val (.long z160), .second, .val (.double c175_z22_3), .second] [(.int z185)])) _
      refine XS.ifNo X89.here hx rfl (hb hby at_186) rfl (Jvm.Free.XT.i0_ne_f br186) ?_
      show Steps p.tables e below (T89.setTop (mkF m 189 #[.val (.int p0), .val (.int p1), .val (.int p2), .val (.int p3), .val (.int (3 : Int32)), .val (.int z6), .val (.int z13), .val (.int z17), .val (.int z24), .val (.int z28), .val (.int z35), .val (.int z42), .val (.ref b57), .val (.ref b59), .val (.long z160), .second, .val (.double c175_z22_3), .second] [])) _
      refine XS.iconst X89.here hx rfl (hb hby at_189) ?_
      show Steps p.tables e below (T89.setTop (mkF m 190 #[.val (.int p0), .val (.int p1), .val (.int p2), .val (.int p3), .val (.int (3 : Int32)), .val (.int z6), .val (.int z13), .val (.int z17), .val (.int z24), .val (.int z28), .val (.int z35), .val (.int z42), .val (.ref b57), .val (.ref b59), .val (.long z160), .second, .val (.double c175_z22_3), .second] [(.int (1 : Int32))])) _
      refine XS.goto X89.here hx rfl (pc0 := 190) (pc' := 194) rfl (hb hby at_190) (by decide) (by decide) ?_
      exact k
    obtain ⟨fs, hr, hrun, hended, hW, hsame⟩ := X89.leave (v := some (.int (1 : Int32))) (fun h => by rw [Bd.returns] at h; cases h)
    refine ⟨_, _, c90 _ ?_, hrun, hended, _, _, rfl, ?_, ⟨_, rfl⟩, hW, hsame.mono (by decide) (by decide)⟩
    · show Steps p.tables e below (T89.setTop (mkF m 194 #[.val (.int p0), .val (.int p1), .val (.int p2), .val (.int p3), .val (.int (3 : Int32)), .val (.int z6), .val (.int z13), .val (.int z17), .val (.int z24), .val (.int z28), .val (.int z35), .val (.int z42), .val (.ref b57), .val (.ref b59), .val (.long z160), .second, .val (.double c175_z22_3), .second] [(.int (1 : Int32))])) _
      exact retOut X89 hx Bd.returns rfl (Or.inl ⟨rfl, by simp, _, rfl⟩) (hb hby at_194) hr
    · show Q0 n0 _ T89.heap _
      rw [e89]
      exact ⟨rfl, by first | assumption | exact N0⟩
set_option maxRecDepth 65536 in
set_option maxHeartbeats 40000000 in
theorem comes_1 {Post : Tables → Env → Array Value → State → Outcome → State → Prop} (hpost : ∀ tb e args s v u, (limb_1_1.after args s (.returned v) u = true ∧ limb_1_2.after args s (.returned v) u = true ∧ True) → FrameEnd s (.returned v) u (Jvm.fieldLocs frame_1_writes args s ++ Jvm.arrayLocs frame_1_arrays args s ++ Jvm.staticLocs frame_1_statics s) 16 128 → Post tb e args s (.returned v) u) :
    ArmFor flags0 classFile x code maxLocals ret World_1 tables_1 room_1 Calls_1 rest_1 Pre_1 Post := by
  intro l hfl _ _ p e ha hc hk s m args below hf hA hF happ hP
  obtain ⟨hcalls, hrest, hpre⟩ := hP
  obtain ⟨-, -, -, hnamed, -, -, -, hat⟩ := (Spec.applies_iff hf).mp happ
  obtain ⟨hg, hn⟩ := and_e (Cond.before_iff.mp (show (Jvm.Cond.and given_1 narrow_1).before args s = true from hpre))
  obtain ⟨g1, g2⟩ := and_e hg
  obtain ⟨g3, g4⟩ := and_e g2
  obtain ⟨g5, g6⟩ := and_e g4
  obtain ⟨g7, g8⟩ := and_e g6
  obtain ⟨w0, w1, w2, w3, rfl⟩ : ∃ w0 w1 w2 w3 : Value, args = #[w0, w1, w2, w3] := by
    have hs : args.size = 4 := by simpa [Cond.value, given_1] using g1
    obtain ⟨L⟩ := args
    match L, hs with
    | [w0, w1, w2, w3], _ => exact ⟨w0, w1, w2, w3, rfl⟩
  have hw := fun d (hd : d ∈ tables_1) => atoms_spec (ws := Jvm.Cond.code x code maxLocals ret :: tables_1) hat d (List.mem_cons_of_mem _ hd)
  have hfit : Fit s := fun {y c} hc i hi => by
    obtain ⟨ha, rfl⟩ := Array.getElem?_eq_some_iff.mp hc
    have q := List.all_eq_true.mp ((Array.all_eq_true_iff_forall_mem.mp hF) _ (Array.getElem_mem ha)) i (List.mem_range.mpr hi)
    simpa [Array.getElem?_eq_getElem hi] using q
  obtain ⟨i0, ei0⟩ := is_v g3
  obtain rfl : w0 = (.int i0) := Option.some.inj ei0
  obtain ⟨i1, ei1⟩ := is_v g5
  obtain rfl : w1 = (.int i1) := Option.some.inj ei1
  obtain ⟨i2, ei2⟩ := is_v g7
  obtain rfl : w2 = (.int i2) := Option.some.inj ei2
  obtain ⟨i3, ei3⟩ := is_v g8
  obtain rfl : w3 = (.int i3) := Option.some.inj ei3
  obtain ⟨n, o, h1, h2, h3, _, L, rfl, ⟨rfl, N⟩, hq⟩ := rm0 l s _ hw tables_1 i0 i1 i2 i3  s.heap s.heap.size (Nat.le_refl _)  p e ha hc hk s m _ below hf ((Spec.applies_iff_loose hf).mp happ).1 ⟨rfl, State.Warmed39.refl s, rfl⟩ trivial
  refine ⟨n, _, h1, h2, h3, hpost _ _ _ _ _ _ ⟨Cond.after_iff.mpr rfl, Cond.after_iff.mpr (eq_i res_at (Term.int_eval (1)) rfl), trivial⟩ ⟨hq.1, hq.2.1, (hq.2.2.sift fun y hy => Or.inr (N y hy)).mono (by decide) (by decide)⟩⟩
theorem main_1_1 : Claimed_1_1 := comes_1 fun _ _ _ _ _ _ h hF => ⟨h.1, hF⟩
theorem main_1_2 : Claimed_1_2 := comes_1 fun _ _ _ _ _ _ h hF => ⟨h.2.1, hF⟩
end Jvm.Pilot.@@N@@
namespace Jvm.Pilot.@@N@@
open Jvm Jvm.ClassFile Sem Op Lib Jvm.Free Jvm.Stand Jvm.Pilot.@@N@@.Jvm.D
/-! MADE BY PROGRAM (witnessworld.py) out of the Statement's table words and the real class files: 11 classes; the members and pool entries that the words name. The judged class is class 1, her method 1. -/
namespace start1
open Jvm.ClassFile
def u (s : String) : CpInfo := .utf8 (stringToUtf16 s)
/-- a pool by its gaps: so many unusable entries, then the entry; so many at the end -/
def gap : Nat → List CpInfo → List CpInfo
  | 0, r => r
  | n + 1, r => .unusable :: gap n r
def poolList (es : List (Nat × CpInfo)) (last : Nat) : List CpInfo := es.foldr (fun e r => gap e.1 (e.2 :: r)) (gap last [])
def pool (es : List (Nat × CpInfo)) (last : Nat) : Array CpInfo := ⟨poolList es last⟩
def fileOf (pool : Array CpInfo) (this : Nat) (attrs : Array Attribute := #[]) (ms : Array MethodInfo := #[]) (fl : Nat := 33) (sup : Nat := 0) (ifs : Array Nat := #[]) (fds : Array FieldInfo := #[]) : ClassFile where
  minorVersion := 0
  majorVersion := 65
  constantPool := pool
  accessFlags := fl
  thisClass := this
  superClass := sup
  interfaces := ifs
  fields := fds
  methods := ms
  attributes := attrs
def plain (name : String) (sup : Option ClassId) : Class where
  name := name
  kind := .ordinary
  loader := none
  accessFlags := 33
  super := sup
  interfaces := #[]
  cf := none
  fields := #[]
  methods := #[]
  instanceTypes := #[]
  staticTypes := #[]
  resolved := #[]
  callSites := []
  init := .initialized
  statics := none
  mirror := none

def pool0 : Array CpInfo := pool [(5, u "<init>"), (0, u "()V"), (1, .class_ 10), (1, u "java/lang/Object")] 113

def k0m0 : Method := { name := "<init>", desc := "()V", sig := { parameters := [], returnType := none }, accessFlags := 1, code := none }
/-- java/lang/Object -/
def k0 : Class := { plain "java/lang/Object" none with
  accessFlags := 33
  interfaces := #[]
  cf := some (fileOf pool0 8 #[] #[{ accessFlags := 1, nameIndex := 5, descriptorIndex := 6, attributes := #[] }] 33 0 #[] #[])
  fields := #[]
  methods := #[k0m0]
  instanceTypes := #[]
  staticTypes := #[]
  resolved := Array.replicate 124 none
  statics := none }

def pool1 : Array CpInfo := pool [(2, .class_ 4), (1, u "java/lang/Object"), (0, u "<init>"), (0, u "()V"), (0, .methodref 8 9), (0, .class_ 10), (0, .nameAndType 11 12), (0, u "com/example/credal_choice/credalchoice/model/Gambles"), (0, u "expectation"), (0, u "([D[D)D"), (0, .class_ 14), (0, u "com/example/credal_choice/credalchoice/model/GamblesExpectationPinLaw"), (2, u "law"), (0, u "(IIII)Z")] 5

def k1m0 : Method := { name := "<init>", desc := "()V", sig := { parameters := [], returnType := none }, accessFlags := 2, code := none }
def k1c1 : Code := { maxStack := 6, maxLocals := 18, code := code, exceptionTable := #[], attributes := #[] }
def k1m1 : Method := { name := "law", desc := "(IIII)Z", sig := { parameters := [.int, .int, .int, .int], returnType := some .boolean }, accessFlags := 9, code := some k1c1 }
/-- com/example/credal_choice/credalchoice/model/GamblesExpectationPinLaw -/
def k1 : Class := { plain "com/example/credal_choice/credalchoice/model/GamblesExpectationPinLaw" (some 0) with
  accessFlags := 49
  interfaces := #[]
  cf := some (fileOf pool1 13 #[] #[{ accessFlags := 2, nameIndex := 5, descriptorIndex := 6, attributes := #[] }, { accessFlags := 9, nameIndex := 17, descriptorIndex := 18, attributes := #[] }] 49 2 #[] #[])
  fields := #[]
  methods := #[k1m0, k1m1]
  instanceTypes := #[]
  staticTypes := #[]
  resolved := Array.replicate 24 none
  statics := none }

def pool2 : Array CpInfo := pool [(2, .class_ 4), (1, u "java/lang/Object"), (0, u "<init>"), (0, u "()V"), (9, .class_ 17), (0, u "com/example/credal_choice/credalchoice/model/Gambles"), (9, u "expectation"), (0, u "([D[D)D")] 17

def k2m0 : Method := { name := "<init>", desc := "()V", sig := { parameters := [], returnType := none }, accessFlags := 2, code := none }
def k2c1 : Code := { maxStack := 6, maxLocals := 5, code := prog_32_method_4_code, exceptionTable := #[], attributes := #[] }
def k2m1 : Method := { name := "expectation", desc := "([D[D)D", sig := { parameters := [(.array .double), (.array .double)], returnType := some .double }, accessFlags := 9, code := some k2c1 }
/-- com/example/credal_choice/credalchoice/model/Gambles -/
def k2 : Class := { plain "com/example/credal_choice/credalchoice/model/Gambles" (some 0) with
  accessFlags := 49
  interfaces := #[]
  cf := some (fileOf pool2 16 #[] #[{ accessFlags := 2, nameIndex := 5, descriptorIndex := 6, attributes := #[] }, { accessFlags := 9, nameIndex := 27, descriptorIndex := 28, attributes := #[] }] 49 2 #[] #[])
  fields := #[]
  methods := #[k2m0, k2m1]
  instanceTypes := #[]
  staticTypes := #[]
  resolved := Array.replicate 46 none
  statics := none }

def pool3 : Array CpInfo := pool [(1, u "java/lang/Cloneable"), (0, .class_ 1), (0, u "java/lang/Object"), (0, .class_ 3)] 3

/-- java/lang/Cloneable -/
def k3 : Class := { plain "java/lang/Cloneable" (some 0) with
  accessFlags := 1537
  interfaces := #[]
  cf := some (fileOf pool3 2 #[] #[] 1537 4 #[] #[])
  fields := #[]
  methods := #[]
  instanceTypes := #[]
  staticTypes := #[]
  resolved := Array.replicate 8 none
  statics := none }

def pool4 : Array CpInfo := pool [(1, u "java/io/Serializable"), (0, .class_ 1), (0, u "java/lang/Object"), (0, .class_ 3)] 3

/-- java/io/Serializable -/
def k4 : Class := { plain "java/io/Serializable" (some 0) with
  accessFlags := 1537
  interfaces := #[]
  cf := some (fileOf pool4 2 #[] #[] 1537 4 #[] #[])
  fields := #[]
  methods := #[]
  instanceTypes := #[]
  staticTypes := #[]
  resolved := Array.replicate 8 none
  statics := none }

/-- the primitive byte -/
def k5 : Class := { plain "byte" none with kind := .primitive 'B', accessFlags := 0x411 }
/-- [B -/
def k6 : Class := { plain "[B" (some 0) with kind := .array 5 .byte, interfaces := #[3, 4], accessFlags := 1041 }

/-- the primitive double -/
def k7 : Class := { plain "double" none with kind := .primitive 'D', accessFlags := 0x411 }
/-- [D -/
def k8 : Class := { plain "[D" (some 0) with kind := .array 7 .double, interfaces := #[3, 4], accessFlags := 1041 }

/-- the primitive int -/
def k9 : Class := { plain "int" none with kind := .primitive 'I', accessFlags := 0x411 }
/-- [I -/
def k10 : Class := { plain "[I" (some 0) with kind := .array 9 .int, interfaces := #[3, 4], accessFlags := 1041 }

def heap : Heap := #[]
def classes : Array Class := #[k0, k1, k2, k3, k4, k5, k6, k7, k8, k9, k10]
def interned : List (Array UInt16 × Addr) := []
def slotsUsed : Nat := 0
def theMethod : MethodId := ⟨1, 1⟩
def args0 : Array Value := #[.int 5, .int 5, .int 5, .int 5]
def aboutOver (below : List Frame) : State where
  vm := { classes := classes, interned := interned.toArray }
  heap := heap
  slotsUsed := slotsUsed
  threads := #[{ frames := .invoking theMethod args0 :: below }]
def below0 : List Frame := [.native { method := ⟨0, 0⟩, args := #[] }]
def about1 : State := aboutOver below0
def p0 : Program := .bare "" "" ""
def e0 : Env := launch0.env 0 0 0
theorem w_frames : about1.frames = Frame.invoking theMethod args0 :: below0 := rfl
set_option maxRecDepth 65536 in
theorem w_args : argsFit about1.vm theMethod args0 = true := by decide +kernel
set_option maxRecDepth 65536 in
theorem w_heap : heapFits about1 = true := by decide +kernel
set_option maxRecDepth 65536 in
theorem w_runnable : about1.curStatus? = some .runnable := by decide +kernel
set_option maxRecDepth 65536 in
theorem w_alone : about1.alone = true := by decide +kernel
set_option maxRecDepth 65536 in
theorem w_named : about1.methodNamed? x = some theMethod := by decide +kernel
set_option maxRecDepth 65536 in
theorem w_hears : about1.hears theMethod below0 = true := by decide +kernel
set_option maxRecDepth 65536 in
theorem w_ripe : about1.ripe theMethod args0 below0 = true := by decide +kernel
theorem w_running : about1.status = .running := rfl
set_option maxRecDepth 65536 in
theorem w_room : about1.hasRoom e0.platform room_1 = true :=
  launch0.hasRoom_least _ room_1 (by decide +kernel) (by decide +kernel) (by decide +kernel) (by decide +kernel) (by decide +kernel) (by decide +kernel)
theorem allAtoms_all (ts : List Jvm.Cond) (a : Array Jvm.Value) (st : Jvm.State) : (allAtoms ts).before a st = ts.all (fun c => c.before a st) := by
  induction ts with
  | nil => rfl
  | cons c t ih =>
    show (Jvm.Cond.and c (allAtoms t)).before a st = _
    rw [Jvm.Cond.before_and, ih, List.all_cons]
def words1 : List Jvm.Cond := Jvm.Cond.code x code maxLocals ret :: tables_1
/-- a 'code' word, met by the world's own term for the bytes: nothing is compared byte by byte -/
theorem code_word {y : MethodName} {bytes : ByteArray} {mx : Nat} {rt : Option FieldType} {a : Array Value} {s : State} {m : MethodId} {meth : Method} {c : Code} (h1 : s.methodNamed? y = some m) (h2 : s.vm.method? m = some meth) (h3 : meth.code = some c) (h4 : c.code = bytes)
    (h5 : (c.maxLocals == mx && c.exceptionTable.isEmpty && decide (c.maxStack ≤ mostOperands) && decide (meth.sig.returnType = rt) && !meth.locks && decide (parseMethodDescriptor y.desc = some meth.sig)) = true) : (Jvm.Cond.code y bytes mx rt).before a s = true := by
  simp only [Bool.and_eq_true, beq_iff_eq, Bool.not_eq_true', decide_eq_true_eq] at h5
  obtain ⟨⟨⟨⟨⟨g1, g2⟩, g3⟩, g4⟩, g5⟩, g6⟩ := h5
  simp [Cond.before, Cond.holds, Cond.value, h1, h2, h3, h4, g1, g2, g3, g4, g5, g6]
def isCode : Jvm.Cond → Bool
  | .code _ _ _ _ => true
  | _ => false
theorem all_split {L : List Jvm.Cond} {P : Jvm.Cond → Bool} (h1 : L.all (fun c => isCode c || P c) = true) (h2 : ∀ c ∈ L.filter isCode, P c = true) : L.all P = true := by
  refine List.all_eq_true.mpr fun c hc => ?_
  have h := List.all_eq_true.mp h1 c hc
  rcases Bool.eq_false_or_eq_true (isCode c) with hi | hi
  · exact h2 c (List.mem_filter.mpr ⟨hc, hi⟩)
  · simpa [hi] using h
set_option maxRecDepth 65536 in
theorem w_c0 : (Jvm.Cond.code x code maxLocals ret).before args0 about1 = true := code_word (m := ⟨1, 1⟩) (meth := k1m1) (c := k1c1) (by decide +kernel) rfl rfl rfl (by decide +kernel)
set_option maxRecDepth 65536 in
theorem w_c1 : (Jvm.Cond.code ({ cls := "com/example/credal_choice/credalchoice/model/Gambles", name := "expectation", desc := "([D[D)D" } : Jvm.MethodName) prog_32_method_4_code (5 : Nat) (Option.some Jvm.ClassFile.FieldType.double)).before args0 about1 = true := code_word (m := ⟨2, 1⟩) (meth := k2m1) (c := k2c1) (by decide +kernel) rfl rfl rfl (by decide +kernel)
def codes1 : List Jvm.Cond := [Jvm.Cond.code x code maxLocals ret, Jvm.Cond.code ({ cls := "com/example/credal_choice/credalchoice/model/Gambles", name := "expectation", desc := "([D[D)D" } : Jvm.MethodName) prog_32_method_4_code (5 : Nat) (Option.some Jvm.ClassFile.FieldType.double)]
set_option maxRecDepth 65536 in
theorem codes_eq : words1.filter isCode = codes1 := rfl
theorem w_codes : ∀ c ∈ words1.filter isCode, c.before args0 about1 = true := by
  rw [codes_eq]
  intro c hc
  simp only [codes1, List.mem_cons, List.not_mem_nil, or_false] at hc
  rcases hc with rfl | rfl
  · exact w_c0
  · exact w_c1
set_option maxRecDepth 65536 in
theorem w_t1 : words1.all (fun c => isCode c || c.before args0 about1) = true := by decide +kernel
theorem w_tables : (allAtoms (Jvm.Cond.code x code maxLocals ret :: tables_1)).before args0 about1 = true := by
  rw [allAtoms_all]
  show words1.all (fun c => c.before args0 about1) = true
  refine all_split ?_ w_codes
  rw [w_t1]
set_option maxRecDepth 65536 in
theorem w_case : (Jvm.Cond.and given_1 narrow_1).before args0 about1 = true := by decide +kernel
theorem w_applies : (headSpec (Jvm.Cond.code x code maxLocals ret :: tables_1) room_1).applies x e0.platform about1 = true :=
  (Spec.applies_iff w_frames).mpr ⟨w_running, w_runnable, w_alone, w_named, w_hears, w_ripe, w_room, w_tables⟩
theorem atStart : AtStart classFile x code maxLocals ret World_1 tables_1 room_1 Calls_1 rest_1 Pre_1 launch0 p0 e0 about1 theMethod args0 below0 :=
  ⟨lists_1, trivial, launch0.admits_env _ _ _, launch0.least_env, fairChoices_fair.cas, fairChoices_fair.clock, w_frames, w_args, w_heap, w_applies, trivial, trivial, w_case⟩
end start1
theorem witness_1 : WitnessClaimed_1 := ⟨start1.p0, start1.e0, start1.about1, start1.theMethod, start1.args0, start1.below0, start1.atStart⟩
end Jvm.Pilot.@@N@@
