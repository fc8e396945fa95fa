import JvmDerived
import JvmDerived.Pilot.@@N@@Statement
import JvmDerived.Pilot.@@N@@Code
set_option linter.unusedVariables false
set_option linter.unusedSimpArgs false
set_option maxHeartbeats 4000000
namespace Jvm.OwnK
open Sem ClassFile Op Lib Jvm.Free Jvm.Stand Jvm.LawKit Jvm.RoadKit
theorem iadd {tb : Tables} [Ours tb] {e : Env} {below : List Frame} {T target : State} {m : MethodId} {c : Code} {g : JFrame} (h : At T m c below) (hx : tb.exec = Jvm.exec) (hg : g.method = m) {x v : Int32} {y : Int32} {rest : List Value} (hd : decode c.code g.pc = .ok (.iadd, 1)) (hs : g.stack = .int y :: .int x :: rest) (hv : x + y = v)
    (hr : Steps tb e below (T.setTop { g with pc := g.pc + 1, stack := .int v :: rest }) target) : Steps tb e below (T.setTop g) target := by
  subst hv
  exact XS.iadd h hx hg hd hs hr
theorem isub {tb : Tables} [Ours tb] {e : Env} {below : List Frame} {T target : State} {m : MethodId} {c : Code} {g : JFrame} (h : At T m c below) (hx : tb.exec = Jvm.exec) (hg : g.method = m) {x v : Int32} {y : Int32} {rest : List Value} (hd : decode c.code g.pc = .ok (.isub, 1)) (hs : g.stack = .int y :: .int x :: rest) (hv : x - y = v)
    (hr : Steps tb e below (T.setTop { g with pc := g.pc + 1, stack := .int v :: rest }) target) : Steps tb e below (T.setTop g) target := by
  subst hv
  exact XS.isub h hx hg hd hs hr
theorem imul {tb : Tables} [Ours tb] {e : Env} {below : List Frame} {T target : State} {m : MethodId} {c : Code} {g : JFrame} (h : At T m c below) (hx : tb.exec = Jvm.exec) (hg : g.method = m) {x v : Int32} {y : Int32} {rest : List Value} (hd : decode c.code g.pc = .ok (.imul, 1)) (hs : g.stack = .int y :: .int x :: rest) (hv : x * y = v)
    (hr : Steps tb e below (T.setTop { g with pc := g.pc + 1, stack := .int v :: rest }) target) : Steps tb e below (T.setTop g) target := by
  subst hv
  exact XS.imul h hx hg hd hs hr
theorem iand {tb : Tables} [Ours tb] {e : Env} {below : List Frame} {T target : State} {m : MethodId} {c : Code} {g : JFrame} (h : At T m c below) (hx : tb.exec = Jvm.exec) (hg : g.method = m) {x v : Int32} {y : Int32} {rest : List Value} (hd : decode c.code g.pc = .ok (.iand, 1)) (hs : g.stack = .int y :: .int x :: rest) (hv : x &&& y = v)
    (hr : Steps tb e below (T.setTop { g with pc := g.pc + 1, stack := .int v :: rest }) target) : Steps tb e below (T.setTop g) target := by
  subst hv
  exact XS.iand h hx hg hd hs hr
theorem ior {tb : Tables} [Ours tb] {e : Env} {below : List Frame} {T target : State} {m : MethodId} {c : Code} {g : JFrame} (h : At T m c below) (hx : tb.exec = Jvm.exec) (hg : g.method = m) {x v : Int32} {y : Int32} {rest : List Value} (hd : decode c.code g.pc = .ok (.ior, 1)) (hs : g.stack = .int y :: .int x :: rest) (hv : x ||| y = v)
    (hr : Steps tb e below (T.setTop { g with pc := g.pc + 1, stack := .int v :: rest }) target) : Steps tb e below (T.setTop g) target := by
  subst hv
  exact XS.ior h hx hg hd hs hr
theorem ixor {tb : Tables} [Ours tb] {e : Env} {below : List Frame} {T target : State} {m : MethodId} {c : Code} {g : JFrame} (h : At T m c below) (hx : tb.exec = Jvm.exec) (hg : g.method = m) {x v : Int32} {y : Int32} {rest : List Value} (hd : decode c.code g.pc = .ok (.ixor, 1)) (hs : g.stack = .int y :: .int x :: rest) (hv : x ^^^ y = v)
    (hr : Steps tb e below (T.setTop { g with pc := g.pc + 1, stack := .int v :: rest }) target) : Steps tb e below (T.setTop g) target := by
  subst hv
  exact XS.ixor h hx hg hd hs hr
theorem ishl {tb : Tables} [Ours tb] {e : Env} {below : List Frame} {T target : State} {m : MethodId} {c : Code} {g : JFrame} (h : At T m c below) (hx : tb.exec = Jvm.exec) (hg : g.method = m) {x v : Int32} {y : Int32} {rest : List Value} (hd : decode c.code g.pc = .ok (.ishl, 1)) (hs : g.stack = .int y :: .int x :: rest) (hv : x <<< (y &&& 31) = v)
    (hr : Steps tb e below (T.setTop { g with pc := g.pc + 1, stack := .int v :: rest }) target) : Steps tb e below (T.setTop g) target := by
  subst hv
  exact XS.ishl h hx hg hd hs hr
theorem ishr {tb : Tables} [Ours tb] {e : Env} {below : List Frame} {T target : State} {m : MethodId} {c : Code} {g : JFrame} (h : At T m c below) (hx : tb.exec = Jvm.exec) (hg : g.method = m) {x v : Int32} {y : Int32} {rest : List Value} (hd : decode c.code g.pc = .ok (.ishr, 1)) (hs : g.stack = .int y :: .int x :: rest) (hv : x >>> (y &&& 31) = v)
    (hr : Steps tb e below (T.setTop { g with pc := g.pc + 1, stack := .int v :: rest }) target) : Steps tb e below (T.setTop g) target := by
  subst hv
  exact XS.ishr h hx hg hd hs hr
theorem iushr {tb : Tables} [Ours tb] {e : Env} {below : List Frame} {T target : State} {m : MethodId} {c : Code} {g : JFrame} (h : At T m c below) (hx : tb.exec = Jvm.exec) (hg : g.method = m) {x v : Int32} {y : Int32} {rest : List Value} (hd : decode c.code g.pc = .ok (.iushr, 1)) (hs : g.stack = .int y :: .int x :: rest) (hv : (x.toUInt32 >>> (y &&& 31).toUInt32).toInt32 = v)
    (hr : Steps tb e below (T.setTop { g with pc := g.pc + 1, stack := .int v :: rest }) target) : Steps tb e below (T.setTop g) target := by
  subst hv
  exact XS.iushr h hx hg hd hs hr
theorem idiv {tb : Tables} [Ours tb] {e : Env} {below : List Frame} {T target : State} {m : MethodId} {c : Code} {g : JFrame} (h : At T m c below) (hx : tb.exec = Jvm.exec) (hg : g.method = m) {x v : Int32} {y : Int32} {rest : List Value} (hd : decode c.code g.pc = .ok (.idiv, 1)) (hs : g.stack = .int y :: .int x :: rest) (hy : ¬ y = 0) (hv : x / y = v)
    (hr : Steps tb e below (T.setTop { g with pc := g.pc + 1, stack := .int v :: rest }) target) : Steps tb e below (T.setTop g) target := by
  subst hv
  exact XS.idiv h hx hg hd hs hy hr
theorem irem {tb : Tables} [Ours tb] {e : Env} {below : List Frame} {T target : State} {m : MethodId} {c : Code} {g : JFrame} (h : At T m c below) (hx : tb.exec = Jvm.exec) (hg : g.method = m) {x v : Int32} {y : Int32} {rest : List Value} (hd : decode c.code g.pc = .ok (.irem, 1)) (hs : g.stack = .int y :: .int x :: rest) (hy : ¬ y = 0) (hv : x % y = v)
    (hr : Steps tb e below (T.setTop { g with pc := g.pc + 1, stack := .int v :: rest }) target) : Steps tb e below (T.setTop g) target := by
  subst hv
  have q : x - x / y * y = x % y := irem_eq_mod x y
  exact XS.irem h hx hg hd hs hy (by rw [q]; exact hr)
theorem ladd {tb : Tables} [Ours tb] {e : Env} {below : List Frame} {T target : State} {m : MethodId} {c : Code} {g : JFrame} (h : At T m c below) (hx : tb.exec = Jvm.exec) (hg : g.method = m) {x v : Int64} {y : Int64} {rest : List Value} (hd : decode c.code g.pc = .ok (.ladd, 1)) (hs : g.stack = .long y :: .long x :: rest) (hv : x + y = v)
    (hr : Steps tb e below (T.setTop { g with pc := g.pc + 1, stack := .long v :: rest }) target) : Steps tb e below (T.setTop g) target := by
  subst hv
  exact XS.ladd h hx hg hd hs hr
theorem lsub {tb : Tables} [Ours tb] {e : Env} {below : List Frame} {T target : State} {m : MethodId} {c : Code} {g : JFrame} (h : At T m c below) (hx : tb.exec = Jvm.exec) (hg : g.method = m) {x v : Int64} {y : Int64} {rest : List Value} (hd : decode c.code g.pc = .ok (.lsub, 1)) (hs : g.stack = .long y :: .long x :: rest) (hv : x - y = v)
    (hr : Steps tb e below (T.setTop { g with pc := g.pc + 1, stack := .long v :: rest }) target) : Steps tb e below (T.setTop g) target := by
  subst hv
  exact XS.lsub h hx hg hd hs hr
theorem lmul {tb : Tables} [Ours tb] {e : Env} {below : List Frame} {T target : State} {m : MethodId} {c : Code} {g : JFrame} (h : At T m c below) (hx : tb.exec = Jvm.exec) (hg : g.method = m) {x v : Int64} {y : Int64} {rest : List Value} (hd : decode c.code g.pc = .ok (.lmul, 1)) (hs : g.stack = .long y :: .long x :: rest) (hv : x * y = v)
    (hr : Steps tb e below (T.setTop { g with pc := g.pc + 1, stack := .long v :: rest }) target) : Steps tb e below (T.setTop g) target := by
  subst hv
  exact XS.lmul h hx hg hd hs hr
theorem land {tb : Tables} [Ours tb] {e : Env} {below : List Frame} {T target : State} {m : MethodId} {c : Code} {g : JFrame} (h : At T m c below) (hx : tb.exec = Jvm.exec) (hg : g.method = m) {x v : Int64} {y : Int64} {rest : List Value} (hd : decode c.code g.pc = .ok (.land, 1)) (hs : g.stack = .long y :: .long x :: rest) (hv : x &&& y = v)
    (hr : Steps tb e below (T.setTop { g with pc := g.pc + 1, stack := .long v :: rest }) target) : Steps tb e below (T.setTop g) target := by
  subst hv
  exact XS.land h hx hg hd hs hr
theorem lor {tb : Tables} [Ours tb] {e : Env} {below : List Frame} {T target : State} {m : MethodId} {c : Code} {g : JFrame} (h : At T m c below) (hx : tb.exec = Jvm.exec) (hg : g.method = m) {x v : Int64} {y : Int64} {rest : List Value} (hd : decode c.code g.pc = .ok (.lor, 1)) (hs : g.stack = .long y :: .long x :: rest) (hv : x ||| y = v)
    (hr : Steps tb e below (T.setTop { g with pc := g.pc + 1, stack := .long v :: rest }) target) : Steps tb e below (T.setTop g) target := by
  subst hv
  exact XS.lor h hx hg hd hs hr
theorem lxor {tb : Tables} [Ours tb] {e : Env} {below : List Frame} {T target : State} {m : MethodId} {c : Code} {g : JFrame} (h : At T m c below) (hx : tb.exec = Jvm.exec) (hg : g.method = m) {x v : Int64} {y : Int64} {rest : List Value} (hd : decode c.code g.pc = .ok (.lxor, 1)) (hs : g.stack = .long y :: .long x :: rest) (hv : x ^^^ y = v)
    (hr : Steps tb e below (T.setTop { g with pc := g.pc + 1, stack := .long v :: rest }) target) : Steps tb e below (T.setTop g) target := by
  subst hv
  exact XS.lxor h hx hg hd hs hr
theorem lshl {tb : Tables} [Ours tb] {e : Env} {below : List Frame} {T target : State} {m : MethodId} {c : Code} {g : JFrame} (h : At T m c below) (hx : tb.exec = Jvm.exec) (hg : g.method = m) {x v : Int64} {y : Int32} {rest : List Value} (hd : decode c.code g.pc = .ok (.lshl, 1)) (hs : g.stack = .int y :: .long x :: rest) (hv : x <<< (y &&& 0x3f).toInt64 = v)
    (hr : Steps tb e below (T.setTop { g with pc := g.pc + 1, stack := .long v :: rest }) target) : Steps tb e below (T.setTop g) target := by
  subst hv
  exact XS.lshl h hx hg hd hs hr
theorem lshr {tb : Tables} [Ours tb] {e : Env} {below : List Frame} {T target : State} {m : MethodId} {c : Code} {g : JFrame} (h : At T m c below) (hx : tb.exec = Jvm.exec) (hg : g.method = m) {x v : Int64} {y : Int32} {rest : List Value} (hd : decode c.code g.pc = .ok (.lshr, 1)) (hs : g.stack = .int y :: .long x :: rest) (hv : x >>> (y &&& 0x3f).toInt64 = v)
    (hr : Steps tb e below (T.setTop { g with pc := g.pc + 1, stack := .long v :: rest }) target) : Steps tb e below (T.setTop g) target := by
  subst hv
  exact XS.lshr h hx hg hd hs hr
theorem lushr {tb : Tables} [Ours tb] {e : Env} {below : List Frame} {T target : State} {m : MethodId} {c : Code} {g : JFrame} (h : At T m c below) (hx : tb.exec = Jvm.exec) (hg : g.method = m) {x v : Int64} {y : Int32} {rest : List Value} (hd : decode c.code g.pc = .ok (.lushr, 1)) (hs : g.stack = .int y :: .long x :: rest) (hv : (x.toUInt64 >>> (y &&& 0x3f).toInt64.toUInt64).toInt64 = v)
    (hr : Steps tb e below (T.setTop { g with pc := g.pc + 1, stack := .long v :: rest }) target) : Steps tb e below (T.setTop g) target := by
  subst hv
  exact XS.lushr h hx hg hd hs hr
theorem ldiv {tb : Tables} [Ours tb] {e : Env} {below : List Frame} {T target : State} {m : MethodId} {c : Code} {g : JFrame} (h : At T m c below) (hx : tb.exec = Jvm.exec) (hg : g.method = m) {x v : Int64} {y : Int64} {rest : List Value} (hd : decode c.code g.pc = .ok (.ldiv, 1)) (hs : g.stack = .long y :: .long x :: rest) (hy : ¬ y = 0) (hv : x / y = v)
    (hr : Steps tb e below (T.setTop { g with pc := g.pc + 1, stack := .long v :: rest }) target) : Steps tb e below (T.setTop g) target := by
  subst hv
  exact XS.ldiv h hx hg hd hs hy hr
theorem lrem {tb : Tables} [Ours tb] {e : Env} {below : List Frame} {T target : State} {m : MethodId} {c : Code} {g : JFrame} (h : At T m c below) (hx : tb.exec = Jvm.exec) (hg : g.method = m) {x v : Int64} {y : Int64} {rest : List Value} (hd : decode c.code g.pc = .ok (.lrem, 1)) (hs : g.stack = .long y :: .long x :: rest) (hy : ¬ y = 0) (hv : x % y = v)
    (hr : Steps tb e below (T.setTop { g with pc := g.pc + 1, stack := .long v :: rest }) target) : Steps tb e below (T.setTop g) target := by
  subst hv
  have q : x - x / y * y = x % y := lrem_mod x y
  exact XS.lrem h hx hg hd hs hy (by rw [q]; exact hr)
theorem ineg {tb : Tables} [Ours tb] {e : Env} {below : List Frame} {T target : State} {m : MethodId} {c : Code} {g : JFrame} (h : At T m c below) (hx : tb.exec = Jvm.exec) (hg : g.method = m) {x : Int32} {v : Int32} {rest : List Value} (hd : decode c.code g.pc = .ok (.ineg, 1)) (hs : g.stack = .int x :: rest) (hv : -x = v)
    (hr : Steps tb e below (T.setTop { g with pc := g.pc + 1, stack := .int v :: rest }) target) : Steps tb e below (T.setTop g) target := by
  subst hv
  exact XS.ineg h hx hg hd hs hr
theorem lneg {tb : Tables} [Ours tb] {e : Env} {below : List Frame} {T target : State} {m : MethodId} {c : Code} {g : JFrame} (h : At T m c below) (hx : tb.exec = Jvm.exec) (hg : g.method = m) {x : Int64} {v : Int64} {rest : List Value} (hd : decode c.code g.pc = .ok (.lneg, 1)) (hs : g.stack = .long x :: rest) (hv : -x = v)
    (hr : Steps tb e below (T.setTop { g with pc := g.pc + 1, stack := .long v :: rest }) target) : Steps tb e below (T.setTop g) target := by
  subst hv
  exact XS.lneg h hx hg hd hs hr
theorem i2l {tb : Tables} [Ours tb] {e : Env} {below : List Frame} {T target : State} {m : MethodId} {c : Code} {g : JFrame} (h : At T m c below) (hx : tb.exec = Jvm.exec) (hg : g.method = m) {x : Int32} {v : Int64} {rest : List Value} (hd : decode c.code g.pc = .ok (.i2l, 1)) (hs : g.stack = .int x :: rest) (hv : x.toInt64 = v)
    (hr : Steps tb e below (T.setTop { g with pc := g.pc + 1, stack := .long v :: rest }) target) : Steps tb e below (T.setTop g) target := by
  subst hv
  exact XS.i2l h hx hg hd hs hr
theorem l2i {tb : Tables} [Ours tb] {e : Env} {below : List Frame} {T target : State} {m : MethodId} {c : Code} {g : JFrame} (h : At T m c below) (hx : tb.exec = Jvm.exec) (hg : g.method = m) {x : Int64} {v : Int32} {rest : List Value} (hd : decode c.code g.pc = .ok (.l2i, 1)) (hs : g.stack = .long x :: rest) (hv : x.toInt32 = v)
    (hr : Steps tb e below (T.setTop { g with pc := g.pc + 1, stack := .int v :: rest }) target) : Steps tb e below (T.setTop g) target := by
  subst hv
  exact XS.l2i h hx hg hd hs hr
theorem i2b {tb : Tables} [Ours tb] {e : Env} {below : List Frame} {T target : State} {m : MethodId} {c : Code} {g : JFrame} (h : At T m c below) (hx : tb.exec = Jvm.exec) (hg : g.method = m) {x : Int32} {v : Int32} {rest : List Value} (hd : decode c.code g.pc = .ok (.i2b, 1)) (hs : g.stack = .int x :: rest) (hv : x.toInt8.toInt32 = v)
    (hr : Steps tb e below (T.setTop { g with pc := g.pc + 1, stack := .int v :: rest }) target) : Steps tb e below (T.setTop g) target := by
  subst hv
  exact XS.i2b h hx hg hd hs hr
theorem i2s {tb : Tables} [Ours tb] {e : Env} {below : List Frame} {T target : State} {m : MethodId} {c : Code} {g : JFrame} (h : At T m c below) (hx : tb.exec = Jvm.exec) (hg : g.method = m) {x : Int32} {v : Int32} {rest : List Value} (hd : decode c.code g.pc = .ok (.i2s, 1)) (hs : g.stack = .int x :: rest) (hv : x.toInt16.toInt32 = v)
    (hr : Steps tb e below (T.setTop { g with pc := g.pc + 1, stack := .int v :: rest }) target) : Steps tb e below (T.setTop g) target := by
  subst hv
  exact XS.i2s h hx hg hd hs hr
theorem dadd {tb : Tables} [Ours tb] {e : Env} {below : List Frame} {T target : State} {m : MethodId} {c : Code} {g : JFrame} (h : At T m c below) (hx : tb.exec = Jvm.exec) (hg : g.method = m) {x y v : UInt64} {rest : List Value} (hd : decode c.code g.pc = .ok (.dadd, 1)) (hs : g.stack = .double y :: .double x :: rest) (hv : FP.dadd x y = v) (hn : Jvm.Free.Fl.NoNaN64 v)
    (hr : Steps tb e below (T.setTop { g with pc := g.pc + 1, stack := .double v :: rest }) target) : Steps tb e below (T.setTop g) target := by
  subst hv
  exact XS.daddS h hx hg hd hs hn rfl hr
theorem dsub {tb : Tables} [Ours tb] {e : Env} {below : List Frame} {T target : State} {m : MethodId} {c : Code} {g : JFrame} (h : At T m c below) (hx : tb.exec = Jvm.exec) (hg : g.method = m) {x y v : UInt64} {rest : List Value} (hd : decode c.code g.pc = .ok (.dsub, 1)) (hs : g.stack = .double y :: .double x :: rest) (hv : FP.dsub x y = v) (hn : Jvm.Free.Fl.NoNaN64 v)
    (hr : Steps tb e below (T.setTop { g with pc := g.pc + 1, stack := .double v :: rest }) target) : Steps tb e below (T.setTop g) target := by
  subst hv
  exact XS.dsubS h hx hg hd hs hn rfl hr
theorem dmul {tb : Tables} [Ours tb] {e : Env} {below : List Frame} {T target : State} {m : MethodId} {c : Code} {g : JFrame} (h : At T m c below) (hx : tb.exec = Jvm.exec) (hg : g.method = m) {x y v : UInt64} {rest : List Value} (hd : decode c.code g.pc = .ok (.dmul, 1)) (hs : g.stack = .double y :: .double x :: rest) (hv : FP.dmul x y = v) (hn : Jvm.Free.Fl.NoNaN64 v)
    (hr : Steps tb e below (T.setTop { g with pc := g.pc + 1, stack := .double v :: rest }) target) : Steps tb e below (T.setTop g) target := by
  subst hv
  exact XS.dmulS h hx hg hd hs hn rfl hr
theorem ddiv {tb : Tables} [Ours tb] {e : Env} {below : List Frame} {T target : State} {m : MethodId} {c : Code} {g : JFrame} (h : At T m c below) (hx : tb.exec = Jvm.exec) (hg : g.method = m) {x y v : UInt64} {rest : List Value} (hd : decode c.code g.pc = .ok (.ddiv, 1)) (hs : g.stack = .double y :: .double x :: rest) (hv : FP.ddiv x y = v) (hn : Jvm.Free.Fl.NoNaN64 v)
    (hr : Steps tb e below (T.setTop { g with pc := g.pc + 1, stack := .double v :: rest }) target) : Steps tb e below (T.setTop g) target := by
  subst hv
  exact XS.ddivS h hx hg hd hs hn rfl hr
theorem drem {tb : Tables} [Ours tb] {e : Env} {below : List Frame} {T target : State} {m : MethodId} {c : Code} {g : JFrame} (h : At T m c below) (hx : tb.exec = Jvm.exec) (hg : g.method = m) {x y v : UInt64} {rest : List Value} (hd : decode c.code g.pc = .ok (.drem, 1)) (hs : g.stack = .double y :: .double x :: rest) (hv : FP.drem x y = v) (hn : Jvm.Free.Fl.NoNaN64 v)
    (hr : Steps tb e below (T.setTop { g with pc := g.pc + 1, stack := .double v :: rest }) target) : Steps tb e below (T.setTop g) target := by
  subst hg
  subst hv
  obtain ⟨gm, gp, gl, gs, gk, ge, gr⟩ := g
  simp only at hs hd
  subst hs
  jvm_step h [h.top, hx, hd, Op.drem.at_number h.top hn]
  exact hr
theorem lcmp {tb : Tables} [Ours tb] {e : Env} {below : List Frame} {T target : State} {m : MethodId} {c : Code} {g : JFrame} (h : At T m c below) (hx : tb.exec = Jvm.exec) (hg : g.method = m) {x y : Int64} {v : Int32} {rest : List Value} (hd : decode c.code g.pc = .ok (.lcmp, 1)) (hs : g.stack = .long y :: .long x :: rest) (hv : lcmpW x y = v)
    (hr : Steps tb e below (T.setTop { g with pc := g.pc + 1, stack := .int v :: rest }) target) : Steps tb e below (T.setTop g) target := by
  subst hv
  exact XS.lcmp h hx hg hd hs hr
theorem iinc {tb : Tables} [Ours tb] {e : Env} {below : List Frame} {T target : State} {m : MethodId} {c : Code} {g : JFrame} (h : At T m c below) (hx : tb.exec = Jvm.exec) (hg : g.method = m) {k : Nat} {cst : Int} {x v : Int32} {l' : Array Slot} (hd : decode c.code g.pc = .ok (.iinc k cst, 3)) (hl : g.locals[k]? = some (.val (.int x))) (hv : x + Int32.ofInt cst = v) (hl' : storeLocals g.locals k (.int v) = some l')
    (hr : Steps tb e below (T.setTop { g with pc := g.pc + 3, locals := l' }) target) : Steps tb e below (T.setTop g) target := by
  subst hv
  exact XS.iinc h hx hg hd hl hl' hr
theorem dup2 {tb : Tables} [Ours tb] {e : Env} {below : List Frame} {T target : State} {m : MethodId} {c : Code} {g : JFrame} (h : At T m c below) (hx : tb.exec = Jvm.exec) (hg : g.method = m) {x y : Value} {rest : List Value} (hd : decode c.code g.pc = .ok (.dup2, 1)) (hs : g.stack = x :: y :: rest) (hc : x.category = 1) (hc' : y.category = 1)
    (hr : Steps tb e below (T.setTop { g with pc := g.pc + 1, stack := x :: y :: x :: y :: rest }) target) : Steps tb e below (T.setTop g) target := Jvm.Free.XT.dup2 h hx hg hd hs hc hc' hr
theorem dup2W {tb : Tables} [Ours tb] {e : Env} {below : List Frame} {T target : State} {m : MethodId} {c : Code} {g : JFrame} (h : At T m c below) (hx : tb.exec = Jvm.exec) (hg : g.method = m) {x : Value} {rest : List Value} (hd : decode c.code g.pc = .ok (.dup2, 1)) (hs : g.stack = x :: rest) (hc : x.category = 2)
    (hr : Steps tb e below (T.setTop { g with pc := g.pc + 1, stack := x :: x :: rest }) target) : Steps tb e below (T.setTop g) target := by
  subst hg
  jvm_step h [h.top, hx, hd, hs, hc]
  exact hr
theorem Sta_keep {Z : State} {h h' : Heap} {C n d : String} {w : Value} {ws : List Addr} (F : Sta Z h C n d w) (K : Keep h h' ws) (hn : ∀ x ∈ ws, ∀ cell : Cell, h[x]? = some cell → cell.vm.isStatics = false) : Sta Z h' C n d w := by
  obtain ⟨cf, i, k, f, st, cell, h1, h2, h3, h4, h5, h6, h7⟩ := F
  refine ⟨cf, i, k, f, st, cell, h1, h2, h3, h4, K.2.1 st cell h5 (fun q => ?_), h6, h7⟩
  rw [hn st q cell h5] at h6; cases h6
end Jvm.OwnK
namespace Jvm.OwnF
open Jvm.FP Jvm.FP.Core
/-! doubles as whole numbers of units of 2^-1074 -/
def V (a : UInt64) : Int := zval b64 (val64 a)
def BIG : Nat := 2 ^ 2000
/-- the rounding of n / d, in units -/
def rnd (n : Int) (d : Nat) : Int := zval b64 (roundRatio b64 (decide (n < 0)) n.natAbs d (-1074))
theorem zval_zero (s : Bool) (d : Nat) (e : Int) : zval b64 (roundRatio b64 s 0 d e) = 0 := by
  unfold roundRatio
  rw [if_pos rfl]
  show signed s (0 * 2 ^ (b64.qmin - b64.qmin).toNat) = 0
  rw [Nat.zero_mul, signed_zero]
theorem rnd_signed (s : Bool) (N d : Nat) : zval b64 (roundRatio b64 s N d (-1074)) = rnd (signed s N) d := by
  unfold rnd
  rw [natAbs_signed]
  by_cases h : N = 0
  · subst h; rw [zval_zero, zval_zero]
  · rw [signed_lt_zero s (by omega)]
theorem signed_natAbs (n : Int) : signed (decide (n < 0)) n.natAbs = n := by
  unfold signed
  by_cases h : n < 0 <;> simp [h] <;> omega
theorem bigV : Jvm.FP.Core.fits b64 (.fin false (2 ^ 52) 874) := by refine ⟨?_, ?_, ?_, ?_⟩ <;> decide
theorem bigZ : zmag b64 (.fin false (2 ^ 52) 874) = BIG := by
  show 2 ^ 52 * 2 ^ (874 - b64.qmin).toNat = 2 ^ 2000
  rw [qmin_b64, show (874 - (-1074) : Int).toNat = 1948 from rfl, ← Nat.pow_add]
theorem big_lt : BIG < b64.tails * 2 ^ (b64.exps - 2) := by
  rw [tails_b64, show b64.exps - 2 = 2046 by decide, ← Nat.pow_add]
  exact Nat.pow_lt_pow_right (by decide) (by decide)
theorem un0 (A : Nat) : inUnits A (-1074) (-1074) = A := by unfold inUnits; simp
theorem round_le_big {s : Bool} {A B : Nat} (hB : 0 < B) (h : A ≤ BIG * B) : zmag b64 (roundRatio b64 s A B (-1074)) ≤ BIG := by
  have := zmag_roundRatio_le good_b64 (s := s) (A := A) (B := B) (e := -1074) (e0 := -1074) hB bigV Datum.noConfusion (by rw [qmin_b64]; decide) (by decide) (by rw [bigZ, un0, qmin_b64]; simpa using h)
  rwa [bigZ] at this
theorem fin_round {s : Bool} {A B : Nat} (hB : 0 < B) (h : A ≤ BIG * B) : ∃ c q, roundRatio b64 s A B (-1074) = .fin s c q := by
  rcases roundRatio_cases b64 s A B (-1074) with h1 | h1
  · exact h1
  · exfalso
    have h2 := round_le_big (s := s) hB h
    rw [h1] at h2
    have h3 : zmag b64 (.inf s) = b64.tails * 2 ^ (b64.exps - 2) := rfl
    have := big_lt
    omega
theorem noNaN_fin {a : UInt64} (h : DFin a) : Jvm.Free.Fl.NoNaN64 a := by
  rw [Jvm.Free.Fl.val64_no]; obtain ⟨s, c, q, e⟩ := h; rw [e]; exact Datum.noConfusion
theorem V_dadd {a b : UInt64} (ha : DFin a) (hb : DFin b) (h : (V a + V b).natAbs ≤ BIG) : DFin (FP.dadd a b) ∧ V (FP.dadd a b) = rnd (V a + V b) 1 := by
  obtain ⟨s, c, q, ea⟩ := ha
  obtain ⟨t, d, r, eb⟩ := hb
  have fa : Jvm.FP.Core.fits b64 (.fin s c q) := ea ▸ val64_fits a
  have fb : Jvm.FP.Core.fits b64 (.fin t d r) := eb ▸ val64_fits b
  obtain ⟨sg, n, e, p1, p2, p3⟩ := sum_units fa fb
  rw [qmin_b64] at p2 p3
  have hv : val64 (FP.dadd a b) = roundRatio b64 sg (inUnits n e (-1074)) 1 (-1074) := by
    rw [show FP.dadd a b = Core.dadd a b from rfl, val64_dadd, ea, eb, p1]
    show roundRatio b64 sg n 1 e = _
    refine roundRatio_congr (by decide) (by decide) ?_
    rw [show (-1074 - e).toNat = 0 by omega]
    unfold inUnits; simp
  have hS : signed sg (inUnits n e (-1074)) = V a + V b := by unfold V; rw [ea, eb]; exact p3
  have hN : inUnits n e (-1074) = (V a + V b).natAbs := by rw [← hS, natAbs_signed]
  obtain ⟨c', q', hh⟩ := fin_round (s := sg) (A := inUnits n e (-1074)) (B := 1) (by decide) (by rw [Nat.mul_one, hN]; exact h)
  refine ⟨⟨sg, c', q', hv.trans hh⟩, ?_⟩
  show zval b64 (val64 (FP.dadd a b)) = _
  rw [hv, rnd_signed, hS]
theorem V_neg (a : UInt64) : V (Core.dneg a) = -V a := by unfold V; rw [Core.val64_dneg, zval_negate]
theorem fin_neg {a : UInt64} (h : DFin a) : DFin (Core.dneg a) := by
  obtain ⟨s, c, q, e⟩ := h
  exact ⟨!s, c, q, by rw [Core.val64_dneg, e]; rfl⟩
theorem V_dsub {a b : UInt64} (ha : DFin a) (hb : DFin b) (h : (V a - V b).natAbs ≤ BIG) : DFin (FP.dsub a b) ∧ V (FP.dsub a b) = rnd (V a - V b) 1 := by
  have e : FP.dsub a b = FP.dadd a (Core.dneg b) := dsub_eq a b
  rw [e]
  have := V_dadd ha (fin_neg hb) (by rw [V_neg]; exact h)
  rw [V_neg] at this
  exact this
theorem zmag_V (a : UInt64) : zmag b64 (val64 a) = (V a).natAbs := by unfold V zval; rw [natAbs_signed]
theorem V_dmul {a b : UInt64} (ha : DFin a) (hb : DFin b) (h : (V a * V b).natAbs ≤ BIG * one64) : DFin (FP.dmul a b) ∧ V (FP.dmul a b) = rnd (V a * V b) one64 := by
  have za := zmag_V a
  have zb := zmag_V b
  obtain ⟨s, c, q, ea⟩ := ha
  obtain ⟨t, d, r, eb⟩ := hb
  have fa : Jvm.FP.Core.fits b64 (.fin s c q) := ea ▸ val64_fits a
  have fb : Jvm.FP.Core.fits b64 (.fin t d r) := eb ▸ val64_fits b
  obtain ⟨p1, p2, p3⟩ := product_units fa fb
  rw [← ea, ← eb, za, zb, ← Int.natAbs_mul] at p3
  rw [qmin_b64] at p2 p3
  have hv : val64 (FP.dmul a b) = roundRatio b64 (s != t) (V a * V b).natAbs one64 (-1074) := by
    rw [show FP.dmul a b = Core.dmul a b from rfl, val64_dmul, ea, eb, p1]
    show roundRatio b64 (s != t) (c * d) 1 (q + r) = _
    refine roundRatio_congr (by decide) one64_pos ?_
    rw [← p3]
    unfold inUnits one64
    rw [Nat.mul_one, Nat.mul_assoc (c * d), Nat.mul_assoc (c * d), ← Nat.pow_add, ← Nat.pow_add]
    congr 2
    omega
  have hS : signed (s != t) (V a * V b).natAbs = V a * V b := by
    rw [Int.natAbs_mul, signed_xor, ← za, ← zb]
    unfold V zval
    rw [ea, eb]
    rfl
  obtain ⟨c', q', hh⟩ := fin_round (s := s != t) (A := (V a * V b).natAbs) (B := one64) one64_pos h
  refine ⟨⟨_, c', q', hv.trans hh⟩, ?_⟩
  show zval b64 (val64 (FP.dmul a b)) = _
  rw [hv, rnd_signed, hS]
theorem pw2 (c d x y : Nat) : c * (d * 2 ^ x) * 2 ^ y = c * d * 2 ^ (x + y) := by rw [Nat.pow_add]; ac_rfl
theorem pw3 (c d x y z : Nat) : c * 2 ^ x * 2 ^ y * d * 2 ^ z = c * d * 2 ^ (x + y + z) := by rw [Nat.pow_add, Nat.pow_add]; ac_rfl
theorem V_ddiv {a b : UInt64} (ha : DFin a) (hb : DFin b) (h0 : V b ≠ 0) (h : (V a).natAbs * one64 ≤ BIG * (V b).natAbs) : DFin (FP.ddiv a b) ∧ V (FP.ddiv a b) = rnd (V a * (one64 : Int) * (V b).sign) (V b).natAbs := by
  have za := zmag_V a
  have zb := zmag_V b
  have sb : (V b).sign = signed (sgn (val64 b)) 1 := by
    unfold V zval at h0 ⊢
    cases hsg : sgn (val64 b) <;> rw [hsg] at h0 <;> simp only [signed, if_true, Bool.false_eq_true, if_false] at h0 ⊢
    · exact Int.sign_eq_one_of_pos (by omega)
    · exact Int.sign_eq_neg_one_of_neg (by omega)
  obtain ⟨s, c, q, ea⟩ := ha
  obtain ⟨t, d, r, eb⟩ := hb
  have fa : Jvm.FP.Core.fits b64 (.fin s c q) := ea ▸ val64_fits a
  have fb : Jvm.FP.Core.fits b64 (.fin t d r) := eb ▸ val64_fits b
  have hq1 := fa.2.1
  have hr1 := fb.2.1
  rw [qmin_b64] at hq1 hr1
  have ma : (V a).natAbs = c * 2 ^ (q - (-1074)).toNat := by rw [← za, ea]; show inUnits c q b64.qmin = _; rw [qmin_b64]; rfl
  have mb : (V b).natAbs = d * 2 ^ (r - (-1074)).toNat := by rw [← zb, eb]; show inUnits d r b64.qmin = _; rw [qmin_b64]; rfl
  have hd0 : d ≠ 0 := by
    rintro rfl
    rw [Nat.zero_mul] at mb; omega
  have hBp : 0 < (V b).natAbs := by omega
  have hv : val64 (FP.ddiv a b) = roundRatio b64 (s != t) ((V a).natAbs * one64) (V b).natAbs (-1074) := by
    rw [show FP.ddiv a b = Core.ddiv a b from rfl, val64_ddiv, ea, eb]
    simp only [quotient, if_neg hd0]
    refine roundRatio_congr (by omega) hBp ?_
    rw [ma, mb]
    unfold one64
    rw [pw2, pw3]
    congr 2
    omega
  have hS : signed (s != t) ((V a).natAbs * one64) = V a * (one64 : Int) * (V b).sign := by
    rw [sb, eb]
    show _ = _ * signed t 1
    have : signed (s != t) ((V a).natAbs * one64 * 1) = signed s ((V a).natAbs * one64) * signed t 1 := signed_xor s t _ 1
    rw [Nat.mul_one] at this
    rw [this, signed_mul]
    congr 2
    rw [← za]
    unfold V zval
    rw [ea]
    rfl
  obtain ⟨c', q', hh⟩ := fin_round (s := s != t) (A := (V a).natAbs * one64) (B := (V b).natAbs) hBp h
  refine ⟨⟨_, c', q', hv.trans hh⟩, ?_⟩
  show zval b64 (val64 (FP.ddiv a b)) = _
  rw [hv, rnd_signed, hS]
theorem V_of_int {a : UInt64} {n : Int} (ha : val64 a = round b64 (ofInt n)) (h : n.natAbs ≤ 2 ^ 64) : DFin a ∧ V a = rnd (n * (one64 : Int)) 1 := by
  have hv : val64 a = roundRatio b64 (decide (n < 0)) (n.natAbs * one64) 1 (-1074) := by
    rw [ha]
    show roundRatio b64 (decide (n < 0)) n.natAbs 1 0 = _
    refine roundRatio_congr (by decide) (by decide) ?_
    unfold one64
    rw [show (0 - (-1074) : Int).toNat = 1074 from rfl, show (-1074 - 0 : Int).toNat = 0 from rfl]
    simp
  have hS : signed (decide (n < 0)) (n.natAbs * one64) = n * (one64 : Int) := by rw [signed_mul, signed_natAbs]
  have hB : n.natAbs * one64 ≤ BIG := by
    refine Nat.le_trans (Nat.mul_le_mul_right _ h) ?_
    unfold one64 BIG
    rw [← Nat.pow_add]
    exact Nat.pow_le_pow_right (by decide) (by decide)
  obtain ⟨c', q', hh⟩ := fin_round (s := decide (n < 0)) (A := n.natAbs * one64) (B := 1) (by decide) (by rw [Nat.mul_one]; exact hB)
  refine ⟨⟨_, c', q', hv.trans hh⟩, ?_⟩
  show zval b64 (val64 a) = _
  rw [hv, rnd_signed, hS]
theorem V_l2d (n : Int64) : DFin (FP.l2d n) ∧ V (FP.l2d n) = rnd (n.toInt * (one64 : Int)) 1 :=
  V_of_int (val64_l2d n) (Nat.le_trans (int64_abs n) (by decide))
theorem V_i2d (n : Int32) : DFin (FP.i2d n) ∧ V (FP.i2d n) = rnd (n.toInt * (one64 : Int)) 1 :=
  V_of_int (val64_i2d n) (Nat.le_trans (int32_abs n) (by decide))
theorem V_drem {a b : UInt64} (ha : DFin a) (hb : DFin b) (h0 : V b ≠ 0) : DFin (FP.drem a b) ∧ V (FP.drem a b) = (V a).tmod (V b) := by
  have za := zmag_V a
  have zb := zmag_V b
  obtain ⟨s, c, q, ea⟩ := ha
  obtain ⟨t, d, r, eb⟩ := hb
  have fa : Jvm.FP.Core.fits b64 (.fin s c q) := ea ▸ val64_fits a
  have fb : Jvm.FP.Core.fits b64 (.fin t d r) := eb ▸ val64_fits b
  have hd0 : d ≠ 0 := by
    rintro rfl
    rw [eb] at zb
    have : zmag b64 (.fin t 0 r) = 0 := Nat.zero_mul _
    omega
  obtain ⟨c', q', h1, h2⟩ := remainder_exact good_b64 fa fb hd0
  have hv : val64 (FP.drem a b) = .fin s c' q' := by rw [show FP.drem a b = Core.drem a b from rfl, val64_drem, ea, eb, h1]
  refine ⟨⟨_, _, _, hv⟩, ?_⟩
  have h3 : zmag b64 (.fin s c' q') = (V a).natAbs % (V b).natAbs := by rw [← za, ← zb, ea, eb]; exact h2
  have hVa : V a = signed s (V a).natAbs := by rw [← za]; unfold V zval; rw [ea]; rfl
  show zval b64 (val64 (FP.drem a b)) = _
  rw [hv]
  show signed s (zmag b64 (.fin s c' q')) = _
  rw [h3]
  have hb2 : ∀ x : Int, x.tmod (V b) = x.tmod ((V b).natAbs : Int) := by
    intro x
    rcases Int.natAbs_eq (V b) with e | e
    · rw [← e]
    · rw [e, Int.tmod_neg]; simp
  rw [hb2]
  generalize (V b).natAbs = B at *
  generalize (V a).natAbs = A at *
  rw [hVa]
  cases s <;> simp [signed] <;> exact (Int.tmod_eq_emod_of_nonneg (Int.natCast_nonneg A)).symm
theorem cmp_V {a b : UInt64} (ha : DFin a) (hb : DFin b) : FP.dcmp a b = some (compare (V a) (V b)) := by
  obtain ⟨s, c, q, ea⟩ := ha
  obtain ⟨t, d, r, eb⟩ := hb
  exact dcmp_zval (by rw [ea]; exact Datum.noConfusion) (by rw [eb]; exact Datum.noConfusion)
/-! the rounding -/
theorem rnd_congr {n n' : Int} {d d' : Nat} (hd : 0 < d) (hd' : 0 < d') (h : n * (d' : Int) = n' * (d : Int)) : rnd n d = rnd n' d' := by
  have hs : (n < 0) ↔ (n' < 0) := by
    have p1 : (0 : Int) < d := by omega
    have p2 : (0 : Int) < d' := by omega
    constructor
    · intro q
      have := Int.mul_neg_of_neg_of_pos q p2
      refine Int.lt_of_not_ge fun q' => ?_
      have := Int.mul_nonneg q' (Int.le_of_lt p1)
      omega
    · intro q
      have := Int.mul_neg_of_neg_of_pos q p1
      refine Int.lt_of_not_ge fun q' => ?_
      have := Int.mul_nonneg q' (Int.le_of_lt p2)
      omega
  have hm : n.natAbs * d' = n'.natAbs * d := by
    have := congrArg Int.natAbs h
    rwa [Int.natAbs_mul, Int.natAbs_mul, Int.natAbs_natCast, Int.natAbs_natCast] at this
  unfold rnd
  rw [show decide (n < 0) = decide (n' < 0) from decide_eq_decide.mpr hs]
  congr 1
  exact roundRatio_congr hd hd' (by simpa using hm)
/-- at most 53 binary digits -/
def Rep (r : Int) : Prop := ∃ (m : Int) (e : Nat), r = m * ((2 ^ e : Nat) : Int) ∧ m.natAbs < 2 ^ 53 ∧ e ≤ 2045
theorem rnd_exact {n : Int} {d : Nat} {r : Int} (hd : 0 < d) (h : n = r * (d : Int)) (hr : Rep r) : rnd n d = r := by
  rw [rnd_congr (n' := r) (d' := 1) hd (by decide) (by rw [h]; simp)]
  obtain ⟨m, e, rfl, hm, he⟩ := hr
  have hsg : ∀ k : Nat, signed (decide (m < 0)) (m.natAbs * k) = m * (k : Int) := fun k => by rw [signed_mul, signed_natAbs]
  have h1 : rnd (m * ((2 ^ e : Nat) : Int)) 1 = zval b64 (roundRatio b64 (decide (m < 0)) (m.natAbs * 2 ^ e) 1 (-1074)) := by rw [rnd_signed, hsg]
  rw [h1]
  obtain ⟨c', q', h2, h3⟩ := round_exact good_b64 (decide (m < 0)) (c := m.natAbs) (q := (e : Int) - 1074) hm (by rw [qmin_b64]; omega) (by rw [show b64.qmax = 971 by decide]; omega)
  have h4 : roundRatio b64 (decide (m < 0)) (m.natAbs * 2 ^ e) 1 (-1074) = roundRatio b64 (decide (m < 0)) m.natAbs 1 ((e : Int) - 1074) := by
    refine roundRatio_congr (by decide) (by decide) ?_
    rw [show (-1074 - ((e : Int) - 1074)).toNat = 0 by omega, show ((e : Int) - 1074 - -1074).toNat = e by omega]
    simp
  rw [h4]
  have h5 : roundRatio b64 (decide (m < 0)) m.natAbs 1 ((e : Int) - 1074) = .fin (decide (m < 0)) c' q' := h2
  rw [h5]
  show signed _ (inUnits c' q' b64.qmin) = _
  rw [h3, ← hsg]
  unfold inUnits
  rw [qmin_b64, show ((e : Int) - 1074 - -1074).toNat = e by omega]
  rfl
theorem rep_V {a : UInt64} (ha : DFin a) : Rep (V a) := by
  obtain ⟨s, c, q, ea⟩ := ha
  have fa : Jvm.FP.Core.fits b64 (.fin s c q) := ea ▸ val64_fits a
  obtain ⟨h1, h2, h3, -⟩ := fa
  rw [qmin_b64] at h2
  rw [show b64.qmax = 971 by decide] at h3
  refine ⟨signed s c, (q - (-1074)).toNat, ?_, by rw [natAbs_signed]; exact h1, by omega⟩
  unfold V zval
  rw [ea]
  show signed s (c * 2 ^ (q - b64.qmin).toNat) = _
  rw [signed_mul, qmin_b64]
theorem V_le {a : UInt64} : (V a).natAbs ≤ (V a).natAbs := Nat.le_refl _
end Jvm.OwnF
namespace Jvm.OwnF
open Jvm.FP Jvm.FP.Core
/-! exact values: a is n / 2^k -/
def R53 (n : Int) : Prop := ∃ (m : Int) (e : Nat), n = m * ((2 ^ e : Nat) : Int) ∧ m.natAbs ≤ 2 ^ 53 ∧ e ≤ 800
def DV (n : Int) (k : Nat) (a : UInt64) : Prop := DFin a ∧ k ≤ 1074 ∧ V a = n * ((2 ^ (1074 - k) : Nat) : Int)
theorem r53 {n : Int} (h : n.natAbs ≤ 2 ^ 53) : R53 n := ⟨n, 0, by simp, h, by decide⟩
theorem rep_of {m : Int} {e : Nat} (hm : m.natAbs ≤ 2 ^ 53) (he : e ≤ 1900) : Rep (m * ((2 ^ e : Nat) : Int)) := by
  by_cases h : m.natAbs < 2 ^ 53
  · exact ⟨m, e, rfl, h, by omega⟩
  · refine ⟨m.sign, e + 53, ?_, ?_, by omega⟩
    · have h1 : m.natAbs = 2 ^ 53 := by omega
      have h2 : m = m.sign * (m.natAbs : Int) := (Int.sign_mul_natAbs m).symm
      conv => lhs; rw [h2, h1]
      rw [Nat.pow_add, Int.natCast_mul, Int.mul_assoc]
      congr 1
      rw [Int.mul_comm]
    · have : m.sign.natAbs ≤ 1 := by
        rcases Int.lt_trichotomy m 0 with q | q | q
        · rw [Int.sign_eq_neg_one_of_neg q]; decide
        · rw [q]; decide
        · rw [Int.sign_eq_one_of_pos q]; decide
      omega
theorem rep_R {n : Int} (h : R53 n) {k : Nat} (hk : k ≤ 1074) : Rep (n * ((2 ^ k : Nat) : Int)) := by
  obtain ⟨m, e, rfl, hm, he⟩ := h
  rw [Int.mul_assoc, ← Int.natCast_mul, ← Nat.pow_add]
  exact rep_of hm (by omega)
theorem big_R {n : Int} (h : R53 n) {k : Nat} (hk : k ≤ 1074) : (n * ((2 ^ k : Nat) : Int)).natAbs ≤ BIG := by
  obtain ⟨m, e, rfl, hm, he⟩ := h
  rw [Int.natAbs_mul, Int.natAbs_mul, Int.natAbs_natCast, Int.natAbs_natCast, Nat.mul_assoc, ← Nat.pow_add]
  refine Nat.le_trans (Nat.mul_le_mul_right _ hm) ?_
  unfold BIG
  rw [← Nat.pow_add]
  exact Nat.pow_le_pow_right (by decide) (by omega)
theorem DV.fin {n : Int} {k : Nat} {a : UInt64} (h : DV n k a) : DFin a := h.1
theorem DV.nn {n : Int} {k : Nat} {a : UInt64} (h : DV n k a) : Jvm.Free.Fl.NoNaN64 a := noNaN_fin h.1
theorem DV.of_eq {n m : Int} {k : Nat} {a : UInt64} (h : DV n k a) (e : n = m) : DV m k a := e ▸ h
theorem DV.up {n : Int} {k : Nat} {a : UInt64} (h : DV n k a) (j : Nat) (hj : k + j ≤ 1074) : DV (n * ((2 ^ j : Nat) : Int)) (k + j) a := by
  refine ⟨h.1, hj, ?_⟩
  rw [h.2.2, Int.mul_assoc, ← Int.natCast_mul, ← Nat.pow_add]
  congr 4
  omega
theorem DV.down {n : Int} {k j : Nat} {a : UInt64} (h : DV (n * ((2 ^ j : Nat) : Int)) (k + j) a) : DV n k a := by
  refine ⟨h.1, by have := h.2.1; omega, ?_⟩
  rw [h.2.2, Int.mul_assoc, ← Int.natCast_mul, ← Nat.pow_add]
  congr 4
  have := h.2.1; omega
theorem DV_of_V {n : Int} {k : Nat} {a : UInt64} (hf : DFin a) (hk : k ≤ 1074) (hn : R53 n) (h : V a = rnd (n * ((2 ^ (1074 - k) : Nat) : Int)) 1) : DV n k a :=
  ⟨hf, hk, by rw [h]; exact rnd_exact (by decide) (by simp) (rep_R hn (by omega))⟩
theorem DV_add {n m : Int} {k : Nat} {a b : UInt64} (ha : DV n k a) (hb : DV m k b) (h : R53 (n + m)) : DV (n + m) k (FP.dadd a b) := by
  have e : V a + V b = (n + m) * ((2 ^ (1074 - k) : Nat) : Int) := by rw [ha.2.2, hb.2.2, Int.add_mul]
  obtain ⟨h1, h2⟩ := V_dadd ha.1 hb.1 (by rw [e]; exact big_R h (by omega))
  exact DV_of_V h1 ha.2.1 h (by rw [h2, e])
theorem DV_sub {n m : Int} {k : Nat} {a b : UInt64} (ha : DV n k a) (hb : DV m k b) (h : R53 (n - m)) : DV (n - m) k (FP.dsub a b) := by
  have e : V a - V b = (n - m) * ((2 ^ (1074 - k) : Nat) : Int) := by rw [ha.2.2, hb.2.2, Int.sub_mul]
  obtain ⟨h1, h2⟩ := V_dsub ha.1 hb.1 (by rw [e]; exact big_R h (by omega))
  exact DV_of_V h1 ha.2.1 h (by rw [h2, e])
theorem DV_mul {n m : Int} {k j : Nat} {a b : UInt64} (ha : DV n k a) (hb : DV m j b) (hkj : k + j ≤ 1074) (h : R53 (n * m)) : DV (n * m) (k + j) (FP.dmul a b) := by
  have e : V a * V b = (n * m) * ((2 ^ (1074 - (k + j)) : Nat) : Int) * (one64 : Int) := by
    rw [ha.2.2, hb.2.2]
    have : ((2 ^ (1074 - (k + j)) : Nat) : Int) * (one64 : Int) = ((2 ^ (1074 - k) : Nat) : Int) * ((2 ^ (1074 - j) : Nat) : Int) := by
      rw [← Int.natCast_mul, ← Int.natCast_mul]
      unfold one64
      rw [← Nat.pow_add, ← Nat.pow_add]
      congr 2
      have := ha.2.1; have := hb.2.1; omega
    rw [Int.mul_assoc (n * m), this]
    ac_rfl
  obtain ⟨h1, h2⟩ := V_dmul ha.1 hb.1 (by
    rw [e, Int.natAbs_mul, Int.natAbs_natCast]
    exact Nat.mul_le_mul_right _ (big_R h (by omega)))
  refine ⟨h1, hkj, ?_⟩
  rw [h2]
  exact rnd_exact one64_pos e (rep_R h (by omega))
theorem divalg {n c m P Q X U I J : Int} (h : n * P = c * m * Q) (e2 : X * Q = U) (e3 : I * J * P = U * U) : n * X * U * (Q * P) = c * I * (m * J) * (Q * P) := by
  have l : n * X * U * (Q * P) = (n * P) * (X * Q) * U := by ac_rfl
  have r : c * I * (m * J) * (Q * P) = c * m * Q * (I * J * P) := by ac_rfl
  rw [l, r, h, e2, e3, Int.mul_assoc (c * m * Q)]
theorem DV_div {n m c : Int} {k j i : Nat} {a b : UInt64} (ha : DV n k a) (hb : DV m j b) (hi : i ≤ 1074) (hm : m ≠ 0) (hc : R53 c) (h : n * ((2 ^ (j + i) : Nat) : Int) = c * m * ((2 ^ k : Nat) : Int)) : DV c i (FP.ddiv a b) := by
  have hb0 : V b ≠ 0 := by
    rw [hb.2.2]
    intro q
    rcases Int.mul_eq_zero.mp q with q | q
    · exact hm q
    · have := Nat.two_pow_pos (1074 - j); omega
  have hk := ha.2.1
  have hj := hb.2.1
  -- V a * U = (c * 2^(1074 - i)) * V b
  have e : V a * (one64 : Int) = c * ((2 ^ (1074 - i) : Nat) : Int) * V b := by
    have pp : ((2 ^ (k + j + i) : Nat) : Int) ≠ 0 := by have := Nat.two_pow_pos (k + j + i); omega
    refine Int.eq_of_mul_eq_mul_right pp ?_
    rw [ha.2.2, hb.2.2]
    have e1 : ((2 ^ (k + j + i) : Nat) : Int) = ((2 ^ k : Nat) : Int) * ((2 ^ (j + i) : Nat) : Int) := by rw [← Int.natCast_mul, ← Nat.pow_add, Nat.add_assoc]
    have e2 : ((2 ^ (1074 - k) : Nat) : Int) * ((2 ^ k : Nat) : Int) = (one64 : Int) := by rw [← Int.natCast_mul, ← Nat.pow_add, Nat.sub_add_cancel hk]; rfl
    have e3 : ((2 ^ (1074 - i) : Nat) : Int) * ((2 ^ (1074 - j) : Nat) : Int) * ((2 ^ (j + i) : Nat) : Int) = (one64 : Int) * (one64 : Int) := by
      rw [← Int.natCast_mul, ← Int.natCast_mul, ← Int.natCast_mul]
      unfold one64
      rw [← Nat.pow_add, ← Nat.pow_add, ← Nat.pow_add]
      congr 2
      omega
    rw [e1]
    exact divalg h e2 e3
  have ea : (V a).natAbs * one64 = (c * ((2 ^ (1074 - i) : Nat) : Int)).natAbs * (V b).natAbs := by
    have := congrArg Int.natAbs e
    rwa [Int.natAbs_mul, Int.natAbs_mul, Int.natAbs_natCast] at this
  obtain ⟨h1, h2⟩ := V_ddiv ha.1 hb.1 hb0 (by rw [ea]; exact Nat.mul_le_mul_right _ (big_R hc (by omega)))
  refine ⟨h1, hi, ?_⟩
  rw [h2]
  refine rnd_exact (by omega) ?_ (rep_R hc (by omega))
  rw [e, Int.mul_assoc, Int.mul_sign_self]
theorem DV_l2d {n : Int64} (h : R53 n.toInt) : DV n.toInt 0 (FP.l2d n) := by
  obtain ⟨h1, h2⟩ := V_l2d n
  exact DV_of_V h1 (by decide) h h2
theorem DV_i2d (n : Int32) : DV n.toInt 0 (FP.i2d n) := by
  obtain ⟨h1, h2⟩ := V_i2d n
  exact DV_of_V h1 (by decide) (r53 (Nat.le_trans (int32_abs n) (by decide))) h2
theorem DV_const {a : UInt64} {n : Int} {k : Nat} (h1 : a.toNat % 2 ^ 63 < 9218868437227405312) (hk : k ≤ 1074) (h2 : V a = n * ((2 ^ (1074 - k) : Nat) : Int)) : DV n k a := ⟨(fin_bits a).mpr h1, hk, h2⟩
theorem DV_0 : DV 0 0 FP.dconst0 := DV_const (by decide) (by decide) (by decide +kernel)
theorem DV_1 : DV 1 0 FP.dconst1 := DV_const (by decide) (by decide) (by decide +kernel)
theorem DV_z : DV 0 0 (0 : UInt64) := DV_const (by decide) (by decide) (by decide +kernel)
theorem cmpv_V {a b : UInt64} (ha : DFin a) (hb : DFin b) (o : ClassFile.CmpOp) : (V a < V b → Op.cmpValue (FP.dcmp a b) o = -1) ∧ (V a = V b → Op.cmpValue (FP.dcmp a b) o = 0) ∧ (V b < V a → Op.cmpValue (FP.dcmp a b) o = 1) := by
  rw [cmp_V ha hb]
  refine ⟨fun h => ?_, fun h => ?_, fun h => ?_⟩
  · rw [(compare_lt_iff _ _).mpr h]; rfl
  · rw [(compare_eq_iff _ _).mpr h]; rfl
  · rw [(compare_gt_iff _ _).mpr h]; rfl
theorem DV_le {n m : Int} {k : Nat} {a b : UInt64} (ha : DV n k a) (hb : DV m k b) : (V a < V b ↔ n < m) ∧ (V a = V b ↔ n = m) := by
  rw [ha.2.2, hb.2.2]
  have hp : (0 : Int) < ((2 ^ (1074 - k) : Nat) : Int) := by have := Nat.two_pow_pos (1074 - k); omega
  exact ⟨Int.mul_lt_mul_right hp, ⟨fun q => Int.eq_of_mul_eq_mul_right (by omega) q, fun q => by rw [q]⟩⟩
theorem DV_cmp {n m : Int} {k : Nat} {a b : UInt64} (ha : DV n k a) (hb : DV m k b) (o : ClassFile.CmpOp) : (n < m → Op.cmpValue (FP.dcmp a b) o = -1) ∧ (n = m → Op.cmpValue (FP.dcmp a b) o = 0) ∧ (m < n → Op.cmpValue (FP.dcmp a b) o = 1) := by
  obtain ⟨h1, h2, h3⟩ := cmpv_V ha.1 hb.1 o
  exact ⟨fun q => h1 ((DV_le ha hb).1.mpr q), fun q => h2 ((DV_le ha hb).2.mpr q), fun q => h3 ((DV_le hb ha).1.mpr q)⟩
theorem DV_eq0 {n : Int} {k : Nat} {a b : UInt64} (ha : DV n k a) (hb : DV n k b) (o : ClassFile.CmpOp) : Op.cmpValue (FP.dcmp a b) o = 0 := (DV_cmp ha hb o).2.1 rfl
theorem DV_d2l {n : Int} {a : UInt64} (h : DV n 0 a) (h1 : -9223372036854775808 ≤ n) (h2 : n < 9223372036854775808) : (FP.d2l a).toInt = n := by
  obtain ⟨hf, -, hv⟩ := h
  have hn : val64 a ≠ .nan := by obtain ⟨s, c, q, e⟩ := hf; rw [e]; exact Datum.noConfusion
  rw [show FP.d2l a = Core.d2l a from rfl, d2l_val hn, zmag_V]
  have hs : signed (sgn (val64 a)) (V a).natAbs = V a := by rw [← zmag_V]; rfl
  have ho : (1074 - 0 : Nat) = 1074 := rfl
  rw [ho, show (2 ^ 1074 : Nat) = one64 from rfl] at hv
  have hm : (V a).natAbs = n.natAbs * one64 := by rw [hv, Int.natAbs_mul, Int.natAbs_natCast]
  have hd : (V a).natAbs / one64 = n.natAbs := by rw [hm, Nat.mul_div_cancel _ one64_pos]
  rw [hd]
  have hsn : signed (sgn (val64 a)) n.natAbs = n := by
    rw [hm, signed_mul, hv] at hs
    exact Int.eq_of_mul_eq_mul_right (by have := one64_pos; omega) hs
  rw [hsn]
  omega
end Jvm.OwnF
namespace Jvm.OwnF
open Jvm.RoadKit
/-! ints and longs as whole numbers -/
theorem mul_bd {a b : Int} {A B : Nat} (ha : a.natAbs ≤ A) (hb : b.natAbs ≤ B) : (a * b).natAbs ≤ A * B := by rw [Int.natAbs_mul]; exact Nat.mul_le_mul ha hb
theorem iadd_v {x y z : Int32} (h : x + y = z) (hb : (x.toInt + y.toInt).natAbs < 2147483648) : z.toInt = x.toInt + y.toInt := by rw [← h, Int32.toInt_add]; exact Int.bmod_eq_of_le (by omega) (by omega)
theorem isub_v {x y z : Int32} (h : x - y = z) (hb : (x.toInt - y.toInt).natAbs < 2147483648) : z.toInt = x.toInt - y.toInt := by rw [← h, Int32.toInt_sub]; exact Int.bmod_eq_of_le (by omega) (by omega)
theorem imul_v {x y z : Int32} (h : x * y = z) (hb : (x.toInt * y.toInt).natAbs < 2147483648) : z.toInt = x.toInt * y.toInt := by rw [← h, Int32.toInt_mul]; exact Int.bmod_eq_of_le (by omega) (by omega)
theorem ladd_v {x y z : Int64} (h : x + y = z) (hb : (x.toInt + y.toInt).natAbs < 9223372036854775808) : z.toInt = x.toInt + y.toInt := by rw [← h, Int64.toInt_add]; exact Int.bmod_eq_of_le (by omega) (by omega)
theorem lsub_v {x y z : Int64} (h : x - y = z) (hb : (x.toInt - y.toInt).natAbs < 9223372036854775808) : z.toInt = x.toInt - y.toInt := by rw [← h, Int64.toInt_sub]; exact Int.bmod_eq_of_le (by omega) (by omega)
theorem lmul_v {x y z : Int64} (h : x * y = z) (hb : (x.toInt * y.toInt).natAbs < 9223372036854775808) : z.toInt = x.toInt * y.toInt := by rw [← h, Int64.toInt_mul]; exact Int.bmod_eq_of_le (by omega) (by omega)
theorem i2l_v {x : Int32} {z : Int64} (h : x.toInt64 = z) : z.toInt = x.toInt := by rw [← h]; exact c_i2l x
theorem l2i_v {x : Int64} {z : Int32} (h : x.toInt32 = z) (hb : -2147483648 ≤ x.toInt ∧ x.toInt < 2147483648) : z.toInt = x.toInt := by
  rw [← h]; have h1 := c_l2i x; have h2 := rng32 x.toInt32; omega
theorem rng32b (x : Int32) : x.toInt.natAbs ≤ 2147483648 := by have := rng32 x; omega
theorem rng64b (x : Int64) : x.toInt.natAbs ≤ 9223372036854775808 := by have := rng64 x; omega
theorem ishr16 {p z : Int32} (h : p >>> ((16 : Int32) &&& 31) = z) : z.toInt = p.toInt / 65536 := by
  rw [← h, c_ishr p 16 16 (by decide)]; rfl
theorem i2s_b {x z : Int32} (h : x.toInt16.toInt32 = z) : -32768 ≤ z.toInt ∧ z.toInt < 32768 := by rw [← h]; exact (c_i2s x).2
/-- x % y, y > 0, x ≥ 0 -/
theorem irem_v {x y z : Int32} (h : x % y = z) (hx : 0 ≤ x.toInt) : z.toInt = x.toInt % y.toInt := by rw [← h, Int32.toInt_mod]; exact Int.tmod_eq_emod_of_nonneg hx
theorem lrem_v {x y z : Int64} (h : x % y = z) (hx : 0 ≤ x.toInt) : z.toInt = x.toInt % y.toInt := by rw [← h, Int64.toInt_mod]; exact Int.tmod_eq_emod_of_nonneg hx
theorem mask31 {x z : Int32} (h : x &&& (2147483647 : Int32) = z) : 0 ≤ z.toInt ∧ z.toInt < 2147483648 := by
  rw [← h, c_mask x 2147483647 31 (by decide) (by decide)]
  have e : ((2 ^ 31 : Nat) : Int) = 2147483648 := by decide
  rw [e]; omega
/-- x << q, q < 64, no overflow -/
theorem lshl_v {x z : Int64} {q : Int32} (h : x <<< (q &&& 0x3f).toInt64 = z) {k : Nat} (hq : q.toInt = (k : Int)) (hk : k < 64) (hb : (x.toInt * ((2 ^ k : Nat) : Int)).natAbs < 9223372036854775808) : z.toInt = x.toInt * ((2 ^ k : Nat) : Int) := by
  have hn : q.toBitVec.toNat % 64 = k := by
    have e : q.toBitVec.toNat = k := by
      have h1 : q.toBitVec.toInt = (k : Int) := hq
      have h2 := BitVec.toInt_eq_toNat_bmod q.toBitVec
      rw [h1] at h2
      have h3 := q.toBitVec.isLt
      have h4 := Int.bmod_emod (x := (q.toBitVec.toNat : Int)) (m := 2 ^ 32)
      omega
    omega
  have := c_lshl x q k hn
  rw [h] at this
  have r := rng64 z
  omega
end Jvm.OwnF
namespace Jvm.OwnF
open Jvm.RoadKit
theorem nat32 {q : Int32} {k : Nat} (hq : q.toInt = (k : Int)) : q.toBitVec.toNat = k := by
  have h1 : q.toBitVec.toInt = (k : Int) := hq
  have h2 := BitVec.toInt_eq_toNat_bmod q.toBitVec
  rw [h1] at h2
  have h3 := q.toBitVec.isLt
  have h5 := rng32 q
  have h4 := Int.bmod_emod (x := (q.toBitVec.toNat : Int)) (m := 2 ^ 32)
  omega
theorem ishl_v {x z q : Int32} (h : x <<< (q &&& 31) = z) {k : Nat} (hq : q.toInt = (k : Int)) (hk : k < 32) (hb : (x.toInt * ((2 ^ k : Nat) : Int)).natAbs < 2147483648) : z.toInt = x.toInt * ((2 ^ k : Nat) : Int) := by
  have hn : q.toBitVec.toNat % 32 = k := by rw [nat32 hq]; omega
  have := c_ishl x q k hn
  rw [h] at this
  have r := rng32 z
  omega
theorem ishl_1 {z q : Int32} (h : (1 : Int32) <<< (q &&& 31) = z) {k : Nat} (hq : q.toInt = (k : Int)) (hk : k < 31) : z.toInt = ((2 ^ k : Nat) : Int) := by
  have p : 2 ^ k ≤ 2 ^ 30 := Nat.pow_le_pow_right (by decide) (by omega)
  have := ishl_v h hq (by omega) (by rw [show (1 : Int32).toInt = 1 by decide, Int.one_mul, Int.natAbs_natCast]; omega)
  rw [show (1 : Int32).toInt = 1 by decide, Int.one_mul] at this
  exact this
end Jvm.OwnF
namespace Jvm.Pilot.@@N@@
open Jvm Jvm.ClassFile Sem Op Lib Jvm.Free Jvm.Stand Jvm.LawKit Jvm.RoadKit Bundle Jvm.Pilot.@@N@@.Jvm.D
theorem and3 (x : Int32) : x &&& (3 : Int32) = 0 ∨ x &&& (3 : Int32) = 1 ∨ x &&& (3 : Int32) = 2 ∨ x &&& (3 : Int32) = 3 := by
  have h := c_mask x 3 2 (by decide) (by decide)
  have e : ((2 ^ 2 : Nat) : Int) = 4 := by decide
  rw [e] at h
  simp only [← Int32.toInt_inj]
  have e0 : (0 : Int32).toInt = 0 := by decide
  have e1 : (1 : Int32).toInt = 1 := by decide
  have e2 : (2 : Int32).toInt = 2 := by decide
  have e3 : (3 : Int32).toInt = 3 := by decide
  omega
open Jvm.OwnF in
theorem neg_nn {x : UInt64} (h : Jvm.Free.Fl.NoNaN64 x) : Jvm.Free.Fl.NoNaN64 (FP.dneg x) := by
  rw [Jvm.Free.Fl.noNaN64_iff] at h ⊢
  have e : (FP.dneg x).toNat % 9223372036854775808 = x.toNat % 9223372036854775808 := by
    show (x ^^^ 0x8000000000000000).toNat % 2 ^ 63 = x.toNat % 2 ^ 63
    rw [UInt64.toNat_xor]
    apply Nat.eq_of_testBit_eq; intro i
    simp only [Nat.testBit_mod_two_pow, Nat.testBit_xor]
    by_cases q : i < 63
    · have : (0x8000000000000000 : UInt64).toNat.testBit i = false := by
        show (2 ^ 63 : Nat).testBit i = false
        rw [Nat.testBit_two_pow]; simp; omega
      rw [this]; simp
    · simp [q]
  rw [e]; exact h
open Jvm.OwnF in
/-- what 'at' asks of a component and its negation -/
theorem pl {x : Int32} {y w v n : UInt64} {z9 z21 z37 : Int32} {q : UInt64} (hy : FP.i2d x = y) (hw : FP.dneg y = w) (hv : FP.i2d x = v) (h9 : cmpValue (FP.dcmp y v) .l = z9) (hn : FP.dneg v = n) (h21 : cmpValue (FP.dcmp w n) .l = z21) (hq : FP.ddiv FP.dconst1 w = q) (h37 : cmpValue (FP.dcmp q FP.dconst0) .g = z37) :
    z9 = 0 ∧ z21 = 0 ∧ (x = 0 → Jvm.Free.Fl.NoNaN64 q) ∧ (x = 0 → z37 < 0) := by
  subst hy hw hv hn
  have hf : Jvm.Free.Fl.NoNaN64 (FP.i2d x) := noNaN_fin (V_i2d x).1
  refine ⟨h9 ▸ dcmpV_self hf _, h21 ▸ dcmpV_self (neg_nn hf) _, fun e => ?_, fun e => ?_⟩
  · subst e hq
    unfold Jvm.Free.Fl.NoNaN64; decide +kernel
  · subst e hq h37
    decide +kernel
theorem d1_0 : decode prog_32_method_3_code 0 = .ok (.aload_n 0, 1) := by decide +kernel
theorem d1_1 : decode prog_32_method_3_code 1 = .ok (.arraylength, 1) := by decide +kernel
theorem d1_2 : decode prog_32_method_3_code 2 = .ok (.newarray .double, 2) := by decide +kernel
theorem d1_4 : decode prog_32_method_3_code 4 = .ok (.astore_n 1, 1) := by decide +kernel
theorem d1_5 : decode prog_32_method_3_code 5 = .ok (.iconst 0, 1) := by decide +kernel
theorem d1_6 : decode prog_32_method_3_code 6 = .ok (.istore_n 2, 1) := by decide +kernel
theorem d1_7 : decode prog_32_method_3_code 7 = .ok (.iload_n 2, 1) := by decide +kernel
theorem d1_8 : decode prog_32_method_3_code 8 = .ok (.aload_n 0, 1) := by decide +kernel
theorem d1_9 : decode prog_32_method_3_code 9 = .ok (.arraylength, 1) := by decide +kernel
theorem d1_10 : decode prog_32_method_3_code 10 = .ok (.if_icmp .ge 16, 3) := by decide +kernel
theorem d1_26 : decode prog_32_method_3_code 26 = .ok (.aload_n 1, 1) := by decide +kernel
theorem d1_27 : decode prog_32_method_3_code 27 = .ok (.areturn, 1) := by decide +kernel
theorem pn_0 : plainName "com/example/credal_choice/credalchoice/model/Gambles" = true := by first | (simp [plainName, overriddenIn]; done) | decide +kernel
theorem ef_rm1_0 (m : MethodId) (o0 : Addr) : entryFrame m #[(.ref o0)] 3 = mkF m 0 #[.val (.ref o0), .unset, .unset] [] := by first | (simp [entryFrame, mkF, argsToLocals, Value.category]; done) | rfl
theorem d1_13 : decode prog_32_method_3_code 13 = .ok (.aload_n 1, 1) := by decide +kernel
theorem d1_14 : decode prog_32_method_3_code 14 = .ok (.iload_n 2, 1) := by decide +kernel
theorem d1_15 : decode prog_32_method_3_code 15 = .ok (.aload_n 0, 1) := by decide +kernel
theorem d1_16 : decode prog_32_method_3_code 16 = .ok (.iload_n 2, 1) := by decide +kernel
theorem d1_17 : decode prog_32_method_3_code 17 = .ok (.daload, 1) := by decide +kernel
theorem d1_18 : decode prog_32_method_3_code 18 = .ok (.dneg, 1) := by decide +kernel
theorem d1_19 : decode prog_32_method_3_code 19 = .ok (.dastore, 1) := by decide +kernel
theorem d1_20 : decode prog_32_method_3_code 20 = .ok (.iinc 2 1, 3) := by decide +kernel
theorem d1_23 : decode prog_32_method_3_code 23 = .ok (.goto (-16), 3) := by decide +kernel
theorem ef_rm1_1 (m : MethodId) (o0 : Addr) : entryFrame m #[(.ref o0)] 3 = mkF m 0 #[.val (.ref o0), .unset, .unset] [] := by first | (simp [entryFrame, mkF, argsToLocals, Value.category]; done) | rfl
theorem ef_rm1_2 (m : MethodId) (o0 : Addr) : entryFrame m #[(.ref o0)] 3 = mkF m 0 #[.val (.ref o0), .unset, .unset] [] := by first | (simp [entryFrame, mkF, argsToLocals, Value.category]; done) | rfl
theorem ef_rm1_3 (m : MethodId) (o0 : Addr) : entryFrame m #[(.ref o0)] 3 = mkF m 0 #[.val (.ref o0), .unset, .unset] [] := by first | (simp [entryFrame, mkF, argsToLocals, Value.category]; done) | rfl
theorem d2_0 : decode method_3_code 0 = .ok (.iload_n 3, 1) := by decide +kernel
theorem d2_1 : decode method_3_code 1 = .ok (.i2d, 1) := by decide +kernel
theorem d2_2 : decode method_3_code 2 = .ok (.dstore 4, 2) := by decide +kernel
theorem d2_4 : decode method_3_code 4 = .ok (.aload_n 0, 1) := by decide +kernel
theorem d2_5 : decode method_3_code 5 = .ok (.iload_n 2, 1) := by decide +kernel
theorem d2_6 : decode method_3_code 6 = .ok (.daload, 1) := by decide +kernel
theorem d2_7 : decode method_3_code 7 = .ok (.dload 4, 2) := by decide +kernel
theorem d2_9 : decode method_3_code 9 = .ok (.dcmp .l, 1) := by decide +kernel
theorem d2_10 : decode method_3_code 10 = .ok (.ifCond .eq 5, 3) := by decide +kernel
theorem d2_15 : decode method_3_code 15 = .ok (.aload_n 1, 1) := by decide +kernel
theorem d2_16 : decode method_3_code 16 = .ok (.iload_n 2, 1) := by decide +kernel
theorem d2_17 : decode method_3_code 17 = .ok (.daload, 1) := by decide +kernel
theorem d2_18 : decode method_3_code 18 = .ok (.dload 4, 2) := by decide +kernel
theorem d2_20 : decode method_3_code 20 = .ok (.dneg, 1) := by decide +kernel
theorem d2_21 : decode method_3_code 21 = .ok (.dcmp .l, 1) := by decide +kernel
theorem d2_22 : decode method_3_code 22 = .ok (.ifCond .eq 5, 3) := by decide +kernel
theorem d2_27 : decode method_3_code 27 = .ok (.iload_n 3, 1) := by decide +kernel
theorem d2_28 : decode method_3_code 28 = .ok (.ifCond .ne 15, 3) := by decide +kernel
theorem d2_31 : decode method_3_code 31 = .ok (.dconst 1, 1) := by decide +kernel
theorem d2_32 : decode method_3_code 32 = .ok (.aload_n 1, 1) := by decide +kernel
theorem d2_33 : decode method_3_code 33 = .ok (.iload_n 2, 1) := by decide +kernel
theorem d2_34 : decode method_3_code 34 = .ok (.daload, 1) := by decide +kernel
theorem d2_35 : decode method_3_code 35 = .ok (.ddiv, 1) := by decide +kernel
theorem d2_36 : decode method_3_code 36 = .ok (.dconst 0, 1) := by decide +kernel
theorem d2_37 : decode method_3_code 37 = .ok (.dcmp .g, 1) := by decide +kernel
theorem d2_38 : decode method_3_code 38 = .ok (.ifCond .lt 5, 3) := by decide +kernel
theorem d2_43 : decode method_3_code 43 = .ok (.iconst 1, 1) := by decide +kernel
theorem d2_44 : decode method_3_code 44 = .ok (.ireturn, 1) := by decide +kernel
theorem pn_1 : plainName "com/example/credal_choice/credalchoice/model/GamblesNegatedPinLaw" = true := by first | (simp [plainName, overriddenIn]; done) | decide +kernel
theorem ef_rm2_1_0 (m : MethodId) (o0 : Addr) (o1 : Addr) (p3 : Int32) : entryFrame m #[(.ref o0), (.ref o1), (.int (0 : Int32)), (.int p3)] 6 = mkF m 0 #[.val (.ref o0), .val (.ref o1), .val (.int (0 : Int32)), .val (.int p3), .unset, .unset] [] := by first | (simp [entryFrame, mkF, argsToLocals, Value.category]; done) | rfl
theorem ef_rm2_2_0 (m : MethodId) (o0 : Addr) (o1 : Addr) (p3 : Int32) : entryFrame m #[(.ref o0), (.ref o1), (.int (0 : Int32)), (.int p3)] 6 = mkF m 0 #[.val (.ref o0), .val (.ref o1), .val (.int (0 : Int32)), .val (.int p3), .unset, .unset] [] := by first | (simp [entryFrame, mkF, argsToLocals, Value.category]; done) | rfl
theorem ef_rm2_2_1 (m : MethodId) (o0 : Addr) (o1 : Addr) (p3 : Int32) : entryFrame m #[(.ref o0), (.ref o1), (.int (1 : Int32)), (.int p3)] 6 = mkF m 0 #[.val (.ref o0), .val (.ref o1), .val (.int (1 : Int32)), .val (.int p3), .unset, .unset] [] := by first | (simp [entryFrame, mkF, argsToLocals, Value.category]; done) | rfl
theorem ef_rm2_3_0 (m : MethodId) (o0 : Addr) (o1 : Addr) (p3 : Int32) : entryFrame m #[(.ref o0), (.ref o1), (.int (0 : Int32)), (.int p3)] 6 = mkF m 0 #[.val (.ref o0), .val (.ref o1), .val (.int (0 : Int32)), .val (.int p3), .unset, .unset] [] := by first | (simp [entryFrame, mkF, argsToLocals, Value.category]; done) | rfl
theorem ef_rm2_3_1 (m : MethodId) (o0 : Addr) (o1 : Addr) (p3 : Int32) : entryFrame m #[(.ref o0), (.ref o1), (.int (1 : Int32)), (.int p3)] 6 = mkF m 0 #[.val (.ref o0), .val (.ref o1), .val (.int (1 : Int32)), .val (.int p3), .unset, .unset] [] := by first | (simp [entryFrame, mkF, argsToLocals, Value.category]; done) | rfl
theorem ef_rm2_3_2 (m : MethodId) (o0 : Addr) (o1 : Addr) (p3 : Int32) : entryFrame m #[(.ref o0), (.ref o1), (.int (2 : Int32)), (.int p3)] 6 = mkF m 0 #[.val (.ref o0), .val (.ref o1), .val (.int (2 : Int32)), .val (.int p3), .unset, .unset] [] := by first | (simp [entryFrame, mkF, argsToLocals, Value.category]; done) | rfl
theorem pd_0 : parseMethodDescriptor "([D)[D" = some ⟨[(.array .double)], some (.array .double)⟩ := by decide +kernel
theorem pd_1 : parseMethodDescriptor "([D[DII)Z" = some ⟨[(.array .double), (.array .double), .int, .int], some .boolean⟩ := by decide +kernel
theorem ef_rm0 (m : MethodId) (p0 : Int32) (p1 : Int32) (p2 : Int32) (p3 : Int32) : entryFrame m #[(.int p0), (.int p1), (.int p2), (.int p3)] maxLocals = mkF m 0 #[.val (.int p0), .val (.int p1), .val (.int p2), .val (.int p3), .unset, .unset, .unset] [] := by first | (simp [entryFrame, mkF, argsToLocals, Value.category, maxLocals]; done) | rfl
def Q1_0 (Z : State) (o0 : Addr) (k_o0 : ClassId)  (h0 : Heap) (n0 : Nat) (v : Option Value) (h : Heap) (L : List Loc) : Prop := ∃ b2 : Addr, ∃ k2 : ClassId, v = some (.ref b2) ∧ Fr n0 L ∧ h0.size ≤ b2 ∧ Keep h0 h [] ∧ Arv Z h b2 k2 .double (0 : Int32) [] (.double (0 : UInt64))
set_option maxRecDepth 65536 in
set_option maxHeartbeats 40000000 in
theorem rm1_0 (l : Launch) (Z : State) (a0 : Array Value) (hw : ∀ d ∈ tables_1, d.before a0 Z = true) (ws : List Jvm.Cond) (o0 : Addr) (k_o0 : ClassId)  (h0 : Heap) (n0 : Nat) (Z0 : n0 ≤ h0.size) (V_o0 : Arv Z h0 o0 k_o0 .double (0 : Int32) [] (.double (0 : UInt64))) :
    MetFree l (⟨"com/example/credal_choice/credalchoice/model/Gambles", "negated", "([D)[D"⟩ : MethodName) (head1 (Jvm.Cond.code (⟨"com/example/credal_choice/credalchoice/model/Gambles", "negated", "([D)[D"⟩ : MethodName) prog_32_method_3_code 3 (some (.array .double)) :: ws) ({ frames := 0, cells := 1, slots := 0, locals := 0 } : Room)) (fun a U => a = #[(.ref o0)] ∧ Z.Warmed39 U.vm ∧ U.heap = h0) (fun _ _ _ _ _ => True) (fun _ U o U' => ∃ v L, o = .returned v ∧ Q1_0 Z o0 k_o0  h0 n0 v U'.heap L ∧ FrameEnd U o U' L ({ frames := 0, cells := 1, slots := 0, locals := 0 } : Room).cells ({ frames := 0, cells := 1, slots := 0, locals := 0 } : Room).slots) := by
  refine MetFree.of_bodySF (plainFor_of_name pn_0) hisR ?_
  intro p e s m args below meth c s₁ Bd hml0 hP hK
  obtain ⟨rfl, hZ, hh⟩ := hP
  have hx := Bd.exec
  have hby := Bd.bytes
  have hml : c.maxLocals = 3 := hml0
  have hown : s.vm.findClass "com/example/credal_choice/credalchoice/model/Gambles" = some m.cls := findClass_of_methodNamed Bd.named
  have hnm := (name_of_methodNamed Bd.named Bd.method).1
  have X0 : Stand p l e ({ frames := 0, cells := 1, slots := 0, locals := 0 } : Room) s m #[(.ref o0)] below meth c s₁ [] 0 0 := Stand.of_body Bd
  have e0 : s₁.heap = h0 := by rw [← hh, Bd.state]; rfl
  have N0 := Fr.nil n0
  have c0 : ∀ t, Steps p.tables e below (s₁.setTop (mkF m 0 #[.val (.ref o0), .unset, .unset] [])) t → Steps p.tables e below (s₁.setTop (entryFrame m #[(.ref o0)] 3)) t := fun t k => castTop (ef_rm1_0 m o0) k
  obtain ⟨cl1, Ar1, -, S1, Nn1, -, -⟩ := id V_o0
  obtain ⟨T2, h2, k2, X2, e2, E2, A2, st2⟩ := newP X0 hx hZ (hw _ (List.mem_of_getElem? (i := 0) rfl)) e0 (g := (mkF m 2 #[.val (.ref o0), .unset, .unset] [(.int (0 : Int32))])) rfl (hb hby d1_2) rfl (by decide) (cap := 0) (by decide) (by decide) (by decide) (by decide)
  obtain ⟨b2, g2⟩ : ∃ z, z = h0.size := ⟨_, rfl⟩
  rw [← g2] at A2 st2
  have gn2 : n0 ≤ b2 := Nat.le_trans Z0 (Nat.le_of_eq g2.symm)
  have gz2 : h0.size ≤ b2 := Nat.le_trans ((Keep.refl h0 [])).1 (Nat.le_of_eq g2.symm)
  have K3 : Keep h0 h2 [] := (Keep.refl h0 []).ext E2
  have V2 : Arv Z h2 b2 k2 .double (0 : Int32) [] (.double (0 : UInt64)) := (Arv.new A2 (by decide)).pad (pad_rep [] (.double (0 : UInt64)) 0)
  have f4 := (V_o0.ext E2)
  obtain ⟨cl5, Ar5, -, S5, Nn5, -, -⟩ := id f4
  have c6 : ∀ t, Steps p.tables e below (T2.setTop (mkF m 27 #[.val (.ref o0), .val (.ref b2), .val (.int (0 : Int32))] [(.ref b2)])) t → Steps p.tables e below (s₁.setTop (entryFrame m #[(.ref o0)] 3)) t := by
    intro t k
    refine c0 t ?_
    show Steps p.tables e below (s₁.setTop (mkF m 0 #[.val (.ref o0), .unset, .unset] [])) _
    refine XS.aloadN X0.here hx rfl (hb hby d1_0) rfl rfl ?_
    show Steps p.tables e below (s₁.setTop (mkF m 1 #[.val (.ref o0), .unset, .unset] [(.ref o0)])) _
    refine X0.arraylength hx (by rw [e0]; exact Ar1.1) (State.isArrayOf_alike hZ.alike Ar1.2.1) (g := (mkF m 1 #[.val (.ref o0), .unset, .unset] [(.ref o0)])) rfl rfl (hb hby d1_1) _ ?_
    rw [len_of S1 Nn1]
    show Steps p.tables e below (s₁.setTop (mkF m 2 #[.val (.ref o0), .unset, .unset] [(.int (0 : Int32))])) _
    refine st2 _ ?_
    show Steps p.tables e below (T2.setTop (mkF m 4 #[.val (.ref o0), .unset, .unset] [(.ref b2)])) _
    refine XS.astoreN X2.here hx rfl (hb hby d1_4) rfl rfl (l' := #[.val (.ref o0), .val (.ref b2), .unset]) rfl ?_
    show Steps p.tables e below (T2.setTop (mkF m 5 #[.val (.ref o0), .val (.ref b2), .unset] [])) _
    refine XS.iconst X2.here hx rfl (hb hby d1_5) ?_
    show Steps p.tables e below (T2.setTop (mkF m 6 #[.val (.ref o0), .val (.ref b2), .unset] [(.int (0 : Int32))])) _
    refine XS.istoreN X2.here hx rfl (hb hby d1_6) rfl (l' := #[.val (.ref o0), .val (.ref b2), .val (.int (0 : Int32))]) rfl ?_
    show Steps p.tables e below (T2.setTop (mkF m 7 #[.val (.ref o0), .val (.ref b2), .val (.int (0 : Int32))] [])) _
    refine XS.iloadN X2.here hx rfl (hb hby d1_7) rfl ?_
    show Steps p.tables e below (T2.setTop (mkF m 8 #[.val (.ref o0), .val (.ref b2), .val (.int (0 : Int32))] [(.int (0 : Int32))])) _
    refine XS.aloadN X2.here hx rfl (hb hby d1_8) rfl rfl ?_
    show Steps p.tables e below (T2.setTop (mkF m 9 #[.val (.ref o0), .val (.ref b2), .val (.int (0 : Int32))] [(.ref o0), (.int (0 : Int32))])) _
    refine X2.arraylength hx (by rw [e2]; exact Ar5.1) (State.isArrayOf_alike hZ.alike Ar5.2.1) (g := (mkF m 9 #[.val (.ref o0), .val (.ref b2), .val (.int (0 : Int32))] [(.ref o0), (.int (0 : Int32))])) rfl rfl (hb hby d1_9) _ ?_
    rw [len_of S5 Nn5]
    show Steps p.tables e below (T2.setTop (mkF m 10 #[.val (.ref o0), .val (.ref b2), .val (.int (0 : Int32))] [(.int (0 : Int32)), (.int (0 : Int32))])) _
    refine XS.icmpYes X2.here hx rfl (pc0 := 10) (pc' := 26) rfl (hb hby d1_10) rfl (Jvm.Free.XT.ii_ge_t (by decide)) (by decide) (by decide) ?_
    show Steps p.tables e below (T2.setTop (mkF m 26 #[.val (.ref o0), .val (.ref b2), .val (.int (0 : Int32))] [])) _
    refine XS.aloadN X2.here hx rfl (hb hby d1_26) rfl rfl ?_
    exact k
  obtain ⟨fs, hr, hrun, hended, hW, hsame⟩ := X2.leave (v := some (.ref b2)) (fun h => by rw [Bd.returns] at h; cases h)
  refine ⟨_, _, c6 _ ?_, hrun, hended, _, _, rfl, ?_, ⟨_, rfl⟩, hW, hsame.mono (by decide) (by decide)⟩
  · show Steps p.tables e below (T2.setTop (mkF m 27 #[.val (.ref o0), .val (.ref b2), .val (.int (0 : Int32))] [(.ref b2)])) _
    exact retOut X2 hx Bd.returns rfl (Or.inr (Or.inr (Or.inr (Or.inr ⟨rfl, rfl, rfl⟩)))) (hb hby d1_27) hr
  · show Q1_0 Z o0 k_o0  h0 n0 _ T2.heap _
    rw [e2]
    exact ⟨b2, k2, rfl, N0, gz2, K3, V2⟩
def Q1_1 (Z : State) (o0 : Addr) (k_o0 : ClassId) (y0 : UInt64) (z18 : UInt64) (h0 : Heap) (n0 : Nat) (v : Option Value) (h : Heap) (L : List Loc) : Prop := ∃ b2 : Addr, ∃ k2 : ClassId, v = some (.ref b2) ∧ Fr n0 L ∧ h0.size ≤ b2 ∧ Keep h0 h [] ∧ Arv Z h b2 k2 .double (1 : Int32) [(.double z18)] (.double (0 : UInt64))
set_option maxRecDepth 65536 in
set_option maxHeartbeats 40000000 in
theorem rm1_1 (l : Launch) (Z : State) (a0 : Array Value) (hw : ∀ d ∈ tables_1, d.before a0 Z = true) (ws : List Jvm.Cond) (o0 : Addr) (k_o0 : ClassId) (y0 : UInt64) (z18 : UInt64) (h0 : Heap) (n0 : Nat) (Z0 : n0 ≤ h0.size) (V_o0 : Arv Z h0 o0 k_o0 .double (1 : Int32) [(.double y0)] (.double (0 : UInt64))) (hz18 : FP.dneg y0 = z18) :
    MetFree l (⟨"com/example/credal_choice/credalchoice/model/Gambles", "negated", "([D)[D"⟩ : MethodName) (head1 (Jvm.Cond.code (⟨"com/example/credal_choice/credalchoice/model/Gambles", "negated", "([D)[D"⟩ : MethodName) prog_32_method_3_code 3 (some (.array .double)) :: ws) ({ frames := 0, cells := 1, slots := 1, locals := 0 } : Room)) (fun a U => a = #[(.ref o0)] ∧ Z.Warmed39 U.vm ∧ U.heap = h0) (fun _ _ _ _ _ => True) (fun _ U o U' => ∃ v L, o = .returned v ∧ Q1_1 Z o0 k_o0 y0 z18 h0 n0 v U'.heap L ∧ FrameEnd U o U' L ({ frames := 0, cells := 1, slots := 1, locals := 0 } : Room).cells ({ frames := 0, cells := 1, slots := 1, locals := 0 } : Room).slots) := by
  refine MetFree.of_bodySF (plainFor_of_name pn_0) hisR ?_
  intro p e s m args below meth c s₁ Bd hml0 hP hK
  obtain ⟨rfl, hZ, hh⟩ := hP
  have hx := Bd.exec
  have hby := Bd.bytes
  have hml : c.maxLocals = 3 := hml0
  have hown : s.vm.findClass "com/example/credal_choice/credalchoice/model/Gambles" = some m.cls := findClass_of_methodNamed Bd.named
  have hnm := (name_of_methodNamed Bd.named Bd.method).1
  have X0 : Stand p l e ({ frames := 0, cells := 1, slots := 1, locals := 0 } : Room) s m #[(.ref o0)] below meth c s₁ [] 0 0 := Stand.of_body Bd
  have e0 : s₁.heap = h0 := by rw [← hh, Bd.state]; rfl
  have N0 := Fr.nil n0
  have c0 : ∀ t, Steps p.tables e below (s₁.setTop (mkF m 0 #[.val (.ref o0), .unset, .unset] [])) t → Steps p.tables e below (s₁.setTop (entryFrame m #[(.ref o0)] 3)) t := fun t k => castTop (ef_rm1_1 m o0) k
  obtain ⟨cl1, Ar1, -, S1, Nn1, -, -⟩ := id V_o0
  obtain ⟨T2, h2, k2, X2, e2, E2, A2, st2⟩ := newP X0 hx hZ (hw _ (List.mem_of_getElem? (i := 0) rfl)) e0 (g := (mkF m 2 #[.val (.ref o0), .unset, .unset] [(.int (1 : Int32))])) rfl (hb hby d1_2) rfl (by decide) (cap := 1) (by decide) (by decide) (by decide) (by decide)
  obtain ⟨b2, g2⟩ : ∃ z, z = h0.size := ⟨_, rfl⟩
  rw [← g2] at A2 st2
  have gn2 : n0 ≤ b2 := Nat.le_trans Z0 (Nat.le_of_eq g2.symm)
  have gz2 : h0.size ≤ b2 := Nat.le_trans ((Keep.refl h0 [])).1 (Nat.le_of_eq g2.symm)
  have K3 : Keep h0 h2 [] := (Keep.refl h0 []).ext E2
  have V2 : Arv Z h2 b2 k2 .double (1 : Int32) [(.double (0 : UInt64))] (.double (0 : UInt64)) := (Arv.new A2 (by decide)).pad (pad_rep [] (.double (0 : UInt64)) 1)
  have f4 := (V_o0.ext E2)
  obtain ⟨cl5, Ar5, -, S5, Nn5, -, -⟩ := id f4
  obtain ⟨cl6, Ar6, -, S6, -, Ha6, -⟩ := id f4
  have in6 : ¬ ((0 : Int32) < 0 ∨ cl6.slots.size ≤ ((0 : Int32)).toNatClampNeg) := inb_of S6 ⟨by decide, by decide⟩
  obtain ⟨cl7, Ar7, q7, S7, Nn7, Ha7, G7⟩ := id V2
  have in7 : ¬ ((0 : Int32) < 0 ∨ cl7.slots.size ≤ ((0 : Int32)).toNatClampNeg) := inb_of S7 ⟨by decide, by decide⟩
  obtain ⟨T8, h8, X8, e8, W8, st8⟩ := stD X2 hx hZ e2 Ar7 (j := (0 : Int32)) in7 (g := (mkF m 19 #[.val (.ref o0), .val (.ref b2), .val (.int (0 : Int32))] [(.double z18), (.int (0 : Int32)), (.ref b2)])) rfl rfl (hb hby d1_19)
  have N8 := Fr.snoc X8 N0 gn2
  have K9 : Keep h0 h8 [] := K3.wr W8 (Or.inr gz2)
  have V8 : Arv Z h8 b2 k2 .double (1 : Int32) [(.double z18)] (.double (0 : UInt64)) := Arv.set Ar7 q7 S7 Nn7 Ha7 G7 rfl W8 0 rfl (show (0 : Nat) < 1 by decide)
  have f10 := (f4.other W8 (Nat.ne_of_lt (Nat.lt_of_lt_of_le (V_o0).lt (Nat.le_of_eq g2.symm))))
  obtain ⟨cl11, Ar11, -, S11, Nn11, -, -⟩ := id f10
  have c12 : ∀ t, Steps p.tables e below (T8.setTop (mkF m 27 #[.val (.ref o0), .val (.ref b2), .val (.int (1 : Int32))] [(.ref b2)])) t → Steps p.tables e below (s₁.setTop (entryFrame m #[(.ref o0)] 3)) t := by
    intro t k
    refine c0 t ?_
    show Steps p.tables e below (s₁.setTop (mkF m 0 #[.val (.ref o0), .unset, .unset] [])) _
    refine XS.aloadN X0.here hx rfl (hb hby d1_0) rfl rfl ?_
    show Steps p.tables e below (s₁.setTop (mkF m 1 #[.val (.ref o0), .unset, .unset] [(.ref o0)])) _
    refine X0.arraylength hx (by rw [e0]; exact Ar1.1) (State.isArrayOf_alike hZ.alike Ar1.2.1) (g := (mkF m 1 #[.val (.ref o0), .unset, .unset] [(.ref o0)])) rfl rfl (hb hby d1_1) _ ?_
    rw [len_of S1 Nn1]
    show Steps p.tables e below (s₁.setTop (mkF m 2 #[.val (.ref o0), .unset, .unset] [(.int (1 : Int32))])) _
    refine st2 _ ?_
    show Steps p.tables e below (T2.setTop (mkF m 4 #[.val (.ref o0), .unset, .unset] [(.ref b2)])) _
    refine XS.astoreN X2.here hx rfl (hb hby d1_4) rfl rfl (l' := #[.val (.ref o0), .val (.ref b2), .unset]) rfl ?_
    show Steps p.tables e below (T2.setTop (mkF m 5 #[.val (.ref o0), .val (.ref b2), .unset] [])) _
    refine XS.iconst X2.here hx rfl (hb hby d1_5) ?_
    show Steps p.tables e below (T2.setTop (mkF m 6 #[.val (.ref o0), .val (.ref b2), .unset] [(.int (0 : Int32))])) _
    refine XS.istoreN X2.here hx rfl (hb hby d1_6) rfl (l' := #[.val (.ref o0), .val (.ref b2), .val (.int (0 : Int32))]) rfl ?_
    show Steps p.tables e below (T2.setTop (mkF m 7 #[.val (.ref o0), .val (.ref b2), .val (.int (0 : Int32))] [])) _
    refine XS.iloadN X2.here hx rfl (hb hby d1_7) rfl ?_
    show Steps p.tables e below (T2.setTop (mkF m 8 #[.val (.ref o0), .val (.ref b2), .val (.int (0 : Int32))] [(.int (0 : Int32))])) _
    refine XS.aloadN X2.here hx rfl (hb hby d1_8) rfl rfl ?_
    show Steps p.tables e below (T2.setTop (mkF m 9 #[.val (.ref o0), .val (.ref b2), .val (.int (0 : Int32))] [(.ref o0), (.int (0 : Int32))])) _
    refine X2.arraylength hx (by rw [e2]; exact Ar5.1) (State.isArrayOf_alike hZ.alike Ar5.2.1) (g := (mkF m 9 #[.val (.ref o0), .val (.ref b2), .val (.int (0 : Int32))] [(.ref o0), (.int (0 : Int32))])) rfl rfl (hb hby d1_9) _ ?_
    rw [len_of S5 Nn5]
    show Steps p.tables e below (T2.setTop (mkF m 10 #[.val (.ref o0), .val (.ref b2), .val (.int (0 : Int32))] [(.int (1 : Int32)), (.int (0 : Int32))])) _
    refine XS.icmpNo X2.here hx rfl (hb hby d1_10) rfl (Jvm.Free.XT.ii_ge_f (by decide)) ?_
    show Steps p.tables e below (T2.setTop (mkF m 13 #[.val (.ref o0), .val (.ref b2), .val (.int (0 : Int32))] [])) _
    refine XS.aloadN X2.here hx rfl (hb hby d1_13) rfl rfl ?_
    show Steps p.tables e below (T2.setTop (mkF m 14 #[.val (.ref o0), .val (.ref b2), .val (.int (0 : Int32))] [(.ref b2)])) _
    refine XS.iloadN X2.here hx rfl (hb hby d1_14) rfl ?_
    show Steps p.tables e below (T2.setTop (mkF m 15 #[.val (.ref o0), .val (.ref b2), .val (.int (0 : Int32))] [(.int (0 : Int32)), (.ref b2)])) _
    refine XS.aloadN X2.here hx rfl (hb hby d1_15) rfl rfl ?_
    show Steps p.tables e below (T2.setTop (mkF m 16 #[.val (.ref o0), .val (.ref b2), .val (.int (0 : Int32))] [(.ref o0), (.int (0 : Int32)), (.ref b2)])) _
    refine XS.iloadN X2.here hx rfl (hb hby d1_16) rfl ?_
    show Steps p.tables e below (T2.setTop (mkF m 17 #[.val (.ref o0), .val (.ref b2), .val (.int (0 : Int32))] [(.int (0 : Int32)), (.ref o0), (.int (0 : Int32)), (.ref b2)])) _
    refine X2.daload hx (j := (0 : Int32)) (v := (.double y0)) (by rw [e2]; exact Ar6.1) (State.isArrayOf_alike hZ.alike Ar6.2.1) Ar6.2.2 in6 (Has.at Ha6 in6 rfl) (g := (mkF m 17 #[.val (.ref o0), .val (.ref b2), .val (.int (0 : Int32))] [(.int (0 : Int32)), (.ref o0), (.int (0 : Int32)), (.ref b2)])) rfl rfl (hb hby d1_17) _ ?_
    show Steps p.tables e below (T2.setTop (mkF m 18 #[.val (.ref o0), .val (.ref b2), .val (.int (0 : Int32))] [(.double y0), (.int (0 : Int32)), (.ref b2)])) _
    refine XS.dnegS X2.here hx rfl (hb hby d1_18) rfl hz18 ?_
    show Steps p.tables e below (T2.setTop (mkF m 19 #[.val (.ref o0), .val (.ref b2), .val (.int (0 : Int32))] [(.double z18), (.int (0 : Int32)), (.ref b2)])) _
    refine st8 _ ?_
    show Steps p.tables e below (T8.setTop (mkF m 20 #[.val (.ref o0), .val (.ref b2), .val (.int (0 : Int32))] [])) _
    refine Jvm.OwnK.iinc X8.here hx rfl (hb hby d1_20) rfl (l' := #[.val (.ref o0), .val (.ref b2), .val (.int (1 : Int32))]) (v := (1 : Int32)) (by decide) rfl ?_
    show Steps p.tables e below (T8.setTop (mkF m 23 #[.val (.ref o0), .val (.ref b2), .val (.int (1 : Int32))] [])) _
    refine XS.goto X8.here hx rfl (pc0 := 23) (pc' := 7) rfl (hb hby d1_23) (by decide) (by decide) ?_
    show Steps p.tables e below (T8.setTop (mkF m 7 #[.val (.ref o0), .val (.ref b2), .val (.int (1 : Int32))] [])) _
    refine XS.iloadN X8.here hx rfl (hb hby d1_7) rfl ?_
    show Steps p.tables e below (T8.setTop (mkF m 8 #[.val (.ref o0), .val (.ref b2), .val (.int (1 : Int32))] [(.int (1 : Int32))])) _
    refine XS.aloadN X8.here hx rfl (hb hby d1_8) rfl rfl ?_
    show Steps p.tables e below (T8.setTop (mkF m 9 #[.val (.ref o0), .val (.ref b2), .val (.int (1 : Int32))] [(.ref o0), (.int (1 : Int32))])) _
    refine X8.arraylength hx (by rw [e8]; exact Ar11.1) (State.isArrayOf_alike hZ.alike Ar11.2.1) (g := (mkF m 9 #[.val (.ref o0), .val (.ref b2), .val (.int (1 : Int32))] [(.ref o0), (.int (1 : Int32))])) rfl rfl (hb hby d1_9) _ ?_
    rw [len_of S11 Nn11]
    show Steps p.tables e below (T8.setTop (mkF m 10 #[.val (.ref o0), .val (.ref b2), .val (.int (1 : Int32))] [(.int (1 : Int32)), (.int (1 : Int32))])) _
    refine XS.icmpYes X8.here hx rfl (pc0 := 10) (pc' := 26) rfl (hb hby d1_10) rfl (Jvm.Free.XT.ii_ge_t (by decide)) (by decide) (by decide) ?_
    show Steps p.tables e below (T8.setTop (mkF m 26 #[.val (.ref o0), .val (.ref b2), .val (.int (1 : Int32))] [])) _
    refine XS.aloadN X8.here hx rfl (hb hby d1_26) rfl rfl ?_
    exact k
  obtain ⟨fs, hr, hrun, hended, hW, hsame⟩ := X8.leave (v := some (.ref b2)) (fun h => by rw [Bd.returns] at h; cases h)
  refine ⟨_, _, c12 _ ?_, hrun, hended, _, _, rfl, ?_, ⟨_, rfl⟩, hW, hsame.mono (by decide) (by decide)⟩
  · show Steps p.tables e below (T8.setTop (mkF m 27 #[.val (.ref o0), .val (.ref b2), .val (.int (1 : Int32))] [(.ref b2)])) _
    exact retOut X8 hx Bd.returns rfl (Or.inr (Or.inr (Or.inr (Or.inr ⟨rfl, rfl, rfl⟩)))) (hb hby d1_27) hr
  · show Q1_1 Z o0 k_o0 y0 z18 h0 n0 _ T8.heap _
    rw [e8]
    exact ⟨b2, k2, rfl, N8, gz2, K9, V8⟩
def Q1_2 (Z : State) (o0 : Addr) (k_o0 : ClassId) (y0 : UInt64) (y1 : UInt64) (z18 : UInt64) (z18_2 : UInt64) (h0 : Heap) (n0 : Nat) (v : Option Value) (h : Heap) (L : List Loc) : Prop := ∃ b2 : Addr, ∃ k2 : ClassId, v = some (.ref b2) ∧ Fr n0 L ∧ h0.size ≤ b2 ∧ Keep h0 h [] ∧ Arv Z h b2 k2 .double (2 : Int32) [(.double z18), (.double z18_2)] (.double (0 : UInt64))
set_option maxRecDepth 65536 in
set_option maxHeartbeats 40000000 in
theorem rm1_2 (l : Launch) (Z : State) (a0 : Array Value) (hw : ∀ d ∈ tables_1, d.before a0 Z = true) (ws : List Jvm.Cond) (o0 : Addr) (k_o0 : ClassId) (y0 : UInt64) (y1 : UInt64) (z18 : UInt64) (z18_2 : UInt64) (h0 : Heap) (n0 : Nat) (Z0 : n0 ≤ h0.size) (V_o0 : Arv Z h0 o0 k_o0 .double (2 : Int32) [(.double y0), (.double y1)] (.double (0 : UInt64))) (hz18 : FP.dneg y0 = z18) (hz18_2 : FP.dneg y1 = z18_2) :
    MetFree l (⟨"com/example/credal_choice/credalchoice/model/Gambles", "negated", "([D)[D"⟩ : MethodName) (head1 (Jvm.Cond.code (⟨"com/example/credal_choice/credalchoice/model/Gambles", "negated", "([D)[D"⟩ : MethodName) prog_32_method_3_code 3 (some (.array .double)) :: ws) ({ frames := 0, cells := 1, slots := 2, locals := 0 } : Room)) (fun a U => a = #[(.ref o0)] ∧ Z.Warmed39 U.vm ∧ U.heap = h0) (fun _ _ _ _ _ => True) (fun _ U o U' => ∃ v L, o = .returned v ∧ Q1_2 Z o0 k_o0 y0 y1 z18 z18_2 h0 n0 v U'.heap L ∧ FrameEnd U o U' L ({ frames := 0, cells := 1, slots := 2, locals := 0 } : Room).cells ({ frames := 0, cells := 1, slots := 2, locals := 0 } : Room).slots) := by
  refine MetFree.of_bodySF (plainFor_of_name pn_0) hisR ?_
  intro p e s m args below meth c s₁ Bd hml0 hP hK
  obtain ⟨rfl, hZ, hh⟩ := hP
  have hx := Bd.exec
  have hby := Bd.bytes
  have hml : c.maxLocals = 3 := hml0
  have hown : s.vm.findClass "com/example/credal_choice/credalchoice/model/Gambles" = some m.cls := findClass_of_methodNamed Bd.named
  have hnm := (name_of_methodNamed Bd.named Bd.method).1
  have X0 : Stand p l e ({ frames := 0, cells := 1, slots := 2, locals := 0 } : Room) s m #[(.ref o0)] below meth c s₁ [] 0 0 := Stand.of_body Bd
  have e0 : s₁.heap = h0 := by rw [← hh, Bd.state]; rfl
  have N0 := Fr.nil n0
  have c0 : ∀ t, Steps p.tables e below (s₁.setTop (mkF m 0 #[.val (.ref o0), .unset, .unset] [])) t → Steps p.tables e below (s₁.setTop (entryFrame m #[(.ref o0)] 3)) t := fun t k => castTop (ef_rm1_2 m o0) k
  obtain ⟨cl1, Ar1, -, S1, Nn1, -, -⟩ := id V_o0
  obtain ⟨T2, h2, k2, X2, e2, E2, A2, st2⟩ := newP X0 hx hZ (hw _ (List.mem_of_getElem? (i := 0) rfl)) e0 (g := (mkF m 2 #[.val (.ref o0), .unset, .unset] [(.int (2 : Int32))])) rfl (hb hby d1_2) rfl (by decide) (cap := 2) (by decide) (by decide) (by decide) (by decide)
  obtain ⟨b2, g2⟩ : ∃ z, z = h0.size := ⟨_, rfl⟩
  rw [← g2] at A2 st2
  have gn2 : n0 ≤ b2 := Nat.le_trans Z0 (Nat.le_of_eq g2.symm)
  have gz2 : h0.size ≤ b2 := Nat.le_trans ((Keep.refl h0 [])).1 (Nat.le_of_eq g2.symm)
  have K3 : Keep h0 h2 [] := (Keep.refl h0 []).ext E2
  have V2 : Arv Z h2 b2 k2 .double (2 : Int32) [(.double (0 : UInt64)), (.double (0 : UInt64))] (.double (0 : UInt64)) := (Arv.new A2 (by decide)).pad (pad_rep [] (.double (0 : UInt64)) 2)
  have f4 := (V_o0.ext E2)
  obtain ⟨cl5, Ar5, -, S5, Nn5, -, -⟩ := id f4
  obtain ⟨cl6, Ar6, -, S6, -, Ha6, -⟩ := id f4
  have in6 : ¬ ((0 : Int32) < 0 ∨ cl6.slots.size ≤ ((0 : Int32)).toNatClampNeg) := inb_of S6 ⟨by decide, by decide⟩
  obtain ⟨cl7, Ar7, q7, S7, Nn7, Ha7, G7⟩ := id V2
  have in7 : ¬ ((0 : Int32) < 0 ∨ cl7.slots.size ≤ ((0 : Int32)).toNatClampNeg) := inb_of S7 ⟨by decide, by decide⟩
  obtain ⟨T8, h8, X8, e8, W8, st8⟩ := stD X2 hx hZ e2 Ar7 (j := (0 : Int32)) in7 (g := (mkF m 19 #[.val (.ref o0), .val (.ref b2), .val (.int (0 : Int32))] [(.double z18), (.int (0 : Int32)), (.ref b2)])) rfl rfl (hb hby d1_19)
  have N8 := Fr.snoc X8 N0 gn2
  have K9 : Keep h0 h8 [] := K3.wr W8 (Or.inr gz2)
  have V8 : Arv Z h8 b2 k2 .double (2 : Int32) [(.double z18), (.double (0 : UInt64))] (.double (0 : UInt64)) := Arv.set Ar7 q7 S7 Nn7 Ha7 G7 rfl W8 0 rfl (show (0 : Nat) < 2 by decide)
  have f10 := (f4.other W8 (Nat.ne_of_lt (Nat.lt_of_lt_of_le (V_o0).lt (Nat.le_of_eq g2.symm))))
  obtain ⟨cl11, Ar11, -, S11, Nn11, -, -⟩ := id f10
  obtain ⟨cl12, Ar12, -, S12, -, Ha12, -⟩ := id f10
  have in12 : ¬ ((1 : Int32) < 0 ∨ cl12.slots.size ≤ ((1 : Int32)).toNatClampNeg) := inb_of S12 ⟨by decide, by decide⟩
  obtain ⟨cl13, Ar13, q13, S13, Nn13, Ha13, G13⟩ := id V8
  have in13 : ¬ ((1 : Int32) < 0 ∨ cl13.slots.size ≤ ((1 : Int32)).toNatClampNeg) := inb_of S13 ⟨by decide, by decide⟩
  obtain ⟨T14, h14, X14, e14, W14, st14⟩ := stD X8 hx hZ e8 Ar13 (j := (1 : Int32)) in13 (g := (mkF m 19 #[.val (.ref o0), .val (.ref b2), .val (.int (1 : Int32))] [(.double z18_2), (.int (1 : Int32)), (.ref b2)])) rfl rfl (hb hby d1_19)
  have N14 := Fr.snoc X14 N8 gn2
  have K15 : Keep h0 h14 [] := K9.wr W14 (Or.inr gz2)
  have V14 : Arv Z h14 b2 k2 .double (2 : Int32) [(.double z18), (.double z18_2)] (.double (0 : UInt64)) := Arv.set Ar13 q13 S13 Nn13 Ha13 G13 rfl W14 1 rfl (show (1 : Nat) < 2 by decide)
  have f16 := (f10.other W14 (Nat.ne_of_lt (Nat.lt_of_lt_of_le (V_o0).lt (Nat.le_of_eq g2.symm))))
  obtain ⟨cl17, Ar17, -, S17, Nn17, -, -⟩ := id f16
  have c18 : ∀ t, Steps p.tables e below (T14.setTop (mkF m 27 #[.val (.ref o0), .val (.ref b2), .val (.int (2 : Int32))] [(.ref b2)])) t → Steps p.tables e below (s₁.setTop (entryFrame m #[(.ref o0)] 3)) t := by
    intro t k
    refine c0 t ?_
    show Steps p.tables e below (s₁.setTop (mkF m 0 #[.val (.ref o0), .unset, .unset] [])) _
    refine XS.aloadN X0.here hx rfl (hb hby d1_0) rfl rfl ?_
    show Steps p.tables e below (s₁.setTop (mkF m 1 #[.val (.ref o0), .unset, .unset] [(.ref o0)])) _
    refine X0.arraylength hx (by rw [e0]; exact Ar1.1) (State.isArrayOf_alike hZ.alike Ar1.2.1) (g := (mkF m 1 #[.val (.ref o0), .unset, .unset] [(.ref o0)])) rfl rfl (hb hby d1_1) _ ?_
    rw [len_of S1 Nn1]
    show Steps p.tables e below (s₁.setTop (mkF m 2 #[.val (.ref o0), .unset, .unset] [(.int (2 : Int32))])) _
    refine st2 _ ?_
    show Steps p.tables e below (T2.setTop (mkF m 4 #[.val (.ref o0), .unset, .unset] [(.ref b2)])) _
    refine XS.astoreN X2.here hx rfl (hb hby d1_4) rfl rfl (l' := #[.val (.ref o0), .val (.ref b2), .unset]) rfl ?_
    show Steps p.tables e below (T2.setTop (mkF m 5 #[.val (.ref o0), .val (.ref b2), .unset] [])) _
    refine XS.iconst X2.here hx rfl (hb hby d1_5) ?_
    show Steps p.tables e below (T2.setTop (mkF m 6 #[.val (.ref o0), .val (.ref b2), .unset] [(.int (0 : Int32))])) _
    refine XS.istoreN X2.here hx rfl (hb hby d1_6) rfl (l' := #[.val (.ref o0), .val (.ref b2), .val (.int (0 : Int32))]) rfl ?_
    show Steps p.tables e below (T2.setTop (mkF m 7 #[.val (.ref o0), .val (.ref b2), .val (.int (0 : Int32))] [])) _
    refine XS.iloadN X2.here hx rfl (hb hby d1_7) rfl ?_
    show Steps p.tables e below (T2.setTop (mkF m 8 #[.val (.ref o0), .val (.ref b2), .val (.int (0 : Int32))] [(.int (0 : Int32))])) _
    refine XS.aloadN X2.here hx rfl (hb hby d1_8) rfl rfl ?_
    show Steps p.tables e below (T2.setTop (mkF m 9 #[.val (.ref o0), .val (.ref b2), .val (.int (0 : Int32))] [(.ref o0), (.int (0 : Int32))])) _
    refine X2.arraylength hx (by rw [e2]; exact Ar5.1) (State.isArrayOf_alike hZ.alike Ar5.2.1) (g := (mkF m 9 #[.val (.ref o0), .val (.ref b2), .val (.int (0 : Int32))] [(.ref o0), (.int (0 : Int32))])) rfl rfl (hb hby d1_9) _ ?_
    rw [len_of S5 Nn5]
    show Steps p.tables e below (T2.setTop (mkF m 10 #[.val (.ref o0), .val (.ref b2), .val (.int (0 : Int32))] [(.int (2 : Int32)), (.int (0 : Int32))])) _
    refine XS.icmpNo X2.here hx rfl (hb hby d1_10) rfl (Jvm.Free.XT.ii_ge_f (by decide)) ?_
    show Steps p.tables e below (T2.setTop (mkF m 13 #[.val (.ref o0), .val (.ref b2), .val (.int (0 : Int32))] [])) _
    refine XS.aloadN X2.here hx rfl (hb hby d1_13) rfl rfl ?_
    show Steps p.tables e below (T2.setTop (mkF m 14 #[.val (.ref o0), .val (.ref b2), .val (.int (0 : Int32))] [(.ref b2)])) _
    refine XS.iloadN X2.here hx rfl (hb hby d1_14) rfl ?_
    show Steps p.tables e below (T2.setTop (mkF m 15 #[.val (.ref o0), .val (.ref b2), .val (.int (0 : Int32))] [(.int (0 : Int32)), (.ref b2)])) _
    refine XS.aloadN X2.here hx rfl (hb hby d1_15) rfl rfl ?_
    show Steps p.tables e below (T2.setTop (mkF m 16 #[.val (.ref o0), .val (.ref b2), .val (.int (0 : Int32))] [(.ref o0), (.int (0 : Int32)), (.ref b2)])) _
    refine XS.iloadN X2.here hx rfl (hb hby d1_16) rfl ?_
    show Steps p.tables e below (T2.setTop (mkF m 17 #[.val (.ref o0), .val (.ref b2), .val (.int (0 : Int32))] [(.int (0 : Int32)), (.ref o0), (.int (0 : Int32)), (.ref b2)])) _
    refine X2.daload hx (j := (0 : Int32)) (v := (.double y0)) (by rw [e2]; exact Ar6.1) (State.isArrayOf_alike hZ.alike Ar6.2.1) Ar6.2.2 in6 (Has.at Ha6 in6 rfl) (g := (mkF m 17 #[.val (.ref o0), .val (.ref b2), .val (.int (0 : Int32))] [(.int (0 : Int32)), (.ref o0), (.int (0 : Int32)), (.ref b2)])) rfl rfl (hb hby d1_17) _ ?_
    show Steps p.tables e below (T2.setTop (mkF m 18 #[.val (.ref o0), .val (.ref b2), .val (.int (0 : Int32))] [(.double y0), (.int (0 : Int32)), (.ref b2)])) _
    refine XS.dnegS X2.here hx rfl (hb hby d1_18) rfl hz18 ?_
    show Steps p.tables e below (T2.setTop (mkF m 19 #[.val (.ref o0), .val (.ref b2), .val (.int (0 : Int32))] [(.double z18), (.int (0 : Int32)), (.ref b2)])) _
    refine st8 _ ?_
    show Steps p.tables e below (T8.setTop (mkF m 20 #[.val (.ref o0), .val (.ref b2), .val (.int (0 : Int32))] [])) _
    refine Jvm.OwnK.iinc X8.here hx rfl (hb hby d1_20) rfl (l' := #[.val (.ref o0), .val (.ref b2), .val (.int (1 : Int32))]) (v := (1 : Int32)) (by decide) rfl ?_
    show Steps p.tables e below (T8.setTop (mkF m 23 #[.val (.ref o0), .val (.ref b2), .val (.int (1 : Int32))] [])) _
    refine XS.goto X8.here hx rfl (pc0 := 23) (pc' := 7) rfl (hb hby d1_23) (by decide) (by decide) ?_
    show Steps p.tables e below (T8.setTop (mkF m 7 #[.val (.ref o0), .val (.ref b2), .val (.int (1 : Int32))] [])) _
    refine XS.iloadN X8.here hx rfl (hb hby d1_7) rfl ?_
    show Steps p.tables e below (T8.setTop (mkF m 8 #[.val (.ref o0), .val (.ref b2), .val (.int (1 : Int32))] [(.int (1 : Int32))])) _
    refine XS.aloadN X8.here hx rfl (hb hby d1_8) rfl rfl ?_
    show Steps p.tables e below (T8.setTop (mkF m 9 #[.val (.ref o0), .val (.ref b2), .val (.int (1 : Int32))] [(.ref o0), (.int (1 : Int32))])) _
    refine X8.arraylength hx (by rw [e8]; exact Ar11.1) (State.isArrayOf_alike hZ.alike Ar11.2.1) (g := (mkF m 9 #[.val (.ref o0), .val (.ref b2), .val (.int (1 : Int32))] [(.ref o0), (.int (1 : Int32))])) rfl rfl (hb hby d1_9) _ ?_
    rw [len_of S11 Nn11]
    show Steps p.tables e below (T8.setTop (mkF m 10 #[.val (.ref o0), .val (.ref b2), .val (.int (1 : Int32))] [(.int (2 : Int32)), (.int (1 : Int32))])) _
    refine XS.icmpNo X8.here hx rfl (hb hby d1_10) rfl (Jvm.Free.XT.ii_ge_f (by decide)) ?_
    show Steps p.tables e below (T8.setTop (mkF m 13 #[.val (.ref o0), .val (.ref b2), .val (.int (1 : Int32))] [])) _
    refine XS.aloadN X8.here hx rfl (hb hby d1_13) rfl rfl ?_
    show Steps p.tables e below (T8.setTop (mkF m 14 #[.val (.ref o0), .val (.ref b2), .val (.int (1 : Int32))] [(.ref b2)])) _
    refine XS.iloadN X8.here hx rfl (hb hby d1_14) rfl ?_
    show Steps p.tables e below (T8.setTop (mkF m 15 #[.val (.ref o0), .val (.ref b2), .val (.int (1 : Int32))] [(.int (1 : Int32)), (.ref b2)])) _
    refine XS.aloadN X8.here hx rfl (hb hby d1_15) rfl rfl ?_
    show Steps p.tables e below (T8.setTop (mkF m 16 #[.val (.ref o0), .val (.ref b2), .val (.int (1 : Int32))] [(.ref o0), (.int (1 : Int32)), (.ref b2)])) _
    refine XS.iloadN X8.here hx rfl (hb hby d1_16) rfl ?_
    show Steps p.tables e below (T8.setTop (mkF m 17 #[.val (.ref o0), .val (.ref b2), .val (.int (1 : Int32))] [(.int (1 : Int32)), (.ref o0), (.int (1 : Int32)), (.ref b2)])) _
    refine X8.daload hx (j := (1 : Int32)) (v := (.double y1)) (by rw [e8]; exact Ar12.1) (State.isArrayOf_alike hZ.alike Ar12.2.1) Ar12.2.2 in12 (Has.at Ha12 in12 rfl) (g := (mkF m 17 #[.val (.ref o0), .val (.ref b2), .val (.int (1 : Int32))] [(.int (1 : Int32)), (.ref o0), (.int (1 : Int32)), (.ref b2)])) rfl rfl (hb hby d1_17) _ ?_
    show Steps p.tables e below (T8.setTop (mkF m 18 #[.val (.ref o0), .val (.ref b2), .val (.int (1 : Int32))] [(.double y1), (.int (1 : Int32)), (.ref b2)])) _
    refine XS.dnegS X8.here hx rfl (hb hby d1_18) rfl hz18_2 ?_
    show Steps p.tables e below (T8.setTop (mkF m 19 #[.val (.ref o0), .val (.ref b2), .val (.int (1 : Int32))] [(.double z18_2), (.int (1 : Int32)), (.ref b2)])) _
    refine st14 _ ?_
    show Steps p.tables e below (T14.setTop (mkF m 20 #[.val (.ref o0), .val (.ref b2), .val (.int (1 : Int32))] [])) _
    refine Jvm.OwnK.iinc X14.here hx rfl (hb hby d1_20) rfl (l' := #[.val (.ref o0), .val (.ref b2), .val (.int (2 : Int32))]) (v := (2 : Int32)) (by decide) rfl ?_
    show Steps p.tables e below (T14.setTop (mkF m 23 #[.val (.ref o0), .val (.ref b2), .val (.int (2 : Int32))] [])) _
    refine XS.goto X14.here hx rfl (pc0 := 23) (pc' := 7) rfl (hb hby d1_23) (by decide) (by decide) ?_
    show Steps p.tables e below (T14.setTop (mkF m 7 #[.val (.ref o0), .val (.ref b2), .val (.int (2 : Int32))] [])) _
    refine XS.iloadN X14.here hx rfl (hb hby d1_7) rfl ?_
    show Steps p.tables e below (T14.setTop (mkF m 8 #[.val (.ref o0), .val (.ref b2), .val (.int (2 : Int32))] [(.int (2 : Int32))])) _
    refine XS.aloadN X14.here hx rfl (hb hby d1_8) rfl rfl ?_
    show Steps p.tables e below (T14.setTop (mkF m 9 #[.val (.ref o0), .val (.ref b2), .val (.int (2 : Int32))] [(.ref o0), (.int (2 : Int32))])) _
    refine X14.arraylength hx (by rw [e14]; exact Ar17.1) (State.isArrayOf_alike hZ.alike Ar17.2.1) (g := (mkF m 9 #[.val (.ref o0), .val (.ref b2), .val (.int (2 : Int32))] [(.ref o0), (.int (2 : Int32))])) rfl rfl (hb hby d1_9) _ ?_
    rw [len_of S17 Nn17]
    show Steps p.tables e below (T14.setTop (mkF m 10 #[.val (.ref o0), .val (.ref b2), .val (.int (2 : Int32))] [(.int (2 : Int32)), (.int (2 : Int32))])) _
    refine XS.icmpYes X14.here hx rfl (pc0 := 10) (pc' := 26) rfl (hb hby d1_10) rfl (Jvm.Free.XT.ii_ge_t (by decide)) (by decide) (by decide) ?_
    show Steps p.tables e below (T14.setTop (mkF m 26 #[.val (.ref o0), .val (.ref b2), .val (.int (2 : Int32))] [])) _
    refine XS.aloadN X14.here hx rfl (hb hby d1_26) rfl rfl ?_
    exact k
  obtain ⟨fs, hr, hrun, hended, hW, hsame⟩ := X14.leave (v := some (.ref b2)) (fun h => by rw [Bd.returns] at h; cases h)
  refine ⟨_, _, c18 _ ?_, hrun, hended, _, _, rfl, ?_, ⟨_, rfl⟩, hW, hsame.mono (by decide) (by decide)⟩
  · show Steps p.tables e below (T14.setTop (mkF m 27 #[.val (.ref o0), .val (.ref b2), .val (.int (2 : Int32))] [(.ref b2)])) _
    exact retOut X14 hx Bd.returns rfl (Or.inr (Or.inr (Or.inr (Or.inr ⟨rfl, rfl, rfl⟩)))) (hb hby d1_27) hr
  · show Q1_2 Z o0 k_o0 y0 y1 z18 z18_2 h0 n0 _ T14.heap _
    rw [e14]
    exact ⟨b2, k2, rfl, N14, gz2, K15, V14⟩
def Q1_3 (Z : State) (o0 : Addr) (k_o0 : ClassId) (y0 : UInt64) (y1 : UInt64) (y2 : UInt64) (z18 : UInt64) (z18_2 : UInt64) (z18_3 : UInt64) (h0 : Heap) (n0 : Nat) (v : Option Value) (h : Heap) (L : List Loc) : Prop := ∃ b2 : Addr, ∃ k2 : ClassId, v = some (.ref b2) ∧ Fr n0 L ∧ h0.size ≤ b2 ∧ Keep h0 h [] ∧ Arv Z h b2 k2 .double (3 : Int32) [(.double z18), (.double z18_2), (.double z18_3)] (.double (0 : UInt64))
set_option maxRecDepth 65536 in
set_option maxHeartbeats 40000000 in
theorem rm1_3 (l : Launch) (Z : State) (a0 : Array Value) (hw : ∀ d ∈ tables_1, d.before a0 Z = true) (ws : List Jvm.Cond) (o0 : Addr) (k_o0 : ClassId) (y0 : UInt64) (y1 : UInt64) (y2 : UInt64) (z18 : UInt64) (z18_2 : UInt64) (z18_3 : UInt64) (h0 : Heap) (n0 : Nat) (Z0 : n0 ≤ h0.size) (V_o0 : Arv Z h0 o0 k_o0 .double (3 : Int32) [(.double y0), (.double y1), (.double y2)] (.double (0 : UInt64))) (hz18 : FP.dneg y0 = z18) (hz18_2 : FP.dneg y1 = z18_2) (hz18_3 : FP.dneg y2 = z18_3) :
    MetFree l (⟨"com/example/credal_choice/credalchoice/model/Gambles", "negated", "([D)[D"⟩ : MethodName) (head1 (Jvm.Cond.code (⟨"com/example/credal_choice/credalchoice/model/Gambles", "negated", "([D)[D"⟩ : MethodName) prog_32_method_3_code 3 (some (.array .double)) :: ws) ({ frames := 0, cells := 1, slots := 3, locals := 0 } : Room)) (fun a U => a = #[(.ref o0)] ∧ Z.Warmed39 U.vm ∧ U.heap = h0) (fun _ _ _ _ _ => True) (fun _ U o U' => ∃ v L, o = .returned v ∧ Q1_3 Z o0 k_o0 y0 y1 y2 z18 z18_2 z18_3 h0 n0 v U'.heap L ∧ FrameEnd U o U' L ({ frames := 0, cells := 1, slots := 3, locals := 0 } : Room).cells ({ frames := 0, cells := 1, slots := 3, locals := 0 } : Room).slots) := by
  refine MetFree.of_bodySF (plainFor_of_name pn_0) hisR ?_
  intro p e s m args below meth c s₁ Bd hml0 hP hK
  obtain ⟨rfl, hZ, hh⟩ := hP
  have hx := Bd.exec
  have hby := Bd.bytes
  have hml : c.maxLocals = 3 := hml0
  have hown : s.vm.findClass "com/example/credal_choice/credalchoice/model/Gambles" = some m.cls := findClass_of_methodNamed Bd.named
  have hnm := (name_of_methodNamed Bd.named Bd.method).1
  have X0 : Stand p l e ({ frames := 0, cells := 1, slots := 3, locals := 0 } : Room) s m #[(.ref o0)] below meth c s₁ [] 0 0 := Stand.of_body Bd
  have e0 : s₁.heap = h0 := by rw [← hh, Bd.state]; rfl
  have N0 := Fr.nil n0
  have c0 : ∀ t, Steps p.tables e below (s₁.setTop (mkF m 0 #[.val (.ref o0), .unset, .unset] [])) t → Steps p.tables e below (s₁.setTop (entryFrame m #[(.ref o0)] 3)) t := fun t k => castTop (ef_rm1_3 m o0) k
  obtain ⟨cl1, Ar1, -, S1, Nn1, -, -⟩ := id V_o0
  obtain ⟨T2, h2, k2, X2, e2, E2, A2, st2⟩ := newP X0 hx hZ (hw _ (List.mem_of_getElem? (i := 0) rfl)) e0 (g := (mkF m 2 #[.val (.ref o0), .unset, .unset] [(.int (3 : Int32))])) rfl (hb hby d1_2) rfl (by decide) (cap := 3) (by decide) (by decide) (by decide) (by decide)
  obtain ⟨b2, g2⟩ : ∃ z, z = h0.size := ⟨_, rfl⟩
  rw [← g2] at A2 st2
  have gn2 : n0 ≤ b2 := Nat.le_trans Z0 (Nat.le_of_eq g2.symm)
  have gz2 : h0.size ≤ b2 := Nat.le_trans ((Keep.refl h0 [])).1 (Nat.le_of_eq g2.symm)
  have K3 : Keep h0 h2 [] := (Keep.refl h0 []).ext E2
  have V2 : Arv Z h2 b2 k2 .double (3 : Int32) [(.double (0 : UInt64)), (.double (0 : UInt64)), (.double (0 : UInt64))] (.double (0 : UInt64)) := (Arv.new A2 (by decide)).pad (pad_rep [] (.double (0 : UInt64)) 3)
  have f4 := (V_o0.ext E2)
  obtain ⟨cl5, Ar5, -, S5, Nn5, -, -⟩ := id f4
  obtain ⟨cl6, Ar6, -, S6, -, Ha6, -⟩ := id f4
  have in6 : ¬ ((0 : Int32) < 0 ∨ cl6.slots.size ≤ ((0 : Int32)).toNatClampNeg) := inb_of S6 ⟨by decide, by decide⟩
  obtain ⟨cl7, Ar7, q7, S7, Nn7, Ha7, G7⟩ := id V2
  have in7 : ¬ ((0 : Int32) < 0 ∨ cl7.slots.size ≤ ((0 : Int32)).toNatClampNeg) := inb_of S7 ⟨by decide, by decide⟩
  obtain ⟨T8, h8, X8, e8, W8, st8⟩ := stD X2 hx hZ e2 Ar7 (j := (0 : Int32)) in7 (g := (mkF m 19 #[.val (.ref o0), .val (.ref b2), .val (.int (0 : Int32))] [(.double z18), (.int (0 : Int32)), (.ref b2)])) rfl rfl (hb hby d1_19)
  have N8 := Fr.snoc X8 N0 gn2
  have K9 : Keep h0 h8 [] := K3.wr W8 (Or.inr gz2)
  have V8 : Arv Z h8 b2 k2 .double (3 : Int32) [(.double z18), (.double (0 : UInt64)), (.double (0 : UInt64))] (.double (0 : UInt64)) := Arv.set Ar7 q7 S7 Nn7 Ha7 G7 rfl W8 0 rfl (show (0 : Nat) < 3 by decide)
  have f10 := (f4.other W8 (Nat.ne_of_lt (Nat.lt_of_lt_of_le (V_o0).lt (Nat.le_of_eq g2.symm))))
  obtain ⟨cl11, Ar11, -, S11, Nn11, -, -⟩ := id f10
  obtain ⟨cl12, Ar12, -, S12, -, Ha12, -⟩ := id f10
  have in12 : ¬ ((1 : Int32) < 0 ∨ cl12.slots.size ≤ ((1 : Int32)).toNatClampNeg) := inb_of S12 ⟨by decide, by decide⟩
  obtain ⟨cl13, Ar13, q13, S13, Nn13, Ha13, G13⟩ := id V8
  have in13 : ¬ ((1 : Int32) < 0 ∨ cl13.slots.size ≤ ((1 : Int32)).toNatClampNeg) := inb_of S13 ⟨by decide, by decide⟩
  obtain ⟨T14, h14, X14, e14, W14, st14⟩ := stD X8 hx hZ e8 Ar13 (j := (1 : Int32)) in13 (g := (mkF m 19 #[.val (.ref o0), .val (.ref b2), .val (.int (1 : Int32))] [(.double z18_2), (.int (1 : Int32)), (.ref b2)])) rfl rfl (hb hby d1_19)
  have N14 := Fr.snoc X14 N8 gn2
  have K15 : Keep h0 h14 [] := K9.wr W14 (Or.inr gz2)
  have V14 : Arv Z h14 b2 k2 .double (3 : Int32) [(.double z18), (.double z18_2), (.double (0 : UInt64))] (.double (0 : UInt64)) := Arv.set Ar13 q13 S13 Nn13 Ha13 G13 rfl W14 1 rfl (show (1 : Nat) < 3 by decide)
  have f16 := (f10.other W14 (Nat.ne_of_lt (Nat.lt_of_lt_of_le (V_o0).lt (Nat.le_of_eq g2.symm))))
  obtain ⟨cl17, Ar17, -, S17, Nn17, -, -⟩ := id f16
  obtain ⟨cl18, Ar18, -, S18, -, Ha18, -⟩ := id f16
  have in18 : ¬ ((2 : Int32) < 0 ∨ cl18.slots.size ≤ ((2 : Int32)).toNatClampNeg) := inb_of S18 ⟨by decide, by decide⟩
  obtain ⟨cl19, Ar19, q19, S19, Nn19, Ha19, G19⟩ := id V14
  have in19 : ¬ ((2 : Int32) < 0 ∨ cl19.slots.size ≤ ((2 : Int32)).toNatClampNeg) := inb_of S19 ⟨by decide, by decide⟩
  obtain ⟨T20, h20, X20, e20, W20, st20⟩ := stD X14 hx hZ e14 Ar19 (j := (2 : Int32)) in19 (g := (mkF m 19 #[.val (.ref o0), .val (.ref b2), .val (.int (2 : Int32))] [(.double z18_3), (.int (2 : Int32)), (.ref b2)])) rfl rfl (hb hby d1_19)
  have N20 := Fr.snoc X20 N14 gn2
  have K21 : Keep h0 h20 [] := K15.wr W20 (Or.inr gz2)
  have V20 : Arv Z h20 b2 k2 .double (3 : Int32) [(.double z18), (.double z18_2), (.double z18_3)] (.double (0 : UInt64)) := Arv.set Ar19 q19 S19 Nn19 Ha19 G19 rfl W20 2 rfl (show (2 : Nat) < 3 by decide)
  have f22 := (f16.other W20 (Nat.ne_of_lt (Nat.lt_of_lt_of_le (V_o0).lt (Nat.le_of_eq g2.symm))))
  obtain ⟨cl23, Ar23, -, S23, Nn23, -, -⟩ := id f22
  have c24 : ∀ t, Steps p.tables e below (T20.setTop (mkF m 27 #[.val (.ref o0), .val (.ref b2), .val (.int (3 : Int32))] [(.ref b2)])) t → Steps p.tables e below (s₁.setTop (entryFrame m #[(.ref o0)] 3)) t := by
    intro t k
    refine c0 t ?_
    show Steps p.tables e below (s₁.setTop (mkF m 0 #[.val (.ref o0), .unset, .unset] [])) _
    refine XS.aloadN X0.here hx rfl (hb hby d1_0) rfl rfl ?_
    show Steps p.tables e below (s₁.setTop (mkF m 1 #[.val (.ref o0), .unset, .unset] [(.ref o0)])) _
    refine X0.arraylength hx (by rw [e0]; exact Ar1.1) (State.isArrayOf_alike hZ.alike Ar1.2.1) (g := (mkF m 1 #[.val (.ref o0), .unset, .unset] [(.ref o0)])) rfl rfl (hb hby d1_1) _ ?_
    rw [len_of S1 Nn1]
    show Steps p.tables e below (s₁.setTop (mkF m 2 #[.val (.ref o0), .unset, .unset] [(.int (3 : Int32))])) _
    refine st2 _ ?_
    show Steps p.tables e below (T2.setTop (mkF m 4 #[.val (.ref o0), .unset, .unset] [(.ref b2)])) _
    refine XS.astoreN X2.here hx rfl (hb hby d1_4) rfl rfl (l' := #[.val (.ref o0), .val (.ref b2), .unset]) rfl ?_
    show Steps p.tables e below (T2.setTop (mkF m 5 #[.val (.ref o0), .val (.ref b2), .unset] [])) _
    refine XS.iconst X2.here hx rfl (hb hby d1_5) ?_
    show Steps p.tables e below (T2.setTop (mkF m 6 #[.val (.ref o0), .val (.ref b2), .unset] [(.int (0 : Int32))])) _
    refine XS.istoreN X2.here hx rfl (hb hby d1_6) rfl (l' := #[.val (.ref o0), .val (.ref b2), .val (.int (0 : Int32))]) rfl ?_
    show Steps p.tables e below (T2.setTop (mkF m 7 #[.val (.ref o0), .val (.ref b2), .val (.int (0 : Int32))] [])) _
    refine XS.iloadN X2.here hx rfl (hb hby d1_7) rfl ?_
    show Steps p.tables e below (T2.setTop (mkF m 8 #[.val (.ref o0), .val (.ref b2), .val (.int (0 : Int32))] [(.int (0 : Int32))])) _
    refine XS.aloadN X2.here hx rfl (hb hby d1_8) rfl rfl ?_
    show Steps p.tables e below (T2.setTop (mkF m 9 #[.val (.ref o0), .val (.ref b2), .val (.int (0 : Int32))] [(.ref o0), (.int (0 : Int32))])) _
    refine X2.arraylength hx (by rw [e2]; exact Ar5.1) (State.isArrayOf_alike hZ.alike Ar5.2.1) (g := (mkF m 9 #[.val (.ref o0), .val (.ref b2), .val (.int (0 : Int32))] [(.ref o0), (.int (0 : Int32))])) rfl rfl (hb hby d1_9) _ ?_
    rw [len_of S5 Nn5]
    show Steps p.tables e below (T2.setTop (mkF m 10 #[.val (.ref o0), .val (.ref b2), .val (.int (0 : Int32))] [(.int (3 : Int32)), (.int (0 : Int32))])) _
    refine XS.icmpNo X2.here hx rfl (hb hby d1_10) rfl (Jvm.Free.XT.ii_ge_f (by decide)) ?_
    show Steps p.tables e below (T2.setTop (mkF m 13 #[.val (.ref o0), .val (.ref b2), .val (.int (0 : Int32))] [])) _
    refine XS.aloadN X2.here hx rfl (hb hby d1_13) rfl rfl ?_
    show Steps p.tables e below (T2.setTop (mkF m 14 #[.val (.ref o0), .val (.ref b2), .val (.int (0 : Int32))] [(.ref b2)])) _
    refine XS.iloadN X2.here hx rfl (hb hby d1_14) rfl ?_
    show Steps p.tables e below (T2.setTop (mkF m 15 #[.val (.ref o0), .val (.ref b2), .val (.int (0 : Int32))] [(.int (0 : Int32)), (.ref b2)])) _
    refine XS.aloadN X2.here hx rfl (hb hby d1_15) rfl rfl ?_
    show Steps p.tables e below (T2.setTop (mkF m 16 #[.val (.ref o0), .val (.ref b2), .val (.int (0 : Int32))] [(.ref o0), (.int (0 : Int32)), (.ref b2)])) _
    refine XS.iloadN X2.here hx rfl (hb hby d1_16) rfl ?_
    show Steps p.tables e below (T2.setTop (mkF m 17 #[.val (.ref o0), .val (.ref b2), .val (.int (0 : Int32))] [(.int (0 : Int32)), (.ref o0), (.int (0 : Int32)), (.ref b2)])) _
    refine X2.daload hx (j := (0 : Int32)) (v := (.double y0)) (by rw [e2]; exact Ar6.1) (State.isArrayOf_alike hZ.alike Ar6.2.1) Ar6.2.2 in6 (Has.at Ha6 in6 rfl) (g := (mkF m 17 #[.val (.ref o0), .val (.ref b2), .val (.int (0 : Int32))] [(.int (0 : Int32)), (.ref o0), (.int (0 : Int32)), (.ref b2)])) rfl rfl (hb hby d1_17) _ ?_
    show Steps p.tables e below (T2.setTop (mkF m 18 #[.val (.ref o0), .val (.ref b2), .val (.int (0 : Int32))] [(.double y0), (.int (0 : Int32)), (.ref b2)])) _
    refine XS.dnegS X2.here hx rfl (hb hby d1_18) rfl hz18 ?_
    show Steps p.tables e below (T2.setTop (mkF m 19 #[.val (.ref o0), .val (.ref b2), .val (.int (0 : Int32))] [(.double z18), (.int (0 : Int32)), (.ref b2)])) _
    refine st8 _ ?_
    show Steps p.tables e below (T8.setTop (mkF m 20 #[.val (.ref o0), .val (.ref b2), .val (.int (0 : Int32))] [])) _
    refine Jvm.OwnK.iinc X8.here hx rfl (hb hby d1_20) rfl (l' := #[.val (.ref o0), .val (.ref b2), .val (.int (1 : Int32))]) (v := (1 : Int32)) (by decide) rfl ?_
    show Steps p.tables e below (T8.setTop (mkF m 23 #[.val (.ref o0), .val (.ref b2), .val (.int (1 : Int32))] [])) _
    refine XS.goto X8.here hx rfl (pc0 := 23) (pc' := 7) rfl (hb hby d1_23) (by decide) (by decide) ?_
    show Steps p.tables e below (T8.setTop (mkF m 7 #[.val (.ref o0), .val (.ref b2), .val (.int (1 : Int32))] [])) _
    refine XS.iloadN X8.here hx rfl (hb hby d1_7) rfl ?_
    show Steps p.tables e below (T8.setTop (mkF m 8 #[.val (.ref o0), .val (.ref b2), .val (.int (1 : Int32))] [(.int (1 : Int32))])) _
    refine XS.aloadN X8.here hx rfl (hb hby d1_8) rfl rfl ?_
    show Steps p.tables e below (T8.setTop (mkF m 9 #[.val (.ref o0), .val (.ref b2), .val (.int (1 : Int32))] [(.ref o0), (.int (1 : Int32))])) _
    refine X8.arraylength hx (by rw [e8]; exact Ar11.1) (State.isArrayOf_alike hZ.alike Ar11.2.1) (g := (mkF m 9 #[.val (.ref o0), .val (.ref b2), .val (.int (1 : Int32))] [(.ref o0), (.int (1 : Int32))])) rfl rfl (hb hby d1_9) _ ?_
    rw [len_of S11 Nn11]
    show Steps p.tables e below (T8.setTop (mkF m 10 #[.val (.ref o0), .val (.ref b2), .val (.int (1 : Int32))] [(.int (3 : Int32)), (.int (1 : Int32))])) _
    refine XS.icmpNo X8.here hx rfl (hb hby d1_10) rfl (Jvm.Free.XT.ii_ge_f (by decide)) ?_
    show Steps p.tables e below (T8.setTop (mkF m 13 #[.val (.ref o0), .val (.ref b2), .val (.int (1 : Int32))] [])) _
    refine XS.aloadN X8.here hx rfl (hb hby d1_13) rfl rfl ?_
    show Steps p.tables e below (T8.setTop (mkF m 14 #[.val (.ref o0), .val (.ref b2), .val (.int (1 : Int32))] [(.ref b2)])) _
    refine XS.iloadN X8.here hx rfl (hb hby d1_14) rfl ?_
    show Steps p.tables e below (T8.setTop (mkF m 15 #[.val (.ref o0), .val (.ref b2), .val (.int (1 : Int32))] [(.int (1 : Int32)), (.ref b2)])) _
    refine XS.aloadN X8.here hx rfl (hb hby d1_15) rfl rfl ?_
    show Steps p.tables e below (T8.setTop (mkF m 16 #[.val (.ref o0), .val (.ref b2), .val (.int (1 : Int32))] [(.ref o0), (.int (1 : Int32)), (.ref b2)])) _
    refine XS.iloadN X8.here hx rfl (hb hby d1_16) rfl ?_
    show Steps p.tables e below (T8.setTop (mkF m 17 #[.val (.ref o0), .val (.ref b2), .val (.int (1 : Int32))] [(.int (1 : Int32)), (.ref o0), (.int (1 : Int32)), (.ref b2)])) _
    refine X8.daload hx (j := (1 : Int32)) (v := (.double y1)) (by rw [e8]; exact Ar12.1) (State.isArrayOf_alike hZ.alike Ar12.2.1) Ar12.2.2 in12 (Has.at Ha12 in12 rfl) (g := (mkF m 17 #[.val (.ref o0), .val (.ref b2), .val (.int (1 : Int32))] [(.int (1 : Int32)), (.ref o0), (.int (1 : Int32)), (.ref b2)])) rfl rfl (hb hby d1_17) _ ?_
    show Steps p.tables e below (T8.setTop (mkF m 18 #[.val (.ref o0), .val (.ref b2), .val (.int (1 : Int32))] [(.double y1), (.int (1 : Int32)), (.ref b2)])) _
    refine XS.dnegS X8.here hx rfl (hb hby d1_18) rfl hz18_2 ?_
    show Steps p.tables e below (T8.setTop (mkF m 19 #[.val (.ref o0), .val (.ref b2), .val (.int (1 : Int32))] [(.double z18_2), (.int (1 : Int32)), (.ref b2)])) _
    refine st14 _ ?_
    show Steps p.tables e below (T14.setTop (mkF m 20 #[.val (.ref o0), .val (.ref b2), .val (.int (1 : Int32))] [])) _
    refine Jvm.OwnK.iinc X14.here hx rfl (hb hby d1_20) rfl (l' := #[.val (.ref o0), .val (.ref b2), .val (.int (2 : Int32))]) (v := (2 : Int32)) (by decide) rfl ?_
    show Steps p.tables e below (T14.setTop (mkF m 23 #[.val (.ref o0), .val (.ref b2), .val (.int (2 : Int32))] [])) _
    refine XS.goto X14.here hx rfl (pc0 := 23) (pc' := 7) rfl (hb hby d1_23) (by decide) (by decide) ?_
    show Steps p.tables e below (T14.setTop (mkF m 7 #[.val (.ref o0), .val (.ref b2), .val (.int (2 : Int32))] [])) _
    refine XS.iloadN X14.here hx rfl (hb hby d1_7) rfl ?_
    show Steps p.tables e below (T14.setTop (mkF m 8 #[.val (.ref o0), .val (.ref b2), .val (.int (2 : Int32))] [(.int (2 : Int32))])) _
    refine XS.aloadN X14.here hx rfl (hb hby d1_8) rfl rfl ?_
    show Steps p.tables e below (T14.setTop (mkF m 9 #[.val (.ref o0), .val (.ref b2), .val (.int (2 : Int32))] [(.ref o0), (.int (2 : Int32))])) _
    refine X14.arraylength hx (by rw [e14]; exact Ar17.1) (State.isArrayOf_alike hZ.alike Ar17.2.1) (g := (mkF m 9 #[.val (.ref o0), .val (.ref b2), .val (.int (2 : Int32))] [(.ref o0), (.int (2 : Int32))])) rfl rfl (hb hby d1_9) _ ?_
    rw [len_of S17 Nn17]
    show Steps p.tables e below (T14.setTop (mkF m 10 #[.val (.ref o0), .val (.ref b2), .val (.int (2 : Int32))] [(.int (3 : Int32)), (.int (2 : Int32))])) _
    refine XS.icmpNo X14.here hx rfl (hb hby d1_10) rfl (Jvm.Free.XT.ii_ge_f (by decide)) ?_
    show Steps p.tables e below (T14.setTop (mkF m 13 #[.val (.ref o0), .val (.ref b2), .val (.int (2 : Int32))] [])) _
    refine XS.aloadN X14.here hx rfl (hb hby d1_13) rfl rfl ?_
    show Steps p.tables e below (T14.setTop (mkF m 14 #[.val (.ref o0), .val (.ref b2), .val (.int (2 : Int32))] [(.ref b2)])) _
    refine XS.iloadN X14.here hx rfl (hb hby d1_14) rfl ?_
    show Steps p.tables e below (T14.setTop (mkF m 15 #[.val (.ref o0), .val (.ref b2), .val (.int (2 : Int32))] [(.int (2 : Int32)), (.ref b2)])) _
    refine XS.aloadN X14.here hx rfl (hb hby d1_15) rfl rfl ?_
    show Steps p.tables e below (T14.setTop (mkF m 16 #[.val (.ref o0), .val (.ref b2), .val (.int (2 : Int32))] [(.ref o0), (.int (2 : Int32)), (.ref b2)])) _
    refine XS.iloadN X14.here hx rfl (hb hby d1_16) rfl ?_
    show Steps p.tables e below (T14.setTop (mkF m 17 #[.val (.ref o0), .val (.ref b2), .val (.int (2 : Int32))] [(.int (2 : Int32)), (.ref o0), (.int (2 : Int32)), (.ref b2)])) _
    refine X14.daload hx (j := (2 : Int32)) (v := (.double y2)) (by rw [e14]; exact Ar18.1) (State.isArrayOf_alike hZ.alike Ar18.2.1) Ar18.2.2 in18 (Has.at Ha18 in18 rfl) (g := (mkF m 17 #[.val (.ref o0), .val (.ref b2), .val (.int (2 : Int32))] [(.int (2 : Int32)), (.ref o0), (.int (2 : Int32)), (.ref b2)])) rfl rfl (hb hby d1_17) _ ?_
    show Steps p.tables e below (T14.setTop (mkF m 18 #[.val (.ref o0), .val (.ref b2), .val (.int (2 : Int32))] [(.double y2), (.int (2 : Int32)), (.ref b2)])) _
    refine XS.dnegS X14.here hx rfl (hb hby d1_18) rfl hz18_3 ?_
    show Steps p.tables e below (T14.setTop (mkF m 19 #[.val (.ref o0), .val (.ref b2), .val (.int (2 : Int32))] [(.double z18_3), (.int (2 : Int32)), (.ref b2)])) _
    refine st20 _ ?_
    show Steps p.tables e below (T20.setTop (mkF m 20 #[.val (.ref o0), .val (.ref b2), .val (.int (2 : Int32))] [])) _
    refine Jvm.OwnK.iinc X20.here hx rfl (hb hby d1_20) rfl (l' := #[.val (.ref o0), .val (.ref b2), .val (.int (3 : Int32))]) (v := (3 : Int32)) (by decide) rfl ?_
    show Steps p.tables e below (T20.setTop (mkF m 23 #[.val (.ref o0), .val (.ref b2), .val (.int (3 : Int32))] [])) _
    refine XS.goto X20.here hx rfl (pc0 := 23) (pc' := 7) rfl (hb hby d1_23) (by decide) (by decide) ?_
    show Steps p.tables e below (T20.setTop (mkF m 7 #[.val (.ref o0), .val (.ref b2), .val (.int (3 : Int32))] [])) _
    refine XS.iloadN X20.here hx rfl (hb hby d1_7) rfl ?_
    show Steps p.tables e below (T20.setTop (mkF m 8 #[.val (.ref o0), .val (.ref b2), .val (.int (3 : Int32))] [(.int (3 : Int32))])) _
    refine XS.aloadN X20.here hx rfl (hb hby d1_8) rfl rfl ?_
    show Steps p.tables e below (T20.setTop (mkF m 9 #[.val (.ref o0), .val (.ref b2), .val (.int (3 : Int32))] [(.ref o0), (.int (3 : Int32))])) _
    refine X20.arraylength hx (by rw [e20]; exact Ar23.1) (State.isArrayOf_alike hZ.alike Ar23.2.1) (g := (mkF m 9 #[.val (.ref o0), .val (.ref b2), .val (.int (3 : Int32))] [(.ref o0), (.int (3 : Int32))])) rfl rfl (hb hby d1_9) _ ?_
    rw [len_of S23 Nn23]
    show Steps p.tables e below (T20.setTop (mkF m 10 #[.val (.ref o0), .val (.ref b2), .val (.int (3 : Int32))] [(.int (3 : Int32)), (.int (3 : Int32))])) _
    refine XS.icmpYes X20.here hx rfl (pc0 := 10) (pc' := 26) rfl (hb hby d1_10) rfl (Jvm.Free.XT.ii_ge_t (by decide)) (by decide) (by decide) ?_
    show Steps p.tables e below (T20.setTop (mkF m 26 #[.val (.ref o0), .val (.ref b2), .val (.int (3 : Int32))] [])) _
    refine XS.aloadN X20.here hx rfl (hb hby d1_26) rfl rfl ?_
    exact k
  obtain ⟨fs, hr, hrun, hended, hW, hsame⟩ := X20.leave (v := some (.ref b2)) (fun h => by rw [Bd.returns] at h; cases h)
  refine ⟨_, _, c24 _ ?_, hrun, hended, _, _, rfl, ?_, ⟨_, rfl⟩, hW, hsame.mono (by decide) (by decide)⟩
  · show Steps p.tables e below (T20.setTop (mkF m 27 #[.val (.ref o0), .val (.ref b2), .val (.int (3 : Int32))] [(.ref b2)])) _
    exact retOut X20 hx Bd.returns rfl (Or.inr (Or.inr (Or.inr (Or.inr ⟨rfl, rfl, rfl⟩)))) (hb hby d1_27) hr
  · show Q1_3 Z o0 k_o0 y0 y1 y2 z18 z18_2 z18_3 h0 n0 _ T20.heap _
    rw [e20]
    exact ⟨b2, k2, rfl, N20, gz2, K21, V20⟩
def Q2_1_0 (Z : State) (o0 : Addr) (o1 : Addr) (p3 : Int32) (k_o0 : ClassId) (y0 : UInt64) (k_o1 : ClassId) (w0 : UInt64) (z1 : UInt64) (z9 : Int32) (z20 : UInt64) (z21 : Int32) (z35 : UInt64) (z37 : Int32) (h0 : Heap) (n0 : Nat) (v : Option Value) (h : Heap) (L : List Loc) : Prop := v = some (.int (1 : Int32)) ∧ Fr n0 L ∧ h = h0
set_option maxRecDepth 65536 in
set_option maxHeartbeats 40000000 in
theorem rm2_1_0 (l : Launch) (Z : State) (a0 : Array Value) (hw : ∀ d ∈ tables_1, d.before a0 Z = true) (ws : List Jvm.Cond) (o0 : Addr) (o1 : Addr) (p3 : Int32) (k_o0 : ClassId) (y0 : UInt64) (k_o1 : ClassId) (w0 : UInt64) (z1 : UInt64) (z9 : Int32) (z20 : UInt64) (z21 : Int32) (z35 : UInt64) (z37 : Int32) (h0 : Heap) (n0 : Nat) (Z0 : n0 ≤ h0.size) (V_o0 : Arv Z h0 o0 k_o0 .double (1 : Int32) [(.double y0)] (.double (0 : UInt64))) (V_o1 : Arv Z h0 o1 k_o1 .double (1 : Int32) [(.double w0)] (.double (0 : UInt64))) (hz1 : FP.i2d p3 = z1) (hz9 : cmpValue (FP.dcmp y0 z1) .l = z9) (hz20 : FP.dneg z1 = z20) (hz21 : cmpValue (FP.dcmp w0 z20) .l = z21) (hz35 : FP.ddiv FP.dconst1 w0 = z35) (hz37 : cmpValue (FP.dcmp z35 FP.dconst0) .g = z37) (br10 : z9 = (0 : Int32)) (br22 : z21 = (0 : Int32)) (nn35 : (p3 = (0 : Int32)) → Jvm.Free.Fl.NoNaN64 z35) (br38 : (p3 = (0 : Int32)) → z37 < (0 : Int32)) :
    MetFree l (⟨"com/example/credal_choice/credalchoice/model/GamblesNegatedPinLaw", "at", "([D[DII)Z"⟩ : MethodName) (head1 (Jvm.Cond.code (⟨"com/example/credal_choice/credalchoice/model/GamblesNegatedPinLaw", "at", "([D[DII)Z"⟩ : MethodName) method_3_code 6 (some .boolean) :: ws) ({ frames := 0, cells := 0, slots := 0, locals := 0 } : Room)) (fun a U => a = #[(.ref o0), (.ref o1), (.int (0 : Int32)), (.int p3)] ∧ Z.Warmed39 U.vm ∧ U.heap = h0) (fun _ _ _ _ _ => True) (fun _ U o U' => ∃ v L, o = .returned v ∧ Q2_1_0 Z o0 o1 p3 k_o0 y0 k_o1 w0 z1 z9 z20 z21 z35 z37 h0 n0 v U'.heap L ∧ FrameEnd U o U' L ({ frames := 0, cells := 0, slots := 0, locals := 0 } : Room).cells ({ frames := 0, cells := 0, slots := 0, locals := 0 } : Room).slots) := by
  refine MetFree.of_bodySF (plainFor_of_name pn_1) hisR ?_
  intro p e s m args below meth c s₁ Bd hml0 hP hK
  obtain ⟨rfl, hZ, hh⟩ := hP
  have hx := Bd.exec
  have hby := Bd.bytes
  have hml : c.maxLocals = 6 := hml0
  have hown : s.vm.findClass "com/example/credal_choice/credalchoice/model/GamblesNegatedPinLaw" = some m.cls := findClass_of_methodNamed Bd.named
  have hnm := (name_of_methodNamed Bd.named Bd.method).1
  have X0 : Stand p l e ({ frames := 0, cells := 0, slots := 0, locals := 0 } : Room) s m #[(.ref o0), (.ref o1), (.int (0 : Int32)), (.int p3)] below meth c s₁ [] 0 0 := Stand.of_body Bd
  have e0 : s₁.heap = h0 := by rw [← hh, Bd.state]; rfl
  have N0 := Fr.nil n0
  have c0 : ∀ t, Steps p.tables e below (s₁.setTop (mkF m 0 #[.val (.ref o0), .val (.ref o1), .val (.int (0 : Int32)), .val (.int p3), .unset, .unset] [])) t → Steps p.tables e below (s₁.setTop (entryFrame m #[(.ref o0), (.ref o1), (.int (0 : Int32)), (.int p3)] 6)) t := fun t k => castTop (ef_rm2_1_0 m o0 o1 p3) k
  obtain ⟨cl1, Ar1, -, S1, -, Ha1, -⟩ := id V_o0
  have in1 : ¬ ((0 : Int32) < 0 ∨ cl1.slots.size ≤ ((0 : Int32)).toNatClampNeg) := inb_of S1 ⟨by decide, by decide⟩
  obtain ⟨cl2, Ar2, -, S2, -, Ha2, -⟩ := id V_o1
  have in2 : ¬ ((0 : Int32) < 0 ∨ cl2.slots.size ≤ ((0 : Int32)).toNatClampNeg) := inb_of S2 ⟨by decide, by decide⟩
  have c3 : ∀ t, Steps p.tables e below (s₁.setTop (mkF m 28 #[.val (.ref o0), .val (.ref o1), .val (.int (0 : Int32)), .val (.int p3), .val (.double z1), .second] [(.int p3)])) t → Steps p.tables e below (s₁.setTop (entryFrame m #[(.ref o0), (.ref o1), (.int (0 : Int32)), (.int p3)] 6)) t := by
    intro t k
    refine c0 t ?_
    show Steps p.tables e below (s₁.setTop (mkF m 0 #[.val (.ref o0), .val (.ref o1), .val (.int (0 : Int32)), .val (.int p3), .unset, .unset] [])) _
    refine XS.iloadN X0.here hx rfl (hb hby d2_0) rfl ?_
    show Steps p.tables e below (s₁.setTop (mkF m 1 #[.val (.ref o0), .val (.ref o1), .val (.int (0 : Int32)), .val (.int p3), .unset, .unset] [(.int p3)])) _
    refine XS.i2dS X0.here hx rfl (hb hby d2_1) rfl hz1 ?_
    show Steps p.tables e below (s₁.setTop (mkF m 2 #[.val (.ref o0), .val (.ref o1), .val (.int (0 : Int32)), .val (.int p3), .unset, .unset] [(.double z1)])) _
    refine XS.dstore X0.here hx rfl (hb hby d2_2) rfl (l' := #[.val (.ref o0), .val (.ref o1), .val (.int (0 : Int32)), .val (.int p3), .val (.double z1), .second]) rfl ?_
    show Steps p.tables e below (s₁.setTop (mkF m 4 #[.val (.ref o0), .val (.ref o1), .val (.int (0 : Int32)), .val (.int p3), .val (.double z1), .second] [])) _
    refine XS.aloadN X0.here hx rfl (hb hby d2_4) rfl rfl ?_
    show Steps p.tables e below (s₁.setTop (mkF m 5 #[.val (.ref o0), .val (.ref o1), .val (.int (0 : Int32)), .val (.int p3), .val (.double z1), .second] [(.ref o0)])) _
    refine XS.iloadN X0.here hx rfl (hb hby d2_5) rfl ?_
    show Steps p.tables e below (s₁.setTop (mkF m 6 #[.val (.ref o0), .val (.ref o1), .val (.int (0 : Int32)), .val (.int p3), .val (.double z1), .second] [(.int (0 : Int32)), (.ref o0)])) _
    refine X0.daload hx (j := (0 : Int32)) (v := (.double y0)) (by rw [e0]; exact Ar1.1) (State.isArrayOf_alike hZ.alike Ar1.2.1) Ar1.2.2 in1 (Has.at Ha1 in1 rfl) (g := (mkF m 6 #[.val (.ref o0), .val (.ref o1), .val (.int (0 : Int32)), .val (.int p3), .val (.double z1), .second] [(.int (0 : Int32)), (.ref o0)])) rfl rfl (hb hby d2_6) _ ?_
    show Steps p.tables e below (s₁.setTop (mkF m 7 #[.val (.ref o0), .val (.ref o1), .val (.int (0 : Int32)), .val (.int p3), .val (.double z1), .second] [(.double y0)])) _
    refine XS.dload X0.here hx rfl (hb hby d2_7) rfl ?_
    show Steps p.tables e below (s₁.setTop (mkF m 9 #[.val (.ref o0), .val (.ref o1), .val (.int (0 : Int32)), .val (.int p3), .val (.double z1), .second] [(.double z1), (.double y0)])) _
    refine XS.dcmpS X0.here hx rfl (hb hby d2_9) rfl hz9 ?_
    show Steps p.tables e below (s₁.setTop (mkF m 10 #[.val (.ref o0), .val (.ref o1), .val (.int (0 : Int32)), .val (.int p3), .val (.double z1), .second] [(.int z9)])) _
    refine XS.ifYes X0.here hx rfl (pc0 := 10) (pc' := 15) rfl (hb hby d2_10) rfl (Jvm.Free.XT.i0_eq_t br10) (by decide) (by decide) ?_
    show Steps p.tables e below (s₁.setTop (mkF m 15 #[.val (.ref o0), .val (.ref o1), .val (.int (0 : Int32)), .val (.int p3), .val (.double z1), .second] [])) _
    refine XS.aloadN X0.here hx rfl (hb hby d2_15) rfl rfl ?_
    show Steps p.tables e below (s₁.setTop (mkF m 16 #[.val (.ref o0), .val (.ref o1), .val (.int (0 : Int32)), .val (.int p3), .val (.double z1), .second] [(.ref o1)])) _
    refine XS.iloadN X0.here hx rfl (hb hby d2_16) rfl ?_
    show Steps p.tables e below (s₁.setTop (mkF m 17 #[.val (.ref o0), .val (.ref o1), .val (.int (0 : Int32)), .val (.int p3), .val (.double z1), .second] [(.int (0 : Int32)), (.ref o1)])) _
    refine X0.daload hx (j := (0 : Int32)) (v := (.double w0)) (by rw [e0]; exact Ar2.1) (State.isArrayOf_alike hZ.alike Ar2.2.1) Ar2.2.2 in2 (Has.at Ha2 in2 rfl) (g := (mkF m 17 #[.val (.ref o0), .val (.ref o1), .val (.int (0 : Int32)), .val (.int p3), .val (.double z1), .second] [(.int (0 : Int32)), (.ref o1)])) rfl rfl (hb hby d2_17) _ ?_
    show Steps p.tables e below (s₁.setTop (mkF m 18 #[.val (.ref o0), .val (.ref o1), .val (.int (0 : Int32)), .val (.int p3), .val (.double z1), .second] [(.double w0)])) _
    refine XS.dload X0.here hx rfl (hb hby d2_18) rfl ?_
    show Steps p.tables e below (s₁.setTop (mkF m 20 #[.val (.ref o0), .val (.ref o1), .val (.int (0 : Int32)), .val (.int p3), .val (.double z1), .second] [(.double z1), (.double w0)])) _
    refine XS.dnegS X0.here hx rfl (hb hby d2_20) rfl hz20 ?_
    show Steps p.tables e below (s₁.setTop (mkF m 21 #[.val (.ref o0), .val (.ref o1), .val (.int (0 : Int32)), .val (.int p3), .val (.double z1), .second] [(.double z20), (.double w0)])) _
    refine XS.dcmpS X0.here hx rfl (hb hby d2_21) rfl hz21 ?_
    show Steps p.tables e below (s₁.setTop (mkF m 22 #[.val (.ref o0), .val (.ref o1), .val (.int (0 : Int32)), .val (.int p3), .val (.double z1), .second] [(.int z21)])) _
    refine XS.ifYes X0.here hx rfl (pc0 := 22) (pc' := 27) rfl (hb hby d2_22) rfl (Jvm.Free.XT.i0_eq_t br22) (by decide) (by decide) ?_
    show Steps p.tables e below (s₁.setTop (mkF m 27 #[.val (.ref o0), .val (.ref o1), .val (.int (0 : Int32)), .val (.int p3), .val (.double z1), .second] [])) _
    refine XS.iloadN X0.here hx rfl (hb hby d2_27) rfl ?_
    exact k
  by_cases hb28 : p3 = (0 : Int32)
  · skip
    obtain ⟨cl4, Ar4, -, S4, -, Ha4, -⟩ := id V_o1
    have in4 : ¬ ((0 : Int32) < 0 ∨ cl4.slots.size ≤ ((0 : Int32)).toNatClampNeg) := inb_of S4 ⟨by decide, by decide⟩
    have c5 : ∀ t, Steps p.tables e below (s₁.setTop (mkF m 44 #[.val (.ref o0), .val (.ref o1), .val (.int (0 : Int32)), .val (.int p3), .val (.double z1), .second] [(.int (1 : Int32))])) t → Steps p.tables e below (s₁.setTop (entryFrame m #[(.ref o0), (.ref o1), (.int (0 : Int32)), (.int p3)] 6)) t := by
      intro t k
      refine c3 t ?_
      show Steps p.tables e below (s₁.setTop (mkF m 28 #[.val (.ref o0), .val (.ref o1), .val (.int (0 : Int32)), .val (.int p3), .val (.double z1), .second] [(.int p3)])) _
      refine XS.ifNo X0.here hx rfl (hb hby d2_28) rfl (Jvm.Free.XT.i0_ne_f hb28) ?_
      show Steps p.tables e below (s₁.setTop (mkF m 31 #[.val (.ref o0), .val (.ref o1), .val (.int (0 : Int32)), .val (.int p3), .val (.double z1), .second] [])) _
      refine XS.dconst1 X0.here hx rfl (hb hby d2_31) (v := FP.dconst1) rfl ?_
      show Steps p.tables e below (s₁.setTop (mkF m 32 #[.val (.ref o0), .val (.ref o1), .val (.int (0 : Int32)), .val (.int p3), .val (.double z1), .second] [(.double FP.dconst1)])) _
      refine XS.aloadN X0.here hx rfl (hb hby d2_32) rfl rfl ?_
      show Steps p.tables e below (s₁.setTop (mkF m 33 #[.val (.ref o0), .val (.ref o1), .val (.int (0 : Int32)), .val (.int p3), .val (.double z1), .second] [(.ref o1), (.double FP.dconst1)])) _
      refine XS.iloadN X0.here hx rfl (hb hby d2_33) rfl ?_
      show Steps p.tables e below (s₁.setTop (mkF m 34 #[.val (.ref o0), .val (.ref o1), .val (.int (0 : Int32)), .val (.int p3), .val (.double z1), .second] [(.int (0 : Int32)), (.ref o1), (.double FP.dconst1)])) _
      refine X0.daload hx (j := (0 : Int32)) (v := (.double w0)) (by rw [e0]; exact Ar4.1) (State.isArrayOf_alike hZ.alike Ar4.2.1) Ar4.2.2 in4 (Has.at Ha4 in4 rfl) (g := (mkF m 34 #[.val (.ref o0), .val (.ref o1), .val (.int (0 : Int32)), .val (.int p3), .val (.double z1), .second] [(.int (0 : Int32)), (.ref o1), (.double FP.dconst1)])) rfl rfl (hb hby d2_34) _ ?_
      show Steps p.tables e below (s₁.setTop (mkF m 35 #[.val (.ref o0), .val (.ref o1), .val (.int (0 : Int32)), .val (.int p3), .val (.double z1), .second] [(.double w0), (.double FP.dconst1)])) _
      refine Jvm.OwnK.ddiv X0.here hx rfl (hb hby d2_35) rfl hz35 (nn35 hb28) ?_
      show Steps p.tables e below (s₁.setTop (mkF m 36 #[.val (.ref o0), .val (.ref o1), .val (.int (0 : Int32)), .val (.int p3), .val (.double z1), .second] [(.double z35)])) _
      refine XS.dconst0 X0.here hx rfl (hb hby d2_36) (v := FP.dconst0) rfl ?_
      show Steps p.tables e below (s₁.setTop (mkF m 37 #[.val (.ref o0), .val (.ref o1), .val (.int (0 : Int32)), .val (.int p3), .val (.double z1), .second] [(.double FP.dconst0), (.double z35)])) _
      refine XS.dcmpS X0.here hx rfl (hb hby d2_37) rfl hz37 ?_
      show Steps p.tables e below (s₁.setTop (mkF m 38 #[.val (.ref o0), .val (.ref o1), .val (.int (0 : Int32)), .val (.int p3), .val (.double z1), .second] [(.int z37)])) _
      refine XS.ifYes X0.here hx rfl (pc0 := 38) (pc' := 43) rfl (hb hby d2_38) rfl (Jvm.Free.XT.i0_lt_t (br38 hb28)) (by decide) (by decide) ?_
      show Steps p.tables e below (s₁.setTop (mkF m 43 #[.val (.ref o0), .val (.ref o1), .val (.int (0 : Int32)), .val (.int p3), .val (.double z1), .second] [])) _
      refine XS.iconst X0.here hx rfl (hb hby d2_43) ?_
      exact k
    obtain ⟨fs, hr, hrun, hended, hW, hsame⟩ := X0.leave (v := some (.int (1 : Int32))) (fun h => by rw [Bd.returns] at h; cases h)
    refine ⟨_, _, c5 _ ?_, hrun, hended, _, _, rfl, ?_, ⟨_, rfl⟩, hW, hsame.mono (by decide) (by decide)⟩
    · show Steps p.tables e below (s₁.setTop (mkF m 44 #[.val (.ref o0), .val (.ref o1), .val (.int (0 : Int32)), .val (.int p3), .val (.double z1), .second] [(.int (1 : Int32))])) _
      exact retOut X0 hx Bd.returns rfl (Or.inl ⟨rfl, by simp, _, rfl⟩) (hb hby d2_44) hr
    · show Q2_1_0 Z o0 o1 p3 k_o0 y0 k_o1 w0 z1 z9 z20 z21 z35 z37 h0 n0 _ s₁.heap _
      rw [e0]
      exact ⟨rfl, by first | assumption | exact N0, rfl⟩
  · skip
    have c6 : ∀ t, Steps p.tables e below (s₁.setTop (mkF m 44 #[.val (.ref o0), .val (.ref o1), .val (.int (0 : Int32)), .val (.int p3), .val (.double z1), .second] [(.int (1 : Int32))])) t → Steps p.tables e below (s₁.setTop (entryFrame m #[(.ref o0), (.ref o1), (.int (0 : Int32)), (.int p3)] 6)) t := by
      intro t k
      refine c3 t ?_
      show Steps p.tables e below (s₁.setTop (mkF m 28 #[.val (.ref o0), .val (.ref o1), .val (.int (0 : Int32)), .val (.int p3), .val (.double z1), .second] [(.int p3)])) _
      refine XS.ifYes X0.here hx rfl (pc0 := 28) (pc' := 43) rfl (hb hby d2_28) rfl (Jvm.Free.XT.i0_ne_t hb28) (by decide) (by decide) ?_
      show Steps p.tables e below (s₁.setTop (mkF m 43 #[.val (.ref o0), .val (.ref o1), .val (.int (0 : Int32)), .val (.int p3), .val (.double z1), .second] [])) _
      refine XS.iconst X0.here hx rfl (hb hby d2_43) ?_
      exact k
    obtain ⟨fs, hr, hrun, hended, hW, hsame⟩ := X0.leave (v := some (.int (1 : Int32))) (fun h => by rw [Bd.returns] at h; cases h)
    refine ⟨_, _, c6 _ ?_, hrun, hended, _, _, rfl, ?_, ⟨_, rfl⟩, hW, hsame.mono (by decide) (by decide)⟩
    · show Steps p.tables e below (s₁.setTop (mkF m 44 #[.val (.ref o0), .val (.ref o1), .val (.int (0 : Int32)), .val (.int p3), .val (.double z1), .second] [(.int (1 : Int32))])) _
      exact retOut X0 hx Bd.returns rfl (Or.inl ⟨rfl, by simp, _, rfl⟩) (hb hby d2_44) hr
    · show Q2_1_0 Z o0 o1 p3 k_o0 y0 k_o1 w0 z1 z9 z20 z21 z35 z37 h0 n0 _ s₁.heap _
      rw [e0]
      exact ⟨rfl, by first | assumption | exact N0, rfl⟩
def Q2_2_0 (Z : State) (o0 : Addr) (o1 : Addr) (p3 : Int32) (k_o0 : ClassId) (y0 : UInt64) (y1 : UInt64) (k_o1 : ClassId) (w0 : UInt64) (w1 : UInt64) (z1 : UInt64) (z9 : Int32) (z20 : UInt64) (z21 : Int32) (z35 : UInt64) (z37 : Int32) (h0 : Heap) (n0 : Nat) (v : Option Value) (h : Heap) (L : List Loc) : Prop := v = some (.int (1 : Int32)) ∧ Fr n0 L ∧ h = h0
set_option maxRecDepth 65536 in
set_option maxHeartbeats 40000000 in
theorem rm2_2_0 (l : Launch) (Z : State) (a0 : Array Value) (hw : ∀ d ∈ tables_1, d.before a0 Z = true) (ws : List Jvm.Cond) (o0 : Addr) (o1 : Addr) (p3 : Int32) (k_o0 : ClassId) (y0 : UInt64) (y1 : UInt64) (k_o1 : ClassId) (w0 : UInt64) (w1 : UInt64) (z1 : UInt64) (z9 : Int32) (z20 : UInt64) (z21 : Int32) (z35 : UInt64) (z37 : Int32) (h0 : Heap) (n0 : Nat) (Z0 : n0 ≤ h0.size) (V_o0 : Arv Z h0 o0 k_o0 .double (2 : Int32) [(.double y0), (.double y1)] (.double (0 : UInt64))) (V_o1 : Arv Z h0 o1 k_o1 .double (2 : Int32) [(.double w0), (.double w1)] (.double (0 : UInt64))) (hz1 : FP.i2d p3 = z1) (hz9 : cmpValue (FP.dcmp y0 z1) .l = z9) (hz20 : FP.dneg z1 = z20) (hz21 : cmpValue (FP.dcmp w0 z20) .l = z21) (hz35 : FP.ddiv FP.dconst1 w0 = z35) (hz37 : cmpValue (FP.dcmp z35 FP.dconst0) .g = z37) (br10 : z9 = (0 : Int32)) (br22 : z21 = (0 : Int32)) (nn35 : (p3 = (0 : Int32)) → Jvm.Free.Fl.NoNaN64 z35) (br38 : (p3 = (0 : Int32)) → z37 < (0 : Int32)) :
    MetFree l (⟨"com/example/credal_choice/credalchoice/model/GamblesNegatedPinLaw", "at", "([D[DII)Z"⟩ : MethodName) (head1 (Jvm.Cond.code (⟨"com/example/credal_choice/credalchoice/model/GamblesNegatedPinLaw", "at", "([D[DII)Z"⟩ : MethodName) method_3_code 6 (some .boolean) :: ws) ({ frames := 0, cells := 0, slots := 0, locals := 0 } : Room)) (fun a U => a = #[(.ref o0), (.ref o1), (.int (0 : Int32)), (.int p3)] ∧ Z.Warmed39 U.vm ∧ U.heap = h0) (fun _ _ _ _ _ => True) (fun _ U o U' => ∃ v L, o = .returned v ∧ Q2_2_0 Z o0 o1 p3 k_o0 y0 y1 k_o1 w0 w1 z1 z9 z20 z21 z35 z37 h0 n0 v U'.heap L ∧ FrameEnd U o U' L ({ frames := 0, cells := 0, slots := 0, locals := 0 } : Room).cells ({ frames := 0, cells := 0, slots := 0, locals := 0 } : Room).slots) := by
  refine MetFree.of_bodySF (plainFor_of_name pn_1) hisR ?_
  intro p e s m args below meth c s₁ Bd hml0 hP hK
  obtain ⟨rfl, hZ, hh⟩ := hP
  have hx := Bd.exec
  have hby := Bd.bytes
  have hml : c.maxLocals = 6 := hml0
  have hown : s.vm.findClass "com/example/credal_choice/credalchoice/model/GamblesNegatedPinLaw" = some m.cls := findClass_of_methodNamed Bd.named
  have hnm := (name_of_methodNamed Bd.named Bd.method).1
  have X0 : Stand p l e ({ frames := 0, cells := 0, slots := 0, locals := 0 } : Room) s m #[(.ref o0), (.ref o1), (.int (0 : Int32)), (.int p3)] below meth c s₁ [] 0 0 := Stand.of_body Bd
  have e0 : s₁.heap = h0 := by rw [← hh, Bd.state]; rfl
  have N0 := Fr.nil n0
  have c0 : ∀ t, Steps p.tables e below (s₁.setTop (mkF m 0 #[.val (.ref o0), .val (.ref o1), .val (.int (0 : Int32)), .val (.int p3), .unset, .unset] [])) t → Steps p.tables e below (s₁.setTop (entryFrame m #[(.ref o0), (.ref o1), (.int (0 : Int32)), (.int p3)] 6)) t := fun t k => castTop (ef_rm2_2_0 m o0 o1 p3) k
  obtain ⟨cl1, Ar1, -, S1, -, Ha1, -⟩ := id V_o0
  have in1 : ¬ ((0 : Int32) < 0 ∨ cl1.slots.size ≤ ((0 : Int32)).toNatClampNeg) := inb_of S1 ⟨by decide, by decide⟩
  obtain ⟨cl2, Ar2, -, S2, -, Ha2, -⟩ := id V_o1
  have in2 : ¬ ((0 : Int32) < 0 ∨ cl2.slots.size ≤ ((0 : Int32)).toNatClampNeg) := inb_of S2 ⟨by decide, by decide⟩
  have c3 : ∀ t, Steps p.tables e below (s₁.setTop (mkF m 28 #[.val (.ref o0), .val (.ref o1), .val (.int (0 : Int32)), .val (.int p3), .val (.double z1), .second] [(.int p3)])) t → Steps p.tables e below (s₁.setTop (entryFrame m #[(.ref o0), (.ref o1), (.int (0 : Int32)), (.int p3)] 6)) t := by
    intro t k
    refine c0 t ?_
    show Steps p.tables e below (s₁.setTop (mkF m 0 #[.val (.ref o0), .val (.ref o1), .val (.int (0 : Int32)), .val (.int p3), .unset, .unset] [])) _
    refine XS.iloadN X0.here hx rfl (hb hby d2_0) rfl ?_
    show Steps p.tables e below (s₁.setTop (mkF m 1 #[.val (.ref o0), .val (.ref o1), .val (.int (0 : Int32)), .val (.int p3), .unset, .unset] [(.int p3)])) _
    refine XS.i2dS X0.here hx rfl (hb hby d2_1) rfl hz1 ?_
    show Steps p.tables e below (s₁.setTop (mkF m 2 #[.val (.ref o0), .val (.ref o1), .val (.int (0 : Int32)), .val (.int p3), .unset, .unset] [(.double z1)])) _
    refine XS.dstore X0.here hx rfl (hb hby d2_2) rfl (l' := #[.val (.ref o0), .val (.ref o1), .val (.int (0 : Int32)), .val (.int p3), .val (.double z1), .second]) rfl ?_
    show Steps p.tables e below (s₁.setTop (mkF m 4 #[.val (.ref o0), .val (.ref o1), .val (.int (0 : Int32)), .val (.int p3), .val (.double z1), .second] [])) _
    refine XS.aloadN X0.here hx rfl (hb hby d2_4) rfl rfl ?_
    show Steps p.tables e below (s₁.setTop (mkF m 5 #[.val (.ref o0), .val (.ref o1), .val (.int (0 : Int32)), .val (.int p3), .val (.double z1), .second] [(.ref o0)])) _
    refine XS.iloadN X0.here hx rfl (hb hby d2_5) rfl ?_
    show Steps p.tables e below (s₁.setTop (mkF m 6 #[.val (.ref o0), .val (.ref o1), .val (.int (0 : Int32)), .val (.int p3), .val (.double z1), .second] [(.int (0 : Int32)), (.ref o0)])) _
    refine X0.daload hx (j := (0 : Int32)) (v := (.double y0)) (by rw [e0]; exact Ar1.1) (State.isArrayOf_alike hZ.alike Ar1.2.1) Ar1.2.2 in1 (Has.at Ha1 in1 rfl) (g := (mkF m 6 #[.val (.ref o0), .val (.ref o1), .val (.int (0 : Int32)), .val (.int p3), .val (.double z1), .second] [(.int (0 : Int32)), (.ref o0)])) rfl rfl (hb hby d2_6) _ ?_
    show Steps p.tables e below (s₁.setTop (mkF m 7 #[.val (.ref o0), .val (.ref o1), .val (.int (0 : Int32)), .val (.int p3), .val (.double z1), .second] [(.double y0)])) _
    refine XS.dload X0.here hx rfl (hb hby d2_7) rfl ?_
    show Steps p.tables e below (s₁.setTop (mkF m 9 #[.val (.ref o0), .val (.ref o1), .val (.int (0 : Int32)), .val (.int p3), .val (.double z1), .second] [(.double z1), (.double y0)])) _
    refine XS.dcmpS X0.here hx rfl (hb hby d2_9) rfl hz9 ?_
    show Steps p.tables e below (s₁.setTop (mkF m 10 #[.val (.ref o0), .val (.ref o1), .val (.int (0 : Int32)), .val (.int p3), .val (.double z1), .second] [(.int z9)])) _
    refine XS.ifYes X0.here hx rfl (pc0 := 10) (pc' := 15) rfl (hb hby d2_10) rfl (Jvm.Free.XT.i0_eq_t br10) (by decide) (by decide) ?_
    show Steps p.tables e below (s₁.setTop (mkF m 15 #[.val (.ref o0), .val (.ref o1), .val (.int (0 : Int32)), .val (.int p3), .val (.double z1), .second] [])) _
    refine XS.aloadN X0.here hx rfl (hb hby d2_15) rfl rfl ?_
    show Steps p.tables e below (s₁.setTop (mkF m 16 #[.val (.ref o0), .val (.ref o1), .val (.int (0 : Int32)), .val (.int p3), .val (.double z1), .second] [(.ref o1)])) _
    refine XS.iloadN X0.here hx rfl (hb hby d2_16) rfl ?_
    show Steps p.tables e below (s₁.setTop (mkF m 17 #[.val (.ref o0), .val (.ref o1), .val (.int (0 : Int32)), .val (.int p3), .val (.double z1), .second] [(.int (0 : Int32)), (.ref o1)])) _
    refine X0.daload hx (j := (0 : Int32)) (v := (.double w0)) (by rw [e0]; exact Ar2.1) (State.isArrayOf_alike hZ.alike Ar2.2.1) Ar2.2.2 in2 (Has.at Ha2 in2 rfl) (g := (mkF m 17 #[.val (.ref o0), .val (.ref o1), .val (.int (0 : Int32)), .val (.int p3), .val (.double z1), .second] [(.int (0 : Int32)), (.ref o1)])) rfl rfl (hb hby d2_17) _ ?_
    show Steps p.tables e below (s₁.setTop (mkF m 18 #[.val (.ref o0), .val (.ref o1), .val (.int (0 : Int32)), .val (.int p3), .val (.double z1), .second] [(.double w0)])) _
    refine XS.dload X0.here hx rfl (hb hby d2_18) rfl ?_
    show Steps p.tables e below (s₁.setTop (mkF m 20 #[.val (.ref o0), .val (.ref o1), .val (.int (0 : Int32)), .val (.int p3), .val (.double z1), .second] [(.double z1), (.double w0)])) _
    refine XS.dnegS X0.here hx rfl (hb hby d2_20) rfl hz20 ?_
    show Steps p.tables e below (s₁.setTop (mkF m 21 #[.val (.ref o0), .val (.ref o1), .val (.int (0 : Int32)), .val (.int p3), .val (.double z1), .second] [(.double z20), (.double w0)])) _
    refine XS.dcmpS X0.here hx rfl (hb hby d2_21) rfl hz21 ?_
    show Steps p.tables e below (s₁.setTop (mkF m 22 #[.val (.ref o0), .val (.ref o1), .val (.int (0 : Int32)), .val (.int p3), .val (.double z1), .second] [(.int z21)])) _
    refine XS.ifYes X0.here hx rfl (pc0 := 22) (pc' := 27) rfl (hb hby d2_22) rfl (Jvm.Free.XT.i0_eq_t br22) (by decide) (by decide) ?_
    show Steps p.tables e below (s₁.setTop (mkF m 27 #[.val (.ref o0), .val (.ref o1), .val (.int (0 : Int32)), .val (.int p3), .val (.double z1), .second] [])) _
    refine XS.iloadN X0.here hx rfl (hb hby d2_27) rfl ?_
    exact k
  by_cases hb28 : p3 = (0 : Int32)
  · skip
    obtain ⟨cl4, Ar4, -, S4, -, Ha4, -⟩ := id V_o1
    have in4 : ¬ ((0 : Int32) < 0 ∨ cl4.slots.size ≤ ((0 : Int32)).toNatClampNeg) := inb_of S4 ⟨by decide, by decide⟩
    have c5 : ∀ t, Steps p.tables e below (s₁.setTop (mkF m 44 #[.val (.ref o0), .val (.ref o1), .val (.int (0 : Int32)), .val (.int p3), .val (.double z1), .second] [(.int (1 : Int32))])) t → Steps p.tables e below (s₁.setTop (entryFrame m #[(.ref o0), (.ref o1), (.int (0 : Int32)), (.int p3)] 6)) t := by
      intro t k
      refine c3 t ?_
      show Steps p.tables e below (s₁.setTop (mkF m 28 #[.val (.ref o0), .val (.ref o1), .val (.int (0 : Int32)), .val (.int p3), .val (.double z1), .second] [(.int p3)])) _
      refine XS.ifNo X0.here hx rfl (hb hby d2_28) rfl (Jvm.Free.XT.i0_ne_f hb28) ?_
      show Steps p.tables e below (s₁.setTop (mkF m 31 #[.val (.ref o0), .val (.ref o1), .val (.int (0 : Int32)), .val (.int p3), .val (.double z1), .second] [])) _
      refine XS.dconst1 X0.here hx rfl (hb hby d2_31) (v := FP.dconst1) rfl ?_
      show Steps p.tables e below (s₁.setTop (mkF m 32 #[.val (.ref o0), .val (.ref o1), .val (.int (0 : Int32)), .val (.int p3), .val (.double z1), .second] [(.double FP.dconst1)])) _
      refine XS.aloadN X0.here hx rfl (hb hby d2_32) rfl rfl ?_
      show Steps p.tables e below (s₁.setTop (mkF m 33 #[.val (.ref o0), .val (.ref o1), .val (.int (0 : Int32)), .val (.int p3), .val (.double z1), .second] [(.ref o1), (.double FP.dconst1)])) _
      refine XS.iloadN X0.here hx rfl (hb hby d2_33) rfl ?_
      show Steps p.tables e below (s₁.setTop (mkF m 34 #[.val (.ref o0), .val (.ref o1), .val (.int (0 : Int32)), .val (.int p3), .val (.double z1), .second] [(.int (0 : Int32)), (.ref o1), (.double FP.dconst1)])) _
      refine X0.daload hx (j := (0 : Int32)) (v := (.double w0)) (by rw [e0]; exact Ar4.1) (State.isArrayOf_alike hZ.alike Ar4.2.1) Ar4.2.2 in4 (Has.at Ha4 in4 rfl) (g := (mkF m 34 #[.val (.ref o0), .val (.ref o1), .val (.int (0 : Int32)), .val (.int p3), .val (.double z1), .second] [(.int (0 : Int32)), (.ref o1), (.double FP.dconst1)])) rfl rfl (hb hby d2_34) _ ?_
      show Steps p.tables e below (s₁.setTop (mkF m 35 #[.val (.ref o0), .val (.ref o1), .val (.int (0 : Int32)), .val (.int p3), .val (.double z1), .second] [(.double w0), (.double FP.dconst1)])) _
      refine Jvm.OwnK.ddiv X0.here hx rfl (hb hby d2_35) rfl hz35 (nn35 hb28) ?_
      show Steps p.tables e below (s₁.setTop (mkF m 36 #[.val (.ref o0), .val (.ref o1), .val (.int (0 : Int32)), .val (.int p3), .val (.double z1), .second] [(.double z35)])) _
      refine XS.dconst0 X0.here hx rfl (hb hby d2_36) (v := FP.dconst0) rfl ?_
      show Steps p.tables e below (s₁.setTop (mkF m 37 #[.val (.ref o0), .val (.ref o1), .val (.int (0 : Int32)), .val (.int p3), .val (.double z1), .second] [(.double FP.dconst0), (.double z35)])) _
      refine XS.dcmpS X0.here hx rfl (hb hby d2_37) rfl hz37 ?_
      show Steps p.tables e below (s₁.setTop (mkF m 38 #[.val (.ref o0), .val (.ref o1), .val (.int (0 : Int32)), .val (.int p3), .val (.double z1), .second] [(.int z37)])) _
      refine XS.ifYes X0.here hx rfl (pc0 := 38) (pc' := 43) rfl (hb hby d2_38) rfl (Jvm.Free.XT.i0_lt_t (br38 hb28)) (by decide) (by decide) ?_
      show Steps p.tables e below (s₁.setTop (mkF m 43 #[.val (.ref o0), .val (.ref o1), .val (.int (0 : Int32)), .val (.int p3), .val (.double z1), .second] [])) _
      refine XS.iconst X0.here hx rfl (hb hby d2_43) ?_
      exact k
    obtain ⟨fs, hr, hrun, hended, hW, hsame⟩ := X0.leave (v := some (.int (1 : Int32))) (fun h => by rw [Bd.returns] at h; cases h)
    refine ⟨_, _, c5 _ ?_, hrun, hended, _, _, rfl, ?_, ⟨_, rfl⟩, hW, hsame.mono (by decide) (by decide)⟩
    · show Steps p.tables e below (s₁.setTop (mkF m 44 #[.val (.ref o0), .val (.ref o1), .val (.int (0 : Int32)), .val (.int p3), .val (.double z1), .second] [(.int (1 : Int32))])) _
      exact retOut X0 hx Bd.returns rfl (Or.inl ⟨rfl, by simp, _, rfl⟩) (hb hby d2_44) hr
    · show Q2_2_0 Z o0 o1 p3 k_o0 y0 y1 k_o1 w0 w1 z1 z9 z20 z21 z35 z37 h0 n0 _ s₁.heap _
      rw [e0]
      exact ⟨rfl, by first | assumption | exact N0, rfl⟩
  · skip
    have c6 : ∀ t, Steps p.tables e below (s₁.setTop (mkF m 44 #[.val (.ref o0), .val (.ref o1), .val (.int (0 : Int32)), .val (.int p3), .val (.double z1), .second] [(.int (1 : Int32))])) t → Steps p.tables e below (s₁.setTop (entryFrame m #[(.ref o0), (.ref o1), (.int (0 : Int32)), (.int p3)] 6)) t := by
      intro t k
      refine c3 t ?_
      show Steps p.tables e below (s₁.setTop (mkF m 28 #[.val (.ref o0), .val (.ref o1), .val (.int (0 : Int32)), .val (.int p3), .val (.double z1), .second] [(.int p3)])) _
      refine XS.ifYes X0.here hx rfl (pc0 := 28) (pc' := 43) rfl (hb hby d2_28) rfl (Jvm.Free.XT.i0_ne_t hb28) (by decide) (by decide) ?_
      show Steps p.tables e below (s₁.setTop (mkF m 43 #[.val (.ref o0), .val (.ref o1), .val (.int (0 : Int32)), .val (.int p3), .val (.double z1), .second] [])) _
      refine XS.iconst X0.here hx rfl (hb hby d2_43) ?_
      exact k
    obtain ⟨fs, hr, hrun, hended, hW, hsame⟩ := X0.leave (v := some (.int (1 : Int32))) (fun h => by rw [Bd.returns] at h; cases h)
    refine ⟨_, _, c6 _ ?_, hrun, hended, _, _, rfl, ?_, ⟨_, rfl⟩, hW, hsame.mono (by decide) (by decide)⟩
    · show Steps p.tables e below (s₁.setTop (mkF m 44 #[.val (.ref o0), .val (.ref o1), .val (.int (0 : Int32)), .val (.int p3), .val (.double z1), .second] [(.int (1 : Int32))])) _
      exact retOut X0 hx Bd.returns rfl (Or.inl ⟨rfl, by simp, _, rfl⟩) (hb hby d2_44) hr
    · show Q2_2_0 Z o0 o1 p3 k_o0 y0 y1 k_o1 w0 w1 z1 z9 z20 z21 z35 z37 h0 n0 _ s₁.heap _
      rw [e0]
      exact ⟨rfl, by first | assumption | exact N0, rfl⟩
def Q2_2_1 (Z : State) (o0 : Addr) (o1 : Addr) (p3 : Int32) (k_o0 : ClassId) (y0 : UInt64) (y1 : UInt64) (k_o1 : ClassId) (w0 : UInt64) (w1 : UInt64) (z1 : UInt64) (z9 : Int32) (z20 : UInt64) (z21 : Int32) (z35 : UInt64) (z37 : Int32) (h0 : Heap) (n0 : Nat) (v : Option Value) (h : Heap) (L : List Loc) : Prop := v = some (.int (1 : Int32)) ∧ Fr n0 L ∧ h = h0
set_option maxRecDepth 65536 in
set_option maxHeartbeats 40000000 in
theorem rm2_2_1 (l : Launch) (Z : State) (a0 : Array Value) (hw : ∀ d ∈ tables_1, d.before a0 Z = true) (ws : List Jvm.Cond) (o0 : Addr) (o1 : Addr) (p3 : Int32) (k_o0 : ClassId) (y0 : UInt64) (y1 : UInt64) (k_o1 : ClassId) (w0 : UInt64) (w1 : UInt64) (z1 : UInt64) (z9 : Int32) (z20 : UInt64) (z21 : Int32) (z35 : UInt64) (z37 : Int32) (h0 : Heap) (n0 : Nat) (Z0 : n0 ≤ h0.size) (V_o0 : Arv Z h0 o0 k_o0 .double (2 : Int32) [(.double y0), (.double y1)] (.double (0 : UInt64))) (V_o1 : Arv Z h0 o1 k_o1 .double (2 : Int32) [(.double w0), (.double w1)] (.double (0 : UInt64))) (hz1 : FP.i2d p3 = z1) (hz9 : cmpValue (FP.dcmp y1 z1) .l = z9) (hz20 : FP.dneg z1 = z20) (hz21 : cmpValue (FP.dcmp w1 z20) .l = z21) (hz35 : FP.ddiv FP.dconst1 w1 = z35) (hz37 : cmpValue (FP.dcmp z35 FP.dconst0) .g = z37) (br10 : z9 = (0 : Int32)) (br22 : z21 = (0 : Int32)) (nn35 : (p3 = (0 : Int32)) → Jvm.Free.Fl.NoNaN64 z35) (br38 : (p3 = (0 : Int32)) → z37 < (0 : Int32)) :
    MetFree l (⟨"com/example/credal_choice/credalchoice/model/GamblesNegatedPinLaw", "at", "([D[DII)Z"⟩ : MethodName) (head1 (Jvm.Cond.code (⟨"com/example/credal_choice/credalchoice/model/GamblesNegatedPinLaw", "at", "([D[DII)Z"⟩ : MethodName) method_3_code 6 (some .boolean) :: ws) ({ frames := 0, cells := 0, slots := 0, locals := 0 } : Room)) (fun a U => a = #[(.ref o0), (.ref o1), (.int (1 : Int32)), (.int p3)] ∧ Z.Warmed39 U.vm ∧ U.heap = h0) (fun _ _ _ _ _ => True) (fun _ U o U' => ∃ v L, o = .returned v ∧ Q2_2_1 Z o0 o1 p3 k_o0 y0 y1 k_o1 w0 w1 z1 z9 z20 z21 z35 z37 h0 n0 v U'.heap L ∧ FrameEnd U o U' L ({ frames := 0, cells := 0, slots := 0, locals := 0 } : Room).cells ({ frames := 0, cells := 0, slots := 0, locals := 0 } : Room).slots) := by
  refine MetFree.of_bodySF (plainFor_of_name pn_1) hisR ?_
  intro p e s m args below meth c s₁ Bd hml0 hP hK
  obtain ⟨rfl, hZ, hh⟩ := hP
  have hx := Bd.exec
  have hby := Bd.bytes
  have hml : c.maxLocals = 6 := hml0
  have hown : s.vm.findClass "com/example/credal_choice/credalchoice/model/GamblesNegatedPinLaw" = some m.cls := findClass_of_methodNamed Bd.named
  have hnm := (name_of_methodNamed Bd.named Bd.method).1
  have X0 : Stand p l e ({ frames := 0, cells := 0, slots := 0, locals := 0 } : Room) s m #[(.ref o0), (.ref o1), (.int (1 : Int32)), (.int p3)] below meth c s₁ [] 0 0 := Stand.of_body Bd
  have e0 : s₁.heap = h0 := by rw [← hh, Bd.state]; rfl
  have N0 := Fr.nil n0
  have c0 : ∀ t, Steps p.tables e below (s₁.setTop (mkF m 0 #[.val (.ref o0), .val (.ref o1), .val (.int (1 : Int32)), .val (.int p3), .unset, .unset] [])) t → Steps p.tables e below (s₁.setTop (entryFrame m #[(.ref o0), (.ref o1), (.int (1 : Int32)), (.int p3)] 6)) t := fun t k => castTop (ef_rm2_2_1 m o0 o1 p3) k
  obtain ⟨cl1, Ar1, -, S1, -, Ha1, -⟩ := id V_o0
  have in1 : ¬ ((1 : Int32) < 0 ∨ cl1.slots.size ≤ ((1 : Int32)).toNatClampNeg) := inb_of S1 ⟨by decide, by decide⟩
  obtain ⟨cl2, Ar2, -, S2, -, Ha2, -⟩ := id V_o1
  have in2 : ¬ ((1 : Int32) < 0 ∨ cl2.slots.size ≤ ((1 : Int32)).toNatClampNeg) := inb_of S2 ⟨by decide, by decide⟩
  have c3 : ∀ t, Steps p.tables e below (s₁.setTop (mkF m 28 #[.val (.ref o0), .val (.ref o1), .val (.int (1 : Int32)), .val (.int p3), .val (.double z1), .second] [(.int p3)])) t → Steps p.tables e below (s₁.setTop (entryFrame m #[(.ref o0), (.ref o1), (.int (1 : Int32)), (.int p3)] 6)) t := by
    intro t k
    refine c0 t ?_
    show Steps p.tables e below (s₁.setTop (mkF m 0 #[.val (.ref o0), .val (.ref o1), .val (.int (1 : Int32)), .val (.int p3), .unset, .unset] [])) _
    refine XS.iloadN X0.here hx rfl (hb hby d2_0) rfl ?_
    show Steps p.tables e below (s₁.setTop (mkF m 1 #[.val (.ref o0), .val (.ref o1), .val (.int (1 : Int32)), .val (.int p3), .unset, .unset] [(.int p3)])) _
    refine XS.i2dS X0.here hx rfl (hb hby d2_1) rfl hz1 ?_
    show Steps p.tables e below (s₁.setTop (mkF m 2 #[.val (.ref o0), .val (.ref o1), .val (.int (1 : Int32)), .val (.int p3), .unset, .unset] [(.double z1)])) _
    refine XS.dstore X0.here hx rfl (hb hby d2_2) rfl (l' := #[.val (.ref o0), .val (.ref o1), .val (.int (1 : Int32)), .val (.int p3), .val (.double z1), .second]) rfl ?_
    show Steps p.tables e below (s₁.setTop (mkF m 4 #[.val (.ref o0), .val (.ref o1), .val (.int (1 : Int32)), .val (.int p3), .val (.double z1), .second] [])) _
    refine XS.aloadN X0.here hx rfl (hb hby d2_4) rfl rfl ?_
    show Steps p.tables e below (s₁.setTop (mkF m 5 #[.val (.ref o0), .val (.ref o1), .val (.int (1 : Int32)), .val (.int p3), .val (.double z1), .second] [(.ref o0)])) _
    refine XS.iloadN X0.here hx rfl (hb hby d2_5) rfl ?_
    show Steps p.tables e below (s₁.setTop (mkF m 6 #[.val (.ref o0), .val (.ref o1), .val (.int (1 : Int32)), .val (.int p3), .val (.double z1), .second] [(.int (1 : Int32)), (.ref o0)])) _
    refine X0.daload hx (j := (1 : Int32)) (v := (.double y1)) (by rw [e0]; exact Ar1.1) (State.isArrayOf_alike hZ.alike Ar1.2.1) Ar1.2.2 in1 (Has.at Ha1 in1 rfl) (g := (mkF m 6 #[.val (.ref o0), .val (.ref o1), .val (.int (1 : Int32)), .val (.int p3), .val (.double z1), .second] [(.int (1 : Int32)), (.ref o0)])) rfl rfl (hb hby d2_6) _ ?_
    show Steps p.tables e below (s₁.setTop (mkF m 7 #[.val (.ref o0), .val (.ref o1), .val (.int (1 : Int32)), .val (.int p3), .val (.double z1), .second] [(.double y1)])) _
    refine XS.dload X0.here hx rfl (hb hby d2_7) rfl ?_
    show Steps p.tables e below (s₁.setTop (mkF m 9 #[.val (.ref o0), .val (.ref o1), .val (.int (1 : Int32)), .val (.int p3), .val (.double z1), .second] [(.double z1), (.double y1)])) _
    refine XS.dcmpS X0.here hx rfl (hb hby d2_9) rfl hz9 ?_
    show Steps p.tables e below (s₁.setTop (mkF m 10 #[.val (.ref o0), .val (.ref o1), .val (.int (1 : Int32)), .val (.int p3), .val (.double z1), .second] [(.int z9)])) _
    refine XS.ifYes X0.here hx rfl (pc0 := 10) (pc' := 15) rfl (hb hby d2_10) rfl (Jvm.Free.XT.i0_eq_t br10) (by decide) (by decide) ?_
    show Steps p.tables e below (s₁.setTop (mkF m 15 #[.val (.ref o0), .val (.ref o1), .val (.int (1 : Int32)), .val (.int p3), .val (.double z1), .second] [])) _
    refine XS.aloadN X0.here hx rfl (hb hby d2_15) rfl rfl ?_
    show Steps p.tables e below (s₁.setTop (mkF m 16 #[.val (.ref o0), .val (.ref o1), .val (.int (1 : Int32)), .val (.int p3), .val (.double z1), .second] [(.ref o1)])) _
    refine XS.iloadN X0.here hx rfl (hb hby d2_16) rfl ?_
    show Steps p.tables e below (s₁.setTop (mkF m 17 #[.val (.ref o0), .val (.ref o1), .val (.int (1 : Int32)), .val (.int p3), .val (.double z1), .second] [(.int (1 : Int32)), (.ref o1)])) _
    refine X0.daload hx (j := (1 : Int32)) (v := (.double w1)) (by rw [e0]; exact Ar2.1) (State.isArrayOf_alike hZ.alike Ar2.2.1) Ar2.2.2 in2 (Has.at Ha2 in2 rfl) (g := (mkF m 17 #[.val (.ref o0), .val (.ref o1), .val (.int (1 : Int32)), .val (.int p3), .val (.double z1), .second] [(.int (1 : Int32)), (.ref o1)])) rfl rfl (hb hby d2_17) _ ?_
    show Steps p.tables e below (s₁.setTop (mkF m 18 #[.val (.ref o0), .val (.ref o1), .val (.int (1 : Int32)), .val (.int p3), .val (.double z1), .second] [(.double w1)])) _
    refine XS.dload X0.here hx rfl (hb hby d2_18) rfl ?_
    show Steps p.tables e below (s₁.setTop (mkF m 20 #[.val (.ref o0), .val (.ref o1), .val (.int (1 : Int32)), .val (.int p3), .val (.double z1), .second] [(.double z1), (.double w1)])) _
    refine XS.dnegS X0.here hx rfl (hb hby d2_20) rfl hz20 ?_
    show Steps p.tables e below (s₁.setTop (mkF m 21 #[.val (.ref o0), .val (.ref o1), .val (.int (1 : Int32)), .val (.int p3), .val (.double z1), .second] [(.double z20), (.double w1)])) _
    refine XS.dcmpS X0.here hx rfl (hb hby d2_21) rfl hz21 ?_
    show Steps p.tables e below (s₁.setTop (mkF m 22 #[.val (.ref o0), .val (.ref o1), .val (.int (1 : Int32)), .val (.int p3), .val (.double z1), .second] [(.int z21)])) _
    refine XS.ifYes X0.here hx rfl (pc0 := 22) (pc' := 27) rfl (hb hby d2_22) rfl (Jvm.Free.XT.i0_eq_t br22) (by decide) (by decide) ?_
    show Steps p.tables e below (s₁.setTop (mkF m 27 #[.val (.ref o0), .val (.ref o1), .val (.int (1 : Int32)), .val (.int p3), .val (.double z1), .second] [])) _
    refine XS.iloadN X0.here hx rfl (hb hby d2_27) rfl ?_
    exact k
  by_cases hb28 : p3 = (0 : Int32)
  · skip
    obtain ⟨cl4, Ar4, -, S4, -, Ha4, -⟩ := id V_o1
    have in4 : ¬ ((1 : Int32) < 0 ∨ cl4.slots.size ≤ ((1 : Int32)).toNatClampNeg) := inb_of S4 ⟨by decide, by decide⟩
    have c5 : ∀ t, Steps p.tables e below (s₁.setTop (mkF m 44 #[.val (.ref o0), .val (.ref o1), .val (.int (1 : Int32)), .val (.int p3), .val (.double z1), .second] [(.int (1 : Int32))])) t → Steps p.tables e below (s₁.setTop (entryFrame m #[(.ref o0), (.ref o1), (.int (1 : Int32)), (.int p3)] 6)) t := by
      intro t k
      refine c3 t ?_
      show Steps p.tables e below (s₁.setTop (mkF m 28 #[.val (.ref o0), .val (.ref o1), .val (.int (1 : Int32)), .val (.int p3), .val (.double z1), .second] [(.int p3)])) _
      refine XS.ifNo X0.here hx rfl (hb hby d2_28) rfl (Jvm.Free.XT.i0_ne_f hb28) ?_
      show Steps p.tables e below (s₁.setTop (mkF m 31 #[.val (.ref o0), .val (.ref o1), .val (.int (1 : Int32)), .val (.int p3), .val (.double z1), .second] [])) _
      refine XS.dconst1 X0.here hx rfl (hb hby d2_31) (v := FP.dconst1) rfl ?_
      show Steps p.tables e below (s₁.setTop (mkF m 32 #[.val (.ref o0), .val (.ref o1), .val (.int (1 : Int32)), .val (.int p3), .val (.double z1), .second] [(.double FP.dconst1)])) _
      refine XS.aloadN X0.here hx rfl (hb hby d2_32) rfl rfl ?_
      show Steps p.tables e below (s₁.setTop (mkF m 33 #[.val (.ref o0), .val (.ref o1), .val (.int (1 : Int32)), .val (.int p3), .val (.double z1), .second] [(.ref o1), (.double FP.dconst1)])) _
      refine XS.iloadN X0.here hx rfl (hb hby d2_33) rfl ?_
      show Steps p.tables e below (s₁.setTop (mkF m 34 #[.val (.ref o0), .val (.ref o1), .val (.int (1 : Int32)), .val (.int p3), .val (.double z1), .second] [(.int (1 : Int32)), (.ref o1), (.double FP.dconst1)])) _
      refine X0.daload hx (j := (1 : Int32)) (v := (.double w1)) (by rw [e0]; exact Ar4.1) (State.isArrayOf_alike hZ.alike Ar4.2.1) Ar4.2.2 in4 (Has.at Ha4 in4 rfl) (g := (mkF m 34 #[.val (.ref o0), .val (.ref o1), .val (.int (1 : Int32)), .val (.int p3), .val (.double z1), .second] [(.int (1 : Int32)), (.ref o1), (.double FP.dconst1)])) rfl rfl (hb hby d2_34) _ ?_
      show Steps p.tables e below (s₁.setTop (mkF m 35 #[.val (.ref o0), .val (.ref o1), .val (.int (1 : Int32)), .val (.int p3), .val (.double z1), .second] [(.double w1), (.double FP.dconst1)])) _
      refine Jvm.OwnK.ddiv X0.here hx rfl (hb hby d2_35) rfl hz35 (nn35 hb28) ?_
      show Steps p.tables e below (s₁.setTop (mkF m 36 #[.val (.ref o0), .val (.ref o1), .val (.int (1 : Int32)), .val (.int p3), .val (.double z1), .second] [(.double z35)])) _
      refine XS.dconst0 X0.here hx rfl (hb hby d2_36) (v := FP.dconst0) rfl ?_
      show Steps p.tables e below (s₁.setTop (mkF m 37 #[.val (.ref o0), .val (.ref o1), .val (.int (1 : Int32)), .val (.int p3), .val (.double z1), .second] [(.double FP.dconst0), (.double z35)])) _
      refine XS.dcmpS X0.here hx rfl (hb hby d2_37) rfl hz37 ?_
      show Steps p.tables e below (s₁.setTop (mkF m 38 #[.val (.ref o0), .val (.ref o1), .val (.int (1 : Int32)), .val (.int p3), .val (.double z1), .second] [(.int z37)])) _
      refine XS.ifYes X0.here hx rfl (pc0 := 38) (pc' := 43) rfl (hb hby d2_38) rfl (Jvm.Free.XT.i0_lt_t (br38 hb28)) (by decide) (by decide) ?_
      show Steps p.tables e below (s₁.setTop (mkF m 43 #[.val (.ref o0), .val (.ref o1), .val (.int (1 : Int32)), .val (.int p3), .val (.double z1), .second] [])) _
      refine XS.iconst X0.here hx rfl (hb hby d2_43) ?_
      exact k
    obtain ⟨fs, hr, hrun, hended, hW, hsame⟩ := X0.leave (v := some (.int (1 : Int32))) (fun h => by rw [Bd.returns] at h; cases h)
    refine ⟨_, _, c5 _ ?_, hrun, hended, _, _, rfl, ?_, ⟨_, rfl⟩, hW, hsame.mono (by decide) (by decide)⟩
    · show Steps p.tables e below (s₁.setTop (mkF m 44 #[.val (.ref o0), .val (.ref o1), .val (.int (1 : Int32)), .val (.int p3), .val (.double z1), .second] [(.int (1 : Int32))])) _
      exact retOut X0 hx Bd.returns rfl (Or.inl ⟨rfl, by simp, _, rfl⟩) (hb hby d2_44) hr
    · show Q2_2_1 Z o0 o1 p3 k_o0 y0 y1 k_o1 w0 w1 z1 z9 z20 z21 z35 z37 h0 n0 _ s₁.heap _
      rw [e0]
      exact ⟨rfl, by first | assumption | exact N0, rfl⟩
  · skip
    have c6 : ∀ t, Steps p.tables e below (s₁.setTop (mkF m 44 #[.val (.ref o0), .val (.ref o1), .val (.int (1 : Int32)), .val (.int p3), .val (.double z1), .second] [(.int (1 : Int32))])) t → Steps p.tables e below (s₁.setTop (entryFrame m #[(.ref o0), (.ref o1), (.int (1 : Int32)), (.int p3)] 6)) t := by
      intro t k
      refine c3 t ?_
      show Steps p.tables e below (s₁.setTop (mkF m 28 #[.val (.ref o0), .val (.ref o1), .val (.int (1 : Int32)), .val (.int p3), .val (.double z1), .second] [(.int p3)])) _
      refine XS.ifYes X0.here hx rfl (pc0 := 28) (pc' := 43) rfl (hb hby d2_28) rfl (Jvm.Free.XT.i0_ne_t hb28) (by decide) (by decide) ?_
      show Steps p.tables e below (s₁.setTop (mkF m 43 #[.val (.ref o0), .val (.ref o1), .val (.int (1 : Int32)), .val (.int p3), .val (.double z1), .second] [])) _
      refine XS.iconst X0.here hx rfl (hb hby d2_43) ?_
      exact k
    obtain ⟨fs, hr, hrun, hended, hW, hsame⟩ := X0.leave (v := some (.int (1 : Int32))) (fun h => by rw [Bd.returns] at h; cases h)
    refine ⟨_, _, c6 _ ?_, hrun, hended, _, _, rfl, ?_, ⟨_, rfl⟩, hW, hsame.mono (by decide) (by decide)⟩
    · show Steps p.tables e below (s₁.setTop (mkF m 44 #[.val (.ref o0), .val (.ref o1), .val (.int (1 : Int32)), .val (.int p3), .val (.double z1), .second] [(.int (1 : Int32))])) _
      exact retOut X0 hx Bd.returns rfl (Or.inl ⟨rfl, by simp, _, rfl⟩) (hb hby d2_44) hr
    · show Q2_2_1 Z o0 o1 p3 k_o0 y0 y1 k_o1 w0 w1 z1 z9 z20 z21 z35 z37 h0 n0 _ s₁.heap _
      rw [e0]
      exact ⟨rfl, by first | assumption | exact N0, rfl⟩
def Q2_3_0 (Z : State) (o0 : Addr) (o1 : Addr) (p3 : Int32) (k_o0 : ClassId) (y0 : UInt64) (y1 : UInt64) (y2 : UInt64) (k_o1 : ClassId) (w0 : UInt64) (w1 : UInt64) (w2 : UInt64) (z1 : UInt64) (z9 : Int32) (z20 : UInt64) (z21 : Int32) (z35 : UInt64) (z37 : Int32) (h0 : Heap) (n0 : Nat) (v : Option Value) (h : Heap) (L : List Loc) : Prop := v = some (.int (1 : Int32)) ∧ Fr n0 L ∧ h = h0
set_option maxRecDepth 65536 in
set_option maxHeartbeats 40000000 in
theorem rm2_3_0 (l : Launch) (Z : State) (a0 : Array Value) (hw : ∀ d ∈ tables_1, d.before a0 Z = true) (ws : List Jvm.Cond) (o0 : Addr) (o1 : Addr) (p3 : Int32) (k_o0 : ClassId) (y0 : UInt64) (y1 : UInt64) (y2 : UInt64) (k_o1 : ClassId) (w0 : UInt64) (w1 : UInt64) (w2 : UInt64) (z1 : UInt64) (z9 : Int32) (z20 : UInt64) (z21 : Int32) (z35 : UInt64) (z37 : Int32) (h0 : Heap) (n0 : Nat) (Z0 : n0 ≤ h0.size) (V_o0 : Arv Z h0 o0 k_o0 .double (3 : Int32) [(.double y0), (.double y1), (.double y2)] (.double (0 : UInt64))) (V_o1 : Arv Z h0 o1 k_o1 .double (3 : Int32) [(.double w0), (.double w1), (.double w2)] (.double (0 : UInt64))) (hz1 : FP.i2d p3 = z1) (hz9 : cmpValue (FP.dcmp y0 z1) .l = z9) (hz20 : FP.dneg z1 = z20) (hz21 : cmpValue (FP.dcmp w0 z20) .l = z21) (hz35 : FP.ddiv FP.dconst1 w0 = z35) (hz37 : cmpValue (FP.dcmp z35 FP.dconst0) .g = z37) (br10 : z9 = (0 : Int32)) (br22 : z21 = (0 : Int32)) (nn35 : (p3 = (0 : Int32)) → Jvm.Free.Fl.NoNaN64 z35) (br38 : (p3 = (0 : Int32)) → z37 < (0 : Int32)) :
    MetFree l (⟨"com/example/credal_choice/credalchoice/model/GamblesNegatedPinLaw", "at", "([D[DII)Z"⟩ : MethodName) (head1 (Jvm.Cond.code (⟨"com/example/credal_choice/credalchoice/model/GamblesNegatedPinLaw", "at", "([D[DII)Z"⟩ : MethodName) method_3_code 6 (some .boolean) :: ws) ({ frames := 0, cells := 0, slots := 0, locals := 0 } : Room)) (fun a U => a = #[(.ref o0), (.ref o1), (.int (0 : Int32)), (.int p3)] ∧ Z.Warmed39 U.vm ∧ U.heap = h0) (fun _ _ _ _ _ => True) (fun _ U o U' => ∃ v L, o = .returned v ∧ Q2_3_0 Z o0 o1 p3 k_o0 y0 y1 y2 k_o1 w0 w1 w2 z1 z9 z20 z21 z35 z37 h0 n0 v U'.heap L ∧ FrameEnd U o U' L ({ frames := 0, cells := 0, slots := 0, locals := 0 } : Room).cells ({ frames := 0, cells := 0, slots := 0, locals := 0 } : Room).slots) := by
  refine MetFree.of_bodySF (plainFor_of_name pn_1) hisR ?_
  intro p e s m args below meth c s₁ Bd hml0 hP hK
  obtain ⟨rfl, hZ, hh⟩ := hP
  have hx := Bd.exec
  have hby := Bd.bytes
  have hml : c.maxLocals = 6 := hml0
  have hown : s.vm.findClass "com/example/credal_choice/credalchoice/model/GamblesNegatedPinLaw" = some m.cls := findClass_of_methodNamed Bd.named
  have hnm := (name_of_methodNamed Bd.named Bd.method).1
  have X0 : Stand p l e ({ frames := 0, cells := 0, slots := 0, locals := 0 } : Room) s m #[(.ref o0), (.ref o1), (.int (0 : Int32)), (.int p3)] below meth c s₁ [] 0 0 := Stand.of_body Bd
  have e0 : s₁.heap = h0 := by rw [← hh, Bd.state]; rfl
  have N0 := Fr.nil n0
  have c0 : ∀ t, Steps p.tables e below (s₁.setTop (mkF m 0 #[.val (.ref o0), .val (.ref o1), .val (.int (0 : Int32)), .val (.int p3), .unset, .unset] [])) t → Steps p.tables e below (s₁.setTop (entryFrame m #[(.ref o0), (.ref o1), (.int (0 : Int32)), (.int p3)] 6)) t := fun t k => castTop (ef_rm2_3_0 m o0 o1 p3) k
  obtain ⟨cl1, Ar1, -, S1, -, Ha1, -⟩ := id V_o0
  have in1 : ¬ ((0 : Int32) < 0 ∨ cl1.slots.size ≤ ((0 : Int32)).toNatClampNeg) := inb_of S1 ⟨by decide, by decide⟩
  obtain ⟨cl2, Ar2, -, S2, -, Ha2, -⟩ := id V_o1
  have in2 : ¬ ((0 : Int32) < 0 ∨ cl2.slots.size ≤ ((0 : Int32)).toNatClampNeg) := inb_of S2 ⟨by decide, by decide⟩
  have c3 : ∀ t, Steps p.tables e below (s₁.setTop (mkF m 28 #[.val (.ref o0), .val (.ref o1), .val (.int (0 : Int32)), .val (.int p3), .val (.double z1), .second] [(.int p3)])) t → Steps p.tables e below (s₁.setTop (entryFrame m #[(.ref o0), (.ref o1), (.int (0 : Int32)), (.int p3)] 6)) t := by
    intro t k
    refine c0 t ?_
    show Steps p.tables e below (s₁.setTop (mkF m 0 #[.val (.ref o0), .val (.ref o1), .val (.int (0 : Int32)), .val (.int p3), .unset, .unset] [])) _
    refine XS.iloadN X0.here hx rfl (hb hby d2_0) rfl ?_
    show Steps p.tables e below (s₁.setTop (mkF m 1 #[.val (.ref o0), .val (.ref o1), .val (.int (0 : Int32)), .val (.int p3), .unset, .unset] [(.int p3)])) _
    refine XS.i2dS X0.here hx rfl (hb hby d2_1) rfl hz1 ?_
    show Steps p.tables e below (s₁.setTop (mkF m 2 #[.val (.ref o0), .val (.ref o1), .val (.int (0 : Int32)), .val (.int p3), .unset, .unset] [(.double z1)])) _
    refine XS.dstore X0.here hx rfl (hb hby d2_2) rfl (l' := #[.val (.ref o0), .val (.ref o1), .val (.int (0 : Int32)), .val (.int p3), .val (.double z1), .second]) rfl ?_
    show Steps p.tables e below (s₁.setTop (mkF m 4 #[.val (.ref o0), .val (.ref o1), .val (.int (0 : Int32)), .val (.int p3), .val (.double z1), .second] [])) _
    refine XS.aloadN X0.here hx rfl (hb hby d2_4) rfl rfl ?_
    show Steps p.tables e below (s₁.setTop (mkF m 5 #[.val (.ref o0), .val (.ref o1), .val (.int (0 : Int32)), .val (.int p3), .val (.double z1), .second] [(.ref o0)])) _
    refine XS.iloadN X0.here hx rfl (hb hby d2_5) rfl ?_
    show Steps p.tables e below (s₁.setTop (mkF m 6 #[.val (.ref o0), .val (.ref o1), .val (.int (0 : Int32)), .val (.int p3), .val (.double z1), .second] [(.int (0 : Int32)), (.ref o0)])) _
    refine X0.daload hx (j := (0 : Int32)) (v := (.double y0)) (by rw [e0]; exact Ar1.1) (State.isArrayOf_alike hZ.alike Ar1.2.1) Ar1.2.2 in1 (Has.at Ha1 in1 rfl) (g := (mkF m 6 #[.val (.ref o0), .val (.ref o1), .val (.int (0 : Int32)), .val (.int p3), .val (.double z1), .second] [(.int (0 : Int32)), (.ref o0)])) rfl rfl (hb hby d2_6) _ ?_
    show Steps p.tables e below (s₁.setTop (mkF m 7 #[.val (.ref o0), .val (.ref o1), .val (.int (0 : Int32)), .val (.int p3), .val (.double z1), .second] [(.double y0)])) _
    refine XS.dload X0.here hx rfl (hb hby d2_7) rfl ?_
    show Steps p.tables e below (s₁.setTop (mkF m 9 #[.val (.ref o0), .val (.ref o1), .val (.int (0 : Int32)), .val (.int p3), .val (.double z1), .second] [(.double z1), (.double y0)])) _
    refine XS.dcmpS X0.here hx rfl (hb hby d2_9) rfl hz9 ?_
    show Steps p.tables e below (s₁.setTop (mkF m 10 #[.val (.ref o0), .val (.ref o1), .val (.int (0 : Int32)), .val (.int p3), .val (.double z1), .second] [(.int z9)])) _
    refine XS.ifYes X0.here hx rfl (pc0 := 10) (pc' := 15) rfl (hb hby d2_10) rfl (Jvm.Free.XT.i0_eq_t br10) (by decide) (by decide) ?_
    show Steps p.tables e below (s₁.setTop (mkF m 15 #[.val (.ref o0), .val (.ref o1), .val (.int (0 : Int32)), .val (.int p3), .val (.double z1), .second] [])) _
    refine XS.aloadN X0.here hx rfl (hb hby d2_15) rfl rfl ?_
    show Steps p.tables e below (s₁.setTop (mkF m 16 #[.val (.ref o0), .val (.ref o1), .val (.int (0 : Int32)), .val (.int p3), .val (.double z1), .second] [(.ref o1)])) _
    refine XS.iloadN X0.here hx rfl (hb hby d2_16) rfl ?_
    show Steps p.tables e below (s₁.setTop (mkF m 17 #[.val (.ref o0), .val (.ref o1), .val (.int (0 : Int32)), .val (.int p3), .val (.double z1), .second] [(.int (0 : Int32)), (.ref o1)])) _
    refine X0.daload hx (j := (0 : Int32)) (v := (.double w0)) (by rw [e0]; exact Ar2.1) (State.isArrayOf_alike hZ.alike Ar2.2.1) Ar2.2.2 in2 (Has.at Ha2 in2 rfl) (g := (mkF m 17 #[.val (.ref o0), .val (.ref o1), .val (.int (0 : Int32)), .val (.int p3), .val (.double z1), .second] [(.int (0 : Int32)), (.ref o1)])) rfl rfl (hb hby d2_17) _ ?_
    show Steps p.tables e below (s₁.setTop (mkF m 18 #[.val (.ref o0), .val (.ref o1), .val (.int (0 : Int32)), .val (.int p3), .val (.double z1), .second] [(.double w0)])) _
    refine XS.dload X0.here hx rfl (hb hby d2_18) rfl ?_
    show Steps p.tables e below (s₁.setTop (mkF m 20 #[.val (.ref o0), .val (.ref o1), .val (.int (0 : Int32)), .val (.int p3), .val (.double z1), .second] [(.double z1), (.double w0)])) _
    refine XS.dnegS X0.here hx rfl (hb hby d2_20) rfl hz20 ?_
    show Steps p.tables e below (s₁.setTop (mkF m 21 #[.val (.ref o0), .val (.ref o1), .val (.int (0 : Int32)), .val (.int p3), .val (.double z1), .second] [(.double z20), (.double w0)])) _
    refine XS.dcmpS X0.here hx rfl (hb hby d2_21) rfl hz21 ?_
    show Steps p.tables e below (s₁.setTop (mkF m 22 #[.val (.ref o0), .val (.ref o1), .val (.int (0 : Int32)), .val (.int p3), .val (.double z1), .second] [(.int z21)])) _
    refine XS.ifYes X0.here hx rfl (pc0 := 22) (pc' := 27) rfl (hb hby d2_22) rfl (Jvm.Free.XT.i0_eq_t br22) (by decide) (by decide) ?_
    show Steps p.tables e below (s₁.setTop (mkF m 27 #[.val (.ref o0), .val (.ref o1), .val (.int (0 : Int32)), .val (.int p3), .val (.double z1), .second] [])) _
    refine XS.iloadN X0.here hx rfl (hb hby d2_27) rfl ?_
    exact k
  by_cases hb28 : p3 = (0 : Int32)
  · skip
    obtain ⟨cl4, Ar4, -, S4, -, Ha4, -⟩ := id V_o1
    have in4 : ¬ ((0 : Int32) < 0 ∨ cl4.slots.size ≤ ((0 : Int32)).toNatClampNeg) := inb_of S4 ⟨by decide, by decide⟩
    have c5 : ∀ t, Steps p.tables e below (s₁.setTop (mkF m 44 #[.val (.ref o0), .val (.ref o1), .val (.int (0 : Int32)), .val (.int p3), .val (.double z1), .second] [(.int (1 : Int32))])) t → Steps p.tables e below (s₁.setTop (entryFrame m #[(.ref o0), (.ref o1), (.int (0 : Int32)), (.int p3)] 6)) t := by
      intro t k
      refine c3 t ?_
      show Steps p.tables e below (s₁.setTop (mkF m 28 #[.val (.ref o0), .val (.ref o1), .val (.int (0 : Int32)), .val (.int p3), .val (.double z1), .second] [(.int p3)])) _
      refine XS.ifNo X0.here hx rfl (hb hby d2_28) rfl (Jvm.Free.XT.i0_ne_f hb28) ?_
      show Steps p.tables e below (s₁.setTop (mkF m 31 #[.val (.ref o0), .val (.ref o1), .val (.int (0 : Int32)), .val (.int p3), .val (.double z1), .second] [])) _
      refine XS.dconst1 X0.here hx rfl (hb hby d2_31) (v := FP.dconst1) rfl ?_
      show Steps p.tables e below (s₁.setTop (mkF m 32 #[.val (.ref o0), .val (.ref o1), .val (.int (0 : Int32)), .val (.int p3), .val (.double z1), .second] [(.double FP.dconst1)])) _
      refine XS.aloadN X0.here hx rfl (hb hby d2_32) rfl rfl ?_
      show Steps p.tables e below (s₁.setTop (mkF m 33 #[.val (.ref o0), .val (.ref o1), .val (.int (0 : Int32)), .val (.int p3), .val (.double z1), .second] [(.ref o1), (.double FP.dconst1)])) _
      refine XS.iloadN X0.here hx rfl (hb hby d2_33) rfl ?_
      show Steps p.tables e below (s₁.setTop (mkF m 34 #[.val (.ref o0), .val (.ref o1), .val (.int (0 : Int32)), .val (.int p3), .val (.double z1), .second] [(.int (0 : Int32)), (.ref o1), (.double FP.dconst1)])) _
      refine X0.daload hx (j := (0 : Int32)) (v := (.double w0)) (by rw [e0]; exact Ar4.1) (State.isArrayOf_alike hZ.alike Ar4.2.1) Ar4.2.2 in4 (Has.at Ha4 in4 rfl) (g := (mkF m 34 #[.val (.ref o0), .val (.ref o1), .val (.int (0 : Int32)), .val (.int p3), .val (.double z1), .second] [(.int (0 : Int32)), (.ref o1), (.double FP.dconst1)])) rfl rfl (hb hby d2_34) _ ?_
      show Steps p.tables e below (s₁.setTop (mkF m 35 #[.val (.ref o0), .val (.ref o1), .val (.int (0 : Int32)), .val (.int p3), .val (.double z1), .second] [(.double w0), (.double FP.dconst1)])) _
      refine Jvm.OwnK.ddiv X0.here hx rfl (hb hby d2_35) rfl hz35 (nn35 hb28) ?_
      show Steps p.tables e below (s₁.setTop (mkF m 36 #[.val (.ref o0), .val (.ref o1), .val (.int (0 : Int32)), .val (.int p3), .val (.double z1), .second] [(.double z35)])) _
      refine XS.dconst0 X0.here hx rfl (hb hby d2_36) (v := FP.dconst0) rfl ?_
      show Steps p.tables e below (s₁.setTop (mkF m 37 #[.val (.ref o0), .val (.ref o1), .val (.int (0 : Int32)), .val (.int p3), .val (.double z1), .second] [(.double FP.dconst0), (.double z35)])) _
      refine XS.dcmpS X0.here hx rfl (hb hby d2_37) rfl hz37 ?_
      show Steps p.tables e below (s₁.setTop (mkF m 38 #[.val (.ref o0), .val (.ref o1), .val (.int (0 : Int32)), .val (.int p3), .val (.double z1), .second] [(.int z37)])) _
      refine XS.ifYes X0.here hx rfl (pc0 := 38) (pc' := 43) rfl (hb hby d2_38) rfl (Jvm.Free.XT.i0_lt_t (br38 hb28)) (by decide) (by decide) ?_
      show Steps p.tables e below (s₁.setTop (mkF m 43 #[.val (.ref o0), .val (.ref o1), .val (.int (0 : Int32)), .val (.int p3), .val (.double z1), .second] [])) _
      refine XS.iconst X0.here hx rfl (hb hby d2_43) ?_
      exact k
    obtain ⟨fs, hr, hrun, hended, hW, hsame⟩ := X0.leave (v := some (.int (1 : Int32))) (fun h => by rw [Bd.returns] at h; cases h)
    refine ⟨_, _, c5 _ ?_, hrun, hended, _, _, rfl, ?_, ⟨_, rfl⟩, hW, hsame.mono (by decide) (by decide)⟩
    · show Steps p.tables e below (s₁.setTop (mkF m 44 #[.val (.ref o0), .val (.ref o1), .val (.int (0 : Int32)), .val (.int p3), .val (.double z1), .second] [(.int (1 : Int32))])) _
      exact retOut X0 hx Bd.returns rfl (Or.inl ⟨rfl, by simp, _, rfl⟩) (hb hby d2_44) hr
    · show Q2_3_0 Z o0 o1 p3 k_o0 y0 y1 y2 k_o1 w0 w1 w2 z1 z9 z20 z21 z35 z37 h0 n0 _ s₁.heap _
      rw [e0]
      exact ⟨rfl, by first | assumption | exact N0, rfl⟩
  · skip
    have c6 : ∀ t, Steps p.tables e below (s₁.setTop (mkF m 44 #[.val (.ref o0), .val (.ref o1), .val (.int (0 : Int32)), .val (.int p3), .val (.double z1), .second] [(.int (1 : Int32))])) t → Steps p.tables e below (s₁.setTop (entryFrame m #[(.ref o0), (.ref o1), (.int (0 : Int32)), (.int p3)] 6)) t := by
      intro t k
      refine c3 t ?_
      show Steps p.tables e below (s₁.setTop (mkF m 28 #[.val (.ref o0), .val (.ref o1), .val (.int (0 : Int32)), .val (.int p3), .val (.double z1), .second] [(.int p3)])) _
      refine XS.ifYes X0.here hx rfl (pc0 := 28) (pc' := 43) rfl (hb hby d2_28) rfl (Jvm.Free.XT.i0_ne_t hb28) (by decide) (by decide) ?_
      show Steps p.tables e below (s₁.setTop (mkF m 43 #[.val (.ref o0), .val (.ref o1), .val (.int (0 : Int32)), .val (.int p3), .val (.double z1), .second] [])) _
      refine XS.iconst X0.here hx rfl (hb hby d2_43) ?_
      exact k
    obtain ⟨fs, hr, hrun, hended, hW, hsame⟩ := X0.leave (v := some (.int (1 : Int32))) (fun h => by rw [Bd.returns] at h; cases h)
    refine ⟨_, _, c6 _ ?_, hrun, hended, _, _, rfl, ?_, ⟨_, rfl⟩, hW, hsame.mono (by decide) (by decide)⟩
    · show Steps p.tables e below (s₁.setTop (mkF m 44 #[.val (.ref o0), .val (.ref o1), .val (.int (0 : Int32)), .val (.int p3), .val (.double z1), .second] [(.int (1 : Int32))])) _
      exact retOut X0 hx Bd.returns rfl (Or.inl ⟨rfl, by simp, _, rfl⟩) (hb hby d2_44) hr
    · show Q2_3_0 Z o0 o1 p3 k_o0 y0 y1 y2 k_o1 w0 w1 w2 z1 z9 z20 z21 z35 z37 h0 n0 _ s₁.heap _
      rw [e0]
      exact ⟨rfl, by first | assumption | exact N0, rfl⟩
def Q2_3_1 (Z : State) (o0 : Addr) (o1 : Addr) (p3 : Int32) (k_o0 : ClassId) (y0 : UInt64) (y1 : UInt64) (y2 : UInt64) (k_o1 : ClassId) (w0 : UInt64) (w1 : UInt64) (w2 : UInt64) (z1 : UInt64) (z9 : Int32) (z20 : UInt64) (z21 : Int32) (z35 : UInt64) (z37 : Int32) (h0 : Heap) (n0 : Nat) (v : Option Value) (h : Heap) (L : List Loc) : Prop := v = some (.int (1 : Int32)) ∧ Fr n0 L ∧ h = h0
set_option maxRecDepth 65536 in
set_option maxHeartbeats 40000000 in
theorem rm2_3_1 (l : Launch) (Z : State) (a0 : Array Value) (hw : ∀ d ∈ tables_1, d.before a0 Z = true) (ws : List Jvm.Cond) (o0 : Addr) (o1 : Addr) (p3 : Int32) (k_o0 : ClassId) (y0 : UInt64) (y1 : UInt64) (y2 : UInt64) (k_o1 : ClassId) (w0 : UInt64) (w1 : UInt64) (w2 : UInt64) (z1 : UInt64) (z9 : Int32) (z20 : UInt64) (z21 : Int32) (z35 : UInt64) (z37 : Int32) (h0 : Heap) (n0 : Nat) (Z0 : n0 ≤ h0.size) (V_o0 : Arv Z h0 o0 k_o0 .double (3 : Int32) [(.double y0), (.double y1), (.double y2)] (.double (0 : UInt64))) (V_o1 : Arv Z h0 o1 k_o1 .double (3 : Int32) [(.double w0), (.double w1), (.double w2)] (.double (0 : UInt64))) (hz1 : FP.i2d p3 = z1) (hz9 : cmpValue (FP.dcmp y1 z1) .l = z9) (hz20 : FP.dneg z1 = z20) (hz21 : cmpValue (FP.dcmp w1 z20) .l = z21) (hz35 : FP.ddiv FP.dconst1 w1 = z35) (hz37 : cmpValue (FP.dcmp z35 FP.dconst0) .g = z37) (br10 : z9 = (0 : Int32)) (br22 : z21 = (0 : Int32)) (nn35 : (p3 = (0 : Int32)) → Jvm.Free.Fl.NoNaN64 z35) (br38 : (p3 = (0 : Int32)) → z37 < (0 : Int32)) :
    MetFree l (⟨"com/example/credal_choice/credalchoice/model/GamblesNegatedPinLaw", "at", "([D[DII)Z"⟩ : MethodName) (head1 (Jvm.Cond.code (⟨"com/example/credal_choice/credalchoice/model/GamblesNegatedPinLaw", "at", "([D[DII)Z"⟩ : MethodName) method_3_code 6 (some .boolean) :: ws) ({ frames := 0, cells := 0, slots := 0, locals := 0 } : Room)) (fun a U => a = #[(.ref o0), (.ref o1), (.int (1 : Int32)), (.int p3)] ∧ Z.Warmed39 U.vm ∧ U.heap = h0) (fun _ _ _ _ _ => True) (fun _ U o U' => ∃ v L, o = .returned v ∧ Q2_3_1 Z o0 o1 p3 k_o0 y0 y1 y2 k_o1 w0 w1 w2 z1 z9 z20 z21 z35 z37 h0 n0 v U'.heap L ∧ FrameEnd U o U' L ({ frames := 0, cells := 0, slots := 0, locals := 0 } : Room).cells ({ frames := 0, cells := 0, slots := 0, locals := 0 } : Room).slots) := by
  refine MetFree.of_bodySF (plainFor_of_name pn_1) hisR ?_
  intro p e s m args below meth c s₁ Bd hml0 hP hK
  obtain ⟨rfl, hZ, hh⟩ := hP
  have hx := Bd.exec
  have hby := Bd.bytes
  have hml : c.maxLocals = 6 := hml0
  have hown : s.vm.findClass "com/example/credal_choice/credalchoice/model/GamblesNegatedPinLaw" = some m.cls := findClass_of_methodNamed Bd.named
  have hnm := (name_of_methodNamed Bd.named Bd.method).1
  have X0 : Stand p l e ({ frames := 0, cells := 0, slots := 0, locals := 0 } : Room) s m #[(.ref o0), (.ref o1), (.int (1 : Int32)), (.int p3)] below meth c s₁ [] 0 0 := Stand.of_body Bd
  have e0 : s₁.heap = h0 := by rw [← hh, Bd.state]; rfl
  have N0 := Fr.nil n0
  have c0 : ∀ t, Steps p.tables e below (s₁.setTop (mkF m 0 #[.val (.ref o0), .val (.ref o1), .val (.int (1 : Int32)), .val (.int p3), .unset, .unset] [])) t → Steps p.tables e below (s₁.setTop (entryFrame m #[(.ref o0), (.ref o1), (.int (1 : Int32)), (.int p3)] 6)) t := fun t k => castTop (ef_rm2_3_1 m o0 o1 p3) k
  obtain ⟨cl1, Ar1, -, S1, -, Ha1, -⟩ := id V_o0
  have in1 : ¬ ((1 : Int32) < 0 ∨ cl1.slots.size ≤ ((1 : Int32)).toNatClampNeg) := inb_of S1 ⟨by decide, by decide⟩
  obtain ⟨cl2, Ar2, -, S2, -, Ha2, -⟩ := id V_o1
  have in2 : ¬ ((1 : Int32) < 0 ∨ cl2.slots.size ≤ ((1 : Int32)).toNatClampNeg) := inb_of S2 ⟨by decide, by decide⟩
  have c3 : ∀ t, Steps p.tables e below (s₁.setTop (mkF m 28 #[.val (.ref o0), .val (.ref o1), .val (.int (1 : Int32)), .val (.int p3), .val (.double z1), .second] [(.int p3)])) t → Steps p.tables e below (s₁.setTop (entryFrame m #[(.ref o0), (.ref o1), (.int (1 : Int32)), (.int p3)] 6)) t := by
    intro t k
    refine c0 t ?_
    show Steps p.tables e below (s₁.setTop (mkF m 0 #[.val (.ref o0), .val (.ref o1), .val (.int (1 : Int32)), .val (.int p3), .unset, .unset] [])) _
    refine XS.iloadN X0.here hx rfl (hb hby d2_0) rfl ?_
    show Steps p.tables e below (s₁.setTop (mkF m 1 #[.val (.ref o0), .val (.ref o1), .val (.int (1 : Int32)), .val (.int p3), .unset, .unset] [(.int p3)])) _
    refine XS.i2dS X0.here hx rfl (hb hby d2_1) rfl hz1 ?_
    show Steps p.tables e below (s₁.setTop (mkF m 2 #[.val (.ref o0), .val (.ref o1), .val (.int (1 : Int32)), .val (.int p3), .unset, .unset] [(.double z1)])) _
    refine XS.dstore X0.here hx rfl (hb hby d2_2) rfl (l' := #[.val (.ref o0), .val (.ref o1), .val (.int (1 : Int32)), .val (.int p3), .val (.double z1), .second]) rfl ?_
    show Steps p.tables e below (s₁.setTop (mkF m 4 #[.val (.ref o0), .val (.ref o1), .val (.int (1 : Int32)), .val (.int p3), .val (.double z1), .second] [])) _
    refine XS.aloadN X0.here hx rfl (hb hby d2_4) rfl rfl ?_
    show Steps p.tables e below (s₁.setTop (mkF m 5 #[.val (.ref o0), .val (.ref o1), .val (.int (1 : Int32)), .val (.int p3), .val (.double z1), .second] [(.ref o0)])) _
    refine XS.iloadN X0.here hx rfl (hb hby d2_5) rfl ?_
    show Steps p.tables e below (s₁.setTop (mkF m 6 #[.val (.ref o0), .val (.ref o1), .val (.int (1 : Int32)), .val (.int p3), .val (.double z1), .second] [(.int (1 : Int32)), (.ref o0)])) _
    refine X0.daload hx (j := (1 : Int32)) (v := (.double y1)) (by rw [e0]; exact Ar1.1) (State.isArrayOf_alike hZ.alike Ar1.2.1) Ar1.2.2 in1 (Has.at Ha1 in1 rfl) (g := (mkF m 6 #[.val (.ref o0), .val (.ref o1), .val (.int (1 : Int32)), .val (.int p3), .val (.double z1), .second] [(.int (1 : Int32)), (.ref o0)])) rfl rfl (hb hby d2_6) _ ?_
    show Steps p.tables e below (s₁.setTop (mkF m 7 #[.val (.ref o0), .val (.ref o1), .val (.int (1 : Int32)), .val (.int p3), .val (.double z1), .second] [(.double y1)])) _
    refine XS.dload X0.here hx rfl (hb hby d2_7) rfl ?_
    show Steps p.tables e below (s₁.setTop (mkF m 9 #[.val (.ref o0), .val (.ref o1), .val (.int (1 : Int32)), .val (.int p3), .val (.double z1), .second] [(.double z1), (.double y1)])) _
    refine XS.dcmpS X0.here hx rfl (hb hby d2_9) rfl hz9 ?_
    show Steps p.tables e below (s₁.setTop (mkF m 10 #[.val (.ref o0), .val (.ref o1), .val (.int (1 : Int32)), .val (.int p3), .val (.double z1), .second] [(.int z9)])) _
    refine XS.ifYes X0.here hx rfl (pc0 := 10) (pc' := 15) rfl (hb hby d2_10) rfl (Jvm.Free.XT.i0_eq_t br10) (by decide) (by decide) ?_
    show Steps p.tables e below (s₁.setTop (mkF m 15 #[.val (.ref o0), .val (.ref o1), .val (.int (1 : Int32)), .val (.int p3), .val (.double z1), .second] [])) _
    refine XS.aloadN X0.here hx rfl (hb hby d2_15) rfl rfl ?_
    show Steps p.tables e below (s₁.setTop (mkF m 16 #[.val (.ref o0), .val (.ref o1), .val (.int (1 : Int32)), .val (.int p3), .val (.double z1), .second] [(.ref o1)])) _
    refine XS.iloadN X0.here hx rfl (hb hby d2_16) rfl ?_
    show Steps p.tables e below (s₁.setTop (mkF m 17 #[.val (.ref o0), .val (.ref o1), .val (.int (1 : Int32)), .val (.int p3), .val (.double z1), .second] [(.int (1 : Int32)), (.ref o1)])) _
    refine X0.daload hx (j := (1 : Int32)) (v := (.double w1)) (by rw [e0]; exact Ar2.1) (State.isArrayOf_alike hZ.alike Ar2.2.1) Ar2.2.2 in2 (Has.at Ha2 in2 rfl) (g := (mkF m 17 #[.val (.ref o0), .val (.ref o1), .val (.int (1 : Int32)), .val (.int p3), .val (.double z1), .second] [(.int (1 : Int32)), (.ref o1)])) rfl rfl (hb hby d2_17) _ ?_
    show Steps p.tables e below (s₁.setTop (mkF m 18 #[.val (.ref o0), .val (.ref o1), .val (.int (1 : Int32)), .val (.int p3), .val (.double z1), .second] [(.double w1)])) _
    refine XS.dload X0.here hx rfl (hb hby d2_18) rfl ?_
    show Steps p.tables e below (s₁.setTop (mkF m 20 #[.val (.ref o0), .val (.ref o1), .val (.int (1 : Int32)), .val (.int p3), .val (.double z1), .second] [(.double z1), (.double w1)])) _
    refine XS.dnegS X0.here hx rfl (hb hby d2_20) rfl hz20 ?_
    show Steps p.tables e below (s₁.setTop (mkF m 21 #[.val (.ref o0), .val (.ref o1), .val (.int (1 : Int32)), .val (.int p3), .val (.double z1), .second] [(.double z20), (.double w1)])) _
    refine XS.dcmpS X0.here hx rfl (hb hby d2_21) rfl hz21 ?_
    show Steps p.tables e below (s₁.setTop (mkF m 22 #[.val (.ref o0), .val (.ref o1), .val (.int (1 : Int32)), .val (.int p3), .val (.double z1), .second] [(.int z21)])) _
    refine XS.ifYes X0.here hx rfl (pc0 := 22) (pc' := 27) rfl (hb hby d2_22) rfl (Jvm.Free.XT.i0_eq_t br22) (by decide) (by decide) ?_
    show Steps p.tables e below (s₁.setTop (mkF m 27 #[.val (.ref o0), .val (.ref o1), .val (.int (1 : Int32)), .val (.int p3), .val (.double z1), .second] [])) _
    refine XS.iloadN X0.here hx rfl (hb hby d2_27) rfl ?_
    exact k
  by_cases hb28 : p3 = (0 : Int32)
  · skip
    obtain ⟨cl4, Ar4, -, S4, -, Ha4, -⟩ := id V_o1
    have in4 : ¬ ((1 : Int32) < 0 ∨ cl4.slots.size ≤ ((1 : Int32)).toNatClampNeg) := inb_of S4 ⟨by decide, by decide⟩
    have c5 : ∀ t, Steps p.tables e below (s₁.setTop (mkF m 44 #[.val (.ref o0), .val (.ref o1), .val (.int (1 : Int32)), .val (.int p3), .val (.double z1), .second] [(.int (1 : Int32))])) t → Steps p.tables e below (s₁.setTop (entryFrame m #[(.ref o0), (.ref o1), (.int (1 : Int32)), (.int p3)] 6)) t := by
      intro t k
      refine c3 t ?_
      show Steps p.tables e below (s₁.setTop (mkF m 28 #[.val (.ref o0), .val (.ref o1), .val (.int (1 : Int32)), .val (.int p3), .val (.double z1), .second] [(.int p3)])) _
      refine XS.ifNo X0.here hx rfl (hb hby d2_28) rfl (Jvm.Free.XT.i0_ne_f hb28) ?_
      show Steps p.tables e below (s₁.setTop (mkF m 31 #[.val (.ref o0), .val (.ref o1), .val (.int (1 : Int32)), .val (.int p3), .val (.double z1), .second] [])) _
      refine XS.dconst1 X0.here hx rfl (hb hby d2_31) (v := FP.dconst1) rfl ?_
      show Steps p.tables e below (s₁.setTop (mkF m 32 #[.val (.ref o0), .val (.ref o1), .val (.int (1 : Int32)), .val (.int p3), .val (.double z1), .second] [(.double FP.dconst1)])) _
      refine XS.aloadN X0.here hx rfl (hb hby d2_32) rfl rfl ?_
      show Steps p.tables e below (s₁.setTop (mkF m 33 #[.val (.ref o0), .val (.ref o1), .val (.int (1 : Int32)), .val (.int p3), .val (.double z1), .second] [(.ref o1), (.double FP.dconst1)])) _
      refine XS.iloadN X0.here hx rfl (hb hby d2_33) rfl ?_
      show Steps p.tables e below (s₁.setTop (mkF m 34 #[.val (.ref o0), .val (.ref o1), .val (.int (1 : Int32)), .val (.int p3), .val (.double z1), .second] [(.int (1 : Int32)), (.ref o1), (.double FP.dconst1)])) _
      refine X0.daload hx (j := (1 : Int32)) (v := (.double w1)) (by rw [e0]; exact Ar4.1) (State.isArrayOf_alike hZ.alike Ar4.2.1) Ar4.2.2 in4 (Has.at Ha4 in4 rfl) (g := (mkF m 34 #[.val (.ref o0), .val (.ref o1), .val (.int (1 : Int32)), .val (.int p3), .val (.double z1), .second] [(.int (1 : Int32)), (.ref o1), (.double FP.dconst1)])) rfl rfl (hb hby d2_34) _ ?_
      show Steps p.tables e below (s₁.setTop (mkF m 35 #[.val (.ref o0), .val (.ref o1), .val (.int (1 : Int32)), .val (.int p3), .val (.double z1), .second] [(.double w1), (.double FP.dconst1)])) _
      refine Jvm.OwnK.ddiv X0.here hx rfl (hb hby d2_35) rfl hz35 (nn35 hb28) ?_
      show Steps p.tables e below (s₁.setTop (mkF m 36 #[.val (.ref o0), .val (.ref o1), .val (.int (1 : Int32)), .val (.int p3), .val (.double z1), .second] [(.double z35)])) _
      refine XS.dconst0 X0.here hx rfl (hb hby d2_36) (v := FP.dconst0) rfl ?_
      show Steps p.tables e below (s₁.setTop (mkF m 37 #[.val (.ref o0), .val (.ref o1), .val (.int (1 : Int32)), .val (.int p3), .val (.double z1), .second] [(.double FP.dconst0), (.double z35)])) _
      refine XS.dcmpS X0.here hx rfl (hb hby d2_37) rfl hz37 ?_
      show Steps p.tables e below (s₁.setTop (mkF m 38 #[.val (.ref o0), .val (.ref o1), .val (.int (1 : Int32)), .val (.int p3), .val (.double z1), .second] [(.int z37)])) _
      refine XS.ifYes X0.here hx rfl (pc0 := 38) (pc' := 43) rfl (hb hby d2_38) rfl (Jvm.Free.XT.i0_lt_t (br38 hb28)) (by decide) (by decide) ?_
      show Steps p.tables e below (s₁.setTop (mkF m 43 #[.val (.ref o0), .val (.ref o1), .val (.int (1 : Int32)), .val (.int p3), .val (.double z1), .second] [])) _
      refine XS.iconst X0.here hx rfl (hb hby d2_43) ?_
      exact k
    obtain ⟨fs, hr, hrun, hended, hW, hsame⟩ := X0.leave (v := some (.int (1 : Int32))) (fun h => by rw [Bd.returns] at h; cases h)
    refine ⟨_, _, c5 _ ?_, hrun, hended, _, _, rfl, ?_, ⟨_, rfl⟩, hW, hsame.mono (by decide) (by decide)⟩
    · show Steps p.tables e below (s₁.setTop (mkF m 44 #[.val (.ref o0), .val (.ref o1), .val (.int (1 : Int32)), .val (.int p3), .val (.double z1), .second] [(.int (1 : Int32))])) _
      exact retOut X0 hx Bd.returns rfl (Or.inl ⟨rfl, by simp, _, rfl⟩) (hb hby d2_44) hr
    · show Q2_3_1 Z o0 o1 p3 k_o0 y0 y1 y2 k_o1 w0 w1 w2 z1 z9 z20 z21 z35 z37 h0 n0 _ s₁.heap _
      rw [e0]
      exact ⟨rfl, by first | assumption | exact N0, rfl⟩
  · skip
    have c6 : ∀ t, Steps p.tables e below (s₁.setTop (mkF m 44 #[.val (.ref o0), .val (.ref o1), .val (.int (1 : Int32)), .val (.int p3), .val (.double z1), .second] [(.int (1 : Int32))])) t → Steps p.tables e below (s₁.setTop (entryFrame m #[(.ref o0), (.ref o1), (.int (1 : Int32)), (.int p3)] 6)) t := by
      intro t k
      refine c3 t ?_
      show Steps p.tables e below (s₁.setTop (mkF m 28 #[.val (.ref o0), .val (.ref o1), .val (.int (1 : Int32)), .val (.int p3), .val (.double z1), .second] [(.int p3)])) _
      refine XS.ifYes X0.here hx rfl (pc0 := 28) (pc' := 43) rfl (hb hby d2_28) rfl (Jvm.Free.XT.i0_ne_t hb28) (by decide) (by decide) ?_
      show Steps p.tables e below (s₁.setTop (mkF m 43 #[.val (.ref o0), .val (.ref o1), .val (.int (1 : Int32)), .val (.int p3), .val (.double z1), .second] [])) _
      refine XS.iconst X0.here hx rfl (hb hby d2_43) ?_
      exact k
    obtain ⟨fs, hr, hrun, hended, hW, hsame⟩ := X0.leave (v := some (.int (1 : Int32))) (fun h => by rw [Bd.returns] at h; cases h)
    refine ⟨_, _, c6 _ ?_, hrun, hended, _, _, rfl, ?_, ⟨_, rfl⟩, hW, hsame.mono (by decide) (by decide)⟩
    · show Steps p.tables e below (s₁.setTop (mkF m 44 #[.val (.ref o0), .val (.ref o1), .val (.int (1 : Int32)), .val (.int p3), .val (.double z1), .second] [(.int (1 : Int32))])) _
      exact retOut X0 hx Bd.returns rfl (Or.inl ⟨rfl, by simp, _, rfl⟩) (hb hby d2_44) hr
    · show Q2_3_1 Z o0 o1 p3 k_o0 y0 y1 y2 k_o1 w0 w1 w2 z1 z9 z20 z21 z35 z37 h0 n0 _ s₁.heap _
      rw [e0]
      exact ⟨rfl, by first | assumption | exact N0, rfl⟩
def Q2_3_2 (Z : State) (o0 : Addr) (o1 : Addr) (p3 : Int32) (k_o0 : ClassId) (y0 : UInt64) (y1 : UInt64) (y2 : UInt64) (k_o1 : ClassId) (w0 : UInt64) (w1 : UInt64) (w2 : UInt64) (z1 : UInt64) (z9 : Int32) (z20 : UInt64) (z21 : Int32) (z35 : UInt64) (z37 : Int32) (h0 : Heap) (n0 : Nat) (v : Option Value) (h : Heap) (L : List Loc) : Prop := v = some (.int (1 : Int32)) ∧ Fr n0 L ∧ h = h0
set_option maxRecDepth 65536 in
set_option maxHeartbeats 40000000 in
theorem rm2_3_2 (l : Launch) (Z : State) (a0 : Array Value) (hw : ∀ d ∈ tables_1, d.before a0 Z = true) (ws : List Jvm.Cond) (o0 : Addr) (o1 : Addr) (p3 : Int32) (k_o0 : ClassId) (y0 : UInt64) (y1 : UInt64) (y2 : UInt64) (k_o1 : ClassId) (w0 : UInt64) (w1 : UInt64) (w2 : UInt64) (z1 : UInt64) (z9 : Int32) (z20 : UInt64) (z21 : Int32) (z35 : UInt64) (z37 : Int32) (h0 : Heap) (n0 : Nat) (Z0 : n0 ≤ h0.size) (V_o0 : Arv Z h0 o0 k_o0 .double (3 : Int32) [(.double y0), (.double y1), (.double y2)] (.double (0 : UInt64))) (V_o1 : Arv Z h0 o1 k_o1 .double (3 : Int32) [(.double w0), (.double w1), (.double w2)] (.double (0 : UInt64))) (hz1 : FP.i2d p3 = z1) (hz9 : cmpValue (FP.dcmp y2 z1) .l = z9) (hz20 : FP.dneg z1 = z20) (hz21 : cmpValue (FP.dcmp w2 z20) .l = z21) (hz35 : FP.ddiv FP.dconst1 w2 = z35) (hz37 : cmpValue (FP.dcmp z35 FP.dconst0) .g = z37) (br10 : z9 = (0 : Int32)) (br22 : z21 = (0 : Int32)) (nn35 : (p3 = (0 : Int32)) → Jvm.Free.Fl.NoNaN64 z35) (br38 : (p3 = (0 : Int32)) → z37 < (0 : Int32)) :
    MetFree l (⟨"com/example/credal_choice/credalchoice/model/GamblesNegatedPinLaw", "at", "([D[DII)Z"⟩ : MethodName) (head1 (Jvm.Cond.code (⟨"com/example/credal_choice/credalchoice/model/GamblesNegatedPinLaw", "at", "([D[DII)Z"⟩ : MethodName) method_3_code 6 (some .boolean) :: ws) ({ frames := 0, cells := 0, slots := 0, locals := 0 } : Room)) (fun a U => a = #[(.ref o0), (.ref o1), (.int (2 : Int32)), (.int p3)] ∧ Z.Warmed39 U.vm ∧ U.heap = h0) (fun _ _ _ _ _ => True) (fun _ U o U' => ∃ v L, o = .returned v ∧ Q2_3_2 Z o0 o1 p3 k_o0 y0 y1 y2 k_o1 w0 w1 w2 z1 z9 z20 z21 z35 z37 h0 n0 v U'.heap L ∧ FrameEnd U o U' L ({ frames := 0, cells := 0, slots := 0, locals := 0 } : Room).cells ({ frames := 0, cells := 0, slots := 0, locals := 0 } : Room).slots) := by
  refine MetFree.of_bodySF (plainFor_of_name pn_1) hisR ?_
  intro p e s m args below meth c s₁ Bd hml0 hP hK
  obtain ⟨rfl, hZ, hh⟩ := hP
  have hx := Bd.exec
  have hby := Bd.bytes
  have hml : c.maxLocals = 6 := hml0
  have hown : s.vm.findClass "com/example/credal_choice/credalchoice/model/GamblesNegatedPinLaw" = some m.cls := findClass_of_methodNamed Bd.named
  have hnm := (name_of_methodNamed Bd.named Bd.method).1
  have X0 : Stand p l e ({ frames := 0, cells := 0, slots := 0, locals := 0 } : Room) s m #[(.ref o0), (.ref o1), (.int (2 : Int32)), (.int p3)] below meth c s₁ [] 0 0 := Stand.of_body Bd
  have e0 : s₁.heap = h0 := by rw [← hh, Bd.state]; rfl
  have N0 := Fr.nil n0
  have c0 : ∀ t, Steps p.tables e below (s₁.setTop (mkF m 0 #[.val (.ref o0), .val (.ref o1), .val (.int (2 : Int32)), .val (.int p3), .unset, .unset] [])) t → Steps p.tables e below (s₁.setTop (entryFrame m #[(.ref o0), (.ref o1), (.int (2 : Int32)), (.int p3)] 6)) t := fun t k => castTop (ef_rm2_3_2 m o0 o1 p3) k
  obtain ⟨cl1, Ar1, -, S1, -, Ha1, -⟩ := id V_o0
  have in1 : ¬ ((2 : Int32) < 0 ∨ cl1.slots.size ≤ ((2 : Int32)).toNatClampNeg) := inb_of S1 ⟨by decide, by decide⟩
  obtain ⟨cl2, Ar2, -, S2, -, Ha2, -⟩ := id V_o1
  have in2 : ¬ ((2 : Int32) < 0 ∨ cl2.slots.size ≤ ((2 : Int32)).toNatClampNeg) := inb_of S2 ⟨by decide, by decide⟩
  have c3 : ∀ t, Steps p.tables e below (s₁.setTop (mkF m 28 #[.val (.ref o0), .val (.ref o1), .val (.int (2 : Int32)), .val (.int p3), .val (.double z1), .second] [(.int p3)])) t → Steps p.tables e below (s₁.setTop (entryFrame m #[(.ref o0), (.ref o1), (.int (2 : Int32)), (.int p3)] 6)) t := by
    intro t k
    refine c0 t ?_
    show Steps p.tables e below (s₁.setTop (mkF m 0 #[.val (.ref o0), .val (.ref o1), .val (.int (2 : Int32)), .val (.int p3), .unset, .unset] [])) _
    refine XS.iloadN X0.here hx rfl (hb hby d2_0) rfl ?_
    show Steps p.tables e below (s₁.setTop (mkF m 1 #[.val (.ref o0), .val (.ref o1), .val (.int (2 : Int32)), .val (.int p3), .unset, .unset] [(.int p3)])) _
    refine XS.i2dS X0.here hx rfl (hb hby d2_1) rfl hz1 ?_
    show Steps p.tables e below (s₁.setTop (mkF m 2 #[.val (.ref o0), .val (.ref o1), .val (.int (2 : Int32)), .val (.int p3), .unset, .unset] [(.double z1)])) _
    refine XS.dstore X0.here hx rfl (hb hby d2_2) rfl (l' := #[.val (.ref o0), .val (.ref o1), .val (.int (2 : Int32)), .val (.int p3), .val (.double z1), .second]) rfl ?_
    show Steps p.tables e below (s₁.setTop (mkF m 4 #[.val (.ref o0), .val (.ref o1), .val (.int (2 : Int32)), .val (.int p3), .val (.double z1), .second] [])) _
    refine XS.aloadN X0.here hx rfl (hb hby d2_4) rfl rfl ?_
    show Steps p.tables e below (s₁.setTop (mkF m 5 #[.val (.ref o0), .val (.ref o1), .val (.int (2 : Int32)), .val (.int p3), .val (.double z1), .second] [(.ref o0)])) _
    refine XS.iloadN X0.here hx rfl (hb hby d2_5) rfl ?_
    show Steps p.tables e below (s₁.setTop (mkF m 6 #[.val (.ref o0), .val (.ref o1), .val (.int (2 : Int32)), .val (.int p3), .val (.double z1), .second] [(.int (2 : Int32)), (.ref o0)])) _
    refine X0.daload hx (j := (2 : Int32)) (v := (.double y2)) (by rw [e0]; exact Ar1.1) (State.isArrayOf_alike hZ.alike Ar1.2.1) Ar1.2.2 in1 (Has.at Ha1 in1 rfl) (g := (mkF m 6 #[.val (.ref o0), .val (.ref o1), .val (.int (2 : Int32)), .val (.int p3), .val (.double z1), .second] [(.int (2 : Int32)), (.ref o0)])) rfl rfl (hb hby d2_6) _ ?_
    show Steps p.tables e below (s₁.setTop (mkF m 7 #[.val (.ref o0), .val (.ref o1), .val (.int (2 : Int32)), .val (.int p3), .val (.double z1), .second] [(.double y2)])) _
    refine XS.dload X0.here hx rfl (hb hby d2_7) rfl ?_
    show Steps p.tables e below (s₁.setTop (mkF m 9 #[.val (.ref o0), .val (.ref o1), .val (.int (2 : Int32)), .val (.int p3), .val (.double z1), .second] [(.double z1), (.double y2)])) _
    refine XS.dcmpS X0.here hx rfl (hb hby d2_9) rfl hz9 ?_
    show Steps p.tables e below (s₁.setTop (mkF m 10 #[.val (.ref o0), .val (.ref o1), .val (.int (2 : Int32)), .val (.int p3), .val (.double z1), .second] [(.int z9)])) _
    refine XS.ifYes X0.here hx rfl (pc0 := 10) (pc' := 15) rfl (hb hby d2_10) rfl (Jvm.Free.XT.i0_eq_t br10) (by decide) (by decide) ?_
    show Steps p.tables e below (s₁.setTop (mkF m 15 #[.val (.ref o0), .val (.ref o1), .val (.int (2 : Int32)), .val (.int p3), .val (.double z1), .second] [])) _
    refine XS.aloadN X0.here hx rfl (hb hby d2_15) rfl rfl ?_
    show Steps p.tables e below (s₁.setTop (mkF m 16 #[.val (.ref o0), .val (.ref o1), .val (.int (2 : Int32)), .val (.int p3), .val (.double z1), .second] [(.ref o1)])) _
    refine XS.iloadN X0.here hx rfl (hb hby d2_16) rfl ?_
    show Steps p.tables e below (s₁.setTop (mkF m 17 #[.val (.ref o0), .val (.ref o1), .val (.int (2 : Int32)), .val (.int p3), .val (.double z1), .second] [(.int (2 : Int32)), (.ref o1)])) _
    refine X0.daload hx (j := (2 : Int32)) (v := (.double w2)) (by rw [e0]; exact Ar2.1) (State.isArrayOf_alike hZ.alike Ar2.2.1) Ar2.2.2 in2 (Has.at Ha2 in2 rfl) (g := (mkF m 17 #[.val (.ref o0), .val (.ref o1), .val (.int (2 : Int32)), .val (.int p3), .val (.double z1), .second] [(.int (2 : Int32)), (.ref o1)])) rfl rfl (hb hby d2_17) _ ?_
    show Steps p.tables e below (s₁.setTop (mkF m 18 #[.val (.ref o0), .val (.ref o1), .val (.int (2 : Int32)), .val (.int p3), .val (.double z1), .second] [(.double w2)])) _
    refine XS.dload X0.here hx rfl (hb hby d2_18) rfl ?_
    show Steps p.tables e below (s₁.setTop (mkF m 20 #[.val (.ref o0), .val (.ref o1), .val (.int (2 : Int32)), .val (.int p3), .val (.double z1), .second] [(.double z1), (.double w2)])) _
    refine XS.dnegS X0.here hx rfl (hb hby d2_20) rfl hz20 ?_
    show Steps p.tables e below (s₁.setTop (mkF m 21 #[.val (.ref o0), .val (.ref o1), .val (.int (2 : Int32)), .val (.int p3), .val (.double z1), .second] [(.double z20), (.double w2)])) _
    refine XS.dcmpS X0.here hx rfl (hb hby d2_21) rfl hz21 ?_
    show Steps p.tables e below (s₁.setTop (mkF m 22 #[.val (.ref o0), .val (.ref o1), .val (.int (2 : Int32)), .val (.int p3), .val (.double z1), .second] [(.int z21)])) _
    refine XS.ifYes X0.here hx rfl (pc0 := 22) (pc' := 27) rfl (hb hby d2_22) rfl (Jvm.Free.XT.i0_eq_t br22) (by decide) (by decide) ?_
    show Steps p.tables e below (s₁.setTop (mkF m 27 #[.val (.ref o0), .val (.ref o1), .val (.int (2 : Int32)), .val (.int p3), .val (.double z1), .second] [])) _
    refine XS.iloadN X0.here hx rfl (hb hby d2_27) rfl ?_
    exact k
  by_cases hb28 : p3 = (0 : Int32)
  · skip
    obtain ⟨cl4, Ar4, -, S4, -, Ha4, -⟩ := id V_o1
    have in4 : ¬ ((2 : Int32) < 0 ∨ cl4.slots.size ≤ ((2 : Int32)).toNatClampNeg) := inb_of S4 ⟨by decide, by decide⟩
    have c5 : ∀ t, Steps p.tables e below (s₁.setTop (mkF m 44 #[.val (.ref o0), .val (.ref o1), .val (.int (2 : Int32)), .val (.int p3), .val (.double z1), .second] [(.int (1 : Int32))])) t → Steps p.tables e below (s₁.setTop (entryFrame m #[(.ref o0), (.ref o1), (.int (2 : Int32)), (.int p3)] 6)) t := by
      intro t k
      refine c3 t ?_
      show Steps p.tables e below (s₁.setTop (mkF m 28 #[.val (.ref o0), .val (.ref o1), .val (.int (2 : Int32)), .val (.int p3), .val (.double z1), .second] [(.int p3)])) _
      refine XS.ifNo X0.here hx rfl (hb hby d2_28) rfl (Jvm.Free.XT.i0_ne_f hb28) ?_
      show Steps p.tables e below (s₁.setTop (mkF m 31 #[.val (.ref o0), .val (.ref o1), .val (.int (2 : Int32)), .val (.int p3), .val (.double z1), .second] [])) _
      refine XS.dconst1 X0.here hx rfl (hb hby d2_31) (v := FP.dconst1) rfl ?_
      show Steps p.tables e below (s₁.setTop (mkF m 32 #[.val (.ref o0), .val (.ref o1), .val (.int (2 : Int32)), .val (.int p3), .val (.double z1), .second] [(.double FP.dconst1)])) _
      refine XS.aloadN X0.here hx rfl (hb hby d2_32) rfl rfl ?_
      show Steps p.tables e below (s₁.setTop (mkF m 33 #[.val (.ref o0), .val (.ref o1), .val (.int (2 : Int32)), .val (.int p3), .val (.double z1), .second] [(.ref o1), (.double FP.dconst1)])) _
      refine XS.iloadN X0.here hx rfl (hb hby d2_33) rfl ?_
      show Steps p.tables e below (s₁.setTop (mkF m 34 #[.val (.ref o0), .val (.ref o1), .val (.int (2 : Int32)), .val (.int p3), .val (.double z1), .second] [(.int (2 : Int32)), (.ref o1), (.double FP.dconst1)])) _
      refine X0.daload hx (j := (2 : Int32)) (v := (.double w2)) (by rw [e0]; exact Ar4.1) (State.isArrayOf_alike hZ.alike Ar4.2.1) Ar4.2.2 in4 (Has.at Ha4 in4 rfl) (g := (mkF m 34 #[.val (.ref o0), .val (.ref o1), .val (.int (2 : Int32)), .val (.int p3), .val (.double z1), .second] [(.int (2 : Int32)), (.ref o1), (.double FP.dconst1)])) rfl rfl (hb hby d2_34) _ ?_
      show Steps p.tables e below (s₁.setTop (mkF m 35 #[.val (.ref o0), .val (.ref o1), .val (.int (2 : Int32)), .val (.int p3), .val (.double z1), .second] [(.double w2), (.double FP.dconst1)])) _
      refine Jvm.OwnK.ddiv X0.here hx rfl (hb hby d2_35) rfl hz35 (nn35 hb28) ?_
      show Steps p.tables e below (s₁.setTop (mkF m 36 #[.val (.ref o0), .val (.ref o1), .val (.int (2 : Int32)), .val (.int p3), .val (.double z1), .second] [(.double z35)])) _
      refine XS.dconst0 X0.here hx rfl (hb hby d2_36) (v := FP.dconst0) rfl ?_
      show Steps p.tables e below (s₁.setTop (mkF m 37 #[.val (.ref o0), .val (.ref o1), .val (.int (2 : Int32)), .val (.int p3), .val (.double z1), .second] [(.double FP.dconst0), (.double z35)])) _
      refine XS.dcmpS X0.here hx rfl (hb hby d2_37) rfl hz37 ?_
      show Steps p.tables e below (s₁.setTop (mkF m 38 #[.val (.ref o0), .val (.ref o1), .val (.int (2 : Int32)), .val (.int p3), .val (.double z1), .second] [(.int z37)])) _
      refine XS.ifYes X0.here hx rfl (pc0 := 38) (pc' := 43) rfl (hb hby d2_38) rfl (Jvm.Free.XT.i0_lt_t (br38 hb28)) (by decide) (by decide) ?_
      show Steps p.tables e below (s₁.setTop (mkF m 43 #[.val (.ref o0), .val (.ref o1), .val (.int (2 : Int32)), .val (.int p3), .val (.double z1), .second] [])) _
      refine XS.iconst X0.here hx rfl (hb hby d2_43) ?_
      exact k
    obtain ⟨fs, hr, hrun, hended, hW, hsame⟩ := X0.leave (v := some (.int (1 : Int32))) (fun h => by rw [Bd.returns] at h; cases h)
    refine ⟨_, _, c5 _ ?_, hrun, hended, _, _, rfl, ?_, ⟨_, rfl⟩, hW, hsame.mono (by decide) (by decide)⟩
    · show Steps p.tables e below (s₁.setTop (mkF m 44 #[.val (.ref o0), .val (.ref o1), .val (.int (2 : Int32)), .val (.int p3), .val (.double z1), .second] [(.int (1 : Int32))])) _
      exact retOut X0 hx Bd.returns rfl (Or.inl ⟨rfl, by simp, _, rfl⟩) (hb hby d2_44) hr
    · show Q2_3_2 Z o0 o1 p3 k_o0 y0 y1 y2 k_o1 w0 w1 w2 z1 z9 z20 z21 z35 z37 h0 n0 _ s₁.heap _
      rw [e0]
      exact ⟨rfl, by first | assumption | exact N0, rfl⟩
  · skip
    have c6 : ∀ t, Steps p.tables e below (s₁.setTop (mkF m 44 #[.val (.ref o0), .val (.ref o1), .val (.int (2 : Int32)), .val (.int p3), .val (.double z1), .second] [(.int (1 : Int32))])) t → Steps p.tables e below (s₁.setTop (entryFrame m #[(.ref o0), (.ref o1), (.int (2 : Int32)), (.int p3)] 6)) t := by
      intro t k
      refine c3 t ?_
      show Steps p.tables e below (s₁.setTop (mkF m 28 #[.val (.ref o0), .val (.ref o1), .val (.int (2 : Int32)), .val (.int p3), .val (.double z1), .second] [(.int p3)])) _
      refine XS.ifYes X0.here hx rfl (pc0 := 28) (pc' := 43) rfl (hb hby d2_28) rfl (Jvm.Free.XT.i0_ne_t hb28) (by decide) (by decide) ?_
      show Steps p.tables e below (s₁.setTop (mkF m 43 #[.val (.ref o0), .val (.ref o1), .val (.int (2 : Int32)), .val (.int p3), .val (.double z1), .second] [])) _
      refine XS.iconst X0.here hx rfl (hb hby d2_43) ?_
      exact k
    obtain ⟨fs, hr, hrun, hended, hW, hsame⟩ := X0.leave (v := some (.int (1 : Int32))) (fun h => by rw [Bd.returns] at h; cases h)
    refine ⟨_, _, c6 _ ?_, hrun, hended, _, _, rfl, ?_, ⟨_, rfl⟩, hW, hsame.mono (by decide) (by decide)⟩
    · show Steps p.tables e below (s₁.setTop (mkF m 44 #[.val (.ref o0), .val (.ref o1), .val (.int (2 : Int32)), .val (.int p3), .val (.double z1), .second] [(.int (1 : Int32))])) _
      exact retOut X0 hx Bd.returns rfl (Or.inl ⟨rfl, by simp, _, rfl⟩) (hb hby d2_44) hr
    · show Q2_3_2 Z o0 o1 p3 k_o0 y0 y1 y2 k_o1 w0 w1 w2 z1 z9 z20 z21 z35 z37 h0 n0 _ s₁.heap _
      rw [e0]
      exact ⟨rfl, by first | assumption | exact N0, rfl⟩
def Q0 (n0 : Nat) (v : Option Value) (h : Heap) (L : List Loc) : Prop := v = some (.int 1) ∧ Fr n0 L
set_option maxRecDepth 65536 in
set_option maxHeartbeats 40000000 in
theorem rm0 (l : Launch) (Z : State) (a0 : Array Value) (hw : ∀ d ∈ tables_1, d.before a0 Z = true) (ws : List Jvm.Cond) (p0 : Int32) (p1 : Int32) (p2 : Int32) (p3 : Int32)  (h0 : Heap) (n0 : Nat) (Z0 : n0 ≤ h0.size)  :
    MetFree l x (head1 (Jvm.Cond.code x code maxLocals ret :: ws) room_1) (fun a U => a = #[(.int p0), (.int p1), (.int p2), (.int p3)] ∧ Z.Warmed39 U.vm ∧ U.heap = h0) (fun _ _ _ _ _ => True) (fun _ U o U' => ∃ v L, o = .returned v ∧ Q0 n0 v U'.heap L ∧ FrameEnd U o U' L room_1.cells room_1.slots) := by
  refine MetFree.of_bodySF (plainFor_of_name pn_1) hisR ?_
  intro p e s m args below meth c s₁ Bd hml0 hP hK
  obtain ⟨rfl, hZ, hh⟩ := hP
  have hx := Bd.exec
  have hby := Bd.bytes
  have hml : c.maxLocals = 7 := hml0
  have hown : s.vm.findClass "com/example/credal_choice/credalchoice/model/GamblesNegatedPinLaw" = some m.cls := findClass_of_methodNamed Bd.named
  have hnm := (name_of_methodNamed Bd.named Bd.method).1
  have X0 : Stand p l e room_1 s m #[(.int p0), (.int p1), (.int p2), (.int p3)] below meth c s₁ [] 0 0 := Stand.of_body Bd
  have e0 : s₁.heap = h0 := by rw [← hh, Bd.state]; rfl
  have N0 := Fr.nil n0
  have c0 : ∀ t, Steps p.tables e below (s₁.setTop (mkF m 0 #[.val (.int p0), .val (.int p1), .val (.int p2), .val (.int p3), .unset, .unset, .unset] [])) t → Steps p.tables e below (s₁.setTop (entryFrame m #[(.int p0), (.int p1), (.int p2), (.int p3)] maxLocals)) t := fun t k => castTop (ef_rm0 m p0 p1 p2 p3) k
  obtain ⟨z2, hz2⟩ : ∃ z : Int32, p0 &&& (3 : Int32) = z := ⟨_, rfl⟩
  have c1 : ∀ t, Steps p.tables e below (s₁.setTop (mkF m 3 #[.val (.int p0), .val (.int p1), .val (.int p2), .val (.int p3), .unset, .unset, .unset] [(.int z2)])) t → Steps p.tables e below (s₁.setTop (entryFrame m #[(.int p0), (.int p1), (.int p2), (.int p3)] maxLocals)) t := by
    intro t k
    refine c0 t ?_
    show Steps p.tables e below (s₁.setTop (mkF m 0 #[.val (.int p0), .val (.int p1), .val (.int p2), .val (.int p3), .unset, .unset, .unset] [])) _
    refine XS.iloadN X0.here hx rfl (hb hby at_0) rfl ?_
    show Steps p.tables e below (s₁.setTop (mkF m 1 #[.val (.int p0), .val (.int p1), .val (.int p2), .val (.int p3), .unset, .unset, .unset] [(.int p0)])) _
    refine XS.iconst X0.here hx rfl (hb hby at_1) ?_
    show Steps p.tables e below (s₁.setTop (mkF m 2 #[.val (.int p0), .val (.int p1), .val (.int p2), .val (.int p3), .unset, .unset, .unset] [(.int (3 : Int32)), (.int p0)])) _
    refine Jvm.OwnK.iand X0.here hx rfl (hb hby at_2) rfl hz2 ?_
    exact k
  rcases ((by have := and3 p0; rw [hz2] at this; exact this : z2 = 0 ∨ z2 = 1 ∨ z2 = 2 ∨ z2 = 3)) with q2 | q2 | q2 | q2
  · obtain rfl := q2
    obtain ⟨T3, h3, k3, X3, e3, E3, A3, st3⟩ := newP X0 hx hZ (hw _ (List.mem_of_getElem? (i := 0) rfl)) e0 (g := (mkF m 7 #[.val (.int p0), .val (.int p1), .val (.int p2), .val (.int p3), .val (.int (0 : Int32)), .unset, .unset] [(.int (0 : Int32))])) rfl (hb hby at_7) rfl (by decide) (cap := 0) (by decide) (by decide) (by decide) (by decide)
    obtain ⟨b3, g3⟩ : ∃ z, z = h0.size := ⟨_, rfl⟩
    rw [← g3] at A3 st3
    have gn3 : n0 ≤ b3 := Nat.le_trans Z0 (Nat.le_of_eq g3.symm)
    have gz3 : h0.size ≤ b3 := Nat.le_trans ((Keep.refl h0 [])).1 (Nat.le_of_eq g3.symm)
    have K4 : Keep h0 h3 [] := (Keep.refl h0 []).ext E3
    have V3 : Arv Z h3 b3 k3 .double (0 : Int32) [] (.double (0 : UInt64)) := (Arv.new A3 (by decide)).pad (pad_rep [] (.double (0 : UInt64)) 0)
    obtain ⟨_, _, ⟨T5, L5, k5, n5⟩, -, X5, ⟨Lc5, hQ5, ql5, qy5, qz5⟩, st5⟩ := Jvm.LawKit.callS X3 hx (y := (⟨"com/example/credal_choice/credalchoice/model/Gambles", "negated", "([D)[D"⟩ : MethodName)) hown (mvT hZ (hw _ (List.mem_of_getElem? (i := 1) rfl))) (mvT hZ (hw _ (List.mem_of_getElem? (i := 2) rfl))) (mvT hZ (hw _ (List.mem_of_getElem? (i := 3) rfl))) (mvT hZ (hw _ (List.mem_of_getElem? (i := 4) rfl))) (by decide) (backOf (W := 0) (rm1_0 l Z a0 hw [] b3 k3  h3 n0 (Nat.le_trans Z0 E3.1) V3) hZ (hw _ (List.mem_of_getElem? (i := 4) rfl)) (hw _ (List.mem_of_getElem? (i := 3) rfl)) (by decide) (by decide)) (g := (mkF m 48 #[.val (.int p0), .val (.int p1), .val (.int p2), .val (.int p3), .val (.int (0 : Int32)), .val (.ref b3), .unset] [(.ref b3)])) rfl (by rw [hml]; rfl) (argsL := [(.ref b3)]) (rest := []) (lenOf pd_0 rfl) rfl (by show 2 * 0 + _ ≤ _; exact Nat.le_of_eq rfl) (hb hby at_48) (fun _ _ => ⟨rfl, e3, (by decide : 1 + 1 ≤ _), (by decide : 0 + 0 ≤ _)⟩)
    dsimp only [Pt.U, Pt.locs, Pt.cells, Pt.slots] at X5 ql5 qy5 qz5 st5 hQ5
    subst ql5 qy5 qz5
    obtain ⟨rb5_b2, kk5_k2, rfl, N5q, gz5_b2, K5q, Q5_0⟩ := hQ5
    have N5 := Fr.app N0 N5q
    have gn5_b2 : n0 ≤ rb5_b2 := Nat.le_trans (Nat.le_trans Z0 E3.1) gz5_b2
    have gy5_b2 : h0.size ≤ rb5_b2 := Nat.le_trans (K4).1 gz5_b2
    have K6 : Keep h0 T5.heap [] := Keep.trans K4 K5q all0
    obtain ⟨cl7, Ar7, -, S7, Nn7, -, -⟩ := id Q5_0
    have c8 : ∀ t, Steps p.tables e below (T5.setTop (mkF m 132 #[.val (.int p0), .val (.int p1), .val (.int p2), .val (.int p3), .val (.int (0 : Int32)), .val (.ref b3), .val (.ref rb5_b2)] [(.int (1 : Int32))])) t → Steps p.tables e below (s₁.setTop (entryFrame m #[(.int p0), (.int p1), (.int p2), (.int p3)] maxLocals)) t := by
      intro t k
      refine c1 t ?_
      show Steps p.tables e below (s₁.setTop (mkF m 3 #[.val (.int p0), .val (.int p1), .val (.int p2), .val (.int p3), .unset, .unset, .unset] [(.int (0 : Int32))])) _
      refine XS.istore X0.here hx rfl (hb hby at_3) rfl (l' := #[.val (.int p0), .val (.int p1), .val (.int p2), .val (.int p3), .val (.int (0 : Int32)), .unset, .unset]) rfl ?_
      show Steps p.tables e below (s₁.setTop (mkF m 5 #[.val (.int p0), .val (.int p1), .val (.int p2), .val (.int p3), .val (.int (0 : Int32)), .unset, .unset] [])) _
      refine XS.iload X0.here hx rfl (hb hby at_5) rfl ?_
      show Steps p.tables e below (s₁.setTop (mkF m 7 #[.val (.int p0), .val (.int p1), .val (.int p2), .val (.int p3), .val (.int (0 : Int32)), .unset, .unset] [(.int (0 : Int32))])) _
      refine st3 _ ?_
      show Steps p.tables e below (T3.setTop (mkF m 9 #[.val (.int p0), .val (.int p1), .val (.int p2), .val (.int p3), .val (.int (0 : Int32)), .unset, .unset] [(.ref b3)])) _
      refine XS.astore X3.here hx rfl (hb hby at_9) rfl rfl (l' := #[.val (.int p0), .val (.int p1), .val (.int p2), .val (.int p3), .val (.int (0 : Int32)), .val (.ref b3), .unset]) rfl ?_
      show Steps p.tables e below (T3.setTop (mkF m 11 #[.val (.int p0), .val (.int p1), .val (.int p2), .val (.int p3), .val (.int (0 : Int32)), .val (.ref b3), .unset] [])) _
      refine XS.iload X3.here hx rfl (hb hby at_11) rfl ?_
      show Steps p.tables e below (T3.setTop (mkF m 13 #[.val (.int p0), .val (.int p1), .val (.int p2), .val (.int p3), .val (.int (0 : Int32)), .val (.ref b3), .unset] [(.int (0 : Int32))])) _
      refine XS.ifYes X3.here hx rfl (pc0 := 13) (pc' := 22) rfl (hb hby at_13) rfl (Jvm.Free.XT.i0_le_t (by decide)) (by decide) (by decide) ?_
      show Steps p.tables e below (T3.setTop (mkF m 22 #[.val (.int p0), .val (.int p1), .val (.int p2), .val (.int p3), .val (.int (0 : Int32)), .val (.ref b3), .unset] [])) _
      refine XS.iload X3.here hx rfl (hb hby at_22) rfl ?_
      show Steps p.tables e below (T3.setTop (mkF m 24 #[.val (.int p0), .val (.int p1), .val (.int p2), .val (.int p3), .val (.int (0 : Int32)), .val (.ref b3), .unset] [(.int (0 : Int32))])) _
      refine XS.iconst X3.here hx rfl (hb hby at_24) ?_
      show Steps p.tables e below (T3.setTop (mkF m 25 #[.val (.int p0), .val (.int p1), .val (.int p2), .val (.int p3), .val (.int (0 : Int32)), .val (.ref b3), .unset] [(.int (1 : Int32)), (.int (0 : Int32))])) _
      refine XS.icmpYes X3.here hx rfl (pc0 := 25) (pc' := 34) rfl (hb hby at_25) rfl (Jvm.Free.XT.ii_le_t (by decide)) (by decide) (by decide) ?_
      show Steps p.tables e below (T3.setTop (mkF m 34 #[.val (.int p0), .val (.int p1), .val (.int p2), .val (.int p3), .val (.int (0 : Int32)), .val (.ref b3), .unset] [])) _
      refine XS.iload X3.here hx rfl (hb hby at_34) rfl ?_
      show Steps p.tables e below (T3.setTop (mkF m 36 #[.val (.int p0), .val (.int p1), .val (.int p2), .val (.int p3), .val (.int (0 : Int32)), .val (.ref b3), .unset] [(.int (0 : Int32))])) _
      refine XS.iconst X3.here hx rfl (hb hby at_36) ?_
      show Steps p.tables e below (T3.setTop (mkF m 37 #[.val (.int p0), .val (.int p1), .val (.int p2), .val (.int p3), .val (.int (0 : Int32)), .val (.ref b3), .unset] [(.int (2 : Int32)), (.int (0 : Int32))])) _
      refine XS.icmpYes X3.here hx rfl (pc0 := 37) (pc' := 46) rfl (hb hby at_37) rfl (Jvm.Free.XT.ii_le_t (by decide)) (by decide) (by decide) ?_
      show Steps p.tables e below (T3.setTop (mkF m 46 #[.val (.int p0), .val (.int p1), .val (.int p2), .val (.int p3), .val (.int (0 : Int32)), .val (.ref b3), .unset] [])) _
      refine XS.aload X3.here hx rfl (hb hby at_46) rfl rfl ?_
      show Steps p.tables e below (T3.setTop (mkF m 48 #[.val (.int p0), .val (.int p1), .val (.int p2), .val (.int p3), .val (.int (0 : Int32)), .val (.ref b3), .unset] [(.ref b3)])) _
      refine st5 _ ?_
      show Steps p.tables e below (T5.setTop (mkF m 51 #[.val (.int p0), .val (.int p1), .val (.int p2), .val (.int p3), .val (.int (0 : Int32)), .val (.ref b3), .unset] [(.ref rb5_b2)])) _
      refine XS.astore X5.here hx rfl (hb hby at_51) rfl rfl (l' := #[.val (.int p0), .val (.int p1), .val (.int p2), .val (.int p3), .val (.int (0 : Int32)), .val (.ref b3), .val (.ref rb5_b2)]) rfl ?_
      show Steps p.tables e below (T5.setTop (mkF m 53 #[.val (.int p0), .val (.int p1), .val (.int p2), .val (.int p3), .val (.int (0 : Int32)), .val (.ref b3), .val (.ref rb5_b2)] [])) _
      refine XS.aload X5.here hx rfl (hb hby at_53) rfl rfl ?_
      show Steps p.tables e below (T5.setTop (mkF m 55 #[.val (.int p0), .val (.int p1), .val (.int p2), .val (.int p3), .val (.int (0 : Int32)), .val (.ref b3), .val (.ref rb5_b2)] [(.ref rb5_b2)])) _
      refine XS.aload X5.here hx rfl (hb hby at_55) rfl rfl ?_
      show Steps p.tables e below (T5.setTop (mkF m 57 #[.val (.int p0), .val (.int p1), .val (.int p2), .val (.int p3), .val (.int (0 : Int32)), .val (.ref b3), .val (.ref rb5_b2)] [(.ref b3), (.ref rb5_b2)])) _
      refine Jvm.RoadKit.acmp (g := (mkF m 57 #[.val (.int p0), .val (.int p1), .val (.int p2), .val (.int p3), .val (.int (0 : Int32)), .val (.ref b3), .val (.ref rb5_b2)] [(.ref b3), (.ref rb5_b2)])) X5 hx rfl rfl rfl (pc0 := 57) (pc' := 62) (same := false) rfl (hb hby at_57) rfl (decide_eq_false (fun q_ => (Ne.symm (Nat.ne_of_lt (Nat.lt_of_lt_of_le (V3).lt gz5_b2))) (Value.ref.inj q_))) (by decide) (by decide) ?_
      show Steps p.tables e below (T5.setTop (mkF m 62 #[.val (.int p0), .val (.int p1), .val (.int p2), .val (.int p3), .val (.int (0 : Int32)), .val (.ref b3), .val (.ref rb5_b2)] [])) _
      refine XS.aload X5.here hx rfl (hb hby at_62) rfl rfl ?_
      show Steps p.tables e below (T5.setTop (mkF m 64 #[.val (.int p0), .val (.int p1), .val (.int p2), .val (.int p3), .val (.int (0 : Int32)), .val (.ref b3), .val (.ref rb5_b2)] [(.ref rb5_b2)])) _
      refine X5.arraylength hx Ar7.1 (State.isArrayOf_alike hZ.alike Ar7.2.1) (g := (mkF m 64 #[.val (.int p0), .val (.int p1), .val (.int p2), .val (.int p3), .val (.int (0 : Int32)), .val (.ref b3), .val (.ref rb5_b2)] [(.ref rb5_b2)])) rfl rfl (hb hby at_64) _ ?_
      rw [len_of S7 Nn7]
      show Steps p.tables e below (T5.setTop (mkF m 65 #[.val (.int p0), .val (.int p1), .val (.int p2), .val (.int p3), .val (.int (0 : Int32)), .val (.ref b3), .val (.ref rb5_b2)] [(.int (0 : Int32))])) _
      refine XS.iload X5.here hx rfl (hb hby at_65) rfl ?_
      show Steps p.tables e below (T5.setTop (mkF m 67 #[.val (.int p0), .val (.int p1), .val (.int p2), .val (.int p3), .val (.int (0 : Int32)), .val (.ref b3), .val (.ref rb5_b2)] [(.int (0 : Int32)), (.int (0 : Int32))])) _
      refine XS.icmpYes X5.here hx rfl (pc0 := 67) (pc' := 72) rfl (hb hby at_67) rfl (Jvm.Free.XT.ii_eq_t (by decide)) (by decide) (by decide) ?_
      show Steps p.tables e below (T5.setTop (mkF m 72 #[.val (.int p0), .val (.int p1), .val (.int p2), .val (.int p3), .val (.int (0 : Int32)), .val (.ref b3), .val (.ref rb5_b2)] [])) _
      refine XS.iload X5.here hx rfl (hb hby at_72) rfl ?_
      show Steps p.tables e below (T5.setTop (mkF m 74 #[.val (.int p0), .val (.int p1), .val (.int p2), .val (.int p3), .val (.int (0 : Int32)), .val (.ref b3), .val (.ref rb5_b2)] [(.int (0 : Int32))])) _
      refine XS.ifYes X5.here hx rfl (pc0 := 74) (pc' := 91) rfl (hb hby at_74) rfl (Jvm.Free.XT.i0_le_t (by decide)) (by decide) (by decide) ?_
      show Steps p.tables e below (T5.setTop (mkF m 91 #[.val (.int p0), .val (.int p1), .val (.int p2), .val (.int p3), .val (.int (0 : Int32)), .val (.ref b3), .val (.ref rb5_b2)] [])) _
      refine XS.iload X5.here hx rfl (hb hby at_91) rfl ?_
      show Steps p.tables e below (T5.setTop (mkF m 93 #[.val (.int p0), .val (.int p1), .val (.int p2), .val (.int p3), .val (.int (0 : Int32)), .val (.ref b3), .val (.ref rb5_b2)] [(.int (0 : Int32))])) _
      refine XS.iconst X5.here hx rfl (hb hby at_93) ?_
      show Steps p.tables e below (T5.setTop (mkF m 94 #[.val (.int p0), .val (.int p1), .val (.int p2), .val (.int p3), .val (.int (0 : Int32)), .val (.ref b3), .val (.ref rb5_b2)] [(.int (1 : Int32)), (.int (0 : Int32))])) _
      refine XS.icmpYes X5.here hx rfl (pc0 := 94) (pc' := 111) rfl (hb hby at_94) rfl (Jvm.Free.XT.ii_le_t (by decide)) (by decide) (by decide) ?_
      show Steps p.tables e below (T5.setTop (mkF m 111 #[.val (.int p0), .val (.int p1), .val (.int p2), .val (.int p3), .val (.int (0 : Int32)), .val (.ref b3), .val (.ref rb5_b2)] [])) _
      refine XS.iload X5.here hx rfl (hb hby at_111) rfl ?_
      show Steps p.tables e below (T5.setTop (mkF m 113 #[.val (.int p0), .val (.int p1), .val (.int p2), .val (.int p3), .val (.int (0 : Int32)), .val (.ref b3), .val (.ref rb5_b2)] [(.int (0 : Int32))])) _
      refine XS.iconst X5.here hx rfl (hb hby at_113) ?_
      show Steps p.tables e below (T5.setTop (mkF m 114 #[.val (.int p0), .val (.int p1), .val (.int p2), .val (.int p3), .val (.int (0 : Int32)), .val (.ref b3), .val (.ref rb5_b2)] [(.int (2 : Int32)), (.int (0 : Int32))])) _
      refine XS.icmpYes X5.here hx rfl (pc0 := 114) (pc' := 131) rfl (hb hby at_114) rfl (Jvm.Free.XT.ii_le_t (by decide)) (by decide) (by decide) ?_
      show Steps p.tables e below (T5.setTop (mkF m 131 #[.val (.int p0), .val (.int p1), .val (.int p2), .val (.int p3), .val (.int (0 : Int32)), .val (.ref b3), .val (.ref rb5_b2)] [])) _
      refine XS.iconst X5.here hx rfl (hb hby at_131) ?_
      exact k
    obtain ⟨fs, hr, hrun, hended, hW, hsame⟩ := X5.leave (v := some (.int (1 : Int32))) (fun h => by rw [Bd.returns] at h; cases h)
    refine ⟨_, _, c8 _ ?_, hrun, hended, _, _, rfl, ?_, ⟨_, rfl⟩, hW, hsame.mono (by decide) (by decide)⟩
    · show Steps p.tables e below (T5.setTop (mkF m 132 #[.val (.int p0), .val (.int p1), .val (.int p2), .val (.int p3), .val (.int (0 : Int32)), .val (.ref b3), .val (.ref rb5_b2)] [(.int (1 : Int32))])) _
      exact retOut X5 hx Bd.returns rfl (Or.inl ⟨rfl, by simp, _, rfl⟩) (hb hby at_132) hr
    · show Q0 n0 _ T5.heap _
      exact ⟨rfl, by first | assumption | exact N0⟩
  · obtain rfl := q2
    obtain ⟨z20, hz20⟩ : ∃ z : UInt64, FP.i2d p1 = z := ⟨_, rfl⟩
    obtain ⟨c48_z18, hc48_z18⟩ : ∃ z : UInt64, FP.dneg z20 = z := ⟨_, rfl⟩
    obtain ⟨c83_z1, hc83_z1⟩ : ∃ z : UInt64, FP.i2d p1 = z := ⟨_, rfl⟩
    obtain ⟨c83_z9, hc83_z9⟩ : ∃ z : Int32, cmpValue (FP.dcmp z20 c83_z1) .l = z := ⟨_, rfl⟩
    obtain ⟨c83_z20, hc83_z20⟩ : ∃ z : UInt64, FP.dneg c83_z1 = z := ⟨_, rfl⟩
    obtain ⟨c83_z21, hc83_z21⟩ : ∃ z : Int32, cmpValue (FP.dcmp c48_z18 c83_z20) .l = z := ⟨_, rfl⟩
    obtain ⟨c83_z35, hc83_z35⟩ : ∃ z : UInt64, FP.ddiv FP.dconst1 c48_z18 = z := ⟨_, rfl⟩
    obtain ⟨c83_z37, hc83_z37⟩ : ∃ z : Int32, cmpValue (FP.dcmp c83_z35 FP.dconst0) .g = z := ⟨_, rfl⟩
    obtain ⟨T9, h9, k9, X9, e9, E9, A9, st9⟩ := newP X0 hx hZ (hw _ (List.mem_of_getElem? (i := 0) rfl)) e0 (g := (mkF m 7 #[.val (.int p0), .val (.int p1), .val (.int p2), .val (.int p3), .val (.int (1 : Int32)), .unset, .unset] [(.int (1 : Int32))])) rfl (hb hby at_7) rfl (by decide) (cap := 1) (by decide) (by decide) (by decide) (by decide)
    obtain ⟨b9, g9⟩ : ∃ z, z = h0.size := ⟨_, rfl⟩
    rw [← g9] at A9 st9
    have gn9 : n0 ≤ b9 := Nat.le_trans Z0 (Nat.le_of_eq g9.symm)
    have gz9 : h0.size ≤ b9 := Nat.le_trans ((Keep.refl h0 [])).1 (Nat.le_of_eq g9.symm)
    have K10 : Keep h0 h9 [] := (Keep.refl h0 []).ext E9
    have V9 : Arv Z h9 b9 k9 .double (1 : Int32) [(.double (0 : UInt64))] (.double (0 : UInt64)) := (Arv.new A9 (by decide)).pad (pad_rep [] (.double (0 : UInt64)) 1)
    obtain ⟨cl11, Ar11, q11, S11, Nn11, Ha11, G11⟩ := id V9
    have in11 : ¬ ((0 : Int32) < 0 ∨ cl11.slots.size ≤ ((0 : Int32)).toNatClampNeg) := inb_of S11 ⟨by decide, by decide⟩
    obtain ⟨T12, h12, X12, e12, W12, st12⟩ := stD X9 hx hZ e9 Ar11 (j := (0 : Int32)) in11 (g := (mkF m 21 #[.val (.int p0), .val (.int p1), .val (.int p2), .val (.int p3), .val (.int (1 : Int32)), .val (.ref b9), .unset] [(.double z20), (.int (0 : Int32)), (.ref b9)])) rfl rfl (hb hby at_21)
    have N12 := Fr.snoc X12 N0 gn9
    have K13 : Keep h0 h12 [] := K10.wr W12 (Or.inr gz9)
    have V12 : Arv Z h12 b9 k9 .double (1 : Int32) [(.double z20)] (.double (0 : UInt64)) := Arv.set Ar11 q11 S11 Nn11 Ha11 G11 rfl W12 0 rfl (show (0 : Nat) < 1 by decide)
    obtain ⟨_, _, ⟨T14, L14, k14, n14⟩, -, X14, ⟨Lc14, hQ14, ql14, qy14, qz14⟩, st14⟩ := Jvm.LawKit.callS X12 hx (y := (⟨"com/example/credal_choice/credalchoice/model/Gambles", "negated", "([D)[D"⟩ : MethodName)) hown (mvT hZ (hw _ (List.mem_of_getElem? (i := 1) rfl))) (mvT hZ (hw _ (List.mem_of_getElem? (i := 2) rfl))) (mvT hZ (hw _ (List.mem_of_getElem? (i := 3) rfl))) (mvT hZ (hw _ (List.mem_of_getElem? (i := 4) rfl))) (by decide) (backOf (W := 0) (rm1_1 l Z a0 hw [] b9 k9 z20 c48_z18 h12 n0 (Nat.le_trans (Nat.le_trans Z0 E9.1) (Keep.of_wr W12).1) V12 hc48_z18) hZ (hw _ (List.mem_of_getElem? (i := 4) rfl)) (hw _ (List.mem_of_getElem? (i := 3) rfl)) (by decide) (by decide)) (g := (mkF m 48 #[.val (.int p0), .val (.int p1), .val (.int p2), .val (.int p3), .val (.int (1 : Int32)), .val (.ref b9), .unset] [(.ref b9)])) rfl (by rw [hml]; rfl) (argsL := [(.ref b9)]) (rest := []) (lenOf pd_0 rfl) rfl (by show 2 * 0 + _ ≤ _; exact Nat.le_of_eq rfl) (hb hby at_48) (fun _ _ => ⟨rfl, e12, (by decide : 1 + 1 ≤ _), (by decide : 1 + 1 ≤ _)⟩)
    dsimp only [Pt.U, Pt.locs, Pt.cells, Pt.slots] at X14 ql14 qy14 qz14 st14 hQ14
    subst ql14 qy14 qz14
    obtain ⟨rb14_b2, kk14_k2, rfl, N14q, gz14_b2, K14q, Q14_0⟩ := hQ14
    have N14 := Fr.app N12 N14q
    have gn14_b2 : n0 ≤ rb14_b2 := Nat.le_trans (Nat.le_trans (Nat.le_trans Z0 E9.1) (Keep.of_wr W12).1) gz14_b2
    have gy14_b2 : h0.size ≤ rb14_b2 := Nat.le_trans (K13).1 gz14_b2
    have K15 : Keep h0 T14.heap [] := Keep.trans K13 K14q all0
    obtain ⟨cl16, Ar16, -, S16, Nn16, -, -⟩ := id Q14_0
    obtain ⟨c83_br10, c83_br22, c83_nn35, c83_br38⟩ := pl hz20 hc48_z18 hc83_z1 hc83_z9 hc83_z20 hc83_z21 hc83_z35 hc83_z37
    have f17 := (V12.keep K14q nin0)
    obtain ⟨_, _, ⟨T18, L18, k18, n18⟩, -, X18, ⟨Lc18, hQ18, ql18, qy18, qz18⟩, st18⟩ := Jvm.LawKit.callS X14 hx (y := (⟨"com/example/credal_choice/credalchoice/model/GamblesNegatedPinLaw", "at", "([D[DII)Z"⟩ : MethodName)) hown (mvT hZ (hw _ (List.mem_of_getElem? (i := 5) rfl))) (mvT hZ (hw _ (List.mem_of_getElem? (i := 6) rfl))) (mvT hZ (hw _ (List.mem_of_getElem? (i := 7) rfl))) (mvT hZ (hw _ (List.mem_of_getElem? (i := 8) rfl))) (by decide) (backOf (W := 0) (rm2_1_0 l Z a0 hw [] b9 rb14_b2 p1 k9 z20 kk14_k2 c48_z18 c83_z1 c83_z9 c83_z20 c83_z21 c83_z35 c83_z37 T14.heap n0 (Nat.le_trans (Nat.le_trans (Nat.le_trans Z0 E9.1) (Keep.of_wr W12).1) K14q.1) f17 Q14_0 hc83_z1 hc83_z9 hc83_z20 hc83_z21 hc83_z35 hc83_z37 c83_br10 c83_br22 c83_nn35 c83_br38) hZ (hw _ (List.mem_of_getElem? (i := 8) rfl)) (hw _ (List.mem_of_getElem? (i := 7) rfl)) (by decide) (by decide)) (g := (mkF m 83 #[.val (.int p0), .val (.int p1), .val (.int p2), .val (.int p3), .val (.int (1 : Int32)), .val (.ref b9), .val (.ref rb14_b2)] [(.int p1), (.int (0 : Int32)), (.ref rb14_b2), (.ref b9)])) rfl (by rw [hml]; rfl) (argsL := [(.ref b9), (.ref rb14_b2), (.int (0 : Int32)), (.int p1)]) (rest := []) (lenOf pd_1 rfl) rfl (by show 2 * 0 + _ ≤ _; exact Nat.le_of_eq rfl) (hb hby at_83) (fun _ _ => ⟨rfl, rfl, (by decide : 2 + 0 ≤ _), (by decide : 2 + 0 ≤ _)⟩)
    dsimp only [Pt.U, Pt.locs, Pt.cells, Pt.slots] at X18 ql18 qy18 qz18 st18 hQ18
    subst ql18 qy18 qz18
    obtain ⟨rfl, N18q, e18⟩ := hQ18
    have N18 := Fr.app N14 N18q
    have c19 : ∀ t, Steps p.tables e below (T18.setTop (mkF m 132 #[.val (.int p0), .val (.int p1), .val (.int p2), .val (.int p3), .val (.int (1 : Int32)), .val (.ref b9), .val (.ref rb14_b2)] [(.int (1 : Int32))])) t → Steps p.tables e below (s₁.setTop (entryFrame m #[(.int p0), (.int p1), (.int p2), (.int p3)] maxLocals)) t := by
      intro t k
      refine c1 t ?_
      show Steps p.tables e below (s₁.setTop (mkF m 3 #[.val (.int p0), .val (.int p1), .val (.int p2), .val (.int p3), .unset, .unset, .unset] [(.int (1 : Int32))])) _
      refine XS.istore X0.here hx rfl (hb hby at_3) rfl (l' := #[.val (.int p0), .val (.int p1), .val (.int p2), .val (.int p3), .val (.int (1 : Int32)), .unset, .unset]) rfl ?_
      show Steps p.tables e below (s₁.setTop (mkF m 5 #[.val (.int p0), .val (.int p1), .val (.int p2), .val (.int p3), .val (.int (1 : Int32)), .unset, .unset] [])) _
      refine XS.iload X0.here hx rfl (hb hby at_5) rfl ?_
      show Steps p.tables e below (s₁.setTop (mkF m 7 #[.val (.int p0), .val (.int p1), .val (.int p2), .val (.int p3), .val (.int (1 : Int32)), .unset, .unset] [(.int (1 : Int32))])) _
      refine st9 _ ?_
      show Steps p.tables e below (T9.setTop (mkF m 9 #[.val (.int p0), .val (.int p1), .val (.int p2), .val (.int p3), .val (.int (1 : Int32)), .unset, .unset] [(.ref b9)])) _
      refine XS.astore X9.here hx rfl (hb hby at_9) rfl rfl (l' := #[.val (.int p0), .val (.int p1), .val (.int p2), .val (.int p3), .val (.int (1 : Int32)), .val (.ref b9), .unset]) rfl ?_
      show Steps p.tables e below (T9.setTop (mkF m 11 #[.val (.int p0), .val (.int p1), .val (.int p2), .val (.int p3), .val (.int (1 : Int32)), .val (.ref b9), .unset] [])) _
      refine XS.iload X9.here hx rfl (hb hby at_11) rfl ?_
      show Steps p.tables e below (T9.setTop (mkF m 13 #[.val (.int p0), .val (.int p1), .val (.int p2), .val (.int p3), .val (.int (1 : Int32)), .val (.ref b9), .unset] [(.int (1 : Int32))])) _
      refine XS.ifNo X9.here hx rfl (hb hby at_13) rfl (Jvm.Free.XT.i0_le_f (by decide)) ?_
      show Steps p.tables e below (T9.setTop (mkF m 16 #[.val (.int p0), .val (.int p1), .val (.int p2), .val (.int p3), .val (.int (1 : Int32)), .val (.ref b9), .unset] [])) _
      refine XS.aload X9.here hx rfl (hb hby at_16) rfl rfl ?_
      show Steps p.tables e below (T9.setTop (mkF m 18 #[.val (.int p0), .val (.int p1), .val (.int p2), .val (.int p3), .val (.int (1 : Int32)), .val (.ref b9), .unset] [(.ref b9)])) _
      refine XS.iconst X9.here hx rfl (hb hby at_18) ?_
      show Steps p.tables e below (T9.setTop (mkF m 19 #[.val (.int p0), .val (.int p1), .val (.int p2), .val (.int p3), .val (.int (1 : Int32)), .val (.ref b9), .unset] [(.int (0 : Int32)), (.ref b9)])) _
      refine XS.iloadN X9.here hx rfl (hb hby at_19) rfl ?_
      show Steps p.tables e below (T9.setTop (mkF m 20 #[.val (.int p0), .val (.int p1), .val (.int p2), .val (.int p3), .val (.int (1 : Int32)), .val (.ref b9), .unset] [(.int p1), (.int (0 : Int32)), (.ref b9)])) _
      refine XS.i2dS X9.here hx rfl (hb hby at_20) rfl hz20 ?_
      show Steps p.tables e below (T9.setTop (mkF m 21 #[.val (.int p0), .val (.int p1), .val (.int p2), .val (.int p3), .val (.int (1 : Int32)), .val (.ref b9), .unset] [(.double z20), (.int (0 : Int32)), (.ref b9)])) _
      refine st12 _ ?_
      show Steps p.tables e below (T12.setTop (mkF m 22 #[.val (.int p0), .val (.int p1), .val (.int p2), .val (.int p3), .val (.int (1 : Int32)), .val (.ref b9), .unset] [])) _
      refine XS.iload X12.here hx rfl (hb hby at_22) rfl ?_
      show Steps p.tables e below (T12.setTop (mkF m 24 #[.val (.int p0), .val (.int p1), .val (.int p2), .val (.int p3), .val (.int (1 : Int32)), .val (.ref b9), .unset] [(.int (1 : Int32))])) _
      refine XS.iconst X12.here hx rfl (hb hby at_24) ?_
      show Steps p.tables e below (T12.setTop (mkF m 25 #[.val (.int p0), .val (.int p1), .val (.int p2), .val (.int p3), .val (.int (1 : Int32)), .val (.ref b9), .unset] [(.int (1 : Int32)), (.int (1 : Int32))])) _
      refine XS.icmpYes X12.here hx rfl (pc0 := 25) (pc' := 34) rfl (hb hby at_25) rfl (Jvm.Free.XT.ii_le_t (by decide)) (by decide) (by decide) ?_
      show Steps p.tables e below (T12.setTop (mkF m 34 #[.val (.int p0), .val (.int p1), .val (.int p2), .val (.int p3), .val (.int (1 : Int32)), .val (.ref b9), .unset] [])) _
      refine XS.iload X12.here hx rfl (hb hby at_34) rfl ?_
      show Steps p.tables e below (T12.setTop (mkF m 36 #[.val (.int p0), .val (.int p1), .val (.int p2), .val (.int p3), .val (.int (1 : Int32)), .val (.ref b9), .unset] [(.int (1 : Int32))])) _
      refine XS.iconst X12.here hx rfl (hb hby at_36) ?_
      show Steps p.tables e below (T12.setTop (mkF m 37 #[.val (.int p0), .val (.int p1), .val (.int p2), .val (.int p3), .val (.int (1 : Int32)), .val (.ref b9), .unset] [(.int (2 : Int32)), (.int (1 : Int32))])) _
      refine XS.icmpYes X12.here hx rfl (pc0 := 37) (pc' := 46) rfl (hb hby at_37) rfl (Jvm.Free.XT.ii_le_t (by decide)) (by decide) (by decide) ?_
      show Steps p.tables e below (T12.setTop (mkF m 46 #[.val (.int p0), .val (.int p1), .val (.int p2), .val (.int p3), .val (.int (1 : Int32)), .val (.ref b9), .unset] [])) _
      refine XS.aload X12.here hx rfl (hb hby at_46) rfl rfl ?_
      show Steps p.tables e below (T12.setTop (mkF m 48 #[.val (.int p0), .val (.int p1), .val (.int p2), .val (.int p3), .val (.int (1 : Int32)), .val (.ref b9), .unset] [(.ref b9)])) _
      refine st14 _ ?_
      show Steps p.tables e below (T14.setTop (mkF m 51 #[.val (.int p0), .val (.int p1), .val (.int p2), .val (.int p3), .val (.int (1 : Int32)), .val (.ref b9), .unset] [(.ref rb14_b2)])) _
      refine XS.astore X14.here hx rfl (hb hby at_51) rfl rfl (l' := #[.val (.int p0), .val (.int p1), .val (.int p2), .val (.int p3), .val (.int (1 : Int32)), .val (.ref b9), .val (.ref rb14_b2)]) rfl ?_
      show Steps p.tables e below (T14.setTop (mkF m 53 #[.val (.int p0), .val (.int p1), .val (.int p2), .val (.int p3), .val (.int (1 : Int32)), .val (.ref b9), .val (.ref rb14_b2)] [])) _
      refine XS.aload X14.here hx rfl (hb hby at_53) rfl rfl ?_
      show Steps p.tables e below (T14.setTop (mkF m 55 #[.val (.int p0), .val (.int p1), .val (.int p2), .val (.int p3), .val (.int (1 : Int32)), .val (.ref b9), .val (.ref rb14_b2)] [(.ref rb14_b2)])) _
      refine XS.aload X14.here hx rfl (hb hby at_55) rfl rfl ?_
      show Steps p.tables e below (T14.setTop (mkF m 57 #[.val (.int p0), .val (.int p1), .val (.int p2), .val (.int p3), .val (.int (1 : Int32)), .val (.ref b9), .val (.ref rb14_b2)] [(.ref b9), (.ref rb14_b2)])) _
      refine Jvm.RoadKit.acmp (g := (mkF m 57 #[.val (.int p0), .val (.int p1), .val (.int p2), .val (.int p3), .val (.int (1 : Int32)), .val (.ref b9), .val (.ref rb14_b2)] [(.ref b9), (.ref rb14_b2)])) X14 hx rfl rfl rfl (pc0 := 57) (pc' := 62) (same := false) rfl (hb hby at_57) rfl (decide_eq_false (fun q_ => (Ne.symm (Nat.ne_of_lt (Nat.lt_of_lt_of_le (V12).lt gz14_b2))) (Value.ref.inj q_))) (by decide) (by decide) ?_
      show Steps p.tables e below (T14.setTop (mkF m 62 #[.val (.int p0), .val (.int p1), .val (.int p2), .val (.int p3), .val (.int (1 : Int32)), .val (.ref b9), .val (.ref rb14_b2)] [])) _
      refine XS.aload X14.here hx rfl (hb hby at_62) rfl rfl ?_
      show Steps p.tables e below (T14.setTop (mkF m 64 #[.val (.int p0), .val (.int p1), .val (.int p2), .val (.int p3), .val (.int (1 : Int32)), .val (.ref b9), .val (.ref rb14_b2)] [(.ref rb14_b2)])) _
      refine X14.arraylength hx Ar16.1 (State.isArrayOf_alike hZ.alike Ar16.2.1) (g := (mkF m 64 #[.val (.int p0), .val (.int p1), .val (.int p2), .val (.int p3), .val (.int (1 : Int32)), .val (.ref b9), .val (.ref rb14_b2)] [(.ref rb14_b2)])) rfl rfl (hb hby at_64) _ ?_
      rw [len_of S16 Nn16]
      show Steps p.tables e below (T14.setTop (mkF m 65 #[.val (.int p0), .val (.int p1), .val (.int p2), .val (.int p3), .val (.int (1 : Int32)), .val (.ref b9), .val (.ref rb14_b2)] [(.int (1 : Int32))])) _
      refine XS.iload X14.here hx rfl (hb hby at_65) rfl ?_
      show Steps p.tables e below (T14.setTop (mkF m 67 #[.val (.int p0), .val (.int p1), .val (.int p2), .val (.int p3), .val (.int (1 : Int32)), .val (.ref b9), .val (.ref rb14_b2)] [(.int (1 : Int32)), (.int (1 : Int32))])) _
      refine XS.icmpYes X14.here hx rfl (pc0 := 67) (pc' := 72) rfl (hb hby at_67) rfl (Jvm.Free.XT.ii_eq_t (by decide)) (by decide) (by decide) ?_
      show Steps p.tables e below (T14.setTop (mkF m 72 #[.val (.int p0), .val (.int p1), .val (.int p2), .val (.int p3), .val (.int (1 : Int32)), .val (.ref b9), .val (.ref rb14_b2)] [])) _
      refine XS.iload X14.here hx rfl (hb hby at_72) rfl ?_
      show Steps p.tables e below (T14.setTop (mkF m 74 #[.val (.int p0), .val (.int p1), .val (.int p2), .val (.int p3), .val (.int (1 : Int32)), .val (.ref b9), .val (.ref rb14_b2)] [(.int (1 : Int32))])) _
      refine XS.ifNo X14.here hx rfl (hb hby at_74) rfl (Jvm.Free.XT.i0_le_f (by decide)) ?_
      show Steps p.tables e below (T14.setTop (mkF m 77 #[.val (.int p0), .val (.int p1), .val (.int p2), .val (.int p3), .val (.int (1 : Int32)), .val (.ref b9), .val (.ref rb14_b2)] [])) _
      refine XS.aload X14.here hx rfl (hb hby at_77) rfl rfl ?_
      show Steps p.tables e below (T14.setTop (mkF m 79 #[.val (.int p0), .val (.int p1), .val (.int p2), .val (.int p3), .val (.int (1 : Int32)), .val (.ref b9), .val (.ref rb14_b2)] [(.ref b9)])) _
      refine XS.aload X14.here hx rfl (hb hby at_79) rfl rfl ?_
      show Steps p.tables e below (T14.setTop (mkF m 81 #[.val (.int p0), .val (.int p1), .val (.int p2), .val (.int p3), .val (.int (1 : Int32)), .val (.ref b9), .val (.ref rb14_b2)] [(.ref rb14_b2), (.ref b9)])) _
      refine XS.iconst X14.here hx rfl (hb hby at_81) ?_
      show Steps p.tables e below (T14.setTop (mkF m 82 #[.val (.int p0), .val (.int p1), .val (.int p2), .val (.int p3), .val (.int (1 : Int32)), .val (.ref b9), .val (.ref rb14_b2)] [(.int (0 : Int32)), (.ref rb14_b2), (.ref b9)])) _
      refine XS.iloadN X14.here hx rfl (hb hby at_82) rfl ?_
      show Steps p.tables e below (T14.setTop (mkF m 83 #[.val (.int p0), .val (.int p1), .val (.int p2), .val (.int p3), .val (.int (1 : Int32)), .val (.ref b9), .val (.ref rb14_b2)] [(.int p1), (.int (0 : Int32)), (.ref rb14_b2), (.ref b9)])) _
      refine st18 _ ?_
      show Steps p.tables e below (T18.setTop (mkF m 86 #[.val (.int p0), .val (.int p1), .val (.int p2), .val (.int p3), .val (.int (1 : Int32)), .val (.ref b9), .val (.ref rb14_b2)] [(.int (1 : Int32))])) _
      refine XS.ifYes X18.here hx rfl (pc0 := 86) (pc' := 91) rfl (hb hby at_86) rfl (Jvm.Free.XT.i0_ne_t (by decide)) (by decide) (by decide) ?_
      show Steps p.tables e below (T18.setTop (mkF m 91 #[.val (.int p0), .val (.int p1), .val (.int p2), .val (.int p3), .val (.int (1 : Int32)), .val (.ref b9), .val (.ref rb14_b2)] [])) _
      refine XS.iload X18.here hx rfl (hb hby at_91) rfl ?_
      show Steps p.tables e below (T18.setTop (mkF m 93 #[.val (.int p0), .val (.int p1), .val (.int p2), .val (.int p3), .val (.int (1 : Int32)), .val (.ref b9), .val (.ref rb14_b2)] [(.int (1 : Int32))])) _
      refine XS.iconst X18.here hx rfl (hb hby at_93) ?_
      show Steps p.tables e below (T18.setTop (mkF m 94 #[.val (.int p0), .val (.int p1), .val (.int p2), .val (.int p3), .val (.int (1 : Int32)), .val (.ref b9), .val (.ref rb14_b2)] [(.int (1 : Int32)), (.int (1 : Int32))])) _
      refine XS.icmpYes X18.here hx rfl (pc0 := 94) (pc' := 111) rfl (hb hby at_94) rfl (Jvm.Free.XT.ii_le_t (by decide)) (by decide) (by decide) ?_
      show Steps p.tables e below (T18.setTop (mkF m 111 #[.val (.int p0), .val (.int p1), .val (.int p2), .val (.int p3), .val (.int (1 : Int32)), .val (.ref b9), .val (.ref rb14_b2)] [])) _
      refine XS.iload X18.here hx rfl (hb hby at_111) rfl ?_
      show Steps p.tables e below (T18.setTop (mkF m 113 #[.val (.int p0), .val (.int p1), .val (.int p2), .val (.int p3), .val (.int (1 : Int32)), .val (.ref b9), .val (.ref rb14_b2)] [(.int (1 : Int32))])) _
      refine XS.iconst X18.here hx rfl (hb hby at_113) ?_
      show Steps p.tables e below (T18.setTop (mkF m 114 #[.val (.int p0), .val (.int p1), .val (.int p2), .val (.int p3), .val (.int (1 : Int32)), .val (.ref b9), .val (.ref rb14_b2)] [(.int (2 : Int32)), (.int (1 : Int32))])) _
      refine XS.icmpYes X18.here hx rfl (pc0 := 114) (pc' := 131) rfl (hb hby at_114) rfl (Jvm.Free.XT.ii_le_t (by decide)) (by decide) (by decide) ?_
      show Steps p.tables e below (T18.setTop (mkF m 131 #[.val (.int p0), .val (.int p1), .val (.int p2), .val (.int p3), .val (.int (1 : Int32)), .val (.ref b9), .val (.ref rb14_b2)] [])) _
      refine XS.iconst X18.here hx rfl (hb hby at_131) ?_
      exact k
    obtain ⟨fs, hr, hrun, hended, hW, hsame⟩ := X18.leave (v := some (.int (1 : Int32))) (fun h => by rw [Bd.returns] at h; cases h)
    refine ⟨_, _, c19 _ ?_, hrun, hended, _, _, rfl, ?_, ⟨_, rfl⟩, hW, hsame.mono (by decide) (by decide)⟩
    · show Steps p.tables e below (T18.setTop (mkF m 132 #[.val (.int p0), .val (.int p1), .val (.int p2), .val (.int p3), .val (.int (1 : Int32)), .val (.ref b9), .val (.ref rb14_b2)] [(.int (1 : Int32))])) _
      exact retOut X18 hx Bd.returns rfl (Or.inl ⟨rfl, by simp, _, rfl⟩) (hb hby at_132) hr
    · show Q0 n0 _ T18.heap _
      rw [e18]
      exact ⟨rfl, by first | assumption | exact N0⟩
  · obtain rfl := q2
    obtain ⟨z20, hz20⟩ : ∃ z : UInt64, FP.i2d p1 = z := ⟨_, rfl⟩
    obtain ⟨z32, hz32⟩ : ∃ z : UInt64, FP.i2d p2 = z := ⟨_, rfl⟩
    obtain ⟨c48_z18, hc48_z18⟩ : ∃ z : UInt64, FP.dneg z20 = z := ⟨_, rfl⟩
    obtain ⟨c48_z18_2, hc48_z18_2⟩ : ∃ z : UInt64, FP.dneg z32 = z := ⟨_, rfl⟩
    obtain ⟨c83_z1, hc83_z1⟩ : ∃ z : UInt64, FP.i2d p1 = z := ⟨_, rfl⟩
    obtain ⟨c83_z9, hc83_z9⟩ : ∃ z : Int32, cmpValue (FP.dcmp z20 c83_z1) .l = z := ⟨_, rfl⟩
    obtain ⟨c83_z20, hc83_z20⟩ : ∃ z : UInt64, FP.dneg c83_z1 = z := ⟨_, rfl⟩
    obtain ⟨c83_z21, hc83_z21⟩ : ∃ z : Int32, cmpValue (FP.dcmp c48_z18 c83_z20) .l = z := ⟨_, rfl⟩
    obtain ⟨c83_z35, hc83_z35⟩ : ∃ z : UInt64, FP.ddiv FP.dconst1 c48_z18 = z := ⟨_, rfl⟩
    obtain ⟨c83_z37, hc83_z37⟩ : ∃ z : Int32, cmpValue (FP.dcmp c83_z35 FP.dconst0) .g = z := ⟨_, rfl⟩
    obtain ⟨c103_z1, hc103_z1⟩ : ∃ z : UInt64, FP.i2d p2 = z := ⟨_, rfl⟩
    obtain ⟨c103_z9, hc103_z9⟩ : ∃ z : Int32, cmpValue (FP.dcmp z32 c103_z1) .l = z := ⟨_, rfl⟩
    obtain ⟨c103_z20, hc103_z20⟩ : ∃ z : UInt64, FP.dneg c103_z1 = z := ⟨_, rfl⟩
    obtain ⟨c103_z21, hc103_z21⟩ : ∃ z : Int32, cmpValue (FP.dcmp c48_z18_2 c103_z20) .l = z := ⟨_, rfl⟩
    obtain ⟨c103_z35, hc103_z35⟩ : ∃ z : UInt64, FP.ddiv FP.dconst1 c48_z18_2 = z := ⟨_, rfl⟩
    obtain ⟨c103_z37, hc103_z37⟩ : ∃ z : Int32, cmpValue (FP.dcmp c103_z35 FP.dconst0) .g = z := ⟨_, rfl⟩
    obtain ⟨T20, h20, k20, X20, e20, E20, A20, st20⟩ := newP X0 hx hZ (hw _ (List.mem_of_getElem? (i := 0) rfl)) e0 (g := (mkF m 7 #[.val (.int p0), .val (.int p1), .val (.int p2), .val (.int p3), .val (.int (2 : Int32)), .unset, .unset] [(.int (2 : Int32))])) rfl (hb hby at_7) rfl (by decide) (cap := 2) (by decide) (by decide) (by decide) (by decide)
    obtain ⟨b20, g20⟩ : ∃ z, z = h0.size := ⟨_, rfl⟩
    rw [← g20] at A20 st20
    have gn20 : n0 ≤ b20 := Nat.le_trans Z0 (Nat.le_of_eq g20.symm)
    have gz20 : h0.size ≤ b20 := Nat.le_trans ((Keep.refl h0 [])).1 (Nat.le_of_eq g20.symm)
    have K21 : Keep h0 h20 [] := (Keep.refl h0 []).ext E20
    have V20 : Arv Z h20 b20 k20 .double (2 : Int32) [(.double (0 : UInt64)), (.double (0 : UInt64))] (.double (0 : UInt64)) := (Arv.new A20 (by decide)).pad (pad_rep [] (.double (0 : UInt64)) 2)
    obtain ⟨cl22, Ar22, q22, S22, Nn22, Ha22, G22⟩ := id V20
    have in22 : ¬ ((0 : Int32) < 0 ∨ cl22.slots.size ≤ ((0 : Int32)).toNatClampNeg) := inb_of S22 ⟨by decide, by decide⟩
    obtain ⟨T23, h23, X23, e23, W23, st23⟩ := stD X20 hx hZ e20 Ar22 (j := (0 : Int32)) in22 (g := (mkF m 21 #[.val (.int p0), .val (.int p1), .val (.int p2), .val (.int p3), .val (.int (2 : Int32)), .val (.ref b20), .unset] [(.double z20), (.int (0 : Int32)), (.ref b20)])) rfl rfl (hb hby at_21)
    have N23 := Fr.snoc X23 N0 gn20
    have K24 : Keep h0 h23 [] := K21.wr W23 (Or.inr gz20)
    have V23 : Arv Z h23 b20 k20 .double (2 : Int32) [(.double z20), (.double (0 : UInt64))] (.double (0 : UInt64)) := Arv.set Ar22 q22 S22 Nn22 Ha22 G22 rfl W23 0 rfl (show (0 : Nat) < 2 by decide)
    obtain ⟨cl25, Ar25, q25, S25, Nn25, Ha25, G25⟩ := id V23
    have in25 : ¬ ((1 : Int32) < 0 ∨ cl25.slots.size ≤ ((1 : Int32)).toNatClampNeg) := inb_of S25 ⟨by decide, by decide⟩
    obtain ⟨T26, h26, X26, e26, W26, st26⟩ := stD X23 hx hZ e23 Ar25 (j := (1 : Int32)) in25 (g := (mkF m 33 #[.val (.int p0), .val (.int p1), .val (.int p2), .val (.int p3), .val (.int (2 : Int32)), .val (.ref b20), .unset] [(.double z32), (.int (1 : Int32)), (.ref b20)])) rfl rfl (hb hby at_33)
    have N26 := Fr.snoc X26 N23 gn20
    have K27 : Keep h0 h26 [] := K24.wr W26 (Or.inr gz20)
    have V26 : Arv Z h26 b20 k20 .double (2 : Int32) [(.double z20), (.double z32)] (.double (0 : UInt64)) := Arv.set Ar25 q25 S25 Nn25 Ha25 G25 rfl W26 1 rfl (show (1 : Nat) < 2 by decide)
    obtain ⟨_, _, ⟨T28, L28, k28, n28⟩, -, X28, ⟨Lc28, hQ28, ql28, qy28, qz28⟩, st28⟩ := Jvm.LawKit.callS X26 hx (y := (⟨"com/example/credal_choice/credalchoice/model/Gambles", "negated", "([D)[D"⟩ : MethodName)) hown (mvT hZ (hw _ (List.mem_of_getElem? (i := 1) rfl))) (mvT hZ (hw _ (List.mem_of_getElem? (i := 2) rfl))) (mvT hZ (hw _ (List.mem_of_getElem? (i := 3) rfl))) (mvT hZ (hw _ (List.mem_of_getElem? (i := 4) rfl))) (by decide) (backOf (W := 0) (rm1_2 l Z a0 hw [] b20 k20 z20 z32 c48_z18 c48_z18_2 h26 n0 (Nat.le_trans (Nat.le_trans (Nat.le_trans Z0 E20.1) (Keep.of_wr W23).1) (Keep.of_wr W26).1) V26 hc48_z18 hc48_z18_2) hZ (hw _ (List.mem_of_getElem? (i := 4) rfl)) (hw _ (List.mem_of_getElem? (i := 3) rfl)) (by decide) (by decide)) (g := (mkF m 48 #[.val (.int p0), .val (.int p1), .val (.int p2), .val (.int p3), .val (.int (2 : Int32)), .val (.ref b20), .unset] [(.ref b20)])) rfl (by rw [hml]; rfl) (argsL := [(.ref b20)]) (rest := []) (lenOf pd_0 rfl) rfl (by show 2 * 0 + _ ≤ _; exact Nat.le_of_eq rfl) (hb hby at_48) (fun _ _ => ⟨rfl, e26, (by decide : 1 + 1 ≤ _), (by decide : 2 + 2 ≤ _)⟩)
    dsimp only [Pt.U, Pt.locs, Pt.cells, Pt.slots] at X28 ql28 qy28 qz28 st28 hQ28
    subst ql28 qy28 qz28
    obtain ⟨rb28_b2, kk28_k2, rfl, N28q, gz28_b2, K28q, Q28_0⟩ := hQ28
    have N28 := Fr.app N26 N28q
    have gn28_b2 : n0 ≤ rb28_b2 := Nat.le_trans (Nat.le_trans (Nat.le_trans (Nat.le_trans Z0 E20.1) (Keep.of_wr W23).1) (Keep.of_wr W26).1) gz28_b2
    have gy28_b2 : h0.size ≤ rb28_b2 := Nat.le_trans (K27).1 gz28_b2
    have K29 : Keep h0 T28.heap [] := Keep.trans K27 K28q all0
    obtain ⟨cl30, Ar30, -, S30, Nn30, -, -⟩ := id Q28_0
    obtain ⟨c83_br10, c83_br22, c83_nn35, c83_br38⟩ := pl hz20 hc48_z18 hc83_z1 hc83_z9 hc83_z20 hc83_z21 hc83_z35 hc83_z37
    have f31 := (V26.keep K28q nin0)
    obtain ⟨_, _, ⟨T32, L32, k32, n32⟩, -, X32, ⟨Lc32, hQ32, ql32, qy32, qz32⟩, st32⟩ := Jvm.LawKit.callS X28 hx (y := (⟨"com/example/credal_choice/credalchoice/model/GamblesNegatedPinLaw", "at", "([D[DII)Z"⟩ : MethodName)) hown (mvT hZ (hw _ (List.mem_of_getElem? (i := 5) rfl))) (mvT hZ (hw _ (List.mem_of_getElem? (i := 6) rfl))) (mvT hZ (hw _ (List.mem_of_getElem? (i := 7) rfl))) (mvT hZ (hw _ (List.mem_of_getElem? (i := 8) rfl))) (by decide) (backOf (W := 0) (rm2_2_0 l Z a0 hw [] b20 rb28_b2 p1 k20 z20 z32 kk28_k2 c48_z18 c48_z18_2 c83_z1 c83_z9 c83_z20 c83_z21 c83_z35 c83_z37 T28.heap n0 (Nat.le_trans (Nat.le_trans (Nat.le_trans (Nat.le_trans Z0 E20.1) (Keep.of_wr W23).1) (Keep.of_wr W26).1) K28q.1) f31 Q28_0 hc83_z1 hc83_z9 hc83_z20 hc83_z21 hc83_z35 hc83_z37 c83_br10 c83_br22 c83_nn35 c83_br38) hZ (hw _ (List.mem_of_getElem? (i := 8) rfl)) (hw _ (List.mem_of_getElem? (i := 7) rfl)) (by decide) (by decide)) (g := (mkF m 83 #[.val (.int p0), .val (.int p1), .val (.int p2), .val (.int p3), .val (.int (2 : Int32)), .val (.ref b20), .val (.ref rb28_b2)] [(.int p1), (.int (0 : Int32)), (.ref rb28_b2), (.ref b20)])) rfl (by rw [hml]; rfl) (argsL := [(.ref b20), (.ref rb28_b2), (.int (0 : Int32)), (.int p1)]) (rest := []) (lenOf pd_1 rfl) rfl (by show 2 * 0 + _ ≤ _; exact Nat.le_of_eq rfl) (hb hby at_83) (fun _ _ => ⟨rfl, rfl, (by decide : 2 + 0 ≤ _), (by decide : 4 + 0 ≤ _)⟩)
    dsimp only [Pt.U, Pt.locs, Pt.cells, Pt.slots] at X32 ql32 qy32 qz32 st32 hQ32
    subst ql32 qy32 qz32
    obtain ⟨rfl, N32q, e32⟩ := hQ32
    have N32 := Fr.app N28 N32q
    obtain ⟨c103_br10, c103_br22, c103_nn35, c103_br38⟩ := pl hz32 hc48_z18_2 hc103_z1 hc103_z9 hc103_z20 hc103_z21 hc103_z35 hc103_z37
    obtain ⟨_, _, ⟨T33, L33, k33, n33⟩, -, X33, ⟨Lc33, hQ33, ql33, qy33, qz33⟩, st33⟩ := Jvm.LawKit.callS X32 hx (y := (⟨"com/example/credal_choice/credalchoice/model/GamblesNegatedPinLaw", "at", "([D[DII)Z"⟩ : MethodName)) hown (mvT hZ (hw _ (List.mem_of_getElem? (i := 5) rfl))) (mvT hZ (hw _ (List.mem_of_getElem? (i := 6) rfl))) (mvT hZ (hw _ (List.mem_of_getElem? (i := 7) rfl))) (mvT hZ (hw _ (List.mem_of_getElem? (i := 8) rfl))) (by decide) (backOf (W := 0) (rm2_2_1 l Z a0 hw [] b20 rb28_b2 p2 k20 z20 z32 kk28_k2 c48_z18 c48_z18_2 c103_z1 c103_z9 c103_z20 c103_z21 c103_z35 c103_z37 T28.heap n0 (Nat.le_trans (Nat.le_trans (Nat.le_trans (Nat.le_trans Z0 E20.1) (Keep.of_wr W23).1) (Keep.of_wr W26).1) K28q.1) f31 Q28_0 hc103_z1 hc103_z9 hc103_z20 hc103_z21 hc103_z35 hc103_z37 c103_br10 c103_br22 c103_nn35 c103_br38) hZ (hw _ (List.mem_of_getElem? (i := 8) rfl)) (hw _ (List.mem_of_getElem? (i := 7) rfl)) (by decide) (by decide)) (g := (mkF m 103 #[.val (.int p0), .val (.int p1), .val (.int p2), .val (.int p3), .val (.int (2 : Int32)), .val (.ref b20), .val (.ref rb28_b2)] [(.int p2), (.int (1 : Int32)), (.ref rb28_b2), (.ref b20)])) rfl (by rw [hml]; rfl) (argsL := [(.ref b20), (.ref rb28_b2), (.int (1 : Int32)), (.int p2)]) (rest := []) (lenOf pd_1 rfl) rfl (by show 2 * 0 + _ ≤ _; exact Nat.le_of_eq rfl) (hb hby at_103) (fun _ _ => ⟨rfl, e32, (by decide : 2 + 0 ≤ _), (by decide : 4 + 0 ≤ _)⟩)
    dsimp only [Pt.U, Pt.locs, Pt.cells, Pt.slots] at X33 ql33 qy33 qz33 st33 hQ33
    subst ql33 qy33 qz33
    obtain ⟨rfl, N33q, e33⟩ := hQ33
    have N33 := Fr.app N32 N33q
    have c34 : ∀ t, Steps p.tables e below (T33.setTop (mkF m 132 #[.val (.int p0), .val (.int p1), .val (.int p2), .val (.int p3), .val (.int (2 : Int32)), .val (.ref b20), .val (.ref rb28_b2)] [(.int (1 : Int32))])) t → Steps p.tables e below (s₁.setTop (entryFrame m #[(.int p0), (.int p1), (.int p2), (.int p3)] maxLocals)) t := by
      intro t k
      refine c1 t ?_
      show Steps p.tables e below (s₁.setTop (mkF m 3 #[.val (.int p0), .val (.int p1), .val (.int p2), .val (.int p3), .unset, .unset, .unset] [(.int (2 : Int32))])) _
      refine XS.istore X0.here hx rfl (hb hby at_3) rfl (l' := #[.val (.int p0), .val (.int p1), .val (.int p2), .val (.int p3), .val (.int (2 : Int32)), .unset, .unset]) rfl ?_
      show Steps p.tables e below (s₁.setTop (mkF m 5 #[.val (.int p0), .val (.int p1), .val (.int p2), .val (.int p3), .val (.int (2 : Int32)), .unset, .unset] [])) _
      refine XS.iload X0.here hx rfl (hb hby at_5) rfl ?_
      show Steps p.tables e below (s₁.setTop (mkF m 7 #[.val (.int p0), .val (.int p1), .val (.int p2), .val (.int p3), .val (.int (2 : Int32)), .unset, .unset] [(.int (2 : Int32))])) _
      refine st20 _ ?_
      show Steps p.tables e below (T20.setTop (mkF m 9 #[.val (.int p0), .val (.int p1), .val (.int p2), .val (.int p3), .val (.int (2 : Int32)), .unset, .unset] [(.ref b20)])) _
      refine XS.astore X20.here hx rfl (hb hby at_9) rfl rfl (l' := #[.val (.int p0), .val (.int p1), .val (.int p2), .val (.int p3), .val (.int (2 : Int32)), .val (.ref b20), .unset]) rfl ?_
      show Steps p.tables e below (T20.setTop (mkF m 11 #[.val (.int p0), .val (.int p1), .val (.int p2), .val (.int p3), .val (.int (2 : Int32)), .val (.ref b20), .unset] [])) _
      refine XS.iload X20.here hx rfl (hb hby at_11) rfl ?_
      show Steps p.tables e below (T20.setTop (mkF m 13 #[.val (.int p0), .val (.int p1), .val (.int p2), .val (.int p3), .val (.int (2 : Int32)), .val (.ref b20), .unset] [(.int (2 : Int32))])) _
      refine XS.ifNo X20.here hx rfl (hb hby at_13) rfl (Jvm.Free.XT.i0_le_f (by decide)) ?_
      show Steps p.tables e below (T20.setTop (mkF m 16 #[.val (.int p0), .val (.int p1), .val (.int p2), .val (.int p3), .val (.int (2 : Int32)), .val (.ref b20), .unset] [])) _
      refine XS.aload X20.here hx rfl (hb hby at_16) rfl rfl ?_
      show Steps p.tables e below (T20.setTop (mkF m 18 #[.val (.int p0), .val (.int p1), .val (.int p2), .val (.int p3), .val (.int (2 : Int32)), .val (.ref b20), .unset] [(.ref b20)])) _
      refine XS.iconst X20.here hx rfl (hb hby at_18) ?_
      show Steps p.tables e below (T20.setTop (mkF m 19 #[.val (.int p0), .val (.int p1), .val (.int p2), .val (.int p3), .val (.int (2 : Int32)), .val (.ref b20), .unset] [(.int (0 : Int32)), (.ref b20)])) _
      refine XS.iloadN X20.here hx rfl (hb hby at_19) rfl ?_
      show Steps p.tables e below (T20.setTop (mkF m 20 #[.val (.int p0), .val (.int p1), .val (.int p2), .val (.int p3), .val (.int (2 : Int32)), .val (.ref b20), .unset] [(.int p1), (.int (0 : Int32)), (.ref b20)])) _
      refine XS.i2dS X20.here hx rfl (hb hby at_20) rfl hz20 ?_
      show Steps p.tables e below (T20.setTop (mkF m 21 #[.val (.int p0), .val (.int p1), .val (.int p2), .val (.int p3), .val (.int (2 : Int32)), .val (.ref b20), .unset] [(.double z20), (.int (0 : Int32)), (.ref b20)])) _
      refine st23 _ ?_
      show Steps p.tables e below (T23.setTop (mkF m 22 #[.val (.int p0), .val (.int p1), .val (.int p2), .val (.int p3), .val (.int (2 : Int32)), .val (.ref b20), .unset] [])) _
      refine XS.iload X23.here hx rfl (hb hby at_22) rfl ?_
      show Steps p.tables e below (T23.setTop (mkF m 24 #[.val (.int p0), .val (.int p1), .val (.int p2), .val (.int p3), .val (.int (2 : Int32)), .val (.ref b20), .unset] [(.int (2 : Int32))])) _
      refine XS.iconst X23.here hx rfl (hb hby at_24) ?_
      show Steps p.tables e below (T23.setTop (mkF m 25 #[.val (.int p0), .val (.int p1), .val (.int p2), .val (.int p3), .val (.int (2 : Int32)), .val (.ref b20), .unset] [(.int (1 : Int32)), (.int (2 : Int32))])) _
      refine XS.icmpNo X23.here hx rfl (hb hby at_25) rfl (Jvm.Free.XT.ii_le_f (by decide)) ?_
      show Steps p.tables e below (T23.setTop (mkF m 28 #[.val (.int p0), .val (.int p1), .val (.int p2), .val (.int p3), .val (.int (2 : Int32)), .val (.ref b20), .unset] [])) _
      refine XS.aload X23.here hx rfl (hb hby at_28) rfl rfl ?_
      show Steps p.tables e below (T23.setTop (mkF m 30 #[.val (.int p0), .val (.int p1), .val (.int p2), .val (.int p3), .val (.int (2 : Int32)), .val (.ref b20), .unset] [(.ref b20)])) _
      refine XS.iconst X23.here hx rfl (hb hby at_30) ?_
      show Steps p.tables e below (T23.setTop (mkF m 31 #[.val (.int p0), .val (.int p1), .val (.int p2), .val (.int p3), .val (.int (2 : Int32)), .val (.ref b20), .unset] [(.int (1 : Int32)), (.ref b20)])) _
      refine XS.iloadN X23.here hx rfl (hb hby at_31) rfl ?_
      show Steps p.tables e below (T23.setTop (mkF m 32 #[.val (.int p0), .val (.int p1), .val (.int p2), .val (.int p3), .val (.int (2 : Int32)), .val (.ref b20), .unset] [(.int p2), (.int (1 : Int32)), (.ref b20)])) _
      refine XS.i2dS X23.here hx rfl (hb hby at_32) rfl hz32 ?_
      show Steps p.tables e below (T23.setTop (mkF m 33 #[.val (.int p0), .val (.int p1), .val (.int p2), .val (.int p3), .val (.int (2 : Int32)), .val (.ref b20), .unset] [(.double z32), (.int (1 : Int32)), (.ref b20)])) _
      refine st26 _ ?_
      show Steps p.tables e below (T26.setTop (mkF m 34 #[.val (.int p0), .val (.int p1), .val (.int p2), .val (.int p3), .val (.int (2 : Int32)), .val (.ref b20), .unset] [])) _
      refine XS.iload X26.here hx rfl (hb hby at_34) rfl ?_
      show Steps p.tables e below (T26.setTop (mkF m 36 #[.val (.int p0), .val (.int p1), .val (.int p2), .val (.int p3), .val (.int (2 : Int32)), .val (.ref b20), .unset] [(.int (2 : Int32))])) _
      refine XS.iconst X26.here hx rfl (hb hby at_36) ?_
      show Steps p.tables e below (T26.setTop (mkF m 37 #[.val (.int p0), .val (.int p1), .val (.int p2), .val (.int p3), .val (.int (2 : Int32)), .val (.ref b20), .unset] [(.int (2 : Int32)), (.int (2 : Int32))])) _
      refine XS.icmpYes X26.here hx rfl (pc0 := 37) (pc' := 46) rfl (hb hby at_37) rfl (Jvm.Free.XT.ii_le_t (by decide)) (by decide) (by decide) ?_
      show Steps p.tables e below (T26.setTop (mkF m 46 #[.val (.int p0), .val (.int p1), .val (.int p2), .val (.int p3), .val (.int (2 : Int32)), .val (.ref b20), .unset] [])) _
      refine XS.aload X26.here hx rfl (hb hby at_46) rfl rfl ?_
      show Steps p.tables e below (T26.setTop (mkF m 48 #[.val (.int p0), .val (.int p1), .val (.int p2), .val (.int p3), .val (.int (2 : Int32)), .val (.ref b20), .unset] [(.ref b20)])) _
      refine st28 _ ?_
      show Steps p.tables e below (T28.setTop (mkF m 51 #[.val (.int p0), .val (.int p1), .val (.int p2), .val (.int p3), .val (.int (2 : Int32)), .val (.ref b20), .unset] [(.ref rb28_b2)])) _
      refine XS.astore X28.here hx rfl (hb hby at_51) rfl rfl (l' := #[.val (.int p0), .val (.int p1), .val (.int p2), .val (.int p3), .val (.int (2 : Int32)), .val (.ref b20), .val (.ref rb28_b2)]) rfl ?_
      show Steps p.tables e below (T28.setTop (mkF m 53 #[.val (.int p0), .val (.int p1), .val (.int p2), .val (.int p3), .val (.int (2 : Int32)), .val (.ref b20), .val (.ref rb28_b2)] [])) _
      refine XS.aload X28.here hx rfl (hb hby at_53) rfl rfl ?_
      show Steps p.tables e below (T28.setTop (mkF m 55 #[.val (.int p0), .val (.int p1), .val (.int p2), .val (.int p3), .val (.int (2 : Int32)), .val (.ref b20), .val (.ref rb28_b2)] [(.ref rb28_b2)])) _
      refine XS.aload X28.here hx rfl (hb hby at_55) rfl rfl ?_
      show Steps p.tables e below (T28.setTop (mkF m 57 #[.val (.int p0), .val (.int p1), .val (.int p2), .val (.int p3), .val (.int (2 : Int32)), .val (.ref b20), .val (.ref rb28_b2)] [(.ref b20), (.ref rb28_b2)])) _
      refine Jvm.RoadKit.acmp (g := (mkF m 57 #[.val (.int p0), .val (.int p1), .val (.int p2), .val (.int p3), .val (.int (2 : Int32)), .val (.ref b20), .val (.ref rb28_b2)] [(.ref b20), (.ref rb28_b2)])) X28 hx rfl rfl rfl (pc0 := 57) (pc' := 62) (same := false) rfl (hb hby at_57) rfl (decide_eq_false (fun q_ => (Ne.symm (Nat.ne_of_lt (Nat.lt_of_lt_of_le (V26).lt gz28_b2))) (Value.ref.inj q_))) (by decide) (by decide) ?_
      show Steps p.tables e below (T28.setTop (mkF m 62 #[.val (.int p0), .val (.int p1), .val (.int p2), .val (.int p3), .val (.int (2 : Int32)), .val (.ref b20), .val (.ref rb28_b2)] [])) _
      refine XS.aload X28.here hx rfl (hb hby at_62) rfl rfl ?_
      show Steps p.tables e below (T28.setTop (mkF m 64 #[.val (.int p0), .val (.int p1), .val (.int p2), .val (.int p3), .val (.int (2 : Int32)), .val (.ref b20), .val (.ref rb28_b2)] [(.ref rb28_b2)])) _
      refine X28.arraylength hx Ar30.1 (State.isArrayOf_alike hZ.alike Ar30.2.1) (g := (mkF m 64 #[.val (.int p0), .val (.int p1), .val (.int p2), .val (.int p3), .val (.int (2 : Int32)), .val (.ref b20), .val (.ref rb28_b2)] [(.ref rb28_b2)])) rfl rfl (hb hby at_64) _ ?_
      rw [len_of S30 Nn30]
      show Steps p.tables e below (T28.setTop (mkF m 65 #[.val (.int p0), .val (.int p1), .val (.int p2), .val (.int p3), .val (.int (2 : Int32)), .val (.ref b20), .val (.ref rb28_b2)] [(.int (2 : Int32))])) _
      refine XS.iload X28.here hx rfl (hb hby at_65) rfl ?_
      show Steps p.tables e below (T28.setTop (mkF m 67 #[.val (.int p0), .val (.int p1), .val (.int p2), .val (.int p3), .val (.int (2 : Int32)), .val (.ref b20), .val (.ref rb28_b2)] [(.int (2 : Int32)), (.int (2 : Int32))])) _
      refine XS.icmpYes X28.here hx rfl (pc0 := 67) (pc' := 72) rfl (hb hby at_67) rfl (Jvm.Free.XT.ii_eq_t (by decide)) (by decide) (by decide) ?_
      show Steps p.tables e below (T28.setTop (mkF m 72 #[.val (.int p0), .val (.int p1), .val (.int p2), .val (.int p3), .val (.int (2 : Int32)), .val (.ref b20), .val (.ref rb28_b2)] [])) _
      refine XS.iload X28.here hx rfl (hb hby at_72) rfl ?_
      show Steps p.tables e below (T28.setTop (mkF m 74 #[.val (.int p0), .val (.int p1), .val (.int p2), .val (.int p3), .val (.int (2 : Int32)), .val (.ref b20), .val (.ref rb28_b2)] [(.int (2 : Int32))])) _
      refine XS.ifNo X28.here hx rfl (hb hby at_74) rfl (Jvm.Free.XT.i0_le_f (by decide)) ?_
      show Steps p.tables e below (T28.setTop (mkF m 77 #[.val (.int p0), .val (.int p1), .val (.int p2), .val (.int p3), .val (.int (2 : Int32)), .val (.ref b20), .val (.ref rb28_b2)] [])) _
      refine XS.aload X28.here hx rfl (hb hby at_77) rfl rfl ?_
      show Steps p.tables e below (T28.setTop (mkF m 79 #[.val (.int p0), .val (.int p1), .val (.int p2), .val (.int p3), .val (.int (2 : Int32)), .val (.ref b20), .val (.ref rb28_b2)] [(.ref b20)])) _
      refine XS.aload X28.here hx rfl (hb hby at_79) rfl rfl ?_
      show Steps p.tables e below (T28.setTop (mkF m 81 #[.val (.int p0), .val (.int p1), .val (.int p2), .val (.int p3), .val (.int (2 : Int32)), .val (.ref b20), .val (.ref rb28_b2)] [(.ref rb28_b2), (.ref b20)])) _
      refine XS.iconst X28.here hx rfl (hb hby at_81) ?_
      show Steps p.tables e below (T28.setTop (mkF m 82 #[.val (.int p0), .val (.int p1), .val (.int p2), .val (.int p3), .val (.int (2 : Int32)), .val (.ref b20), .val (.ref rb28_b2)] [(.int (0 : Int32)), (.ref rb28_b2), (.ref b20)])) _
      refine XS.iloadN X28.here hx rfl (hb hby at_82) rfl ?_
      show Steps p.tables e below (T28.setTop (mkF m 83 #[.val (.int p0), .val (.int p1), .val (.int p2), .val (.int p3), .val (.int (2 : Int32)), .val (.ref b20), .val (.ref rb28_b2)] [(.int p1), (.int (0 : Int32)), (.ref rb28_b2), (.ref b20)])) _
      refine st32 _ ?_
      show Steps p.tables e below (T32.setTop (mkF m 86 #[.val (.int p0), .val (.int p1), .val (.int p2), .val (.int p3), .val (.int (2 : Int32)), .val (.ref b20), .val (.ref rb28_b2)] [(.int (1 : Int32))])) _
      refine XS.ifYes X32.here hx rfl (pc0 := 86) (pc' := 91) rfl (hb hby at_86) rfl (Jvm.Free.XT.i0_ne_t (by decide)) (by decide) (by decide) ?_
      show Steps p.tables e below (T32.setTop (mkF m 91 #[.val (.int p0), .val (.int p1), .val (.int p2), .val (.int p3), .val (.int (2 : Int32)), .val (.ref b20), .val (.ref rb28_b2)] [])) _
      refine XS.iload X32.here hx rfl (hb hby at_91) rfl ?_
      show Steps p.tables e below (T32.setTop (mkF m 93 #[.val (.int p0), .val (.int p1), .val (.int p2), .val (.int p3), .val (.int (2 : Int32)), .val (.ref b20), .val (.ref rb28_b2)] [(.int (2 : Int32))])) _
      refine XS.iconst X32.here hx rfl (hb hby at_93) ?_
      show Steps p.tables e below (T32.setTop (mkF m 94 #[.val (.int p0), .val (.int p1), .val (.int p2), .val (.int p3), .val (.int (2 : Int32)), .val (.ref b20), .val (.ref rb28_b2)] [(.int (1 : Int32)), (.int (2 : Int32))])) _
      refine XS.icmpNo X32.here hx rfl (hb hby at_94) rfl (Jvm.Free.XT.ii_le_f (by decide)) ?_
      show Steps p.tables e below (T32.setTop (mkF m 97 #[.val (.int p0), .val (.int p1), .val (.int p2), .val (.int p3), .val (.int (2 : Int32)), .val (.ref b20), .val (.ref rb28_b2)] [])) _
      refine XS.aload X32.here hx rfl (hb hby at_97) rfl rfl ?_
      show Steps p.tables e below (T32.setTop (mkF m 99 #[.val (.int p0), .val (.int p1), .val (.int p2), .val (.int p3), .val (.int (2 : Int32)), .val (.ref b20), .val (.ref rb28_b2)] [(.ref b20)])) _
      refine XS.aload X32.here hx rfl (hb hby at_99) rfl rfl ?_
      show Steps p.tables e below (T32.setTop (mkF m 101 #[.val (.int p0), .val (.int p1), .val (.int p2), .val (.int p3), .val (.int (2 : Int32)), .val (.ref b20), .val (.ref rb28_b2)] [(.ref rb28_b2), (.ref b20)])) _
      refine XS.iconst X32.here hx rfl (hb hby at_101) ?_
      show Steps p.tables e below (T32.setTop (mkF m 102 #[.val (.int p0), .val (.int p1), .val (.int p2), .val (.int p3), .val (.int (2 : Int32)), .val (.ref b20), .val (.ref rb28_b2)] [(.int (1 : Int32)), (.ref rb28_b2), (.ref b20)])) _
      refine XS.iloadN X32.here hx rfl (hb hby at_102) rfl ?_
      show Steps p.tables e below (T32.setTop (mkF m 103 #[.val (.int p0), .val (.int p1), .val (.int p2), .val (.int p3), .val (.int (2 : Int32)), .val (.ref b20), .val (.ref rb28_b2)] [(.int p2), (.int (1 : Int32)), (.ref rb28_b2), (.ref b20)])) _
      refine st33 _ ?_
      show Steps p.tables e below (T33.setTop (mkF m 106 #[.val (.int p0), .val (.int p1), .val (.int p2), .val (.int p3), .val (.int (2 : Int32)), .val (.ref b20), .val (.ref rb28_b2)] [(.int (1 : Int32))])) _
      refine XS.ifYes X33.here hx rfl (pc0 := 106) (pc' := 111) rfl (hb hby at_106) rfl (Jvm.Free.XT.i0_ne_t (by decide)) (by decide) (by decide) ?_
      show Steps p.tables e below (T33.setTop (mkF m 111 #[.val (.int p0), .val (.int p1), .val (.int p2), .val (.int p3), .val (.int (2 : Int32)), .val (.ref b20), .val (.ref rb28_b2)] [])) _
      refine XS.iload X33.here hx rfl (hb hby at_111) rfl ?_
      show Steps p.tables e below (T33.setTop (mkF m 113 #[.val (.int p0), .val (.int p1), .val (.int p2), .val (.int p3), .val (.int (2 : Int32)), .val (.ref b20), .val (.ref rb28_b2)] [(.int (2 : Int32))])) _
      refine XS.iconst X33.here hx rfl (hb hby at_113) ?_
      show Steps p.tables e below (T33.setTop (mkF m 114 #[.val (.int p0), .val (.int p1), .val (.int p2), .val (.int p3), .val (.int (2 : Int32)), .val (.ref b20), .val (.ref rb28_b2)] [(.int (2 : Int32)), (.int (2 : Int32))])) _
      refine XS.icmpYes X33.here hx rfl (pc0 := 114) (pc' := 131) rfl (hb hby at_114) rfl (Jvm.Free.XT.ii_le_t (by decide)) (by decide) (by decide) ?_
      show Steps p.tables e below (T33.setTop (mkF m 131 #[.val (.int p0), .val (.int p1), .val (.int p2), .val (.int p3), .val (.int (2 : Int32)), .val (.ref b20), .val (.ref rb28_b2)] [])) _
      refine XS.iconst X33.here hx rfl (hb hby at_131) ?_
      exact k
    obtain ⟨fs, hr, hrun, hended, hW, hsame⟩ := X33.leave (v := some (.int (1 : Int32))) (fun h => by rw [Bd.returns] at h; cases h)
    refine ⟨_, _, c34 _ ?_, hrun, hended, _, _, rfl, ?_, ⟨_, rfl⟩, hW, hsame.mono (by decide) (by decide)⟩
    · show Steps p.tables e below (T33.setTop (mkF m 132 #[.val (.int p0), .val (.int p1), .val (.int p2), .val (.int p3), .val (.int (2 : Int32)), .val (.ref b20), .val (.ref rb28_b2)] [(.int (1 : Int32))])) _
      exact retOut X33 hx Bd.returns rfl (Or.inl ⟨rfl, by simp, _, rfl⟩) (hb hby at_132) hr
    · show Q0 n0 _ T33.heap _
      rw [e33]
      exact ⟨rfl, by first | assumption | exact N0⟩
  · obtain rfl := q2
    obtain ⟨z20, hz20⟩ : ∃ z : UInt64, FP.i2d p1 = z := ⟨_, rfl⟩
    obtain ⟨z32, hz32⟩ : ∃ z : UInt64, FP.i2d p2 = z := ⟨_, rfl⟩
    obtain ⟨z44, hz44⟩ : ∃ z : UInt64, FP.i2d p3 = z := ⟨_, rfl⟩
    obtain ⟨c48_z18, hc48_z18⟩ : ∃ z : UInt64, FP.dneg z20 = z := ⟨_, rfl⟩
    obtain ⟨c48_z18_2, hc48_z18_2⟩ : ∃ z : UInt64, FP.dneg z32 = z := ⟨_, rfl⟩
    obtain ⟨c48_z18_3, hc48_z18_3⟩ : ∃ z : UInt64, FP.dneg z44 = z := ⟨_, rfl⟩
    obtain ⟨c83_z1, hc83_z1⟩ : ∃ z : UInt64, FP.i2d p1 = z := ⟨_, rfl⟩
    obtain ⟨c83_z9, hc83_z9⟩ : ∃ z : Int32, cmpValue (FP.dcmp z20 c83_z1) .l = z := ⟨_, rfl⟩
    obtain ⟨c83_z20, hc83_z20⟩ : ∃ z : UInt64, FP.dneg c83_z1 = z := ⟨_, rfl⟩
    obtain ⟨c83_z21, hc83_z21⟩ : ∃ z : Int32, cmpValue (FP.dcmp c48_z18 c83_z20) .l = z := ⟨_, rfl⟩
    obtain ⟨c83_z35, hc83_z35⟩ : ∃ z : UInt64, FP.ddiv FP.dconst1 c48_z18 = z := ⟨_, rfl⟩
    obtain ⟨c83_z37, hc83_z37⟩ : ∃ z : Int32, cmpValue (FP.dcmp c83_z35 FP.dconst0) .g = z := ⟨_, rfl⟩
    obtain ⟨c103_z1, hc103_z1⟩ : ∃ z : UInt64, FP.i2d p2 = z := ⟨_, rfl⟩
    obtain ⟨c103_z9, hc103_z9⟩ : ∃ z : Int32, cmpValue (FP.dcmp z32 c103_z1) .l = z := ⟨_, rfl⟩
    obtain ⟨c103_z20, hc103_z20⟩ : ∃ z : UInt64, FP.dneg c103_z1 = z := ⟨_, rfl⟩
    obtain ⟨c103_z21, hc103_z21⟩ : ∃ z : Int32, cmpValue (FP.dcmp c48_z18_2 c103_z20) .l = z := ⟨_, rfl⟩
    obtain ⟨c103_z35, hc103_z35⟩ : ∃ z : UInt64, FP.ddiv FP.dconst1 c48_z18_2 = z := ⟨_, rfl⟩
    obtain ⟨c103_z37, hc103_z37⟩ : ∃ z : Int32, cmpValue (FP.dcmp c103_z35 FP.dconst0) .g = z := ⟨_, rfl⟩
    obtain ⟨c123_z1, hc123_z1⟩ : ∃ z : UInt64, FP.i2d p3 = z := ⟨_, rfl⟩
    obtain ⟨c123_z9, hc123_z9⟩ : ∃ z : Int32, cmpValue (FP.dcmp z44 c123_z1) .l = z := ⟨_, rfl⟩
    obtain ⟨c123_z20, hc123_z20⟩ : ∃ z : UInt64, FP.dneg c123_z1 = z := ⟨_, rfl⟩
    obtain ⟨c123_z21, hc123_z21⟩ : ∃ z : Int32, cmpValue (FP.dcmp c48_z18_3 c123_z20) .l = z := ⟨_, rfl⟩
    obtain ⟨c123_z35, hc123_z35⟩ : ∃ z : UInt64, FP.ddiv FP.dconst1 c48_z18_3 = z := ⟨_, rfl⟩
    obtain ⟨c123_z37, hc123_z37⟩ : ∃ z : Int32, cmpValue (FP.dcmp c123_z35 FP.dconst0) .g = z := ⟨_, rfl⟩
    obtain ⟨T35, h35, k35, X35, e35, E35, A35, st35⟩ := newP X0 hx hZ (hw _ (List.mem_of_getElem? (i := 0) rfl)) e0 (g := (mkF m 7 #[.val (.int p0), .val (.int p1), .val (.int p2), .val (.int p3), .val (.int (3 : Int32)), .unset, .unset] [(.int (3 : Int32))])) rfl (hb hby at_7) rfl (by decide) (cap := 3) (by decide) (by decide) (by decide) (by decide)
    obtain ⟨b35, g35⟩ : ∃ z, z = h0.size := ⟨_, rfl⟩
    rw [← g35] at A35 st35
    have gn35 : n0 ≤ b35 := Nat.le_trans Z0 (Nat.le_of_eq g35.symm)
    have gz35 : h0.size ≤ b35 := Nat.le_trans ((Keep.refl h0 [])).1 (Nat.le_of_eq g35.symm)
    have K36 : Keep h0 h35 [] := (Keep.refl h0 []).ext E35
    have V35 : Arv Z h35 b35 k35 .double (3 : Int32) [(.double (0 : UInt64)), (.double (0 : UInt64)), (.double (0 : UInt64))] (.double (0 : UInt64)) := (Arv.new A35 (by decide)).pad (pad_rep [] (.double (0 : UInt64)) 3)
    obtain ⟨cl37, Ar37, q37, S37, Nn37, Ha37, G37⟩ := id V35
    have in37 : ¬ ((0 : Int32) < 0 ∨ cl37.slots.size ≤ ((0 : Int32)).toNatClampNeg) := inb_of S37 ⟨by decide, by decide⟩
    obtain ⟨T38, h38, X38, e38, W38, st38⟩ := stD X35 hx hZ e35 Ar37 (j := (0 : Int32)) in37 (g := (mkF m 21 #[.val (.int p0), .val (.int p1), .val (.int p2), .val (.int p3), .val (.int (3 : Int32)), .val (.ref b35), .unset] [(.double z20), (.int (0 : Int32)), (.ref b35)])) rfl rfl (hb hby at_21)
    have N38 := Fr.snoc X38 N0 gn35
    have K39 : Keep h0 h38 [] := K36.wr W38 (Or.inr gz35)
    have V38 : Arv Z h38 b35 k35 .double (3 : Int32) [(.double z20), (.double (0 : UInt64)), (.double (0 : UInt64))] (.double (0 : UInt64)) := Arv.set Ar37 q37 S37 Nn37 Ha37 G37 rfl W38 0 rfl (show (0 : Nat) < 3 by decide)
    obtain ⟨cl40, Ar40, q40, S40, Nn40, Ha40, G40⟩ := id V38
    have in40 : ¬ ((1 : Int32) < 0 ∨ cl40.slots.size ≤ ((1 : Int32)).toNatClampNeg) := inb_of S40 ⟨by decide, by decide⟩
    obtain ⟨T41, h41, X41, e41, W41, st41⟩ := stD X38 hx hZ e38 Ar40 (j := (1 : Int32)) in40 (g := (mkF m 33 #[.val (.int p0), .val (.int p1), .val (.int p2), .val (.int p3), .val (.int (3 : Int32)), .val (.ref b35), .unset] [(.double z32), (.int (1 : Int32)), (.ref b35)])) rfl rfl (hb hby at_33)
    have N41 := Fr.snoc X41 N38 gn35
    have K42 : Keep h0 h41 [] := K39.wr W41 (Or.inr gz35)
    have V41 : Arv Z h41 b35 k35 .double (3 : Int32) [(.double z20), (.double z32), (.double (0 : UInt64))] (.double (0 : UInt64)) := Arv.set Ar40 q40 S40 Nn40 Ha40 G40 rfl W41 1 rfl (show (1 : Nat) < 3 by decide)
    obtain ⟨cl43, Ar43, q43, S43, Nn43, Ha43, G43⟩ := id V41
    have in43 : ¬ ((2 : Int32) < 0 ∨ cl43.slots.size ≤ ((2 : Int32)).toNatClampNeg) := inb_of S43 ⟨by decide, by decide⟩
    obtain ⟨T44, h44, X44, e44, W44, st44⟩ := stD X41 hx hZ e41 Ar43 (j := (2 : Int32)) in43 (g := (mkF m 45 #[.val (.int p0), .val (.int p1), .val (.int p2), .val (.int p3), .val (.int (3 : Int32)), .val (.ref b35), .unset] [(.double z44), (.int (2 : Int32)), (.ref b35)])) rfl rfl (hb hby at_45)
    have N44 := Fr.snoc X44 N41 gn35
    have K45 : Keep h0 h44 [] := K42.wr W44 (Or.inr gz35)
    have V44 : Arv Z h44 b35 k35 .double (3 : Int32) [(.double z20), (.double z32), (.double z44)] (.double (0 : UInt64)) := Arv.set Ar43 q43 S43 Nn43 Ha43 G43 rfl W44 2 rfl (show (2 : Nat) < 3 by decide)
    obtain ⟨_, _, ⟨T46, L46, k46, n46⟩, -, X46, ⟨Lc46, hQ46, ql46, qy46, qz46⟩, st46⟩ := Jvm.LawKit.callS X44 hx (y := (⟨"com/example/credal_choice/credalchoice/model/Gambles", "negated", "([D)[D"⟩ : MethodName)) hown (mvT hZ (hw _ (List.mem_of_getElem? (i := 1) rfl))) (mvT hZ (hw _ (List.mem_of_getElem? (i := 2) rfl))) (mvT hZ (hw _ (List.mem_of_getElem? (i := 3) rfl))) (mvT hZ (hw _ (List.mem_of_getElem? (i := 4) rfl))) (by decide) (backOf (W := 0) (rm1_3 l Z a0 hw [] b35 k35 z20 z32 z44 c48_z18 c48_z18_2 c48_z18_3 h44 n0 (Nat.le_trans (Nat.le_trans (Nat.le_trans (Nat.le_trans Z0 E35.1) (Keep.of_wr W38).1) (Keep.of_wr W41).1) (Keep.of_wr W44).1) V44 hc48_z18 hc48_z18_2 hc48_z18_3) hZ (hw _ (List.mem_of_getElem? (i := 4) rfl)) (hw _ (List.mem_of_getElem? (i := 3) rfl)) (by decide) (by decide)) (g := (mkF m 48 #[.val (.int p0), .val (.int p1), .val (.int p2), .val (.int p3), .val (.int (3 : Int32)), .val (.ref b35), .unset] [(.ref b35)])) rfl (by rw [hml]; rfl) (argsL := [(.ref b35)]) (rest := []) (lenOf pd_0 rfl) rfl (by show 2 * 0 + _ ≤ _; exact Nat.le_of_eq rfl) (hb hby at_48) (fun _ _ => ⟨rfl, e44, (by decide : 1 + 1 ≤ _), (by decide : 3 + 3 ≤ _)⟩)
    dsimp only [Pt.U, Pt.locs, Pt.cells, Pt.slots] at X46 ql46 qy46 qz46 st46 hQ46
    subst ql46 qy46 qz46
    obtain ⟨rb46_b2, kk46_k2, rfl, N46q, gz46_b2, K46q, Q46_0⟩ := hQ46
    have N46 := Fr.app N44 N46q
    have gn46_b2 : n0 ≤ rb46_b2 := Nat.le_trans (Nat.le_trans (Nat.le_trans (Nat.le_trans (Nat.le_trans Z0 E35.1) (Keep.of_wr W38).1) (Keep.of_wr W41).1) (Keep.of_wr W44).1) gz46_b2
    have gy46_b2 : h0.size ≤ rb46_b2 := Nat.le_trans (K45).1 gz46_b2
    have K47 : Keep h0 T46.heap [] := Keep.trans K45 K46q all0
    obtain ⟨cl48, Ar48, -, S48, Nn48, -, -⟩ := id Q46_0
    obtain ⟨c83_br10, c83_br22, c83_nn35, c83_br38⟩ := pl hz20 hc48_z18 hc83_z1 hc83_z9 hc83_z20 hc83_z21 hc83_z35 hc83_z37
    have f49 := (V44.keep K46q nin0)
    obtain ⟨_, _, ⟨T50, L50, k50, n50⟩, -, X50, ⟨Lc50, hQ50, ql50, qy50, qz50⟩, st50⟩ := Jvm.LawKit.callS X46 hx (y := (⟨"com/example/credal_choice/credalchoice/model/GamblesNegatedPinLaw", "at", "([D[DII)Z"⟩ : MethodName)) hown (mvT hZ (hw _ (List.mem_of_getElem? (i := 5) rfl))) (mvT hZ (hw _ (List.mem_of_getElem? (i := 6) rfl))) (mvT hZ (hw _ (List.mem_of_getElem? (i := 7) rfl))) (mvT hZ (hw _ (List.mem_of_getElem? (i := 8) rfl))) (by decide) (backOf (W := 0) (rm2_3_0 l Z a0 hw [] b35 rb46_b2 p1 k35 z20 z32 z44 kk46_k2 c48_z18 c48_z18_2 c48_z18_3 c83_z1 c83_z9 c83_z20 c83_z21 c83_z35 c83_z37 T46.heap n0 (Nat.le_trans (Nat.le_trans (Nat.le_trans (Nat.le_trans (Nat.le_trans Z0 E35.1) (Keep.of_wr W38).1) (Keep.of_wr W41).1) (Keep.of_wr W44).1) K46q.1) f49 Q46_0 hc83_z1 hc83_z9 hc83_z20 hc83_z21 hc83_z35 hc83_z37 c83_br10 c83_br22 c83_nn35 c83_br38) hZ (hw _ (List.mem_of_getElem? (i := 8) rfl)) (hw _ (List.mem_of_getElem? (i := 7) rfl)) (by decide) (by decide)) (g := (mkF m 83 #[.val (.int p0), .val (.int p1), .val (.int p2), .val (.int p3), .val (.int (3 : Int32)), .val (.ref b35), .val (.ref rb46_b2)] [(.int p1), (.int (0 : Int32)), (.ref rb46_b2), (.ref b35)])) rfl (by rw [hml]; rfl) (argsL := [(.ref b35), (.ref rb46_b2), (.int (0 : Int32)), (.int p1)]) (rest := []) (lenOf pd_1 rfl) rfl (by show 2 * 0 + _ ≤ _; exact Nat.le_of_eq rfl) (hb hby at_83) (fun _ _ => ⟨rfl, rfl, (by decide : 2 + 0 ≤ _), (by decide : 6 + 0 ≤ _)⟩)
    dsimp only [Pt.U, Pt.locs, Pt.cells, Pt.slots] at X50 ql50 qy50 qz50 st50 hQ50
    subst ql50 qy50 qz50
    obtain ⟨rfl, N50q, e50⟩ := hQ50
    have N50 := Fr.app N46 N50q
    obtain ⟨c103_br10, c103_br22, c103_nn35, c103_br38⟩ := pl hz32 hc48_z18_2 hc103_z1 hc103_z9 hc103_z20 hc103_z21 hc103_z35 hc103_z37
    obtain ⟨_, _, ⟨T51, L51, k51, n51⟩, -, X51, ⟨Lc51, hQ51, ql51, qy51, qz51⟩, st51⟩ := Jvm.LawKit.callS X50 hx (y := (⟨"com/example/credal_choice/credalchoice/model/GamblesNegatedPinLaw", "at", "([D[DII)Z"⟩ : MethodName)) hown (mvT hZ (hw _ (List.mem_of_getElem? (i := 5) rfl))) (mvT hZ (hw _ (List.mem_of_getElem? (i := 6) rfl))) (mvT hZ (hw _ (List.mem_of_getElem? (i := 7) rfl))) (mvT hZ (hw _ (List.mem_of_getElem? (i := 8) rfl))) (by decide) (backOf (W := 0) (rm2_3_1 l Z a0 hw [] b35 rb46_b2 p2 k35 z20 z32 z44 kk46_k2 c48_z18 c48_z18_2 c48_z18_3 c103_z1 c103_z9 c103_z20 c103_z21 c103_z35 c103_z37 T46.heap n0 (Nat.le_trans (Nat.le_trans (Nat.le_trans (Nat.le_trans (Nat.le_trans Z0 E35.1) (Keep.of_wr W38).1) (Keep.of_wr W41).1) (Keep.of_wr W44).1) K46q.1) f49 Q46_0 hc103_z1 hc103_z9 hc103_z20 hc103_z21 hc103_z35 hc103_z37 c103_br10 c103_br22 c103_nn35 c103_br38) hZ (hw _ (List.mem_of_getElem? (i := 8) rfl)) (hw _ (List.mem_of_getElem? (i := 7) rfl)) (by decide) (by decide)) (g := (mkF m 103 #[.val (.int p0), .val (.int p1), .val (.int p2), .val (.int p3), .val (.int (3 : Int32)), .val (.ref b35), .val (.ref rb46_b2)] [(.int p2), (.int (1 : Int32)), (.ref rb46_b2), (.ref b35)])) rfl (by rw [hml]; rfl) (argsL := [(.ref b35), (.ref rb46_b2), (.int (1 : Int32)), (.int p2)]) (rest := []) (lenOf pd_1 rfl) rfl (by show 2 * 0 + _ ≤ _; exact Nat.le_of_eq rfl) (hb hby at_103) (fun _ _ => ⟨rfl, e50, (by decide : 2 + 0 ≤ _), (by decide : 6 + 0 ≤ _)⟩)
    dsimp only [Pt.U, Pt.locs, Pt.cells, Pt.slots] at X51 ql51 qy51 qz51 st51 hQ51
    subst ql51 qy51 qz51
    obtain ⟨rfl, N51q, e51⟩ := hQ51
    have N51 := Fr.app N50 N51q
    obtain ⟨c123_br10, c123_br22, c123_nn35, c123_br38⟩ := pl hz44 hc48_z18_3 hc123_z1 hc123_z9 hc123_z20 hc123_z21 hc123_z35 hc123_z37
    obtain ⟨_, _, ⟨T52, L52, k52, n52⟩, -, X52, ⟨Lc52, hQ52, ql52, qy52, qz52⟩, st52⟩ := Jvm.LawKit.callS X51 hx (y := (⟨"com/example/credal_choice/credalchoice/model/GamblesNegatedPinLaw", "at", "([D[DII)Z"⟩ : MethodName)) hown (mvT hZ (hw _ (List.mem_of_getElem? (i := 5) rfl))) (mvT hZ (hw _ (List.mem_of_getElem? (i := 6) rfl))) (mvT hZ (hw _ (List.mem_of_getElem? (i := 7) rfl))) (mvT hZ (hw _ (List.mem_of_getElem? (i := 8) rfl))) (by decide) (backOf (W := 0) (rm2_3_2 l Z a0 hw [] b35 rb46_b2 p3 k35 z20 z32 z44 kk46_k2 c48_z18 c48_z18_2 c48_z18_3 c123_z1 c123_z9 c123_z20 c123_z21 c123_z35 c123_z37 T46.heap n0 (Nat.le_trans (Nat.le_trans (Nat.le_trans (Nat.le_trans (Nat.le_trans Z0 E35.1) (Keep.of_wr W38).1) (Keep.of_wr W41).1) (Keep.of_wr W44).1) K46q.1) f49 Q46_0 hc123_z1 hc123_z9 hc123_z20 hc123_z21 hc123_z35 hc123_z37 c123_br10 c123_br22 c123_nn35 c123_br38) hZ (hw _ (List.mem_of_getElem? (i := 8) rfl)) (hw _ (List.mem_of_getElem? (i := 7) rfl)) (by decide) (by decide)) (g := (mkF m 123 #[.val (.int p0), .val (.int p1), .val (.int p2), .val (.int p3), .val (.int (3 : Int32)), .val (.ref b35), .val (.ref rb46_b2)] [(.int p3), (.int (2 : Int32)), (.ref rb46_b2), (.ref b35)])) rfl (by rw [hml]; rfl) (argsL := [(.ref b35), (.ref rb46_b2), (.int (2 : Int32)), (.int p3)]) (rest := []) (lenOf pd_1 rfl) rfl (by show 2 * 0 + _ ≤ _; exact Nat.le_of_eq rfl) (hb hby at_123) (fun _ _ => ⟨rfl, e51, (by decide : 2 + 0 ≤ _), (by decide : 6 + 0 ≤ _)⟩)
    dsimp only [Pt.U, Pt.locs, Pt.cells, Pt.slots] at X52 ql52 qy52 qz52 st52 hQ52
    subst ql52 qy52 qz52
    obtain ⟨rfl, N52q, e52⟩ := hQ52
    have N52 := Fr.app N51 N52q
    have c53 : ∀ t, Steps p.tables e below (T52.setTop (mkF m 132 #[.val (.int p0), .val (.int p1), .val (.int p2), .val (.int p3), .val (.int (3 : Int32)), .val (.ref b35), .val (.ref rb46_b2)] [(.int (1 : Int32))])) t → Steps p.tables e below (s₁.setTop (entryFrame m #[(.int p0), (.int p1), (.int p2), (.int p3)] maxLocals)) t := by
      intro t k
      refine c1 t ?_
      show Steps p.tables e below (s₁.setTop (mkF m 3 #[.val (.int p0), .val (.int p1), .val (.int p2), .val (.int p3), .unset, .unset, .unset] [(.int (3 : Int32))])) _
      refine XS.istore X0.here hx rfl (hb hby at_3) rfl (l' := #[.val (.int p0), .val (.int p1), .val (.int p2), .val (.int p3), .val (.int (3 : Int32)), .unset, .unset]) rfl ?_
      show Steps p.tables e below (s₁.setTop (mkF m 5 #[.val (.int p0), .val (.int p1), .val (.int p2), .val (.int p3), .val (.int (3 : Int32)), .unset, .unset] [])) _
      refine XS.iload X0.here hx rfl (hb hby at_5) rfl ?_
      show Steps p.tables e below (s₁.setTop (mkF m 7 #[.val (.int p0), .val (.int p1), .val (.int p2), .val (.int p3), .val (.int (3 : Int32)), .unset, .unset] [(.int (3 : Int32))])) _
      refine st35 _ ?_
      show Steps p.tables e below (T35.setTop (mkF m 9 #[.val (.int p0), .val (.int p1), .val (.int p2), .val (.int p3), .val (.int (3 : Int32)), .unset, .unset] [(.ref b35)])) _
      refine XS.astore X35.here hx rfl (hb hby at_9) rfl rfl (l' := #[.val (.int p0), .val (.int p1), .val (.int p2), .val (.int p3), .val (.int (3 : Int32)), .val (.ref b35), .unset]) rfl ?_
      show Steps p.tables e below (T35.setTop (mkF m 11 #[.val (.int p0), .val (.int p1), .val (.int p2), .val (.int p3), .val (.int (3 : Int32)), .val (.ref b35), .unset] [])) _
      refine XS.iload X35.here hx rfl (hb hby at_11) rfl ?_
      show Steps p.tables e below (T35.setTop (mkF m 13 #[.val (.int p0), .val (.int p1), .val (.int p2), .val (.int p3), .val (.int (3 : Int32)), .val (.ref b35), .unset] [(.int (3 : Int32))])) _
      refine XS.ifNo X35.here hx rfl (hb hby at_13) rfl (Jvm.Free.XT.i0_le_f (by decide)) ?_
      show Steps p.tables e below (T35.setTop (mkF m 16 #[.val (.int p0), .val (.int p1), .val (.int p2), .val (.int p3), .val (.int (3 : Int32)), .val (.ref b35), .unset] [])) _
      refine XS.aload X35.here hx rfl (hb hby at_16) rfl rfl ?_
      show Steps p.tables e below (T35.setTop (mkF m 18 #[.val (.int p0), .val (.int p1), .val (.int p2), .val (.int p3), .val (.int (3 : Int32)), .val (.ref b35), .unset] [(.ref b35)])) _
      refine XS.iconst X35.here hx rfl (hb hby at_18) ?_
      show Steps p.tables e below (T35.setTop (mkF m 19 #[.val (.int p0), .val (.int p1), .val (.int p2), .val (.int p3), .val (.int (3 : Int32)), .val (.ref b35), .unset] [(.int (0 : Int32)), (.ref b35)])) _
      refine XS.iloadN X35.here hx rfl (hb hby at_19) rfl ?_
      show Steps p.tables e below (T35.setTop (mkF m 20 #[.val (.int p0), .val (.int p1), .val (.int p2), .val (.int p3), .val (.int (3 : Int32)), .val (.ref b35), .unset] [(.int p1), (.int (0 : Int32)), (.ref b35)])) _
      refine XS.i2dS X35.here hx rfl (hb hby at_20) rfl hz20 ?_
      show Steps p.tables e below (T35.setTop (mkF m 21 #[.val (.int p0), .val (.int p1), .val (.int p2), .val (.int p3), .val (.int (3 : Int32)), .val (.ref b35), .unset] [(.double z20), (.int (0 : Int32)), (.ref b35)])) _
      refine st38 _ ?_
      show Steps p.tables e below (T38.setTop (mkF m 22 #[.val (.int p0), .val (.int p1), .val (.int p2), .val (.int p3), .val (.int (3 : Int32)), .val (.ref b35), .unset] [])) _
      refine XS.iload X38.here hx rfl (hb hby at_22) rfl ?_
      show Steps p.tables e below (T38.setTop (mkF m 24 #[.val (.int p0), .val (.int p1), .val (.int p2), .val (.int p3), .val (.int (3 : Int32)), .val (.ref b35), .unset] [(.int (3 : Int32))])) _
      refine XS.iconst X38.here hx rfl (hb hby at_24) ?_
      show Steps p.tables e below (T38.setTop (mkF m 25 #[.val (.int p0), .val (.int p1), .val (.int p2), .val (.int p3), .val (.int (3 : Int32)), .val (.ref b35), .unset] [(.int (1 : Int32)), (.int (3 : Int32))])) _
      refine XS.icmpNo X38.here hx rfl (hb hby at_25) rfl (Jvm.Free.XT.ii_le_f (by decide)) ?_
      show Steps p.tables e below (T38.setTop (mkF m 28 #[.val (.int p0), .val (.int p1), .val (.int p2), .val (.int p3), .val (.int (3 : Int32)), .val (.ref b35), .unset] [])) _
      refine XS.aload X38.here hx rfl (hb hby at_28) rfl rfl ?_
      show Steps p.tables e below (T38.setTop (mkF m 30 #[.val (.int p0), .val (.int p1), .val (.int p2), .val (.int p3), .val (.int (3 : Int32)), .val (.ref b35), .unset] [(.ref b35)])) _
      refine XS.iconst X38.here hx rfl (hb hby at_30) ?_
      show Steps p.tables e below (T38.setTop (mkF m 31 #[.val (.int p0), .val (.int p1), .val (.int p2), .val (.int p3), .val (.int (3 : Int32)), .val (.ref b35), .unset] [(.int (1 : Int32)), (.ref b35)])) _
      refine XS.iloadN X38.here hx rfl (hb hby at_31) rfl ?_
      show Steps p.tables e below (T38.setTop (mkF m 32 #[.val (.int p0), .val (.int p1), .val (.int p2), .val (.int p3), .val (.int (3 : Int32)), .val (.ref b35), .unset] [(.int p2), (.int (1 : Int32)), (.ref b35)])) _
      refine XS.i2dS X38.here hx rfl (hb hby at_32) rfl hz32 ?_
      show Steps p.tables e below (T38.setTop (mkF m 33 #[.val (.int p0), .val (.int p1), .val (.int p2), .val (.int p3), .val (.int (3 : Int32)), .val (.ref b35), .unset] [(.double z32), (.int (1 : Int32)), (.ref b35)])) _
      refine st41 _ ?_
      show Steps p.tables e below (T41.setTop (mkF m 34 #[.val (.int p0), .val (.int p1), .val (.int p2), .val (.int p3), .val (.int (3 : Int32)), .val (.ref b35), .unset] [])) _
      refine XS.iload X41.here hx rfl (hb hby at_34) rfl ?_
      show Steps p.tables e below (T41.setTop (mkF m 36 #[.val (.int p0), .val (.int p1), .val (.int p2), .val (.int p3), .val (.int (3 : Int32)), .val (.ref b35), .unset] [(.int (3 : Int32))])) _
      refine XS.iconst X41.here hx rfl (hb hby at_36) ?_
      show Steps p.tables e below (T41.setTop (mkF m 37 #[.val (.int p0), .val (.int p1), .val (.int p2), .val (.int p3), .val (.int (3 : Int32)), .val (.ref b35), .unset] [(.int (2 : Int32)), (.int (3 : Int32))])) _
      refine XS.icmpNo X41.here hx rfl (hb hby at_37) rfl (Jvm.Free.XT.ii_le_f (by decide)) ?_
      show Steps p.tables e below (T41.setTop (mkF m 40 #[.val (.int p0), .val (.int p1), .val (.int p2), .val (.int p3), .val (.int (3 : Int32)), .val (.ref b35), .unset] [])) _
      refine XS.aload X41.here hx rfl (hb hby at_40) rfl rfl ?_
      show Steps p.tables e below (T41.setTop (mkF m 42 #[.val (.int p0), .val (.int p1), .val (.int p2), .val (.int p3), .val (.int (3 : Int32)), .val (.ref b35), .unset] [(.ref b35)])) _
      refine XS.iconst X41.here hx rfl (hb hby at_42) ?_
      show Steps p.tables e below (T41.setTop (mkF m 43 #[.val (.int p0), .val (.int p1), .val (.int p2), .val (.int p3), .val (.int (3 : Int32)), .val (.ref b35), .unset] [(.int (2 : Int32)), (.ref b35)])) _
      refine XS.iloadN X41.here hx rfl (hb hby at_43) rfl ?_
      show Steps p.tables e below (T41.setTop (mkF m 44 #[.val (.int p0), .val (.int p1), .val (.int p2), .val (.int p3), .val (.int (3 : Int32)), .val (.ref b35), .unset] [(.int p3), (.int (2 : Int32)), (.ref b35)])) _
      refine XS.i2dS X41.here hx rfl (hb hby at_44) rfl hz44 ?_
      show Steps p.tables e below (T41.setTop (mkF m 45 #[.val (.int p0), .val (.int p1), .val (.int p2), .val (.int p3), .val (.int (3 : Int32)), .val (.ref b35), .unset] [(.double z44), (.int (2 : Int32)), (.ref b35)])) _
      refine st44 _ ?_
      show Steps p.tables e below (T44.setTop (mkF m 46 #[.val (.int p0), .val (.int p1), .val (.int p2), .val (.int p3), .val (.int (3 : Int32)), .val (.ref b35), .unset] [])) _
      refine XS.aload X44.here hx rfl (hb hby at_46) rfl rfl ?_
      show Steps p.tables e below (T44.setTop (mkF m 48 #[.val (.int p0), .val (.int p1), .val (.int p2), .val (.int p3), .val (.int (3 : Int32)), .val (.ref b35), .unset] [(.ref b35)])) _
      refine st46 _ ?_
      show Steps p.tables e below (T46.setTop (mkF m 51 #[.val (.int p0), .val (.int p1), .val (.int p2), .val (.int p3), .val (.int (3 : Int32)), .val (.ref b35), .unset] [(.ref rb46_b2)])) _
      refine XS.astore X46.here hx rfl (hb hby at_51) rfl rfl (l' := #[.val (.int p0), .val (.int p1), .val (.int p2), .val (.int p3), .val (.int (3 : Int32)), .val (.ref b35), .val (.ref rb46_b2)]) rfl ?_
      show Steps p.tables e below (T46.setTop (mkF m 53 #[.val (.int p0), .val (.int p1), .val (.int p2), .val (.int p3), .val (.int (3 : Int32)), .val (.ref b35), .val (.ref rb46_b2)] [])) _
      refine XS.aload X46.here hx rfl (hb hby at_53) rfl rfl ?_
      show Steps p.tables e below (T46.setTop (mkF m 55 #[.val (.int p0), .val (.int p1), .val (.int p2), .val (.int p3), .val (.int (3 : Int32)), .val (.ref b35), .val (.ref rb46_b2)] [(.ref rb46_b2)])) _
      refine XS.aload X46.here hx rfl (hb hby at_55) rfl rfl ?_
      show Steps p.tables e below (T46.setTop (mkF m 57 #[.val (.int p0), .val (.int p1), .val (.int p2), .val (.int p3), .val (.int (3 : Int32)), .val (.ref b35), .val (.ref rb46_b2)] [(.ref b35), (.ref rb46_b2)])) _
      refine Jvm.RoadKit.acmp (g := (mkF m 57 #[.val (.int p0), .val (.int p1), .val (.int p2), .val (.int p3), .val (.int (3 : Int32)), .val (.ref b35), .val (.ref rb46_b2)] [(.ref b35), (.ref rb46_b2)])) X46 hx rfl rfl rfl (pc0 := 57) (pc' := 62) (same := false) rfl (hb hby at_57) rfl (decide_eq_false (fun q_ => (Ne.symm (Nat.ne_of_lt (Nat.lt_of_lt_of_le (V44).lt gz46_b2))) (Value.ref.inj q_))) (by decide) (by decide) ?_
      show Steps p.tables e below (T46.setTop (mkF m 62 #[.val (.int p0), .val (.int p1), .val (.int p2), .val (.int p3), .val (.int (3 : Int32)), .val (.ref b35), .val (.ref rb46_b2)] [])) _
      refine XS.aload X46.here hx rfl (hb hby at_62) rfl rfl ?_
      show Steps p.tables e below (T46.setTop (mkF m 64 #[.val (.int p0), .val (.int p1), .val (.int p2), .val (.int p3), .val (.int (3 : Int32)), .val (.ref b35), .val (.ref rb46_b2)] [(.ref rb46_b2)])) _
      refine X46.arraylength hx Ar48.1 (State.isArrayOf_alike hZ.alike Ar48.2.1) (g := (mkF m 64 #[.val (.int p0), .val (.int p1), .val (.int p2), .val (.int p3), .val (.int (3 : Int32)), .val (.ref b35), .val (.ref rb46_b2)] [(.ref rb46_b2)])) rfl rfl (hb hby at_64) _ ?_
      rw [len_of S48 Nn48]
      show Steps p.tables e below (T46.setTop (mkF m 65 #[.val (.int p0), .val (.int p1), .val (.int p2), .val (.int p3), .val (.int (3 : Int32)), .val (.ref b35), .val (.ref rb46_b2)] [(.int (3 : Int32))])) _
      refine XS.iload X46.here hx rfl (hb hby at_65) rfl ?_
      show Steps p.tables e below (T46.setTop (mkF m 67 #[.val (.int p0), .val (.int p1), .val (.int p2), .val (.int p3), .val (.int (3 : Int32)), .val (.ref b35), .val (.ref rb46_b2)] [(.int (3 : Int32)), (.int (3 : Int32))])) _
      refine XS.icmpYes X46.here hx rfl (pc0 := 67) (pc' := 72) rfl (hb hby at_67) rfl (Jvm.Free.XT.ii_eq_t (by decide)) (by decide) (by decide) ?_
      show Steps p.tables e below (T46.setTop (mkF m 72 #[.val (.int p0), .val (.int p1), .val (.int p2), .val (.int p3), .val (.int (3 : Int32)), .val (.ref b35), .val (.ref rb46_b2)] [])) _
      refine XS.iload X46.here hx rfl (hb hby at_72) rfl ?_
      show Steps p.tables e below (T46.setTop (mkF m 74 #[.val (.int p0), .val (.int p1), .val (.int p2), .val (.int p3), .val (.int (3 : Int32)), .val (.ref b35), .val (.ref rb46_b2)] [(.int (3 : Int32))])) _
      refine XS.ifNo X46.here hx rfl (hb hby at_74) rfl (Jvm.Free.XT.i0_le_f (by decide)) ?_
      show Steps p.tables e below (T46.setTop (mkF m 77 #[.val (.int p0), .val (.int p1), .val (.int p2), .val (.int p3), .val (.int (3 : Int32)), .val (.ref b35), .val (.ref rb46_b2)] [])) _
      refine XS.aload X46.here hx rfl (hb hby at_77) rfl rfl ?_
      show Steps p.tables e below (T46.setTop (mkF m 79 #[.val (.int p0), .val (.int p1), .val (.int p2), .val (.int p3), .val (.int (3 : Int32)), .val (.ref b35), .val (.ref rb46_b2)] [(.ref b35)])) _
      refine XS.aload X46.here hx rfl (hb hby at_79) rfl rfl ?_
      show Steps p.tables e below (T46.setTop (mkF m 81 #[.val (.int p0), .val (.int p1), .val (.int p2), .val (.int p3), .val (.int (3 : Int32)), .val (.ref b35), .val (.ref rb46_b2)] [(.ref rb46_b2), (.ref b35)])) _
      refine XS.iconst X46.here hx rfl (hb hby at_81) ?_
      show Steps p.tables e below (T46.setTop (mkF m 82 #[.val (.int p0), .val (.int p1), .val (.int p2), .val (.int p3), .val (.int (3 : Int32)), .val (.ref b35), .val (.ref rb46_b2)] [(.int (0 : Int32)), (.ref rb46_b2), (.ref b35)])) _
      refine XS.iloadN X46.here hx rfl (hb hby at_82) rfl ?_
      show Steps p.tables e below (T46.setTop (mkF m 83 #[.val (.int p0), .val (.int p1), .val (.int p2), .val (.int p3), .val (.int (3 : Int32)), .val (.ref b35), .val (.ref rb46_b2)] [(.int p1), (.int (0 : Int32)), (.ref rb46_b2), (.ref b35)])) _
      refine st50 _ ?_
      show Steps p.tables e below (T50.setTop (mkF m 86 #[.val (.int p0), .val (.int p1), .val (.int p2), .val (.int p3), .val (.int (3 : Int32)), .val (.ref b35), .val (.ref rb46_b2)] [(.int (1 : Int32))])) _
      refine XS.ifYes X50.here hx rfl (pc0 := 86) (pc' := 91) rfl (hb hby at_86) rfl (Jvm.Free.XT.i0_ne_t (by decide)) (by decide) (by decide) ?_
      show Steps p.tables e below (T50.setTop (mkF m 91 #[.val (.int p0), .val (.int p1), .val (.int p2), .val (.int p3), .val (.int (3 : Int32)), .val (.ref b35), .val (.ref rb46_b2)] [])) _
      refine XS.iload X50.here hx rfl (hb hby at_91) rfl ?_
      show Steps p.tables e below (T50.setTop (mkF m 93 #[.val (.int p0), .val (.int p1), .val (.int p2), .val (.int p3), .val (.int (3 : Int32)), .val (.ref b35), .val (.ref rb46_b2)] [(.int (3 : Int32))])) _
      refine XS.iconst X50.here hx rfl (hb hby at_93) ?_
      show Steps p.tables e below (T50.setTop (mkF m 94 #[.val (.int p0), .val (.int p1), .val (.int p2), .val (.int p3), .val (.int (3 : Int32)), .val (.ref b35), .val (.ref rb46_b2)] [(.int (1 : Int32)), (.int (3 : Int32))])) _
      refine XS.icmpNo X50.here hx rfl (hb hby at_94) rfl (Jvm.Free.XT.ii_le_f (by decide)) ?_
      show Steps p.tables e below (T50.setTop (mkF m 97 #[.val (.int p0), .val (.int p1), .val (.int p2), .val (.int p3), .val (.int (3 : Int32)), .val (.ref b35), .val (.ref rb46_b2)] [])) _
      refine XS.aload X50.here hx rfl (hb hby at_97) rfl rfl ?_
      show Steps p.tables e below (T50.setTop (mkF m 99 #[.val (.int p0), .val (.int p1), .val (.int p2), .val (.int p3), .val (.int (3 : Int32)), .val (.ref b35), .val (.ref rb46_b2)] [(.ref b35)])) _
      refine XS.aload X50.here hx rfl (hb hby at_99) rfl rfl ?_
      show Steps p.tables e below (T50.setTop (mkF m 101 #[.val (.int p0), .val (.int p1), .val (.int p2), .val (.int p3), .val (.int (3 : Int32)), .val (.ref b35), .val (.ref rb46_b2)] [(.ref rb46_b2), (.ref b35)])) _
      refine XS.iconst X50.here hx rfl (hb hby at_101) ?_
      show Steps p.tables e below (T50.setTop (mkF m 102 #[.val (.int p0), .val (.int p1), .val (.int p2), .val (.int p3), .val (.int (3 : Int32)), .val (.ref b35), .val (.ref rb46_b2)] [(.int (1 : Int32)), (.ref rb46_b2), (.ref b35)])) _
      refine XS.iloadN X50.here hx rfl (hb hby at_102) rfl ?_
      show Steps p.tables e below (T50.setTop (mkF m 103 #[.val (.int p0), .val (.int p1), .val (.int p2), .val (.int p3), .val (.int (3 : Int32)), .val (.ref b35), .val (.ref rb46_b2)] [(.int p2), (.int (1 : Int32)), (.ref rb46_b2), (.ref b35)])) _
      refine st51 _ ?_
      show Steps p.tables e below (T51.setTop (mkF m 106 #[.val (.int p0), .val (.int p1), .val (.int p2), .val (.int p3), .val (.int (3 : Int32)), .val (.ref b35), .val (.ref rb46_b2)] [(.int (1 : Int32))])) _
      refine XS.ifYes X51.here hx rfl (pc0 := 106) (pc' := 111) rfl (hb hby at_106) rfl (Jvm.Free.XT.i0_ne_t (by decide)) (by decide) (by decide) ?_
      show Steps p.tables e below (T51.setTop (mkF m 111 #[.val (.int p0), .val (.int p1), .val (.int p2), .val (.int p3), .val (.int (3 : Int32)), .val (.ref b35), .val (.ref rb46_b2)] [])) _
      refine XS.iload X51.here hx rfl (hb hby at_111) rfl ?_
      show Steps p.tables e below (T51.setTop (mkF m 113 #[.val (.int p0), .val (.int p1), .val (.int p2), .val (.int p3), .val (.int (3 : Int32)), .val (.ref b35), .val (.ref rb46_b2)] [(.int (3 : Int32))])) _
      refine XS.iconst X51.here hx rfl (hb hby at_113) ?_
      show Steps p.tables e below (T51.setTop (mkF m 114 #[.val (.int p0), .val (.int p1), .val (.int p2), .val (.int p3), .val (.int (3 : Int32)), .val (.ref b35), .val (.ref rb46_b2)] [(.int (2 : Int32)), (.int (3 : Int32))])) _
      refine XS.icmpNo X51.here hx rfl (hb hby at_114) rfl (Jvm.Free.XT.ii_le_f (by decide)) ?_
      show Steps p.tables e below (T51.setTop (mkF m 117 #[.val (.int p0), .val (.int p1), .val (.int p2), .val (.int p3), .val (.int (3 : Int32)), .val (.ref b35), .val (.ref rb46_b2)] [])) _
      refine XS.aload X51.here hx rfl (hb hby at_117) rfl rfl ?_
      show Steps p.tables e below (T51.setTop (mkF m 119 #[.val (.int p0), .val (.int p1), .val (.int p2), .val (.int p3), .val (.int (3 : Int32)), .val (.ref b35), .val (.ref rb46_b2)] [(.ref b35)])) _
      refine XS.aload X51.here hx rfl (hb hby at_119) rfl rfl ?_
      show Steps p.tables e below (T51.setTop (mkF m 121 #[.val (.int p0), .val (.int p1), .val (.int p2), .val (.int p3), .val (.int (3 : Int32)), .val (.ref b35), .val (.ref rb46_b2)] [(.ref rb46_b2), (.ref b35)])) _
      refine XS.iconst X51.here hx rfl (hb hby at_121) ?_
      show Steps p.tables e below (T51.setTop (mkF m 122 #[.val (.int p0), .val (.int p1), .val (.int p2), .val (.int p3), .val (.int (3 : Int32)), .val (.ref b35), .val (.ref rb46_b2)] [(.int (2 : Int32)), (.ref rb46_b2), (.ref b35)])) _
      refine XS.iloadN X51.here hx rfl (hb hby at_122) rfl ?_
      show Steps p.tables e below (T51.setTop (mkF m 123 #[.val (.int p0), .val (.int p1), .val (.int p2), .val (.int p3), .val (.int (3 : Int32)), .val (.ref b35), .val (.ref rb46_b2)] [(.int p3), (.int (2 : Int32)), (.ref rb46_b2), (.ref b35)])) _
      refine st52 _ ?_
      show Steps p.tables e below (T52.setTop (mkF m 126 #[.val (.int p0), .val (.int p1), .val (.int p2), .val (.int p3), .val (.int (3 : Int32)), .val (.ref b35), .val (.ref rb46_b2)] [(.int (1 : Int32))])) _
      refine XS.ifYes X52.here hx rfl (pc0 := 126) (pc' := 131) rfl (hb hby at_126) rfl (Jvm.Free.XT.i0_ne_t (by decide)) (by decide) (by decide) ?_
      show Steps p.tables e below (T52.setTop (mkF m 131 #[.val (.int p0), .val (.int p1), .val (.int p2), .val (.int p3), .val (.int (3 : Int32)), .val (.ref b35), .val (.ref rb46_b2)] [])) _
      refine XS.iconst X52.here hx rfl (hb hby at_131) ?_
      exact k
    obtain ⟨fs, hr, hrun, hended, hW, hsame⟩ := X52.leave (v := some (.int (1 : Int32))) (fun h => by rw [Bd.returns] at h; cases h)
    refine ⟨_, _, c53 _ ?_, hrun, hended, _, _, rfl, ?_, ⟨_, rfl⟩, hW, hsame.mono (by decide) (by decide)⟩
    · show Steps p.tables e below (T52.setTop (mkF m 132 #[.val (.int p0), .val (.int p1), .val (.int p2), .val (.int p3), .val (.int (3 : Int32)), .val (.ref b35), .val (.ref rb46_b2)] [(.int (1 : Int32))])) _
      exact retOut X52 hx Bd.returns rfl (Or.inl ⟨rfl, by simp, _, rfl⟩) (hb hby at_132) hr
    · show Q0 n0 _ T52.heap _
      rw [e52]
      exact ⟨rfl, by first | assumption | exact N0⟩
set_option maxRecDepth 65536 in
set_option maxHeartbeats 40000000 in
theorem comes_1 {Post : Tables → Env → Array Value → State → Outcome → State → Prop} (hpost : ∀ tb e args s v u, (limb_1_1.after args s (.returned v) u = true ∧ limb_1_2.after args s (.returned v) u = true ∧ True) → FrameEnd s (.returned v) u (Jvm.fieldLocs frame_1_writes args s ++ Jvm.arrayLocs frame_1_arrays args s ++ Jvm.staticLocs frame_1_statics s) 16 128 → Post tb e args s (.returned v) u) :
    ArmFor flags0 classFile x code maxLocals ret World_1 tables_1 room_1 Calls_1 rest_1 Pre_1 Post := by
  intro l hfl _ _ p e ha hc hk s m args below hf hA hF happ hP
  obtain ⟨hcalls, hrest, hpre⟩ := hP
  obtain ⟨-, -, -, hnamed, -, -, -, hat⟩ := (Spec.applies_iff hf).mp happ
  obtain ⟨hg, hn⟩ := and_e (Cond.before_iff.mp (show (Jvm.Cond.and given_1 narrow_1).before args s = true from hpre))
  obtain ⟨g1, g2⟩ := and_e hg
  obtain ⟨g3, g4⟩ := and_e g2
  obtain ⟨g5, g6⟩ := and_e g4
  obtain ⟨g7, g8⟩ := and_e g6
  obtain ⟨w0, w1, w2, w3, rfl⟩ : ∃ w0 w1 w2 w3 : Value, args = #[w0, w1, w2, w3] := by
    have hs : args.size = 4 := by simpa [Cond.value, given_1] using g1
    obtain ⟨L⟩ := args
    match L, hs with
    | [w0, w1, w2, w3], _ => exact ⟨w0, w1, w2, w3, rfl⟩
  have hw := fun d (hd : d ∈ tables_1) => atoms_spec (ws := Jvm.Cond.code x code maxLocals ret :: tables_1) hat d (List.mem_cons_of_mem _ hd)
  have hfit : Fit s := fun {y c} hc i hi => by
    obtain ⟨ha, rfl⟩ := Array.getElem?_eq_some_iff.mp hc
    have q := List.all_eq_true.mp ((Array.all_eq_true_iff_forall_mem.mp hF) _ (Array.getElem_mem ha)) i (List.mem_range.mpr hi)
    simpa [Array.getElem?_eq_getElem hi] using q
  obtain ⟨i0, ei0⟩ := is_v g3
  obtain rfl : w0 = (.int i0) := Option.some.inj ei0
  obtain ⟨i1, ei1⟩ := is_v g5
  obtain rfl : w1 = (.int i1) := Option.some.inj ei1
  obtain ⟨i2, ei2⟩ := is_v g7
  obtain rfl : w2 = (.int i2) := Option.some.inj ei2
  obtain ⟨i3, ei3⟩ := is_v g8
  obtain rfl : w3 = (.int i3) := Option.some.inj ei3
  obtain ⟨n, o, h1, h2, h3, _, L, rfl, ⟨rfl, N⟩, hq⟩ := rm0 l s _ hw tables_1 i0 i1 i2 i3  s.heap s.heap.size (Nat.le_refl _)  p e ha hc hk s m _ below hf ((Spec.applies_iff_loose hf).mp happ).1 ⟨rfl, State.Warmed39.refl s, rfl⟩ trivial
  refine ⟨n, _, h1, h2, h3, hpost _ _ _ _ _ _ ⟨Cond.after_iff.mpr rfl, Cond.after_iff.mpr (eq_i res_at (Term.int_eval (1)) rfl), trivial⟩ ⟨hq.1, hq.2.1, (hq.2.2.sift fun y hy => Or.inr (N y hy)).mono (by decide) (by decide)⟩⟩
theorem main_1_1 : Claimed_1_1 := comes_1 fun _ _ _ _ _ _ h hF => ⟨h.1, hF⟩
theorem main_1_2 : Claimed_1_2 := comes_1 fun _ _ _ _ _ _ h hF => ⟨h.2.1, hF⟩
end Jvm.Pilot.@@N@@
namespace Jvm.Pilot.@@N@@
open Jvm Jvm.ClassFile Sem Op Lib Jvm.Free Jvm.Stand Jvm.Pilot.@@N@@.Jvm.D
/-! MADE BY PROGRAM (witnessworld.py) out of the Statement's table words and the real class files: 11 classes; the members and pool entries that the words name. The judged class is class 1, her method 1. -/
namespace start1
open Jvm.ClassFile
def u (s : String) : CpInfo := .utf8 (stringToUtf16 s)
/-- a pool by its gaps: so many unusable entries, then the entry; so many at the end -/
def gap : Nat → List CpInfo → List CpInfo
  | 0, r => r
  | n + 1, r => .unusable :: gap n r
def poolList (es : List (Nat × CpInfo)) (last : Nat) : List CpInfo := es.foldr (fun e r => gap e.1 (e.2 :: r)) (gap last [])
def pool (es : List (Nat × CpInfo)) (last : Nat) : Array CpInfo := ⟨poolList es last⟩
def fileOf (pool : Array CpInfo) (this : Nat) (attrs : Array Attribute := #[]) (ms : Array MethodInfo := #[]) (fl : Nat := 33) (sup : Nat := 0) (ifs : Array Nat := #[]) (fds : Array FieldInfo := #[]) : ClassFile where
  minorVersion := 0
  majorVersion := 65
  constantPool := pool
  accessFlags := fl
  thisClass := this
  superClass := sup
  interfaces := ifs
  fields := fds
  methods := ms
  attributes := attrs
def plain (name : String) (sup : Option ClassId) : Class where
  name := name
  kind := .ordinary
  loader := none
  accessFlags := 33
  super := sup
  interfaces := #[]
  cf := none
  fields := #[]
  methods := #[]
  instanceTypes := #[]
  staticTypes := #[]
  resolved := #[]
  callSites := []
  init := .initialized
  statics := none
  mirror := none

def pool0 : Array CpInfo := pool [(5, u "<init>"), (0, u "()V"), (1, .class_ 10), (1, u "java/lang/Object")] 113

def k0m0 : Method := { name := "<init>", desc := "()V", sig := { parameters := [], returnType := none }, accessFlags := 1, code := none }
/-- java/lang/Object -/
def k0 : Class := { plain "java/lang/Object" none with
  accessFlags := 33
  interfaces := #[]
  cf := some (fileOf pool0 8 #[] #[{ accessFlags := 1, nameIndex := 5, descriptorIndex := 6, attributes := #[] }] 33 0 #[] #[])
  fields := #[]
  methods := #[k0m0]
  instanceTypes := #[]
  staticTypes := #[]
  resolved := Array.replicate 124 none
  statics := none }

def pool1 : Array CpInfo := pool [(2, .class_ 4), (1, u "java/lang/Object"), (0, u "<init>"), (0, u "()V"), (0, .methodref 8 9), (0, .class_ 10), (0, .nameAndType 11 12), (0, u "com/example/credal_choice/credalchoice/model/Gambles"), (0, u "negated"), (0, u "([D)[D"), (0, .methodref 14 15), (0, .class_ 16), (0, .nameAndType 17 18), (0, u "com/example/credal_choice/credalchoice/model/GamblesNegatedPinLaw"), (0, u "at"), (0, u "([D[DII)Z"), (2, u "law"), (0, u "(IIII)Z")] 5

def k1m0 : Method := { name := "<init>", desc := "()V", sig := { parameters := [], returnType := none }, accessFlags := 2, code := none }
def k1c1 : Code := { maxStack := 4, maxLocals := 7, code := code, exceptionTable := #[], attributes := #[] }
def k1m1 : Method := { name := "law", desc := "(IIII)Z", sig := { parameters := [.int, .int, .int, .int], returnType := some .boolean }, accessFlags := 9, code := some k1c1 }
def k1c2 : Code := { maxStack := 4, maxLocals := 6, code := method_3_code, exceptionTable := #[], attributes := #[] }
def k1m2 : Method := { name := "at", desc := "([D[DII)Z", sig := { parameters := [(.array .double), (.array .double), .int, .int], returnType := some .boolean }, accessFlags := 10, code := some k1c2 }
/-- com/example/credal_choice/credalchoice/model/GamblesNegatedPinLaw -/
def k1 : Class := { plain "com/example/credal_choice/credalchoice/model/GamblesNegatedPinLaw" (some 0) with
  accessFlags := 49
  interfaces := #[]
  cf := some (fileOf pool1 14 #[] #[{ accessFlags := 2, nameIndex := 5, descriptorIndex := 6, attributes := #[] }, { accessFlags := 9, nameIndex := 21, descriptorIndex := 22, attributes := #[] }, { accessFlags := 10, nameIndex := 17, descriptorIndex := 18, attributes := #[] }] 49 2 #[] #[])
  fields := #[]
  methods := #[k1m0, k1m1, k1m2]
  instanceTypes := #[]
  staticTypes := #[]
  resolved := Array.replicate 28 none
  statics := none }

def pool2 : Array CpInfo := pool [(2, .class_ 4), (1, u "java/lang/Object"), (0, u "<init>"), (0, u "()V"), (9, .class_ 17), (0, u "com/example/credal_choice/credalchoice/model/Gambles"), (5, u "negated"), (0, u "([D)[D")] 21

def k2m0 : Method := { name := "<init>", desc := "()V", sig := { parameters := [], returnType := none }, accessFlags := 2, code := none }
def k2c1 : Code := { maxStack := 4, maxLocals := 3, code := prog_32_method_3_code, exceptionTable := #[], attributes := #[] }
def k2m1 : Method := { name := "negated", desc := "([D)[D", sig := { parameters := [(.array .double)], returnType := some (.array .double) }, accessFlags := 8, code := some k2c1 }
/-- com/example/credal_choice/credalchoice/model/Gambles -/
def k2 : Class := { plain "com/example/credal_choice/credalchoice/model/Gambles" (some 0) with
  accessFlags := 49
  interfaces := #[]
  cf := some (fileOf pool2 16 #[] #[{ accessFlags := 2, nameIndex := 5, descriptorIndex := 6, attributes := #[] }, { accessFlags := 8, nameIndex := 23, descriptorIndex := 24, attributes := #[] }] 49 2 #[] #[])
  fields := #[]
  methods := #[k2m0, k2m1]
  instanceTypes := #[]
  staticTypes := #[]
  resolved := Array.replicate 46 none
  statics := none }

def pool3 : Array CpInfo := pool [(1, u "java/lang/Cloneable"), (0, .class_ 1), (0, u "java/lang/Object"), (0, .class_ 3)] 3

/-- java/lang/Cloneable -/
def k3 : Class := { plain "java/lang/Cloneable" (some 0) with
  accessFlags := 1537
  interfaces := #[]
  cf := some (fileOf pool3 2 #[] #[] 1537 4 #[] #[])
  fields := #[]
  methods := #[]
  instanceTypes := #[]
  staticTypes := #[]
  resolved := Array.replicate 8 none
  statics := none }

def pool4 : Array CpInfo := pool [(1, u "java/io/Serializable"), (0, .class_ 1), (0, u "java/lang/Object"), (0, .class_ 3)] 3

/-- java/io/Serializable -/
def k4 : Class := { plain "java/io/Serializable" (some 0) with
  accessFlags := 1537
  interfaces := #[]
  cf := some (fileOf pool4 2 #[] #[] 1537 4 #[] #[])
  fields := #[]
  methods := #[]
  instanceTypes := #[]
  staticTypes := #[]
  resolved := Array.replicate 8 none
  statics := none }

/-- the primitive byte -/
def k5 : Class := { plain "byte" none with kind := .primitive 'B', accessFlags := 0x411 }
/-- [B -/
def k6 : Class := { plain "[B" (some 0) with kind := .array 5 .byte, interfaces := #[3, 4], accessFlags := 1041 }

/-- the primitive double -/
def k7 : Class := { plain "double" none with kind := .primitive 'D', accessFlags := 0x411 }
/-- [D -/
def k8 : Class := { plain "[D" (some 0) with kind := .array 7 .double, interfaces := #[3, 4], accessFlags := 1041 }

/-- the primitive int -/
def k9 : Class := { plain "int" none with kind := .primitive 'I', accessFlags := 0x411 }
/-- [I -/
def k10 : Class := { plain "[I" (some 0) with kind := .array 9 .int, interfaces := #[3, 4], accessFlags := 1041 }

def heap : Heap := #[]
def classes : Array Class := #[k0, k1, k2, k3, k4, k5, k6, k7, k8, k9, k10]
def interned : List (Array UInt16 × Addr) := []
def slotsUsed : Nat := 0
def theMethod : MethodId := ⟨1, 1⟩
def args0 : Array Value := #[.int 5, .int 5, .int 5, .int 5]
def aboutOver (below : List Frame) : State where
  vm := { classes := classes, interned := interned.toArray }
  heap := heap
  slotsUsed := slotsUsed
  threads := #[{ frames := .invoking theMethod args0 :: below }]
def below0 : List Frame := [.native { method := ⟨0, 0⟩, args := #[] }]
def about1 : State := aboutOver below0
def p0 : Program := .bare "" "" ""
def e0 : Env := launch0.env 0 0 0
theorem w_frames : about1.frames = Frame.invoking theMethod args0 :: below0 := rfl
set_option maxRecDepth 65536 in
theorem w_args : argsFit about1.vm theMethod args0 = true := by decide +kernel
set_option maxRecDepth 65536 in
theorem w_heap : heapFits about1 = true := by decide +kernel
set_option maxRecDepth 65536 in
theorem w_runnable : about1.curStatus? = some .runnable := by decide +kernel
set_option maxRecDepth 65536 in
theorem w_alone : about1.alone = true := by decide +kernel
set_option maxRecDepth 65536 in
theorem w_named : about1.methodNamed? x = some theMethod := by decide +kernel
set_option maxRecDepth 65536 in
theorem w_hears : about1.hears theMethod below0 = true := by decide +kernel
set_option maxRecDepth 65536 in
theorem w_ripe : about1.ripe theMethod args0 below0 = true := by decide +kernel
theorem w_running : about1.status = .running := rfl
set_option maxRecDepth 65536 in
theorem w_room : about1.hasRoom e0.platform room_1 = true :=
  launch0.hasRoom_least _ room_1 (by decide +kernel) (by decide +kernel) (by decide +kernel) (by decide +kernel) (by decide +kernel) (by decide +kernel)
theorem allAtoms_all (ts : List Jvm.Cond) (a : Array Jvm.Value) (st : Jvm.State) : (allAtoms ts).before a st = ts.all (fun c => c.before a st) := by
  induction ts with
  | nil => rfl
  | cons c t ih =>
    show (Jvm.Cond.and c (allAtoms t)).before a st = _
    rw [Jvm.Cond.before_and, ih, List.all_cons]
def words1 : List Jvm.Cond := Jvm.Cond.code x code maxLocals ret :: tables_1
/-- a 'code' word, met by the world's own term for the bytes: nothing is compared byte by byte -/
theorem code_word {y : MethodName} {bytes : ByteArray} {mx : Nat} {rt : Option FieldType} {a : Array Value} {s : State} {m : MethodId} {meth : Method} {c : Code} (h1 : s.methodNamed? y = some m) (h2 : s.vm.method? m = some meth) (h3 : meth.code = some c) (h4 : c.code = bytes)
    (h5 : (c.maxLocals == mx && c.exceptionTable.isEmpty && decide (c.maxStack ≤ mostOperands) && decide (meth.sig.returnType = rt) && !meth.locks && decide (parseMethodDescriptor y.desc = some meth.sig)) = true) : (Jvm.Cond.code y bytes mx rt).before a s = true := by
  simp only [Bool.and_eq_true, beq_iff_eq, Bool.not_eq_true', decide_eq_true_eq] at h5
  obtain ⟨⟨⟨⟨⟨g1, g2⟩, g3⟩, g4⟩, g5⟩, g6⟩ := h5
  simp [Cond.before, Cond.holds, Cond.value, h1, h2, h3, h4, g1, g2, g3, g4, g5, g6]
def isCode : Jvm.Cond → Bool
  | .code _ _ _ _ => true
  | _ => false
theorem all_split {L : List Jvm.Cond} {P : Jvm.Cond → Bool} (h1 : L.all (fun c => isCode c || P c) = true) (h2 : ∀ c ∈ L.filter isCode, P c = true) : L.all P = true := by
  refine List.all_eq_true.mpr fun c hc => ?_
  have h := List.all_eq_true.mp h1 c hc
  rcases Bool.eq_false_or_eq_true (isCode c) with hi | hi
  · exact h2 c (List.mem_filter.mpr ⟨hc, hi⟩)
  · simpa [hi] using h
set_option maxRecDepth 65536 in
theorem w_c0 : (Jvm.Cond.code x code maxLocals ret).before args0 about1 = true := code_word (m := ⟨1, 1⟩) (meth := k1m1) (c := k1c1) (by decide +kernel) rfl rfl rfl (by decide +kernel)
set_option maxRecDepth 65536 in
theorem w_c1 : (Jvm.Cond.code ({ cls := "com/example/credal_choice/credalchoice/model/Gambles", name := "negated", desc := "([D)[D" } : Jvm.MethodName) prog_32_method_3_code (3 : Nat) (Option.some (Jvm.ClassFile.FieldType.array Jvm.ClassFile.FieldType.double))).before args0 about1 = true := code_word (m := ⟨2, 1⟩) (meth := k2m1) (c := k2c1) (by decide +kernel) rfl rfl rfl (by decide +kernel)
set_option maxRecDepth 65536 in
theorem w_c2 : (Jvm.Cond.code ({ cls := "com/example/credal_choice/credalchoice/model/GamblesNegatedPinLaw", name := "at", desc := "([D[DII)Z" } : Jvm.MethodName) method_3_code (6 : Nat) (Option.some Jvm.ClassFile.FieldType.boolean)).before args0 about1 = true := code_word (m := ⟨1, 2⟩) (meth := k1m2) (c := k1c2) (by decide +kernel) rfl rfl rfl (by decide +kernel)
def codes1 : List Jvm.Cond := [Jvm.Cond.code x code maxLocals ret, Jvm.Cond.code ({ cls := "com/example/credal_choice/credalchoice/model/Gambles", name := "negated", desc := "([D)[D" } : Jvm.MethodName) prog_32_method_3_code (3 : Nat) (Option.some (Jvm.ClassFile.FieldType.array Jvm.ClassFile.FieldType.double)), Jvm.Cond.code ({ cls := "com/example/credal_choice/credalchoice/model/GamblesNegatedPinLaw", name := "at", desc := "([D[DII)Z" } : Jvm.MethodName) method_3_code (6 : Nat) (Option.some Jvm.ClassFile.FieldType.boolean)]
set_option maxRecDepth 65536 in
theorem codes_eq : words1.filter isCode = codes1 := rfl
theorem w_codes : ∀ c ∈ words1.filter isCode, c.before args0 about1 = true := by
  rw [codes_eq]
  intro c hc
  simp only [codes1, List.mem_cons, List.not_mem_nil, or_false] at hc
  rcases hc with rfl | rfl | rfl
  · exact w_c0
  · exact w_c1
  · exact w_c2
set_option maxRecDepth 65536 in
theorem w_t1 : words1.all (fun c => isCode c || c.before args0 about1) = true := by decide +kernel
theorem w_tables : (allAtoms (Jvm.Cond.code x code maxLocals ret :: tables_1)).before args0 about1 = true := by
  rw [allAtoms_all]
  show words1.all (fun c => c.before args0 about1) = true
  refine all_split ?_ w_codes
  rw [w_t1]
set_option maxRecDepth 65536 in
theorem w_case : (Jvm.Cond.and given_1 narrow_1).before args0 about1 = true := by decide +kernel
theorem w_applies : (headSpec (Jvm.Cond.code x code maxLocals ret :: tables_1) room_1).applies x e0.platform about1 = true :=
  (Spec.applies_iff w_frames).mpr ⟨w_running, w_runnable, w_alone, w_named, w_hears, w_ripe, w_room, w_tables⟩
theorem atStart : AtStart classFile x code maxLocals ret World_1 tables_1 room_1 Calls_1 rest_1 Pre_1 launch0 p0 e0 about1 theMethod args0 below0 :=
  ⟨lists_1, trivial, launch0.admits_env _ _ _, launch0.least_env, fairChoices_fair.cas, fairChoices_fair.clock, w_frames, w_args, w_heap, w_applies, trivial, trivial, w_case⟩
end start1
theorem witness_1 : WitnessClaimed_1 := ⟨start1.p0, start1.e0, start1.about1, start1.theMethod, start1.args0, start1.below0, start1.atStart⟩
end Jvm.Pilot.@@N@@
