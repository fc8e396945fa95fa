import JvmDerived
import JvmDerived.Pilot.@@N@@Statement
import JvmDerived.Pilot.@@N@@Code
set_option linter.unusedVariables false
set_option linter.unusedSimpArgs false
set_option maxHeartbeats 4000000
namespace Jvm.OwnK
open Sem ClassFile Op Lib Jvm.Free Jvm.Stand Jvm.LawKit Jvm.RoadKit
theorem iadd {tb : Tables} [Ours tb] {e : Env} {below : List Frame} {T target : State} {m : MethodId} {c : Code} {g : JFrame} (h : At T m c below) (hx : tb.exec = Jvm.exec) (hg : g.method = m) {x v : Int32} {y : Int32} {rest : List Value} (hd : decode c.code g.pc = .ok (.iadd, 1)) (hs : g.stack = .int y :: .int x :: rest) (hv : x + y = v)
    (hr : Steps tb e below (T.setTop { g with pc := g.pc + 1, stack := .int v :: rest }) target) : Steps tb e below (T.setTop g) target := by
  subst hv
  exact XS.iadd h hx hg hd hs hr
theorem isub {tb : Tables} [Ours tb] {e : Env} {below : List Frame} {T target : State} {m : MethodId} {c : Code} {g : JFrame} (h : At T m c below) (hx : tb.exec = Jvm.exec) (hg : g.method = m) {x v : Int32} {y : Int32} {rest : List Value} (hd : decode c.code g.pc = .ok (.isub, 1)) (hs : g.stack = .int y :: .int x :: rest) (hv : x - y = v)
    (hr : Steps tb e below (T.setTop { g with pc := g.pc + 1, stack := .int v :: rest }) target) : Steps tb e below (T.setTop g) target := by
  subst hv
  exact XS.isub h hx hg hd hs hr
theorem imul {tb : Tables} [Ours tb] {e : Env} {below : List Frame} {T target : State} {m : MethodId} {c : Code} {g : JFrame} (h : At T m c below) (hx : tb.exec = Jvm.exec) (hg : g.method = m) {x v : Int32} {y : Int32} {rest : List Value} (hd : decode c.code g.pc = .ok (.imul, 1)) (hs : g.stack = .int y :: .int x :: rest) (hv : x * y = v)
    (hr : Steps tb e below (T.setTop { g with pc := g.pc + 1, stack := .int v :: rest }) target) : Steps tb e below (T.setTop g) target := by
  subst hv
  exact XS.imul h hx hg hd hs hr
theorem iand {tb : Tables} [Ours tb] {e : Env} {below : List Frame} {T target : State} {m : MethodId} {c : Code} {g : JFrame} (h : At T m c below) (hx : tb.exec = Jvm.exec) (hg : g.method = m) {x v : Int32} {y : Int32} {rest : List Value} (hd : decode c.code g.pc = .ok (.iand, 1)) (hs : g.stack = .int y :: .int x :: rest) (hv : x &&& y = v)
    (hr : Steps tb e below (T.setTop { g with pc := g.pc + 1, stack := .int v :: rest }) target) : Steps tb e below (T.setTop g) target := by
  subst hv
  exact XS.iand h hx hg hd hs hr
theorem ior {tb : Tables} [Ours tb] {e : Env} {below : List Frame} {T target : State} {m : MethodId} {c : Code} {g : JFrame} (h : At T m c below) (hx : tb.exec = Jvm.exec) (hg : g.method = m) {x v : Int32} {y : Int32} {rest : List Value} (hd : decode c.code g.pc = .ok (.ior, 1)) (hs : g.stack = .int y :: .int x :: rest) (hv : x ||| y = v)
    (hr : Steps tb e below (T.setTop { g with pc := g.pc + 1, stack := .int v :: rest }) target) : Steps tb e below (T.setTop g) target := by
  subst hv
  exact XS.ior h hx hg hd hs hr
theorem ixor {tb : Tables} [Ours tb] {e : Env} {below : List Frame} {T target : State} {m : MethodId} {c : Code} {g : JFrame} (h : At T m c below) (hx : tb.exec = Jvm.exec) (hg : g.method = m) {x v : Int32} {y : Int32} {rest : List Value} (hd : decode c.code g.pc = .ok (.ixor, 1)) (hs : g.stack = .int y :: .int x :: rest) (hv : x ^^^ y = v)
    (hr : Steps tb e below (T.setTop { g with pc := g.pc + 1, stack := .int v :: rest }) target) : Steps tb e below (T.setTop g) target := by
  subst hv
  exact XS.ixor h hx hg hd hs hr
theorem ishl {tb : Tables} [Ours tb] {e : Env} {below : List Frame} {T target : State} {m : MethodId} {c : Code} {g : JFrame} (h : At T m c below) (hx : tb.exec = Jvm.exec) (hg : g.method = m) {x v : Int32} {y : Int32} {rest : List Value} (hd : decode c.code g.pc = .ok (.ishl, 1)) (hs : g.stack = .int y :: .int x :: rest) (hv : x <<< (y &&& 31) = v)
    (hr : Steps tb e below (T.setTop { g with pc := g.pc + 1, stack := .int v :: rest }) target) : Steps tb e below (T.setTop g) target := by
  subst hv
  exact XS.ishl h hx hg hd hs hr
theorem ishr {tb : Tables} [Ours tb] {e : Env} {below : List Frame} {T target : State} {m : MethodId} {c : Code} {g : JFrame} (h : At T m c below) (hx : tb.exec = Jvm.exec) (hg : g.method = m) {x v : Int32} {y : Int32} {rest : List Value} (hd : decode c.code g.pc = .ok (.ishr, 1)) (hs : g.stack = .int y :: .int x :: rest) (hv : x >>> (y &&& 31) = v)
    (hr : Steps tb e below (T.setTop { g with pc := g.pc + 1, stack := .int v :: rest }) target) : Steps tb e below (T.setTop g) target := by
  subst hv
  exact XS.ishr h hx hg hd hs hr
theorem iushr {tb : Tables} [Ours tb] {e : Env} {below : List Frame} {T target : State} {m : MethodId} {c : Code} {g : JFrame} (h : At T m c below) (hx : tb.exec = Jvm.exec) (hg : g.method = m) {x v : Int32} {y : Int32} {rest : List Value} (hd : decode c.code g.pc = .ok (.iushr, 1)) (hs : g.stack = .int y :: .int x :: rest) (hv : (x.toUInt32 >>> (y &&& 31).toUInt32).toInt32 = v)
    (hr : Steps tb e below (T.setTop { g with pc := g.pc + 1, stack := .int v :: rest }) target) : Steps tb e below (T.setTop g) target := by
  subst hv
  exact XS.iushr h hx hg hd hs hr
theorem idiv {tb : Tables} [Ours tb] {e : Env} {below : List Frame} {T target : State} {m : MethodId} {c : Code} {g : JFrame} (h : At T m c below) (hx : tb.exec = Jvm.exec) (hg : g.method = m) {x v : Int32} {y : Int32} {rest : List Value} (hd : decode c.code g.pc = .ok (.idiv, 1)) (hs : g.stack = .int y :: .int x :: rest) (hy : ¬ y = 0) (hv : x / y = v)
    (hr : Steps tb e below (T.setTop { g with pc := g.pc + 1, stack := .int v :: rest }) target) : Steps tb e below (T.setTop g) target := by
  subst hv
  exact XS.idiv h hx hg hd hs hy hr
theorem irem {tb : Tables} [Ours tb] {e : Env} {below : List Frame} {T target : State} {m : MethodId} {c : Code} {g : JFrame} (h : At T m c below) (hx : tb.exec = Jvm.exec) (hg : g.method = m) {x v : Int32} {y : Int32} {rest : List Value} (hd : decode c.code g.pc = .ok (.irem, 1)) (hs : g.stack = .int y :: .int x :: rest) (hy : ¬ y = 0) (hv : x % y = v)
    (hr : Steps tb e below (T.setTop { g with pc := g.pc + 1, stack := .int v :: rest }) target) : Steps tb e below (T.setTop g) target := by
  subst hv
  have q : x - x / y * y = x % y := irem_eq_mod x y
  exact XS.irem h hx hg hd hs hy (by rw [q]; exact hr)
theorem ladd {tb : Tables} [Ours tb] {e : Env} {below : List Frame} {T target : State} {m : MethodId} {c : Code} {g : JFrame} (h : At T m c below) (hx : tb.exec = Jvm.exec) (hg : g.method = m) {x v : Int64} {y : Int64} {rest : List Value} (hd : decode c.code g.pc = .ok (.ladd, 1)) (hs : g.stack = .long y :: .long x :: rest) (hv : x + y = v)
    (hr : Steps tb e below (T.setTop { g with pc := g.pc + 1, stack := .long v :: rest }) target) : Steps tb e below (T.setTop g) target := by
  subst hv
  exact XS.ladd h hx hg hd hs hr
theorem lsub {tb : Tables} [Ours tb] {e : Env} {below : List Frame} {T target : State} {m : MethodId} {c : Code} {g : JFrame} (h : At T m c below) (hx : tb.exec = Jvm.exec) (hg : g.method = m) {x v : Int64} {y : Int64} {rest : List Value} (hd : decode c.code g.pc = .ok (.lsub, 1)) (hs : g.stack = .long y :: .long x :: rest) (hv : x - y = v)
    (hr : Steps tb e below (T.setTop { g with pc := g.pc + 1, stack := .long v :: rest }) target) : Steps tb e below (T.setTop g) target := by
  subst hv
  exact XS.lsub h hx hg hd hs hr
theorem lmul {tb : Tables} [Ours tb] {e : Env} {below : List Frame} {T target : State} {m : MethodId} {c : Code} {g : JFrame} (h : At T m c below) (hx : tb.exec = Jvm.exec) (hg : g.method = m) {x v : Int64} {y : Int64} {rest : List Value} (hd : decode c.code g.pc = .ok (.lmul, 1)) (hs : g.stack = .long y :: .long x :: rest) (hv : x * y = v)
    (hr : Steps tb e below (T.setTop { g with pc := g.pc + 1, stack := .long v :: rest }) target) : Steps tb e below (T.setTop g) target := by
  subst hv
  exact XS.lmul h hx hg hd hs hr
theorem land {tb : Tables} [Ours tb] {e : Env} {below : List Frame} {T target : State} {m : MethodId} {c : Code} {g : JFrame} (h : At T m c below) (hx : tb.exec = Jvm.exec) (hg : g.method = m) {x v : Int64} {y : Int64} {rest : List Value} (hd : decode c.code g.pc = .ok (.land, 1)) (hs : g.stack = .long y :: .long x :: rest) (hv : x &&& y = v)
    (hr : Steps tb e below (T.setTop { g with pc := g.pc + 1, stack := .long v :: rest }) target) : Steps tb e below (T.setTop g) target := by
  subst hv
  exact XS.land h hx hg hd hs hr
theorem lor {tb : Tables} [Ours tb] {e : Env} {below : List Frame} {T target : State} {m : MethodId} {c : Code} {g : JFrame} (h : At T m c below) (hx : tb.exec = Jvm.exec) (hg : g.method = m) {x v : Int64} {y : Int64} {rest : List Value} (hd : decode c.code g.pc = .ok (.lor, 1)) (hs : g.stack = .long y :: .long x :: rest) (hv : x ||| y = v)
    (hr : Steps tb e below (T.setTop { g with pc := g.pc + 1, stack := .long v :: rest }) target) : Steps tb e below (T.setTop g) target := by
  subst hv
  exact XS.lor h hx hg hd hs hr
theorem lxor {tb : Tables} [Ours tb] {e : Env} {below : List Frame} {T target : State} {m : MethodId} {c : Code} {g : JFrame} (h : At T m c below) (hx : tb.exec = Jvm.exec) (hg : g.method = m) {x v : Int64} {y : Int64} {rest : List Value} (hd : decode c.code g.pc = .ok (.lxor, 1)) (hs : g.stack = .long y :: .long x :: rest) (hv : x ^^^ y = v)
    (hr : Steps tb e below (T.setTop { g with pc := g.pc + 1, stack := .long v :: rest }) target) : Steps tb e below (T.setTop g) target := by
  subst hv
  exact XS.lxor h hx hg hd hs hr
theorem lshl {tb : Tables} [Ours tb] {e : Env} {below : List Frame} {T target : State} {m : MethodId} {c : Code} {g : JFrame} (h : At T m c below) (hx : tb.exec = Jvm.exec) (hg : g.method = m) {x v : Int64} {y : Int32} {rest : List Value} (hd : decode c.code g.pc = .ok (.lshl, 1)) (hs : g.stack = .int y :: .long x :: rest) (hv : x <<< (y &&& 0x3f).toInt64 = v)
    (hr : Steps tb e below (T.setTop { g with pc := g.pc + 1, stack := .long v :: rest }) target) : Steps tb e below (T.setTop g) target := by
  subst hv
  exact XS.lshl h hx hg hd hs hr
theorem lshr {tb : Tables} [Ours tb] {e : Env} {below : List Frame} {T target : State} {m : MethodId} {c : Code} {g : JFrame} (h : At T m c below) (hx : tb.exec = Jvm.exec) (hg : g.method = m) {x v : Int64} {y : Int32} {rest : List Value} (hd : decode c.code g.pc = .ok (.lshr, 1)) (hs : g.stack = .int y :: .long x :: rest) (hv : x >>> (y &&& 0x3f).toInt64 = v)
    (hr : Steps tb e below (T.setTop { g with pc := g.pc + 1, stack := .long v :: rest }) target) : Steps tb e below (T.setTop g) target := by
  subst hv
  exact XS.lshr h hx hg hd hs hr
theorem lushr {tb : Tables} [Ours tb] {e : Env} {below : List Frame} {T target : State} {m : MethodId} {c : Code} {g : JFrame} (h : At T m c below) (hx : tb.exec = Jvm.exec) (hg : g.method = m) {x v : Int64} {y : Int32} {rest : List Value} (hd : decode c.code g.pc = .ok (.lushr, 1)) (hs : g.stack = .int y :: .long x :: rest) (hv : (x.toUInt64 >>> (y &&& 0x3f).toInt64.toUInt64).toInt64 = v)
    (hr : Steps tb e below (T.setTop { g with pc := g.pc + 1, stack := .long v :: rest }) target) : Steps tb e below (T.setTop g) target := by
  subst hv
  exact XS.lushr h hx hg hd hs hr
theorem ldiv {tb : Tables} [Ours tb] {e : Env} {below : List Frame} {T target : State} {m : MethodId} {c : Code} {g : JFrame} (h : At T m c below) (hx : tb.exec = Jvm.exec) (hg : g.method = m) {x v : Int64} {y : Int64} {rest : List Value} (hd : decode c.code g.pc = .ok (.ldiv, 1)) (hs : g.stack = .long y :: .long x :: rest) (hy : ¬ y = 0) (hv : x / y = v)
    (hr : Steps tb e below (T.setTop { g with pc := g.pc + 1, stack := .long v :: rest }) target) : Steps tb e below (T.setTop g) target := by
  subst hv
  exact XS.ldiv h hx hg hd hs hy hr
theorem lrem {tb : Tables} [Ours tb] {e : Env} {below : List Frame} {T target : State} {m : MethodId} {c : Code} {g : JFrame} (h : At T m c below) (hx : tb.exec = Jvm.exec) (hg : g.method = m) {x v : Int64} {y : Int64} {rest : List Value} (hd : decode c.code g.pc = .ok (.lrem, 1)) (hs : g.stack = .long y :: .long x :: rest) (hy : ¬ y = 0) (hv : x % y = v)
    (hr : Steps tb e below (T.setTop { g with pc := g.pc + 1, stack := .long v :: rest }) target) : Steps tb e below (T.setTop g) target := by
  subst hv
  have q : x - x / y * y = x % y := lrem_mod x y
  exact XS.lrem h hx hg hd hs hy (by rw [q]; exact hr)
theorem ineg {tb : Tables} [Ours tb] {e : Env} {below : List Frame} {T target : State} {m : MethodId} {c : Code} {g : JFrame} (h : At T m c below) (hx : tb.exec = Jvm.exec) (hg : g.method = m) {x : Int32} {v : Int32} {rest : List Value} (hd : decode c.code g.pc = .ok (.ineg, 1)) (hs : g.stack = .int x :: rest) (hv : -x = v)
    (hr : Steps tb e below (T.setTop { g with pc := g.pc + 1, stack := .int v :: rest }) target) : Steps tb e below (T.setTop g) target := by
  subst hv
  exact XS.ineg h hx hg hd hs hr
theorem lneg {tb : Tables} [Ours tb] {e : Env} {below : List Frame} {T target : State} {m : MethodId} {c : Code} {g : JFrame} (h : At T m c below) (hx : tb.exec = Jvm.exec) (hg : g.method = m) {x : Int64} {v : Int64} {rest : List Value} (hd : decode c.code g.pc = .ok (.lneg, 1)) (hs : g.stack = .long x :: rest) (hv : -x = v)
    (hr : Steps tb e below (T.setTop { g with pc := g.pc + 1, stack := .long v :: rest }) target) : Steps tb e below (T.setTop g) target := by
  subst hv
  exact XS.lneg h hx hg hd hs hr
theorem i2l {tb : Tables} [Ours tb] {e : Env} {below : List Frame} {T target : State} {m : MethodId} {c : Code} {g : JFrame} (h : At T m c below) (hx : tb.exec = Jvm.exec) (hg : g.method = m) {x : Int32} {v : Int64} {rest : List Value} (hd : decode c.code g.pc = .ok (.i2l, 1)) (hs : g.stack = .int x :: rest) (hv : x.toInt64 = v)
    (hr : Steps tb e below (T.setTop { g with pc := g.pc + 1, stack := .long v :: rest }) target) : Steps tb e below (T.setTop g) target := by
  subst hv
  exact XS.i2l h hx hg hd hs hr
theorem l2i {tb : Tables} [Ours tb] {e : Env} {below : List Frame} {T target : State} {m : MethodId} {c : Code} {g : JFrame} (h : At T m c below) (hx : tb.exec = Jvm.exec) (hg : g.method = m) {x : Int64} {v : Int32} {rest : List Value} (hd : decode c.code g.pc = .ok (.l2i, 1)) (hs : g.stack = .long x :: rest) (hv : x.toInt32 = v)
    (hr : Steps tb e below (T.setTop { g with pc := g.pc + 1, stack := .int v :: rest }) target) : Steps tb e below (T.setTop g) target := by
  subst hv
  exact XS.l2i h hx hg hd hs hr
theorem i2b {tb : Tables} [Ours tb] {e : Env} {below : List Frame} {T target : State} {m : MethodId} {c : Code} {g : JFrame} (h : At T m c below) (hx : tb.exec = Jvm.exec) (hg : g.method = m) {x : Int32} {v : Int32} {rest : List Value} (hd : decode c.code g.pc = .ok (.i2b, 1)) (hs : g.stack = .int x :: rest) (hv : x.toInt8.toInt32 = v)
    (hr : Steps tb e below (T.setTop { g with pc := g.pc + 1, stack := .int v :: rest }) target) : Steps tb e below (T.setTop g) target := by
  subst hv
  exact XS.i2b h hx hg hd hs hr
theorem i2s {tb : Tables} [Ours tb] {e : Env} {below : List Frame} {T target : State} {m : MethodId} {c : Code} {g : JFrame} (h : At T m c below) (hx : tb.exec = Jvm.exec) (hg : g.method = m) {x : Int32} {v : Int32} {rest : List Value} (hd : decode c.code g.pc = .ok (.i2s, 1)) (hs : g.stack = .int x :: rest) (hv : x.toInt16.toInt32 = v)
    (hr : Steps tb e below (T.setTop { g with pc := g.pc + 1, stack := .int v :: rest }) target) : Steps tb e below (T.setTop g) target := by
  subst hv
  exact XS.i2s h hx hg hd hs hr
theorem dadd {tb : Tables} [Ours tb] {e : Env} {below : List Frame} {T target : State} {m : MethodId} {c : Code} {g : JFrame} (h : At T m c below) (hx : tb.exec = Jvm.exec) (hg : g.method = m) {x y v : UInt64} {rest : List Value} (hd : decode c.code g.pc = .ok (.dadd, 1)) (hs : g.stack = .double y :: .double x :: rest) (hv : FP.dadd x y = v) (hn : Jvm.Free.Fl.NoNaN64 v)
    (hr : Steps tb e below (T.setTop { g with pc := g.pc + 1, stack := .double v :: rest }) target) : Steps tb e below (T.setTop g) target := by
  subst hv
  exact XS.daddS h hx hg hd hs hn rfl hr
theorem dsub {tb : Tables} [Ours tb] {e : Env} {below : List Frame} {T target : State} {m : MethodId} {c : Code} {g : JFrame} (h : At T m c below) (hx : tb.exec = Jvm.exec) (hg : g.method = m) {x y v : UInt64} {rest : List Value} (hd : decode c.code g.pc = .ok (.dsub, 1)) (hs : g.stack = .double y :: .double x :: rest) (hv : FP.dsub x y = v) (hn : Jvm.Free.Fl.NoNaN64 v)
    (hr : Steps tb e below (T.setTop { g with pc := g.pc + 1, stack := .double v :: rest }) target) : Steps tb e below (T.setTop g) target := by
  subst hv
  exact XS.dsubS h hx hg hd hs hn rfl hr
theorem dmul {tb : Tables} [Ours tb] {e : Env} {below : List Frame} {T target : State} {m : MethodId} {c : Code} {g : JFrame} (h : At T m c below) (hx : tb.exec = Jvm.exec) (hg : g.method = m) {x y v : UInt64} {rest : List Value} (hd : decode c.code g.pc = .ok (.dmul, 1)) (hs : g.stack = .double y :: .double x :: rest) (hv : FP.dmul x y = v) (hn : Jvm.Free.Fl.NoNaN64 v)
    (hr : Steps tb e below (T.setTop { g with pc := g.pc + 1, stack := .double v :: rest }) target) : Steps tb e below (T.setTop g) target := by
  subst hv
  exact XS.dmulS h hx hg hd hs hn rfl hr
theorem ddiv {tb : Tables} [Ours tb] {e : Env} {below : List Frame} {T target : State} {m : MethodId} {c : Code} {g : JFrame} (h : At T m c below) (hx : tb.exec = Jvm.exec) (hg : g.method = m) {x y v : UInt64} {rest : List Value} (hd : decode c.code g.pc = .ok (.ddiv, 1)) (hs : g.stack = .double y :: .double x :: rest) (hv : FP.ddiv x y = v) (hn : Jvm.Free.Fl.NoNaN64 v)
    (hr : Steps tb e below (T.setTop { g with pc := g.pc + 1, stack := .double v :: rest }) target) : Steps tb e below (T.setTop g) target := by
  subst hv
  exact XS.ddivS h hx hg hd hs hn rfl hr
theorem drem {tb : Tables} [Ours tb] {e : Env} {below : List Frame} {T target : State} {m : MethodId} {c : Code} {g : JFrame} (h : At T m c below) (hx : tb.exec = Jvm.exec) (hg : g.method = m) {x y v : UInt64} {rest : List Value} (hd : decode c.code g.pc = .ok (.drem, 1)) (hs : g.stack = .double y :: .double x :: rest) (hv : FP.drem x y = v) (hn : Jvm.Free.Fl.NoNaN64 v)
    (hr : Steps tb e below (T.setTop { g with pc := g.pc + 1, stack := .double v :: rest }) target) : Steps tb e below (T.setTop g) target := by
  subst hg
  subst hv
  obtain ⟨gm, gp, gl, gs, gk, ge, gr⟩ := g
  simp only at hs hd
  subst hs
  jvm_step h [h.top, hx, hd, Op.drem.at_number h.top hn]
  exact hr
theorem lcmp {tb : Tables} [Ours tb] {e : Env} {below : List Frame} {T target : State} {m : MethodId} {c : Code} {g : JFrame} (h : At T m c below) (hx : tb.exec = Jvm.exec) (hg : g.method = m) {x y : Int64} {v : Int32} {rest : List Value} (hd : decode c.code g.pc = .ok (.lcmp, 1)) (hs : g.stack = .long y :: .long x :: rest) (hv : lcmpW x y = v)
    (hr : Steps tb e below (T.setTop { g with pc := g.pc + 1, stack := .int v :: rest }) target) : Steps tb e below (T.setTop g) target := by
  subst hv
  exact XS.lcmp h hx hg hd hs hr
theorem iinc {tb : Tables} [Ours tb] {e : Env} {below : List Frame} {T target : State} {m : MethodId} {c : Code} {g : JFrame} (h : At T m c below) (hx : tb.exec = Jvm.exec) (hg : g.method = m) {k : Nat} {cst : Int} {x v : Int32} {l' : Array Slot} (hd : decode c.code g.pc = .ok (.iinc k cst, 3)) (hl : g.locals[k]? = some (.val (.int x))) (hv : x + Int32.ofInt cst = v) (hl' : storeLocals g.locals k (.int v) = some l')
    (hr : Steps tb e below (T.setTop { g with pc := g.pc + 3, locals := l' }) target) : Steps tb e below (T.setTop g) target := by
  subst hv
  exact XS.iinc h hx hg hd hl hl' hr
theorem dup2 {tb : Tables} [Ours tb] {e : Env} {below : List Frame} {T target : State} {m : MethodId} {c : Code} {g : JFrame} (h : At T m c below) (hx : tb.exec = Jvm.exec) (hg : g.method = m) {x y : Value} {rest : List Value} (hd : decode c.code g.pc = .ok (.dup2, 1)) (hs : g.stack = x :: y :: rest) (hc : x.category = 1) (hc' : y.category = 1)
    (hr : Steps tb e below (T.setTop { g with pc := g.pc + 1, stack := x :: y :: x :: y :: rest }) target) : Steps tb e below (T.setTop g) target := Jvm.Free.XT.dup2 h hx hg hd hs hc hc' hr
theorem dup2W {tb : Tables} [Ours tb] {e : Env} {below : List Frame} {T target : State} {m : MethodId} {c : Code} {g : JFrame} (h : At T m c below) (hx : tb.exec = Jvm.exec) (hg : g.method = m) {x : Value} {rest : List Value} (hd : decode c.code g.pc = .ok (.dup2, 1)) (hs : g.stack = x :: rest) (hc : x.category = 2)
    (hr : Steps tb e below (T.setTop { g with pc := g.pc + 1, stack := x :: x :: rest }) target) : Steps tb e below (T.setTop g) target := by
  subst hg
  jvm_step h [h.top, hx, hd, hs, hc]
  exact hr
theorem Sta_keep {Z : State} {h h' : Heap} {C n d : String} {w : Value} {ws : List Addr} (F : Sta Z h C n d w) (K : Keep h h' ws) (hn : ∀ x ∈ ws, ∀ cell : Cell, h[x]? = some cell → cell.vm.isStatics = false) : Sta Z h' C n d w := by
  obtain ⟨cf, i, k, f, st, cell, h1, h2, h3, h4, h5, h6, h7⟩ := F
  refine ⟨cf, i, k, f, st, cell, h1, h2, h3, h4, K.2.1 st cell h5 (fun q => ?_), h6, h7⟩
  rw [hn st q cell h5] at h6; cases h6
end Jvm.OwnK
namespace Jvm.OwnF
open Jvm.FP Jvm.FP.Core
/-! doubles as whole numbers of units of 2^-1074 -/
def V (a : UInt64) : Int := zval b64 (val64 a)
def BIG : Nat := 2 ^ 2000
/-- the rounding of n / d, in units -/
def rnd (n : Int) (d : Nat) : Int := zval b64 (roundRatio b64 (decide (n < 0)) n.natAbs d (-1074))
theorem zval_zero (s : Bool) (d : Nat) (e : Int) : zval b64 (roundRatio b64 s 0 d e) = 0 := by
  unfold roundRatio
  rw [if_pos rfl]
  show signed s (0 * 2 ^ (b64.qmin - b64.qmin).toNat) = 0
  rw [Nat.zero_mul, signed_zero]
theorem rnd_signed (s : Bool) (N d : Nat) : zval b64 (roundRatio b64 s N d (-1074)) = rnd (signed s N) d := by
  unfold rnd
  rw [natAbs_signed]
  by_cases h : N = 0
  · subst h; rw [zval_zero, zval_zero]
  · rw [signed_lt_zero s (by omega)]
theorem signed_natAbs (n : Int) : signed (decide (n < 0)) n.natAbs = n := by
  unfold signed
  by_cases h : n < 0 <;> simp [h] <;> omega
theorem bigV : Jvm.FP.Core.fits b64 (.fin false (2 ^ 52) 874) := by refine ⟨?_, ?_, ?_, ?_⟩ <;> decide
theorem bigZ : zmag b64 (.fin false (2 ^ 52) 874) = BIG := by
  show 2 ^ 52 * 2 ^ (874 - b64.qmin).toNat = 2 ^ 2000
  rw [qmin_b64, show (874 - (-1074) : Int).toNat = 1948 from rfl, ← Nat.pow_add]
theorem big_lt : BIG < b64.tails * 2 ^ (b64.exps - 2) := by
  rw [tails_b64, show b64.exps - 2 = 2046 by decide, ← Nat.pow_add]
  exact Nat.pow_lt_pow_right (by decide) (by decide)
theorem un0 (A : Nat) : inUnits A (-1074) (-1074) = A := by unfold inUnits; simp
theorem round_le_big {s : Bool} {A B : Nat} (hB : 0 < B) (h : A ≤ BIG * B) : zmag b64 (roundRatio b64 s A B (-1074)) ≤ BIG := by
  have := zmag_roundRatio_le good_b64 (s := s) (A := A) (B := B) (e := -1074) (e0 := -1074) hB bigV Datum.noConfusion (by rw [qmin_b64]; decide) (by decide) (by rw [bigZ, un0, qmin_b64]; simpa using h)
  rwa [bigZ] at this
theorem fin_round {s : Bool} {A B : Nat} (hB : 0 < B) (h : A ≤ BIG * B) : ∃ c q, roundRatio b64 s A B (-1074) = .fin s c q := by
  rcases roundRatio_cases b64 s A B (-1074) with h1 | h1
  · exact h1
  · exfalso
    have h2 := round_le_big (s := s) hB h
    rw [h1] at h2
    have h3 : zmag b64 (.inf s) = b64.tails * 2 ^ (b64.exps - 2) := rfl
    have := big_lt
    omega
theorem noNaN_fin {a : UInt64} (h : DFin a) : Jvm.Free.Fl.NoNaN64 a := by
  rw [Jvm.Free.Fl.val64_no]; obtain ⟨s, c, q, e⟩ := h; rw [e]; exact Datum.noConfusion
theorem V_dadd {a b : UInt64} (ha : DFin a) (hb : DFin b) (h : (V a + V b).natAbs ≤ BIG) : DFin (FP.dadd a b) ∧ V (FP.dadd a b) = rnd (V a + V b) 1 := by
  obtain ⟨s, c, q, ea⟩ := ha
  obtain ⟨t, d, r, eb⟩ := hb
  have fa : Jvm.FP.Core.fits b64 (.fin s c q) := ea ▸ val64_fits a
  have fb : Jvm.FP.Core.fits b64 (.fin t d r) := eb ▸ val64_fits b
  obtain ⟨sg, n, e, p1, p2, p3⟩ := sum_units fa fb
  rw [qmin_b64] at p2 p3
  have hv : val64 (FP.dadd a b) = roundRatio b64 sg (inUnits n e (-1074)) 1 (-1074) := by
    rw [show FP.dadd a b = Core.dadd a b from rfl, val64_dadd, ea, eb, p1]
    show roundRatio b64 sg n 1 e = _
    refine roundRatio_congr (by decide) (by decide) ?_
    rw [show (-1074 - e).toNat = 0 by omega]
    unfold inUnits; simp
  have hS : signed sg (inUnits n e (-1074)) = V a + V b := by unfold V; rw [ea, eb]; exact p3
  have hN : inUnits n e (-1074) = (V a + V b).natAbs := by rw [← hS, natAbs_signed]
  obtain ⟨c', q', hh⟩ := fin_round (s := sg) (A := inUnits n e (-1074)) (B := 1) (by decide) (by rw [Nat.mul_one, hN]; exact h)
  refine ⟨⟨sg, c', q', hv.trans hh⟩, ?_⟩
  show zval b64 (val64 (FP.dadd a b)) = _
  rw [hv, rnd_signed, hS]
theorem V_neg (a : UInt64) : V (Core.dneg a) = -V a := by unfold V; rw [Core.val64_dneg, zval_negate]
theorem fin_neg {a : UInt64} (h : DFin a) : DFin (Core.dneg a) := by
  obtain ⟨s, c, q, e⟩ := h
  exact ⟨!s, c, q, by rw [Core.val64_dneg, e]; rfl⟩
theorem V_dsub {a b : UInt64} (ha : DFin a) (hb : DFin b) (h : (V a - V b).natAbs ≤ BIG) : DFin (FP.dsub a b) ∧ V (FP.dsub a b) = rnd (V a - V b) 1 := by
  have e : FP.dsub a b = FP.dadd a (Core.dneg b) := dsub_eq a b
  rw [e]
  have := V_dadd ha (fin_neg hb) (by rw [V_neg]; exact h)
  rw [V_neg] at this
  exact this
theorem zmag_V (a : UInt64) : zmag b64 (val64 a) = (V a).natAbs := by unfold V zval; rw [natAbs_signed]
theorem V_dmul {a b : UInt64} (ha : DFin a) (hb : DFin b) (h : (V a * V b).natAbs ≤ BIG * one64) : DFin (FP.dmul a b) ∧ V (FP.dmul a b) = rnd (V a * V b) one64 := by
  have za := zmag_V a
  have zb := zmag_V b
  obtain ⟨s, c, q, ea⟩ := ha
  obtain ⟨t, d, r, eb⟩ := hb
  have fa : Jvm.FP.Core.fits b64 (.fin s c q) := ea ▸ val64_fits a
  have fb : Jvm.FP.Core.fits b64 (.fin t d r) := eb ▸ val64_fits b
  obtain ⟨p1, p2, p3⟩ := product_units fa fb
  rw [← ea, ← eb, za, zb, ← Int.natAbs_mul] at p3
  rw [qmin_b64] at p2 p3
  have hv : val64 (FP.dmul a b) = roundRatio b64 (s != t) (V a * V b).natAbs one64 (-1074) := by
    rw [show FP.dmul a b = Core.dmul a b from rfl, val64_dmul, ea, eb, p1]
    show roundRatio b64 (s != t) (c * d) 1 (q + r) = _
    refine roundRatio_congr (by decide) one64_pos ?_
    rw [← p3]
    unfold inUnits one64
    rw [Nat.mul_one, Nat.mul_assoc (c * d), Nat.mul_assoc (c * d), ← Nat.pow_add, ← Nat.pow_add]
    congr 2
    omega
  have hS : signed (s != t) (V a * V b).natAbs = V a * V b := by
    rw [Int.natAbs_mul, signed_xor, ← za, ← zb]
    unfold V zval
    rw [ea, eb]
    rfl
  obtain ⟨c', q', hh⟩ := fin_round (s := s != t) (A := (V a * V b).natAbs) (B := one64) one64_pos h
  refine ⟨⟨_, c', q', hv.trans hh⟩, ?_⟩
  show zval b64 (val64 (FP.dmul a b)) = _
  rw [hv, rnd_signed, hS]
theorem pw2 (c d x y : Nat) : c * (d * 2 ^ x) * 2 ^ y = c * d * 2 ^ (x + y) := by rw [Nat.pow_add]; ac_rfl
theorem pw3 (c d x y z : Nat) : c * 2 ^ x * 2 ^ y * d * 2 ^ z = c * d * 2 ^ (x + y + z) := by rw [Nat.pow_add, Nat.pow_add]; ac_rfl
theorem V_ddiv {a b : UInt64} (ha : DFin a) (hb : DFin b) (h0 : V b ≠ 0) (h : (V a).natAbs * one64 ≤ BIG * (V b).natAbs) : DFin (FP.ddiv a b) ∧ V (FP.ddiv a b) = rnd (V a * (one64 : Int) * (V b).sign) (V b).natAbs := by
  have za := zmag_V a
  have zb := zmag_V b
  have sb : (V b).sign = signed (sgn (val64 b)) 1 := by
    unfold V zval at h0 ⊢
    cases hsg : sgn (val64 b) <;> rw [hsg] at h0 <;> simp only [signed, if_true, Bool.false_eq_true, if_false] at h0 ⊢
    · exact Int.sign_eq_one_of_pos (by omega)
    · exact Int.sign_eq_neg_one_of_neg (by omega)
  obtain ⟨s, c, q, ea⟩ := ha
  obtain ⟨t, d, r, eb⟩ := hb
  have fa : Jvm.FP.Core.fits b64 (.fin s c q) := ea ▸ val64_fits a
  have fb : Jvm.FP.Core.fits b64 (.fin t d r) := eb ▸ val64_fits b
  have hq1 := fa.2.1
  have hr1 := fb.2.1
  rw [qmin_b64] at hq1 hr1
  have ma : (V a).natAbs = c * 2 ^ (q - (-1074)).toNat := by rw [← za, ea]; show inUnits c q b64.qmin = _; rw [qmin_b64]; rfl
  have mb : (V b).natAbs = d * 2 ^ (r - (-1074)).toNat := by rw [← zb, eb]; show inUnits d r b64.qmin = _; rw [qmin_b64]; rfl
  have hd0 : d ≠ 0 := by
    rintro rfl
    rw [Nat.zero_mul] at mb; omega
  have hBp : 0 < (V b).natAbs := by omega
  have hv : val64 (FP.ddiv a b) = roundRatio b64 (s != t) ((V a).natAbs * one64) (V b).natAbs (-1074) := by
    rw [show FP.ddiv a b = Core.ddiv a b from rfl, val64_ddiv, ea, eb]
    simp only [quotient, if_neg hd0]
    refine roundRatio_congr (by omega) hBp ?_
    rw [ma, mb]
    unfold one64
    rw [pw2, pw3]
    congr 2
    omega
  have hS : signed (s != t) ((V a).natAbs * one64) = V a * (one64 : Int) * (V b).sign := by
    rw [sb, eb]
    show _ = _ * signed t 1
    have : signed (s != t) ((V a).natAbs * one64 * 1) = signed s ((V a).natAbs * one64) * signed t 1 := signed_xor s t _ 1
    rw [Nat.mul_one] at this
    rw [this, signed_mul]
    congr 2
    rw [← za]
    unfold V zval
    rw [ea]
    rfl
  obtain ⟨c', q', hh⟩ := fin_round (s := s != t) (A := (V a).natAbs * one64) (B := (V b).natAbs) hBp h
  refine ⟨⟨_, c', q', hv.trans hh⟩, ?_⟩
  show zval b64 (val64 (FP.ddiv a b)) = _
  rw [hv, rnd_signed, hS]
theorem V_of_int {a : UInt64} {n : Int} (ha : val64 a = round b64 (ofInt n)) (h : n.natAbs ≤ 2 ^ 64) : DFin a ∧ V a = rnd (n * (one64 : Int)) 1 := by
  have hv : val64 a = roundRatio b64 (decide (n < 0)) (n.natAbs * one64) 1 (-1074) := by
    rw [ha]
    show roundRatio b64 (decide (n < 0)) n.natAbs 1 0 = _
    refine roundRatio_congr (by decide) (by decide) ?_
    unfold one64
    rw [show (0 - (-1074) : Int).toNat = 1074 from rfl, show (-1074 - 0 : Int).toNat = 0 from rfl]
    simp
  have hS : signed (decide (n < 0)) (n.natAbs * one64) = n * (one64 : Int) := by rw [signed_mul, signed_natAbs]
  have hB : n.natAbs * one64 ≤ BIG := by
    refine Nat.le_trans (Nat.mul_le_mul_right _ h) ?_
    unfold one64 BIG
    rw [← Nat.pow_add]
    exact Nat.pow_le_pow_right (by decide) (by decide)
  obtain ⟨c', q', hh⟩ := fin_round (s := decide (n < 0)) (A := n.natAbs * one64) (B := 1) (by decide) (by rw [Nat.mul_one]; exact hB)
  refine ⟨⟨_, c', q', hv.trans hh⟩, ?_⟩
  show zval b64 (val64 a) = _
  rw [hv, rnd_signed, hS]
theorem V_l2d (n : Int64) : DFin (FP.l2d n) ∧ V (FP.l2d n) = rnd (n.toInt * (one64 : Int)) 1 :=
  V_of_int (val64_l2d n) (Nat.le_trans (int64_abs n) (by decide))
theorem V_i2d (n : Int32) : DFin (FP.i2d n) ∧ V (FP.i2d n) = rnd (n.toInt * (one64 : Int)) 1 :=
  V_of_int (val64_i2d n) (Nat.le_trans (int32_abs n) (by decide))
theorem V_drem {a b : UInt64} (ha : DFin a) (hb : DFin b) (h0 : V b ≠ 0) : DFin (FP.drem a b) ∧ V (FP.drem a b) = (V a).tmod (V b) := by
  have za := zmag_V a
  have zb := zmag_V b
  obtain ⟨s, c, q, ea⟩ := ha
  obtain ⟨t, d, r, eb⟩ := hb
  have fa : Jvm.FP.Core.fits b64 (.fin s c q) := ea ▸ val64_fits a
  have fb : Jvm.FP.Core.fits b64 (.fin t d r) := eb ▸ val64_fits b
  have hd0 : d ≠ 0 := by
    rintro rfl
    rw [eb] at zb
    have : zmag b64 (.fin t 0 r) = 0 := Nat.zero_mul _
    omega
  obtain ⟨c', q', h1, h2⟩ := remainder_exact good_b64 fa fb hd0
  have hv : val64 (FP.drem a b) = .fin s c' q' := by rw [show FP.drem a b = Core.drem a b from rfl, val64_drem, ea, eb, h1]
  refine ⟨⟨_, _, _, hv⟩, ?_⟩
  have h3 : zmag b64 (.fin s c' q') = (V a).natAbs % (V b).natAbs := by rw [← za, ← zb, ea, eb]; exact h2
  have hVa : V a = signed s (V a).natAbs := by rw [← za]; unfold V zval; rw [ea]; rfl
  show zval b64 (val64 (FP.drem a b)) = _
  rw [hv]
  show signed s (zmag b64 (.fin s c' q')) = _
  rw [h3]
  have hb2 : ∀ x : Int, x.tmod (V b) = x.tmod ((V b).natAbs : Int) := by
    intro x
    rcases Int.natAbs_eq (V b) with e | e
    · rw [← e]
    · rw [e, Int.tmod_neg]; simp
  rw [hb2]
  generalize (V b).natAbs = B at *
  generalize (V a).natAbs = A at *
  rw [hVa]
  cases s <;> simp [signed] <;> exact (Int.tmod_eq_emod_of_nonneg (Int.natCast_nonneg A)).symm
theorem cmp_V {a b : UInt64} (ha : DFin a) (hb : DFin b) : FP.dcmp a b = some (compare (V a) (V b)) := by
  obtain ⟨s, c, q, ea⟩ := ha
  obtain ⟨t, d, r, eb⟩ := hb
  exact dcmp_zval (by rw [ea]; exact Datum.noConfusion) (by rw [eb]; exact Datum.noConfusion)
/-! the rounding -/
theorem rnd_congr {n n' : Int} {d d' : Nat} (hd : 0 < d) (hd' : 0 < d') (h : n * (d' : Int) = n' * (d : Int)) : rnd n d = rnd n' d' := by
  have hs : (n < 0) ↔ (n' < 0) := by
    have p1 : (0 : Int) < d := by omega
    have p2 : (0 : Int) < d' := by omega
    constructor
    · intro q
      have := Int.mul_neg_of_neg_of_pos q p2
      refine Int.lt_of_not_ge fun q' => ?_
      have := Int.mul_nonneg q' (Int.le_of_lt p1)
      omega
    · intro q
      have := Int.mul_neg_of_neg_of_pos q p1
      refine Int.lt_of_not_ge fun q' => ?_
      have := Int.mul_nonneg q' (Int.le_of_lt p2)
      omega
  have hm : n.natAbs * d' = n'.natAbs * d := by
    have := congrArg Int.natAbs h
    rwa [Int.natAbs_mul, Int.natAbs_mul, Int.natAbs_natCast, Int.natAbs_natCast] at this
  unfold rnd
  rw [show decide (n < 0) = decide (n' < 0) from decide_eq_decide.mpr hs]
  congr 1
  exact roundRatio_congr hd hd' (by simpa using hm)
/-- at most 53 binary digits -/
def Rep (r : Int) : Prop := ∃ (m : Int) (e : Nat), r = m * ((2 ^ e : Nat) : Int) ∧ m.natAbs < 2 ^ 53 ∧ e ≤ 2045
theorem rnd_exact {n : Int} {d : Nat} {r : Int} (hd : 0 < d) (h : n = r * (d : Int)) (hr : Rep r) : rnd n d = r := by
  rw [rnd_congr (n' := r) (d' := 1) hd (by decide) (by rw [h]; simp)]
  obtain ⟨m, e, rfl, hm, he⟩ := hr
  have hsg : ∀ k : Nat, signed (decide (m < 0)) (m.natAbs * k) = m * (k : Int) := fun k => by rw [signed_mul, signed_natAbs]
  have h1 : rnd (m * ((2 ^ e : Nat) : Int)) 1 = zval b64 (roundRatio b64 (decide (m < 0)) (m.natAbs * 2 ^ e) 1 (-1074)) := by rw [rnd_signed, hsg]
  rw [h1]
  obtain ⟨c', q', h2, h3⟩ := round_exact good_b64 (decide (m < 0)) (c := m.natAbs) (q := (e : Int) - 1074) hm (by rw [qmin_b64]; omega) (by rw [show b64.qmax = 971 by decide]; omega)
  have h4 : roundRatio b64 (decide (m < 0)) (m.natAbs * 2 ^ e) 1 (-1074) = roundRatio b64 (decide (m < 0)) m.natAbs 1 ((e : Int) - 1074) := by
    refine roundRatio_congr (by decide) (by decide) ?_
    rw [show (-1074 - ((e : Int) - 1074)).toNat = 0 by omega, show ((e : Int) - 1074 - -1074).toNat = e by omega]
    simp
  rw [h4]
  have h5 : roundRatio b64 (decide (m < 0)) m.natAbs 1 ((e : Int) - 1074) = .fin (decide (m < 0)) c' q' := h2
  rw [h5]
  show signed _ (inUnits c' q' b64.qmin) = _
  rw [h3, ← hsg]
  unfold inUnits
  rw [qmin_b64, show ((e : Int) - 1074 - -1074).toNat = e by omega]
  rfl
theorem rep_V {a : UInt64} (ha : DFin a) : Rep (V a) := by
  obtain ⟨s, c, q, ea⟩ := ha
  have fa : Jvm.FP.Core.fits b64 (.fin s c q) := ea ▸ val64_fits a
  obtain ⟨h1, h2, h3, -⟩ := fa
  rw [qmin_b64] at h2
  rw [show b64.qmax = 971 by decide] at h3
  refine ⟨signed s c, (q - (-1074)).toNat, ?_, by rw [natAbs_signed]; exact h1, by omega⟩
  unfold V zval
  rw [ea]
  show signed s (c * 2 ^ (q - b64.qmin).toNat) = _
  rw [signed_mul, qmin_b64]
theorem V_le {a : UInt64} : (V a).natAbs ≤ (V a).natAbs := Nat.le_refl _
end Jvm.OwnF
namespace Jvm.OwnF
open Jvm.FP Jvm.FP.Core
/-! exact values: a is n / 2^k -/
def R53 (n : Int) : Prop := ∃ (m : Int) (e : Nat), n = m * ((2 ^ e : Nat) : Int) ∧ m.natAbs ≤ 2 ^ 53 ∧ e ≤ 800
def DV (n : Int) (k : Nat) (a : UInt64) : Prop := DFin a ∧ k ≤ 1074 ∧ V a = n * ((2 ^ (1074 - k) : Nat) : Int)
theorem r53 {n : Int} (h : n.natAbs ≤ 2 ^ 53) : R53 n := ⟨n, 0, by simp, h, by decide⟩
theorem rep_of {m : Int} {e : Nat} (hm : m.natAbs ≤ 2 ^ 53) (he : e ≤ 1900) : Rep (m * ((2 ^ e : Nat) : Int)) := by
  by_cases h : m.natAbs < 2 ^ 53
  · exact ⟨m, e, rfl, h, by omega⟩
  · refine ⟨m.sign, e + 53, ?_, ?_, by omega⟩
    · have h1 : m.natAbs = 2 ^ 53 := by omega
      have h2 : m = m.sign * (m.natAbs : Int) := (Int.sign_mul_natAbs m).symm
      conv => lhs; rw [h2, h1]
      rw [Nat.pow_add, Int.natCast_mul, Int.mul_assoc]
      congr 1
      rw [Int.mul_comm]
    · have : m.sign.natAbs ≤ 1 := by
        rcases Int.lt_trichotomy m 0 with q | q | q
        · rw [Int.sign_eq_neg_one_of_neg q]; decide
        · rw [q]; decide
        · rw [Int.sign_eq_one_of_pos q]; decide
      omega
theorem rep_R {n : Int} (h : R53 n) {k : Nat} (hk : k ≤ 1074) : Rep (n * ((2 ^ k : Nat) : Int)) := by
  obtain ⟨m, e, rfl, hm, he⟩ := h
  rw [Int.mul_assoc, ← Int.natCast_mul, ← Nat.pow_add]
  exact rep_of hm (by omega)
theorem big_R {n : Int} (h : R53 n) {k : Nat} (hk : k ≤ 1074) : (n * ((2 ^ k : Nat) : Int)).natAbs ≤ BIG := by
  obtain ⟨m, e, rfl, hm, he⟩ := h
  rw [Int.natAbs_mul, Int.natAbs_mul, Int.natAbs_natCast, Int.natAbs_natCast, Nat.mul_assoc, ← Nat.pow_add]
  refine Nat.le_trans (Nat.mul_le_mul_right _ hm) ?_
  unfold BIG
  rw [← Nat.pow_add]
  exact Nat.pow_le_pow_right (by decide) (by omega)
theorem DV.fin {n : Int} {k : Nat} {a : UInt64} (h : DV n k a) : DFin a := h.1
theorem DV.nn {n : Int} {k : Nat} {a : UInt64} (h : DV n k a) : Jvm.Free.Fl.NoNaN64 a := noNaN_fin h.1
theorem DV.of_eq {n m : Int} {k : Nat} {a : UInt64} (h : DV n k a) (e : n = m) : DV m k a := e ▸ h
theorem DV.up {n : Int} {k : Nat} {a : UInt64} (h : DV n k a) (j : Nat) (hj : k + j ≤ 1074) : DV (n * ((2 ^ j : Nat) : Int)) (k + j) a := by
  refine ⟨h.1, hj, ?_⟩
  rw [h.2.2, Int.mul_assoc, ← Int.natCast_mul, ← Nat.pow_add]
  congr 4
  omega
theorem DV.down {n : Int} {k j : Nat} {a : UInt64} (h : DV (n * ((2 ^ j : Nat) : Int)) (k + j) a) : DV n k a := by
  refine ⟨h.1, by have := h.2.1; omega, ?_⟩
  rw [h.2.2, Int.mul_assoc, ← Int.natCast_mul, ← Nat.pow_add]
  congr 4
  have := h.2.1; omega
theorem DV_of_V {n : Int} {k : Nat} {a : UInt64} (hf : DFin a) (hk : k ≤ 1074) (hn : R53 n) (h : V a = rnd (n * ((2 ^ (1074 - k) : Nat) : Int)) 1) : DV n k a :=
  ⟨hf, hk, by rw [h]; exact rnd_exact (by decide) (by simp) (rep_R hn (by omega))⟩
theorem DV_add {n m : Int} {k : Nat} {a b : UInt64} (ha : DV n k a) (hb : DV m k b) (h : R53 (n + m)) : DV (n + m) k (FP.dadd a b) := by
  have e : V a + V b = (n + m) * ((2 ^ (1074 - k) : Nat) : Int) := by rw [ha.2.2, hb.2.2, Int.add_mul]
  obtain ⟨h1, h2⟩ := V_dadd ha.1 hb.1 (by rw [e]; exact big_R h (by omega))
  exact DV_of_V h1 ha.2.1 h (by rw [h2, e])
theorem DV_sub {n m : Int} {k : Nat} {a b : UInt64} (ha : DV n k a) (hb : DV m k b) (h : R53 (n - m)) : DV (n - m) k (FP.dsub a b) := by
  have e : V a - V b = (n - m) * ((2 ^ (1074 - k) : Nat) : Int) := by rw [ha.2.2, hb.2.2, Int.sub_mul]
  obtain ⟨h1, h2⟩ := V_dsub ha.1 hb.1 (by rw [e]; exact big_R h (by omega))
  exact DV_of_V h1 ha.2.1 h (by rw [h2, e])
theorem DV_mul {n m : Int} {k j : Nat} {a b : UInt64} (ha : DV n k a) (hb : DV m j b) (hkj : k + j ≤ 1074) (h : R53 (n * m)) : DV (n * m) (k + j) (FP.dmul a b) := by
  have e : V a * V b = (n * m) * ((2 ^ (1074 - (k + j)) : Nat) : Int) * (one64 : Int) := by
    rw [ha.2.2, hb.2.2]
    have : ((2 ^ (1074 - (k + j)) : Nat) : Int) * (one64 : Int) = ((2 ^ (1074 - k) : Nat) : Int) * ((2 ^ (1074 - j) : Nat) : Int) := by
      rw [← Int.natCast_mul, ← Int.natCast_mul]
      unfold one64
      rw [← Nat.pow_add, ← Nat.pow_add]
      congr 2
      have := ha.2.1; have := hb.2.1; omega
    rw [Int.mul_assoc (n * m), this]
    ac_rfl
  obtain ⟨h1, h2⟩ := V_dmul ha.1 hb.1 (by
    rw [e, Int.natAbs_mul, Int.natAbs_natCast]
    exact Nat.mul_le_mul_right _ (big_R h (by omega)))
  refine ⟨h1, hkj, ?_⟩
  rw [h2]
  exact rnd_exact one64_pos e (rep_R h (by omega))
theorem divalg {n c m P Q X U I J : Int} (h : n * P = c * m * Q) (e2 : X * Q = U) (e3 : I * J * P = U * U) : n * X * U * (Q * P) = c * I * (m * J) * (Q * P) := by
  have l : n * X * U * (Q * P) = (n * P) * (X * Q) * U := by ac_rfl
  have r : c * I * (m * J) * (Q * P) = c * m * Q * (I * J * P) := by ac_rfl
  rw [l, r, h, e2, e3, Int.mul_assoc (c * m * Q)]
theorem DV_div {n m c : Int} {k j i : Nat} {a b : UInt64} (ha : DV n k a) (hb : DV m j b) (hi : i ≤ 1074) (hm : m ≠ 0) (hc : R53 c) (h : n * ((2 ^ (j + i) : Nat) : Int) = c * m * ((2 ^ k : Nat) : Int)) : DV c i (FP.ddiv a b) := by
  have hb0 : V b ≠ 0 := by
    rw [hb.2.2]
    intro q
    rcases Int.mul_eq_zero.mp q with q | q
    · exact hm q
    · have := Nat.two_pow_pos (1074 - j); omega
  have hk := ha.2.1
  have hj := hb.2.1
  -- V a * U = (c * 2^(1074 - i)) * V b
  have e : V a * (one64 : Int) = c * ((2 ^ (1074 - i) : Nat) : Int) * V b := by
    have pp : ((2 ^ (k + j + i) : Nat) : Int) ≠ 0 := by have := Nat.two_pow_pos (k + j + i); omega
    refine Int.eq_of_mul_eq_mul_right pp ?_
    rw [ha.2.2, hb.2.2]
    have e1 : ((2 ^ (k + j + i) : Nat) : Int) = ((2 ^ k : Nat) : Int) * ((2 ^ (j + i) : Nat) : Int) := by rw [← Int.natCast_mul, ← Nat.pow_add, Nat.add_assoc]
    have e2 : ((2 ^ (1074 - k) : Nat) : Int) * ((2 ^ k : Nat) : Int) = (one64 : Int) := by rw [← Int.natCast_mul, ← Nat.pow_add, Nat.sub_add_cancel hk]; rfl
    have e3 : ((2 ^ (1074 - i) : Nat) : Int) * ((2 ^ (1074 - j) : Nat) : Int) * ((2 ^ (j + i) : Nat) : Int) = (one64 : Int) * (one64 : Int) := by
      rw [← Int.natCast_mul, ← Int.natCast_mul, ← Int.natCast_mul]
      unfold one64
      rw [← Nat.pow_add, ← Nat.pow_add, ← Nat.pow_add]
      congr 2
      omega
    rw [e1]
    exact divalg h e2 e3
  have ea : (V a).natAbs * one64 = (c * ((2 ^ (1074 - i) : Nat) : Int)).natAbs * (V b).natAbs := by
    have := congrArg Int.natAbs e
    rwa [Int.natAbs_mul, Int.natAbs_mul, Int.natAbs_natCast] at this
  obtain ⟨h1, h2⟩ := V_ddiv ha.1 hb.1 hb0 (by rw [ea]; exact Nat.mul_le_mul_right _ (big_R hc (by omega)))
  refine ⟨h1, hi, ?_⟩
  rw [h2]
  refine rnd_exact (by omega) ?_ (rep_R hc (by omega))
  rw [e, Int.mul_assoc, Int.mul_sign_self]
theorem DV_l2d {n : Int64} (h : R53 n.toInt) : DV n.toInt 0 (FP.l2d n) := by
  obtain ⟨h1, h2⟩ := V_l2d n
  exact DV_of_V h1 (by decide) h h2
theorem DV_i2d (n : Int32) : DV n.toInt 0 (FP.i2d n) := by
  obtain ⟨h1, h2⟩ := V_i2d n
  exact DV_of_V h1 (by decide) (r53 (Nat.le_trans (int32_abs n) (by decide))) h2
theorem DV_const {a : UInt64} {n : Int} {k : Nat} (h1 : a.toNat % 2 ^ 63 < 9218868437227405312) (hk : k ≤ 1074) (h2 : V a = n * ((2 ^ (1074 - k) : Nat) : Int)) : DV n k a := ⟨(fin_bits a).mpr h1, hk, h2⟩
theorem DV_0 : DV 0 0 FP.dconst0 := DV_const (by decide) (by decide) (by decide +kernel)
theorem DV_1 : DV 1 0 FP.dconst1 := DV_const (by decide) (by decide) (by decide +kernel)
theorem DV_z : DV 0 0 (0 : UInt64) := DV_const (by decide) (by decide) (by decide +kernel)
theorem cmpv_V {a b : UInt64} (ha : DFin a) (hb : DFin b) (o : ClassFile.CmpOp) : (V a < V b → Op.cmpValue (FP.dcmp a b) o = -1) ∧ (V a = V b → Op.cmpValue (FP.dcmp a b) o = 0) ∧ (V b < V a → Op.cmpValue (FP.dcmp a b) o = 1) := by
  rw [cmp_V ha hb]
  refine ⟨fun h => ?_, fun h => ?_, fun h => ?_⟩
  · rw [(compare_lt_iff _ _).mpr h]; rfl
  · rw [(compare_eq_iff _ _).mpr h]; rfl
  · rw [(compare_gt_iff _ _).mpr h]; rfl
theorem DV_le {n m : Int} {k : Nat} {a b : UInt64} (ha : DV n k a) (hb : DV m k b) : (V a < V b ↔ n < m) ∧ (V a = V b ↔ n = m) := by
  rw [ha.2.2, hb.2.2]
  have hp : (0 : Int) < ((2 ^ (1074 - k) : Nat) : Int) := by have := Nat.two_pow_pos (1074 - k); omega
  exact ⟨Int.mul_lt_mul_right hp, ⟨fun q => Int.eq_of_mul_eq_mul_right (by omega) q, fun q => by rw [q]⟩⟩
theorem DV_cmp {n m : Int} {k : Nat} {a b : UInt64} (ha : DV n k a) (hb : DV m k b) (o : ClassFile.CmpOp) : (n < m → Op.cmpValue (FP.dcmp a b) o = -1) ∧ (n = m → Op.cmpValue (FP.dcmp a b) o = 0) ∧ (m < n → Op.cmpValue (FP.dcmp a b) o = 1) := by
  obtain ⟨h1, h2, h3⟩ := cmpv_V ha.1 hb.1 o
  exact ⟨fun q => h1 ((DV_le ha hb).1.mpr q), fun q => h2 ((DV_le ha hb).2.mpr q), fun q => h3 ((DV_le hb ha).1.mpr q)⟩
theorem DV_eq0 {n : Int} {k : Nat} {a b : UInt64} (ha : DV n k a) (hb : DV n k b) (o : ClassFile.CmpOp) : Op.cmpValue (FP.dcmp a b) o = 0 := (DV_cmp ha hb o).2.1 rfl
theorem DV_d2l {n : Int} {a : UInt64} (h : DV n 0 a) (h1 : -9223372036854775808 ≤ n) (h2 : n < 9223372036854775808) : (FP.d2l a).toInt = n := by
  obtain ⟨hf, -, hv⟩ := h
  have hn : val64 a ≠ .nan := by obtain ⟨s, c, q, e⟩ := hf; rw [e]; exact Datum.noConfusion
  rw [show FP.d2l a = Core.d2l a from rfl, d2l_val hn, zmag_V]
  have hs : signed (sgn (val64 a)) (V a).natAbs = V a := by rw [← zmag_V]; rfl
  have ho : (1074 - 0 : Nat) = 1074 := rfl
  rw [ho, show (2 ^ 1074 : Nat) = one64 from rfl] at hv
  have hm : (V a).natAbs = n.natAbs * one64 := by rw [hv, Int.natAbs_mul, Int.natAbs_natCast]
  have hd : (V a).natAbs / one64 = n.natAbs := by rw [hm, Nat.mul_div_cancel _ one64_pos]
  rw [hd]
  have hsn : signed (sgn (val64 a)) n.natAbs = n := by
    rw [hm, signed_mul, hv] at hs
    exact Int.eq_of_mul_eq_mul_right (by have := one64_pos; omega) hs
  rw [hsn]
  omega
end Jvm.OwnF
namespace Jvm.OwnF
open Jvm.RoadKit
/-! ints and longs as whole numbers -/
theorem mul_bd {a b : Int} {A B : Nat} (ha : a.natAbs ≤ A) (hb : b.natAbs ≤ B) : (a * b).natAbs ≤ A * B := by rw [Int.natAbs_mul]; exact Nat.mul_le_mul ha hb
theorem iadd_v {x y z : Int32} (h : x + y = z) (hb : (x.toInt + y.toInt).natAbs < 2147483648) : z.toInt = x.toInt + y.toInt := by rw [← h, Int32.toInt_add]; exact Int.bmod_eq_of_le (by omega) (by omega)
theorem isub_v {x y z : Int32} (h : x - y = z) (hb : (x.toInt - y.toInt).natAbs < 2147483648) : z.toInt = x.toInt - y.toInt := by rw [← h, Int32.toInt_sub]; exact Int.bmod_eq_of_le (by omega) (by omega)
theorem imul_v {x y z : Int32} (h : x * y = z) (hb : (x.toInt * y.toInt).natAbs < 2147483648) : z.toInt = x.toInt * y.toInt := by rw [← h, Int32.toInt_mul]; exact Int.bmod_eq_of_le (by omega) (by omega)
theorem ladd_v {x y z : Int64} (h : x + y = z) (hb : (x.toInt + y.toInt).natAbs < 9223372036854775808) : z.toInt = x.toInt + y.toInt := by rw [← h, Int64.toInt_add]; exact Int.bmod_eq_of_le (by omega) (by omega)
theorem lsub_v {x y z : Int64} (h : x - y = z) (hb : (x.toInt - y.toInt).natAbs < 9223372036854775808) : z.toInt = x.toInt - y.toInt := by rw [← h, Int64.toInt_sub]; exact Int.bmod_eq_of_le (by omega) (by omega)
theorem lmul_v {x y z : Int64} (h : x * y = z) (hb : (x.toInt * y.toInt).natAbs < 9223372036854775808) : z.toInt = x.toInt * y.toInt := by rw [← h, Int64.toInt_mul]; exact Int.bmod_eq_of_le (by omega) (by omega)
theorem i2l_v {x : Int32} {z : Int64} (h : x.toInt64 = z) : z.toInt = x.toInt := by rw [← h]; exact c_i2l x
theorem l2i_v {x : Int64} {z : Int32} (h : x.toInt32 = z) (hb : -2147483648 ≤ x.toInt ∧ x.toInt < 2147483648) : z.toInt = x.toInt := by
  rw [← h]; have h1 := c_l2i x; have h2 := rng32 x.toInt32; omega
theorem rng32b (x : Int32) : x.toInt.natAbs ≤ 2147483648 := by have := rng32 x; omega
theorem rng64b (x : Int64) : x.toInt.natAbs ≤ 9223372036854775808 := by have := rng64 x; omega
theorem ishr16 {p z : Int32} (h : p >>> ((16 : Int32) &&& 31) = z) : z.toInt = p.toInt / 65536 := by
  rw [← h, c_ishr p 16 16 (by decide)]; rfl
theorem i2s_b {x z : Int32} (h : x.toInt16.toInt32 = z) : -32768 ≤ z.toInt ∧ z.toInt < 32768 := by rw [← h]; exact (c_i2s x).2
/-- x % y, y > 0, x ≥ 0 -/
theorem irem_v {x y z : Int32} (h : x % y = z) (hx : 0 ≤ x.toInt) : z.toInt = x.toInt % y.toInt := by rw [← h, Int32.toInt_mod]; exact Int.tmod_eq_emod_of_nonneg hx
theorem lrem_v {x y z : Int64} (h : x % y = z) (hx : 0 ≤ x.toInt) : z.toInt = x.toInt % y.toInt := by rw [← h, Int64.toInt_mod]; exact Int.tmod_eq_emod_of_nonneg hx
theorem mask31 {x z : Int32} (h : x &&& (2147483647 : Int32) = z) : 0 ≤ z.toInt ∧ z.toInt < 2147483648 := by
  rw [← h, c_mask x 2147483647 31 (by decide) (by decide)]
  have e : ((2 ^ 31 : Nat) : Int) = 2147483648 := by decide
  rw [e]; omega
/-- x << q, q < 64, no overflow -/
theorem lshl_v {x z : Int64} {q : Int32} (h : x <<< (q &&& 0x3f).toInt64 = z) {k : Nat} (hq : q.toInt = (k : Int)) (hk : k < 64) (hb : (x.toInt * ((2 ^ k : Nat) : Int)).natAbs < 9223372036854775808) : z.toInt = x.toInt * ((2 ^ k : Nat) : Int) := by
  have hn : q.toBitVec.toNat % 64 = k := by
    have e : q.toBitVec.toNat = k := by
      have h1 : q.toBitVec.toInt = (k : Int) := hq
      have h2 := BitVec.toInt_eq_toNat_bmod q.toBitVec
      rw [h1] at h2
      have h3 := q.toBitVec.isLt
      have h4 := Int.bmod_emod (x := (q.toBitVec.toNat : Int)) (m := 2 ^ 32)
      omega
    omega
  have := c_lshl x q k hn
  rw [h] at this
  have r := rng64 z
  omega
end Jvm.OwnF
namespace Jvm.OwnF
open Jvm.RoadKit
theorem nat32 {q : Int32} {k : Nat} (hq : q.toInt = (k : Int)) : q.toBitVec.toNat = k := by
  have h1 : q.toBitVec.toInt = (k : Int) := hq
  have h2 := BitVec.toInt_eq_toNat_bmod q.toBitVec
  rw [h1] at h2
  have h3 := q.toBitVec.isLt
  have h5 := rng32 q
  have h4 := Int.bmod_emod (x := (q.toBitVec.toNat : Int)) (m := 2 ^ 32)
  omega
theorem ishl_v {x z q : Int32} (h : x <<< (q &&& 31) = z) {k : Nat} (hq : q.toInt = (k : Int)) (hk : k < 32) (hb : (x.toInt * ((2 ^ k : Nat) : Int)).natAbs < 2147483648) : z.toInt = x.toInt * ((2 ^ k : Nat) : Int) := by
  have hn : q.toBitVec.toNat % 32 = k := by rw [nat32 hq]; omega
  have := c_ishl x q k hn
  rw [h] at this
  have r := rng32 z
  omega
theorem ishl_1 {z q : Int32} (h : (1 : Int32) <<< (q &&& 31) = z) {k : Nat} (hq : q.toInt = (k : Int)) (hk : k < 31) : z.toInt = ((2 ^ k : Nat) : Int) := by
  have p : 2 ^ k ≤ 2 ^ 30 := Nat.pow_le_pow_right (by decide) (by omega)
  have := ishl_v h hq (by omega) (by rw [show (1 : Int32).toInt = 1 by decide, Int.one_mul, Int.natAbs_natCast]; omega)
  rw [show (1 : Int32).toInt = 1 by decide, Int.one_mul] at this
  exact this
end Jvm.OwnF
namespace Jvm.OwnF
open Jvm.FP Jvm.FP.Core
/-! the rounding is a nearest one; the sum's error -/
def RepU (r : Int) : Prop := ∃ (m : Int) (e : Nat), r = m * ((2 ^ e : Nat) : Int) ∧ m.natAbs < 2 ^ 53
theorem Rep.u {r : Int} (h : Rep r) : RepU r := by obtain ⟨m, e, h1, h2, -⟩ := h; exact ⟨m, e, h1, h2⟩
theorem RepU.rep {r : Int} (h : RepU r) (hb : r.natAbs ≤ BIG) : Rep r := by
  obtain ⟨m, e, rfl, hm⟩ := h
  by_cases h0 : m = 0
  · subst h0; exact ⟨0, 0, by simp, by decide, by decide⟩
  · refine ⟨m, e, rfl, hm, ?_⟩
    rw [Int.natAbs_mul, Int.natAbs_natCast] at hb
    have h1 : 1 ≤ m.natAbs := by omega
    have h2 : 2 ^ e ≤ 2 ^ 2000 := Nat.le_trans (Nat.le_mul_of_pos_left _ h1) hb
    have := (Nat.pow_le_pow_iff_right (by decide : 1 < 2)).mp h2
    omega
theorem RepU.neg {r : Int} (h : RepU r) : RepU (-r) := by
  obtain ⟨m, e, rfl, hm⟩ := h
  exact ⟨-m, e, by rw [Int.neg_mul], by rwa [Int.natAbs_neg]⟩
theorem RepU.zero : RepU 0 := ⟨0, 0, by simp, by decide⟩
theorem repU_of {m : Int} {e : Nat} (hm : m.natAbs ≤ 2 ^ 53) : RepU (m * ((2 ^ e : Nat) : Int)) := by
  by_cases h : m.natAbs < 2 ^ 53
  · exact ⟨m, e, rfl, h⟩
  · refine ⟨m.sign, e + 53, ?_, ?_⟩
    · have h1 : m.natAbs = 2 ^ 53 := by omega
      have h2 : m = m.sign * (m.natAbs : Int) := (Int.sign_mul_natAbs m).symm
      conv => lhs; rw [h2, h1]
      rw [Nat.pow_add, Int.natCast_mul, Int.mul_assoc]
      congr 1
      rw [Int.mul_comm]
    · have : m.sign.natAbs ≤ 1 := by
        rcases Int.lt_trichotomy m 0 with q | q | q
        · rw [Int.sign_eq_neg_one_of_neg q]; decide
        · rw [q]; decide
        · rw [Int.sign_eq_one_of_pos q]; decide
      omega
theorem rnd_fin {n : Int} {d : Nat} (hd : 0 < d) (hn : n.natAbs ≤ BIG * d) : ∃ c q, roundRatio b64 (decide (n < 0)) n.natAbs d (-1074) = .fin (decide (n < 0)) c q ∧ Jvm.FP.Core.fits b64 (.fin (decide (n < 0)) c q) ∧ rnd n d = signed (decide (n < 0)) (inUnits c q (-1074)) := by
  obtain ⟨c, q, h⟩ := fin_round (s := decide (n < 0)) hd hn
  refine ⟨c, q, h, h ▸ roundRatio_fits good_b64 _ _ hd _, ?_⟩
  unfold rnd
  rw [h]
  show signed _ (inUnits c q b64.qmin) = _
  rw [qmin_b64]
  rfl
theorem rnd_rep {n : Int} {d : Nat} (hd : 0 < d) (hn : n.natAbs ≤ BIG * d) : RepU (rnd n d) := by
  obtain ⟨c, q, -, h2, h3⟩ := rnd_fin hd hn
  rw [h3]
  unfold inUnits
  rw [signed_mul]
  exact ⟨_, _, rfl, by rw [natAbs_signed]; exact h2.1⟩
theorem rnd_near {n : Int} {d : Nat} {r : Int} (hd : 0 < d) (hn : n.natAbs ≤ BIG * d) (hr : RepU r) : (n - rnd n d * (d : Int)).natAbs ≤ (n - r * (d : Int)).natAbs := by
  obtain ⟨c, q, h1, h2, h3⟩ := rnd_fin hd hn
  have near : ∀ (c' : Nat) (e' : Nat), c' < 2 ^ 53 → ((n.natAbs : Int) - (inUnits c q (-1074) : Int) * (d : Int)).natAbs ≤ ((n.natAbs : Int) - ((c' * 2 ^ e' : Nat) : Int) * (d : Int)).natAbs := by
    intro c' e' hc'
    have := roundRatio_nearest good_b64 (e0 := -1074) (q' := (e' : Int) - 1074) hd h1 (c' := c') hc' (by rw [qmin_b64]; omega) (by rw [qmin_b64]; decide) (by decide)
    unfold distance at this
    rw [un0] at this
    unfold inUnits at this ⊢
    rw [show ((e' : Int) - 1074 - -1074).toNat = e' by omega] at this
    exact this
  have hrn : rnd n d * (d : Int) = signed (decide (n < 0)) (inUnits c q (-1074) * d) := by rw [h3, signed_mul]
  rw [hrn]
  have n0 := near 0 0 (by decide)
  obtain ⟨m, e, rfl, hm⟩ := hr
  have nm := near m.natAbs e hm
  have e1 : ((inUnits c q (-1074) : Nat) : Int) * (d : Int) = ((inUnits c q (-1074) * d : Nat) : Int) := by simp
  have e2 : ((m.natAbs * 2 ^ e : Nat) : Int) * (d : Int) = ((m.natAbs * 2 ^ e * d : Nat) : Int) := by simp
  rw [e1] at n0 nm
  rw [e2] at nm
  have e3 : m * ((2 ^ e : Nat) : Int) * (d : Int) = signed (decide (m < 0)) (m.natAbs * 2 ^ e * d) := by rw [Nat.mul_assoc, signed_mul, signed_natAbs, Int.natCast_mul, Int.mul_assoc]
  rw [e3]
  simp only [Nat.zero_mul, Int.natCast_zero, Int.zero_mul, Int.sub_zero] at n0
  generalize inUnits c q (-1074) * d = x at *
  generalize m.natAbs * 2 ^ e * d = y at *
  by_cases hn0 : n < 0 <;> by_cases hm0 : m < 0 <;> simp only [hn0, hm0, decide_true, decide_false, signed, if_true, Bool.false_eq_true, if_false] <;> omega
theorem rnd_mono {n n' : Int} {d d' : Nat} (hd : 0 < d) (hd' : 0 < d') (hn : n.natAbs ≤ BIG * d) (hn' : n'.natAbs ≤ BIG * d') (h : n * (d' : Int) ≤ n' * (d : Int)) : rnd n d ≤ rnd n' d' := by
  refine Int.le_of_not_gt fun hlt => ?_
  have r1 := rnd_near hd hn (rnd_rep hd' hn')
  have r2 := rnd_near hd' hn' (rnd_rep hd hn)
  have hne : n * (d' : Int) ≠ n' * (d : Int) := fun q => by
    have := rnd_congr hd hd' q
    omega
  generalize rnd n d = a at *
  generalize rnd n' d' = b at *
  have pd : (0 : Int) < d := by omega
  have pd' : (0 : Int) < d' := by omega
  have k1 : b * (d : Int) < a * (d : Int) := Int.mul_lt_mul_of_pos_right hlt pd
  have k2 : b * (d' : Int) < a * (d' : Int) := Int.mul_lt_mul_of_pos_right hlt pd'
  -- 2 n ≥ (a + b) d and 2 n' ≤ (a + b) d'
  have q1 : (a + b) * (d : Int) ≤ 2 * n := by rw [Int.add_mul]; omega
  have q2 : 2 * n' ≤ (a + b) * (d' : Int) := by rw [Int.add_mul]; omega
  have q3 := Int.mul_le_mul_of_nonneg_right q1 (Int.le_of_lt pd')
  have q4 := Int.mul_le_mul_of_nonneg_right q2 (Int.le_of_lt pd)
  have q3' : (a + b) * ((d : Int) * (d' : Int)) ≤ 2 * (n * (d' : Int)) := by rw [← Int.mul_assoc (a + b), ← Int.mul_assoc 2 n]; exact q3
  have q4' : 2 * (n' * (d : Int)) ≤ (a + b) * ((d : Int) * (d' : Int)) := by rw [← Int.mul_assoc 2 n', Int.mul_comm (d : Int) d', ← Int.mul_assoc (a + b)]; exact q4
  omega
theorem rnd_neg (n : Int) {d : Nat} (hd : 0 < d) : rnd (-n) d = -rnd n d := by
  by_cases h0 : n = 0
  · subst h0
    have : rnd 0 d = 0 := zval_zero _ _ _
    simp [this]
  · unfold rnd
    rw [Int.natAbs_neg, ← zval_negate, negate_roundRatio]
    congr 2
    by_cases h : n < 0
    · simp [h, show ¬ (0 < n) by omega]
    · simp [h, show 0 < n by omega]
/-- multiples of 2^e up to 2^53 of them -/
theorem g1 {r : Int} {e : Nat} (h : ((2 ^ e : Nat) : Int) ∣ r) (hb : r.natAbs ≤ 2 ^ 53 * 2 ^ e) : RepU r := by
  obtain ⟨k, rfl⟩ := h
  rw [Int.mul_comm]
  refine repU_of ?_
  rw [Int.natAbs_mul, Int.natAbs_natCast, Nat.mul_comm] at hb
  exact Nat.le_of_mul_le_mul_right hb (Nat.two_pow_pos e)
theorem g2 {r : Int} {e : Nat} (h : RepU r) (hb : 2 ^ 52 * 2 ^ e ≤ r.natAbs) : ((2 ^ e : Nat) : Int) ∣ r := by
  obtain ⟨m, f, rfl, hm⟩ := h
  rw [Int.natAbs_mul, Int.natAbs_natCast] at hb
  have h1 : 2 ^ (52 + e) < 2 ^ (53 + f) := by
    rw [Nat.pow_add, Nat.pow_add]
    exact Nat.lt_of_le_of_lt hb (Nat.mul_lt_mul_of_pos_right hm (Nat.two_pow_pos f))
  have h2 := (Nat.pow_lt_pow_iff_right (by decide : 1 < 2)).mp h1
  have h3 : 2 ^ f = 2 ^ e * 2 ^ (f - e) := by rw [← Nat.pow_add]; congr 1; omega
  rw [h3, Int.natCast_mul, ← Int.mul_assoc, Int.mul_comm m, Int.mul_assoc]
  exact Int.dvd_mul_right _ _
theorem floor_bd {n G : Int} (hp : 0 < G) (hb : (n.natAbs : Int) ≤ G * 9007199254740992) (hz : n % G ≠ 0) : -9007199254740992 ≤ n / G ∧ n / G < 9007199254740992 := by
  have hdm := Int.mul_ediv_add_emod n G
  have h0 := Int.emod_nonneg n (Int.ne_of_gt hp)
  have h1 := Int.emod_lt_of_pos n hp
  generalize n / G = k at *
  generalize n % G = x at *
  constructor
  · refine Int.le_of_not_gt fun q => ?_
    have : G * k ≤ G * (-9007199254740993) := Int.mul_le_mul_of_nonneg_left (by omega) (Int.le_of_lt hp)
    rw [Int.mul_neg] at this
    have e1 : G * 9007199254740993 = G * 9007199254740992 + G := by rw [show (9007199254740993 : Int) = 9007199254740992 + 1 from rfl, Int.mul_add, Int.mul_one]
    omega
  · refine Int.lt_of_not_ge fun q => ?_
    have : G * 9007199254740992 ≤ G * k := Int.mul_le_mul_of_nonneg_left q (Int.le_of_lt hp)
    omega
theorem g3 {n : Int} {e : Nat} (hn : n.natAbs ≤ BIG) (hb : n.natAbs ≤ 2 ^ 53 * 2 ^ e) : 2 * (n - rnd n 1).natAbs ≤ 2 ^ e := by
  have hn' : n.natAbs ≤ BIG * 1 := by omega
  have hp : (0 : Int) < ((2 ^ e : Nat) : Int) := by have := Nat.two_pow_pos e; omega
  have near : ∀ {r : Int}, RepU r → (n - rnd n 1).natAbs ≤ (n - r).natAbs := fun {r} hr => by
    have := rnd_near (by decide) hn' hr
    simpa using this
  by_cases hz : n % ((2 ^ e : Nat) : Int) = 0
  · have := near (g1 (Int.dvd_of_emod_eq_zero hz) hb)
    rw [Int.sub_self] at this
    have h2 : (n - rnd n 1).natAbs = 0 := by simpa using this
    rw [h2]; exact Nat.zero_le _
  · have hbI : (n.natAbs : Int) ≤ ((2 ^ e : Nat) : Int) * 9007199254740992 := by
      have : ((n.natAbs : Nat) : Int) ≤ ((2 ^ 53 * 2 ^ e : Nat) : Int) := Int.ofNat_le.mpr hb
      rw [Int.natCast_mul, Int.mul_comm] at this
      exact this
    obtain ⟨k1, k2⟩ := floor_bd hp hbI hz
    have lo := near (repU_of (m := n / ((2 ^ e : Nat) : Int)) (e := e) (by omega))
    have hi := near (repU_of (m := n / ((2 ^ e : Nat) : Int) + 1) (e := e) (by omega))
    have hdm := Int.mul_ediv_add_emod n ((2 ^ e : Nat) : Int)
    have h0 := Int.emod_nonneg n (Int.ne_of_gt hp)
    have h1 := Int.emod_lt_of_pos n hp
    rw [Int.add_mul, Int.one_mul] at hi
    rw [Int.mul_comm] at lo hi
    generalize ((2 ^ e : Nat) : Int) * (n / ((2 ^ e : Nat) : Int)) = f at *
    generalize n % ((2 ^ e : Nat) : Int) = x at *
    generalize (n - rnd n 1).natAbs = w at *
    generalize 2 ^ e = G at *
    omega
theorem near1 {n r : Int} (hn : n.natAbs ≤ BIG) (hr : RepU r) : (n - rnd n 1).natAbs ≤ (n - r).natAbs := by
  have := rnd_near (n := n) (d := 1) (by decide) (by omega) hr
  simpa using this
theorem rep1 {n : Int} (hn : n.natAbs ≤ BIG) : RepU (rnd n 1) := rnd_rep (by decide) (by omega)
theorem exact1 {n : Int} (hn : n.natAbs ≤ BIG) (hr : RepU n) : rnd n 1 = n := rnd_exact (by decide) (by simp) (hr.rep hn)
theorem twice1 {n : Int} (hn : n.natAbs ≤ BIG) : (rnd n 1).natAbs ≤ 2 * n.natAbs := by
  have := near1 hn RepU.zero
  rw [Int.sub_zero] at this
  omega
/-- a number as great as a power rounds to one as great -/
theorem ge1 {n : Int} {e : Nat} (hn : n.natAbs ≤ BIG) (h : 2 ^ e ≤ n.natAbs) : 2 ^ e ≤ (rnd n 1).natAbs := by
  have r1 : RepU ((2 ^ e : Nat) : Int) := ⟨1, e, by simp, by decide⟩
  have n1 := near1 hn r1
  have n2 := near1 hn r1.neg
  omega
/-- the least grid for a number: 2^f with |n| ≤ 2^53 * 2^f, and |n| > 2^52 * 2^f unless f = 0 -/
theorem grid (n : Nat) : ∃ f : Nat, n ≤ 2 ^ 53 * 2 ^ f ∧ (f = 0 ∨ 2 ^ 52 * 2 ^ f < n) := by
  by_cases h : n ≤ 2 ^ 53
  · exact ⟨0, by omega, Or.inl rfl⟩
  · have h1 : 2 ^ (n - 1).log2 ≤ n - 1 := Nat.log2_self_le (by omega)
    have h2 : n - 1 < 2 ^ ((n - 1).log2 + 1) := Nat.lt_log2_self
    have h3 : 53 ≤ (n - 1).log2 := by
      refine Nat.le_of_not_lt fun q => ?_
      have : 2 ^ ((n - 1).log2 + 1) ≤ 2 ^ 53 := Nat.pow_le_pow_right (by decide) (by omega)
      omega
    refine ⟨(n - 1).log2 - 52, ?_, Or.inr ?_⟩
    · rw [← Nat.pow_add, show 53 + ((n - 1).log2 - 52) = (n - 1).log2 + 1 by omega]; omega
    · rw [← Nat.pow_add, show 52 + ((n - 1).log2 - 52) = (n - 1).log2 by omega]; omega
theorem dvd_le {a b : Nat} (h : a ≤ b) : ((2 ^ a : Nat) : Int) ∣ ((2 ^ b : Nat) : Int) := Int.natCast_dvd_natCast.mpr (Nat.pow_dvd_pow 2 h)
/-- the error of a sum is a double -/
theorem err_rep {a b : Int} (ha : RepU a) (hb : RepU b) (hn : (a + b).natAbs ≤ BIG) : RepU (a + b - rnd (a + b) 1) := by
  have na := near1 hn ha
  have nb := near1 hn hb
  obtain ⟨ma, ea, ea', hma⟩ := id ha
  obtain ⟨mb, eb, eb', hmb⟩ := id hb
  -- the lesser of the two exponents
  have key : ∀ e : Nat, e ≤ ea → e ≤ eb → (a.natAbs ≤ 2 ^ 53 * 2 ^ e ∨ b.natAbs ≤ 2 ^ 53 * 2 ^ e) → RepU (a + b - rnd (a + b) 1) := by
    intro e h1 h2 h3
    have da : ((2 ^ e : Nat) : Int) ∣ a := by rw [ea']; exact Int.dvd_trans (dvd_le h1) (Int.dvd_mul_left _ _)
    have db : ((2 ^ e : Nat) : Int) ∣ b := by rw [eb']; exact Int.dvd_trans (dvd_le h2) (Int.dvd_mul_left _ _)
    have ds : ((2 ^ e : Nat) : Int) ∣ a + b := Int.dvd_add da db
    by_cases hs : (a + b).natAbs ≤ 2 ^ 53 * 2 ^ e
    · rw [exact1 hn (g1 ds hs), Int.sub_self]; exact RepU.zero
    · have h4 : 2 ^ (52 + e) ≤ (a + b).natAbs := by rw [Nat.pow_add]; omega
      have h5 := ge1 hn h4
      rw [Nat.pow_add] at h5
      have dr := g2 (rep1 hn) h5
      refine g1 (Int.dvd_sub ds dr) ?_
      rw [show a + b - a = b by omega] at na
      rw [show a + b - b = a by omega] at nb
      omega
  by_cases hle : ea ≤ eb
  · refine key ea (Nat.le_refl _) hle (Or.inl ?_)
    rw [ea', Int.natAbs_mul, Int.natAbs_natCast]
    exact Nat.mul_le_mul_right _ (Nat.le_of_lt hma)
  · refine key eb (by omega) (Nat.le_refl _) (Or.inr ?_)
    rw [eb', Int.natAbs_mul, Int.natAbs_natCast]
    exact Nat.mul_le_mul_right _ (Nat.le_of_lt hmb)
/-- the greater summand taken off the rounded sum leaves a double -/
theorem fast_rep {a b : Int} (ha : RepU a) (hb : RepU b) (hab : b.natAbs ≤ a.natAbs) (hn : (a + b).natAbs ≤ BIG) : RepU (rnd (a + b) 1 - a) := by
  obtain ⟨f, hf1, hf2⟩ := grid (a + b).natAbs
  rcases Nat.eq_zero_or_pos f with h0 | h0
  · subst h0
    have : RepU (a + b) := g1 (e := 0) (by simp) hf1
    rw [exact1 hn this, show a + b - a = b by omega]; exact hb
  · have hf3 : 2 ^ 52 * 2 ^ f < (a + b).natAbs := by omega
    have hG : 2 ^ f = 2 * 2 ^ (f - 1) := by conv => lhs; rw [show f = f - 1 + 1 by omega, Nat.pow_succ, Nat.mul_comm]
    have h5 : 2 ^ 52 * 2 ^ f ≤ (rnd (a + b) 1).natAbs := by
      rw [← Nat.pow_add]
      exact ge1 hn (by rw [Nat.pow_add]; omega)
    have d3 := g3 hn hf1
    have ds := g2 (rep1 hn) h5
    by_cases hbig : 2 ^ 53 * 2 ^ (f - 1) ≤ b.natAbs
    · -- both lie on the grid of the sum: it is exact
      have db := g2 (e := f) hb (by omega)
      have da := g2 (e := f) ha (by omega)
      rw [exact1 hn (g1 (Int.dvd_add da db) hf1), show a + b - a = b by omega]; exact hb
    · have da : ((2 ^ (f - 1) : Nat) : Int) ∣ a := g2 (e := f - 1) ha (by omega)
      have ds' : ((2 ^ (f - 1) : Nat) : Int) ∣ rnd (a + b) 1 := Int.dvd_trans (dvd_le (by omega)) ds
      have dd := Int.dvd_sub ds' da
      obtain ⟨k, hk⟩ := dd
      rw [hk, Int.mul_comm]
      refine repU_of ?_
      have hkn : (rnd (a + b) 1 - a).natAbs = 2 ^ (f - 1) * k.natAbs := by rw [hk, Int.natAbs_mul, Int.natAbs_natCast]
      have hlt : 2 ^ (f - 1) * k.natAbs < 2 ^ (f - 1) * (2 ^ 53 + 1) := by
        rw [← hkn, Nat.mul_add, Nat.mul_one, Nat.mul_comm (2 ^ (f - 1)) (2 ^ 53)]
        generalize rnd (a + b) 1 = s at *
        omega
      have := Nat.lt_of_mul_lt_mul_left hlt
      omega
/-- the smaller summand first: what is taken from the rounded sum lies near the greater one -/
theorem near_rep {a b : Int} (ha : RepU a) (hb : RepU b) (hab : a.natAbs ≤ b.natAbs) (hn : (a + b).natAbs ≤ BIG) (hn2 : (rnd (a + b) 1 - a).natAbs ≤ BIG) : RepU (b - rnd (rnd (a + b) 1 - a) 1) := by
  obtain ⟨f, hf1, hf2⟩ := grid b.natAbs
  have d1 := g3 (e := f + 1) hn (by rw [Nat.pow_succ]; omega)
  rw [Nat.pow_succ] at d1
  have d2 := near1 hn2 hb
  have rx := rep1 hn2
  generalize hs : rnd (a + b) 1 = s at *
  generalize hx : rnd (s - a) 1 = x at *
  have hbx : (b - x).natAbs ≤ 2 * 2 ^ f := by omega
  rcases Nat.eq_zero_or_pos f with h0 | h0
  · subst h0
    exact g1 (e := 0) (by simp) (by omega)
  · have hG : 2 ^ f = 2 * 2 ^ (f - 1) := by conv => lhs; rw [show f = f - 1 + 1 by omega, Nat.pow_succ, Nat.mul_comm]
    have db := g2 (e := f - 1) hb (by omega)
    have hp := Nat.two_pow_pos (f - 1)
    have dx := g2 (e := f - 1) rx (by omega)
    exact g1 (Int.dvd_sub db dx) (by omega)
/-- KNUTH's two-sum -/
theorem two_sum {a b : Int} (ha : RepU a) (hb : RepU b) (ba : a.natAbs ≤ 2 ^ 1900) (bb : b.natAbs ≤ 2 ^ 1900) {s x aa da db r : Int} (hs : s = rnd (a + b) 1) (hx : x = rnd (s - a) 1) (haa : aa = rnd (s - x) 1) (hda : da = rnd (a - aa) 1) (hdb : db = rnd (b - x) 1) (hr : r = rnd (da + db) 1) : r = a + b - s := by
  have hB : 64 * 2 ^ 1900 ≤ BIG := by unfold BIG; rw [show (64 : Nat) = 2 ^ 6 from rfl, ← Nat.pow_add]; exact Nat.pow_le_pow_right (by decide) (by decide)
  generalize 2 ^ 1900 = M at *
  have n1 : (a + b).natAbs ≤ BIG := by omega
  have s2 : s.natAbs ≤ 4 * M := by have := twice1 n1; rw [← hs] at this; omega
  have n2 : (s - a).natAbs ≤ BIG := by omega
  have x2 : x.natAbs ≤ 10 * M := by have := twice1 n2; rw [← hx] at this; omega
  have n3 : (s - x).natAbs ≤ BIG := by omega
  have n4 : (b - x).natAbs ≤ BIG := by omega
  have rs : RepU s := hs ▸ rep1 n1
  have err := err_rep ha hb n1
  rw [← hs] at err
  have eb : (a + b - s).natAbs ≤ BIG := by omega
  -- what suffices: the three differences are exact
  have fin : aa = s - x → da = a - aa → db = b - x → r = a + b - s := by
    intro e1 e2 e3
    rw [hr, e2, e3, e1, show a - (s - x) + (b - x) = a + b - s by omega]
    exact exact1 eb err
  by_cases hab : b.natAbs ≤ a.natAbs
  · have rx := fast_rep ha hb hab n1
    rw [← hs] at rx
    have ex : x = s - a := by rw [hx]; exact exact1 n2 rx
    have e1 : aa = s - x := by rw [haa, ex, show s - (s - a) = a by omega]; exact exact1 (by omega) ha
    refine fin e1 ?_ ?_
    · rw [hda, e1, ex, show a - (s - (s - a)) = 0 by omega]; exact exact1 (Nat.zero_le _) RepU.zero
    · rw [hdb, ex, show b - (s - a) = a + b - s by omega]; exact exact1 eb err
  · have e3 : db = b - x := by
      have := near_rep ha hb (by omega) n1 (by rw [← hs]; exact n2)
      rw [← hs, ← hx] at this
      rw [hdb]; exact exact1 n4 this
    -- either the sum is exact, or it is as great as a
    have alt : s = a + b ∨ a.natAbs ≤ s.natAbs := by
      obtain ⟨f, hf1, hf2⟩ := grid a.natAbs
      have da' : ((2 ^ f : Nat) : Int) ∣ a := by
        rcases hf2 with h0 | h0
        · subst h0; simp
        · exact g2 ha (by omega)
      have db' : ((2 ^ f : Nat) : Int) ∣ b := by
        rcases hf2 with h0 | h0
        · subst h0; simp
        · exact g2 hb (by omega)
      by_cases hsm : (a + b).natAbs ≤ 2 ^ 53 * 2 ^ f
      · exact Or.inl (hs.trans (exact1 n1 (g1 (Int.dvd_add da' db') hsm)))
      · right
        have : 2 ^ (53 + f) ≤ (a + b).natAbs := by rw [Nat.pow_add]; omega
        have := ge1 n1 this
        rw [← hs, Nat.pow_add] at this
        omega
    rcases alt with es | hge
    · have ex : x = b := by rw [hx, es, show a + b - a = b by omega]; exact exact1 (by omega) hb
      have e1 : aa = s - x := by rw [haa, ex, es, show a + b - b = a by omega]; exact exact1 (by omega) ha
      refine fin e1 ?_ e3
      rw [hda, e1, ex, es, show a - (a + b - b) = 0 by omega]; exact exact1 (Nat.zero_le _) RepU.zero
    · have n2' : (s + -a).natAbs ≤ BIG := by rw [← Int.sub_eq_add_neg]; exact n2
      have r1 := fast_rep rs ha.neg (by rw [Int.natAbs_neg]; exact hge) n2'
      have r2 := err_rep rs ha.neg n2'
      rw [← Int.sub_eq_add_neg, ← hx] at r1 r2
      have e1 : aa = s - x := by
        rw [haa]; exact exact1 n3 (by have := r1.neg; rwa [show -(x - s) = s - x by omega] at this)
      refine fin e1 ?_ e3
      rw [hda, e1]
      exact exact1 (by omega) (by have := r2.neg; rwa [show -(s - a - x) = a - (s - x) by omega] at this)
/-- DEKKER's fast two-sum -/
theorem fast_two {a b : Int} (ha : RepU a) (hb : RepU b) (ba : a.natAbs ≤ 2 ^ 1900) (hab : b.natAbs ≤ a.natAbs) {s x r : Int} (hs : s = rnd (a + b) 1) (hx : x = rnd (s - a) 1) (hr : r = rnd (b - x) 1) : r = a + b - s := by
  have hB : 64 * 2 ^ 1900 ≤ BIG := by unfold BIG; rw [show (64 : Nat) = 2 ^ 6 from rfl, ← Nat.pow_add]; exact Nat.pow_le_pow_right (by decide) (by decide)
  generalize 2 ^ 1900 = M at *
  have n1 : (a + b).natAbs ≤ BIG := by omega
  have s2 : s.natAbs ≤ 4 * M := by have := twice1 n1; rw [← hs] at this; omega
  have n2 : (s - a).natAbs ≤ BIG := by omega
  have err := err_rep ha hb n1
  rw [← hs] at err
  have rx := fast_rep ha hb hab n1
  rw [← hs] at rx
  have ex : x = s - a := by rw [hx]; exact exact1 n2 rx
  rw [hr, ex, show b - (s - a) = a + b - s by omega]
  exact exact1 (by omega) err
end Jvm.OwnF
namespace Jvm.OwnF
open Jvm.FP Jvm.FP.Core
/-! rounded whole numbers; two-sum on doubles -/
theorem le1 {n : Int} {e : Nat} (hn : n.natAbs ≤ BIG) (h : n.natAbs ≤ 2 ^ e) : (rnd n 1).natAbs ≤ 2 ^ e := by
  have r1 : RepU ((2 ^ e : Nat) : Int) := ⟨1, e, by simp, by decide⟩
  have n1 := near1 hn r1
  have n2 := near1 hn r1.neg
  have n3 := near1 hn RepU.zero
  generalize 2 ^ e = P at *
  omega
theorem pow_big {k : Nat} (h : k ≤ 2000) : 2 ^ k ≤ BIG := by unfold BIG; exact Nat.pow_le_pow_right (by decide) h
theorem mulU {n : Int} {k : Nat} (h : n.natAbs ≤ 2 ^ k) (j : Nat) : (n * ((2 ^ j : Nat) : Int)).natAbs ≤ 2 ^ (k + j) := by
  rw [Int.natAbs_mul, Int.natAbs_natCast, Nat.pow_add]; exact Nat.mul_le_mul_right _ h
/-- rounding keeps the grid that both stand on -/
theorem dvd_round {n : Int} {j : Nat} (hn : n.natAbs ≤ BIG) (hd : ((2 ^ j : Nat) : Int) ∣ n) : ((2 ^ j : Nat) : Int) ∣ rnd n 1 := by
  by_cases h : n.natAbs ≤ 2 ^ 53 * 2 ^ j
  · rw [exact1 hn (g1 hd h)]; exact hd
  · have h1 : 2 ^ (53 + j) ≤ n.natAbs := by rw [Nat.pow_add]; omega
    have h2 := ge1 hn h1
    rw [Nat.pow_add] at h2
    exact g2 (rep1 hn) (by omega)
theorem DV.fl {n : Int} {k : Nat} {a : UInt64} (h : DV n k a) : RepU (V a) := (rep_V h.1).u
theorem DV_of_dvd {a : UInt64} {k : Nat} (hf : DFin a) (hk : k ≤ 1074) (hd : ((2 ^ (1074 - k) : Nat) : Int) ∣ V a) : ∃ n, DV n k a := by
  obtain ⟨n, hn⟩ := hd
  exact ⟨n, hf, hk, by rw [hn, Int.mul_comm]⟩
/-- a rounded value on the grid 2^-k -/
theorem round_int {a : UInt64} {n : Int} {k j : Nat} (hk : k ≤ 1074) (hj : j ≤ 900) (hf : DFin a) (hn : n.natAbs ≤ 2 ^ j) (hv : V a = rnd (n * ((2 ^ (1074 - k) : Nat) : Int)) 1) : ∃ A : Int, DV A k a ∧ A.natAbs ≤ 2 ^ j := by
  have hb : (n * ((2 ^ (1074 - k) : Nat) : Int)).natAbs ≤ 2 ^ (j + (1074 - k)) := mulU hn _
  have hB : (n * ((2 ^ (1074 - k) : Nat) : Int)).natAbs ≤ BIG := Nat.le_trans hb (pow_big (by omega))
  have hd := dvd_round hB (Int.dvd_mul_left n ((2 ^ (1074 - k) : Nat) : Int))
  rw [← hv] at hd
  obtain ⟨A, hA⟩ := DV_of_dvd hf hk hd
  refine ⟨A, hA, ?_⟩
  have := le1 hB hb
  rw [← hv, hA.2.2, Int.natAbs_mul, Int.natAbs_natCast, Nat.pow_add] at this
  exact Nat.le_of_mul_le_mul_right this (Nat.two_pow_pos _)
theorem V_bd {n : Int} {k j : Nat} {a : UInt64} (h : DV n k a) (hn : n.natAbs ≤ 2 ^ j) : (V a).natAbs ≤ 2 ^ (j + 1074) := by
  rw [h.2.2]
  exact Nat.le_trans (mulU hn _) (Nat.pow_le_pow_right (by decide) (by omega))
theorem V_dadd' {a b z : UInt64} (h : FP.dadd a b = z) (ha : DFin a) (hb : DFin b) (hB : (V a + V b).natAbs ≤ BIG) : DFin z ∧ V z = rnd (V a + V b) 1 := h ▸ V_dadd ha hb hB
theorem V_dsub' {a b z : UInt64} (h : FP.dsub a b = z) (ha : DFin a) (hb : DFin b) (hB : (V a - V b).natAbs ≤ BIG) : DFin z ∧ V z = rnd (V a - V b) 1 := h ▸ V_dsub ha hb hB
theorem bigM : 64 * 2 ^ 1900 ≤ BIG := by unfold BIG; rw [show (64 : Nat) = 2 ^ 6 from rfl, ← Nat.pow_add]; exact Nat.pow_le_pow_right (by decide) (by decide)
theorem tw {n : Int} {z : UInt64} {K : Nat} (hv : V z = rnd n 1) (hn : n.natAbs ≤ BIG) (h : n.natAbs ≤ K) : (V z).natAbs ≤ 2 * K := by
  have := twice1 hn; rw [← hv] at this; omega
theorem DV_two {a b s x aa da db r : UInt64} (fa : DFin a) (fb : DFin b) (ba : (V a).natAbs ≤ 2 ^ 1800) (bb : (V b).natAbs ≤ 2 ^ 1800) (hs : FP.dadd a b = s) (hx : FP.dsub s a = x) (haa : FP.dsub s x = aa) (hda : FP.dsub a aa = da) (hdb : FP.dsub b x = db) (hr : FP.dadd da db = r) :
    DFin s ∧ DFin x ∧ DFin aa ∧ DFin da ∧ DFin db ∧ DFin r ∧ V r = V a + V b - V s := by
  have hB : 1000 * 2 ^ 1800 ≤ BIG := by unfold BIG; refine Nat.le_trans (Nat.mul_le_mul_right _ (show 1000 ≤ 2 ^ 10 by decide)) ?_; rw [← Nat.pow_add]; exact Nat.pow_le_pow_right (by decide) (by decide)
  have hM : 2 ^ 1800 ≤ 2 ^ 1900 := Nat.pow_le_pow_right (by decide) (by decide)
  obtain ⟨fs, vs⟩ := V_dadd' hs fa fb (by omega)
  have b1 := tw (K := 2 * 2 ^ 1800) vs (by omega) (by omega)
  obtain ⟨fx, vx⟩ := V_dsub' hx fs fa (by omega)
  have b2 := tw (K := 5 * 2 ^ 1800) vx (by omega) (by omega)
  obtain ⟨faa, vaa⟩ := V_dsub' haa fs fx (by omega)
  have b3 := tw (K := 14 * 2 ^ 1800) vaa (by omega) (by omega)
  obtain ⟨fda, vda⟩ := V_dsub' hda fa faa (by omega)
  have b4 := tw (K := 29 * 2 ^ 1800) vda (by omega) (by omega)
  obtain ⟨fdb, vdb⟩ := V_dsub' hdb fb fx (by omega)
  have b5 := tw (K := 11 * 2 ^ 1800) vdb (by omega) (by omega)
  obtain ⟨fr, vr⟩ := V_dadd' hr fda fdb (by omega)
  exact ⟨fs, fx, faa, fda, fdb, fr, two_sum (rep_V fa).u (rep_V fb).u (by omega) (by omega) vs vx vaa vda vdb vr⟩
end Jvm.OwnF
namespace Jvm.OwnF
open Jvm.FP Jvm.FP.Core
/-! scaling by a power of two -/
theorem settle_shift {s : Bool} {c : Nat} {q : Int} {j : Nat} {t : Bool} {c' : Nat} {q' : Int} (h : settle b64 s c q = .fin t c' q') (hq : q + 1 + (j : Int) ≤ b64.qmax) : settle b64 s c (q + j) = .fin t c' (q' + j) := by
  unfold settle bound at h ⊢
  by_cases h1 : c < 2 ^ b64.p
  · rw [if_pos h1] at h ⊢
    rw [if_pos (by omega)] at h ⊢
    cases h; rfl
  · rw [if_neg h1] at h ⊢
    rw [if_pos (by omega)] at h ⊢
    cases h
    rw [show q + (j : Int) + 1 = q + 1 + (j : Int) by omega]
theorem rr_shift {s : Bool} {A B : Nat} {j : Nat} {c' : Nat} {q' : Int} {t : Bool} (hA : 0 < A) (hB : 0 < B) (hlead : 53 ≤ leading A B) (hup : leading A B + (j : Int) ≤ 1900) (h : roundRatio b64 s A B (-1074) = .fin t c' q') : roundRatio b64 s A B (-1074 + (j : Int)) = .fin t c' (q' + j) := by
  unfold roundRatio at h ⊢
  rw [if_neg (by omega)] at h ⊢
  have hq : quantum b64 A B (-1074 + (j : Int)) = quantum b64 A B (-1074) + j := by
    unfold quantum
    rw [qmin_b64, show ((b64.p : Nat) : Int) = 53 from rfl]
    omega
  have hqv : quantum b64 A B (-1074) = leading A B - 1126 := by
    unfold quantum
    rw [qmin_b64, show ((b64.p : Nat) : Int) = 53 from rfl]
    omega
  rw [hq]
  unfold roundAt at h ⊢
  have e1 : unitsNum A (-1074 + (j : Int)) (quantum b64 A B (-1074) + j) = unitsNum A (-1074) (quantum b64 A B (-1074)) := by
    unfold unitsNum; congr 3; omega
  have e2 : unitsDen B (-1074 + (j : Int)) (quantum b64 A B (-1074) + j) = unitsDen B (-1074) (quantum b64 A B (-1074)) := by
    unfold unitsDen; congr 3; omega
  rw [e1, e2]
  refine settle_shift h ?_
  rw [hqv, show b64.qmax = 971 by decide]
  omega
theorem leading_ge {A B k : Nat} (hA : 0 < A) (hB : 0 < B) (h : 2 ^ k * B ≤ A) : (k : Int) ≤ leading A B := by
  have h2 := (leading_spec hA hB).2
  refine Int.le_of_not_gt fun q => ?_
  have h3 : Below A B (k : Int) := below_mono (by omega) h2
  unfold Below at h3
  rw [show (-(k : Int)).toNat = 0 by omega, show (k : Int).toNat = k by omega, Nat.mul_comm] at h3
  rw [Nat.mul_comm B] at h3
  omega
theorem leading_le {A B k : Nat} (hA : 0 < A) (hB : 0 < B) (h : A < 2 ^ k * B) : leading A B < (k : Int) := by
  have h2 := (leading_spec hA hB).1
  refine Int.lt_of_not_ge fun q => ?_
  refine h2 (below_mono (a := (k : Int)) q ?_)
  unfold Below
  rw [show (-(k : Int)).toNat = 0 by omega, show (k : Int).toNat = k by omega]
  rw [Nat.mul_comm B]
  omega
/-- above the subnormals scaling by 2^j commutes with rounding -/
theorem rnd_scale {n : Int} {d j K : Nat} (hd : 0 < d) (h1 : 2 ^ 53 * d ≤ n.natAbs) (h2 : n.natAbs < 2 ^ K * d) (hj : K + j ≤ 1900) : rnd (n * ((2 ^ j : Nat) : Int)) d = rnd n d * ((2 ^ j : Nat) : Int) := by
  have hA : 0 < n.natAbs := Nat.lt_of_lt_of_le (Nat.mul_pos (by decide) hd) h1
  have hb : n.natAbs ≤ BIG * d := Nat.le_trans (Nat.le_of_lt h2) (Nat.mul_le_mul_right _ (pow_big (by omega)))
  have hP : (0 : Int) < ((2 ^ j : Nat) : Int) := by have := Nat.two_pow_pos j; omega
  obtain ⟨c, q, e1, e2, e3⟩ := rnd_fin hd hb
  have hl1 := leading_ge hA hd h1
  have hl2 := leading_le hA hd h2
  have hs := rr_shift (j := j) hA hd hl1 (by omega) e1
  have hneg : decide (n * ((2 ^ j : Nat) : Int) < 0) = decide (n < 0) := by
    rw [decide_eq_decide]
    constructor
    · intro t
      refine Int.lt_of_not_ge fun u => ?_
      have := Int.mul_nonneg u (Int.le_of_lt hP)
      omega
    · intro t; exact Int.mul_neg_of_neg_of_pos t hP
  have e4 : rnd (n * ((2 ^ j : Nat) : Int)) d = zval b64 (roundRatio b64 (decide (n < 0)) n.natAbs d (-1074 + (j : Int))) := by
    unfold rnd
    rw [hneg, Int.natAbs_mul, Int.natAbs_natCast]
    congr 1
    refine roundRatio_congr hd hd ?_
    rw [show (-1074 - (-1074 + (j : Int))).toNat = 0 by omega, show (-1074 + (j : Int) - -1074).toNat = j by omega, Nat.pow_zero, Nat.mul_one]
    ac_rfl
  rw [e4, hs, e3]
  show signed _ (inUnits c (q + j) b64.qmin) = _
  rw [← signed_mul, qmin_b64]
  congr 1
  unfold inUnits
  rw [Nat.mul_assoc, ← Nat.pow_add]
  congr 2
  have := e2.2.1
  rw [qmin_b64] at this
  omega
/-- on whole numbers of units scaling always commutes -/
theorem rnd_scale1 {n : Int} {j K : Nat} (h2 : n.natAbs < 2 ^ K) (hj : K + j ≤ 1900) (hj2 : j ≤ 1074) : rnd (n * ((2 ^ j : Nat) : Int)) 1 = rnd n 1 * ((2 ^ j : Nat) : Int) := by
  by_cases h : 2 ^ 53 ≤ n.natAbs
  · exact rnd_scale (K := K) (by decide) (by omega) (by omega) hj
  · have hr : R53 n := r53 (by omega)
    have b0 : n.natAbs ≤ BIG := Nat.le_trans (Nat.le_of_lt h2) (pow_big (by omega))
    have r0 : RepU n := by have := rep_R hr (k := 0) (by decide); rw [Nat.pow_zero] at this; simpa using this.u
    rw [exact1 b0 r0]
    exact exact1 (big_R hr (by omega)) (rep_R hr (by omega)).u
theorem DV.r53 {n : Int} {k j : Nat} {a : UInt64} (h : DV n k a) (hj : j ≤ 700) (hn : n.natAbs ≤ 2 ^ j) : R53 n := by
  obtain ⟨m, e, hm, hb⟩ := h.fl
  rw [h.2.2] at hm
  have hk := h.2.1
  have hP := Nat.two_pow_pos (1074 - k)
  by_cases hle : 1074 - k ≤ e
  · have e1 : n = m * ((2 ^ (e - (1074 - k)) : Nat) : Int) := by
      refine Int.eq_of_mul_eq_mul_right (a := ((2 ^ (1074 - k) : Nat) : Int)) (by omega) ?_
      rw [hm, Int.mul_assoc, ← Int.natCast_mul, ← Nat.pow_add]
      congr 4; omega
    by_cases hm0 : m = 0
    · exact ⟨0, 0, by rw [e1, hm0]; simp, by decide, by decide⟩
    · refine ⟨m, _, e1, Nat.le_of_lt hb, ?_⟩
      have h3 : 2 ^ (e - (1074 - k)) ≤ n.natAbs := by
        rw [e1, Int.natAbs_mul, Int.natAbs_natCast]; exact Nat.le_mul_of_pos_left _ (by omega)
      have h4 := (Nat.pow_le_pow_iff_right (by decide : 1 < 2)).mp (Nat.le_trans h3 hn)
      omega
  · refine Jvm.OwnF.r53 ?_
    have e1 : n * ((2 ^ (1074 - k - e) : Nat) : Int) = m := by
      have he := Nat.two_pow_pos e
      refine Int.eq_of_mul_eq_mul_right (a := ((2 ^ e : Nat) : Int)) (by omega) ?_
      rw [← hm, Int.mul_assoc, ← Int.natCast_mul, ← Nat.pow_add]
      congr 4; omega
    have h5 : n.natAbs ≤ m.natAbs := by
      rw [← e1, Int.natAbs_mul, Int.natAbs_natCast]; exact Nat.le_mul_of_pos_right _ (Nat.two_pow_pos _)
    omega
end Jvm.OwnF
namespace Jvm.OwnF
open Jvm.FP Jvm.FP.Core
theorem le_rep {n : Int} {r : Int} (hn : n.natAbs ≤ BIG) (hr : RepU r) (h : n.natAbs ≤ r.natAbs) : (rnd n 1).natAbs ≤ r.natAbs := by
  have n1 := near1 hn hr
  have n2 := near1 hn hr.neg
  have n3 := near1 hn RepU.zero
  omega
theorem round_int' {a : UInt64} {n B : Int} {k : Nat} (hk : k ≤ 1074) (hB : R53 B) (hf : DFin a) (hn : n.natAbs ≤ B.natAbs) (hv : V a = rnd (n * ((2 ^ (1074 - k) : Nat) : Int)) 1) : ∃ A : Int, DV A k a ∧ A.natAbs ≤ B.natAbs := by
  have hb : (n * ((2 ^ (1074 - k) : Nat) : Int)).natAbs ≤ (B * ((2 ^ (1074 - k) : Nat) : Int)).natAbs := by
    rw [Int.natAbs_mul, Int.natAbs_mul]; exact Nat.mul_le_mul_right _ hn
  have hBB := big_R hB (k := 1074 - k) (by omega)
  have hnB := Nat.le_trans hb hBB
  have hd := dvd_round hnB (Int.dvd_mul_left n ((2 ^ (1074 - k) : Nat) : Int))
  rw [← hv] at hd
  obtain ⟨A, hA⟩ := DV_of_dvd hf hk hd
  refine ⟨A, hA, ?_⟩
  have := le_rep hnB (rep_R hB (by omega)).u hb
  rw [← hv, hA.2.2, Int.natAbs_mul, Int.natAbs_mul, Int.natAbs_natCast] at this
  exact Nat.le_of_mul_le_mul_right this (Nat.two_pow_pos _)
theorem R53.mulp {n : Int} (h : n.natAbs ≤ 2 ^ 53) {e : Nat} (he : e ≤ 800) : R53 (n * ((2 ^ e : Nat) : Int)) := ⟨n, e, rfl, h, he⟩
theorem i32n {z : Int32} {K : Int} (h1 : 0 ≤ z.toInt) (h2 : z.toInt < K) : z.toInt = ((z.toInt.toNat : Nat) : Int) ∧ ((z.toInt.toNat : Nat) : Int) < K := by omega
theorem p2le {a b : Nat} (h : a ≤ b) : (2 : Nat) ^ a ≤ 2 ^ b := Nat.pow_le_pow_right (by decide) h
end Jvm.OwnF
namespace Jvm.OwnF
open Jvm.FP Jvm.FP.Core
/-- a quotient by a whole number -/
theorem V_divi {a c z : UInt64} {D : Int} (dc : DV D 0 c) (hD : 0 < D) (h : FP.ddiv a c = z) (ha : DFin a) (hb : (V a).natAbs ≤ BIG * D.natAbs) : DFin z ∧ V z = rnd (V a) D.natAbs := by
  have hU : (0 : Int) < (one64 : Int) := by have := one64_pos; omega
  have hvc : V c = D * (one64 : Int) := dc.2.2
  have hc0 : V c ≠ 0 := by rw [hvc]; exact Int.ne_of_gt (Int.mul_pos hD hU)
  have hcn : (V c).natAbs = D.natAbs * one64 := by rw [hvc, Int.natAbs_mul, Int.natAbs_natCast]
  have hDp : 0 < D.natAbs := by omega
  obtain ⟨fs, vs⟩ := V_ddiv ha dc.1 hc0 (by rw [hcn, ← Nat.mul_assoc]; exact Nat.mul_le_mul_right _ hb)
  rw [h] at fs vs
  have hsg : (V c).sign = 1 := by rw [hvc]; exact Int.sign_eq_one_of_pos (Int.mul_pos hD hU)
  refine ⟨fs, ?_⟩
  rw [vs, hsg, Int.mul_one, hcn]
  exact rnd_congr (Nat.mul_pos hDp one64_pos) hDp (by rw [Int.natCast_mul, Int.mul_assoc, Int.mul_comm (one64 : Int)])
/-- a positive divisor -/
theorem V_divp {a c z : UInt64} (fc : DFin c) (hc : 0 < V c) (h : FP.ddiv a c = z) (ha : DFin a) (hb : (V a).natAbs * one64 ≤ BIG * (V c).natAbs) : DFin z ∧ V z = rnd (V a * (one64 : Int)) (V c).natAbs := by
  obtain ⟨fs, vs⟩ := V_ddiv ha fc (by omega) hb
  rw [h] at fs vs
  rw [Int.sign_eq_one_of_pos hc, Int.mul_one] at vs
  exact ⟨fs, vs⟩
theorem V_dmul' {a b z : UInt64} (h : FP.dmul a b = z) (ha : DFin a) (hb : DFin b) (hB : (V a * V b).natAbs ≤ BIG * one64) : DFin z ∧ V z = rnd (V a * V b) one64 := h ▸ V_dmul ha hb hB
theorem leR {n : Int} {d e : Nat} (hd : 0 < d) (he : e ≤ 2000) (h : n.natAbs ≤ 2 ^ e * d) : (rnd n d).natAbs ≤ 2 ^ e := by
  have hn : n.natAbs ≤ BIG * d := Nat.le_trans h (Nat.mul_le_mul_right _ (pow_big he))
  have r1 : RepU ((2 ^ e : Nat) : Int) := ⟨1, e, by simp, by decide⟩
  have e1 : rnd ((2 ^ e : Nat) : Int) 1 = ((2 ^ e : Nat) : Int) := exact1 (by rw [Int.natAbs_natCast]; exact pow_big he) r1
  have b1 : (((2 ^ e : Nat) : Int)).natAbs ≤ BIG * 1 := by rw [Nat.mul_one, Int.natAbs_natCast]; exact pow_big he
  have hI : (n.natAbs : Int) ≤ ((2 ^ e : Nat) : Int) * (d : Int) := by rw [← Int.natCast_mul]; exact Int.ofNat_le.mpr h
  have u := rnd_mono hd (by decide) hn b1 (by rw [Int.natCast_one, Int.mul_one]; omega)
  have l := rnd_mono (n := -((2 ^ e : Nat) : Int)) (d := 1) (by decide) hd (by rw [Int.natAbs_neg]; exact b1) hn (by rw [Int.natCast_one, Int.mul_one, Int.neg_mul]; omega)
  rw [rnd_neg _ (by decide), e1] at l
  rw [e1] at u
  omega
theorem rnd_nonneg {n : Int} {d : Nat} (hd : 0 < d) (hn : n.natAbs ≤ BIG * d) (h : 0 ≤ n) : 0 ≤ rnd n d := by
  have e0 : rnd 0 1 = 0 := zval_zero _ _ _
  rw [← e0]
  exact rnd_mono (by decide) hd (Nat.zero_le _) hn (by simpa using h)
end Jvm.OwnF
namespace Jvm.Pilot.@@N@@
open Jvm Jvm.ClassFile Sem Op Lib Jvm.Free Jvm.Stand Jvm.LawKit Jvm.RoadKit Bundle Jvm.Pilot.@@N@@.Jvm.D
theorem mod5 {x z4 z6 : Int32} (h4 : x &&& (2147483647 : Int32) = z4) (h6 : z4 % (5 : Int32) = z6) : z6 = 0 ∨ z6 = 1 ∨ z6 = 2 ∨ z6 = 3 ∨ z6 = 4 := by
  obtain ⟨a1, a2⟩ := Jvm.OwnF.mask31 h4
  have i := Jvm.OwnF.irem_v h6 a1
  rw [show (5 : Int32).toInt = 5 by decide] at i
  have h0 : z6.toInt = 0 ∨ z6.toInt = 1 ∨ z6.toInt = 2 ∨ z6.toInt = 3 ∨ z6.toInt = 4 := by omega
  rcases h0 with h | h | h | h | h
  · exact Or.inl (Int32.toInt_inj.mp h)
  · exact Or.inr (Or.inl (Int32.toInt_inj.mp h))
  · exact Or.inr (Or.inr (Or.inl (Int32.toInt_inj.mp h)))
  · exact Or.inr (Or.inr (Or.inr (Or.inl (Int32.toInt_inj.mp h))))
  · exact Or.inr (Or.inr (Or.inr (Or.inr (Int32.toInt_inj.mp h))))
theorem nar1 {z m : Int32} (h : (if z = (0 : Int32) then (0 : Int32) else (1 : Int32)) = m) : nar .boolean m = m ∧ fits .boolean (.int m) = true := by
  rw [← h]; split <;> exact ⟨by decide, by decide⟩
theorem nar2 {z m : Int32} (h : (if z < (0 : Int32) then (0 : Int32) else (1 : Int32)) = m) : nar .boolean m = m ∧ fits .boolean (.int m) = true := by
  rw [← h]; split <;> exact ⟨by decide, by decide⟩
open Jvm.OwnF in
/-- a whole number, or minus infinity -/
def EV (o : Option Int) (a : UInt64) : Prop := match o with
  | none => a = (18442240474082181120 : UInt64)
  | some n => DV n 0 a ∧ n.natAbs ≤ 2 ^ 34
def lt' (o p : Option Int) : Prop := match o, p with
  | _, none => False
  | none, some _ => True
  | some x, some y => x < y
def mx (o p : Option Int) : Option Int := match o, p with
  | none, p => p
  | some x, none => some x
  | some x, some y => some (max x y)
theorem lt_mx (a p q : Option Int) : lt' a (mx p q) ↔ lt' a p ∨ lt' a q := by
  rcases a with _ | a <;> rcases p with _ | p <;> rcases q with _ | q <;> simp [lt', mx]
  omega
theorem lt_sub (a b : Option Int) (t : Int) : lt' a (b.map (· - t)) ↔ lt' (a.map (· + t)) b := by
  rcases a with _ | a <;> rcases b with _ | b <;> simp [lt']
  omega
theorem ni_nan : FP.Core.val64 (18442240474082181120 : UInt64) ≠ .nan := by decide +kernel
open Jvm.OwnF Jvm.FP.Core in
theorem EV.val {o : Option Int} {a : UInt64} (h : EV o a) : val64 a ≠ .nan := by
  rcases o with _ | n
  · rw [show a = (18442240474082181120 : UInt64) from h]; exact ni_nan
  · obtain ⟨s, c, q, e⟩ := h.1.1
    rw [e]; exact Datum.noConfusion
theorem EV.nn {o : Option Int} {a : UInt64} (h : EV o a) : Jvm.Free.Fl.NoNaN64 a := by rw [Jvm.Free.Fl.val64_no]; exact h.val
open Jvm.OwnF Jvm.FP.Core in
theorem niV {n : Int} {a : UInt64} (h : DV n 0 a) (hb : n.natAbs ≤ 2 ^ 34) : V (18442240474082181120 : UInt64) < V a := by
  have e : V (18442240474082181120 : UInt64) = -((2 ^ 2098 : Nat) : Int) := by decide +kernel
  have w := V_bd (j := 34) h hb
  have p : 2 ^ (34 + 1074) < 2 ^ 2098 := Nat.pow_lt_pow_right (by decide) (by decide)
  rw [e]
  generalize 2 ^ 2098 = B at *
  generalize 2 ^ (34 + 1074) = A at *
  omega
open Jvm.OwnF Jvm.FP.Core in
theorem EV.dcmp {o p : Option Int} {a b : UInt64} (ha : EV o a) (hb : EV p b) : FP.dcmp a b = some (compare (V a) (V b)) := dcmp_zval ha.val hb.val
open Jvm.OwnF Jvm.FP.Core in
theorem EV.lt {o p : Option Int} {a b : UInt64} (ha : EV o a) (hb : EV p b) : V a < V b ↔ lt' o p := by
  rcases o with _ | n <;> rcases p with _ | m
  · rw [show a = (18442240474082181120 : UInt64) from ha, show b = (18442240474082181120 : UInt64) from hb]; simp [lt']
  · rw [show a = (18442240474082181120 : UInt64) from ha]; simp [lt', niV hb.1 hb.2]
  · rw [show b = (18442240474082181120 : UInt64) from hb]
    have := niV ha.1 ha.2
    simp only [lt', iff_false]
    omega
  · exact (DV_le ha.1 hb.1).1
open Jvm.OwnF Jvm.FP.Core in
theorem EV_cmp {o p : Option Int} {a b : UInt64} {w : Int32} (ha : EV o a) (hb : EV p b) (hw : cmpValue (FP.dcmp a b) .l = w) : w < 0 ↔ lt' o p := by
  rw [← ha.lt hb, ← hw, ha.dcmp hb]
  rcases Int.lt_trichotomy (V a) (V b) with t | t | t
  · rw [(compare_lt_iff _ _).mpr t]
    exact ⟨fun _ => t, fun _ => by decide⟩
  · rw [(compare_eq_iff _ _).mpr t]
    exact ⟨fun q => absurd q (by decide), fun q => by omega⟩
  · rw [(compare_gt_iff _ _).mpr t]
    exact ⟨fun q => absurd q (by decide), fun q => by omega⟩
open Jvm.OwnF Jvm.FP.Core in
theorem EV_max {o p : Option Int} {a b m : UInt64} (ha : EV o a) (hb : EV p b) (h : Jvm.Native.java_lang_Math.nans.pick64 true a b = m) : EV (mx o p) m := by
  have hc := ha.dcmp hb
  have l1 := ha.lt hb
  have l2 := hb.lt ha
  have hm : (V a < V b → m = b) ∧ (V b < V a → m = a) ∧ (m = a ∨ m = b) := by
    rw [← h]
    refine ⟨fun t => ?_, fun t => ?_, ?_⟩
    · unfold Jvm.Native.java_lang_Math.nans.pick64
      rw [hc, (compare_lt_iff _ _).mpr t]; rfl
    · unfold Jvm.Native.java_lang_Math.nans.pick64
      rw [hc, (compare_gt_iff _ _).mpr t]; rfl
    · unfold Jvm.Native.java_lang_Math.nans.pick64
      rw [hc]
      split
      · exact Or.inr rfl
      · exact Or.inl rfl
      · split
        · exact Or.inr rfl
        · exact Or.inl rfl
  obtain ⟨m1, m2, m3⟩ := hm
  rcases o with _ | n <;> rcases p with _ | k
  · rcases m3 with e | e <;> rw [e]
    · exact ha
    · exact hb
  · rw [m1 (l1.mpr (by simp [lt']))]; exact hb
  · rw [m2 (l2.mpr (by simp [lt']))]; exact ha
  · have q1 : V a < V b ↔ n < k := l1
    have q2 : V b < V a ↔ k < n := l2
    rcases Int.lt_trichotomy n k with t | t | t
    · rw [m1 (q1.mpr t)]
      show EV (some (max n k)) b
      rw [show max n k = k by omega]; exact hb
    · subst t
      show EV (some (max n n)) m
      rw [show max n n = n by omega]
      rcases m3 with e | e <;> rw [e]
      · exact ha
      · exact hb
    · rw [m2 (q2.mpr t)]
      show EV (some (max n k)) a
      rw [show max n k = n by omega]; exact ha
theorem mx_le {o p : Option Int} {B : Nat} (ho : ∀ n, o = some n → n.natAbs ≤ B) (hp : ∀ n, p = some n → n.natAbs ≤ B) : ∀ n, mx o p = some n → n.natAbs ≤ B := by
  intro n h
  rcases o with _ | x <;> rcases p with _ | y
  · exact absurd h (by simp [mx])
  · exact hp n h
  · exact ho n h
  · have e : max x y = n := Option.some.inj h
    have h1 := ho x rfl
    have h2 := hp y rfl
    omega
open Jvm.OwnF Jvm.FP.Core in
theorem EV_sub {o : Option Int} {a t z : UInt64} {T : Int} (ha : EV o a) (hb : ∀ n, o = some n → n.natAbs ≤ 2147483648) (ht : DV T 0 t) (bT : 0 ≤ T ∧ T < 2147483648) (h : FP.dsub a t = z) : EV (o.map (· - T)) z := by
  rcases o with _ | n
  · have hv : val64 z = .inf true := by
      rw [← h, show FP.dsub a t = Jvm.FP.Core.dsub a t from rfl, val64_dsub, show a = (18442240474082181120 : UInt64) from ha]
      obtain ⟨s, c, q, e⟩ := ht.1
      rw [e, show val64 (18442240474082181120 : UInt64) = .inf true by decide +kernel]
      rfl
    show z = (18442240474082181120 : UInt64)
    exact val64_inj (by rw [hv]; exact Datum.noConfusion) (by rw [hv]; decide +kernel)
  · have b := hb n rfl
    exact ⟨h ▸ DV_sub ha.1 ht (r53 (by omega)), by show (n - T).natAbs ≤ 2 ^ 34; omega⟩
open Jvm.OwnF in
theorem EVe {f p : Int32} {x y : UInt64} (hx : FP.i2d p = x) (hy : (if f = (0 : Int32) then x else (18442240474082181120 : UInt64)) = y) : EV (if f = (0 : Int32) then some p.toInt else none) y := by
  rw [← hy]
  by_cases q : f = 0
  · rw [if_pos q, if_pos q]; exact ⟨hx ▸ DV_i2d p, by have := rng32b p; omega⟩
  · rw [if_neg q, if_neg q]; rfl
open Jvm.OwnF in
theorem bde (f p : Int32) : ∀ n, (if f = (0 : Int32) then some p.toInt else none) = some n → n.natAbs ≤ 2147483648 := by
  intro n h
  by_cases q : f = 0
  · rw [if_pos q] at h
    have := rng32b p
    rw [← Option.some.inj h]; exact this
  · rw [if_neg q] at h; cases h
theorem bd0 : ∀ n, (none : Option Int) = some n → n.natAbs ≤ 2147483648 := by intro n h; cases h
theorem ev0 : EV none (18442240474082181120 : UInt64) := rfl
open Jvm.OwnF in
theorem bt {fi fj pi pj : Int32} {qi qj t s : Int64} {z rv : Int32} (hi : pi.toInt64 = qi) (hj : pj.toInt64 = qj) (bT : 0 ≤ t.toInt ∧ t.toInt < 2147483648) (h12 : qi + t = s) (h14 : lcmpW s qj = z) (hv : (if fj = (0 : Int32) then (if fi = (0 : Int32) then (if z < (0 : Int32) then (0 : Int32) else (1 : Int32)) else (0 : Int32)) else (1 : Int32)) = rv) :
    rv = 0 ↔ lt' ((if fi = (0 : Int32) then some pi.toInt else none).map (· + t.toInt)) (if fj = (0 : Int32) then some pj.toInt else none) := by
  have ii := i2l_v hi; have ij := i2l_v hj
  have ri := rng32 pi
  have is_ := ladd_v h12 (by omega)
  have E : z < 0 ↔ pi.toInt + t.toInt < pj.toInt := by rw [← h14, lw_lt, Int64.lt_iff_toInt_lt, is_, ii, ij]
  rw [← hv]
  by_cases a : fj = 0
  · by_cases b : fi = 0
    · simp only [a, b, if_true, Option.map_some, lt', ← E]
      by_cases d : z < 0
      · simp [d]
      · simp [d]
    · simp [a, b, lt']
  · simp [a, lt']
theorem last {z r : Int32} {P : Prop} (hz : z < 0 ↔ P) (hr : (if z < (0 : Int32) then (0 : Int32) else (1 : Int32)) = r) : (P → r = 0) ∧ (¬ P → r = 1) :=
  ⟨fun q => by rw [← hr, if_pos (hz.mpr q)], fun q => by rw [← hr, if_neg (fun u => q (hz.mp u))]⟩
theorem N1 {c0 r rv : Int32} {P B0 : Prop} (h0 : c0 = 0 ↔ B0) (hP : P ↔ (False ∨ B0)) (hr : (P → r = 0) ∧ (¬ P → r = 1)) (hv : (if c0 = (0 : Int32) then (0 : Int32) else (1 : Int32)) = rv) : r = rv := by
  rw [← hv]
  by_cases b0 : c0 = 0
  · rw [if_pos b0]; exact hr.1 (hP.mpr (by have := h0.mp b0; simp [this]))
  rw [if_neg b0]
  exact hr.2 (fun q => by rw [hP, ← h0] at q; simp [b0] at q)
theorem N2 {c0 c1 r rv : Int32} {P B0 B1 : Prop} (h0 : c0 = 0 ↔ B0) (h1 : c1 = 0 ↔ B1) (hP : P ↔ ((False ∨ B0) ∨ B1)) (hr : (P → r = 0) ∧ (¬ P → r = 1)) (hv : (if c0 = (0 : Int32) then (0 : Int32) else (if c1 = (0 : Int32) then (0 : Int32) else (1 : Int32))) = rv) : r = rv := by
  rw [← hv]
  by_cases b0 : c0 = 0
  · rw [if_pos b0]; exact hr.1 (hP.mpr (by have := h0.mp b0; simp [this]))
  by_cases b1 : c1 = 0
  · rw [if_neg b0, if_pos b1]; exact hr.1 (hP.mpr (by have := h1.mp b1; simp [this]))
  rw [if_neg b0, if_neg b1]
  exact hr.2 (fun q => by rw [hP, ← h0, ← h1] at q; simp [b0, b1] at q)
theorem N3 {c0 c1 c2 r rv : Int32} {P B0 B1 B2 : Prop} (h0 : c0 = 0 ↔ B0) (h1 : c1 = 0 ↔ B1) (h2 : c2 = 0 ↔ B2) (hP : P ↔ (((False ∨ B0) ∨ B1) ∨ B2)) (hr : (P → r = 0) ∧ (¬ P → r = 1)) (hv : (if c0 = (0 : Int32) then (0 : Int32) else (if c1 = (0 : Int32) then (0 : Int32) else (if c2 = (0 : Int32) then (0 : Int32) else (1 : Int32)))) = rv) : r = rv := by
  rw [← hv]
  by_cases b0 : c0 = 0
  · rw [if_pos b0]; exact hr.1 (hP.mpr (by have := h0.mp b0; simp [this]))
  by_cases b1 : c1 = 0
  · rw [if_neg b0, if_pos b1]; exact hr.1 (hP.mpr (by have := h1.mp b1; simp [this]))
  by_cases b2 : c2 = 0
  · rw [if_neg b0, if_neg b1, if_pos b2]; exact hr.1 (hP.mpr (by have := h2.mp b2; simp [this]))
  rw [if_neg b0, if_neg b1, if_neg b2]
  exact hr.2 (fun q => by rw [hP, ← h0, ← h1, ← h2] at q; simp [b0, b1, b2] at q)
theorem N4 {c0 c1 c2 c3 r rv : Int32} {P B0 B1 B2 B3 : Prop} (h0 : c0 = 0 ↔ B0) (h1 : c1 = 0 ↔ B1) (h2 : c2 = 0 ↔ B2) (h3 : c3 = 0 ↔ B3) (hP : P ↔ ((((False ∨ B0) ∨ B1) ∨ B2) ∨ B3)) (hr : (P → r = 0) ∧ (¬ P → r = 1)) (hv : (if c0 = (0 : Int32) then (0 : Int32) else (if c1 = (0 : Int32) then (0 : Int32) else (if c2 = (0 : Int32) then (0 : Int32) else (if c3 = (0 : Int32) then (0 : Int32) else (1 : Int32))))) = rv) : r = rv := by
  rw [← hv]
  by_cases b0 : c0 = 0
  · rw [if_pos b0]; exact hr.1 (hP.mpr (by have := h0.mp b0; simp [this]))
  by_cases b1 : c1 = 0
  · rw [if_neg b0, if_pos b1]; exact hr.1 (hP.mpr (by have := h1.mp b1; simp [this]))
  by_cases b2 : c2 = 0
  · rw [if_neg b0, if_neg b1, if_pos b2]; exact hr.1 (hP.mpr (by have := h2.mp b2; simp [this]))
  by_cases b3 : c3 = 0
  · rw [if_neg b0, if_neg b1, if_neg b2, if_pos b3]; exact hr.1 (hP.mpr (by have := h3.mp b3; simp [this]))
  rw [if_neg b0, if_neg b1, if_neg b2, if_neg b3]
  exact hr.2 (fun q => by rw [hP, ← h0, ← h1, ← h2, ← h3] at q; simp [b0, b1, b2, b3] at q)
theorem d4_0 : decode method_3_code 0 = .ok (.iload 5, 2) := by decide +kernel
theorem d4_2 : decode method_3_code 2 = .ok (.ifCond .ne 16, 3) := by decide +kernel
theorem d4_5 : decode method_3_code 5 = .ok (.iload_n 2, 1) := by decide +kernel
theorem d4_6 : decode method_3_code 6 = .ok (.ifCond .ne 16, 3) := by decide +kernel
theorem d4_9 : decode method_3_code 9 = .ok (.lload_n 0, 1) := by decide +kernel
theorem d4_10 : decode method_3_code 10 = .ok (.lload 6, 2) := by decide +kernel
theorem d4_12 : decode method_3_code 12 = .ok (.ladd, 1) := by decide +kernel
theorem d4_13 : decode method_3_code 13 = .ok (.lload_n 3, 1) := by decide +kernel
theorem d4_14 : decode method_3_code 14 = .ok (.lcmp, 1) := by decide +kernel
theorem d4_15 : decode method_3_code 15 = .ok (.ifCond .lt 7, 3) := by decide +kernel
theorem d4_22 : decode method_3_code 22 = .ok (.iconst 0, 1) := by decide +kernel
theorem d4_23 : decode method_3_code 23 = .ok (.ireturn, 1) := by decide +kernel
theorem d4_18 : decode method_3_code 18 = .ok (.iconst 1, 1) := by decide +kernel
theorem d4_19 : decode method_3_code 19 = .ok (.goto 4, 3) := by decide +kernel
theorem pn_0 : plainName "com/example/credal_choice/credalchoice/criteria/ChoiceNearLargestPinLaw" = true := by first | (simp [plainName, overriddenIn]; done) | decide +kernel
theorem ef_rm4 (m : MethodId) (q0 : Int64) (p1 : Int32) (q2 : Int64) (p3 : Int32) (q4 : Int64) : entryFrame m #[(.long q0), (.int p1), (.long q2), (.int p3), (.long q4)] 8 = mkF m 0 #[.val (.long q0), .second, .val (.int p1), .val (.long q2), .second, .val (.int p3), .val (.long q4), .second] [] := by first | (simp [entryFrame, mkF, argsToLocals, Value.category]; done) | rfl
theorem d1_0 : decode prog_5_method_6_code 0 = .ok (.ldc2_w 39, 3) := by decide +kernel
theorem d1_3 : decode prog_5_method_6_code 3 = .ok (.dstore_n 3, 1) := by decide +kernel
theorem d1_4 : decode prog_5_method_6_code 4 = .ok (.aload_n 0, 1) := by decide +kernel
theorem d1_5 : decode prog_5_method_6_code 5 = .ok (.astore 5, 2) := by decide +kernel
theorem d1_7 : decode prog_5_method_6_code 7 = .ok (.aload 5, 2) := by decide +kernel
theorem d1_9 : decode prog_5_method_6_code 9 = .ok (.arraylength, 1) := by decide +kernel
theorem d1_10 : decode prog_5_method_6_code 10 = .ok (.istore 6, 2) := by decide +kernel
theorem d1_12 : decode prog_5_method_6_code 12 = .ok (.iconst 0, 1) := by decide +kernel
theorem d1_13 : decode prog_5_method_6_code 13 = .ok (.istore 7, 2) := by decide +kernel
theorem d1_15 : decode prog_5_method_6_code 15 = .ok (.iload 7, 2) := by decide +kernel
theorem d1_17 : decode prog_5_method_6_code 17 = .ok (.iload 6, 2) := by decide +kernel
theorem d1_19 : decode prog_5_method_6_code 19 = .ok (.if_icmp .ge 23, 3) := by decide +kernel
theorem d1_42 : decode prog_5_method_6_code 42 = .ok (.aload_n 0, 1) := by decide +kernel
theorem d1_43 : decode prog_5_method_6_code 43 = .ok (.arraylength, 1) := by decide +kernel
theorem d1_44 : decode prog_5_method_6_code 44 = .ok (.newarray .boolean, 2) := by decide +kernel
theorem d1_46 : decode prog_5_method_6_code 46 = .ok (.astore 5, 2) := by decide +kernel
theorem d1_48 : decode prog_5_method_6_code 48 = .ok (.iconst 0, 1) := by decide +kernel
theorem d1_49 : decode prog_5_method_6_code 49 = .ok (.istore 6, 2) := by decide +kernel
theorem d1_51 : decode prog_5_method_6_code 51 = .ok (.iload 6, 2) := by decide +kernel
theorem d1_53 : decode prog_5_method_6_code 53 = .ok (.aload_n 0, 1) := by decide +kernel
theorem d1_54 : decode prog_5_method_6_code 54 = .ok (.arraylength, 1) := by decide +kernel
theorem d1_55 : decode prog_5_method_6_code 55 = .ok (.if_icmp .ge 30, 3) := by decide +kernel
theorem d1_85 : decode prog_5_method_6_code 85 = .ok (.aload 5, 2) := by decide +kernel
theorem d1_87 : decode prog_5_method_6_code 87 = .ok (.areturn, 1) := by decide +kernel
theorem pn_1 : plainName "com/example/credal_choice/credalchoice/criteria/Choice" = true := by first | (simp [plainName, overriddenIn]; done) | decide +kernel
theorem ef_rm1_0 (m : MethodId) (o0 : Addr) (d1 : UInt64) : entryFrame m #[(.ref o0), (.double d1)] 10 = mkF m 0 #[.val (.ref o0), .val (.double d1), .second, .unset, .unset, .unset, .unset, .unset, .unset, .unset] [] := by first | (simp [entryFrame, mkF, argsToLocals, Value.category]; done) | rfl
theorem d1_22 : decode prog_5_method_6_code 22 = .ok (.aload 5, 2) := by decide +kernel
theorem d1_24 : decode prog_5_method_6_code 24 = .ok (.iload 7, 2) := by decide +kernel
theorem d1_26 : decode prog_5_method_6_code 26 = .ok (.daload, 1) := by decide +kernel
theorem d1_27 : decode prog_5_method_6_code 27 = .ok (.dstore 8, 2) := by decide +kernel
theorem d1_29 : decode prog_5_method_6_code 29 = .ok (.dload_n 3, 1) := by decide +kernel
theorem d1_30 : decode prog_5_method_6_code 30 = .ok (.dload 8, 2) := by decide +kernel
theorem d1_32 : decode prog_5_method_6_code 32 = .ok (.invokestatic 41, 3) := by decide +kernel
theorem pd_0 : parseMethodDescriptor "(DD)D" = some ⟨[.double, .double], some .double⟩ := by decide +kernel
theorem d1_35 : decode prog_5_method_6_code 35 = .ok (.dstore_n 3, 1) := by decide +kernel
theorem d1_36 : decode prog_5_method_6_code 36 = .ok (.iinc 7 1, 3) := by decide +kernel
theorem d1_39 : decode prog_5_method_6_code 39 = .ok (.goto (-24), 3) := by decide +kernel
theorem d1_58 : decode prog_5_method_6_code 58 = .ok (.aload 5, 2) := by decide +kernel
theorem d1_60 : decode prog_5_method_6_code 60 = .ok (.iload 6, 2) := by decide +kernel
theorem d1_62 : decode prog_5_method_6_code 62 = .ok (.aload_n 0, 1) := by decide +kernel
theorem d1_63 : decode prog_5_method_6_code 63 = .ok (.iload 6, 2) := by decide +kernel
theorem d1_65 : decode prog_5_method_6_code 65 = .ok (.daload, 1) := by decide +kernel
theorem d1_66 : decode prog_5_method_6_code 66 = .ok (.dload_n 3, 1) := by decide +kernel
theorem d1_67 : decode prog_5_method_6_code 67 = .ok (.dload_n 1, 1) := by decide +kernel
theorem d1_68 : decode prog_5_method_6_code 68 = .ok (.dsub, 1) := by decide +kernel
theorem d1_69 : decode prog_5_method_6_code 69 = .ok (.dcmp .l, 1) := by decide +kernel
theorem d1_70 : decode prog_5_method_6_code 70 = .ok (.ifCond .lt 7, 3) := by decide +kernel
theorem d1_77 : decode prog_5_method_6_code 77 = .ok (.iconst 0, 1) := by decide +kernel
theorem d1_73 : decode prog_5_method_6_code 73 = .ok (.iconst 1, 1) := by decide +kernel
theorem d1_74 : decode prog_5_method_6_code 74 = .ok (.goto 4, 3) := by decide +kernel
theorem d1_78 : decode prog_5_method_6_code 78 = .ok (.bastore, 1) := by decide +kernel
theorem d1_79 : decode prog_5_method_6_code 79 = .ok (.iinc 6 1, 3) := by decide +kernel
theorem d1_82 : decode prog_5_method_6_code 82 = .ok (.goto (-31), 3) := by decide +kernel
theorem ef_rm1_1 (m : MethodId) (o0 : Addr) (d1 : UInt64) : entryFrame m #[(.ref o0), (.double d1)] 10 = mkF m 0 #[.val (.ref o0), .val (.double d1), .second, .unset, .unset, .unset, .unset, .unset, .unset, .unset] [] := by first | (simp [entryFrame, mkF, argsToLocals, Value.category]; done) | rfl
theorem d3_0 : decode method_4_code 0 = .ok (.iload 5, 2) := by decide +kernel
theorem d3_2 : decode method_4_code 2 = .ok (.ifCond .le 20, 3) := by decide +kernel
theorem d3_5 : decode method_4_code 5 = .ok (.lload_n 0, 1) := by decide +kernel
theorem d3_6 : decode method_4_code 6 = .ok (.iload_n 2, 1) := by decide +kernel
theorem d3_7 : decode method_4_code 7 = .ok (.aload_n 3, 1) := by decide +kernel
theorem d3_8 : decode method_4_code 8 = .ok (.iconst 0, 1) := by decide +kernel
theorem d3_9 : decode method_4_code 9 = .ok (.laload, 1) := by decide +kernel
theorem d3_10 : decode method_4_code 10 = .ok (.aload 4, 2) := by decide +kernel
theorem d3_12 : decode method_4_code 12 = .ok (.iconst 0, 1) := by decide +kernel
theorem d3_13 : decode method_4_code 13 = .ok (.baload, 1) := by decide +kernel
theorem d3_14 : decode method_4_code 14 = .ok (.lload 6, 2) := by decide +kernel
theorem d3_16 : decode method_4_code 16 = .ok (.invokestatic 24, 3) := by decide +kernel
theorem pd_1 : parseMethodDescriptor "(JZJZJ)Z" = some ⟨[.long, .boolean, .long, .boolean, .long], some .boolean⟩ := by decide +kernel
theorem d3_19 : decode method_4_code 19 = .ok (.ifCond .eq 76, 3) := by decide +kernel
theorem d3_95 : decode method_4_code 95 = .ok (.iconst 0, 1) := by decide +kernel
theorem d3_96 : decode method_4_code 96 = .ok (.ireturn, 1) := by decide +kernel
theorem d3_22 : decode method_4_code 22 = .ok (.iload 5, 2) := by decide +kernel
theorem d3_24 : decode method_4_code 24 = .ok (.iconst 1, 1) := by decide +kernel
theorem d3_25 : decode method_4_code 25 = .ok (.if_icmp .le 20, 3) := by decide +kernel
theorem d3_45 : decode method_4_code 45 = .ok (.iload 5, 2) := by decide +kernel
theorem d3_47 : decode method_4_code 47 = .ok (.iconst 2, 1) := by decide +kernel
theorem d3_48 : decode method_4_code 48 = .ok (.if_icmp .le 20, 3) := by decide +kernel
theorem d3_68 : decode method_4_code 68 = .ok (.iload 5, 2) := by decide +kernel
theorem d3_70 : decode method_4_code 70 = .ok (.iconst 3, 1) := by decide +kernel
theorem d3_71 : decode method_4_code 71 = .ok (.if_icmp .le 20, 3) := by decide +kernel
theorem d3_91 : decode method_4_code 91 = .ok (.iconst 1, 1) := by decide +kernel
theorem d3_92 : decode method_4_code 92 = .ok (.goto 4, 3) := by decide +kernel
theorem ef_rm3_1 (m : MethodId) (q0 : Int64) (p1 : Int32) (o2 : Addr) (o3 : Addr) (q5 : Int64) : entryFrame m #[(.long q0), (.int p1), (.ref o2), (.ref o3), (.int (1 : Int32)), (.long q5)] 8 = mkF m 0 #[.val (.long q0), .second, .val (.int p1), .val (.ref o2), .val (.ref o3), .val (.int (1 : Int32)), .val (.long q5), .second] [] := by first | (simp [entryFrame, mkF, argsToLocals, Value.category]; done) | rfl
theorem ef_rm1_2 (m : MethodId) (o0 : Addr) (d1 : UInt64) : entryFrame m #[(.ref o0), (.double d1)] 10 = mkF m 0 #[.val (.ref o0), .val (.double d1), .second, .unset, .unset, .unset, .unset, .unset, .unset, .unset] [] := by first | (simp [entryFrame, mkF, argsToLocals, Value.category]; done) | rfl
theorem d3_28 : decode method_4_code 28 = .ok (.lload_n 0, 1) := by decide +kernel
theorem d3_29 : decode method_4_code 29 = .ok (.iload_n 2, 1) := by decide +kernel
theorem d3_30 : decode method_4_code 30 = .ok (.aload_n 3, 1) := by decide +kernel
theorem d3_31 : decode method_4_code 31 = .ok (.iconst 1, 1) := by decide +kernel
theorem d3_32 : decode method_4_code 32 = .ok (.laload, 1) := by decide +kernel
theorem d3_33 : decode method_4_code 33 = .ok (.aload 4, 2) := by decide +kernel
theorem d3_35 : decode method_4_code 35 = .ok (.iconst 1, 1) := by decide +kernel
theorem d3_36 : decode method_4_code 36 = .ok (.baload, 1) := by decide +kernel
theorem d3_37 : decode method_4_code 37 = .ok (.lload 6, 2) := by decide +kernel
theorem d3_39 : decode method_4_code 39 = .ok (.invokestatic 24, 3) := by decide +kernel
theorem d3_42 : decode method_4_code 42 = .ok (.ifCond .eq 53, 3) := by decide +kernel
theorem ef_rm3_2 (m : MethodId) (q0 : Int64) (p1 : Int32) (o2 : Addr) (o3 : Addr) (q5 : Int64) : entryFrame m #[(.long q0), (.int p1), (.ref o2), (.ref o3), (.int (2 : Int32)), (.long q5)] 8 = mkF m 0 #[.val (.long q0), .second, .val (.int p1), .val (.ref o2), .val (.ref o3), .val (.int (2 : Int32)), .val (.long q5), .second] [] := by first | (simp [entryFrame, mkF, argsToLocals, Value.category]; done) | rfl
theorem ef_rm1_3 (m : MethodId) (o0 : Addr) (d1 : UInt64) : entryFrame m #[(.ref o0), (.double d1)] 10 = mkF m 0 #[.val (.ref o0), .val (.double d1), .second, .unset, .unset, .unset, .unset, .unset, .unset, .unset] [] := by first | (simp [entryFrame, mkF, argsToLocals, Value.category]; done) | rfl
theorem d3_51 : decode method_4_code 51 = .ok (.lload_n 0, 1) := by decide +kernel
theorem d3_52 : decode method_4_code 52 = .ok (.iload_n 2, 1) := by decide +kernel
theorem d3_53 : decode method_4_code 53 = .ok (.aload_n 3, 1) := by decide +kernel
theorem d3_54 : decode method_4_code 54 = .ok (.iconst 2, 1) := by decide +kernel
theorem d3_55 : decode method_4_code 55 = .ok (.laload, 1) := by decide +kernel
theorem d3_56 : decode method_4_code 56 = .ok (.aload 4, 2) := by decide +kernel
theorem d3_58 : decode method_4_code 58 = .ok (.iconst 2, 1) := by decide +kernel
theorem d3_59 : decode method_4_code 59 = .ok (.baload, 1) := by decide +kernel
theorem d3_60 : decode method_4_code 60 = .ok (.lload 6, 2) := by decide +kernel
theorem d3_62 : decode method_4_code 62 = .ok (.invokestatic 24, 3) := by decide +kernel
theorem d3_65 : decode method_4_code 65 = .ok (.ifCond .eq 30, 3) := by decide +kernel
theorem ef_rm3_3 (m : MethodId) (q0 : Int64) (p1 : Int32) (o2 : Addr) (o3 : Addr) (q5 : Int64) : entryFrame m #[(.long q0), (.int p1), (.ref o2), (.ref o3), (.int (3 : Int32)), (.long q5)] 8 = mkF m 0 #[.val (.long q0), .second, .val (.int p1), .val (.ref o2), .val (.ref o3), .val (.int (3 : Int32)), .val (.long q5), .second] [] := by first | (simp [entryFrame, mkF, argsToLocals, Value.category]; done) | rfl
theorem ef_rm1_4 (m : MethodId) (o0 : Addr) (d1 : UInt64) : entryFrame m #[(.ref o0), (.double d1)] 10 = mkF m 0 #[.val (.ref o0), .val (.double d1), .second, .unset, .unset, .unset, .unset, .unset, .unset, .unset] [] := by first | (simp [entryFrame, mkF, argsToLocals, Value.category]; done) | rfl
theorem d3_74 : decode method_4_code 74 = .ok (.lload_n 0, 1) := by decide +kernel
theorem d3_75 : decode method_4_code 75 = .ok (.iload_n 2, 1) := by decide +kernel
theorem d3_76 : decode method_4_code 76 = .ok (.aload_n 3, 1) := by decide +kernel
theorem d3_77 : decode method_4_code 77 = .ok (.iconst 3, 1) := by decide +kernel
theorem d3_78 : decode method_4_code 78 = .ok (.laload, 1) := by decide +kernel
theorem d3_79 : decode method_4_code 79 = .ok (.aload 4, 2) := by decide +kernel
theorem d3_81 : decode method_4_code 81 = .ok (.iconst 3, 1) := by decide +kernel
theorem d3_82 : decode method_4_code 82 = .ok (.baload, 1) := by decide +kernel
theorem d3_83 : decode method_4_code 83 = .ok (.lload 6, 2) := by decide +kernel
theorem d3_85 : decode method_4_code 85 = .ok (.invokestatic 24, 3) := by decide +kernel
theorem d3_88 : decode method_4_code 88 = .ok (.ifCond .eq 7, 3) := by decide +kernel
theorem ef_rm3_4 (m : MethodId) (q0 : Int64) (p1 : Int32) (o2 : Addr) (o3 : Addr) (q5 : Int64) : entryFrame m #[(.long q0), (.int p1), (.ref o2), (.ref o3), (.int (4 : Int32)), (.long q5)] 8 = mkF m 0 #[.val (.long q0), .second, .val (.int p1), .val (.ref o2), .val (.ref o3), .val (.int (4 : Int32)), .val (.long q5), .second] [] := by first | (simp [entryFrame, mkF, argsToLocals, Value.category]; done) | rfl
theorem pd_2 : parseMethodDescriptor "([DD)[Z" = some ⟨[(.array .double), .double], some (.array .boolean)⟩ := by decide +kernel
theorem pd_3 : parseMethodDescriptor "(JZ[J[ZIJ)Z" = some ⟨[.long, .boolean, (.array .long), (.array .boolean), .int, .long], some .boolean⟩ := by decide +kernel
theorem ef_rm0 (m : MethodId) (p0 : Int32) (p1 : Int32) (p2 : Int32) (p3 : Int32) (p4 : Int32) (p5 : Int32) : entryFrame m #[(.int p0), (.int p1), (.int p2), (.int p3), (.int p4), (.int p5)] maxLocals = mkF m 0 #[.val (.int p0), .val (.int p1), .val (.int p2), .val (.int p3), .val (.int p4), .val (.int p5), .unset, .unset, .unset, .unset, .unset, .unset, .unset, .unset, .unset, .unset, .unset] [] := by first | (simp [entryFrame, mkF, argsToLocals, Value.category, maxLocals]; done) | rfl
def Q4 (Z : State) (q0 : Int64) (p1 : Int32) (q2 : Int64) (p3 : Int32) (q4 : Int64) (z12 : Int64) (z14 : Int32) (rv : Int32) (h0 : Heap) (n0 : Nat) (v : Option Value) (h : Heap) (L : List Loc) : Prop := v = some (.int rv) ∧ Fr n0 L ∧ h = h0
set_option maxRecDepth 65536 in
set_option maxHeartbeats 40000000 in
theorem rm4 (l : Launch) (Z : State) (a0 : Array Value) (hw : ∀ d ∈ tables_1, d.before a0 Z = true) (ws : List Jvm.Cond) (q0 : Int64) (p1 : Int32) (q2 : Int64) (p3 : Int32) (q4 : Int64) (z12 : Int64) (z14 : Int32) (rv : Int32) (h0 : Heap) (n0 : Nat) (Z0 : n0 ≤ h0.size) (hz12 : q0 + q4 = z12) (hz14 : lcmpW z12 q2 = z14) (hrv : (if p3 = (0 : Int32) then (if p1 = (0 : Int32) then (if z14 < (0 : Int32) then (0 : Int32) else (1 : Int32)) else (0 : Int32)) else (1 : Int32)) = rv) :
    MetFree l (⟨"com/example/credal_choice/credalchoice/criteria/ChoiceNearLargestPinLaw", "beats", "(JZJZJ)Z"⟩ : MethodName) (head1 (Jvm.Cond.code (⟨"com/example/credal_choice/credalchoice/criteria/ChoiceNearLargestPinLaw", "beats", "(JZJZJ)Z"⟩ : MethodName) method_3_code 8 (some .boolean) :: ws) ({ frames := 0, cells := 0, slots := 0, locals := 0 } : Room)) (fun a U => a = #[(.long q0), (.int p1), (.long q2), (.int p3), (.long q4)] ∧ Z.Warmed39 U.vm ∧ U.heap = h0) (fun _ _ _ _ _ => True) (fun _ U o U' => ∃ v L, o = .returned v ∧ Q4 Z q0 p1 q2 p3 q4 z12 z14 rv h0 n0 v U'.heap L ∧ FrameEnd U o U' L ({ frames := 0, cells := 0, slots := 0, locals := 0 } : Room).cells ({ frames := 0, cells := 0, slots := 0, locals := 0 } : Room).slots) := by
  refine MetFree.of_bodySF (plainFor_of_name pn_0) hisR ?_
  intro p e s m args below meth c s₁ Bd hml0 hP hK
  obtain ⟨rfl, hZ, hh⟩ := hP
  have hx := Bd.exec
  have hby := Bd.bytes
  have hml : c.maxLocals = 8 := hml0
  have hown : s.vm.findClass "com/example/credal_choice/credalchoice/criteria/ChoiceNearLargestPinLaw" = some m.cls := findClass_of_methodNamed Bd.named
  have hnm := (name_of_methodNamed Bd.named Bd.method).1
  have X0 : Stand p l e ({ frames := 0, cells := 0, slots := 0, locals := 0 } : Room) s m #[(.long q0), (.int p1), (.long q2), (.int p3), (.long q4)] below meth c s₁ [] 0 0 := Stand.of_body Bd
  have e0 : s₁.heap = h0 := by rw [← hh, Bd.state]; rfl
  have N0 := Fr.nil n0
  have c0 : ∀ t, Steps p.tables e below (s₁.setTop (mkF m 0 #[.val (.long q0), .second, .val (.int p1), .val (.long q2), .second, .val (.int p3), .val (.long q4), .second] [])) t → Steps p.tables e below (s₁.setTop (entryFrame m #[(.long q0), (.int p1), (.long q2), (.int p3), (.long q4)] 8)) t := fun t k => castTop (ef_rm4 m q0 p1 q2 p3 q4) k
  have c1 : ∀ t, Steps p.tables e below (s₁.setTop (mkF m 2 #[.val (.long q0), .second, .val (.int p1), .val (.long q2), .second, .val (.int p3), .val (.long q4), .second] [(.int p3)])) t → Steps p.tables e below (s₁.setTop (entryFrame m #[(.long q0), (.int p1), (.long q2), (.int p3), (.long q4)] 8)) t := by
    intro t k
    refine c0 t ?_
    show Steps p.tables e below (s₁.setTop (mkF m 0 #[.val (.long q0), .second, .val (.int p1), .val (.long q2), .second, .val (.int p3), .val (.long q4), .second] [])) _
    refine XS.iload X0.here hx rfl (hb hby d4_0) rfl ?_
    exact k
  by_cases hb2 : p3 = (0 : Int32)
  · skip
    have c2 : ∀ t, Steps p.tables e below (s₁.setTop (mkF m 6 #[.val (.long q0), .second, .val (.int p1), .val (.long q2), .second, .val (.int p3), .val (.long q4), .second] [(.int p1)])) t → Steps p.tables e below (s₁.setTop (entryFrame m #[(.long q0), (.int p1), (.long q2), (.int p3), (.long q4)] 8)) t := by
      intro t k
      refine c1 t ?_
      show Steps p.tables e below (s₁.setTop (mkF m 2 #[.val (.long q0), .second, .val (.int p1), .val (.long q2), .second, .val (.int p3), .val (.long q4), .second] [(.int p3)])) _
      refine XS.ifNo X0.here hx rfl (hb hby d4_2) rfl (Jvm.Free.XT.i0_ne_f hb2) ?_
      show Steps p.tables e below (s₁.setTop (mkF m 5 #[.val (.long q0), .second, .val (.int p1), .val (.long q2), .second, .val (.int p3), .val (.long q4), .second] [])) _
      refine XS.iloadN X0.here hx rfl (hb hby d4_5) rfl ?_
      exact k
    by_cases hb6 : p1 = (0 : Int32)
    · skip
      have c3 : ∀ t, Steps p.tables e below (s₁.setTop (mkF m 15 #[.val (.long q0), .second, .val (.int p1), .val (.long q2), .second, .val (.int p3), .val (.long q4), .second] [(.int z14)])) t → Steps p.tables e below (s₁.setTop (entryFrame m #[(.long q0), (.int p1), (.long q2), (.int p3), (.long q4)] 8)) t := by
        intro t k
        refine c2 t ?_
        show Steps p.tables e below (s₁.setTop (mkF m 6 #[.val (.long q0), .second, .val (.int p1), .val (.long q2), .second, .val (.int p3), .val (.long q4), .second] [(.int p1)])) _
        refine XS.ifNo X0.here hx rfl (hb hby d4_6) rfl (Jvm.Free.XT.i0_ne_f hb6) ?_
        show Steps p.tables e below (s₁.setTop (mkF m 9 #[.val (.long q0), .second, .val (.int p1), .val (.long q2), .second, .val (.int p3), .val (.long q4), .second] [])) _
        refine XS.lloadN X0.here hx rfl (hb hby d4_9) rfl ?_
        show Steps p.tables e below (s₁.setTop (mkF m 10 #[.val (.long q0), .second, .val (.int p1), .val (.long q2), .second, .val (.int p3), .val (.long q4), .second] [(.long q0)])) _
        refine XS.lload X0.here hx rfl (hb hby d4_10) rfl ?_
        show Steps p.tables e below (s₁.setTop (mkF m 12 #[.val (.long q0), .second, .val (.int p1), .val (.long q2), .second, .val (.int p3), .val (.long q4), .second] [(.long q4), (.long q0)])) _
        refine Jvm.OwnK.ladd X0.here hx rfl (hb hby d4_12) rfl hz12 ?_
        show Steps p.tables e below (s₁.setTop (mkF m 13 #[.val (.long q0), .second, .val (.int p1), .val (.long q2), .second, .val (.int p3), .val (.long q4), .second] [(.long z12)])) _
        refine XS.lloadN X0.here hx rfl (hb hby d4_13) rfl ?_
        show Steps p.tables e below (s₁.setTop (mkF m 14 #[.val (.long q0), .second, .val (.int p1), .val (.long q2), .second, .val (.int p3), .val (.long q4), .second] [(.long q2), (.long z12)])) _
        refine Jvm.OwnK.lcmp X0.here hx rfl (hb hby d4_14) rfl hz14 ?_
        exact k
      by_cases hb15 : z14 < (0 : Int32)
      · skip
        have c4 : ∀ t, Steps p.tables e below (s₁.setTop (mkF m 23 #[.val (.long q0), .second, .val (.int p1), .val (.long q2), .second, .val (.int p3), .val (.long q4), .second] [(.int (0 : Int32))])) t → Steps p.tables e below (s₁.setTop (entryFrame m #[(.long q0), (.int p1), (.long q2), (.int p3), (.long q4)] 8)) t := by
          intro t k
          refine c3 t ?_
          show Steps p.tables e below (s₁.setTop (mkF m 15 #[.val (.long q0), .second, .val (.int p1), .val (.long q2), .second, .val (.int p3), .val (.long q4), .second] [(.int z14)])) _
          refine XS.ifYes X0.here hx rfl (pc0 := 15) (pc' := 22) rfl (hb hby d4_15) rfl (Jvm.Free.XT.i0_lt_t hb15) (by decide) (by decide) ?_
          show Steps p.tables e below (s₁.setTop (mkF m 22 #[.val (.long q0), .second, .val (.int p1), .val (.long q2), .second, .val (.int p3), .val (.long q4), .second] [])) _
          refine XS.iconst X0.here hx rfl (hb hby d4_22) ?_
          exact k
        obtain ⟨fs, hr, hrun, hended, hW, hsame⟩ := X0.leave (v := some (.int (0 : Int32))) (fun h => by rw [Bd.returns] at h; cases h)
        refine ⟨_, _, c4 _ ?_, hrun, hended, _, _, rfl, ?_, ⟨_, rfl⟩, hW, hsame.mono (by decide) (by decide)⟩
        · show Steps p.tables e below (s₁.setTop (mkF m 23 #[.val (.long q0), .second, .val (.int p1), .val (.long q2), .second, .val (.int p3), .val (.long q4), .second] [(.int (0 : Int32))])) _
          exact retOut X0 hx Bd.returns rfl (Or.inl ⟨rfl, by simp, _, rfl⟩) (hb hby d4_23) hr
        · show Q4 Z q0 p1 q2 p3 q4 z12 z14 rv h0 n0 _ s₁.heap _
          rw [e0]
          exact ⟨(congrArg (fun z => some (Value.int z)) (show (0 : Int32) = rv by rw [← hrv]; simp only [if_pos hb2, if_pos hb6, if_pos hb15])), by first | assumption | exact N0, rfl⟩
      · skip
        have c5 : ∀ t, Steps p.tables e below (s₁.setTop (mkF m 23 #[.val (.long q0), .second, .val (.int p1), .val (.long q2), .second, .val (.int p3), .val (.long q4), .second] [(.int (1 : Int32))])) t → Steps p.tables e below (s₁.setTop (entryFrame m #[(.long q0), (.int p1), (.long q2), (.int p3), (.long q4)] 8)) t := by
          intro t k
          refine c3 t ?_
          show Steps p.tables e below (s₁.setTop (mkF m 15 #[.val (.long q0), .second, .val (.int p1), .val (.long q2), .second, .val (.int p3), .val (.long q4), .second] [(.int z14)])) _
          refine XS.ifNo X0.here hx rfl (hb hby d4_15) rfl (Jvm.Free.XT.i0_lt_f hb15) ?_
          show Steps p.tables e below (s₁.setTop (mkF m 18 #[.val (.long q0), .second, .val (.int p1), .val (.long q2), .second, .val (.int p3), .val (.long q4), .second] [])) _
          refine XS.iconst X0.here hx rfl (hb hby d4_18) ?_
          show Steps p.tables e below (s₁.setTop (mkF m 19 #[.val (.long q0), .second, .val (.int p1), .val (.long q2), .second, .val (.int p3), .val (.long q4), .second] [(.int (1 : Int32))])) _
          refine XS.goto X0.here hx rfl (pc0 := 19) (pc' := 23) rfl (hb hby d4_19) (by decide) (by decide) ?_
          exact k
        obtain ⟨fs, hr, hrun, hended, hW, hsame⟩ := X0.leave (v := some (.int (1 : Int32))) (fun h => by rw [Bd.returns] at h; cases h)
        refine ⟨_, _, c5 _ ?_, hrun, hended, _, _, rfl, ?_, ⟨_, rfl⟩, hW, hsame.mono (by decide) (by decide)⟩
        · show Steps p.tables e below (s₁.setTop (mkF m 23 #[.val (.long q0), .second, .val (.int p1), .val (.long q2), .second, .val (.int p3), .val (.long q4), .second] [(.int (1 : Int32))])) _
          exact retOut X0 hx Bd.returns rfl (Or.inl ⟨rfl, by simp, _, rfl⟩) (hb hby d4_23) hr
        · show Q4 Z q0 p1 q2 p3 q4 z12 z14 rv h0 n0 _ s₁.heap _
          rw [e0]
          exact ⟨(congrArg (fun z => some (Value.int z)) (show (1 : Int32) = rv by rw [← hrv]; simp only [if_pos hb2, if_pos hb6, if_neg hb15])), by first | assumption | exact N0, rfl⟩
    · skip
      have c6 : ∀ t, Steps p.tables e below (s₁.setTop (mkF m 23 #[.val (.long q0), .second, .val (.int p1), .val (.long q2), .second, .val (.int p3), .val (.long q4), .second] [(.int (0 : Int32))])) t → Steps p.tables e below (s₁.setTop (entryFrame m #[(.long q0), (.int p1), (.long q2), (.int p3), (.long q4)] 8)) t := by
        intro t k
        refine c2 t ?_
        show Steps p.tables e below (s₁.setTop (mkF m 6 #[.val (.long q0), .second, .val (.int p1), .val (.long q2), .second, .val (.int p3), .val (.long q4), .second] [(.int p1)])) _
        refine XS.ifYes X0.here hx rfl (pc0 := 6) (pc' := 22) rfl (hb hby d4_6) rfl (Jvm.Free.XT.i0_ne_t hb6) (by decide) (by decide) ?_
        show Steps p.tables e below (s₁.setTop (mkF m 22 #[.val (.long q0), .second, .val (.int p1), .val (.long q2), .second, .val (.int p3), .val (.long q4), .second] [])) _
        refine XS.iconst X0.here hx rfl (hb hby d4_22) ?_
        exact k
      obtain ⟨fs, hr, hrun, hended, hW, hsame⟩ := X0.leave (v := some (.int (0 : Int32))) (fun h => by rw [Bd.returns] at h; cases h)
      refine ⟨_, _, c6 _ ?_, hrun, hended, _, _, rfl, ?_, ⟨_, rfl⟩, hW, hsame.mono (by decide) (by decide)⟩
      · show Steps p.tables e below (s₁.setTop (mkF m 23 #[.val (.long q0), .second, .val (.int p1), .val (.long q2), .second, .val (.int p3), .val (.long q4), .second] [(.int (0 : Int32))])) _
        exact retOut X0 hx Bd.returns rfl (Or.inl ⟨rfl, by simp, _, rfl⟩) (hb hby d4_23) hr
      · show Q4 Z q0 p1 q2 p3 q4 z12 z14 rv h0 n0 _ s₁.heap _
        rw [e0]
        exact ⟨(congrArg (fun z => some (Value.int z)) (show (0 : Int32) = rv by rw [← hrv]; simp only [if_pos hb2, if_neg hb6])), by first | assumption | exact N0, rfl⟩
  · skip
    have c7 : ∀ t, Steps p.tables e below (s₁.setTop (mkF m 23 #[.val (.long q0), .second, .val (.int p1), .val (.long q2), .second, .val (.int p3), .val (.long q4), .second] [(.int (1 : Int32))])) t → Steps p.tables e below (s₁.setTop (entryFrame m #[(.long q0), (.int p1), (.long q2), (.int p3), (.long q4)] 8)) t := by
      intro t k
      refine c1 t ?_
      show Steps p.tables e below (s₁.setTop (mkF m 2 #[.val (.long q0), .second, .val (.int p1), .val (.long q2), .second, .val (.int p3), .val (.long q4), .second] [(.int p3)])) _
      refine XS.ifYes X0.here hx rfl (pc0 := 2) (pc' := 18) rfl (hb hby d4_2) rfl (Jvm.Free.XT.i0_ne_t hb2) (by decide) (by decide) ?_
      show Steps p.tables e below (s₁.setTop (mkF m 18 #[.val (.long q0), .second, .val (.int p1), .val (.long q2), .second, .val (.int p3), .val (.long q4), .second] [])) _
      refine XS.iconst X0.here hx rfl (hb hby d4_18) ?_
      show Steps p.tables e below (s₁.setTop (mkF m 19 #[.val (.long q0), .second, .val (.int p1), .val (.long q2), .second, .val (.int p3), .val (.long q4), .second] [(.int (1 : Int32))])) _
      refine XS.goto X0.here hx rfl (pc0 := 19) (pc' := 23) rfl (hb hby d4_19) (by decide) (by decide) ?_
      exact k
    obtain ⟨fs, hr, hrun, hended, hW, hsame⟩ := X0.leave (v := some (.int (1 : Int32))) (fun h => by rw [Bd.returns] at h; cases h)
    refine ⟨_, _, c7 _ ?_, hrun, hended, _, _, rfl, ?_, ⟨_, rfl⟩, hW, hsame.mono (by decide) (by decide)⟩
    · show Steps p.tables e below (s₁.setTop (mkF m 23 #[.val (.long q0), .second, .val (.int p1), .val (.long q2), .second, .val (.int p3), .val (.long q4), .second] [(.int (1 : Int32))])) _
      exact retOut X0 hx Bd.returns rfl (Or.inl ⟨rfl, by simp, _, rfl⟩) (hb hby d4_23) hr
    · show Q4 Z q0 p1 q2 p3 q4 z12 z14 rv h0 n0 _ s₁.heap _
      rw [e0]
      exact ⟨(congrArg (fun z => some (Value.int z)) (show (1 : Int32) = rv by rw [← hrv]; simp only [if_neg hb2])), by first | assumption | exact N0, rfl⟩
def Q1_0 (Z : State) (o0 : Addr) (d1 : UInt64) (k_o0 : ClassId)  (h0 : Heap) (n0 : Nat) (v : Option Value) (h : Heap) (L : List Loc) : Prop := ∃ b3 : Addr, ∃ k3 : ClassId, v = some (.ref b3) ∧ Fr n0 L ∧ h0.size ≤ b3 ∧ Keep h0 h [] ∧ Arv Z h b3 k3 .boolean (0 : Int32) [] (.int (0 : Int32))
set_option maxRecDepth 65536 in
set_option maxHeartbeats 40000000 in
theorem rm1_0 (l : Launch) (Z : State) (a0 : Array Value) (hw : ∀ d ∈ tables_1, d.before a0 Z = true) (ws : List Jvm.Cond) (o0 : Addr) (d1 : UInt64) (k_o0 : ClassId)  (h0 : Heap) (n0 : Nat) (Z0 : n0 ≤ h0.size) (V_o0 : Arv Z h0 o0 k_o0 .double (0 : Int32) [] (.double (0 : UInt64))) :
    MetFree l (⟨"com/example/credal_choice/credalchoice/criteria/Choice", "nearLargest", "([DD)[Z"⟩ : MethodName) (head1 (Jvm.Cond.code (⟨"com/example/credal_choice/credalchoice/criteria/Choice", "nearLargest", "([DD)[Z"⟩ : MethodName) prog_5_method_6_code 10 (some (.array .boolean)) :: ws) ({ frames := 0, cells := 1, slots := 0, locals := 0 } : Room)) (fun a U => a = #[(.ref o0), (.double d1)] ∧ Z.Warmed39 U.vm ∧ U.heap = h0) (fun _ _ _ _ _ => True) (fun _ U o U' => ∃ v L, o = .returned v ∧ Q1_0 Z o0 d1 k_o0  h0 n0 v U'.heap L ∧ FrameEnd U o U' L ({ frames := 0, cells := 1, slots := 0, locals := 0 } : Room).cells ({ frames := 0, cells := 1, slots := 0, locals := 0 } : Room).slots) := by
  refine MetFree.of_bodySF (plainFor_of_name pn_1) hisR ?_
  intro p e s m args below meth c s₁ Bd hml0 hP hK
  obtain ⟨rfl, hZ, hh⟩ := hP
  have hx := Bd.exec
  have hby := Bd.bytes
  have hml : c.maxLocals = 10 := hml0
  have hown : s.vm.findClass "com/example/credal_choice/credalchoice/criteria/Choice" = some m.cls := findClass_of_methodNamed Bd.named
  have hnm := (name_of_methodNamed Bd.named Bd.method).1
  have X0 : Stand p l e ({ frames := 0, cells := 1, slots := 0, locals := 0 } : Room) s m #[(.ref o0), (.double d1)] below meth c s₁ [] 0 0 := Stand.of_body Bd
  have e0 : s₁.heap = h0 := by rw [← hh, Bd.state]; rfl
  have N0 := Fr.nil n0
  have c0 : ∀ t, Steps p.tables e below (s₁.setTop (mkF m 0 #[.val (.ref o0), .val (.double d1), .second, .unset, .unset, .unset, .unset, .unset, .unset, .unset] [])) t → Steps p.tables e below (s₁.setTop (entryFrame m #[(.ref o0), (.double d1)] 10)) t := fun t k => castTop (ef_rm1_0 m o0 d1) k
  obtain ⟨cl1, Ar1, -, S1, Nn1, -, -⟩ := id V_o0
  obtain ⟨cl2, Ar2, -, S2, Nn2, -, -⟩ := id V_o0
  obtain ⟨T3, h3, k3, X3, e3, E3, A3, st3⟩ := newP X0 hx hZ (hw _ (List.mem_of_getElem? (i := 2) rfl)) e0 (g := (mkF m 44 #[.val (.ref o0), .val (.double d1), .second, .val (.double (18442240474082181120 : UInt64)), .second, .val (.ref o0), .val (.int (0 : Int32)), .val (.int (0 : Int32)), .unset, .unset] [(.int (0 : Int32))])) rfl (hb hby d1_44) rfl (by decide) (cap := 0) (by decide) (by decide) (by decide) (by decide)
  obtain ⟨b3, g3⟩ : ∃ z, z = h0.size := ⟨_, rfl⟩
  rw [← g3] at A3 st3
  have gn3 : n0 ≤ b3 := Nat.le_trans Z0 (Nat.le_of_eq g3.symm)
  have gz3 : h0.size ≤ b3 := Nat.le_trans ((Keep.refl h0 [])).1 (Nat.le_of_eq g3.symm)
  have K4 : Keep h0 h3 [] := (Keep.refl h0 []).ext E3
  have V3 : Arv Z h3 b3 k3 .boolean (0 : Int32) [] (.int (0 : Int32)) := (Arv.new A3 (by decide)).pad (pad_rep [] (.int (0 : Int32)) 0)
  have f5 := (V_o0.ext E3)
  obtain ⟨cl6, Ar6, -, S6, Nn6, -, -⟩ := id f5
  have c7 : ∀ t, Steps p.tables e below (T3.setTop (mkF m 87 #[.val (.ref o0), .val (.double d1), .second, .val (.double (18442240474082181120 : UInt64)), .second, .val (.ref b3), .val (.int (0 : Int32)), .val (.int (0 : Int32)), .unset, .unset] [(.ref b3)])) t → Steps p.tables e below (s₁.setTop (entryFrame m #[(.ref o0), (.double d1)] 10)) t := by
    intro t k
    refine c0 t ?_
    show Steps p.tables e below (s₁.setTop (mkF m 0 #[.val (.ref o0), .val (.double d1), .second, .unset, .unset, .unset, .unset, .unset, .unset, .unset] [])) _
    refine X0.ldc2DoubleC hx hown (mvT hZ (hw _ (List.mem_of_getElem? (i := 8) rfl))) (g := (mkF m 0 #[.val (.ref o0), .val (.double d1), .second, .unset, .unset, .unset, .unset, .unset, .unset, .unset] [])) rfl (hb hby d1_0) _ ?_
    show Steps p.tables e below (s₁.setTop (mkF m 3 #[.val (.ref o0), .val (.double d1), .second, .unset, .unset, .unset, .unset, .unset, .unset, .unset] [(.double (18442240474082181120 : UInt64))])) _
    refine XS.dstoreN X0.here hx rfl (hb hby d1_3) rfl (l' := #[.val (.ref o0), .val (.double d1), .second, .val (.double (18442240474082181120 : UInt64)), .second, .unset, .unset, .unset, .unset, .unset]) rfl ?_
    show Steps p.tables e below (s₁.setTop (mkF m 4 #[.val (.ref o0), .val (.double d1), .second, .val (.double (18442240474082181120 : UInt64)), .second, .unset, .unset, .unset, .unset, .unset] [])) _
    refine XS.aloadN X0.here hx rfl (hb hby d1_4) rfl rfl ?_
    show Steps p.tables e below (s₁.setTop (mkF m 5 #[.val (.ref o0), .val (.double d1), .second, .val (.double (18442240474082181120 : UInt64)), .second, .unset, .unset, .unset, .unset, .unset] [(.ref o0)])) _
    refine XS.astore X0.here hx rfl (hb hby d1_5) rfl rfl (l' := #[.val (.ref o0), .val (.double d1), .second, .val (.double (18442240474082181120 : UInt64)), .second, .val (.ref o0), .unset, .unset, .unset, .unset]) rfl ?_
    show Steps p.tables e below (s₁.setTop (mkF m 7 #[.val (.ref o0), .val (.double d1), .second, .val (.double (18442240474082181120 : UInt64)), .second, .val (.ref o0), .unset, .unset, .unset, .unset] [])) _
    refine XS.aload X0.here hx rfl (hb hby d1_7) rfl rfl ?_
    show Steps p.tables e below (s₁.setTop (mkF m 9 #[.val (.ref o0), .val (.double d1), .second, .val (.double (18442240474082181120 : UInt64)), .second, .val (.ref o0), .unset, .unset, .unset, .unset] [(.ref o0)])) _
    refine X0.arraylength hx (by rw [e0]; exact Ar1.1) (State.isArrayOf_alike hZ.alike Ar1.2.1) (g := (mkF m 9 #[.val (.ref o0), .val (.double d1), .second, .val (.double (18442240474082181120 : UInt64)), .second, .val (.ref o0), .unset, .unset, .unset, .unset] [(.ref o0)])) rfl rfl (hb hby d1_9) _ ?_
    rw [len_of S1 Nn1]
    show Steps p.tables e below (s₁.setTop (mkF m 10 #[.val (.ref o0), .val (.double d1), .second, .val (.double (18442240474082181120 : UInt64)), .second, .val (.ref o0), .unset, .unset, .unset, .unset] [(.int (0 : Int32))])) _
    refine XS.istore X0.here hx rfl (hb hby d1_10) rfl (l' := #[.val (.ref o0), .val (.double d1), .second, .val (.double (18442240474082181120 : UInt64)), .second, .val (.ref o0), .val (.int (0 : Int32)), .unset, .unset, .unset]) rfl ?_
    show Steps p.tables e below (s₁.setTop (mkF m 12 #[.val (.ref o0), .val (.double d1), .second, .val (.double (18442240474082181120 : UInt64)), .second, .val (.ref o0), .val (.int (0 : Int32)), .unset, .unset, .unset] [])) _
    refine XS.iconst X0.here hx rfl (hb hby d1_12) ?_
    show Steps p.tables e below (s₁.setTop (mkF m 13 #[.val (.ref o0), .val (.double d1), .second, .val (.double (18442240474082181120 : UInt64)), .second, .val (.ref o0), .val (.int (0 : Int32)), .unset, .unset, .unset] [(.int (0 : Int32))])) _
    refine XS.istore X0.here hx rfl (hb hby d1_13) rfl (l' := #[.val (.ref o0), .val (.double d1), .second, .val (.double (18442240474082181120 : UInt64)), .second, .val (.ref o0), .val (.int (0 : Int32)), .val (.int (0 : Int32)), .unset, .unset]) rfl ?_
    show Steps p.tables e below (s₁.setTop (mkF m 15 #[.val (.ref o0), .val (.double d1), .second, .val (.double (18442240474082181120 : UInt64)), .second, .val (.ref o0), .val (.int (0 : Int32)), .val (.int (0 : Int32)), .unset, .unset] [])) _
    refine XS.iload X0.here hx rfl (hb hby d1_15) rfl ?_
    show Steps p.tables e below (s₁.setTop (mkF m 17 #[.val (.ref o0), .val (.double d1), .second, .val (.double (18442240474082181120 : UInt64)), .second, .val (.ref o0), .val (.int (0 : Int32)), .val (.int (0 : Int32)), .unset, .unset] [(.int (0 : Int32))])) _
    refine XS.iload X0.here hx rfl (hb hby d1_17) rfl ?_
    show Steps p.tables e below (s₁.setTop (mkF m 19 #[.val (.ref o0), .val (.double d1), .second, .val (.double (18442240474082181120 : UInt64)), .second, .val (.ref o0), .val (.int (0 : Int32)), .val (.int (0 : Int32)), .unset, .unset] [(.int (0 : Int32)), (.int (0 : Int32))])) _
    refine XS.icmpYes X0.here hx rfl (pc0 := 19) (pc' := 42) rfl (hb hby d1_19) rfl (Jvm.Free.XT.ii_ge_t (by decide)) (by decide) (by decide) ?_
    show Steps p.tables e below (s₁.setTop (mkF m 42 #[.val (.ref o0), .val (.double d1), .second, .val (.double (18442240474082181120 : UInt64)), .second, .val (.ref o0), .val (.int (0 : Int32)), .val (.int (0 : Int32)), .unset, .unset] [])) _
    refine XS.aloadN X0.here hx rfl (hb hby d1_42) rfl rfl ?_
    show Steps p.tables e below (s₁.setTop (mkF m 43 #[.val (.ref o0), .val (.double d1), .second, .val (.double (18442240474082181120 : UInt64)), .second, .val (.ref o0), .val (.int (0 : Int32)), .val (.int (0 : Int32)), .unset, .unset] [(.ref o0)])) _
    refine X0.arraylength hx (by rw [e0]; exact Ar2.1) (State.isArrayOf_alike hZ.alike Ar2.2.1) (g := (mkF m 43 #[.val (.ref o0), .val (.double d1), .second, .val (.double (18442240474082181120 : UInt64)), .second, .val (.ref o0), .val (.int (0 : Int32)), .val (.int (0 : Int32)), .unset, .unset] [(.ref o0)])) rfl rfl (hb hby d1_43) _ ?_
    rw [len_of S2 Nn2]
    show Steps p.tables e below (s₁.setTop (mkF m 44 #[.val (.ref o0), .val (.double d1), .second, .val (.double (18442240474082181120 : UInt64)), .second, .val (.ref o0), .val (.int (0 : Int32)), .val (.int (0 : Int32)), .unset, .unset] [(.int (0 : Int32))])) _
    refine st3 _ ?_
    show Steps p.tables e below (T3.setTop (mkF m 46 #[.val (.ref o0), .val (.double d1), .second, .val (.double (18442240474082181120 : UInt64)), .second, .val (.ref o0), .val (.int (0 : Int32)), .val (.int (0 : Int32)), .unset, .unset] [(.ref b3)])) _
    refine XS.astore X3.here hx rfl (hb hby d1_46) rfl rfl (l' := #[.val (.ref o0), .val (.double d1), .second, .val (.double (18442240474082181120 : UInt64)), .second, .val (.ref b3), .val (.int (0 : Int32)), .val (.int (0 : Int32)), .unset, .unset]) rfl ?_
    show Steps p.tables e below (T3.setTop (mkF m 48 #[.val (.ref o0), .val (.double d1), .second, .val (.double (18442240474082181120 : UInt64)), .second, .val (.ref b3), .val (.int (0 : Int32)), .val (.int (0 : Int32)), .unset, .unset] [])) _
    refine XS.iconst X3.here hx rfl (hb hby d1_48) ?_
    show Steps p.tables e below (T3.setTop (mkF m 49 #[.val (.ref o0), .val (.double d1), .second, .val (.double (18442240474082181120 : UInt64)), .second, .val (.ref b3), .val (.int (0 : Int32)), .val (.int (0 : Int32)), .unset, .unset] [(.int (0 : Int32))])) _
    refine XS.istore X3.here hx rfl (hb hby d1_49) rfl (l' := #[.val (.ref o0), .val (.double d1), .second, .val (.double (18442240474082181120 : UInt64)), .second, .val (.ref b3), .val (.int (0 : Int32)), .val (.int (0 : Int32)), .unset, .unset]) rfl ?_
    show Steps p.tables e below (T3.setTop (mkF m 51 #[.val (.ref o0), .val (.double d1), .second, .val (.double (18442240474082181120 : UInt64)), .second, .val (.ref b3), .val (.int (0 : Int32)), .val (.int (0 : Int32)), .unset, .unset] [])) _
    refine XS.iload X3.here hx rfl (hb hby d1_51) rfl ?_
    show Steps p.tables e below (T3.setTop (mkF m 53 #[.val (.ref o0), .val (.double d1), .second, .val (.double (18442240474082181120 : UInt64)), .second, .val (.ref b3), .val (.int (0 : Int32)), .val (.int (0 : Int32)), .unset, .unset] [(.int (0 : Int32))])) _
    refine XS.aloadN X3.here hx rfl (hb hby d1_53) rfl rfl ?_
    show Steps p.tables e below (T3.setTop (mkF m 54 #[.val (.ref o0), .val (.double d1), .second, .val (.double (18442240474082181120 : UInt64)), .second, .val (.ref b3), .val (.int (0 : Int32)), .val (.int (0 : Int32)), .unset, .unset] [(.ref o0), (.int (0 : Int32))])) _
    refine X3.arraylength hx (by rw [e3]; exact Ar6.1) (State.isArrayOf_alike hZ.alike Ar6.2.1) (g := (mkF m 54 #[.val (.ref o0), .val (.double d1), .second, .val (.double (18442240474082181120 : UInt64)), .second, .val (.ref b3), .val (.int (0 : Int32)), .val (.int (0 : Int32)), .unset, .unset] [(.ref o0), (.int (0 : Int32))])) rfl rfl (hb hby d1_54) _ ?_
    rw [len_of S6 Nn6]
    show Steps p.tables e below (T3.setTop (mkF m 55 #[.val (.ref o0), .val (.double d1), .second, .val (.double (18442240474082181120 : UInt64)), .second, .val (.ref b3), .val (.int (0 : Int32)), .val (.int (0 : Int32)), .unset, .unset] [(.int (0 : Int32)), (.int (0 : Int32))])) _
    refine XS.icmpYes X3.here hx rfl (pc0 := 55) (pc' := 85) rfl (hb hby d1_55) rfl (Jvm.Free.XT.ii_ge_t (by decide)) (by decide) (by decide) ?_
    show Steps p.tables e below (T3.setTop (mkF m 85 #[.val (.ref o0), .val (.double d1), .second, .val (.double (18442240474082181120 : UInt64)), .second, .val (.ref b3), .val (.int (0 : Int32)), .val (.int (0 : Int32)), .unset, .unset] [])) _
    refine XS.aload X3.here hx rfl (hb hby d1_85) rfl rfl ?_
    exact k
  obtain ⟨fs, hr, hrun, hended, hW, hsame⟩ := X3.leave (v := some (.ref b3)) (fun h => by rw [Bd.returns] at h; cases h)
  refine ⟨_, _, c7 _ ?_, hrun, hended, _, _, rfl, ?_, ⟨_, rfl⟩, hW, hsame.mono (by decide) (by decide)⟩
  · show Steps p.tables e below (T3.setTop (mkF m 87 #[.val (.ref o0), .val (.double d1), .second, .val (.double (18442240474082181120 : UInt64)), .second, .val (.ref b3), .val (.int (0 : Int32)), .val (.int (0 : Int32)), .unset, .unset] [(.ref b3)])) _
    exact retOut X3 hx Bd.returns rfl (Or.inr (Or.inr (Or.inr (Or.inr ⟨rfl, rfl, rfl⟩)))) (hb hby d1_87) hr
  · show Q1_0 Z o0 d1 k_o0  h0 n0 _ T3.heap _
    rw [e3]
    exact ⟨b3, k3, rfl, N0, gz3, K4, V3⟩
def Q1_1 (Z : State) (o0 : Addr) (d1 : UInt64) (k_o0 : ClassId) (y0 : UInt64) (z32 : UInt64) (z68 : UInt64) (z69 : Int32) (m70_s0 : Int32) (h0 : Heap) (n0 : Nat) (v : Option Value) (h : Heap) (L : List Loc) : Prop := ∃ b5 : Addr, ∃ k5 : ClassId, v = some (.ref b5) ∧ Fr n0 L ∧ h0.size ≤ b5 ∧ Keep h0 h [] ∧ Arv Z h b5 k5 .boolean (1 : Int32) [(.int m70_s0)] (.int (0 : Int32))
set_option maxRecDepth 65536 in
set_option maxHeartbeats 40000000 in
theorem rm1_1 (l : Launch) (Z : State) (a0 : Array Value) (hw : ∀ d ∈ tables_1, d.before a0 Z = true) (ws : List Jvm.Cond) (o0 : Addr) (d1 : UInt64) (k_o0 : ClassId) (y0 : UInt64) (z32 : UInt64) (z68 : UInt64) (z69 : Int32) (m70_s0 : Int32) (h0 : Heap) (n0 : Nat) (Z0 : n0 ≤ h0.size) (V_o0 : Arv Z h0 o0 k_o0 .double (1 : Int32) [(.double y0)] (.double (0 : UInt64))) (hz32 : Jvm.Native.java_lang_Math.nans.pick64 true (18442240474082181120 : UInt64) y0 = z32) (hz68 : FP.dsub z32 d1 = z68) (hz69 : cmpValue (FP.dcmp y0 z68) .l = z69) (hm70_s0 : (if z69 < (0 : Int32) then (0 : Int32) else (1 : Int32)) = m70_s0) (nm0_32 : Jvm.Free.Fl.NoNaN64 (18442240474082181120 : UInt64)) (nm1_32 : Jvm.Free.Fl.NoNaN64 y0) (nn68 : Jvm.Free.Fl.NoNaN64 z68) (nb78 : nar .boolean m70_s0 = m70_s0) (fi78 : fits .boolean (.int m70_s0) = true) :
    MetFree l (⟨"com/example/credal_choice/credalchoice/criteria/Choice", "nearLargest", "([DD)[Z"⟩ : MethodName) (head1 (Jvm.Cond.code (⟨"com/example/credal_choice/credalchoice/criteria/Choice", "nearLargest", "([DD)[Z"⟩ : MethodName) prog_5_method_6_code 10 (some (.array .boolean)) :: ws) ({ frames := 1, cells := 1, slots := 1, locals := 15 } : Room)) (fun a U => a = #[(.ref o0), (.double d1)] ∧ Z.Warmed39 U.vm ∧ U.heap = h0) (fun _ _ _ _ _ => True) (fun _ U o U' => ∃ v L, o = .returned v ∧ Q1_1 Z o0 d1 k_o0 y0 z32 z68 z69 m70_s0 h0 n0 v U'.heap L ∧ FrameEnd U o U' L ({ frames := 1, cells := 1, slots := 1, locals := 15 } : Room).cells ({ frames := 1, cells := 1, slots := 1, locals := 15 } : Room).slots) := by
  refine MetFree.of_bodySF (plainFor_of_name pn_1) hisR ?_
  intro p e s m args below meth c s₁ Bd hml0 hP hK
  obtain ⟨rfl, hZ, hh⟩ := hP
  have hx := Bd.exec
  have hby := Bd.bytes
  have hml : c.maxLocals = 10 := hml0
  have hown : s.vm.findClass "com/example/credal_choice/credalchoice/criteria/Choice" = some m.cls := findClass_of_methodNamed Bd.named
  have hnm := (name_of_methodNamed Bd.named Bd.method).1
  have X0 : Stand p l e ({ frames := 1, cells := 1, slots := 1, locals := 15 } : Room) s m #[(.ref o0), (.double d1)] below meth c s₁ [] 0 0 := Stand.of_body Bd
  have e0 : s₁.heap = h0 := by rw [← hh, Bd.state]; rfl
  have N0 := Fr.nil n0
  have c0 : ∀ t, Steps p.tables e below (s₁.setTop (mkF m 0 #[.val (.ref o0), .val (.double d1), .second, .unset, .unset, .unset, .unset, .unset, .unset, .unset] [])) t → Steps p.tables e below (s₁.setTop (entryFrame m #[(.ref o0), (.double d1)] 10)) t := fun t k => castTop (ef_rm1_1 m o0 d1) k
  obtain ⟨cl1, Ar1, -, S1, Nn1, -, -⟩ := id V_o0
  obtain ⟨cl2, Ar2, -, S2, -, Ha2, -⟩ := id V_o0
  have in2 : ¬ ((0 : Int32) < 0 ∨ cl2.slots.size ≤ ((0 : Int32)).toNatClampNeg) := inb_of S2 ⟨by decide, by decide⟩
  obtain ⟨T3, X3, e3, st3⟩ := natS X0 hx hZ (y := (⟨"java/lang/Math", "max", "(DD)D"⟩ : MethodName)) hown (hw _ (List.mem_of_getElem? (i := 9) rfl)) (hw _ (List.mem_of_getElem? (i := 10) rfl)) (hw _ (List.mem_of_getElem? (i := 11) rfl)) (hw _ (List.mem_of_getElem? (i := 12) rfl)) (by decide) e0 (W := 0) (fun hq => Jvm.Free.Fl.Abs.maxD_pays (18442240474082181120 : UInt64) y0 hq (by decide) (by decide)) (g := (mkF m 32 #[.val (.ref o0), .val (.double d1), .second, .val (.double (18442240474082181120 : UInt64)), .second, .val (.ref o0), .val (.int (1 : Int32)), .val (.int (0 : Int32)), .val (.double y0), .second] [(.double y0), (.double (18442240474082181120 : UInt64))])) rfl (by rw [hml]; rfl) (argsL := [(.double (18442240474082181120 : UInt64)), (.double y0)]) (rest := []) (lenOf pd_0 rfl) rfl (by show 2 * 0 + _ ≤ _; exact Nat.le_of_eq rfl) (hb hby d1_32) (by decide) (by decide) ⟨rfl, nm0_32, nm1_32⟩ (congrArg Value.double hz32)
  obtain ⟨cl4, Ar4, -, S4, Nn4, -, -⟩ := id V_o0
  obtain ⟨T5, h5, k5, X5, e5, E5, A5, st5⟩ := newP X3 hx hZ (hw _ (List.mem_of_getElem? (i := 2) rfl)) e3 (g := (mkF m 44 #[.val (.ref o0), .val (.double d1), .second, .val (.double z32), .second, .val (.ref o0), .val (.int (1 : Int32)), .val (.int (1 : Int32)), .val (.double y0), .second] [(.int (1 : Int32))])) rfl (hb hby d1_44) rfl (by decide) (cap := 1) (by decide) (by decide) (by decide) (by decide)
  obtain ⟨b5, g5⟩ : ∃ z, z = h0.size := ⟨_, rfl⟩
  rw [← g5] at A5 st5
  have gn5 : n0 ≤ b5 := Nat.le_trans Z0 (Nat.le_of_eq g5.symm)
  have gz5 : h0.size ≤ b5 := Nat.le_trans ((Keep.refl h0 [])).1 (Nat.le_of_eq g5.symm)
  have K6 : Keep h0 h5 [] := (Keep.refl h0 []).ext E5
  have V5 : Arv Z h5 b5 k5 .boolean (1 : Int32) [(.int (0 : Int32))] (.int (0 : Int32)) := (Arv.new A5 (by decide)).pad (pad_rep [] (.int (0 : Int32)) 1)
  have f7 := (V_o0.ext E5)
  obtain ⟨cl8, Ar8, -, S8, Nn8, -, -⟩ := id f7
  obtain ⟨cl9, Ar9, -, S9, -, Ha9, -⟩ := id f7
  have in9 : ¬ ((0 : Int32) < 0 ∨ cl9.slots.size ≤ ((0 : Int32)).toNatClampNeg) := inb_of S9 ⟨by decide, by decide⟩
  have c10 : ∀ t, Steps p.tables e below (T5.setTop (mkF m 78 #[.val (.ref o0), .val (.double d1), .second, .val (.double z32), .second, .val (.ref b5), .val (.int (0 : Int32)), .val (.int (1 : Int32)), .val (.double y0), .second] [(.int m70_s0), (.int (0 : Int32)), (.ref b5)])) t → Steps p.tables e below (s₁.setTop (entryFrame m #[(.ref o0), (.double d1)] 10)) t := by
    intro t k
    refine c0 t ?_
    show Steps p.tables e below (s₁.setTop (mkF m 0 #[.val (.ref o0), .val (.double d1), .second, .unset, .unset, .unset, .unset, .unset, .unset, .unset] [])) _
    refine X0.ldc2DoubleC hx hown (mvT hZ (hw _ (List.mem_of_getElem? (i := 8) rfl))) (g := (mkF m 0 #[.val (.ref o0), .val (.double d1), .second, .unset, .unset, .unset, .unset, .unset, .unset, .unset] [])) rfl (hb hby d1_0) _ ?_
    show Steps p.tables e below (s₁.setTop (mkF m 3 #[.val (.ref o0), .val (.double d1), .second, .unset, .unset, .unset, .unset, .unset, .unset, .unset] [(.double (18442240474082181120 : UInt64))])) _
    refine XS.dstoreN X0.here hx rfl (hb hby d1_3) rfl (l' := #[.val (.ref o0), .val (.double d1), .second, .val (.double (18442240474082181120 : UInt64)), .second, .unset, .unset, .unset, .unset, .unset]) rfl ?_
    show Steps p.tables e below (s₁.setTop (mkF m 4 #[.val (.ref o0), .val (.double d1), .second, .val (.double (18442240474082181120 : UInt64)), .second, .unset, .unset, .unset, .unset, .unset] [])) _
    refine XS.aloadN X0.here hx rfl (hb hby d1_4) rfl rfl ?_
    show Steps p.tables e below (s₁.setTop (mkF m 5 #[.val (.ref o0), .val (.double d1), .second, .val (.double (18442240474082181120 : UInt64)), .second, .unset, .unset, .unset, .unset, .unset] [(.ref o0)])) _
    refine XS.astore X0.here hx rfl (hb hby d1_5) rfl rfl (l' := #[.val (.ref o0), .val (.double d1), .second, .val (.double (18442240474082181120 : UInt64)), .second, .val (.ref o0), .unset, .unset, .unset, .unset]) rfl ?_
    show Steps p.tables e below (s₁.setTop (mkF m 7 #[.val (.ref o0), .val (.double d1), .second, .val (.double (18442240474082181120 : UInt64)), .second, .val (.ref o0), .unset, .unset, .unset, .unset] [])) _
    refine XS.aload X0.here hx rfl (hb hby d1_7) rfl rfl ?_
    show Steps p.tables e below (s₁.setTop (mkF m 9 #[.val (.ref o0), .val (.double d1), .second, .val (.double (18442240474082181120 : UInt64)), .second, .val (.ref o0), .unset, .unset, .unset, .unset] [(.ref o0)])) _
    refine X0.arraylength hx (by rw [e0]; exact Ar1.1) (State.isArrayOf_alike hZ.alike Ar1.2.1) (g := (mkF m 9 #[.val (.ref o0), .val (.double d1), .second, .val (.double (18442240474082181120 : UInt64)), .second, .val (.ref o0), .unset, .unset, .unset, .unset] [(.ref o0)])) rfl rfl (hb hby d1_9) _ ?_
    rw [len_of S1 Nn1]
    show Steps p.tables e below (s₁.setTop (mkF m 10 #[.val (.ref o0), .val (.double d1), .second, .val (.double (18442240474082181120 : UInt64)), .second, .val (.ref o0), .unset, .unset, .unset, .unset] [(.int (1 : Int32))])) _
    refine XS.istore X0.here hx rfl (hb hby d1_10) rfl (l' := #[.val (.ref o0), .val (.double d1), .second, .val (.double (18442240474082181120 : UInt64)), .second, .val (.ref o0), .val (.int (1 : Int32)), .unset, .unset, .unset]) rfl ?_
    show Steps p.tables e below (s₁.setTop (mkF m 12 #[.val (.ref o0), .val (.double d1), .second, .val (.double (18442240474082181120 : UInt64)), .second, .val (.ref o0), .val (.int (1 : Int32)), .unset, .unset, .unset] [])) _
    refine XS.iconst X0.here hx rfl (hb hby d1_12) ?_
    show Steps p.tables e below (s₁.setTop (mkF m 13 #[.val (.ref o0), .val (.double d1), .second, .val (.double (18442240474082181120 : UInt64)), .second, .val (.ref o0), .val (.int (1 : Int32)), .unset, .unset, .unset] [(.int (0 : Int32))])) _
    refine XS.istore X0.here hx rfl (hb hby d1_13) rfl (l' := #[.val (.ref o0), .val (.double d1), .second, .val (.double (18442240474082181120 : UInt64)), .second, .val (.ref o0), .val (.int (1 : Int32)), .val (.int (0 : Int32)), .unset, .unset]) rfl ?_
    show Steps p.tables e below (s₁.setTop (mkF m 15 #[.val (.ref o0), .val (.double d1), .second, .val (.double (18442240474082181120 : UInt64)), .second, .val (.ref o0), .val (.int (1 : Int32)), .val (.int (0 : Int32)), .unset, .unset] [])) _
    refine XS.iload X0.here hx rfl (hb hby d1_15) rfl ?_
    show Steps p.tables e below (s₁.setTop (mkF m 17 #[.val (.ref o0), .val (.double d1), .second, .val (.double (18442240474082181120 : UInt64)), .second, .val (.ref o0), .val (.int (1 : Int32)), .val (.int (0 : Int32)), .unset, .unset] [(.int (0 : Int32))])) _
    refine XS.iload X0.here hx rfl (hb hby d1_17) rfl ?_
    show Steps p.tables e below (s₁.setTop (mkF m 19 #[.val (.ref o0), .val (.double d1), .second, .val (.double (18442240474082181120 : UInt64)), .second, .val (.ref o0), .val (.int (1 : Int32)), .val (.int (0 : Int32)), .unset, .unset] [(.int (1 : Int32)), (.int (0 : Int32))])) _
    refine XS.icmpNo X0.here hx rfl (hb hby d1_19) rfl (Jvm.Free.XT.ii_ge_f (by decide)) ?_
    show Steps p.tables e below (s₁.setTop (mkF m 22 #[.val (.ref o0), .val (.double d1), .second, .val (.double (18442240474082181120 : UInt64)), .second, .val (.ref o0), .val (.int (1 : Int32)), .val (.int (0 : Int32)), .unset, .unset] [])) _
    refine XS.aload X0.here hx rfl (hb hby d1_22) rfl rfl ?_
    show Steps p.tables e below (s₁.setTop (mkF m 24 #[.val (.ref o0), .val (.double d1), .second, .val (.double (18442240474082181120 : UInt64)), .second, .val (.ref o0), .val (.int (1 : Int32)), .val (.int (0 : Int32)), .unset, .unset] [(.ref o0)])) _
    refine XS.iload X0.here hx rfl (hb hby d1_24) rfl ?_
    show Steps p.tables e below (s₁.setTop (mkF m 26 #[.val (.ref o0), .val (.double d1), .second, .val (.double (18442240474082181120 : UInt64)), .second, .val (.ref o0), .val (.int (1 : Int32)), .val (.int (0 : Int32)), .unset, .unset] [(.int (0 : Int32)), (.ref o0)])) _
    refine X0.daload hx (j := (0 : Int32)) (v := (.double y0)) (by rw [e0]; exact Ar2.1) (State.isArrayOf_alike hZ.alike Ar2.2.1) Ar2.2.2 in2 (Has.at Ha2 in2 rfl) (g := (mkF m 26 #[.val (.ref o0), .val (.double d1), .second, .val (.double (18442240474082181120 : UInt64)), .second, .val (.ref o0), .val (.int (1 : Int32)), .val (.int (0 : Int32)), .unset, .unset] [(.int (0 : Int32)), (.ref o0)])) rfl rfl (hb hby d1_26) _ ?_
    show Steps p.tables e below (s₁.setTop (mkF m 27 #[.val (.ref o0), .val (.double d1), .second, .val (.double (18442240474082181120 : UInt64)), .second, .val (.ref o0), .val (.int (1 : Int32)), .val (.int (0 : Int32)), .unset, .unset] [(.double y0)])) _
    refine XS.dstore X0.here hx rfl (hb hby d1_27) rfl (l' := #[.val (.ref o0), .val (.double d1), .second, .val (.double (18442240474082181120 : UInt64)), .second, .val (.ref o0), .val (.int (1 : Int32)), .val (.int (0 : Int32)), .val (.double y0), .second]) rfl ?_
    show Steps p.tables e below (s₁.setTop (mkF m 29 #[.val (.ref o0), .val (.double d1), .second, .val (.double (18442240474082181120 : UInt64)), .second, .val (.ref o0), .val (.int (1 : Int32)), .val (.int (0 : Int32)), .val (.double y0), .second] [])) _
    refine XS.dloadN X0.here hx rfl (hb hby d1_29) rfl ?_
    show Steps p.tables e below (s₁.setTop (mkF m 30 #[.val (.ref o0), .val (.double d1), .second, .val (.double (18442240474082181120 : UInt64)), .second, .val (.ref o0), .val (.int (1 : Int32)), .val (.int (0 : Int32)), .val (.double y0), .second] [(.double (18442240474082181120 : UInt64))])) _
    refine XS.dload X0.here hx rfl (hb hby d1_30) rfl ?_
    show Steps p.tables e below (s₁.setTop (mkF m 32 #[.val (.ref o0), .val (.double d1), .second, .val (.double (18442240474082181120 : UInt64)), .second, .val (.ref o0), .val (.int (1 : Int32)), .val (.int (0 : Int32)), .val (.double y0), .second] [(.double y0), (.double (18442240474082181120 : UInt64))])) _
    refine st3 _ ?_
    show Steps p.tables e below (T3.setTop (mkF m 35 #[.val (.ref o0), .val (.double d1), .second, .val (.double (18442240474082181120 : UInt64)), .second, .val (.ref o0), .val (.int (1 : Int32)), .val (.int (0 : Int32)), .val (.double y0), .second] [(.double z32)])) _
    refine XS.dstoreN X3.here hx rfl (hb hby d1_35) rfl (l' := #[.val (.ref o0), .val (.double d1), .second, .val (.double z32), .second, .val (.ref o0), .val (.int (1 : Int32)), .val (.int (0 : Int32)), .val (.double y0), .second]) rfl ?_
    show Steps p.tables e below (T3.setTop (mkF m 36 #[.val (.ref o0), .val (.double d1), .second, .val (.double z32), .second, .val (.ref o0), .val (.int (1 : Int32)), .val (.int (0 : Int32)), .val (.double y0), .second] [])) _
    refine Jvm.OwnK.iinc X3.here hx rfl (hb hby d1_36) rfl (l' := #[.val (.ref o0), .val (.double d1), .second, .val (.double z32), .second, .val (.ref o0), .val (.int (1 : Int32)), .val (.int (1 : Int32)), .val (.double y0), .second]) (v := (1 : Int32)) (by decide) rfl ?_
    show Steps p.tables e below (T3.setTop (mkF m 39 #[.val (.ref o0), .val (.double d1), .second, .val (.double z32), .second, .val (.ref o0), .val (.int (1 : Int32)), .val (.int (1 : Int32)), .val (.double y0), .second] [])) _
    refine XS.goto X3.here hx rfl (pc0 := 39) (pc' := 15) rfl (hb hby d1_39) (by decide) (by decide) ?_
    show Steps p.tables e below (T3.setTop (mkF m 15 #[.val (.ref o0), .val (.double d1), .second, .val (.double z32), .second, .val (.ref o0), .val (.int (1 : Int32)), .val (.int (1 : Int32)), .val (.double y0), .second] [])) _
    refine XS.iload X3.here hx rfl (hb hby d1_15) rfl ?_
    show Steps p.tables e below (T3.setTop (mkF m 17 #[.val (.ref o0), .val (.double d1), .second, .val (.double z32), .second, .val (.ref o0), .val (.int (1 : Int32)), .val (.int (1 : Int32)), .val (.double y0), .second] [(.int (1 : Int32))])) _
    refine XS.iload X3.here hx rfl (hb hby d1_17) rfl ?_
    show Steps p.tables e below (T3.setTop (mkF m 19 #[.val (.ref o0), .val (.double d1), .second, .val (.double z32), .second, .val (.ref o0), .val (.int (1 : Int32)), .val (.int (1 : Int32)), .val (.double y0), .second] [(.int (1 : Int32)), (.int (1 : Int32))])) _
    refine XS.icmpYes X3.here hx rfl (pc0 := 19) (pc' := 42) rfl (hb hby d1_19) rfl (Jvm.Free.XT.ii_ge_t (by decide)) (by decide) (by decide) ?_
    show Steps p.tables e below (T3.setTop (mkF m 42 #[.val (.ref o0), .val (.double d1), .second, .val (.double z32), .second, .val (.ref o0), .val (.int (1 : Int32)), .val (.int (1 : Int32)), .val (.double y0), .second] [])) _
    refine XS.aloadN X3.here hx rfl (hb hby d1_42) rfl rfl ?_
    show Steps p.tables e below (T3.setTop (mkF m 43 #[.val (.ref o0), .val (.double d1), .second, .val (.double z32), .second, .val (.ref o0), .val (.int (1 : Int32)), .val (.int (1 : Int32)), .val (.double y0), .second] [(.ref o0)])) _
    refine X3.arraylength hx (by rw [e3]; exact Ar4.1) (State.isArrayOf_alike hZ.alike Ar4.2.1) (g := (mkF m 43 #[.val (.ref o0), .val (.double d1), .second, .val (.double z32), .second, .val (.ref o0), .val (.int (1 : Int32)), .val (.int (1 : Int32)), .val (.double y0), .second] [(.ref o0)])) rfl rfl (hb hby d1_43) _ ?_
    rw [len_of S4 Nn4]
    show Steps p.tables e below (T3.setTop (mkF m 44 #[.val (.ref o0), .val (.double d1), .second, .val (.double z32), .second, .val (.ref o0), .val (.int (1 : Int32)), .val (.int (1 : Int32)), .val (.double y0), .second] [(.int (1 : Int32))])) _
    refine st5 _ ?_
    show Steps p.tables e below (T5.setTop (mkF m 46 #[.val (.ref o0), .val (.double d1), .second, .val (.double z32), .second, .val (.ref o0), .val (.int (1 : Int32)), .val (.int (1 : Int32)), .val (.double y0), .second] [(.ref b5)])) _
    refine XS.astore X5.here hx rfl (hb hby d1_46) rfl rfl (l' := #[.val (.ref o0), .val (.double d1), .second, .val (.double z32), .second, .val (.ref b5), .val (.int (1 : Int32)), .val (.int (1 : Int32)), .val (.double y0), .second]) rfl ?_
    show Steps p.tables e below (T5.setTop (mkF m 48 #[.val (.ref o0), .val (.double d1), .second, .val (.double z32), .second, .val (.ref b5), .val (.int (1 : Int32)), .val (.int (1 : Int32)), .val (.double y0), .second] [])) _
    refine XS.iconst X5.here hx rfl (hb hby d1_48) ?_
    show Steps p.tables e below (T5.setTop (mkF m 49 #[.val (.ref o0), .val (.double d1), .second, .val (.double z32), .second, .val (.ref b5), .val (.int (1 : Int32)), .val (.int (1 : Int32)), .val (.double y0), .second] [(.int (0 : Int32))])) _
    refine XS.istore X5.here hx rfl (hb hby d1_49) rfl (l' := #[.val (.ref o0), .val (.double d1), .second, .val (.double z32), .second, .val (.ref b5), .val (.int (0 : Int32)), .val (.int (1 : Int32)), .val (.double y0), .second]) rfl ?_
    show Steps p.tables e below (T5.setTop (mkF m 51 #[.val (.ref o0), .val (.double d1), .second, .val (.double z32), .second, .val (.ref b5), .val (.int (0 : Int32)), .val (.int (1 : Int32)), .val (.double y0), .second] [])) _
    refine XS.iload X5.here hx rfl (hb hby d1_51) rfl ?_
    show Steps p.tables e below (T5.setTop (mkF m 53 #[.val (.ref o0), .val (.double d1), .second, .val (.double z32), .second, .val (.ref b5), .val (.int (0 : Int32)), .val (.int (1 : Int32)), .val (.double y0), .second] [(.int (0 : Int32))])) _
    refine XS.aloadN X5.here hx rfl (hb hby d1_53) rfl rfl ?_
    show Steps p.tables e below (T5.setTop (mkF m 54 #[.val (.ref o0), .val (.double d1), .second, .val (.double z32), .second, .val (.ref b5), .val (.int (0 : Int32)), .val (.int (1 : Int32)), .val (.double y0), .second] [(.ref o0), (.int (0 : Int32))])) _
    refine X5.arraylength hx (by rw [e5]; exact Ar8.1) (State.isArrayOf_alike hZ.alike Ar8.2.1) (g := (mkF m 54 #[.val (.ref o0), .val (.double d1), .second, .val (.double z32), .second, .val (.ref b5), .val (.int (0 : Int32)), .val (.int (1 : Int32)), .val (.double y0), .second] [(.ref o0), (.int (0 : Int32))])) rfl rfl (hb hby d1_54) _ ?_
    rw [len_of S8 Nn8]
    show Steps p.tables e below (T5.setTop (mkF m 55 #[.val (.ref o0), .val (.double d1), .second, .val (.double z32), .second, .val (.ref b5), .val (.int (0 : Int32)), .val (.int (1 : Int32)), .val (.double y0), .second] [(.int (1 : Int32)), (.int (0 : Int32))])) _
    refine XS.icmpNo X5.here hx rfl (hb hby d1_55) rfl (Jvm.Free.XT.ii_ge_f (by decide)) ?_
    show Steps p.tables e below (T5.setTop (mkF m 58 #[.val (.ref o0), .val (.double d1), .second, .val (.double z32), .second, .val (.ref b5), .val (.int (0 : Int32)), .val (.int (1 : Int32)), .val (.double y0), .second] [])) _
    refine XS.aload X5.here hx rfl (hb hby d1_58) rfl rfl ?_
    show Steps p.tables e below (T5.setTop (mkF m 60 #[.val (.ref o0), .val (.double d1), .second, .val (.double z32), .second, .val (.ref b5), .val (.int (0 : Int32)), .val (.int (1 : Int32)), .val (.double y0), .second] [(.ref b5)])) _
    refine XS.iload X5.here hx rfl (hb hby d1_60) rfl ?_
    show Steps p.tables e below (T5.setTop (mkF m 62 #[.val (.ref o0), .val (.double d1), .second, .val (.double z32), .second, .val (.ref b5), .val (.int (0 : Int32)), .val (.int (1 : Int32)), .val (.double y0), .second] [(.int (0 : Int32)), (.ref b5)])) _
    refine XS.aloadN X5.here hx rfl (hb hby d1_62) rfl rfl ?_
    show Steps p.tables e below (T5.setTop (mkF m 63 #[.val (.ref o0), .val (.double d1), .second, .val (.double z32), .second, .val (.ref b5), .val (.int (0 : Int32)), .val (.int (1 : Int32)), .val (.double y0), .second] [(.ref o0), (.int (0 : Int32)), (.ref b5)])) _
    refine XS.iload X5.here hx rfl (hb hby d1_63) rfl ?_
    show Steps p.tables e below (T5.setTop (mkF m 65 #[.val (.ref o0), .val (.double d1), .second, .val (.double z32), .second, .val (.ref b5), .val (.int (0 : Int32)), .val (.int (1 : Int32)), .val (.double y0), .second] [(.int (0 : Int32)), (.ref o0), (.int (0 : Int32)), (.ref b5)])) _
    refine X5.daload hx (j := (0 : Int32)) (v := (.double y0)) (by rw [e5]; exact Ar9.1) (State.isArrayOf_alike hZ.alike Ar9.2.1) Ar9.2.2 in9 (Has.at Ha9 in9 rfl) (g := (mkF m 65 #[.val (.ref o0), .val (.double d1), .second, .val (.double z32), .second, .val (.ref b5), .val (.int (0 : Int32)), .val (.int (1 : Int32)), .val (.double y0), .second] [(.int (0 : Int32)), (.ref o0), (.int (0 : Int32)), (.ref b5)])) rfl rfl (hb hby d1_65) _ ?_
    show Steps p.tables e below (T5.setTop (mkF m 66 #[.val (.ref o0), .val (.double d1), .second, .val (.double z32), .second, .val (.ref b5), .val (.int (0 : Int32)), .val (.int (1 : Int32)), .val (.double y0), .second] [(.double y0), (.int (0 : Int32)), (.ref b5)])) _
    refine XS.dloadN X5.here hx rfl (hb hby d1_66) rfl ?_
    show Steps p.tables e below (T5.setTop (mkF m 67 #[.val (.ref o0), .val (.double d1), .second, .val (.double z32), .second, .val (.ref b5), .val (.int (0 : Int32)), .val (.int (1 : Int32)), .val (.double y0), .second] [(.double z32), (.double y0), (.int (0 : Int32)), (.ref b5)])) _
    refine XS.dloadN X5.here hx rfl (hb hby d1_67) rfl ?_
    show Steps p.tables e below (T5.setTop (mkF m 68 #[.val (.ref o0), .val (.double d1), .second, .val (.double z32), .second, .val (.ref b5), .val (.int (0 : Int32)), .val (.int (1 : Int32)), .val (.double y0), .second] [(.double d1), (.double z32), (.double y0), (.int (0 : Int32)), (.ref b5)])) _
    refine Jvm.OwnK.dsub X5.here hx rfl (hb hby d1_68) rfl hz68 nn68 ?_
    show Steps p.tables e below (T5.setTop (mkF m 69 #[.val (.ref o0), .val (.double d1), .second, .val (.double z32), .second, .val (.ref b5), .val (.int (0 : Int32)), .val (.int (1 : Int32)), .val (.double y0), .second] [(.double z68), (.double y0), (.int (0 : Int32)), (.ref b5)])) _
    refine XS.dcmpS X5.here hx rfl (hb hby d1_69) rfl hz69 ?_
    by_cases hm70_0 : z69 < (0 : Int32)
    · skip
      show Steps p.tables e below (T5.setTop (mkF m 70 #[.val (.ref o0), .val (.double d1), .second, .val (.double z32), .second, .val (.ref b5), .val (.int (0 : Int32)), .val (.int (1 : Int32)), .val (.double y0), .second] [(.int z69), (.int (0 : Int32)), (.ref b5)])) _
      refine XS.ifYes X5.here hx rfl (pc0 := 70) (pc' := 77) rfl (hb hby d1_70) rfl (Jvm.Free.XT.i0_lt_t hm70_0) (by decide) (by decide) ?_
      show Steps p.tables e below (T5.setTop (mkF m 77 #[.val (.ref o0), .val (.double d1), .second, .val (.double z32), .second, .val (.ref b5), .val (.int (0 : Int32)), .val (.int (1 : Int32)), .val (.double y0), .second] [(.int (0 : Int32)), (.ref b5)])) _
      refine XS.iconst X5.here hx rfl (hb hby d1_77) ?_
      obtain rfl : (0 : Int32) = m70_s0 := by rw [← hm70_s0]; simp only [if_pos hm70_0]
      exact k
    · skip
      show Steps p.tables e below (T5.setTop (mkF m 70 #[.val (.ref o0), .val (.double d1), .second, .val (.double z32), .second, .val (.ref b5), .val (.int (0 : Int32)), .val (.int (1 : Int32)), .val (.double y0), .second] [(.int z69), (.int (0 : Int32)), (.ref b5)])) _
      refine XS.ifNo X5.here hx rfl (hb hby d1_70) rfl (Jvm.Free.XT.i0_lt_f hm70_0) ?_
      show Steps p.tables e below (T5.setTop (mkF m 73 #[.val (.ref o0), .val (.double d1), .second, .val (.double z32), .second, .val (.ref b5), .val (.int (0 : Int32)), .val (.int (1 : Int32)), .val (.double y0), .second] [(.int (0 : Int32)), (.ref b5)])) _
      refine XS.iconst X5.here hx rfl (hb hby d1_73) ?_
      show Steps p.tables e below (T5.setTop (mkF m 74 #[.val (.ref o0), .val (.double d1), .second, .val (.double z32), .second, .val (.ref b5), .val (.int (0 : Int32)), .val (.int (1 : Int32)), .val (.double y0), .second] [(.int (1 : Int32)), (.int (0 : Int32)), (.ref b5)])) _
      refine XS.goto X5.here hx rfl (pc0 := 74) (pc' := 78) rfl (hb hby d1_74) (by decide) (by decide) ?_
      obtain rfl : (1 : Int32) = m70_s0 := by rw [← hm70_s0]; simp only [if_neg hm70_0]
      exact k
  obtain ⟨cl11, Ar11, q11, S11, Nn11, Ha11, G11⟩ := id V5
  have in11 : ¬ ((0 : Int32) < 0 ∨ cl11.slots.size ≤ ((0 : Int32)).toNatClampNeg) := inb_of S11 ⟨by decide, by decide⟩
  obtain ⟨T12, h12, X12, e12, W12, st12⟩ := stZ X5 hx hZ e5 Ar11 (j := (0 : Int32)) in11 (g := (mkF m 78 #[.val (.ref o0), .val (.double d1), .second, .val (.double z32), .second, .val (.ref b5), .val (.int (0 : Int32)), .val (.int (1 : Int32)), .val (.double y0), .second] [(.int m70_s0), (.int (0 : Int32)), (.ref b5)])) rfl rfl (hb hby d1_78)
  rw [nb78] at W12
  have N12 := Fr.snoc X12 N0 gn5
  have K13 : Keep h0 h12 [] := K6.wr W12 (Or.inr gz5)
  have V12 : Arv Z h12 b5 k5 .boolean (1 : Int32) [(.int m70_s0)] (.int (0 : Int32)) := Arv.set Ar11 q11 S11 Nn11 Ha11 G11 fi78 W12 0 rfl (show (0 : Nat) < 1 by decide)
  have f14 := (f7.other W12 (Nat.ne_of_lt (Nat.lt_of_lt_of_le (V_o0).lt (Nat.le_of_eq g5.symm))))
  obtain ⟨cl15, Ar15, -, S15, Nn15, -, -⟩ := id f14
  have c16 : ∀ t, Steps p.tables e below (T12.setTop (mkF m 87 #[.val (.ref o0), .val (.double d1), .second, .val (.double z32), .second, .val (.ref b5), .val (.int (1 : Int32)), .val (.int (1 : Int32)), .val (.double y0), .second] [(.ref b5)])) t → Steps p.tables e below (s₁.setTop (entryFrame m #[(.ref o0), (.double d1)] 10)) t := by
    intro t k
    refine c10 t ?_
    show Steps p.tables e below (T5.setTop (mkF m 78 #[.val (.ref o0), .val (.double d1), .second, .val (.double z32), .second, .val (.ref b5), .val (.int (0 : Int32)), .val (.int (1 : Int32)), .val (.double y0), .second] [(.int m70_s0), (.int (0 : Int32)), (.ref b5)])) _
    refine st12 _ ?_
    show Steps p.tables e below (T12.setTop (mkF m 79 #[.val (.ref o0), .val (.double d1), .second, .val (.double z32), .second, .val (.ref b5), .val (.int (0 : Int32)), .val (.int (1 : Int32)), .val (.double y0), .second] [])) _
    refine Jvm.OwnK.iinc X12.here hx rfl (hb hby d1_79) rfl (l' := #[.val (.ref o0), .val (.double d1), .second, .val (.double z32), .second, .val (.ref b5), .val (.int (1 : Int32)), .val (.int (1 : Int32)), .val (.double y0), .second]) (v := (1 : Int32)) (by decide) rfl ?_
    show Steps p.tables e below (T12.setTop (mkF m 82 #[.val (.ref o0), .val (.double d1), .second, .val (.double z32), .second, .val (.ref b5), .val (.int (1 : Int32)), .val (.int (1 : Int32)), .val (.double y0), .second] [])) _
    refine XS.goto X12.here hx rfl (pc0 := 82) (pc' := 51) rfl (hb hby d1_82) (by decide) (by decide) ?_
    show Steps p.tables e below (T12.setTop (mkF m 51 #[.val (.ref o0), .val (.double d1), .second, .val (.double z32), .second, .val (.ref b5), .val (.int (1 : Int32)), .val (.int (1 : Int32)), .val (.double y0), .second] [])) _
    refine XS.iload X12.here hx rfl (hb hby d1_51) rfl ?_
    show Steps p.tables e below (T12.setTop (mkF m 53 #[.val (.ref o0), .val (.double d1), .second, .val (.double z32), .second, .val (.ref b5), .val (.int (1 : Int32)), .val (.int (1 : Int32)), .val (.double y0), .second] [(.int (1 : Int32))])) _
    refine XS.aloadN X12.here hx rfl (hb hby d1_53) rfl rfl ?_
    show Steps p.tables e below (T12.setTop (mkF m 54 #[.val (.ref o0), .val (.double d1), .second, .val (.double z32), .second, .val (.ref b5), .val (.int (1 : Int32)), .val (.int (1 : Int32)), .val (.double y0), .second] [(.ref o0), (.int (1 : Int32))])) _
    refine X12.arraylength hx (by rw [e12]; exact Ar15.1) (State.isArrayOf_alike hZ.alike Ar15.2.1) (g := (mkF m 54 #[.val (.ref o0), .val (.double d1), .second, .val (.double z32), .second, .val (.ref b5), .val (.int (1 : Int32)), .val (.int (1 : Int32)), .val (.double y0), .second] [(.ref o0), (.int (1 : Int32))])) rfl rfl (hb hby d1_54) _ ?_
    rw [len_of S15 Nn15]
    show Steps p.tables e below (T12.setTop (mkF m 55 #[.val (.ref o0), .val (.double d1), .second, .val (.double z32), .second, .val (.ref b5), .val (.int (1 : Int32)), .val (.int (1 : Int32)), .val (.double y0), .second] [(.int (1 : Int32)), (.int (1 : Int32))])) _
    refine XS.icmpYes X12.here hx rfl (pc0 := 55) (pc' := 85) rfl (hb hby d1_55) rfl (Jvm.Free.XT.ii_ge_t (by decide)) (by decide) (by decide) ?_
    show Steps p.tables e below (T12.setTop (mkF m 85 #[.val (.ref o0), .val (.double d1), .second, .val (.double z32), .second, .val (.ref b5), .val (.int (1 : Int32)), .val (.int (1 : Int32)), .val (.double y0), .second] [])) _
    refine XS.aload X12.here hx rfl (hb hby d1_85) rfl rfl ?_
    exact k
  obtain ⟨fs, hr, hrun, hended, hW, hsame⟩ := X12.leave (v := some (.ref b5)) (fun h => by rw [Bd.returns] at h; cases h)
  refine ⟨_, _, c16 _ ?_, hrun, hended, _, _, rfl, ?_, ⟨_, rfl⟩, hW, hsame.mono (by decide) (by decide)⟩
  · show Steps p.tables e below (T12.setTop (mkF m 87 #[.val (.ref o0), .val (.double d1), .second, .val (.double z32), .second, .val (.ref b5), .val (.int (1 : Int32)), .val (.int (1 : Int32)), .val (.double y0), .second] [(.ref b5)])) _
    exact retOut X12 hx Bd.returns rfl (Or.inr (Or.inr (Or.inr (Or.inr ⟨rfl, rfl, rfl⟩)))) (hb hby d1_87) hr
  · show Q1_1 Z o0 d1 k_o0 y0 z32 z68 z69 m70_s0 h0 n0 _ T12.heap _
    rw [e12]
    exact ⟨b5, k5, rfl, N12, gz5, K13, V12⟩
def Q3_1 (Z : State) (q0 : Int64) (p1 : Int32) (o2 : Addr) (o3 : Addr) (q5 : Int64) (k_o2 : ClassId) (x0 : Int64) (x1 : Int64) (x2 : Int64) (x3 : Int64) (k_o3 : ClassId) (f0 : Int32) (f1 : Int32) (f2 : Int32) (f3 : Int32) (c16_z12 : Int64) (c16_z14 : Int32) (c16_rv : Int32) (rv : Int32) (h0 : Heap) (n0 : Nat) (v : Option Value) (h : Heap) (L : List Loc) : Prop := v = some (.int rv) ∧ Fr n0 L ∧ h = h0
set_option maxRecDepth 65536 in
set_option maxHeartbeats 40000000 in
theorem rm3_1 (l : Launch) (Z : State) (a0 : Array Value) (hw : ∀ d ∈ tables_1, d.before a0 Z = true) (ws : List Jvm.Cond) (q0 : Int64) (p1 : Int32) (o2 : Addr) (o3 : Addr) (q5 : Int64) (k_o2 : ClassId) (x0 : Int64) (x1 : Int64) (x2 : Int64) (x3 : Int64) (k_o3 : ClassId) (f0 : Int32) (f1 : Int32) (f2 : Int32) (f3 : Int32) (c16_z12 : Int64) (c16_z14 : Int32) (c16_rv : Int32) (rv : Int32) (h0 : Heap) (n0 : Nat) (Z0 : n0 ≤ h0.size) (V_o2 : Arv Z h0 o2 k_o2 .long (4 : Int32) [(.long x0), (.long x1), (.long x2), (.long x3)] (.long (0 : Int64))) (V_o3 : Arv Z h0 o3 k_o3 .boolean (4 : Int32) [(.int f0), (.int f1), (.int f2), (.int f3)] (.int (0 : Int32))) (hc16_z12 : q0 + q5 = c16_z12) (hc16_z14 : lcmpW c16_z12 x0 = c16_z14) (hc16_rv : (if f0 = (0 : Int32) then (if p1 = (0 : Int32) then (if c16_z14 < (0 : Int32) then (0 : Int32) else (1 : Int32)) else (0 : Int32)) else (1 : Int32)) = c16_rv) (hrv : (if c16_rv = (0 : Int32) then (0 : Int32) else (1 : Int32)) = rv) :
    MetFree l (⟨"com/example/credal_choice/credalchoice/criteria/ChoiceNearLargestPinLaw", "near", "(JZ[J[ZIJ)Z"⟩ : MethodName) (head1 (Jvm.Cond.code (⟨"com/example/credal_choice/credalchoice/criteria/ChoiceNearLargestPinLaw", "near", "(JZ[J[ZIJ)Z"⟩ : MethodName) method_4_code 8 (some .boolean) :: ws) ({ frames := 1, cells := 0, slots := 0, locals := 19 } : Room)) (fun a U => a = #[(.long q0), (.int p1), (.ref o2), (.ref o3), (.int (1 : Int32)), (.long q5)] ∧ Z.Warmed39 U.vm ∧ U.heap = h0) (fun _ _ _ _ _ => True) (fun _ U o U' => ∃ v L, o = .returned v ∧ Q3_1 Z q0 p1 o2 o3 q5 k_o2 x0 x1 x2 x3 k_o3 f0 f1 f2 f3 c16_z12 c16_z14 c16_rv rv h0 n0 v U'.heap L ∧ FrameEnd U o U' L ({ frames := 1, cells := 0, slots := 0, locals := 19 } : Room).cells ({ frames := 1, cells := 0, slots := 0, locals := 19 } : Room).slots) := by
  refine MetFree.of_bodySF (plainFor_of_name pn_0) hisR ?_
  intro p e s m args below meth c s₁ Bd hml0 hP hK
  obtain ⟨rfl, hZ, hh⟩ := hP
  have hx := Bd.exec
  have hby := Bd.bytes
  have hml : c.maxLocals = 8 := hml0
  have hown : s.vm.findClass "com/example/credal_choice/credalchoice/criteria/ChoiceNearLargestPinLaw" = some m.cls := findClass_of_methodNamed Bd.named
  have hnm := (name_of_methodNamed Bd.named Bd.method).1
  have X0 : Stand p l e ({ frames := 1, cells := 0, slots := 0, locals := 19 } : Room) s m #[(.long q0), (.int p1), (.ref o2), (.ref o3), (.int (1 : Int32)), (.long q5)] below meth c s₁ [] 0 0 := Stand.of_body Bd
  have e0 : s₁.heap = h0 := by rw [← hh, Bd.state]; rfl
  have N0 := Fr.nil n0
  have c0 : ∀ t, Steps p.tables e below (s₁.setTop (mkF m 0 #[.val (.long q0), .second, .val (.int p1), .val (.ref o2), .val (.ref o3), .val (.int (1 : Int32)), .val (.long q5), .second] [])) t → Steps p.tables e below (s₁.setTop (entryFrame m #[(.long q0), (.int p1), (.ref o2), (.ref o3), (.int (1 : Int32)), (.long q5)] 8)) t := fun t k => castTop (ef_rm3_1 m q0 p1 o2 o3 q5) k
  obtain ⟨cl1, Ar1, -, S1, -, Ha1, -⟩ := id V_o2
  have in1 : ¬ ((0 : Int32) < 0 ∨ cl1.slots.size ≤ ((0 : Int32)).toNatClampNeg) := inb_of S1 ⟨by decide, by decide⟩
  obtain ⟨cl2, Ar2, -, S2, -, Ha2, -⟩ := id V_o3
  have in2 : ¬ ((0 : Int32) < 0 ∨ cl2.slots.size ≤ ((0 : Int32)).toNatClampNeg) := inb_of S2 ⟨by decide, by decide⟩
  obtain ⟨_, _, ⟨T3, L3, k3, n3⟩, -, X3, ⟨Lc3, hQ3, ql3, qy3, qz3⟩, st3⟩ := Jvm.LawKit.callS X0 hx (y := (⟨"com/example/credal_choice/credalchoice/criteria/ChoiceNearLargestPinLaw", "beats", "(JZJZJ)Z"⟩ : MethodName)) hown (mvT hZ (hw _ (List.mem_of_getElem? (i := 17) rfl))) (mvT hZ (hw _ (List.mem_of_getElem? (i := 18) rfl))) (mvT hZ (hw _ (List.mem_of_getElem? (i := 15) rfl))) (mvT hZ (hw _ (List.mem_of_getElem? (i := 19) rfl))) (by decide) (backOf (W := 0) (rm4 l Z a0 hw [] q0 p1 x0 f0 q5 c16_z12 c16_z14 c16_rv h0 n0 Z0 hc16_z12 hc16_z14 hc16_rv) hZ (hw _ (List.mem_of_getElem? (i := 19) rfl)) (hw _ (List.mem_of_getElem? (i := 15) rfl)) (by decide) (by decide)) (g := (mkF m 16 #[.val (.long q0), .second, .val (.int p1), .val (.ref o2), .val (.ref o3), .val (.int (1 : Int32)), .val (.long q5), .second] [(.long q5), (.int f0), (.long x0), (.int p1), (.long q0)])) rfl (by rw [hml]; rfl) (argsL := [(.long q0), (.int p1), (.long x0), (.int f0), (.long q5)]) (rest := []) (lenOf pd_1 rfl) rfl (by show 2 * 0 + _ ≤ _; exact Nat.le_of_eq rfl) (hb hby d3_16) (fun _ _ => ⟨rfl, e0, (by decide : 0 + 0 ≤ _), (by decide : 0 + 0 ≤ _)⟩)
  dsimp only [Pt.U, Pt.locs, Pt.cells, Pt.slots] at X3 ql3 qy3 qz3 st3 hQ3
  subst ql3 qy3 qz3
  obtain ⟨rfl, N3q, e3⟩ := hQ3
  have N3 := Fr.app N0 N3q
  have c4 : ∀ t, Steps p.tables e below (T3.setTop (mkF m 19 #[.val (.long q0), .second, .val (.int p1), .val (.ref o2), .val (.ref o3), .val (.int (1 : Int32)), .val (.long q5), .second] [(.int c16_rv)])) t → Steps p.tables e below (s₁.setTop (entryFrame m #[(.long q0), (.int p1), (.ref o2), (.ref o3), (.int (1 : Int32)), (.long q5)] 8)) t := by
    intro t k
    refine c0 t ?_
    show Steps p.tables e below (s₁.setTop (mkF m 0 #[.val (.long q0), .second, .val (.int p1), .val (.ref o2), .val (.ref o3), .val (.int (1 : Int32)), .val (.long q5), .second] [])) _
    refine XS.iload X0.here hx rfl (hb hby d3_0) rfl ?_
    show Steps p.tables e below (s₁.setTop (mkF m 2 #[.val (.long q0), .second, .val (.int p1), .val (.ref o2), .val (.ref o3), .val (.int (1 : Int32)), .val (.long q5), .second] [(.int (1 : Int32))])) _
    refine XS.ifNo X0.here hx rfl (hb hby d3_2) rfl (Jvm.Free.XT.i0_le_f (by decide)) ?_
    show Steps p.tables e below (s₁.setTop (mkF m 5 #[.val (.long q0), .second, .val (.int p1), .val (.ref o2), .val (.ref o3), .val (.int (1 : Int32)), .val (.long q5), .second] [])) _
    refine XS.lloadN X0.here hx rfl (hb hby d3_5) rfl ?_
    show Steps p.tables e below (s₁.setTop (mkF m 6 #[.val (.long q0), .second, .val (.int p1), .val (.ref o2), .val (.ref o3), .val (.int (1 : Int32)), .val (.long q5), .second] [(.long q0)])) _
    refine XS.iloadN X0.here hx rfl (hb hby d3_6) rfl ?_
    show Steps p.tables e below (s₁.setTop (mkF m 7 #[.val (.long q0), .second, .val (.int p1), .val (.ref o2), .val (.ref o3), .val (.int (1 : Int32)), .val (.long q5), .second] [(.int p1), (.long q0)])) _
    refine XS.aloadN X0.here hx rfl (hb hby d3_7) rfl rfl ?_
    show Steps p.tables e below (s₁.setTop (mkF m 8 #[.val (.long q0), .second, .val (.int p1), .val (.ref o2), .val (.ref o3), .val (.int (1 : Int32)), .val (.long q5), .second] [(.ref o2), (.int p1), (.long q0)])) _
    refine XS.iconst X0.here hx rfl (hb hby d3_8) ?_
    show Steps p.tables e below (s₁.setTop (mkF m 9 #[.val (.long q0), .second, .val (.int p1), .val (.ref o2), .val (.ref o3), .val (.int (1 : Int32)), .val (.long q5), .second] [(.int (0 : Int32)), (.ref o2), (.int p1), (.long q0)])) _
    refine X0.laload hx (j := (0 : Int32)) (v := (.long x0)) (by rw [e0]; exact Ar1.1) (State.isArrayOf_alike hZ.alike Ar1.2.1) Ar1.2.2 in1 (Has.at Ha1 in1 rfl) (g := (mkF m 9 #[.val (.long q0), .second, .val (.int p1), .val (.ref o2), .val (.ref o3), .val (.int (1 : Int32)), .val (.long q5), .second] [(.int (0 : Int32)), (.ref o2), (.int p1), (.long q0)])) rfl rfl (hb hby d3_9) _ ?_
    show Steps p.tables e below (s₁.setTop (mkF m 10 #[.val (.long q0), .second, .val (.int p1), .val (.ref o2), .val (.ref o3), .val (.int (1 : Int32)), .val (.long q5), .second] [(.long x0), (.int p1), (.long q0)])) _
    refine XS.aload X0.here hx rfl (hb hby d3_10) rfl rfl ?_
    show Steps p.tables e below (s₁.setTop (mkF m 12 #[.val (.long q0), .second, .val (.int p1), .val (.ref o2), .val (.ref o3), .val (.int (1 : Int32)), .val (.long q5), .second] [(.ref o3), (.long x0), (.int p1), (.long q0)])) _
    refine XS.iconst X0.here hx rfl (hb hby d3_12) ?_
    show Steps p.tables e below (s₁.setTop (mkF m 13 #[.val (.long q0), .second, .val (.int p1), .val (.ref o2), .val (.ref o3), .val (.int (1 : Int32)), .val (.long q5), .second] [(.int (0 : Int32)), (.ref o3), (.long x0), (.int p1), (.long q0)])) _
    refine X0.baloadBooleans hx (j := (0 : Int32)) (v := (.int f0)) (by rw [e0]; exact Ar2.1) (State.isArrayOf_alike hZ.alike Ar2.2.1) Ar2.2.2 in2 (Has.at Ha2 in2 rfl) (g := (mkF m 13 #[.val (.long q0), .second, .val (.int p1), .val (.ref o2), .val (.ref o3), .val (.int (1 : Int32)), .val (.long q5), .second] [(.int (0 : Int32)), (.ref o3), (.long x0), (.int p1), (.long q0)])) rfl rfl (hb hby d3_13) _ ?_
    show Steps p.tables e below (s₁.setTop (mkF m 14 #[.val (.long q0), .second, .val (.int p1), .val (.ref o2), .val (.ref o3), .val (.int (1 : Int32)), .val (.long q5), .second] [(.int f0), (.long x0), (.int p1), (.long q0)])) _
    refine XS.lload X0.here hx rfl (hb hby d3_14) rfl ?_
    show Steps p.tables e below (s₁.setTop (mkF m 16 #[.val (.long q0), .second, .val (.int p1), .val (.ref o2), .val (.ref o3), .val (.int (1 : Int32)), .val (.long q5), .second] [(.long q5), (.int f0), (.long x0), (.int p1), (.long q0)])) _
    refine st3 _ ?_
    exact k
  by_cases hb19 : c16_rv = (0 : Int32)
  · skip
    have c5 : ∀ t, Steps p.tables e below (T3.setTop (mkF m 96 #[.val (.long q0), .second, .val (.int p1), .val (.ref o2), .val (.ref o3), .val (.int (1 : Int32)), .val (.long q5), .second] [(.int (0 : Int32))])) t → Steps p.tables e below (s₁.setTop (entryFrame m #[(.long q0), (.int p1), (.ref o2), (.ref o3), (.int (1 : Int32)), (.long q5)] 8)) t := by
      intro t k
      refine c4 t ?_
      show Steps p.tables e below (T3.setTop (mkF m 19 #[.val (.long q0), .second, .val (.int p1), .val (.ref o2), .val (.ref o3), .val (.int (1 : Int32)), .val (.long q5), .second] [(.int c16_rv)])) _
      refine XS.ifYes X3.here hx rfl (pc0 := 19) (pc' := 95) rfl (hb hby d3_19) rfl (Jvm.Free.XT.i0_eq_t hb19) (by decide) (by decide) ?_
      show Steps p.tables e below (T3.setTop (mkF m 95 #[.val (.long q0), .second, .val (.int p1), .val (.ref o2), .val (.ref o3), .val (.int (1 : Int32)), .val (.long q5), .second] [])) _
      refine XS.iconst X3.here hx rfl (hb hby d3_95) ?_
      exact k
    obtain ⟨fs, hr, hrun, hended, hW, hsame⟩ := X3.leave (v := some (.int (0 : Int32))) (fun h => by rw [Bd.returns] at h; cases h)
    refine ⟨_, _, c5 _ ?_, hrun, hended, _, _, rfl, ?_, ⟨_, rfl⟩, hW, hsame.mono (by decide) (by decide)⟩
    · show Steps p.tables e below (T3.setTop (mkF m 96 #[.val (.long q0), .second, .val (.int p1), .val (.ref o2), .val (.ref o3), .val (.int (1 : Int32)), .val (.long q5), .second] [(.int (0 : Int32))])) _
      exact retOut X3 hx Bd.returns rfl (Or.inl ⟨rfl, by simp, _, rfl⟩) (hb hby d3_96) hr
    · show Q3_1 Z q0 p1 o2 o3 q5 k_o2 x0 x1 x2 x3 k_o3 f0 f1 f2 f3 c16_z12 c16_z14 c16_rv rv h0 n0 _ T3.heap _
      rw [e3]
      exact ⟨(congrArg (fun z => some (Value.int z)) (show (0 : Int32) = rv by rw [← hrv]; simp only [if_pos hb19])), by first | assumption | exact N0, rfl⟩
  · skip
    have c6 : ∀ t, Steps p.tables e below (T3.setTop (mkF m 96 #[.val (.long q0), .second, .val (.int p1), .val (.ref o2), .val (.ref o3), .val (.int (1 : Int32)), .val (.long q5), .second] [(.int (1 : Int32))])) t → Steps p.tables e below (s₁.setTop (entryFrame m #[(.long q0), (.int p1), (.ref o2), (.ref o3), (.int (1 : Int32)), (.long q5)] 8)) t := by
      intro t k
      refine c4 t ?_
      show Steps p.tables e below (T3.setTop (mkF m 19 #[.val (.long q0), .second, .val (.int p1), .val (.ref o2), .val (.ref o3), .val (.int (1 : Int32)), .val (.long q5), .second] [(.int c16_rv)])) _
      refine XS.ifNo X3.here hx rfl (hb hby d3_19) rfl (Jvm.Free.XT.i0_eq_f hb19) ?_
      show Steps p.tables e below (T3.setTop (mkF m 22 #[.val (.long q0), .second, .val (.int p1), .val (.ref o2), .val (.ref o3), .val (.int (1 : Int32)), .val (.long q5), .second] [])) _
      refine XS.iload X3.here hx rfl (hb hby d3_22) rfl ?_
      show Steps p.tables e below (T3.setTop (mkF m 24 #[.val (.long q0), .second, .val (.int p1), .val (.ref o2), .val (.ref o3), .val (.int (1 : Int32)), .val (.long q5), .second] [(.int (1 : Int32))])) _
      refine XS.iconst X3.here hx rfl (hb hby d3_24) ?_
      show Steps p.tables e below (T3.setTop (mkF m 25 #[.val (.long q0), .second, .val (.int p1), .val (.ref o2), .val (.ref o3), .val (.int (1 : Int32)), .val (.long q5), .second] [(.int (1 : Int32)), (.int (1 : Int32))])) _
      refine XS.icmpYes X3.here hx rfl (pc0 := 25) (pc' := 45) rfl (hb hby d3_25) rfl (Jvm.Free.XT.ii_le_t (by decide)) (by decide) (by decide) ?_
      show Steps p.tables e below (T3.setTop (mkF m 45 #[.val (.long q0), .second, .val (.int p1), .val (.ref o2), .val (.ref o3), .val (.int (1 : Int32)), .val (.long q5), .second] [])) _
      refine XS.iload X3.here hx rfl (hb hby d3_45) rfl ?_
      show Steps p.tables e below (T3.setTop (mkF m 47 #[.val (.long q0), .second, .val (.int p1), .val (.ref o2), .val (.ref o3), .val (.int (1 : Int32)), .val (.long q5), .second] [(.int (1 : Int32))])) _
      refine XS.iconst X3.here hx rfl (hb hby d3_47) ?_
      show Steps p.tables e below (T3.setTop (mkF m 48 #[.val (.long q0), .second, .val (.int p1), .val (.ref o2), .val (.ref o3), .val (.int (1 : Int32)), .val (.long q5), .second] [(.int (2 : Int32)), (.int (1 : Int32))])) _
      refine XS.icmpYes X3.here hx rfl (pc0 := 48) (pc' := 68) rfl (hb hby d3_48) rfl (Jvm.Free.XT.ii_le_t (by decide)) (by decide) (by decide) ?_
      show Steps p.tables e below (T3.setTop (mkF m 68 #[.val (.long q0), .second, .val (.int p1), .val (.ref o2), .val (.ref o3), .val (.int (1 : Int32)), .val (.long q5), .second] [])) _
      refine XS.iload X3.here hx rfl (hb hby d3_68) rfl ?_
      show Steps p.tables e below (T3.setTop (mkF m 70 #[.val (.long q0), .second, .val (.int p1), .val (.ref o2), .val (.ref o3), .val (.int (1 : Int32)), .val (.long q5), .second] [(.int (1 : Int32))])) _
      refine XS.iconst X3.here hx rfl (hb hby d3_70) ?_
      show Steps p.tables e below (T3.setTop (mkF m 71 #[.val (.long q0), .second, .val (.int p1), .val (.ref o2), .val (.ref o3), .val (.int (1 : Int32)), .val (.long q5), .second] [(.int (3 : Int32)), (.int (1 : Int32))])) _
      refine XS.icmpYes X3.here hx rfl (pc0 := 71) (pc' := 91) rfl (hb hby d3_71) rfl (Jvm.Free.XT.ii_le_t (by decide)) (by decide) (by decide) ?_
      show Steps p.tables e below (T3.setTop (mkF m 91 #[.val (.long q0), .second, .val (.int p1), .val (.ref o2), .val (.ref o3), .val (.int (1 : Int32)), .val (.long q5), .second] [])) _
      refine XS.iconst X3.here hx rfl (hb hby d3_91) ?_
      show Steps p.tables e below (T3.setTop (mkF m 92 #[.val (.long q0), .second, .val (.int p1), .val (.ref o2), .val (.ref o3), .val (.int (1 : Int32)), .val (.long q5), .second] [(.int (1 : Int32))])) _
      refine XS.goto X3.here hx rfl (pc0 := 92) (pc' := 96) rfl (hb hby d3_92) (by decide) (by decide) ?_
      exact k
    obtain ⟨fs, hr, hrun, hended, hW, hsame⟩ := X3.leave (v := some (.int (1 : Int32))) (fun h => by rw [Bd.returns] at h; cases h)
    refine ⟨_, _, c6 _ ?_, hrun, hended, _, _, rfl, ?_, ⟨_, rfl⟩, hW, hsame.mono (by decide) (by decide)⟩
    · show Steps p.tables e below (T3.setTop (mkF m 96 #[.val (.long q0), .second, .val (.int p1), .val (.ref o2), .val (.ref o3), .val (.int (1 : Int32)), .val (.long q5), .second] [(.int (1 : Int32))])) _
      exact retOut X3 hx Bd.returns rfl (Or.inl ⟨rfl, by simp, _, rfl⟩) (hb hby d3_96) hr
    · show Q3_1 Z q0 p1 o2 o3 q5 k_o2 x0 x1 x2 x3 k_o3 f0 f1 f2 f3 c16_z12 c16_z14 c16_rv rv h0 n0 _ T3.heap _
      rw [e3]
      exact ⟨(congrArg (fun z => some (Value.int z)) (show (1 : Int32) = rv by rw [← hrv]; simp only [if_neg hb19])), by first | assumption | exact N0, rfl⟩
def Q1_2 (Z : State) (o0 : Addr) (d1 : UInt64) (k_o0 : ClassId) (y0 : UInt64) (y1 : UInt64) (z32 : UInt64) (z32_2 : UInt64) (z68 : UInt64) (z69 : Int32) (m70_s0 : Int32) (z68_2 : UInt64) (z69_2 : Int32) (m70_s0_2 : Int32) (h0 : Heap) (n0 : Nat) (v : Option Value) (h : Heap) (L : List Loc) : Prop := ∃ b7 : Addr, ∃ k7 : ClassId, v = some (.ref b7) ∧ Fr n0 L ∧ h0.size ≤ b7 ∧ Keep h0 h [] ∧ Arv Z h b7 k7 .boolean (2 : Int32) [(.int m70_s0), (.int m70_s0_2)] (.int (0 : Int32))
set_option maxRecDepth 65536 in
set_option maxHeartbeats 40000000 in
theorem rm1_2 (l : Launch) (Z : State) (a0 : Array Value) (hw : ∀ d ∈ tables_1, d.before a0 Z = true) (ws : List Jvm.Cond) (o0 : Addr) (d1 : UInt64) (k_o0 : ClassId) (y0 : UInt64) (y1 : UInt64) (z32 : UInt64) (z32_2 : UInt64) (z68 : UInt64) (z69 : Int32) (m70_s0 : Int32) (z68_2 : UInt64) (z69_2 : Int32) (m70_s0_2 : Int32) (h0 : Heap) (n0 : Nat) (Z0 : n0 ≤ h0.size) (V_o0 : Arv Z h0 o0 k_o0 .double (2 : Int32) [(.double y0), (.double y1)] (.double (0 : UInt64))) (hz32 : Jvm.Native.java_lang_Math.nans.pick64 true (18442240474082181120 : UInt64) y0 = z32) (hz32_2 : Jvm.Native.java_lang_Math.nans.pick64 true z32 y1 = z32_2) (hz68 : FP.dsub z32_2 d1 = z68) (hz69 : cmpValue (FP.dcmp y0 z68) .l = z69) (hm70_s0 : (if z69 < (0 : Int32) then (0 : Int32) else (1 : Int32)) = m70_s0) (hz68_2 : FP.dsub z32_2 d1 = z68_2) (hz69_2 : cmpValue (FP.dcmp y1 z68_2) .l = z69_2) (hm70_s0_2 : (if z69_2 < (0 : Int32) then (0 : Int32) else (1 : Int32)) = m70_s0_2) (nm0_32 : Jvm.Free.Fl.NoNaN64 (18442240474082181120 : UInt64)) (nm1_32 : Jvm.Free.Fl.NoNaN64 y0) (nm0_32_2 : Jvm.Free.Fl.NoNaN64 z32) (nm1_32_2 : Jvm.Free.Fl.NoNaN64 y1) (nn68 : Jvm.Free.Fl.NoNaN64 z68) (nb78 : nar .boolean m70_s0 = m70_s0) (fi78 : fits .boolean (.int m70_s0) = true) (nn68_2 : Jvm.Free.Fl.NoNaN64 z68_2) (nb78_2 : nar .boolean m70_s0_2 = m70_s0_2) (fi78_2 : fits .boolean (.int m70_s0_2) = true) :
    MetFree l (⟨"com/example/credal_choice/credalchoice/criteria/Choice", "nearLargest", "([DD)[Z"⟩ : MethodName) (head1 (Jvm.Cond.code (⟨"com/example/credal_choice/credalchoice/criteria/Choice", "nearLargest", "([DD)[Z"⟩ : MethodName) prog_5_method_6_code 10 (some (.array .boolean)) :: ws) ({ frames := 1, cells := 1, slots := 2, locals := 15 } : Room)) (fun a U => a = #[(.ref o0), (.double d1)] ∧ Z.Warmed39 U.vm ∧ U.heap = h0) (fun _ _ _ _ _ => True) (fun _ U o U' => ∃ v L, o = .returned v ∧ Q1_2 Z o0 d1 k_o0 y0 y1 z32 z32_2 z68 z69 m70_s0 z68_2 z69_2 m70_s0_2 h0 n0 v U'.heap L ∧ FrameEnd U o U' L ({ frames := 1, cells := 1, slots := 2, locals := 15 } : Room).cells ({ frames := 1, cells := 1, slots := 2, locals := 15 } : Room).slots) := by
  refine MetFree.of_bodySF (plainFor_of_name pn_1) hisR ?_
  intro p e s m args below meth c s₁ Bd hml0 hP hK
  obtain ⟨rfl, hZ, hh⟩ := hP
  have hx := Bd.exec
  have hby := Bd.bytes
  have hml : c.maxLocals = 10 := hml0
  have hown : s.vm.findClass "com/example/credal_choice/credalchoice/criteria/Choice" = some m.cls := findClass_of_methodNamed Bd.named
  have hnm := (name_of_methodNamed Bd.named Bd.method).1
  have X0 : Stand p l e ({ frames := 1, cells := 1, slots := 2, locals := 15 } : Room) s m #[(.ref o0), (.double d1)] below meth c s₁ [] 0 0 := Stand.of_body Bd
  have e0 : s₁.heap = h0 := by rw [← hh, Bd.state]; rfl
  have N0 := Fr.nil n0
  have c0 : ∀ t, Steps p.tables e below (s₁.setTop (mkF m 0 #[.val (.ref o0), .val (.double d1), .second, .unset, .unset, .unset, .unset, .unset, .unset, .unset] [])) t → Steps p.tables e below (s₁.setTop (entryFrame m #[(.ref o0), (.double d1)] 10)) t := fun t k => castTop (ef_rm1_2 m o0 d1) k
  obtain ⟨cl1, Ar1, -, S1, Nn1, -, -⟩ := id V_o0
  obtain ⟨cl2, Ar2, -, S2, -, Ha2, -⟩ := id V_o0
  have in2 : ¬ ((0 : Int32) < 0 ∨ cl2.slots.size ≤ ((0 : Int32)).toNatClampNeg) := inb_of S2 ⟨by decide, by decide⟩
  obtain ⟨T3, X3, e3, st3⟩ := natS X0 hx hZ (y := (⟨"java/lang/Math", "max", "(DD)D"⟩ : MethodName)) hown (hw _ (List.mem_of_getElem? (i := 9) rfl)) (hw _ (List.mem_of_getElem? (i := 10) rfl)) (hw _ (List.mem_of_getElem? (i := 11) rfl)) (hw _ (List.mem_of_getElem? (i := 12) rfl)) (by decide) e0 (W := 0) (fun hq => Jvm.Free.Fl.Abs.maxD_pays (18442240474082181120 : UInt64) y0 hq (by decide) (by decide)) (g := (mkF m 32 #[.val (.ref o0), .val (.double d1), .second, .val (.double (18442240474082181120 : UInt64)), .second, .val (.ref o0), .val (.int (2 : Int32)), .val (.int (0 : Int32)), .val (.double y0), .second] [(.double y0), (.double (18442240474082181120 : UInt64))])) rfl (by rw [hml]; rfl) (argsL := [(.double (18442240474082181120 : UInt64)), (.double y0)]) (rest := []) (lenOf pd_0 rfl) rfl (by show 2 * 0 + _ ≤ _; exact Nat.le_of_eq rfl) (hb hby d1_32) (by decide) (by decide) ⟨rfl, nm0_32, nm1_32⟩ (congrArg Value.double hz32)
  obtain ⟨cl4, Ar4, -, S4, -, Ha4, -⟩ := id V_o0
  have in4 : ¬ ((1 : Int32) < 0 ∨ cl4.slots.size ≤ ((1 : Int32)).toNatClampNeg) := inb_of S4 ⟨by decide, by decide⟩
  obtain ⟨T5, X5, e5, st5⟩ := natS X3 hx hZ (y := (⟨"java/lang/Math", "max", "(DD)D"⟩ : MethodName)) hown (hw _ (List.mem_of_getElem? (i := 9) rfl)) (hw _ (List.mem_of_getElem? (i := 10) rfl)) (hw _ (List.mem_of_getElem? (i := 11) rfl)) (hw _ (List.mem_of_getElem? (i := 12) rfl)) (by decide) e3 (W := 0) (fun hq => Jvm.Free.Fl.Abs.maxD_pays z32 y1 hq (by decide) (by decide)) (g := (mkF m 32 #[.val (.ref o0), .val (.double d1), .second, .val (.double z32), .second, .val (.ref o0), .val (.int (2 : Int32)), .val (.int (1 : Int32)), .val (.double y1), .second] [(.double y1), (.double z32)])) rfl (by rw [hml]; rfl) (argsL := [(.double z32), (.double y1)]) (rest := []) (lenOf pd_0 rfl) rfl (by show 2 * 0 + _ ≤ _; exact Nat.le_of_eq rfl) (hb hby d1_32) (by decide) (by decide) ⟨rfl, nm0_32_2, nm1_32_2⟩ (congrArg Value.double hz32_2)
  obtain ⟨cl6, Ar6, -, S6, Nn6, -, -⟩ := id V_o0
  obtain ⟨T7, h7, k7, X7, e7, E7, A7, st7⟩ := newP X5 hx hZ (hw _ (List.mem_of_getElem? (i := 2) rfl)) e5 (g := (mkF m 44 #[.val (.ref o0), .val (.double d1), .second, .val (.double z32_2), .second, .val (.ref o0), .val (.int (2 : Int32)), .val (.int (2 : Int32)), .val (.double y1), .second] [(.int (2 : Int32))])) rfl (hb hby d1_44) rfl (by decide) (cap := 2) (by decide) (by decide) (by decide) (by decide)
  obtain ⟨b7, g7⟩ : ∃ z, z = h0.size := ⟨_, rfl⟩
  rw [← g7] at A7 st7
  have gn7 : n0 ≤ b7 := Nat.le_trans Z0 (Nat.le_of_eq g7.symm)
  have gz7 : h0.size ≤ b7 := Nat.le_trans ((Keep.refl h0 [])).1 (Nat.le_of_eq g7.symm)
  have K8 : Keep h0 h7 [] := (Keep.refl h0 []).ext E7
  have V7 : Arv Z h7 b7 k7 .boolean (2 : Int32) [(.int (0 : Int32)), (.int (0 : Int32))] (.int (0 : Int32)) := (Arv.new A7 (by decide)).pad (pad_rep [] (.int (0 : Int32)) 2)
  have f9 := (V_o0.ext E7)
  obtain ⟨cl10, Ar10, -, S10, Nn10, -, -⟩ := id f9
  obtain ⟨cl11, Ar11, -, S11, -, Ha11, -⟩ := id f9
  have in11 : ¬ ((0 : Int32) < 0 ∨ cl11.slots.size ≤ ((0 : Int32)).toNatClampNeg) := inb_of S11 ⟨by decide, by decide⟩
  have c12 : ∀ t, Steps p.tables e below (T7.setTop (mkF m 78 #[.val (.ref o0), .val (.double d1), .second, .val (.double z32_2), .second, .val (.ref b7), .val (.int (0 : Int32)), .val (.int (2 : Int32)), .val (.double y1), .second] [(.int m70_s0), (.int (0 : Int32)), (.ref b7)])) t → Steps p.tables e below (s₁.setTop (entryFrame m #[(.ref o0), (.double d1)] 10)) t := by
    intro t k
    refine c0 t ?_
    show Steps p.tables e below (s₁.setTop (mkF m 0 #[.val (.ref o0), .val (.double d1), .second, .unset, .unset, .unset, .unset, .unset, .unset, .unset] [])) _
    refine X0.ldc2DoubleC hx hown (mvT hZ (hw _ (List.mem_of_getElem? (i := 8) rfl))) (g := (mkF m 0 #[.val (.ref o0), .val (.double d1), .second, .unset, .unset, .unset, .unset, .unset, .unset, .unset] [])) rfl (hb hby d1_0) _ ?_
    show Steps p.tables e below (s₁.setTop (mkF m 3 #[.val (.ref o0), .val (.double d1), .second, .unset, .unset, .unset, .unset, .unset, .unset, .unset] [(.double (18442240474082181120 : UInt64))])) _
    refine XS.dstoreN X0.here hx rfl (hb hby d1_3) rfl (l' := #[.val (.ref o0), .val (.double d1), .second, .val (.double (18442240474082181120 : UInt64)), .second, .unset, .unset, .unset, .unset, .unset]) rfl ?_
    show Steps p.tables e below (s₁.setTop (mkF m 4 #[.val (.ref o0), .val (.double d1), .second, .val (.double (18442240474082181120 : UInt64)), .second, .unset, .unset, .unset, .unset, .unset] [])) _
    refine XS.aloadN X0.here hx rfl (hb hby d1_4) rfl rfl ?_
    show Steps p.tables e below (s₁.setTop (mkF m 5 #[.val (.ref o0), .val (.double d1), .second, .val (.double (18442240474082181120 : UInt64)), .second, .unset, .unset, .unset, .unset, .unset] [(.ref o0)])) _
    refine XS.astore X0.here hx rfl (hb hby d1_5) rfl rfl (l' := #[.val (.ref o0), .val (.double d1), .second, .val (.double (18442240474082181120 : UInt64)), .second, .val (.ref o0), .unset, .unset, .unset, .unset]) rfl ?_
    show Steps p.tables e below (s₁.setTop (mkF m 7 #[.val (.ref o0), .val (.double d1), .second, .val (.double (18442240474082181120 : UInt64)), .second, .val (.ref o0), .unset, .unset, .unset, .unset] [])) _
    refine XS.aload X0.here hx rfl (hb hby d1_7) rfl rfl ?_
    show Steps p.tables e below (s₁.setTop (mkF m 9 #[.val (.ref o0), .val (.double d1), .second, .val (.double (18442240474082181120 : UInt64)), .second, .val (.ref o0), .unset, .unset, .unset, .unset] [(.ref o0)])) _
    refine X0.arraylength hx (by rw [e0]; exact Ar1.1) (State.isArrayOf_alike hZ.alike Ar1.2.1) (g := (mkF m 9 #[.val (.ref o0), .val (.double d1), .second, .val (.double (18442240474082181120 : UInt64)), .second, .val (.ref o0), .unset, .unset, .unset, .unset] [(.ref o0)])) rfl rfl (hb hby d1_9) _ ?_
    rw [len_of S1 Nn1]
    show Steps p.tables e below (s₁.setTop (mkF m 10 #[.val (.ref o0), .val (.double d1), .second, .val (.double (18442240474082181120 : UInt64)), .second, .val (.ref o0), .unset, .unset, .unset, .unset] [(.int (2 : Int32))])) _
    refine XS.istore X0.here hx rfl (hb hby d1_10) rfl (l' := #[.val (.ref o0), .val (.double d1), .second, .val (.double (18442240474082181120 : UInt64)), .second, .val (.ref o0), .val (.int (2 : Int32)), .unset, .unset, .unset]) rfl ?_
    show Steps p.tables e below (s₁.setTop (mkF m 12 #[.val (.ref o0), .val (.double d1), .second, .val (.double (18442240474082181120 : UInt64)), .second, .val (.ref o0), .val (.int (2 : Int32)), .unset, .unset, .unset] [])) _
    refine XS.iconst X0.here hx rfl (hb hby d1_12) ?_
    show Steps p.tables e below (s₁.setTop (mkF m 13 #[.val (.ref o0), .val (.double d1), .second, .val (.double (18442240474082181120 : UInt64)), .second, .val (.ref o0), .val (.int (2 : Int32)), .unset, .unset, .unset] [(.int (0 : Int32))])) _
    refine XS.istore X0.here hx rfl (hb hby d1_13) rfl (l' := #[.val (.ref o0), .val (.double d1), .second, .val (.double (18442240474082181120 : UInt64)), .second, .val (.ref o0), .val (.int (2 : Int32)), .val (.int (0 : Int32)), .unset, .unset]) rfl ?_
    show Steps p.tables e below (s₁.setTop (mkF m 15 #[.val (.ref o0), .val (.double d1), .second, .val (.double (18442240474082181120 : UInt64)), .second, .val (.ref o0), .val (.int (2 : Int32)), .val (.int (0 : Int32)), .unset, .unset] [])) _
    refine XS.iload X0.here hx rfl (hb hby d1_15) rfl ?_
    show Steps p.tables e below (s₁.setTop (mkF m 17 #[.val (.ref o0), .val (.double d1), .second, .val (.double (18442240474082181120 : UInt64)), .second, .val (.ref o0), .val (.int (2 : Int32)), .val (.int (0 : Int32)), .unset, .unset] [(.int (0 : Int32))])) _
    refine XS.iload X0.here hx rfl (hb hby d1_17) rfl ?_
    show Steps p.tables e below (s₁.setTop (mkF m 19 #[.val (.ref o0), .val (.double d1), .second, .val (.double (18442240474082181120 : UInt64)), .second, .val (.ref o0), .val (.int (2 : Int32)), .val (.int (0 : Int32)), .unset, .unset] [(.int (2 : Int32)), (.int (0 : Int32))])) _
    refine XS.icmpNo X0.here hx rfl (hb hby d1_19) rfl (Jvm.Free.XT.ii_ge_f (by decide)) ?_
    show Steps p.tables e below (s₁.setTop (mkF m 22 #[.val (.ref o0), .val (.double d1), .second, .val (.double (18442240474082181120 : UInt64)), .second, .val (.ref o0), .val (.int (2 : Int32)), .val (.int (0 : Int32)), .unset, .unset] [])) _
    refine XS.aload X0.here hx rfl (hb hby d1_22) rfl rfl ?_
    show Steps p.tables e below (s₁.setTop (mkF m 24 #[.val (.ref o0), .val (.double d1), .second, .val (.double (18442240474082181120 : UInt64)), .second, .val (.ref o0), .val (.int (2 : Int32)), .val (.int (0 : Int32)), .unset, .unset] [(.ref o0)])) _
    refine XS.iload X0.here hx rfl (hb hby d1_24) rfl ?_
    show Steps p.tables e below (s₁.setTop (mkF m 26 #[.val (.ref o0), .val (.double d1), .second, .val (.double (18442240474082181120 : UInt64)), .second, .val (.ref o0), .val (.int (2 : Int32)), .val (.int (0 : Int32)), .unset, .unset] [(.int (0 : Int32)), (.ref o0)])) _
    refine X0.daload hx (j := (0 : Int32)) (v := (.double y0)) (by rw [e0]; exact Ar2.1) (State.isArrayOf_alike hZ.alike Ar2.2.1) Ar2.2.2 in2 (Has.at Ha2 in2 rfl) (g := (mkF m 26 #[.val (.ref o0), .val (.double d1), .second, .val (.double (18442240474082181120 : UInt64)), .second, .val (.ref o0), .val (.int (2 : Int32)), .val (.int (0 : Int32)), .unset, .unset] [(.int (0 : Int32)), (.ref o0)])) rfl rfl (hb hby d1_26) _ ?_
    show Steps p.tables e below (s₁.setTop (mkF m 27 #[.val (.ref o0), .val (.double d1), .second, .val (.double (18442240474082181120 : UInt64)), .second, .val (.ref o0), .val (.int (2 : Int32)), .val (.int (0 : Int32)), .unset, .unset] [(.double y0)])) _
    refine XS.dstore X0.here hx rfl (hb hby d1_27) rfl (l' := #[.val (.ref o0), .val (.double d1), .second, .val (.double (18442240474082181120 : UInt64)), .second, .val (.ref o0), .val (.int (2 : Int32)), .val (.int (0 : Int32)), .val (.double y0), .second]) rfl ?_
    show Steps p.tables e below (s₁.setTop (mkF m 29 #[.val (.ref o0), .val (.double d1), .second, .val (.double (18442240474082181120 : UInt64)), .second, .val (.ref o0), .val (.int (2 : Int32)), .val (.int (0 : Int32)), .val (.double y0), .second] [])) _
    refine XS.dloadN X0.here hx rfl (hb hby d1_29) rfl ?_
    show Steps p.tables e below (s₁.setTop (mkF m 30 #[.val (.ref o0), .val (.double d1), .second, .val (.double (18442240474082181120 : UInt64)), .second, .val (.ref o0), .val (.int (2 : Int32)), .val (.int (0 : Int32)), .val (.double y0), .second] [(.double (18442240474082181120 : UInt64))])) _
    refine XS.dload X0.here hx rfl (hb hby d1_30) rfl ?_
    show Steps p.tables e below (s₁.setTop (mkF m 32 #[.val (.ref o0), .val (.double d1), .second, .val (.double (18442240474082181120 : UInt64)), .second, .val (.ref o0), .val (.int (2 : Int32)), .val (.int (0 : Int32)), .val (.double y0), .second] [(.double y0), (.double (18442240474082181120 : UInt64))])) _
    refine st3 _ ?_
    show Steps p.tables e below (T3.setTop (mkF m 35 #[.val (.ref o0), .val (.double d1), .second, .val (.double (18442240474082181120 : UInt64)), .second, .val (.ref o0), .val (.int (2 : Int32)), .val (.int (0 : Int32)), .val (.double y0), .second] [(.double z32)])) _
    refine XS.dstoreN X3.here hx rfl (hb hby d1_35) rfl (l' := #[.val (.ref o0), .val (.double d1), .second, .val (.double z32), .second, .val (.ref o0), .val (.int (2 : Int32)), .val (.int (0 : Int32)), .val (.double y0), .second]) rfl ?_
    show Steps p.tables e below (T3.setTop (mkF m 36 #[.val (.ref o0), .val (.double d1), .second, .val (.double z32), .second, .val (.ref o0), .val (.int (2 : Int32)), .val (.int (0 : Int32)), .val (.double y0), .second] [])) _
    refine Jvm.OwnK.iinc X3.here hx rfl (hb hby d1_36) rfl (l' := #[.val (.ref o0), .val (.double d1), .second, .val (.double z32), .second, .val (.ref o0), .val (.int (2 : Int32)), .val (.int (1 : Int32)), .val (.double y0), .second]) (v := (1 : Int32)) (by decide) rfl ?_
    show Steps p.tables e below (T3.setTop (mkF m 39 #[.val (.ref o0), .val (.double d1), .second, .val (.double z32), .second, .val (.ref o0), .val (.int (2 : Int32)), .val (.int (1 : Int32)), .val (.double y0), .second] [])) _
    refine XS.goto X3.here hx rfl (pc0 := 39) (pc' := 15) rfl (hb hby d1_39) (by decide) (by decide) ?_
    show Steps p.tables e below (T3.setTop (mkF m 15 #[.val (.ref o0), .val (.double d1), .second, .val (.double z32), .second, .val (.ref o0), .val (.int (2 : Int32)), .val (.int (1 : Int32)), .val (.double y0), .second] [])) _
    refine XS.iload X3.here hx rfl (hb hby d1_15) rfl ?_
    show Steps p.tables e below (T3.setTop (mkF m 17 #[.val (.ref o0), .val (.double d1), .second, .val (.double z32), .second, .val (.ref o0), .val (.int (2 : Int32)), .val (.int (1 : Int32)), .val (.double y0), .second] [(.int (1 : Int32))])) _
    refine XS.iload X3.here hx rfl (hb hby d1_17) rfl ?_
    show Steps p.tables e below (T3.setTop (mkF m 19 #[.val (.ref o0), .val (.double d1), .second, .val (.double z32), .second, .val (.ref o0), .val (.int (2 : Int32)), .val (.int (1 : Int32)), .val (.double y0), .second] [(.int (2 : Int32)), (.int (1 : Int32))])) _
    refine XS.icmpNo X3.here hx rfl (hb hby d1_19) rfl (Jvm.Free.XT.ii_ge_f (by decide)) ?_
    show Steps p.tables e below (T3.setTop (mkF m 22 #[.val (.ref o0), .val (.double d1), .second, .val (.double z32), .second, .val (.ref o0), .val (.int (2 : Int32)), .val (.int (1 : Int32)), .val (.double y0), .second] [])) _
    refine XS.aload X3.here hx rfl (hb hby d1_22) rfl rfl ?_
    show Steps p.tables e below (T3.setTop (mkF m 24 #[.val (.ref o0), .val (.double d1), .second, .val (.double z32), .second, .val (.ref o0), .val (.int (2 : Int32)), .val (.int (1 : Int32)), .val (.double y0), .second] [(.ref o0)])) _
    refine XS.iload X3.here hx rfl (hb hby d1_24) rfl ?_
    show Steps p.tables e below (T3.setTop (mkF m 26 #[.val (.ref o0), .val (.double d1), .second, .val (.double z32), .second, .val (.ref o0), .val (.int (2 : Int32)), .val (.int (1 : Int32)), .val (.double y0), .second] [(.int (1 : Int32)), (.ref o0)])) _
    refine X3.daload hx (j := (1 : Int32)) (v := (.double y1)) (by rw [e3]; exact Ar4.1) (State.isArrayOf_alike hZ.alike Ar4.2.1) Ar4.2.2 in4 (Has.at Ha4 in4 rfl) (g := (mkF m 26 #[.val (.ref o0), .val (.double d1), .second, .val (.double z32), .second, .val (.ref o0), .val (.int (2 : Int32)), .val (.int (1 : Int32)), .val (.double y0), .second] [(.int (1 : Int32)), (.ref o0)])) rfl rfl (hb hby d1_26) _ ?_
    show Steps p.tables e below (T3.setTop (mkF m 27 #[.val (.ref o0), .val (.double d1), .second, .val (.double z32), .second, .val (.ref o0), .val (.int (2 : Int32)), .val (.int (1 : Int32)), .val (.double y0), .second] [(.double y1)])) _
    refine XS.dstore X3.here hx rfl (hb hby d1_27) rfl (l' := #[.val (.ref o0), .val (.double d1), .second, .val (.double z32), .second, .val (.ref o0), .val (.int (2 : Int32)), .val (.int (1 : Int32)), .val (.double y1), .second]) rfl ?_
    show Steps p.tables e below (T3.setTop (mkF m 29 #[.val (.ref o0), .val (.double d1), .second, .val (.double z32), .second, .val (.ref o0), .val (.int (2 : Int32)), .val (.int (1 : Int32)), .val (.double y1), .second] [])) _
    refine XS.dloadN X3.here hx rfl (hb hby d1_29) rfl ?_
    show Steps p.tables e below (T3.setTop (mkF m 30 #[.val (.ref o0), .val (.double d1), .second, .val (.double z32), .second, .val (.ref o0), .val (.int (2 : Int32)), .val (.int (1 : Int32)), .val (.double y1), .second] [(.double z32)])) _
    refine XS.dload X3.here hx rfl (hb hby d1_30) rfl ?_
    show Steps p.tables e below (T3.setTop (mkF m 32 #[.val (.ref o0), .val (.double d1), .second, .val (.double z32), .second, .val (.ref o0), .val (.int (2 : Int32)), .val (.int (1 : Int32)), .val (.double y1), .second] [(.double y1), (.double z32)])) _
    refine st5 _ ?_
    show Steps p.tables e below (T5.setTop (mkF m 35 #[.val (.ref o0), .val (.double d1), .second, .val (.double z32), .second, .val (.ref o0), .val (.int (2 : Int32)), .val (.int (1 : Int32)), .val (.double y1), .second] [(.double z32_2)])) _
    refine XS.dstoreN X5.here hx rfl (hb hby d1_35) rfl (l' := #[.val (.ref o0), .val (.double d1), .second, .val (.double z32_2), .second, .val (.ref o0), .val (.int (2 : Int32)), .val (.int (1 : Int32)), .val (.double y1), .second]) rfl ?_
    show Steps p.tables e below (T5.setTop (mkF m 36 #[.val (.ref o0), .val (.double d1), .second, .val (.double z32_2), .second, .val (.ref o0), .val (.int (2 : Int32)), .val (.int (1 : Int32)), .val (.double y1), .second] [])) _
    refine Jvm.OwnK.iinc X5.here hx rfl (hb hby d1_36) rfl (l' := #[.val (.ref o0), .val (.double d1), .second, .val (.double z32_2), .second, .val (.ref o0), .val (.int (2 : Int32)), .val (.int (2 : Int32)), .val (.double y1), .second]) (v := (2 : Int32)) (by decide) rfl ?_
    show Steps p.tables e below (T5.setTop (mkF m 39 #[.val (.ref o0), .val (.double d1), .second, .val (.double z32_2), .second, .val (.ref o0), .val (.int (2 : Int32)), .val (.int (2 : Int32)), .val (.double y1), .second] [])) _
    refine XS.goto X5.here hx rfl (pc0 := 39) (pc' := 15) rfl (hb hby d1_39) (by decide) (by decide) ?_
    show Steps p.tables e below (T5.setTop (mkF m 15 #[.val (.ref o0), .val (.double d1), .second, .val (.double z32_2), .second, .val (.ref o0), .val (.int (2 : Int32)), .val (.int (2 : Int32)), .val (.double y1), .second] [])) _
    refine XS.iload X5.here hx rfl (hb hby d1_15) rfl ?_
    show Steps p.tables e below (T5.setTop (mkF m 17 #[.val (.ref o0), .val (.double d1), .second, .val (.double z32_2), .second, .val (.ref o0), .val (.int (2 : Int32)), .val (.int (2 : Int32)), .val (.double y1), .second] [(.int (2 : Int32))])) _
    refine XS.iload X5.here hx rfl (hb hby d1_17) rfl ?_
    show Steps p.tables e below (T5.setTop (mkF m 19 #[.val (.ref o0), .val (.double d1), .second, .val (.double z32_2), .second, .val (.ref o0), .val (.int (2 : Int32)), .val (.int (2 : Int32)), .val (.double y1), .second] [(.int (2 : Int32)), (.int (2 : Int32))])) _
    refine XS.icmpYes X5.here hx rfl (pc0 := 19) (pc' := 42) rfl (hb hby d1_19) rfl (Jvm.Free.XT.ii_ge_t (by decide)) (by decide) (by decide) ?_
    show Steps p.tables e below (T5.setTop (mkF m 42 #[.val (.ref o0), .val (.double d1), .second, .val (.double z32_2), .second, .val (.ref o0), .val (.int (2 : Int32)), .val (.int (2 : Int32)), .val (.double y1), .second] [])) _
    refine XS.aloadN X5.here hx rfl (hb hby d1_42) rfl rfl ?_
    show Steps p.tables e below (T5.setTop (mkF m 43 #[.val (.ref o0), .val (.double d1), .second, .val (.double z32_2), .second, .val (.ref o0), .val (.int (2 : Int32)), .val (.int (2 : Int32)), .val (.double y1), .second] [(.ref o0)])) _
    refine X5.arraylength hx (by rw [e5]; exact Ar6.1) (State.isArrayOf_alike hZ.alike Ar6.2.1) (g := (mkF m 43 #[.val (.ref o0), .val (.double d1), .second, .val (.double z32_2), .second, .val (.ref o0), .val (.int (2 : Int32)), .val (.int (2 : Int32)), .val (.double y1), .second] [(.ref o0)])) rfl rfl (hb hby d1_43) _ ?_
    rw [len_of S6 Nn6]
    show Steps p.tables e below (T5.setTop (mkF m 44 #[.val (.ref o0), .val (.double d1), .second, .val (.double z32_2), .second, .val (.ref o0), .val (.int (2 : Int32)), .val (.int (2 : Int32)), .val (.double y1), .second] [(.int (2 : Int32))])) _
    refine st7 _ ?_
    show Steps p.tables e below (T7.setTop (mkF m 46 #[.val (.ref o0), .val (.double d1), .second, .val (.double z32_2), .second, .val (.ref o0), .val (.int (2 : Int32)), .val (.int (2 : Int32)), .val (.double y1), .second] [(.ref b7)])) _
    refine XS.astore X7.here hx rfl (hb hby d1_46) rfl rfl (l' := #[.val (.ref o0), .val (.double d1), .second, .val (.double z32_2), .second, .val (.ref b7), .val (.int (2 : Int32)), .val (.int (2 : Int32)), .val (.double y1), .second]) rfl ?_
    show Steps p.tables e below (T7.setTop (mkF m 48 #[.val (.ref o0), .val (.double d1), .second, .val (.double z32_2), .second, .val (.ref b7), .val (.int (2 : Int32)), .val (.int (2 : Int32)), .val (.double y1), .second] [])) _
    refine XS.iconst X7.here hx rfl (hb hby d1_48) ?_
    show Steps p.tables e below (T7.setTop (mkF m 49 #[.val (.ref o0), .val (.double d1), .second, .val (.double z32_2), .second, .val (.ref b7), .val (.int (2 : Int32)), .val (.int (2 : Int32)), .val (.double y1), .second] [(.int (0 : Int32))])) _
    refine XS.istore X7.here hx rfl (hb hby d1_49) rfl (l' := #[.val (.ref o0), .val (.double d1), .second, .val (.double z32_2), .second, .val (.ref b7), .val (.int (0 : Int32)), .val (.int (2 : Int32)), .val (.double y1), .second]) rfl ?_
    show Steps p.tables e below (T7.setTop (mkF m 51 #[.val (.ref o0), .val (.double d1), .second, .val (.double z32_2), .second, .val (.ref b7), .val (.int (0 : Int32)), .val (.int (2 : Int32)), .val (.double y1), .second] [])) _
    refine XS.iload X7.here hx rfl (hb hby d1_51) rfl ?_
    show Steps p.tables e below (T7.setTop (mkF m 53 #[.val (.ref o0), .val (.double d1), .second, .val (.double z32_2), .second, .val (.ref b7), .val (.int (0 : Int32)), .val (.int (2 : Int32)), .val (.double y1), .second] [(.int (0 : Int32))])) _
    refine XS.aloadN X7.here hx rfl (hb hby d1_53) rfl rfl ?_
    show Steps p.tables e below (T7.setTop (mkF m 54 #[.val (.ref o0), .val (.double d1), .second, .val (.double z32_2), .second, .val (.ref b7), .val (.int (0 : Int32)), .val (.int (2 : Int32)), .val (.double y1), .second] [(.ref o0), (.int (0 : Int32))])) _
    refine X7.arraylength hx (by rw [e7]; exact Ar10.1) (State.isArrayOf_alike hZ.alike Ar10.2.1) (g := (mkF m 54 #[.val (.ref o0), .val (.double d1), .second, .val (.double z32_2), .second, .val (.ref b7), .val (.int (0 : Int32)), .val (.int (2 : Int32)), .val (.double y1), .second] [(.ref o0), (.int (0 : Int32))])) rfl rfl (hb hby d1_54) _ ?_
    rw [len_of S10 Nn10]
    show Steps p.tables e below (T7.setTop (mkF m 55 #[.val (.ref o0), .val (.double d1), .second, .val (.double z32_2), .second, .val (.ref b7), .val (.int (0 : Int32)), .val (.int (2 : Int32)), .val (.double y1), .second] [(.int (2 : Int32)), (.int (0 : Int32))])) _
    refine XS.icmpNo X7.here hx rfl (hb hby d1_55) rfl (Jvm.Free.XT.ii_ge_f (by decide)) ?_
    show Steps p.tables e below (T7.setTop (mkF m 58 #[.val (.ref o0), .val (.double d1), .second, .val (.double z32_2), .second, .val (.ref b7), .val (.int (0 : Int32)), .val (.int (2 : Int32)), .val (.double y1), .second] [])) _
    refine XS.aload X7.here hx rfl (hb hby d1_58) rfl rfl ?_
    show Steps p.tables e below (T7.setTop (mkF m 60 #[.val (.ref o0), .val (.double d1), .second, .val (.double z32_2), .second, .val (.ref b7), .val (.int (0 : Int32)), .val (.int (2 : Int32)), .val (.double y1), .second] [(.ref b7)])) _
    refine XS.iload X7.here hx rfl (hb hby d1_60) rfl ?_
    show Steps p.tables e below (T7.setTop (mkF m 62 #[.val (.ref o0), .val (.double d1), .second, .val (.double z32_2), .second, .val (.ref b7), .val (.int (0 : Int32)), .val (.int (2 : Int32)), .val (.double y1), .second] [(.int (0 : Int32)), (.ref b7)])) _
    refine XS.aloadN X7.here hx rfl (hb hby d1_62) rfl rfl ?_
    show Steps p.tables e below (T7.setTop (mkF m 63 #[.val (.ref o0), .val (.double d1), .second, .val (.double z32_2), .second, .val (.ref b7), .val (.int (0 : Int32)), .val (.int (2 : Int32)), .val (.double y1), .second] [(.ref o0), (.int (0 : Int32)), (.ref b7)])) _
    refine XS.iload X7.here hx rfl (hb hby d1_63) rfl ?_
    show Steps p.tables e below (T7.setTop (mkF m 65 #[.val (.ref o0), .val (.double d1), .second, .val (.double z32_2), .second, .val (.ref b7), .val (.int (0 : Int32)), .val (.int (2 : Int32)), .val (.double y1), .second] [(.int (0 : Int32)), (.ref o0), (.int (0 : Int32)), (.ref b7)])) _
    refine X7.daload hx (j := (0 : Int32)) (v := (.double y0)) (by rw [e7]; exact Ar11.1) (State.isArrayOf_alike hZ.alike Ar11.2.1) Ar11.2.2 in11 (Has.at Ha11 in11 rfl) (g := (mkF m 65 #[.val (.ref o0), .val (.double d1), .second, .val (.double z32_2), .second, .val (.ref b7), .val (.int (0 : Int32)), .val (.int (2 : Int32)), .val (.double y1), .second] [(.int (0 : Int32)), (.ref o0), (.int (0 : Int32)), (.ref b7)])) rfl rfl (hb hby d1_65) _ ?_
    show Steps p.tables e below (T7.setTop (mkF m 66 #[.val (.ref o0), .val (.double d1), .second, .val (.double z32_2), .second, .val (.ref b7), .val (.int (0 : Int32)), .val (.int (2 : Int32)), .val (.double y1), .second] [(.double y0), (.int (0 : Int32)), (.ref b7)])) _
    refine XS.dloadN X7.here hx rfl (hb hby d1_66) rfl ?_
    show Steps p.tables e below (T7.setTop (mkF m 67 #[.val (.ref o0), .val (.double d1), .second, .val (.double z32_2), .second, .val (.ref b7), .val (.int (0 : Int32)), .val (.int (2 : Int32)), .val (.double y1), .second] [(.double z32_2), (.double y0), (.int (0 : Int32)), (.ref b7)])) _
    refine XS.dloadN X7.here hx rfl (hb hby d1_67) rfl ?_
    show Steps p.tables e below (T7.setTop (mkF m 68 #[.val (.ref o0), .val (.double d1), .second, .val (.double z32_2), .second, .val (.ref b7), .val (.int (0 : Int32)), .val (.int (2 : Int32)), .val (.double y1), .second] [(.double d1), (.double z32_2), (.double y0), (.int (0 : Int32)), (.ref b7)])) _
    refine Jvm.OwnK.dsub X7.here hx rfl (hb hby d1_68) rfl hz68 nn68 ?_
    show Steps p.tables e below (T7.setTop (mkF m 69 #[.val (.ref o0), .val (.double d1), .second, .val (.double z32_2), .second, .val (.ref b7), .val (.int (0 : Int32)), .val (.int (2 : Int32)), .val (.double y1), .second] [(.double z68), (.double y0), (.int (0 : Int32)), (.ref b7)])) _
    refine XS.dcmpS X7.here hx rfl (hb hby d1_69) rfl hz69 ?_
    by_cases hm70_0 : z69 < (0 : Int32)
    · skip
      show Steps p.tables e below (T7.setTop (mkF m 70 #[.val (.ref o0), .val (.double d1), .second, .val (.double z32_2), .second, .val (.ref b7), .val (.int (0 : Int32)), .val (.int (2 : Int32)), .val (.double y1), .second] [(.int z69), (.int (0 : Int32)), (.ref b7)])) _
      refine XS.ifYes X7.here hx rfl (pc0 := 70) (pc' := 77) rfl (hb hby d1_70) rfl (Jvm.Free.XT.i0_lt_t hm70_0) (by decide) (by decide) ?_
      show Steps p.tables e below (T7.setTop (mkF m 77 #[.val (.ref o0), .val (.double d1), .second, .val (.double z32_2), .second, .val (.ref b7), .val (.int (0 : Int32)), .val (.int (2 : Int32)), .val (.double y1), .second] [(.int (0 : Int32)), (.ref b7)])) _
      refine XS.iconst X7.here hx rfl (hb hby d1_77) ?_
      obtain rfl : (0 : Int32) = m70_s0 := by rw [← hm70_s0]; simp only [if_pos hm70_0]
      exact k
    · skip
      show Steps p.tables e below (T7.setTop (mkF m 70 #[.val (.ref o0), .val (.double d1), .second, .val (.double z32_2), .second, .val (.ref b7), .val (.int (0 : Int32)), .val (.int (2 : Int32)), .val (.double y1), .second] [(.int z69), (.int (0 : Int32)), (.ref b7)])) _
      refine XS.ifNo X7.here hx rfl (hb hby d1_70) rfl (Jvm.Free.XT.i0_lt_f hm70_0) ?_
      show Steps p.tables e below (T7.setTop (mkF m 73 #[.val (.ref o0), .val (.double d1), .second, .val (.double z32_2), .second, .val (.ref b7), .val (.int (0 : Int32)), .val (.int (2 : Int32)), .val (.double y1), .second] [(.int (0 : Int32)), (.ref b7)])) _
      refine XS.iconst X7.here hx rfl (hb hby d1_73) ?_
      show Steps p.tables e below (T7.setTop (mkF m 74 #[.val (.ref o0), .val (.double d1), .second, .val (.double z32_2), .second, .val (.ref b7), .val (.int (0 : Int32)), .val (.int (2 : Int32)), .val (.double y1), .second] [(.int (1 : Int32)), (.int (0 : Int32)), (.ref b7)])) _
      refine XS.goto X7.here hx rfl (pc0 := 74) (pc' := 78) rfl (hb hby d1_74) (by decide) (by decide) ?_
      obtain rfl : (1 : Int32) = m70_s0 := by rw [← hm70_s0]; simp only [if_neg hm70_0]
      exact k
  obtain ⟨cl13, Ar13, q13, S13, Nn13, Ha13, G13⟩ := id V7
  have in13 : ¬ ((0 : Int32) < 0 ∨ cl13.slots.size ≤ ((0 : Int32)).toNatClampNeg) := inb_of S13 ⟨by decide, by decide⟩
  obtain ⟨T14, h14, X14, e14, W14, st14⟩ := stZ X7 hx hZ e7 Ar13 (j := (0 : Int32)) in13 (g := (mkF m 78 #[.val (.ref o0), .val (.double d1), .second, .val (.double z32_2), .second, .val (.ref b7), .val (.int (0 : Int32)), .val (.int (2 : Int32)), .val (.double y1), .second] [(.int m70_s0), (.int (0 : Int32)), (.ref b7)])) rfl rfl (hb hby d1_78)
  rw [nb78] at W14
  have N14 := Fr.snoc X14 N0 gn7
  have K15 : Keep h0 h14 [] := K8.wr W14 (Or.inr gz7)
  have V14 : Arv Z h14 b7 k7 .boolean (2 : Int32) [(.int m70_s0), (.int (0 : Int32))] (.int (0 : Int32)) := Arv.set Ar13 q13 S13 Nn13 Ha13 G13 fi78 W14 0 rfl (show (0 : Nat) < 2 by decide)
  have f16 := (f9.other W14 (Nat.ne_of_lt (Nat.lt_of_lt_of_le (V_o0).lt (Nat.le_of_eq g7.symm))))
  obtain ⟨cl17, Ar17, -, S17, Nn17, -, -⟩ := id f16
  obtain ⟨cl18, Ar18, -, S18, -, Ha18, -⟩ := id f16
  have in18 : ¬ ((1 : Int32) < 0 ∨ cl18.slots.size ≤ ((1 : Int32)).toNatClampNeg) := inb_of S18 ⟨by decide, by decide⟩
  have c19 : ∀ t, Steps p.tables e below (T14.setTop (mkF m 78 #[.val (.ref o0), .val (.double d1), .second, .val (.double z32_2), .second, .val (.ref b7), .val (.int (1 : Int32)), .val (.int (2 : Int32)), .val (.double y1), .second] [(.int m70_s0_2), (.int (1 : Int32)), (.ref b7)])) t → Steps p.tables e below (s₁.setTop (entryFrame m #[(.ref o0), (.double d1)] 10)) t := by
    intro t k
    refine c12 t ?_
    show Steps p.tables e below (T7.setTop (mkF m 78 #[.val (.ref o0), .val (.double d1), .second, .val (.double z32_2), .second, .val (.ref b7), .val (.int (0 : Int32)), .val (.int (2 : Int32)), .val (.double y1), .second] [(.int m70_s0), (.int (0 : Int32)), (.ref b7)])) _
    refine st14 _ ?_
    show Steps p.tables e below (T14.setTop (mkF m 79 #[.val (.ref o0), .val (.double d1), .second, .val (.double z32_2), .second, .val (.ref b7), .val (.int (0 : Int32)), .val (.int (2 : Int32)), .val (.double y1), .second] [])) _
    refine Jvm.OwnK.iinc X14.here hx rfl (hb hby d1_79) rfl (l' := #[.val (.ref o0), .val (.double d1), .second, .val (.double z32_2), .second, .val (.ref b7), .val (.int (1 : Int32)), .val (.int (2 : Int32)), .val (.double y1), .second]) (v := (1 : Int32)) (by decide) rfl ?_
    show Steps p.tables e below (T14.setTop (mkF m 82 #[.val (.ref o0), .val (.double d1), .second, .val (.double z32_2), .second, .val (.ref b7), .val (.int (1 : Int32)), .val (.int (2 : Int32)), .val (.double y1), .second] [])) _
    refine XS.goto X14.here hx rfl (pc0 := 82) (pc' := 51) rfl (hb hby d1_82) (by decide) (by decide) ?_
    show Steps p.tables e below (T14.setTop (mkF m 51 #[.val (.ref o0), .val (.double d1), .second, .val (.double z32_2), .second, .val (.ref b7), .val (.int (1 : Int32)), .val (.int (2 : Int32)), .val (.double y1), .second] [])) _
    refine XS.iload X14.here hx rfl (hb hby d1_51) rfl ?_
    show Steps p.tables e below (T14.setTop (mkF m 53 #[.val (.ref o0), .val (.double d1), .second, .val (.double z32_2), .second, .val (.ref b7), .val (.int (1 : Int32)), .val (.int (2 : Int32)), .val (.double y1), .second] [(.int (1 : Int32))])) _
    refine XS.aloadN X14.here hx rfl (hb hby d1_53) rfl rfl ?_
    show Steps p.tables e below (T14.setTop (mkF m 54 #[.val (.ref o0), .val (.double d1), .second, .val (.double z32_2), .second, .val (.ref b7), .val (.int (1 : Int32)), .val (.int (2 : Int32)), .val (.double y1), .second] [(.ref o0), (.int (1 : Int32))])) _
    refine X14.arraylength hx (by rw [e14]; exact Ar17.1) (State.isArrayOf_alike hZ.alike Ar17.2.1) (g := (mkF m 54 #[.val (.ref o0), .val (.double d1), .second, .val (.double z32_2), .second, .val (.ref b7), .val (.int (1 : Int32)), .val (.int (2 : Int32)), .val (.double y1), .second] [(.ref o0), (.int (1 : Int32))])) rfl rfl (hb hby d1_54) _ ?_
    rw [len_of S17 Nn17]
    show Steps p.tables e below (T14.setTop (mkF m 55 #[.val (.ref o0), .val (.double d1), .second, .val (.double z32_2), .second, .val (.ref b7), .val (.int (1 : Int32)), .val (.int (2 : Int32)), .val (.double y1), .second] [(.int (2 : Int32)), (.int (1 : Int32))])) _
    refine XS.icmpNo X14.here hx rfl (hb hby d1_55) rfl (Jvm.Free.XT.ii_ge_f (by decide)) ?_
    show Steps p.tables e below (T14.setTop (mkF m 58 #[.val (.ref o0), .val (.double d1), .second, .val (.double z32_2), .second, .val (.ref b7), .val (.int (1 : Int32)), .val (.int (2 : Int32)), .val (.double y1), .second] [])) _
    refine XS.aload X14.here hx rfl (hb hby d1_58) rfl rfl ?_
    show Steps p.tables e below (T14.setTop (mkF m 60 #[.val (.ref o0), .val (.double d1), .second, .val (.double z32_2), .second, .val (.ref b7), .val (.int (1 : Int32)), .val (.int (2 : Int32)), .val (.double y1), .second] [(.ref b7)])) _
    refine XS.iload X14.here hx rfl (hb hby d1_60) rfl ?_
    show Steps p.tables e below (T14.setTop (mkF m 62 #[.val (.ref o0), .val (.double d1), .second, .val (.double z32_2), .second, .val (.ref b7), .val (.int (1 : Int32)), .val (.int (2 : Int32)), .val (.double y1), .second] [(.int (1 : Int32)), (.ref b7)])) _
    refine XS.aloadN X14.here hx rfl (hb hby d1_62) rfl rfl ?_
    show Steps p.tables e below (T14.setTop (mkF m 63 #[.val (.ref o0), .val (.double d1), .second, .val (.double z32_2), .second, .val (.ref b7), .val (.int (1 : Int32)), .val (.int (2 : Int32)), .val (.double y1), .second] [(.ref o0), (.int (1 : Int32)), (.ref b7)])) _
    refine XS.iload X14.here hx rfl (hb hby d1_63) rfl ?_
    show Steps p.tables e below (T14.setTop (mkF m 65 #[.val (.ref o0), .val (.double d1), .second, .val (.double z32_2), .second, .val (.ref b7), .val (.int (1 : Int32)), .val (.int (2 : Int32)), .val (.double y1), .second] [(.int (1 : Int32)), (.ref o0), (.int (1 : Int32)), (.ref b7)])) _
    refine X14.daload hx (j := (1 : Int32)) (v := (.double y1)) (by rw [e14]; exact Ar18.1) (State.isArrayOf_alike hZ.alike Ar18.2.1) Ar18.2.2 in18 (Has.at Ha18 in18 rfl) (g := (mkF m 65 #[.val (.ref o0), .val (.double d1), .second, .val (.double z32_2), .second, .val (.ref b7), .val (.int (1 : Int32)), .val (.int (2 : Int32)), .val (.double y1), .second] [(.int (1 : Int32)), (.ref o0), (.int (1 : Int32)), (.ref b7)])) rfl rfl (hb hby d1_65) _ ?_
    show Steps p.tables e below (T14.setTop (mkF m 66 #[.val (.ref o0), .val (.double d1), .second, .val (.double z32_2), .second, .val (.ref b7), .val (.int (1 : Int32)), .val (.int (2 : Int32)), .val (.double y1), .second] [(.double y1), (.int (1 : Int32)), (.ref b7)])) _
    refine XS.dloadN X14.here hx rfl (hb hby d1_66) rfl ?_
    show Steps p.tables e below (T14.setTop (mkF m 67 #[.val (.ref o0), .val (.double d1), .second, .val (.double z32_2), .second, .val (.ref b7), .val (.int (1 : Int32)), .val (.int (2 : Int32)), .val (.double y1), .second] [(.double z32_2), (.double y1), (.int (1 : Int32)), (.ref b7)])) _
    refine XS.dloadN X14.here hx rfl (hb hby d1_67) rfl ?_
    show Steps p.tables e below (T14.setTop (mkF m 68 #[.val (.ref o0), .val (.double d1), .second, .val (.double z32_2), .second, .val (.ref b7), .val (.int (1 : Int32)), .val (.int (2 : Int32)), .val (.double y1), .second] [(.double d1), (.double z32_2), (.double y1), (.int (1 : Int32)), (.ref b7)])) _
    refine Jvm.OwnK.dsub X14.here hx rfl (hb hby d1_68) rfl hz68_2 nn68_2 ?_
    show Steps p.tables e below (T14.setTop (mkF m 69 #[.val (.ref o0), .val (.double d1), .second, .val (.double z32_2), .second, .val (.ref b7), .val (.int (1 : Int32)), .val (.int (2 : Int32)), .val (.double y1), .second] [(.double z68_2), (.double y1), (.int (1 : Int32)), (.ref b7)])) _
    refine XS.dcmpS X14.here hx rfl (hb hby d1_69) rfl hz69_2 ?_
    by_cases hm70_0 : z69_2 < (0 : Int32)
    · skip
      show Steps p.tables e below (T14.setTop (mkF m 70 #[.val (.ref o0), .val (.double d1), .second, .val (.double z32_2), .second, .val (.ref b7), .val (.int (1 : Int32)), .val (.int (2 : Int32)), .val (.double y1), .second] [(.int z69_2), (.int (1 : Int32)), (.ref b7)])) _
      refine XS.ifYes X14.here hx rfl (pc0 := 70) (pc' := 77) rfl (hb hby d1_70) rfl (Jvm.Free.XT.i0_lt_t hm70_0) (by decide) (by decide) ?_
      show Steps p.tables e below (T14.setTop (mkF m 77 #[.val (.ref o0), .val (.double d1), .second, .val (.double z32_2), .second, .val (.ref b7), .val (.int (1 : Int32)), .val (.int (2 : Int32)), .val (.double y1), .second] [(.int (1 : Int32)), (.ref b7)])) _
      refine XS.iconst X14.here hx rfl (hb hby d1_77) ?_
      obtain rfl : (0 : Int32) = m70_s0_2 := by rw [← hm70_s0_2]; simp only [if_pos hm70_0]
      exact k
    · skip
      show Steps p.tables e below (T14.setTop (mkF m 70 #[.val (.ref o0), .val (.double d1), .second, .val (.double z32_2), .second, .val (.ref b7), .val (.int (1 : Int32)), .val (.int (2 : Int32)), .val (.double y1), .second] [(.int z69_2), (.int (1 : Int32)), (.ref b7)])) _
      refine XS.ifNo X14.here hx rfl (hb hby d1_70) rfl (Jvm.Free.XT.i0_lt_f hm70_0) ?_
      show Steps p.tables e below (T14.setTop (mkF m 73 #[.val (.ref o0), .val (.double d1), .second, .val (.double z32_2), .second, .val (.ref b7), .val (.int (1 : Int32)), .val (.int (2 : Int32)), .val (.double y1), .second] [(.int (1 : Int32)), (.ref b7)])) _
      refine XS.iconst X14.here hx rfl (hb hby d1_73) ?_
      show Steps p.tables e below (T14.setTop (mkF m 74 #[.val (.ref o0), .val (.double d1), .second, .val (.double z32_2), .second, .val (.ref b7), .val (.int (1 : Int32)), .val (.int (2 : Int32)), .val (.double y1), .second] [(.int (1 : Int32)), (.int (1 : Int32)), (.ref b7)])) _
      refine XS.goto X14.here hx rfl (pc0 := 74) (pc' := 78) rfl (hb hby d1_74) (by decide) (by decide) ?_
      obtain rfl : (1 : Int32) = m70_s0_2 := by rw [← hm70_s0_2]; simp only [if_neg hm70_0]
      exact k
  obtain ⟨cl20, Ar20, q20, S20, Nn20, Ha20, G20⟩ := id V14
  have in20 : ¬ ((1 : Int32) < 0 ∨ cl20.slots.size ≤ ((1 : Int32)).toNatClampNeg) := inb_of S20 ⟨by decide, by decide⟩
  obtain ⟨T21, h21, X21, e21, W21, st21⟩ := stZ X14 hx hZ e14 Ar20 (j := (1 : Int32)) in20 (g := (mkF m 78 #[.val (.ref o0), .val (.double d1), .second, .val (.double z32_2), .second, .val (.ref b7), .val (.int (1 : Int32)), .val (.int (2 : Int32)), .val (.double y1), .second] [(.int m70_s0_2), (.int (1 : Int32)), (.ref b7)])) rfl rfl (hb hby d1_78)
  rw [nb78_2] at W21
  have N21 := Fr.snoc X21 N14 gn7
  have K22 : Keep h0 h21 [] := K15.wr W21 (Or.inr gz7)
  have V21 : Arv Z h21 b7 k7 .boolean (2 : Int32) [(.int m70_s0), (.int m70_s0_2)] (.int (0 : Int32)) := Arv.set Ar20 q20 S20 Nn20 Ha20 G20 fi78_2 W21 1 rfl (show (1 : Nat) < 2 by decide)
  have f23 := (f16.other W21 (Nat.ne_of_lt (Nat.lt_of_lt_of_le (V_o0).lt (Nat.le_of_eq g7.symm))))
  obtain ⟨cl24, Ar24, -, S24, Nn24, -, -⟩ := id f23
  have c25 : ∀ t, Steps p.tables e below (T21.setTop (mkF m 87 #[.val (.ref o0), .val (.double d1), .second, .val (.double z32_2), .second, .val (.ref b7), .val (.int (2 : Int32)), .val (.int (2 : Int32)), .val (.double y1), .second] [(.ref b7)])) t → Steps p.tables e below (s₁.setTop (entryFrame m #[(.ref o0), (.double d1)] 10)) t := by
    intro t k
    refine c19 t ?_
    show Steps p.tables e below (T14.setTop (mkF m 78 #[.val (.ref o0), .val (.double d1), .second, .val (.double z32_2), .second, .val (.ref b7), .val (.int (1 : Int32)), .val (.int (2 : Int32)), .val (.double y1), .second] [(.int m70_s0_2), (.int (1 : Int32)), (.ref b7)])) _
    refine st21 _ ?_
    show Steps p.tables e below (T21.setTop (mkF m 79 #[.val (.ref o0), .val (.double d1), .second, .val (.double z32_2), .second, .val (.ref b7), .val (.int (1 : Int32)), .val (.int (2 : Int32)), .val (.double y1), .second] [])) _
    refine Jvm.OwnK.iinc X21.here hx rfl (hb hby d1_79) rfl (l' := #[.val (.ref o0), .val (.double d1), .second, .val (.double z32_2), .second, .val (.ref b7), .val (.int (2 : Int32)), .val (.int (2 : Int32)), .val (.double y1), .second]) (v := (2 : Int32)) (by decide) rfl ?_
    show Steps p.tables e below (T21.setTop (mkF m 82 #[.val (.ref o0), .val (.double d1), .second, .val (.double z32_2), .second, .val (.ref b7), .val (.int (2 : Int32)), .val (.int (2 : Int32)), .val (.double y1), .second] [])) _
    refine XS.goto X21.here hx rfl (pc0 := 82) (pc' := 51) rfl (hb hby d1_82) (by decide) (by decide) ?_
    show Steps p.tables e below (T21.setTop (mkF m 51 #[.val (.ref o0), .val (.double d1), .second, .val (.double z32_2), .second, .val (.ref b7), .val (.int (2 : Int32)), .val (.int (2 : Int32)), .val (.double y1), .second] [])) _
    refine XS.iload X21.here hx rfl (hb hby d1_51) rfl ?_
    show Steps p.tables e below (T21.setTop (mkF m 53 #[.val (.ref o0), .val (.double d1), .second, .val (.double z32_2), .second, .val (.ref b7), .val (.int (2 : Int32)), .val (.int (2 : Int32)), .val (.double y1), .second] [(.int (2 : Int32))])) _
    refine XS.aloadN X21.here hx rfl (hb hby d1_53) rfl rfl ?_
    show Steps p.tables e below (T21.setTop (mkF m 54 #[.val (.ref o0), .val (.double d1), .second, .val (.double z32_2), .second, .val (.ref b7), .val (.int (2 : Int32)), .val (.int (2 : Int32)), .val (.double y1), .second] [(.ref o0), (.int (2 : Int32))])) _
    refine X21.arraylength hx (by rw [e21]; exact Ar24.1) (State.isArrayOf_alike hZ.alike Ar24.2.1) (g := (mkF m 54 #[.val (.ref o0), .val (.double d1), .second, .val (.double z32_2), .second, .val (.ref b7), .val (.int (2 : Int32)), .val (.int (2 : Int32)), .val (.double y1), .second] [(.ref o0), (.int (2 : Int32))])) rfl rfl (hb hby d1_54) _ ?_
    rw [len_of S24 Nn24]
    show Steps p.tables e below (T21.setTop (mkF m 55 #[.val (.ref o0), .val (.double d1), .second, .val (.double z32_2), .second, .val (.ref b7), .val (.int (2 : Int32)), .val (.int (2 : Int32)), .val (.double y1), .second] [(.int (2 : Int32)), (.int (2 : Int32))])) _
    refine XS.icmpYes X21.here hx rfl (pc0 := 55) (pc' := 85) rfl (hb hby d1_55) rfl (Jvm.Free.XT.ii_ge_t (by decide)) (by decide) (by decide) ?_
    show Steps p.tables e below (T21.setTop (mkF m 85 #[.val (.ref o0), .val (.double d1), .second, .val (.double z32_2), .second, .val (.ref b7), .val (.int (2 : Int32)), .val (.int (2 : Int32)), .val (.double y1), .second] [])) _
    refine XS.aload X21.here hx rfl (hb hby d1_85) rfl rfl ?_
    exact k
  obtain ⟨fs, hr, hrun, hended, hW, hsame⟩ := X21.leave (v := some (.ref b7)) (fun h => by rw [Bd.returns] at h; cases h)
  refine ⟨_, _, c25 _ ?_, hrun, hended, _, _, rfl, ?_, ⟨_, rfl⟩, hW, hsame.mono (by decide) (by decide)⟩
  · show Steps p.tables e below (T21.setTop (mkF m 87 #[.val (.ref o0), .val (.double d1), .second, .val (.double z32_2), .second, .val (.ref b7), .val (.int (2 : Int32)), .val (.int (2 : Int32)), .val (.double y1), .second] [(.ref b7)])) _
    exact retOut X21 hx Bd.returns rfl (Or.inr (Or.inr (Or.inr (Or.inr ⟨rfl, rfl, rfl⟩)))) (hb hby d1_87) hr
  · show Q1_2 Z o0 d1 k_o0 y0 y1 z32 z32_2 z68 z69 m70_s0 z68_2 z69_2 m70_s0_2 h0 n0 _ T21.heap _
    rw [e21]
    exact ⟨b7, k7, rfl, N21, gz7, K22, V21⟩
def Q3_2 (Z : State) (q0 : Int64) (p1 : Int32) (o2 : Addr) (o3 : Addr) (q5 : Int64) (k_o2 : ClassId) (x0 : Int64) (x1 : Int64) (x2 : Int64) (x3 : Int64) (k_o3 : ClassId) (f0 : Int32) (f1 : Int32) (f2 : Int32) (f3 : Int32) (c16_z12 : Int64) (c16_z14 : Int32) (c16_rv : Int32) (c39_z12 : Int64) (c39_z14 : Int32) (c39_rv : Int32) (rv : Int32) (h0 : Heap) (n0 : Nat) (v : Option Value) (h : Heap) (L : List Loc) : Prop := v = some (.int rv) ∧ Fr n0 L ∧ h = h0
set_option maxRecDepth 65536 in
set_option maxHeartbeats 40000000 in
theorem rm3_2 (l : Launch) (Z : State) (a0 : Array Value) (hw : ∀ d ∈ tables_1, d.before a0 Z = true) (ws : List Jvm.Cond) (q0 : Int64) (p1 : Int32) (o2 : Addr) (o3 : Addr) (q5 : Int64) (k_o2 : ClassId) (x0 : Int64) (x1 : Int64) (x2 : Int64) (x3 : Int64) (k_o3 : ClassId) (f0 : Int32) (f1 : Int32) (f2 : Int32) (f3 : Int32) (c16_z12 : Int64) (c16_z14 : Int32) (c16_rv : Int32) (c39_z12 : Int64) (c39_z14 : Int32) (c39_rv : Int32) (rv : Int32) (h0 : Heap) (n0 : Nat) (Z0 : n0 ≤ h0.size) (V_o2 : Arv Z h0 o2 k_o2 .long (4 : Int32) [(.long x0), (.long x1), (.long x2), (.long x3)] (.long (0 : Int64))) (V_o3 : Arv Z h0 o3 k_o3 .boolean (4 : Int32) [(.int f0), (.int f1), (.int f2), (.int f3)] (.int (0 : Int32))) (hc16_z12 : q0 + q5 = c16_z12) (hc16_z14 : lcmpW c16_z12 x0 = c16_z14) (hc16_rv : (if f0 = (0 : Int32) then (if p1 = (0 : Int32) then (if c16_z14 < (0 : Int32) then (0 : Int32) else (1 : Int32)) else (0 : Int32)) else (1 : Int32)) = c16_rv) (hc39_z12 : q0 + q5 = c39_z12) (hc39_z14 : lcmpW c39_z12 x1 = c39_z14) (hc39_rv : (if f1 = (0 : Int32) then (if p1 = (0 : Int32) then (if c39_z14 < (0 : Int32) then (0 : Int32) else (1 : Int32)) else (0 : Int32)) else (1 : Int32)) = c39_rv) (hrv : (if c16_rv = (0 : Int32) then (0 : Int32) else (if c39_rv = (0 : Int32) then (0 : Int32) else (1 : Int32))) = rv) :
    MetFree l (⟨"com/example/credal_choice/credalchoice/criteria/ChoiceNearLargestPinLaw", "near", "(JZ[J[ZIJ)Z"⟩ : MethodName) (head1 (Jvm.Cond.code (⟨"com/example/credal_choice/credalchoice/criteria/ChoiceNearLargestPinLaw", "near", "(JZ[J[ZIJ)Z"⟩ : MethodName) method_4_code 8 (some .boolean) :: ws) ({ frames := 1, cells := 0, slots := 0, locals := 19 } : Room)) (fun a U => a = #[(.long q0), (.int p1), (.ref o2), (.ref o3), (.int (2 : Int32)), (.long q5)] ∧ Z.Warmed39 U.vm ∧ U.heap = h0) (fun _ _ _ _ _ => True) (fun _ U o U' => ∃ v L, o = .returned v ∧ Q3_2 Z q0 p1 o2 o3 q5 k_o2 x0 x1 x2 x3 k_o3 f0 f1 f2 f3 c16_z12 c16_z14 c16_rv c39_z12 c39_z14 c39_rv rv h0 n0 v U'.heap L ∧ FrameEnd U o U' L ({ frames := 1, cells := 0, slots := 0, locals := 19 } : Room).cells ({ frames := 1, cells := 0, slots := 0, locals := 19 } : Room).slots) := by
  refine MetFree.of_bodySF (plainFor_of_name pn_0) hisR ?_
  intro p e s m args below meth c s₁ Bd hml0 hP hK
  obtain ⟨rfl, hZ, hh⟩ := hP
  have hx := Bd.exec
  have hby := Bd.bytes
  have hml : c.maxLocals = 8 := hml0
  have hown : s.vm.findClass "com/example/credal_choice/credalchoice/criteria/ChoiceNearLargestPinLaw" = some m.cls := findClass_of_methodNamed Bd.named
  have hnm := (name_of_methodNamed Bd.named Bd.method).1
  have X0 : Stand p l e ({ frames := 1, cells := 0, slots := 0, locals := 19 } : Room) s m #[(.long q0), (.int p1), (.ref o2), (.ref o3), (.int (2 : Int32)), (.long q5)] below meth c s₁ [] 0 0 := Stand.of_body Bd
  have e0 : s₁.heap = h0 := by rw [← hh, Bd.state]; rfl
  have N0 := Fr.nil n0
  have c0 : ∀ t, Steps p.tables e below (s₁.setTop (mkF m 0 #[.val (.long q0), .second, .val (.int p1), .val (.ref o2), .val (.ref o3), .val (.int (2 : Int32)), .val (.long q5), .second] [])) t → Steps p.tables e below (s₁.setTop (entryFrame m #[(.long q0), (.int p1), (.ref o2), (.ref o3), (.int (2 : Int32)), (.long q5)] 8)) t := fun t k => castTop (ef_rm3_2 m q0 p1 o2 o3 q5) k
  obtain ⟨cl1, Ar1, -, S1, -, Ha1, -⟩ := id V_o2
  have in1 : ¬ ((0 : Int32) < 0 ∨ cl1.slots.size ≤ ((0 : Int32)).toNatClampNeg) := inb_of S1 ⟨by decide, by decide⟩
  obtain ⟨cl2, Ar2, -, S2, -, Ha2, -⟩ := id V_o3
  have in2 : ¬ ((0 : Int32) < 0 ∨ cl2.slots.size ≤ ((0 : Int32)).toNatClampNeg) := inb_of S2 ⟨by decide, by decide⟩
  obtain ⟨_, _, ⟨T3, L3, k3, n3⟩, -, X3, ⟨Lc3, hQ3, ql3, qy3, qz3⟩, st3⟩ := Jvm.LawKit.callS X0 hx (y := (⟨"com/example/credal_choice/credalchoice/criteria/ChoiceNearLargestPinLaw", "beats", "(JZJZJ)Z"⟩ : MethodName)) hown (mvT hZ (hw _ (List.mem_of_getElem? (i := 17) rfl))) (mvT hZ (hw _ (List.mem_of_getElem? (i := 18) rfl))) (mvT hZ (hw _ (List.mem_of_getElem? (i := 15) rfl))) (mvT hZ (hw _ (List.mem_of_getElem? (i := 19) rfl))) (by decide) (backOf (W := 0) (rm4 l Z a0 hw [] q0 p1 x0 f0 q5 c16_z12 c16_z14 c16_rv h0 n0 Z0 hc16_z12 hc16_z14 hc16_rv) hZ (hw _ (List.mem_of_getElem? (i := 19) rfl)) (hw _ (List.mem_of_getElem? (i := 15) rfl)) (by decide) (by decide)) (g := (mkF m 16 #[.val (.long q0), .second, .val (.int p1), .val (.ref o2), .val (.ref o3), .val (.int (2 : Int32)), .val (.long q5), .second] [(.long q5), (.int f0), (.long x0), (.int p1), (.long q0)])) rfl (by rw [hml]; rfl) (argsL := [(.long q0), (.int p1), (.long x0), (.int f0), (.long q5)]) (rest := []) (lenOf pd_1 rfl) rfl (by show 2 * 0 + _ ≤ _; exact Nat.le_of_eq rfl) (hb hby d3_16) (fun _ _ => ⟨rfl, e0, (by decide : 0 + 0 ≤ _), (by decide : 0 + 0 ≤ _)⟩)
  dsimp only [Pt.U, Pt.locs, Pt.cells, Pt.slots] at X3 ql3 qy3 qz3 st3 hQ3
  subst ql3 qy3 qz3
  obtain ⟨rfl, N3q, e3⟩ := hQ3
  have N3 := Fr.app N0 N3q
  have c4 : ∀ t, Steps p.tables e below (T3.setTop (mkF m 19 #[.val (.long q0), .second, .val (.int p1), .val (.ref o2), .val (.ref o3), .val (.int (2 : Int32)), .val (.long q5), .second] [(.int c16_rv)])) t → Steps p.tables e below (s₁.setTop (entryFrame m #[(.long q0), (.int p1), (.ref o2), (.ref o3), (.int (2 : Int32)), (.long q5)] 8)) t := by
    intro t k
    refine c0 t ?_
    show Steps p.tables e below (s₁.setTop (mkF m 0 #[.val (.long q0), .second, .val (.int p1), .val (.ref o2), .val (.ref o3), .val (.int (2 : Int32)), .val (.long q5), .second] [])) _
    refine XS.iload X0.here hx rfl (hb hby d3_0) rfl ?_
    show Steps p.tables e below (s₁.setTop (mkF m 2 #[.val (.long q0), .second, .val (.int p1), .val (.ref o2), .val (.ref o3), .val (.int (2 : Int32)), .val (.long q5), .second] [(.int (2 : Int32))])) _
    refine XS.ifNo X0.here hx rfl (hb hby d3_2) rfl (Jvm.Free.XT.i0_le_f (by decide)) ?_
    show Steps p.tables e below (s₁.setTop (mkF m 5 #[.val (.long q0), .second, .val (.int p1), .val (.ref o2), .val (.ref o3), .val (.int (2 : Int32)), .val (.long q5), .second] [])) _
    refine XS.lloadN X0.here hx rfl (hb hby d3_5) rfl ?_
    show Steps p.tables e below (s₁.setTop (mkF m 6 #[.val (.long q0), .second, .val (.int p1), .val (.ref o2), .val (.ref o3), .val (.int (2 : Int32)), .val (.long q5), .second] [(.long q0)])) _
    refine XS.iloadN X0.here hx rfl (hb hby d3_6) rfl ?_
    show Steps p.tables e below (s₁.setTop (mkF m 7 #[.val (.long q0), .second, .val (.int p1), .val (.ref o2), .val (.ref o3), .val (.int (2 : Int32)), .val (.long q5), .second] [(.int p1), (.long q0)])) _
    refine XS.aloadN X0.here hx rfl (hb hby d3_7) rfl rfl ?_
    show Steps p.tables e below (s₁.setTop (mkF m 8 #[.val (.long q0), .second, .val (.int p1), .val (.ref o2), .val (.ref o3), .val (.int (2 : Int32)), .val (.long q5), .second] [(.ref o2), (.int p1), (.long q0)])) _
    refine XS.iconst X0.here hx rfl (hb hby d3_8) ?_
    show Steps p.tables e below (s₁.setTop (mkF m 9 #[.val (.long q0), .second, .val (.int p1), .val (.ref o2), .val (.ref o3), .val (.int (2 : Int32)), .val (.long q5), .second] [(.int (0 : Int32)), (.ref o2), (.int p1), (.long q0)])) _
    refine X0.laload hx (j := (0 : Int32)) (v := (.long x0)) (by rw [e0]; exact Ar1.1) (State.isArrayOf_alike hZ.alike Ar1.2.1) Ar1.2.2 in1 (Has.at Ha1 in1 rfl) (g := (mkF m 9 #[.val (.long q0), .second, .val (.int p1), .val (.ref o2), .val (.ref o3), .val (.int (2 : Int32)), .val (.long q5), .second] [(.int (0 : Int32)), (.ref o2), (.int p1), (.long q0)])) rfl rfl (hb hby d3_9) _ ?_
    show Steps p.tables e below (s₁.setTop (mkF m 10 #[.val (.long q0), .second, .val (.int p1), .val (.ref o2), .val (.ref o3), .val (.int (2 : Int32)), .val (.long q5), .second] [(.long x0), (.int p1), (.long q0)])) _
    refine XS.aload X0.here hx rfl (hb hby d3_10) rfl rfl ?_
    show Steps p.tables e below (s₁.setTop (mkF m 12 #[.val (.long q0), .second, .val (.int p1), .val (.ref o2), .val (.ref o3), .val (.int (2 : Int32)), .val (.long q5), .second] [(.ref o3), (.long x0), (.int p1), (.long q0)])) _
    refine XS.iconst X0.here hx rfl (hb hby d3_12) ?_
    show Steps p.tables e below (s₁.setTop (mkF m 13 #[.val (.long q0), .second, .val (.int p1), .val (.ref o2), .val (.ref o3), .val (.int (2 : Int32)), .val (.long q5), .second] [(.int (0 : Int32)), (.ref o3), (.long x0), (.int p1), (.long q0)])) _
    refine X0.baloadBooleans hx (j := (0 : Int32)) (v := (.int f0)) (by rw [e0]; exact Ar2.1) (State.isArrayOf_alike hZ.alike Ar2.2.1) Ar2.2.2 in2 (Has.at Ha2 in2 rfl) (g := (mkF m 13 #[.val (.long q0), .second, .val (.int p1), .val (.ref o2), .val (.ref o3), .val (.int (2 : Int32)), .val (.long q5), .second] [(.int (0 : Int32)), (.ref o3), (.long x0), (.int p1), (.long q0)])) rfl rfl (hb hby d3_13) _ ?_
    show Steps p.tables e below (s₁.setTop (mkF m 14 #[.val (.long q0), .second, .val (.int p1), .val (.ref o2), .val (.ref o3), .val (.int (2 : Int32)), .val (.long q5), .second] [(.int f0), (.long x0), (.int p1), (.long q0)])) _
    refine XS.lload X0.here hx rfl (hb hby d3_14) rfl ?_
    show Steps p.tables e below (s₁.setTop (mkF m 16 #[.val (.long q0), .second, .val (.int p1), .val (.ref o2), .val (.ref o3), .val (.int (2 : Int32)), .val (.long q5), .second] [(.long q5), (.int f0), (.long x0), (.int p1), (.long q0)])) _
    refine st3 _ ?_
    exact k
  by_cases hb19 : c16_rv = (0 : Int32)
  · skip
    have c5 : ∀ t, Steps p.tables e below (T3.setTop (mkF m 96 #[.val (.long q0), .second, .val (.int p1), .val (.ref o2), .val (.ref o3), .val (.int (2 : Int32)), .val (.long q5), .second] [(.int (0 : Int32))])) t → Steps p.tables e below (s₁.setTop (entryFrame m #[(.long q0), (.int p1), (.ref o2), (.ref o3), (.int (2 : Int32)), (.long q5)] 8)) t := by
      intro t k
      refine c4 t ?_
      show Steps p.tables e below (T3.setTop (mkF m 19 #[.val (.long q0), .second, .val (.int p1), .val (.ref o2), .val (.ref o3), .val (.int (2 : Int32)), .val (.long q5), .second] [(.int c16_rv)])) _
      refine XS.ifYes X3.here hx rfl (pc0 := 19) (pc' := 95) rfl (hb hby d3_19) rfl (Jvm.Free.XT.i0_eq_t hb19) (by decide) (by decide) ?_
      show Steps p.tables e below (T3.setTop (mkF m 95 #[.val (.long q0), .second, .val (.int p1), .val (.ref o2), .val (.ref o3), .val (.int (2 : Int32)), .val (.long q5), .second] [])) _
      refine XS.iconst X3.here hx rfl (hb hby d3_95) ?_
      exact k
    obtain ⟨fs, hr, hrun, hended, hW, hsame⟩ := X3.leave (v := some (.int (0 : Int32))) (fun h => by rw [Bd.returns] at h; cases h)
    refine ⟨_, _, c5 _ ?_, hrun, hended, _, _, rfl, ?_, ⟨_, rfl⟩, hW, hsame.mono (by decide) (by decide)⟩
    · show Steps p.tables e below (T3.setTop (mkF m 96 #[.val (.long q0), .second, .val (.int p1), .val (.ref o2), .val (.ref o3), .val (.int (2 : Int32)), .val (.long q5), .second] [(.int (0 : Int32))])) _
      exact retOut X3 hx Bd.returns rfl (Or.inl ⟨rfl, by simp, _, rfl⟩) (hb hby d3_96) hr
    · show Q3_2 Z q0 p1 o2 o3 q5 k_o2 x0 x1 x2 x3 k_o3 f0 f1 f2 f3 c16_z12 c16_z14 c16_rv c39_z12 c39_z14 c39_rv rv h0 n0 _ T3.heap _
      rw [e3]
      exact ⟨(congrArg (fun z => some (Value.int z)) (show (0 : Int32) = rv by rw [← hrv]; simp only [if_pos hb19])), by first | assumption | exact N0, rfl⟩
  · skip
    obtain ⟨cl6, Ar6, -, S6, -, Ha6, -⟩ := id V_o2
    have in6 : ¬ ((1 : Int32) < 0 ∨ cl6.slots.size ≤ ((1 : Int32)).toNatClampNeg) := inb_of S6 ⟨by decide, by decide⟩
    obtain ⟨cl7, Ar7, -, S7, -, Ha7, -⟩ := id V_o3
    have in7 : ¬ ((1 : Int32) < 0 ∨ cl7.slots.size ≤ ((1 : Int32)).toNatClampNeg) := inb_of S7 ⟨by decide, by decide⟩
    obtain ⟨_, _, ⟨T8, L8, k8, n8⟩, -, X8, ⟨Lc8, hQ8, ql8, qy8, qz8⟩, st8⟩ := Jvm.LawKit.callS X3 hx (y := (⟨"com/example/credal_choice/credalchoice/criteria/ChoiceNearLargestPinLaw", "beats", "(JZJZJ)Z"⟩ : MethodName)) hown (mvT hZ (hw _ (List.mem_of_getElem? (i := 17) rfl))) (mvT hZ (hw _ (List.mem_of_getElem? (i := 18) rfl))) (mvT hZ (hw _ (List.mem_of_getElem? (i := 15) rfl))) (mvT hZ (hw _ (List.mem_of_getElem? (i := 19) rfl))) (by decide) (backOf (W := 0) (rm4 l Z a0 hw [] q0 p1 x1 f1 q5 c39_z12 c39_z14 c39_rv h0 n0 Z0 hc39_z12 hc39_z14 hc39_rv) hZ (hw _ (List.mem_of_getElem? (i := 19) rfl)) (hw _ (List.mem_of_getElem? (i := 15) rfl)) (by decide) (by decide)) (g := (mkF m 39 #[.val (.long q0), .second, .val (.int p1), .val (.ref o2), .val (.ref o3), .val (.int (2 : Int32)), .val (.long q5), .second] [(.long q5), (.int f1), (.long x1), (.int p1), (.long q0)])) rfl (by rw [hml]; rfl) (argsL := [(.long q0), (.int p1), (.long x1), (.int f1), (.long q5)]) (rest := []) (lenOf pd_1 rfl) rfl (by show 2 * 0 + _ ≤ _; exact Nat.le_of_eq rfl) (hb hby d3_39) (fun _ _ => ⟨rfl, e3, (by decide : 0 + 0 ≤ _), (by decide : 0 + 0 ≤ _)⟩)
    dsimp only [Pt.U, Pt.locs, Pt.cells, Pt.slots] at X8 ql8 qy8 qz8 st8 hQ8
    subst ql8 qy8 qz8
    obtain ⟨rfl, N8q, e8⟩ := hQ8
    have N8 := Fr.app N3 N8q
    have c9 : ∀ t, Steps p.tables e below (T8.setTop (mkF m 42 #[.val (.long q0), .second, .val (.int p1), .val (.ref o2), .val (.ref o3), .val (.int (2 : Int32)), .val (.long q5), .second] [(.int c39_rv)])) t → Steps p.tables e below (s₁.setTop (entryFrame m #[(.long q0), (.int p1), (.ref o2), (.ref o3), (.int (2 : Int32)), (.long q5)] 8)) t := by
      intro t k
      refine c4 t ?_
      show Steps p.tables e below (T3.setTop (mkF m 19 #[.val (.long q0), .second, .val (.int p1), .val (.ref o2), .val (.ref o3), .val (.int (2 : Int32)), .val (.long q5), .second] [(.int c16_rv)])) _
      refine XS.ifNo X3.here hx rfl (hb hby d3_19) rfl (Jvm.Free.XT.i0_eq_f hb19) ?_
      show Steps p.tables e below (T3.setTop (mkF m 22 #[.val (.long q0), .second, .val (.int p1), .val (.ref o2), .val (.ref o3), .val (.int (2 : Int32)), .val (.long q5), .second] [])) _
      refine XS.iload X3.here hx rfl (hb hby d3_22) rfl ?_
      show Steps p.tables e below (T3.setTop (mkF m 24 #[.val (.long q0), .second, .val (.int p1), .val (.ref o2), .val (.ref o3), .val (.int (2 : Int32)), .val (.long q5), .second] [(.int (2 : Int32))])) _
      refine XS.iconst X3.here hx rfl (hb hby d3_24) ?_
      show Steps p.tables e below (T3.setTop (mkF m 25 #[.val (.long q0), .second, .val (.int p1), .val (.ref o2), .val (.ref o3), .val (.int (2 : Int32)), .val (.long q5), .second] [(.int (1 : Int32)), (.int (2 : Int32))])) _
      refine XS.icmpNo X3.here hx rfl (hb hby d3_25) rfl (Jvm.Free.XT.ii_le_f (by decide)) ?_
      show Steps p.tables e below (T3.setTop (mkF m 28 #[.val (.long q0), .second, .val (.int p1), .val (.ref o2), .val (.ref o3), .val (.int (2 : Int32)), .val (.long q5), .second] [])) _
      refine XS.lloadN X3.here hx rfl (hb hby d3_28) rfl ?_
      show Steps p.tables e below (T3.setTop (mkF m 29 #[.val (.long q0), .second, .val (.int p1), .val (.ref o2), .val (.ref o3), .val (.int (2 : Int32)), .val (.long q5), .second] [(.long q0)])) _
      refine XS.iloadN X3.here hx rfl (hb hby d3_29) rfl ?_
      show Steps p.tables e below (T3.setTop (mkF m 30 #[.val (.long q0), .second, .val (.int p1), .val (.ref o2), .val (.ref o3), .val (.int (2 : Int32)), .val (.long q5), .second] [(.int p1), (.long q0)])) _
      refine XS.aloadN X3.here hx rfl (hb hby d3_30) rfl rfl ?_
      show Steps p.tables e below (T3.setTop (mkF m 31 #[.val (.long q0), .second, .val (.int p1), .val (.ref o2), .val (.ref o3), .val (.int (2 : Int32)), .val (.long q5), .second] [(.ref o2), (.int p1), (.long q0)])) _
      refine XS.iconst X3.here hx rfl (hb hby d3_31) ?_
      show Steps p.tables e below (T3.setTop (mkF m 32 #[.val (.long q0), .second, .val (.int p1), .val (.ref o2), .val (.ref o3), .val (.int (2 : Int32)), .val (.long q5), .second] [(.int (1 : Int32)), (.ref o2), (.int p1), (.long q0)])) _
      refine X3.laload hx (j := (1 : Int32)) (v := (.long x1)) (by rw [e3]; exact Ar6.1) (State.isArrayOf_alike hZ.alike Ar6.2.1) Ar6.2.2 in6 (Has.at Ha6 in6 rfl) (g := (mkF m 32 #[.val (.long q0), .second, .val (.int p1), .val (.ref o2), .val (.ref o3), .val (.int (2 : Int32)), .val (.long q5), .second] [(.int (1 : Int32)), (.ref o2), (.int p1), (.long q0)])) rfl rfl (hb hby d3_32) _ ?_
      show Steps p.tables e below (T3.setTop (mkF m 33 #[.val (.long q0), .second, .val (.int p1), .val (.ref o2), .val (.ref o3), .val (.int (2 : Int32)), .val (.long q5), .second] [(.long x1), (.int p1), (.long q0)])) _
      refine XS.aload X3.here hx rfl (hb hby d3_33) rfl rfl ?_
      show Steps p.tables e below (T3.setTop (mkF m 35 #[.val (.long q0), .second, .val (.int p1), .val (.ref o2), .val (.ref o3), .val (.int (2 : Int32)), .val (.long q5), .second] [(.ref o3), (.long x1), (.int p1), (.long q0)])) _
      refine XS.iconst X3.here hx rfl (hb hby d3_35) ?_
      show Steps p.tables e below (T3.setTop (mkF m 36 #[.val (.long q0), .second, .val (.int p1), .val (.ref o2), .val (.ref o3), .val (.int (2 : Int32)), .val (.long q5), .second] [(.int (1 : Int32)), (.ref o3), (.long x1), (.int p1), (.long q0)])) _
      refine X3.baloadBooleans hx (j := (1 : Int32)) (v := (.int f1)) (by rw [e3]; exact Ar7.1) (State.isArrayOf_alike hZ.alike Ar7.2.1) Ar7.2.2 in7 (Has.at Ha7 in7 rfl) (g := (mkF m 36 #[.val (.long q0), .second, .val (.int p1), .val (.ref o2), .val (.ref o3), .val (.int (2 : Int32)), .val (.long q5), .second] [(.int (1 : Int32)), (.ref o3), (.long x1), (.int p1), (.long q0)])) rfl rfl (hb hby d3_36) _ ?_
      show Steps p.tables e below (T3.setTop (mkF m 37 #[.val (.long q0), .second, .val (.int p1), .val (.ref o2), .val (.ref o3), .val (.int (2 : Int32)), .val (.long q5), .second] [(.int f1), (.long x1), (.int p1), (.long q0)])) _
      refine XS.lload X3.here hx rfl (hb hby d3_37) rfl ?_
      show Steps p.tables e below (T3.setTop (mkF m 39 #[.val (.long q0), .second, .val (.int p1), .val (.ref o2), .val (.ref o3), .val (.int (2 : Int32)), .val (.long q5), .second] [(.long q5), (.int f1), (.long x1), (.int p1), (.long q0)])) _
      refine st8 _ ?_
      exact k
    by_cases hb42 : c39_rv = (0 : Int32)
    · skip
      have c10 : ∀ t, Steps p.tables e below (T8.setTop (mkF m 96 #[.val (.long q0), .second, .val (.int p1), .val (.ref o2), .val (.ref o3), .val (.int (2 : Int32)), .val (.long q5), .second] [(.int (0 : Int32))])) t → Steps p.tables e below (s₁.setTop (entryFrame m #[(.long q0), (.int p1), (.ref o2), (.ref o3), (.int (2 : Int32)), (.long q5)] 8)) t := by
        intro t k
        refine c9 t ?_
        show Steps p.tables e below (T8.setTop (mkF m 42 #[.val (.long q0), .second, .val (.int p1), .val (.ref o2), .val (.ref o3), .val (.int (2 : Int32)), .val (.long q5), .second] [(.int c39_rv)])) _
        refine XS.ifYes X8.here hx rfl (pc0 := 42) (pc' := 95) rfl (hb hby d3_42) rfl (Jvm.Free.XT.i0_eq_t hb42) (by decide) (by decide) ?_
        show Steps p.tables e below (T8.setTop (mkF m 95 #[.val (.long q0), .second, .val (.int p1), .val (.ref o2), .val (.ref o3), .val (.int (2 : Int32)), .val (.long q5), .second] [])) _
        refine XS.iconst X8.here hx rfl (hb hby d3_95) ?_
        exact k
      obtain ⟨fs, hr, hrun, hended, hW, hsame⟩ := X8.leave (v := some (.int (0 : Int32))) (fun h => by rw [Bd.returns] at h; cases h)
      refine ⟨_, _, c10 _ ?_, hrun, hended, _, _, rfl, ?_, ⟨_, rfl⟩, hW, hsame.mono (by decide) (by decide)⟩
      · show Steps p.tables e below (T8.setTop (mkF m 96 #[.val (.long q0), .second, .val (.int p1), .val (.ref o2), .val (.ref o3), .val (.int (2 : Int32)), .val (.long q5), .second] [(.int (0 : Int32))])) _
        exact retOut X8 hx Bd.returns rfl (Or.inl ⟨rfl, by simp, _, rfl⟩) (hb hby d3_96) hr
      · show Q3_2 Z q0 p1 o2 o3 q5 k_o2 x0 x1 x2 x3 k_o3 f0 f1 f2 f3 c16_z12 c16_z14 c16_rv c39_z12 c39_z14 c39_rv rv h0 n0 _ T8.heap _
        rw [e8]
        exact ⟨(congrArg (fun z => some (Value.int z)) (show (0 : Int32) = rv by rw [← hrv]; simp only [if_neg hb19, if_pos hb42])), by first | assumption | exact N0, rfl⟩
    · skip
      have c11 : ∀ t, Steps p.tables e below (T8.setTop (mkF m 96 #[.val (.long q0), .second, .val (.int p1), .val (.ref o2), .val (.ref o3), .val (.int (2 : Int32)), .val (.long q5), .second] [(.int (1 : Int32))])) t → Steps p.tables e below (s₁.setTop (entryFrame m #[(.long q0), (.int p1), (.ref o2), (.ref o3), (.int (2 : Int32)), (.long q5)] 8)) t := by
        intro t k
        refine c9 t ?_
        show Steps p.tables e below (T8.setTop (mkF m 42 #[.val (.long q0), .second, .val (.int p1), .val (.ref o2), .val (.ref o3), .val (.int (2 : Int32)), .val (.long q5), .second] [(.int c39_rv)])) _
        refine XS.ifNo X8.here hx rfl (hb hby d3_42) rfl (Jvm.Free.XT.i0_eq_f hb42) ?_
        show Steps p.tables e below (T8.setTop (mkF m 45 #[.val (.long q0), .second, .val (.int p1), .val (.ref o2), .val (.ref o3), .val (.int (2 : Int32)), .val (.long q5), .second] [])) _
        refine XS.iload X8.here hx rfl (hb hby d3_45) rfl ?_
        show Steps p.tables e below (T8.setTop (mkF m 47 #[.val (.long q0), .second, .val (.int p1), .val (.ref o2), .val (.ref o3), .val (.int (2 : Int32)), .val (.long q5), .second] [(.int (2 : Int32))])) _
        refine XS.iconst X8.here hx rfl (hb hby d3_47) ?_
        show Steps p.tables e below (T8.setTop (mkF m 48 #[.val (.long q0), .second, .val (.int p1), .val (.ref o2), .val (.ref o3), .val (.int (2 : Int32)), .val (.long q5), .second] [(.int (2 : Int32)), (.int (2 : Int32))])) _
        refine XS.icmpYes X8.here hx rfl (pc0 := 48) (pc' := 68) rfl (hb hby d3_48) rfl (Jvm.Free.XT.ii_le_t (by decide)) (by decide) (by decide) ?_
        show Steps p.tables e below (T8.setTop (mkF m 68 #[.val (.long q0), .second, .val (.int p1), .val (.ref o2), .val (.ref o3), .val (.int (2 : Int32)), .val (.long q5), .second] [])) _
        refine XS.iload X8.here hx rfl (hb hby d3_68) rfl ?_
        show Steps p.tables e below (T8.setTop (mkF m 70 #[.val (.long q0), .second, .val (.int p1), .val (.ref o2), .val (.ref o3), .val (.int (2 : Int32)), .val (.long q5), .second] [(.int (2 : Int32))])) _
        refine XS.iconst X8.here hx rfl (hb hby d3_70) ?_
        show Steps p.tables e below (T8.setTop (mkF m 71 #[.val (.long q0), .second, .val (.int p1), .val (.ref o2), .val (.ref o3), .val (.int (2 : Int32)), .val (.long q5), .second] [(.int (3 : Int32)), (.int (2 : Int32))])) _
        refine XS.icmpYes X8.here hx rfl (pc0 := 71) (pc' := 91) rfl (hb hby d3_71) rfl (Jvm.Free.XT.ii_le_t (by decide)) (by decide) (by decide) ?_
        show Steps p.tables e below (T8.setTop (mkF m 91 #[.val (.long q0), .second, .val (.int p1), .val (.ref o2), .val (.ref o3), .val (.int (2 : Int32)), .val (.long q5), .second] [])) _
        refine XS.iconst X8.here hx rfl (hb hby d3_91) ?_
        show Steps p.tables e below (T8.setTop (mkF m 92 #[.val (.long q0), .second, .val (.int p1), .val (.ref o2), .val (.ref o3), .val (.int (2 : Int32)), .val (.long q5), .second] [(.int (1 : Int32))])) _
        refine XS.goto X8.here hx rfl (pc0 := 92) (pc' := 96) rfl (hb hby d3_92) (by decide) (by decide) ?_
        exact k
      obtain ⟨fs, hr, hrun, hended, hW, hsame⟩ := X8.leave (v := some (.int (1 : Int32))) (fun h => by rw [Bd.returns] at h; cases h)
      refine ⟨_, _, c11 _ ?_, hrun, hended, _, _, rfl, ?_, ⟨_, rfl⟩, hW, hsame.mono (by decide) (by decide)⟩
      · show Steps p.tables e below (T8.setTop (mkF m 96 #[.val (.long q0), .second, .val (.int p1), .val (.ref o2), .val (.ref o3), .val (.int (2 : Int32)), .val (.long q5), .second] [(.int (1 : Int32))])) _
        exact retOut X8 hx Bd.returns rfl (Or.inl ⟨rfl, by simp, _, rfl⟩) (hb hby d3_96) hr
      · show Q3_2 Z q0 p1 o2 o3 q5 k_o2 x0 x1 x2 x3 k_o3 f0 f1 f2 f3 c16_z12 c16_z14 c16_rv c39_z12 c39_z14 c39_rv rv h0 n0 _ T8.heap _
        rw [e8]
        exact ⟨(congrArg (fun z => some (Value.int z)) (show (1 : Int32) = rv by rw [← hrv]; simp only [if_neg hb19, if_neg hb42])), by first | assumption | exact N0, rfl⟩
def Q1_3 (Z : State) (o0 : Addr) (d1 : UInt64) (k_o0 : ClassId) (y0 : UInt64) (y1 : UInt64) (y2 : UInt64) (z32 : UInt64) (z32_2 : UInt64) (z32_3 : UInt64) (z68 : UInt64) (z69 : Int32) (m70_s0 : Int32) (z68_2 : UInt64) (z69_2 : Int32) (m70_s0_2 : Int32) (z68_3 : UInt64) (z69_3 : Int32) (m70_s0_3 : Int32) (h0 : Heap) (n0 : Nat) (v : Option Value) (h : Heap) (L : List Loc) : Prop := ∃ b9 : Addr, ∃ k9 : ClassId, v = some (.ref b9) ∧ Fr n0 L ∧ h0.size ≤ b9 ∧ Keep h0 h [] ∧ Arv Z h b9 k9 .boolean (3 : Int32) [(.int m70_s0), (.int m70_s0_2), (.int m70_s0_3)] (.int (0 : Int32))
set_option maxRecDepth 65536 in
set_option maxHeartbeats 40000000 in
theorem rm1_3 (l : Launch) (Z : State) (a0 : Array Value) (hw : ∀ d ∈ tables_1, d.before a0 Z = true) (ws : List Jvm.Cond) (o0 : Addr) (d1 : UInt64) (k_o0 : ClassId) (y0 : UInt64) (y1 : UInt64) (y2 : UInt64) (z32 : UInt64) (z32_2 : UInt64) (z32_3 : UInt64) (z68 : UInt64) (z69 : Int32) (m70_s0 : Int32) (z68_2 : UInt64) (z69_2 : Int32) (m70_s0_2 : Int32) (z68_3 : UInt64) (z69_3 : Int32) (m70_s0_3 : Int32) (h0 : Heap) (n0 : Nat) (Z0 : n0 ≤ h0.size) (V_o0 : Arv Z h0 o0 k_o0 .double (3 : Int32) [(.double y0), (.double y1), (.double y2)] (.double (0 : UInt64))) (hz32 : Jvm.Native.java_lang_Math.nans.pick64 true (18442240474082181120 : UInt64) y0 = z32) (hz32_2 : Jvm.Native.java_lang_Math.nans.pick64 true z32 y1 = z32_2) (hz32_3 : Jvm.Native.java_lang_Math.nans.pick64 true z32_2 y2 = z32_3) (hz68 : FP.dsub z32_3 d1 = z68) (hz69 : cmpValue (FP.dcmp y0 z68) .l = z69) (hm70_s0 : (if z69 < (0 : Int32) then (0 : Int32) else (1 : Int32)) = m70_s0) (hz68_2 : FP.dsub z32_3 d1 = z68_2) (hz69_2 : cmpValue (FP.dcmp y1 z68_2) .l = z69_2) (hm70_s0_2 : (if z69_2 < (0 : Int32) then (0 : Int32) else (1 : Int32)) = m70_s0_2) (hz68_3 : FP.dsub z32_3 d1 = z68_3) (hz69_3 : cmpValue (FP.dcmp y2 z68_3) .l = z69_3) (hm70_s0_3 : (if z69_3 < (0 : Int32) then (0 : Int32) else (1 : Int32)) = m70_s0_3) (nm0_32 : Jvm.Free.Fl.NoNaN64 (18442240474082181120 : UInt64)) (nm1_32 : Jvm.Free.Fl.NoNaN64 y0) (nm0_32_2 : Jvm.Free.Fl.NoNaN64 z32) (nm1_32_2 : Jvm.Free.Fl.NoNaN64 y1) (nm0_32_3 : Jvm.Free.Fl.NoNaN64 z32_2) (nm1_32_3 : Jvm.Free.Fl.NoNaN64 y2) (nn68 : Jvm.Free.Fl.NoNaN64 z68) (nb78 : nar .boolean m70_s0 = m70_s0) (fi78 : fits .boolean (.int m70_s0) = true) (nn68_2 : Jvm.Free.Fl.NoNaN64 z68_2) (nb78_2 : nar .boolean m70_s0_2 = m70_s0_2) (fi78_2 : fits .boolean (.int m70_s0_2) = true) (nn68_3 : Jvm.Free.Fl.NoNaN64 z68_3) (nb78_3 : nar .boolean m70_s0_3 = m70_s0_3) (fi78_3 : fits .boolean (.int m70_s0_3) = true) :
    MetFree l (⟨"com/example/credal_choice/credalchoice/criteria/Choice", "nearLargest", "([DD)[Z"⟩ : MethodName) (head1 (Jvm.Cond.code (⟨"com/example/credal_choice/credalchoice/criteria/Choice", "nearLargest", "([DD)[Z"⟩ : MethodName) prog_5_method_6_code 10 (some (.array .boolean)) :: ws) ({ frames := 1, cells := 1, slots := 3, locals := 15 } : Room)) (fun a U => a = #[(.ref o0), (.double d1)] ∧ Z.Warmed39 U.vm ∧ U.heap = h0) (fun _ _ _ _ _ => True) (fun _ U o U' => ∃ v L, o = .returned v ∧ Q1_3 Z o0 d1 k_o0 y0 y1 y2 z32 z32_2 z32_3 z68 z69 m70_s0 z68_2 z69_2 m70_s0_2 z68_3 z69_3 m70_s0_3 h0 n0 v U'.heap L ∧ FrameEnd U o U' L ({ frames := 1, cells := 1, slots := 3, locals := 15 } : Room).cells ({ frames := 1, cells := 1, slots := 3, locals := 15 } : Room).slots) := by
  refine MetFree.of_bodySF (plainFor_of_name pn_1) hisR ?_
  intro p e s m args below meth c s₁ Bd hml0 hP hK
  obtain ⟨rfl, hZ, hh⟩ := hP
  have hx := Bd.exec
  have hby := Bd.bytes
  have hml : c.maxLocals = 10 := hml0
  have hown : s.vm.findClass "com/example/credal_choice/credalchoice/criteria/Choice" = some m.cls := findClass_of_methodNamed Bd.named
  have hnm := (name_of_methodNamed Bd.named Bd.method).1
  have X0 : Stand p l e ({ frames := 1, cells := 1, slots := 3, locals := 15 } : Room) s m #[(.ref o0), (.double d1)] below meth c s₁ [] 0 0 := Stand.of_body Bd
  have e0 : s₁.heap = h0 := by rw [← hh, Bd.state]; rfl
  have N0 := Fr.nil n0
  have c0 : ∀ t, Steps p.tables e below (s₁.setTop (mkF m 0 #[.val (.ref o0), .val (.double d1), .second, .unset, .unset, .unset, .unset, .unset, .unset, .unset] [])) t → Steps p.tables e below (s₁.setTop (entryFrame m #[(.ref o0), (.double d1)] 10)) t := fun t k => castTop (ef_rm1_3 m o0 d1) k
  obtain ⟨cl1, Ar1, -, S1, Nn1, -, -⟩ := id V_o0
  obtain ⟨cl2, Ar2, -, S2, -, Ha2, -⟩ := id V_o0
  have in2 : ¬ ((0 : Int32) < 0 ∨ cl2.slots.size ≤ ((0 : Int32)).toNatClampNeg) := inb_of S2 ⟨by decide, by decide⟩
  obtain ⟨T3, X3, e3, st3⟩ := natS X0 hx hZ (y := (⟨"java/lang/Math", "max", "(DD)D"⟩ : MethodName)) hown (hw _ (List.mem_of_getElem? (i := 9) rfl)) (hw _ (List.mem_of_getElem? (i := 10) rfl)) (hw _ (List.mem_of_getElem? (i := 11) rfl)) (hw _ (List.mem_of_getElem? (i := 12) rfl)) (by decide) e0 (W := 0) (fun hq => Jvm.Free.Fl.Abs.maxD_pays (18442240474082181120 : UInt64) y0 hq (by decide) (by decide)) (g := (mkF m 32 #[.val (.ref o0), .val (.double d1), .second, .val (.double (18442240474082181120 : UInt64)), .second, .val (.ref o0), .val (.int (3 : Int32)), .val (.int (0 : Int32)), .val (.double y0), .second] [(.double y0), (.double (18442240474082181120 : UInt64))])) rfl (by rw [hml]; rfl) (argsL := [(.double (18442240474082181120 : UInt64)), (.double y0)]) (rest := []) (lenOf pd_0 rfl) rfl (by show 2 * 0 + _ ≤ _; exact Nat.le_of_eq rfl) (hb hby d1_32) (by decide) (by decide) ⟨rfl, nm0_32, nm1_32⟩ (congrArg Value.double hz32)
  obtain ⟨cl4, Ar4, -, S4, -, Ha4, -⟩ := id V_o0
  have in4 : ¬ ((1 : Int32) < 0 ∨ cl4.slots.size ≤ ((1 : Int32)).toNatClampNeg) := inb_of S4 ⟨by decide, by decide⟩
  obtain ⟨T5, X5, e5, st5⟩ := natS X3 hx hZ (y := (⟨"java/lang/Math", "max", "(DD)D"⟩ : MethodName)) hown (hw _ (List.mem_of_getElem? (i := 9) rfl)) (hw _ (List.mem_of_getElem? (i := 10) rfl)) (hw _ (List.mem_of_getElem? (i := 11) rfl)) (hw _ (List.mem_of_getElem? (i := 12) rfl)) (by decide) e3 (W := 0) (fun hq => Jvm.Free.Fl.Abs.maxD_pays z32 y1 hq (by decide) (by decide)) (g := (mkF m 32 #[.val (.ref o0), .val (.double d1), .second, .val (.double z32), .second, .val (.ref o0), .val (.int (3 : Int32)), .val (.int (1 : Int32)), .val (.double y1), .second] [(.double y1), (.double z32)])) rfl (by rw [hml]; rfl) (argsL := [(.double z32), (.double y1)]) (rest := []) (lenOf pd_0 rfl) rfl (by show 2 * 0 + _ ≤ _; exact Nat.le_of_eq rfl) (hb hby d1_32) (by decide) (by decide) ⟨rfl, nm0_32_2, nm1_32_2⟩ (congrArg Value.double hz32_2)
  obtain ⟨cl6, Ar6, -, S6, -, Ha6, -⟩ := id V_o0
  have in6 : ¬ ((2 : Int32) < 0 ∨ cl6.slots.size ≤ ((2 : Int32)).toNatClampNeg) := inb_of S6 ⟨by decide, by decide⟩
  obtain ⟨T7, X7, e7, st7⟩ := natS X5 hx hZ (y := (⟨"java/lang/Math", "max", "(DD)D"⟩ : MethodName)) hown (hw _ (List.mem_of_getElem? (i := 9) rfl)) (hw _ (List.mem_of_getElem? (i := 10) rfl)) (hw _ (List.mem_of_getElem? (i := 11) rfl)) (hw _ (List.mem_of_getElem? (i := 12) rfl)) (by decide) e5 (W := 0) (fun hq => Jvm.Free.Fl.Abs.maxD_pays z32_2 y2 hq (by decide) (by decide)) (g := (mkF m 32 #[.val (.ref o0), .val (.double d1), .second, .val (.double z32_2), .second, .val (.ref o0), .val (.int (3 : Int32)), .val (.int (2 : Int32)), .val (.double y2), .second] [(.double y2), (.double z32_2)])) rfl (by rw [hml]; rfl) (argsL := [(.double z32_2), (.double y2)]) (rest := []) (lenOf pd_0 rfl) rfl (by show 2 * 0 + _ ≤ _; exact Nat.le_of_eq rfl) (hb hby d1_32) (by decide) (by decide) ⟨rfl, nm0_32_3, nm1_32_3⟩ (congrArg Value.double hz32_3)
  obtain ⟨cl8, Ar8, -, S8, Nn8, -, -⟩ := id V_o0
  obtain ⟨T9, h9, k9, X9, e9, E9, A9, st9⟩ := newP X7 hx hZ (hw _ (List.mem_of_getElem? (i := 2) rfl)) e7 (g := (mkF m 44 #[.val (.ref o0), .val (.double d1), .second, .val (.double z32_3), .second, .val (.ref o0), .val (.int (3 : Int32)), .val (.int (3 : Int32)), .val (.double y2), .second] [(.int (3 : Int32))])) rfl (hb hby d1_44) rfl (by decide) (cap := 3) (by decide) (by decide) (by decide) (by decide)
  obtain ⟨b9, g9⟩ : ∃ z, z = h0.size := ⟨_, rfl⟩
  rw [← g9] at A9 st9
  have gn9 : n0 ≤ b9 := Nat.le_trans Z0 (Nat.le_of_eq g9.symm)
  have gz9 : h0.size ≤ b9 := Nat.le_trans ((Keep.refl h0 [])).1 (Nat.le_of_eq g9.symm)
  have K10 : Keep h0 h9 [] := (Keep.refl h0 []).ext E9
  have V9 : Arv Z h9 b9 k9 .boolean (3 : Int32) [(.int (0 : Int32)), (.int (0 : Int32)), (.int (0 : Int32))] (.int (0 : Int32)) := (Arv.new A9 (by decide)).pad (pad_rep [] (.int (0 : Int32)) 3)
  have f11 := (V_o0.ext E9)
  obtain ⟨cl12, Ar12, -, S12, Nn12, -, -⟩ := id f11
  obtain ⟨cl13, Ar13, -, S13, -, Ha13, -⟩ := id f11
  have in13 : ¬ ((0 : Int32) < 0 ∨ cl13.slots.size ≤ ((0 : Int32)).toNatClampNeg) := inb_of S13 ⟨by decide, by decide⟩
  have c14 : ∀ t, Steps p.tables e below (T9.setTop (mkF m 78 #[.val (.ref o0), .val (.double d1), .second, .val (.double z32_3), .second, .val (.ref b9), .val (.int (0 : Int32)), .val (.int (3 : Int32)), .val (.double y2), .second] [(.int m70_s0), (.int (0 : Int32)), (.ref b9)])) t → Steps p.tables e below (s₁.setTop (entryFrame m #[(.ref o0), (.double d1)] 10)) t := by
    intro t k
    refine c0 t ?_
    show Steps p.tables e below (s₁.setTop (mkF m 0 #[.val (.ref o0), .val (.double d1), .second, .unset, .unset, .unset, .unset, .unset, .unset, .unset] [])) _
    refine X0.ldc2DoubleC hx hown (mvT hZ (hw _ (List.mem_of_getElem? (i := 8) rfl))) (g := (mkF m 0 #[.val (.ref o0), .val (.double d1), .second, .unset, .unset, .unset, .unset, .unset, .unset, .unset] [])) rfl (hb hby d1_0) _ ?_
    show Steps p.tables e below (s₁.setTop (mkF m 3 #[.val (.ref o0), .val (.double d1), .second, .unset, .unset, .unset, .unset, .unset, .unset, .unset] [(.double (18442240474082181120 : UInt64))])) _
    refine XS.dstoreN X0.here hx rfl (hb hby d1_3) rfl (l' := #[.val (.ref o0), .val (.double d1), .second, .val (.double (18442240474082181120 : UInt64)), .second, .unset, .unset, .unset, .unset, .unset]) rfl ?_
    show Steps p.tables e below (s₁.setTop (mkF m 4 #[.val (.ref o0), .val (.double d1), .second, .val (.double (18442240474082181120 : UInt64)), .second, .unset, .unset, .unset, .unset, .unset] [])) _
    refine XS.aloadN X0.here hx rfl (hb hby d1_4) rfl rfl ?_
    show Steps p.tables e below (s₁.setTop (mkF m 5 #[.val (.ref o0), .val (.double d1), .second, .val (.double (18442240474082181120 : UInt64)), .second, .unset, .unset, .unset, .unset, .unset] [(.ref o0)])) _
    refine XS.astore X0.here hx rfl (hb hby d1_5) rfl rfl (l' := #[.val (.ref o0), .val (.double d1), .second, .val (.double (18442240474082181120 : UInt64)), .second, .val (.ref o0), .unset, .unset, .unset, .unset]) rfl ?_
    show Steps p.tables e below (s₁.setTop (mkF m 7 #[.val (.ref o0), .val (.double d1), .second, .val (.double (18442240474082181120 : UInt64)), .second, .val (.ref o0), .unset, .unset, .unset, .unset] [])) _
    refine XS.aload X0.here hx rfl (hb hby d1_7) rfl rfl ?_
    show Steps p.tables e below (s₁.setTop (mkF m 9 #[.val (.ref o0), .val (.double d1), .second, .val (.double (18442240474082181120 : UInt64)), .second, .val (.ref o0), .unset, .unset, .unset, .unset] [(.ref o0)])) _
    refine X0.arraylength hx (by rw [e0]; exact Ar1.1) (State.isArrayOf_alike hZ.alike Ar1.2.1) (g := (mkF m 9 #[.val (.ref o0), .val (.double d1), .second, .val (.double (18442240474082181120 : UInt64)), .second, .val (.ref o0), .unset, .unset, .unset, .unset] [(.ref o0)])) rfl rfl (hb hby d1_9) _ ?_
    rw [len_of S1 Nn1]
    show Steps p.tables e below (s₁.setTop (mkF m 10 #[.val (.ref o0), .val (.double d1), .second, .val (.double (18442240474082181120 : UInt64)), .second, .val (.ref o0), .unset, .unset, .unset, .unset] [(.int (3 : Int32))])) _
    refine XS.istore X0.here hx rfl (hb hby d1_10) rfl (l' := #[.val (.ref o0), .val (.double d1), .second, .val (.double (18442240474082181120 : UInt64)), .second, .val (.ref o0), .val (.int (3 : Int32)), .unset, .unset, .unset]) rfl ?_
    show Steps p.tables e below (s₁.setTop (mkF m 12 #[.val (.ref o0), .val (.double d1), .second, .val (.double (18442240474082181120 : UInt64)), .second, .val (.ref o0), .val (.int (3 : Int32)), .unset, .unset, .unset] [])) _
    refine XS.iconst X0.here hx rfl (hb hby d1_12) ?_
    show Steps p.tables e below (s₁.setTop (mkF m 13 #[.val (.ref o0), .val (.double d1), .second, .val (.double (18442240474082181120 : UInt64)), .second, .val (.ref o0), .val (.int (3 : Int32)), .unset, .unset, .unset] [(.int (0 : Int32))])) _
    refine XS.istore X0.here hx rfl (hb hby d1_13) rfl (l' := #[.val (.ref o0), .val (.double d1), .second, .val (.double (18442240474082181120 : UInt64)), .second, .val (.ref o0), .val (.int (3 : Int32)), .val (.int (0 : Int32)), .unset, .unset]) rfl ?_
    show Steps p.tables e below (s₁.setTop (mkF m 15 #[.val (.ref o0), .val (.double d1), .second, .val (.double (18442240474082181120 : UInt64)), .second, .val (.ref o0), .val (.int (3 : Int32)), .val (.int (0 : Int32)), .unset, .unset] [])) _
    refine XS.iload X0.here hx rfl (hb hby d1_15) rfl ?_
    show Steps p.tables e below (s₁.setTop (mkF m 17 #[.val (.ref o0), .val (.double d1), .second, .val (.double (18442240474082181120 : UInt64)), .second, .val (.ref o0), .val (.int (3 : Int32)), .val (.int (0 : Int32)), .unset, .unset] [(.int (0 : Int32))])) _
    refine XS.iload X0.here hx rfl (hb hby d1_17) rfl ?_
    show Steps p.tables e below (s₁.setTop (mkF m 19 #[.val (.ref o0), .val (.double d1), .second, .val (.double (18442240474082181120 : UInt64)), .second, .val (.ref o0), .val (.int (3 : Int32)), .val (.int (0 : Int32)), .unset, .unset] [(.int (3 : Int32)), (.int (0 : Int32))])) _
    refine XS.icmpNo X0.here hx rfl (hb hby d1_19) rfl (Jvm.Free.XT.ii_ge_f (by decide)) ?_
    show Steps p.tables e below (s₁.setTop (mkF m 22 #[.val (.ref o0), .val (.double d1), .second, .val (.double (18442240474082181120 : UInt64)), .second, .val (.ref o0), .val (.int (3 : Int32)), .val (.int (0 : Int32)), .unset, .unset] [])) _
    refine XS.aload X0.here hx rfl (hb hby d1_22) rfl rfl ?_
    show Steps p.tables e below (s₁.setTop (mkF m 24 #[.val (.ref o0), .val (.double d1), .second, .val (.double (18442240474082181120 : UInt64)), .second, .val (.ref o0), .val (.int (3 : Int32)), .val (.int (0 : Int32)), .unset, .unset] [(.ref o0)])) _
    refine XS.iload X0.here hx rfl (hb hby d1_24) rfl ?_
    show Steps p.tables e below (s₁.setTop (mkF m 26 #[.val (.ref o0), .val (.double d1), .second, .val (.double (18442240474082181120 : UInt64)), .second, .val (.ref o0), .val (.int (3 : Int32)), .val (.int (0 : Int32)), .unset, .unset] [(.int (0 : Int32)), (.ref o0)])) _
    refine X0.daload hx (j := (0 : Int32)) (v := (.double y0)) (by rw [e0]; exact Ar2.1) (State.isArrayOf_alike hZ.alike Ar2.2.1) Ar2.2.2 in2 (Has.at Ha2 in2 rfl) (g := (mkF m 26 #[.val (.ref o0), .val (.double d1), .second, .val (.double (18442240474082181120 : UInt64)), .second, .val (.ref o0), .val (.int (3 : Int32)), .val (.int (0 : Int32)), .unset, .unset] [(.int (0 : Int32)), (.ref o0)])) rfl rfl (hb hby d1_26) _ ?_
    show Steps p.tables e below (s₁.setTop (mkF m 27 #[.val (.ref o0), .val (.double d1), .second, .val (.double (18442240474082181120 : UInt64)), .second, .val (.ref o0), .val (.int (3 : Int32)), .val (.int (0 : Int32)), .unset, .unset] [(.double y0)])) _
    refine XS.dstore X0.here hx rfl (hb hby d1_27) rfl (l' := #[.val (.ref o0), .val (.double d1), .second, .val (.double (18442240474082181120 : UInt64)), .second, .val (.ref o0), .val (.int (3 : Int32)), .val (.int (0 : Int32)), .val (.double y0), .second]) rfl ?_
    show Steps p.tables e below (s₁.setTop (mkF m 29 #[.val (.ref o0), .val (.double d1), .second, .val (.double (18442240474082181120 : UInt64)), .second, .val (.ref o0), .val (.int (3 : Int32)), .val (.int (0 : Int32)), .val (.double y0), .second] [])) _
    refine XS.dloadN X0.here hx rfl (hb hby d1_29) rfl ?_
    show Steps p.tables e below (s₁.setTop (mkF m 30 #[.val (.ref o0), .val (.double d1), .second, .val (.double (18442240474082181120 : UInt64)), .second, .val (.ref o0), .val (.int (3 : Int32)), .val (.int (0 : Int32)), .val (.double y0), .second] [(.double (18442240474082181120 : UInt64))])) _
    refine XS.dload X0.here hx rfl (hb hby d1_30) rfl ?_
    show Steps p.tables e below (s₁.setTop (mkF m 32 #[.val (.ref o0), .val (.double d1), .second, .val (.double (18442240474082181120 : UInt64)), .second, .val (.ref o0), .val (.int (3 : Int32)), .val (.int (0 : Int32)), .val (.double y0), .second] [(.double y0), (.double (18442240474082181120 : UInt64))])) _
    refine st3 _ ?_
    show Steps p.tables e below (T3.setTop (mkF m 35 #[.val (.ref o0), .val (.double d1), .second, .val (.double (18442240474082181120 : UInt64)), .second, .val (.ref o0), .val (.int (3 : Int32)), .val (.int (0 : Int32)), .val (.double y0), .second] [(.double z32)])) _
    refine XS.dstoreN X3.here hx rfl (hb hby d1_35) rfl (l' := #[.val (.ref o0), .val (.double d1), .second, .val (.double z32), .second, .val (.ref o0), .val (.int (3 : Int32)), .val (.int (0 : Int32)), .val (.double y0), .second]) rfl ?_
    show Steps p.tables e below (T3.setTop (mkF m 36 #[.val (.ref o0), .val (.double d1), .second, .val (.double z32), .second, .val (.ref o0), .val (.int (3 : Int32)), .val (.int (0 : Int32)), .val (.double y0), .second] [])) _
    refine Jvm.OwnK.iinc X3.here hx rfl (hb hby d1_36) rfl (l' := #[.val (.ref o0), .val (.double d1), .second, .val (.double z32), .second, .val (.ref o0), .val (.int (3 : Int32)), .val (.int (1 : Int32)), .val (.double y0), .second]) (v := (1 : Int32)) (by decide) rfl ?_
    show Steps p.tables e below (T3.setTop (mkF m 39 #[.val (.ref o0), .val (.double d1), .second, .val (.double z32), .second, .val (.ref o0), .val (.int (3 : Int32)), .val (.int (1 : Int32)), .val (.double y0), .second] [])) _
    refine XS.goto X3.here hx rfl (pc0 := 39) (pc' := 15) rfl (hb hby d1_39) (by decide) (by decide) ?_
    show Steps p.tables e below (T3.setTop (mkF m 15 #[.val (.ref o0), .val (.double d1), .second, .val (.double z32), .second, .val (.ref o0), .val (.int (3 : Int32)), .val (.int (1 : Int32)), .val (.double y0), .second] [])) _
    refine XS.iload X3.here hx rfl (hb hby d1_15) rfl ?_
    show Steps p.tables e below (T3.setTop (mkF m 17 #[.val (.ref o0), .val (.double d1), .second, .val (.double z32), .second, .val (.ref o0), .val (.int (3 : Int32)), .val (.int (1 : Int32)), .val (.double y0), .second] [(.int (1 : Int32))])) _
    refine XS.iload X3.here hx rfl (hb hby d1_17) rfl ?_
    show Steps p.tables e below (T3.setTop (mkF m 19 #[.val (.ref o0), .val (.double d1), .second, .val (.double z32), .second, .val (.ref o0), .val (.int (3 : Int32)), .val (.int (1 : Int32)), .val (.double y0), .second] [(.int (3 : Int32)), (.int (1 : Int32))])) _
    refine XS.icmpNo X3.here hx rfl (hb hby d1_19) rfl (Jvm.Free.XT.ii_ge_f (by decide)) ?_
    show Steps p.tables e below (T3.setTop (mkF m 22 #[.val (.ref o0), .val (.double d1), .second, .val (.double z32), .second, .val (.ref o0), .val (.int (3 : Int32)), .val (.int (1 : Int32)), .val (.double y0), .second] [])) _
    refine XS.aload X3.here hx rfl (hb hby d1_22) rfl rfl ?_
    show Steps p.tables e below (T3.setTop (mkF m 24 #[.val (.ref o0), .val (.double d1), .second, .val (.double z32), .second, .val (.ref o0), .val (.int (3 : Int32)), .val (.int (1 : Int32)), .val (.double y0), .second] [(.ref o0)])) _
    refine XS.iload X3.here hx rfl (hb hby d1_24) rfl ?_
    show Steps p.tables e below (T3.setTop (mkF m 26 #[.val (.ref o0), .val (.double d1), .second, .val (.double z32), .second, .val (.ref o0), .val (.int (3 : Int32)), .val (.int (1 : Int32)), .val (.double y0), .second] [(.int (1 : Int32)), (.ref o0)])) _
    refine X3.daload hx (j := (1 : Int32)) (v := (.double y1)) (by rw [e3]; exact Ar4.1) (State.isArrayOf_alike hZ.alike Ar4.2.1) Ar4.2.2 in4 (Has.at Ha4 in4 rfl) (g := (mkF m 26 #[.val (.ref o0), .val (.double d1), .second, .val (.double z32), .second, .val (.ref o0), .val (.int (3 : Int32)), .val (.int (1 : Int32)), .val (.double y0), .second] [(.int (1 : Int32)), (.ref o0)])) rfl rfl (hb hby d1_26) _ ?_
    show Steps p.tables e below (T3.setTop (mkF m 27 #[.val (.ref o0), .val (.double d1), .second, .val (.double z32), .second, .val (.ref o0), .val (.int (3 : Int32)), .val (.int (1 : Int32)), .val (.double y0), .second] [(.double y1)])) _
    refine XS.dstore X3.here hx rfl (hb hby d1_27) rfl (l' := #[.val (.ref o0), .val (.double d1), .second, .val (.double z32), .second, .val (.ref o0), .val (.int (3 : Int32)), .val (.int (1 : Int32)), .val (.double y1), .second]) rfl ?_
    show Steps p.tables e below (T3.setTop (mkF m 29 #[.val (.ref o0), .val (.double d1), .second, .val (.double z32), .second, .val (.ref o0), .val (.int (3 : Int32)), .val (.int (1 : Int32)), .val (.double y1), .second] [])) _
    refine XS.dloadN X3.here hx rfl (hb hby d1_29) rfl ?_
    show Steps p.tables e below (T3.setTop (mkF m 30 #[.val (.ref o0), .val (.double d1), .second, .val (.double z32), .second, .val (.ref o0), .val (.int (3 : Int32)), .val (.int (1 : Int32)), .val (.double y1), .second] [(.double z32)])) _
    refine XS.dload X3.here hx rfl (hb hby d1_30) rfl ?_
    show Steps p.tables e below (T3.setTop (mkF m 32 #[.val (.ref o0), .val (.double d1), .second, .val (.double z32), .second, .val (.ref o0), .val (.int (3 : Int32)), .val (.int (1 : Int32)), .val (.double y1), .second] [(.double y1), (.double z32)])) _
    refine st5 _ ?_
    show Steps p.tables e below (T5.setTop (mkF m 35 #[.val (.ref o0), .val (.double d1), .second, .val (.double z32), .second, .val (.ref o0), .val (.int (3 : Int32)), .val (.int (1 : Int32)), .val (.double y1), .second] [(.double z32_2)])) _
    refine XS.dstoreN X5.here hx rfl (hb hby d1_35) rfl (l' := #[.val (.ref o0), .val (.double d1), .second, .val (.double z32_2), .second, .val (.ref o0), .val (.int (3 : Int32)), .val (.int (1 : Int32)), .val (.double y1), .second]) rfl ?_
    show Steps p.tables e below (T5.setTop (mkF m 36 #[.val (.ref o0), .val (.double d1), .second, .val (.double z32_2), .second, .val (.ref o0), .val (.int (3 : Int32)), .val (.int (1 : Int32)), .val (.double y1), .second] [])) _
    refine Jvm.OwnK.iinc X5.here hx rfl (hb hby d1_36) rfl (l' := #[.val (.ref o0), .val (.double d1), .second, .val (.double z32_2), .second, .val (.ref o0), .val (.int (3 : Int32)), .val (.int (2 : Int32)), .val (.double y1), .second]) (v := (2 : Int32)) (by decide) rfl ?_
    show Steps p.tables e below (T5.setTop (mkF m 39 #[.val (.ref o0), .val (.double d1), .second, .val (.double z32_2), .second, .val (.ref o0), .val (.int (3 : Int32)), .val (.int (2 : Int32)), .val (.double y1), .second] [])) _
    refine XS.goto X5.here hx rfl (pc0 := 39) (pc' := 15) rfl (hb hby d1_39) (by decide) (by decide) ?_
    show Steps p.tables e below (T5.setTop (mkF m 15 #[.val (.ref o0), .val (.double d1), .second, .val (.double z32_2), .second, .val (.ref o0), .val (.int (3 : Int32)), .val (.int (2 : Int32)), .val (.double y1), .second] [])) _
    refine XS.iload X5.here hx rfl (hb hby d1_15) rfl ?_
    show Steps p.tables e below (T5.setTop (mkF m 17 #[.val (.ref o0), .val (.double d1), .second, .val (.double z32_2), .second, .val (.ref o0), .val (.int (3 : Int32)), .val (.int (2 : Int32)), .val (.double y1), .second] [(.int (2 : Int32))])) _
    refine XS.iload X5.here hx rfl (hb hby d1_17) rfl ?_
    show Steps p.tables e below (T5.setTop (mkF m 19 #[.val (.ref o0), .val (.double d1), .second, .val (.double z32_2), .second, .val (.ref o0), .val (.int (3 : Int32)), .val (.int (2 : Int32)), .val (.double y1), .second] [(.int (3 : Int32)), (.int (2 : Int32))])) _
    refine XS.icmpNo X5.here hx rfl (hb hby d1_19) rfl (Jvm.Free.XT.ii_ge_f (by decide)) ?_
    show Steps p.tables e below (T5.setTop (mkF m 22 #[.val (.ref o0), .val (.double d1), .second, .val (.double z32_2), .second, .val (.ref o0), .val (.int (3 : Int32)), .val (.int (2 : Int32)), .val (.double y1), .second] [])) _
    refine XS.aload X5.here hx rfl (hb hby d1_22) rfl rfl ?_
    show Steps p.tables e below (T5.setTop (mkF m 24 #[.val (.ref o0), .val (.double d1), .second, .val (.double z32_2), .second, .val (.ref o0), .val (.int (3 : Int32)), .val (.int (2 : Int32)), .val (.double y1), .second] [(.ref o0)])) _
    refine XS.iload X5.here hx rfl (hb hby d1_24) rfl ?_
    show Steps p.tables e below (T5.setTop (mkF m 26 #[.val (.ref o0), .val (.double d1), .second, .val (.double z32_2), .second, .val (.ref o0), .val (.int (3 : Int32)), .val (.int (2 : Int32)), .val (.double y1), .second] [(.int (2 : Int32)), (.ref o0)])) _
    refine X5.daload hx (j := (2 : Int32)) (v := (.double y2)) (by rw [e5]; exact Ar6.1) (State.isArrayOf_alike hZ.alike Ar6.2.1) Ar6.2.2 in6 (Has.at Ha6 in6 rfl) (g := (mkF m 26 #[.val (.ref o0), .val (.double d1), .second, .val (.double z32_2), .second, .val (.ref o0), .val (.int (3 : Int32)), .val (.int (2 : Int32)), .val (.double y1), .second] [(.int (2 : Int32)), (.ref o0)])) rfl rfl (hb hby d1_26) _ ?_
    show Steps p.tables e below (T5.setTop (mkF m 27 #[.val (.ref o0), .val (.double d1), .second, .val (.double z32_2), .second, .val (.ref o0), .val (.int (3 : Int32)), .val (.int (2 : Int32)), .val (.double y1), .second] [(.double y2)])) _
    refine XS.dstore X5.here hx rfl (hb hby d1_27) rfl (l' := #[.val (.ref o0), .val (.double d1), .second, .val (.double z32_2), .second, .val (.ref o0), .val (.int (3 : Int32)), .val (.int (2 : Int32)), .val (.double y2), .second]) rfl ?_
    show Steps p.tables e below (T5.setTop (mkF m 29 #[.val (.ref o0), .val (.double d1), .second, .val (.double z32_2), .second, .val (.ref o0), .val (.int (3 : Int32)), .val (.int (2 : Int32)), .val (.double y2), .second] [])) _
    refine XS.dloadN X5.here hx rfl (hb hby d1_29) rfl ?_
    show Steps p.tables e below (T5.setTop (mkF m 30 #[.val (.ref o0), .val (.double d1), .second, .val (.double z32_2), .second, .val (.ref o0), .val (.int (3 : Int32)), .val (.int (2 : Int32)), .val (.double y2), .second] [(.double z32_2)])) _
    refine XS.dload X5.here hx rfl (hb hby d1_30) rfl ?_
    show Steps p.tables e below (T5.setTop (mkF m 32 #[.val (.ref o0), .val (.double d1), .second, .val (.double z32_2), .second, .val (.ref o0), .val (.int (3 : Int32)), .val (.int (2 : Int32)), .val (.double y2), .second] [(.double y2), (.double z32_2)])) _
    refine st7 _ ?_
    show Steps p.tables e below (T7.setTop (mkF m 35 #[.val (.ref o0), .val (.double d1), .second, .val (.double z32_2), .second, .val (.ref o0), .val (.int (3 : Int32)), .val (.int (2 : Int32)), .val (.double y2), .second] [(.double z32_3)])) _
    refine XS.dstoreN X7.here hx rfl (hb hby d1_35) rfl (l' := #[.val (.ref o0), .val (.double d1), .second, .val (.double z32_3), .second, .val (.ref o0), .val (.int (3 : Int32)), .val (.int (2 : Int32)), .val (.double y2), .second]) rfl ?_
    show Steps p.tables e below (T7.setTop (mkF m 36 #[.val (.ref o0), .val (.double d1), .second, .val (.double z32_3), .second, .val (.ref o0), .val (.int (3 : Int32)), .val (.int (2 : Int32)), .val (.double y2), .second] [])) _
    refine Jvm.OwnK.iinc X7.here hx rfl (hb hby d1_36) rfl (l' := #[.val (.ref o0), .val (.double d1), .second, .val (.double z32_3), .second, .val (.ref o0), .val (.int (3 : Int32)), .val (.int (3 : Int32)), .val (.double y2), .second]) (v := (3 : Int32)) (by decide) rfl ?_
    show Steps p.tables e below (T7.setTop (mkF m 39 #[.val (.ref o0), .val (.double d1), .second, .val (.double z32_3), .second, .val (.ref o0), .val (.int (3 : Int32)), .val (.int (3 : Int32)), .val (.double y2), .second] [])) _
    refine XS.goto X7.here hx rfl (pc0 := 39) (pc' := 15) rfl (hb hby d1_39) (by decide) (by decide) ?_
    show Steps p.tables e below (T7.setTop (mkF m 15 #[.val (.ref o0), .val (.double d1), .second, .val (.double z32_3), .second, .val (.ref o0), .val (.int (3 : Int32)), .val (.int (3 : Int32)), .val (.double y2), .second] [])) _
    refine XS.iload X7.here hx rfl (hb hby d1_15) rfl ?_
    show Steps p.tables e below (T7.setTop (mkF m 17 #[.val (.ref o0), .val (.double d1), .second, .val (.double z32_3), .second, .val (.ref o0), .val (.int (3 : Int32)), .val (.int (3 : Int32)), .val (.double y2), .second] [(.int (3 : Int32))])) _
    refine XS.iload X7.here hx rfl (hb hby d1_17) rfl ?_
    show Steps p.tables e below (T7.setTop (mkF m 19 #[.val (.ref o0), .val (.double d1), .second, .val (.double z32_3), .second, .val (.ref o0), .val (.int (3 : Int32)), .val (.int (3 : Int32)), .val (.double y2), .second] [(.int (3 : Int32)), (.int (3 : Int32))])) _
    refine XS.icmpYes X7.here hx rfl (pc0 := 19) (pc' := 42) rfl (hb hby d1_19) rfl (Jvm.Free.XT.ii_ge_t (by decide)) (by decide) (by decide) ?_
    show Steps p.tables e below (T7.setTop (mkF m 42 #[.val (.ref o0), .val (.double d1), .second, .val (.double z32_3), .second, .val (.ref o0), .val (.int (3 : Int32)), .val (.int (3 : Int32)), .val (.double y2), .second] [])) _
    refine XS.aloadN X7.here hx rfl (hb hby d1_42) rfl rfl ?_
    show Steps p.tables e below (T7.setTop (mkF m 43 #[.val (.ref o0), .val (.double d1), .second, .val (.double z32_3), .second, .val (.ref o0), .val (.int (3 : Int32)), .val (.int (3 : Int32)), .val (.double y2), .second] [(.ref o0)])) _
    refine X7.arraylength hx (by rw [e7]; exact Ar8.1) (State.isArrayOf_alike hZ.alike Ar8.2.1) (g := (mkF m 43 #[.val (.ref o0), .val (.double d1), .second, .val (.double z32_3), .second, .val (.ref o0), .val (.int (3 : Int32)), .val (.int (3 : Int32)), .val (.double y2), .second] [(.ref o0)])) rfl rfl (hb hby d1_43) _ ?_
    rw [len_of S8 Nn8]
    show Steps p.tables e below (T7.setTop (mkF m 44 #[.val (.ref o0), .val (.double d1), .second, .val (.double z32_3), .second, .val (.ref o0), .val (.int (3 : Int32)), .val (.int (3 : Int32)), .val (.double y2), .second] [(.int (3 : Int32))])) _
    refine st9 _ ?_
    show Steps p.tables e below (T9.setTop (mkF m 46 #[.val (.ref o0), .val (.double d1), .second, .val (.double z32_3), .second, .val (.ref o0), .val (.int (3 : Int32)), .val (.int (3 : Int32)), .val (.double y2), .second] [(.ref b9)])) _
    refine XS.astore X9.here hx rfl (hb hby d1_46) rfl rfl (l' := #[.val (.ref o0), .val (.double d1), .second, .val (.double z32_3), .second, .val (.ref b9), .val (.int (3 : Int32)), .val (.int (3 : Int32)), .val (.double y2), .second]) rfl ?_
    show Steps p.tables e below (T9.setTop (mkF m 48 #[.val (.ref o0), .val (.double d1), .second, .val (.double z32_3), .second, .val (.ref b9), .val (.int (3 : Int32)), .val (.int (3 : Int32)), .val (.double y2), .second] [])) _
    refine XS.iconst X9.here hx rfl (hb hby d1_48) ?_
    show Steps p.tables e below (T9.setTop (mkF m 49 #[.val (.ref o0), .val (.double d1), .second, .val (.double z32_3), .second, .val (.ref b9), .val (.int (3 : Int32)), .val (.int (3 : Int32)), .val (.double y2), .second] [(.int (0 : Int32))])) _
    refine XS.istore X9.here hx rfl (hb hby d1_49) rfl (l' := #[.val (.ref o0), .val (.double d1), .second, .val (.double z32_3), .second, .val (.ref b9), .val (.int (0 : Int32)), .val (.int (3 : Int32)), .val (.double y2), .second]) rfl ?_
    show Steps p.tables e below (T9.setTop (mkF m 51 #[.val (.ref o0), .val (.double d1), .second, .val (.double z32_3), .second, .val (.ref b9), .val (.int (0 : Int32)), .val (.int (3 : Int32)), .val (.double y2), .second] [])) _
    refine XS.iload X9.here hx rfl (hb hby d1_51) rfl ?_
    show Steps p.tables e below (T9.setTop (mkF m 53 #[.val (.ref o0), .val (.double d1), .second, .val (.double z32_3), .second, .val (.ref b9), .val (.int (0 : Int32)), .val (.int (3 : Int32)), .val (.double y2), .second] [(.int (0 : Int32))])) _
    refine XS.aloadN X9.here hx rfl (hb hby d1_53) rfl rfl ?_
    show Steps p.tables e below (T9.setTop (mkF m 54 #[.val (.ref o0), .val (.double d1), .second, .val (.double z32_3), .second, .val (.ref b9), .val (.int (0 : Int32)), .val (.int (3 : Int32)), .val (.double y2), .second] [(.ref o0), (.int (0 : Int32))])) _
    refine X9.arraylength hx (by rw [e9]; exact Ar12.1) (State.isArrayOf_alike hZ.alike Ar12.2.1) (g := (mkF m 54 #[.val (.ref o0), .val (.double d1), .second, .val (.double z32_3), .second, .val (.ref b9), .val (.int (0 : Int32)), .val (.int (3 : Int32)), .val (.double y2), .second] [(.ref o0), (.int (0 : Int32))])) rfl rfl (hb hby d1_54) _ ?_
    rw [len_of S12 Nn12]
    show Steps p.tables e below (T9.setTop (mkF m 55 #[.val (.ref o0), .val (.double d1), .second, .val (.double z32_3), .second, .val (.ref b9), .val (.int (0 : Int32)), .val (.int (3 : Int32)), .val (.double y2), .second] [(.int (3 : Int32)), (.int (0 : Int32))])) _
    refine XS.icmpNo X9.here hx rfl (hb hby d1_55) rfl (Jvm.Free.XT.ii_ge_f (by decide)) ?_
    show Steps p.tables e below (T9.setTop (mkF m 58 #[.val (.ref o0), .val (.double d1), .second, .val (.double z32_3), .second, .val (.ref b9), .val (.int (0 : Int32)), .val (.int (3 : Int32)), .val (.double y2), .second] [])) _
    refine XS.aload X9.here hx rfl (hb hby d1_58) rfl rfl ?_
    show Steps p.tables e below (T9.setTop (mkF m 60 #[.val (.ref o0), .val (.double d1), .second, .val (.double z32_3), .second, .val (.ref b9), .val (.int (0 : Int32)), .val (.int (3 : Int32)), .val (.double y2), .second] [(.ref b9)])) _
    refine XS.iload X9.here hx rfl (hb hby d1_60) rfl ?_
    show Steps p.tables e below (T9.setTop (mkF m 62 #[.val (.ref o0), .val (.double d1), .second, .val (.double z32_3), .second, .val (.ref b9), .val (.int (0 : Int32)), .val (.int (3 : Int32)), .val (.double y2), .second] [(.int (0 : Int32)), (.ref b9)])) _
    refine XS.aloadN X9.here hx rfl (hb hby d1_62) rfl rfl ?_
    show Steps p.tables e below (T9.setTop (mkF m 63 #[.val (.ref o0), .val (.double d1), .second, .val (.double z32_3), .second, .val (.ref b9), .val (.int (0 : Int32)), .val (.int (3 : Int32)), .val (.double y2), .second] [(.ref o0), (.int (0 : Int32)), (.ref b9)])) _
    refine XS.iload X9.here hx rfl (hb hby d1_63) rfl ?_
    show Steps p.tables e below (T9.setTop (mkF m 65 #[.val (.ref o0), .val (.double d1), .second, .val (.double z32_3), .second, .val (.ref b9), .val (.int (0 : Int32)), .val (.int (3 : Int32)), .val (.double y2), .second] [(.int (0 : Int32)), (.ref o0), (.int (0 : Int32)), (.ref b9)])) _
    refine X9.daload hx (j := (0 : Int32)) (v := (.double y0)) (by rw [e9]; exact Ar13.1) (State.isArrayOf_alike hZ.alike Ar13.2.1) Ar13.2.2 in13 (Has.at Ha13 in13 rfl) (g := (mkF m 65 #[.val (.ref o0), .val (.double d1), .second, .val (.double z32_3), .second, .val (.ref b9), .val (.int (0 : Int32)), .val (.int (3 : Int32)), .val (.double y2), .second] [(.int (0 : Int32)), (.ref o0), (.int (0 : Int32)), (.ref b9)])) rfl rfl (hb hby d1_65) _ ?_
    show Steps p.tables e below (T9.setTop (mkF m 66 #[.val (.ref o0), .val (.double d1), .second, .val (.double z32_3), .second, .val (.ref b9), .val (.int (0 : Int32)), .val (.int (3 : Int32)), .val (.double y2), .second] [(.double y0), (.int (0 : Int32)), (.ref b9)])) _
    refine XS.dloadN X9.here hx rfl (hb hby d1_66) rfl ?_
    show Steps p.tables e below (T9.setTop (mkF m 67 #[.val (.ref o0), .val (.double d1), .second, .val (.double z32_3), .second, .val (.ref b9), .val (.int (0 : Int32)), .val (.int (3 : Int32)), .val (.double y2), .second] [(.double z32_3), (.double y0), (.int (0 : Int32)), (.ref b9)])) _
    refine XS.dloadN X9.here hx rfl (hb hby d1_67) rfl ?_
    show Steps p.tables e below (T9.setTop (mkF m 68 #[.val (.ref o0), .val (.double d1), .second, .val (.double z32_3), .second, .val (.ref b9), .val (.int (0 : Int32)), .val (.int (3 : Int32)), .val (.double y2), .second] [(.double d1), (.double z32_3), (.double y0), (.int (0 : Int32)), (.ref b9)])) _
    refine Jvm.OwnK.dsub X9.here hx rfl (hb hby d1_68) rfl hz68 nn68 ?_
    show Steps p.tables e below (T9.setTop (mkF m 69 #[.val (.ref o0), .val (.double d1), .second, .val (.double z32_3), .second, .val (.ref b9), .val (.int (0 : Int32)), .val (.int (3 : Int32)), .val (.double y2), .second] [(.double z68), (.double y0), (.int (0 : Int32)), (.ref b9)])) _
    refine XS.dcmpS X9.here hx rfl (hb hby d1_69) rfl hz69 ?_
    by_cases hm70_0 : z69 < (0 : Int32)
    · skip
      show Steps p.tables e below (T9.setTop (mkF m 70 #[.val (.ref o0), .val (.double d1), .second, .val (.double z32_3), .second, .val (.ref b9), .val (.int (0 : Int32)), .val (.int (3 : Int32)), .val (.double y2), .second] [(.int z69), (.int (0 : Int32)), (.ref b9)])) _
      refine XS.ifYes X9.here hx rfl (pc0 := 70) (pc' := 77) rfl (hb hby d1_70) rfl (Jvm.Free.XT.i0_lt_t hm70_0) (by decide) (by decide) ?_
      show Steps p.tables e below (T9.setTop (mkF m 77 #[.val (.ref o0), .val (.double d1), .second, .val (.double z32_3), .second, .val (.ref b9), .val (.int (0 : Int32)), .val (.int (3 : Int32)), .val (.double y2), .second] [(.int (0 : Int32)), (.ref b9)])) _
      refine XS.iconst X9.here hx rfl (hb hby d1_77) ?_
      obtain rfl : (0 : Int32) = m70_s0 := by rw [← hm70_s0]; simp only [if_pos hm70_0]
      exact k
    · skip
      show Steps p.tables e below (T9.setTop (mkF m 70 #[.val (.ref o0), .val (.double d1), .second, .val (.double z32_3), .second, .val (.ref b9), .val (.int (0 : Int32)), .val (.int (3 : Int32)), .val (.double y2), .second] [(.int z69), (.int (0 : Int32)), (.ref b9)])) _
      refine XS.ifNo X9.here hx rfl (hb hby d1_70) rfl (Jvm.Free.XT.i0_lt_f hm70_0) ?_
      show Steps p.tables e below (T9.setTop (mkF m 73 #[.val (.ref o0), .val (.double d1), .second, .val (.double z32_3), .second, .val (.ref b9), .val (.int (0 : Int32)), .val (.int (3 : Int32)), .val (.double y2), .second] [(.int (0 : Int32)), (.ref b9)])) _
      refine XS.iconst X9.here hx rfl (hb hby d1_73) ?_
      show Steps p.tables e below (T9.setTop (mkF m 74 #[.val (.ref o0), .val (.double d1), .second, .val (.double z32_3), .second, .val (.ref b9), .val (.int (0 : Int32)), .val (.int (3 : Int32)), .val (.double y2), .second] [(.int (1 : Int32)), (.int (0 : Int32)), (.ref b9)])) _
      refine XS.goto X9.here hx rfl (pc0 := 74) (pc' := 78) rfl (hb hby d1_74) (by decide) (by decide) ?_
      obtain rfl : (1 : Int32) = m70_s0 := by rw [← hm70_s0]; simp only [if_neg hm70_0]
      exact k
  obtain ⟨cl15, Ar15, q15, S15, Nn15, Ha15, G15⟩ := id V9
  have in15 : ¬ ((0 : Int32) < 0 ∨ cl15.slots.size ≤ ((0 : Int32)).toNatClampNeg) := inb_of S15 ⟨by decide, by decide⟩
  obtain ⟨T16, h16, X16, e16, W16, st16⟩ := stZ X9 hx hZ e9 Ar15 (j := (0 : Int32)) in15 (g := (mkF m 78 #[.val (.ref o0), .val (.double d1), .second, .val (.double z32_3), .second, .val (.ref b9), .val (.int (0 : Int32)), .val (.int (3 : Int32)), .val (.double y2), .second] [(.int m70_s0), (.int (0 : Int32)), (.ref b9)])) rfl rfl (hb hby d1_78)
  rw [nb78] at W16
  have N16 := Fr.snoc X16 N0 gn9
  have K17 : Keep h0 h16 [] := K10.wr W16 (Or.inr gz9)
  have V16 : Arv Z h16 b9 k9 .boolean (3 : Int32) [(.int m70_s0), (.int (0 : Int32)), (.int (0 : Int32))] (.int (0 : Int32)) := Arv.set Ar15 q15 S15 Nn15 Ha15 G15 fi78 W16 0 rfl (show (0 : Nat) < 3 by decide)
  have f18 := (f11.other W16 (Nat.ne_of_lt (Nat.lt_of_lt_of_le (V_o0).lt (Nat.le_of_eq g9.symm))))
  obtain ⟨cl19, Ar19, -, S19, Nn19, -, -⟩ := id f18
  obtain ⟨cl20, Ar20, -, S20, -, Ha20, -⟩ := id f18
  have in20 : ¬ ((1 : Int32) < 0 ∨ cl20.slots.size ≤ ((1 : Int32)).toNatClampNeg) := inb_of S20 ⟨by decide, by decide⟩
  have c21 : ∀ t, Steps p.tables e below (T16.setTop (mkF m 78 #[.val (.ref o0), .val (.double d1), .second, .val (.double z32_3), .second, .val (.ref b9), .val (.int (1 : Int32)), .val (.int (3 : Int32)), .val (.double y2), .second] [(.int m70_s0_2), (.int (1 : Int32)), (.ref b9)])) t → Steps p.tables e below (s₁.setTop (entryFrame m #[(.ref o0), (.double d1)] 10)) t := by
    intro t k
    refine c14 t ?_
    show Steps p.tables e below (T9.setTop (mkF m 78 #[.val (.ref o0), .val (.double d1), .second, .val (.double z32_3), .second, .val (.ref b9), .val (.int (0 : Int32)), .val (.int (3 : Int32)), .val (.double y2), .second] [(.int m70_s0), (.int (0 : Int32)), (.ref b9)])) _
    refine st16 _ ?_
    show Steps p.tables e below (T16.setTop (mkF m 79 #[.val (.ref o0), .val (.double d1), .second, .val (.double z32_3), .second, .val (.ref b9), .val (.int (0 : Int32)), .val (.int (3 : Int32)), .val (.double y2), .second] [])) _
    refine Jvm.OwnK.iinc X16.here hx rfl (hb hby d1_79) rfl (l' := #[.val (.ref o0), .val (.double d1), .second, .val (.double z32_3), .second, .val (.ref b9), .val (.int (1 : Int32)), .val (.int (3 : Int32)), .val (.double y2), .second]) (v := (1 : Int32)) (by decide) rfl ?_
    show Steps p.tables e below (T16.setTop (mkF m 82 #[.val (.ref o0), .val (.double d1), .second, .val (.double z32_3), .second, .val (.ref b9), .val (.int (1 : Int32)), .val (.int (3 : Int32)), .val (.double y2), .second] [])) _
    refine XS.goto X16.here hx rfl (pc0 := 82) (pc' := 51) rfl (hb hby d1_82) (by decide) (by decide) ?_
    show Steps p.tables e below (T16.setTop (mkF m 51 #[.val (.ref o0), .val (.double d1), .second, .val (.double z32_3), .second, .val (.ref b9), .val (.int (1 : Int32)), .val (.int (3 : Int32)), .val (.double y2), .second] [])) _
    refine XS.iload X16.here hx rfl (hb hby d1_51) rfl ?_
    show Steps p.tables e below (T16.setTop (mkF m 53 #[.val (.ref o0), .val (.double d1), .second, .val (.double z32_3), .second, .val (.ref b9), .val (.int (1 : Int32)), .val (.int (3 : Int32)), .val (.double y2), .second] [(.int (1 : Int32))])) _
    refine XS.aloadN X16.here hx rfl (hb hby d1_53) rfl rfl ?_
    show Steps p.tables e below (T16.setTop (mkF m 54 #[.val (.ref o0), .val (.double d1), .second, .val (.double z32_3), .second, .val (.ref b9), .val (.int (1 : Int32)), .val (.int (3 : Int32)), .val (.double y2), .second] [(.ref o0), (.int (1 : Int32))])) _
    refine X16.arraylength hx (by rw [e16]; exact Ar19.1) (State.isArrayOf_alike hZ.alike Ar19.2.1) (g := (mkF m 54 #[.val (.ref o0), .val (.double d1), .second, .val (.double z32_3), .second, .val (.ref b9), .val (.int (1 : Int32)), .val (.int (3 : Int32)), .val (.double y2), .second] [(.ref o0), (.int (1 : Int32))])) rfl rfl (hb hby d1_54) _ ?_
    rw [len_of S19 Nn19]
    show Steps p.tables e below (T16.setTop (mkF m 55 #[.val (.ref o0), .val (.double d1), .second, .val (.double z32_3), .second, .val (.ref b9), .val (.int (1 : Int32)), .val (.int (3 : Int32)), .val (.double y2), .second] [(.int (3 : Int32)), (.int (1 : Int32))])) _
    refine XS.icmpNo X16.here hx rfl (hb hby d1_55) rfl (Jvm.Free.XT.ii_ge_f (by decide)) ?_
    show Steps p.tables e below (T16.setTop (mkF m 58 #[.val (.ref o0), .val (.double d1), .second, .val (.double z32_3), .second, .val (.ref b9), .val (.int (1 : Int32)), .val (.int (3 : Int32)), .val (.double y2), .second] [])) _
    refine XS.aload X16.here hx rfl (hb hby d1_58) rfl rfl ?_
    show Steps p.tables e below (T16.setTop (mkF m 60 #[.val (.ref o0), .val (.double d1), .second, .val (.double z32_3), .second, .val (.ref b9), .val (.int (1 : Int32)), .val (.int (3 : Int32)), .val (.double y2), .second] [(.ref b9)])) _
    refine XS.iload X16.here hx rfl (hb hby d1_60) rfl ?_
    show Steps p.tables e below (T16.setTop (mkF m 62 #[.val (.ref o0), .val (.double d1), .second, .val (.double z32_3), .second, .val (.ref b9), .val (.int (1 : Int32)), .val (.int (3 : Int32)), .val (.double y2), .second] [(.int (1 : Int32)), (.ref b9)])) _
    refine XS.aloadN X16.here hx rfl (hb hby d1_62) rfl rfl ?_
    show Steps p.tables e below (T16.setTop (mkF m 63 #[.val (.ref o0), .val (.double d1), .second, .val (.double z32_3), .second, .val (.ref b9), .val (.int (1 : Int32)), .val (.int (3 : Int32)), .val (.double y2), .second] [(.ref o0), (.int (1 : Int32)), (.ref b9)])) _
    refine XS.iload X16.here hx rfl (hb hby d1_63) rfl ?_
    show Steps p.tables e below (T16.setTop (mkF m 65 #[.val (.ref o0), .val (.double d1), .second, .val (.double z32_3), .second, .val (.ref b9), .val (.int (1 : Int32)), .val (.int (3 : Int32)), .val (.double y2), .second] [(.int (1 : Int32)), (.ref o0), (.int (1 : Int32)), (.ref b9)])) _
    refine X16.daload hx (j := (1 : Int32)) (v := (.double y1)) (by rw [e16]; exact Ar20.1) (State.isArrayOf_alike hZ.alike Ar20.2.1) Ar20.2.2 in20 (Has.at Ha20 in20 rfl) (g := (mkF m 65 #[.val (.ref o0), .val (.double d1), .second, .val (.double z32_3), .second, .val (.ref b9), .val (.int (1 : Int32)), .val (.int (3 : Int32)), .val (.double y2), .second] [(.int (1 : Int32)), (.ref o0), (.int (1 : Int32)), (.ref b9)])) rfl rfl (hb hby d1_65) _ ?_
    show Steps p.tables e below (T16.setTop (mkF m 66 #[.val (.ref o0), .val (.double d1), .second, .val (.double z32_3), .second, .val (.ref b9), .val (.int (1 : Int32)), .val (.int (3 : Int32)), .val (.double y2), .second] [(.double y1), (.int (1 : Int32)), (.ref b9)])) _
    refine XS.dloadN X16.here hx rfl (hb hby d1_66) rfl ?_
    show Steps p.tables e below (T16.setTop (mkF m 67 #[.val (.ref o0), .val (.double d1), .second, .val (.double z32_3), .second, .val (.ref b9), .val (.int (1 : Int32)), .val (.int (3 : Int32)), .val (.double y2), .second] [(.double z32_3), (.double y1), (.int (1 : Int32)), (.ref b9)])) _
    refine XS.dloadN X16.here hx rfl (hb hby d1_67) rfl ?_
    show Steps p.tables e below (T16.setTop (mkF m 68 #[.val (.ref o0), .val (.double d1), .second, .val (.double z32_3), .second, .val (.ref b9), .val (.int (1 : Int32)), .val (.int (3 : Int32)), .val (.double y2), .second] [(.double d1), (.double z32_3), (.double y1), (.int (1 : Int32)), (.ref b9)])) _
    refine Jvm.OwnK.dsub X16.here hx rfl (hb hby d1_68) rfl hz68_2 nn68_2 ?_
    show Steps p.tables e below (T16.setTop (mkF m 69 #[.val (.ref o0), .val (.double d1), .second, .val (.double z32_3), .second, .val (.ref b9), .val (.int (1 : Int32)), .val (.int (3 : Int32)), .val (.double y2), .second] [(.double z68_2), (.double y1), (.int (1 : Int32)), (.ref b9)])) _
    refine XS.dcmpS X16.here hx rfl (hb hby d1_69) rfl hz69_2 ?_
    by_cases hm70_0 : z69_2 < (0 : Int32)
    · skip
      show Steps p.tables e below (T16.setTop (mkF m 70 #[.val (.ref o0), .val (.double d1), .second, .val (.double z32_3), .second, .val (.ref b9), .val (.int (1 : Int32)), .val (.int (3 : Int32)), .val (.double y2), .second] [(.int z69_2), (.int (1 : Int32)), (.ref b9)])) _
      refine XS.ifYes X16.here hx rfl (pc0 := 70) (pc' := 77) rfl (hb hby d1_70) rfl (Jvm.Free.XT.i0_lt_t hm70_0) (by decide) (by decide) ?_
      show Steps p.tables e below (T16.setTop (mkF m 77 #[.val (.ref o0), .val (.double d1), .second, .val (.double z32_3), .second, .val (.ref b9), .val (.int (1 : Int32)), .val (.int (3 : Int32)), .val (.double y2), .second] [(.int (1 : Int32)), (.ref b9)])) _
      refine XS.iconst X16.here hx rfl (hb hby d1_77) ?_
      obtain rfl : (0 : Int32) = m70_s0_2 := by rw [← hm70_s0_2]; simp only [if_pos hm70_0]
      exact k
    · skip
      show Steps p.tables e below (T16.setTop (mkF m 70 #[.val (.ref o0), .val (.double d1), .second, .val (.double z32_3), .second, .val (.ref b9), .val (.int (1 : Int32)), .val (.int (3 : Int32)), .val (.double y2), .second] [(.int z69_2), (.int (1 : Int32)), (.ref b9)])) _
      refine XS.ifNo X16.here hx rfl (hb hby d1_70) rfl (Jvm.Free.XT.i0_lt_f hm70_0) ?_
      show Steps p.tables e below (T16.setTop (mkF m 73 #[.val (.ref o0), .val (.double d1), .second, .val (.double z32_3), .second, .val (.ref b9), .val (.int (1 : Int32)), .val (.int (3 : Int32)), .val (.double y2), .second] [(.int (1 : Int32)), (.ref b9)])) _
      refine XS.iconst X16.here hx rfl (hb hby d1_73) ?_
      show Steps p.tables e below (T16.setTop (mkF m 74 #[.val (.ref o0), .val (.double d1), .second, .val (.double z32_3), .second, .val (.ref b9), .val (.int (1 : Int32)), .val (.int (3 : Int32)), .val (.double y2), .second] [(.int (1 : Int32)), (.int (1 : Int32)), (.ref b9)])) _
      refine XS.goto X16.here hx rfl (pc0 := 74) (pc' := 78) rfl (hb hby d1_74) (by decide) (by decide) ?_
      obtain rfl : (1 : Int32) = m70_s0_2 := by rw [← hm70_s0_2]; simp only [if_neg hm70_0]
      exact k
  obtain ⟨cl22, Ar22, q22, S22, Nn22, Ha22, G22⟩ := id V16
  have in22 : ¬ ((1 : Int32) < 0 ∨ cl22.slots.size ≤ ((1 : Int32)).toNatClampNeg) := inb_of S22 ⟨by decide, by decide⟩
  obtain ⟨T23, h23, X23, e23, W23, st23⟩ := stZ X16 hx hZ e16 Ar22 (j := (1 : Int32)) in22 (g := (mkF m 78 #[.val (.ref o0), .val (.double d1), .second, .val (.double z32_3), .second, .val (.ref b9), .val (.int (1 : Int32)), .val (.int (3 : Int32)), .val (.double y2), .second] [(.int m70_s0_2), (.int (1 : Int32)), (.ref b9)])) rfl rfl (hb hby d1_78)
  rw [nb78_2] at W23
  have N23 := Fr.snoc X23 N16 gn9
  have K24 : Keep h0 h23 [] := K17.wr W23 (Or.inr gz9)
  have V23 : Arv Z h23 b9 k9 .boolean (3 : Int32) [(.int m70_s0), (.int m70_s0_2), (.int (0 : Int32))] (.int (0 : Int32)) := Arv.set Ar22 q22 S22 Nn22 Ha22 G22 fi78_2 W23 1 rfl (show (1 : Nat) < 3 by decide)
  have f25 := (f18.other W23 (Nat.ne_of_lt (Nat.lt_of_lt_of_le (V_o0).lt (Nat.le_of_eq g9.symm))))
  obtain ⟨cl26, Ar26, -, S26, Nn26, -, -⟩ := id f25
  obtain ⟨cl27, Ar27, -, S27, -, Ha27, -⟩ := id f25
  have in27 : ¬ ((2 : Int32) < 0 ∨ cl27.slots.size ≤ ((2 : Int32)).toNatClampNeg) := inb_of S27 ⟨by decide, by decide⟩
  have c28 : ∀ t, Steps p.tables e below (T23.setTop (mkF m 78 #[.val (.ref o0), .val (.double d1), .second, .val (.double z32_3), .second, .val (.ref b9), .val (.int (2 : Int32)), .val (.int (3 : Int32)), .val (.double y2), .second] [(.int m70_s0_3), (.int (2 : Int32)), (.ref b9)])) t → Steps p.tables e below (s₁.setTop (entryFrame m #[(.ref o0), (.double d1)] 10)) t := by
    intro t k
    refine c21 t ?_
    show Steps p.tables e below (T16.setTop (mkF m 78 #[.val (.ref o0), .val (.double d1), .second, .val (.double z32_3), .second, .val (.ref b9), .val (.int (1 : Int32)), .val (.int (3 : Int32)), .val (.double y2), .second] [(.int m70_s0_2), (.int (1 : Int32)), (.ref b9)])) _
    refine st23 _ ?_
    show Steps p.tables e below (T23.setTop (mkF m 79 #[.val (.ref o0), .val (.double d1), .second, .val (.double z32_3), .second, .val (.ref b9), .val (.int (1 : Int32)), .val (.int (3 : Int32)), .val (.double y2), .second] [])) _
    refine Jvm.OwnK.iinc X23.here hx rfl (hb hby d1_79) rfl (l' := #[.val (.ref o0), .val (.double d1), .second, .val (.double z32_3), .second, .val (.ref b9), .val (.int (2 : Int32)), .val (.int (3 : Int32)), .val (.double y2), .second]) (v := (2 : Int32)) (by decide) rfl ?_
    show Steps p.tables e below (T23.setTop (mkF m 82 #[.val (.ref o0), .val (.double d1), .second, .val (.double z32_3), .second, .val (.ref b9), .val (.int (2 : Int32)), .val (.int (3 : Int32)), .val (.double y2), .second] [])) _
    refine XS.goto X23.here hx rfl (pc0 := 82) (pc' := 51) rfl (hb hby d1_82) (by decide) (by decide) ?_
    show Steps p.tables e below (T23.setTop (mkF m 51 #[.val (.ref o0), .val (.double d1), .second, .val (.double z32_3), .second, .val (.ref b9), .val (.int (2 : Int32)), .val (.int (3 : Int32)), .val (.double y2), .second] [])) _
    refine XS.iload X23.here hx rfl (hb hby d1_51) rfl ?_
    show Steps p.tables e below (T23.setTop (mkF m 53 #[.val (.ref o0), .val (.double d1), .second, .val (.double z32_3), .second, .val (.ref b9), .val (.int (2 : Int32)), .val (.int (3 : Int32)), .val (.double y2), .second] [(.int (2 : Int32))])) _
    refine XS.aloadN X23.here hx rfl (hb hby d1_53) rfl rfl ?_
    show Steps p.tables e below (T23.setTop (mkF m 54 #[.val (.ref o0), .val (.double d1), .second, .val (.double z32_3), .second, .val (.ref b9), .val (.int (2 : Int32)), .val (.int (3 : Int32)), .val (.double y2), .second] [(.ref o0), (.int (2 : Int32))])) _
    refine X23.arraylength hx (by rw [e23]; exact Ar26.1) (State.isArrayOf_alike hZ.alike Ar26.2.1) (g := (mkF m 54 #[.val (.ref o0), .val (.double d1), .second, .val (.double z32_3), .second, .val (.ref b9), .val (.int (2 : Int32)), .val (.int (3 : Int32)), .val (.double y2), .second] [(.ref o0), (.int (2 : Int32))])) rfl rfl (hb hby d1_54) _ ?_
    rw [len_of S26 Nn26]
    show Steps p.tables e below (T23.setTop (mkF m 55 #[.val (.ref o0), .val (.double d1), .second, .val (.double z32_3), .second, .val (.ref b9), .val (.int (2 : Int32)), .val (.int (3 : Int32)), .val (.double y2), .second] [(.int (3 : Int32)), (.int (2 : Int32))])) _
    refine XS.icmpNo X23.here hx rfl (hb hby d1_55) rfl (Jvm.Free.XT.ii_ge_f (by decide)) ?_
    show Steps p.tables e below (T23.setTop (mkF m 58 #[.val (.ref o0), .val (.double d1), .second, .val (.double z32_3), .second, .val (.ref b9), .val (.int (2 : Int32)), .val (.int (3 : Int32)), .val (.double y2), .second] [])) _
    refine XS.aload X23.here hx rfl (hb hby d1_58) rfl rfl ?_
    show Steps p.tables e below (T23.setTop (mkF m 60 #[.val (.ref o0), .val (.double d1), .second, .val (.double z32_3), .second, .val (.ref b9), .val (.int (2 : Int32)), .val (.int (3 : Int32)), .val (.double y2), .second] [(.ref b9)])) _
    refine XS.iload X23.here hx rfl (hb hby d1_60) rfl ?_
    show Steps p.tables e below (T23.setTop (mkF m 62 #[.val (.ref o0), .val (.double d1), .second, .val (.double z32_3), .second, .val (.ref b9), .val (.int (2 : Int32)), .val (.int (3 : Int32)), .val (.double y2), .second] [(.int (2 : Int32)), (.ref b9)])) _
    refine XS.aloadN X23.here hx rfl (hb hby d1_62) rfl rfl ?_
    show Steps p.tables e below (T23.setTop (mkF m 63 #[.val (.ref o0), .val (.double d1), .second, .val (.double z32_3), .second, .val (.ref b9), .val (.int (2 : Int32)), .val (.int (3 : Int32)), .val (.double y2), .second] [(.ref o0), (.int (2 : Int32)), (.ref b9)])) _
    refine XS.iload X23.here hx rfl (hb hby d1_63) rfl ?_
    show Steps p.tables e below (T23.setTop (mkF m 65 #[.val (.ref o0), .val (.double d1), .second, .val (.double z32_3), .second, .val (.ref b9), .val (.int (2 : Int32)), .val (.int (3 : Int32)), .val (.double y2), .second] [(.int (2 : Int32)), (.ref o0), (.int (2 : Int32)), (.ref b9)])) _
    refine X23.daload hx (j := (2 : Int32)) (v := (.double y2)) (by rw [e23]; exact Ar27.1) (State.isArrayOf_alike hZ.alike Ar27.2.1) Ar27.2.2 in27 (Has.at Ha27 in27 rfl) (g := (mkF m 65 #[.val (.ref o0), .val (.double d1), .second, .val (.double z32_3), .second, .val (.ref b9), .val (.int (2 : Int32)), .val (.int (3 : Int32)), .val (.double y2), .second] [(.int (2 : Int32)), (.ref o0), (.int (2 : Int32)), (.ref b9)])) rfl rfl (hb hby d1_65) _ ?_
    show Steps p.tables e below (T23.setTop (mkF m 66 #[.val (.ref o0), .val (.double d1), .second, .val (.double z32_3), .second, .val (.ref b9), .val (.int (2 : Int32)), .val (.int (3 : Int32)), .val (.double y2), .second] [(.double y2), (.int (2 : Int32)), (.ref b9)])) _
    refine XS.dloadN X23.here hx rfl (hb hby d1_66) rfl ?_
    show Steps p.tables e below (T23.setTop (mkF m 67 #[.val (.ref o0), .val (.double d1), .second, .val (.double z32_3), .second, .val (.ref b9), .val (.int (2 : Int32)), .val (.int (3 : Int32)), .val (.double y2), .second] [(.double z32_3), (.double y2), (.int (2 : Int32)), (.ref b9)])) _
    refine XS.dloadN X23.here hx rfl (hb hby d1_67) rfl ?_
    show Steps p.tables e below (T23.setTop (mkF m 68 #[.val (.ref o0), .val (.double d1), .second, .val (.double z32_3), .second, .val (.ref b9), .val (.int (2 : Int32)), .val (.int (3 : Int32)), .val (.double y2), .second] [(.double d1), (.double z32_3), (.double y2), (.int (2 : Int32)), (.ref b9)])) _
    refine Jvm.OwnK.dsub X23.here hx rfl (hb hby d1_68) rfl hz68_3 nn68_3 ?_
    show Steps p.tables e below (T23.setTop (mkF m 69 #[.val (.ref o0), .val (.double d1), .second, .val (.double z32_3), .second, .val (.ref b9), .val (.int (2 : Int32)), .val (.int (3 : Int32)), .val (.double y2), .second] [(.double z68_3), (.double y2), (.int (2 : Int32)), (.ref b9)])) _
    refine XS.dcmpS X23.here hx rfl (hb hby d1_69) rfl hz69_3 ?_
    by_cases hm70_0 : z69_3 < (0 : Int32)
    · skip
      show Steps p.tables e below (T23.setTop (mkF m 70 #[.val (.ref o0), .val (.double d1), .second, .val (.double z32_3), .second, .val (.ref b9), .val (.int (2 : Int32)), .val (.int (3 : Int32)), .val (.double y2), .second] [(.int z69_3), (.int (2 : Int32)), (.ref b9)])) _
      refine XS.ifYes X23.here hx rfl (pc0 := 70) (pc' := 77) rfl (hb hby d1_70) rfl (Jvm.Free.XT.i0_lt_t hm70_0) (by decide) (by decide) ?_
      show Steps p.tables e below (T23.setTop (mkF m 77 #[.val (.ref o0), .val (.double d1), .second, .val (.double z32_3), .second, .val (.ref b9), .val (.int (2 : Int32)), .val (.int (3 : Int32)), .val (.double y2), .second] [(.int (2 : Int32)), (.ref b9)])) _
      refine XS.iconst X23.here hx rfl (hb hby d1_77) ?_
      obtain rfl : (0 : Int32) = m70_s0_3 := by rw [← hm70_s0_3]; simp only [if_pos hm70_0]
      exact k
    · skip
      show Steps p.tables e below (T23.setTop (mkF m 70 #[.val (.ref o0), .val (.double d1), .second, .val (.double z32_3), .second, .val (.ref b9), .val (.int (2 : Int32)), .val (.int (3 : Int32)), .val (.double y2), .second] [(.int z69_3), (.int (2 : Int32)), (.ref b9)])) _
      refine XS.ifNo X23.here hx rfl (hb hby d1_70) rfl (Jvm.Free.XT.i0_lt_f hm70_0) ?_
      show Steps p.tables e below (T23.setTop (mkF m 73 #[.val (.ref o0), .val (.double d1), .second, .val (.double z32_3), .second, .val (.ref b9), .val (.int (2 : Int32)), .val (.int (3 : Int32)), .val (.double y2), .second] [(.int (2 : Int32)), (.ref b9)])) _
      refine XS.iconst X23.here hx rfl (hb hby d1_73) ?_
      show Steps p.tables e below (T23.setTop (mkF m 74 #[.val (.ref o0), .val (.double d1), .second, .val (.double z32_3), .second, .val (.ref b9), .val (.int (2 : Int32)), .val (.int (3 : Int32)), .val (.double y2), .second] [(.int (1 : Int32)), (.int (2 : Int32)), (.ref b9)])) _
      refine XS.goto X23.here hx rfl (pc0 := 74) (pc' := 78) rfl (hb hby d1_74) (by decide) (by decide) ?_
      obtain rfl : (1 : Int32) = m70_s0_3 := by rw [← hm70_s0_3]; simp only [if_neg hm70_0]
      exact k
  obtain ⟨cl29, Ar29, q29, S29, Nn29, Ha29, G29⟩ := id V23
  have in29 : ¬ ((2 : Int32) < 0 ∨ cl29.slots.size ≤ ((2 : Int32)).toNatClampNeg) := inb_of S29 ⟨by decide, by decide⟩
  obtain ⟨T30, h30, X30, e30, W30, st30⟩ := stZ X23 hx hZ e23 Ar29 (j := (2 : Int32)) in29 (g := (mkF m 78 #[.val (.ref o0), .val (.double d1), .second, .val (.double z32_3), .second, .val (.ref b9), .val (.int (2 : Int32)), .val (.int (3 : Int32)), .val (.double y2), .second] [(.int m70_s0_3), (.int (2 : Int32)), (.ref b9)])) rfl rfl (hb hby d1_78)
  rw [nb78_3] at W30
  have N30 := Fr.snoc X30 N23 gn9
  have K31 : Keep h0 h30 [] := K24.wr W30 (Or.inr gz9)
  have V30 : Arv Z h30 b9 k9 .boolean (3 : Int32) [(.int m70_s0), (.int m70_s0_2), (.int m70_s0_3)] (.int (0 : Int32)) := Arv.set Ar29 q29 S29 Nn29 Ha29 G29 fi78_3 W30 2 rfl (show (2 : Nat) < 3 by decide)
  have f32 := (f25.other W30 (Nat.ne_of_lt (Nat.lt_of_lt_of_le (V_o0).lt (Nat.le_of_eq g9.symm))))
  obtain ⟨cl33, Ar33, -, S33, Nn33, -, -⟩ := id f32
  have c34 : ∀ t, Steps p.tables e below (T30.setTop (mkF m 87 #[.val (.ref o0), .val (.double d1), .second, .val (.double z32_3), .second, .val (.ref b9), .val (.int (3 : Int32)), .val (.int (3 : Int32)), .val (.double y2), .second] [(.ref b9)])) t → Steps p.tables e below (s₁.setTop (entryFrame m #[(.ref o0), (.double d1)] 10)) t := by
    intro t k
    refine c28 t ?_
    show Steps p.tables e below (T23.setTop (mkF m 78 #[.val (.ref o0), .val (.double d1), .second, .val (.double z32_3), .second, .val (.ref b9), .val (.int (2 : Int32)), .val (.int (3 : Int32)), .val (.double y2), .second] [(.int m70_s0_3), (.int (2 : Int32)), (.ref b9)])) _
    refine st30 _ ?_
    show Steps p.tables e below (T30.setTop (mkF m 79 #[.val (.ref o0), .val (.double d1), .second, .val (.double z32_3), .second, .val (.ref b9), .val (.int (2 : Int32)), .val (.int (3 : Int32)), .val (.double y2), .second] [])) _
    refine Jvm.OwnK.iinc X30.here hx rfl (hb hby d1_79) rfl (l' := #[.val (.ref o0), .val (.double d1), .second, .val (.double z32_3), .second, .val (.ref b9), .val (.int (3 : Int32)), .val (.int (3 : Int32)), .val (.double y2), .second]) (v := (3 : Int32)) (by decide) rfl ?_
    show Steps p.tables e below (T30.setTop (mkF m 82 #[.val (.ref o0), .val (.double d1), .second, .val (.double z32_3), .second, .val (.ref b9), .val (.int (3 : Int32)), .val (.int (3 : Int32)), .val (.double y2), .second] [])) _
    refine XS.goto X30.here hx rfl (pc0 := 82) (pc' := 51) rfl (hb hby d1_82) (by decide) (by decide) ?_
    show Steps p.tables e below (T30.setTop (mkF m 51 #[.val (.ref o0), .val (.double d1), .second, .val (.double z32_3), .second, .val (.ref b9), .val (.int (3 : Int32)), .val (.int (3 : Int32)), .val (.double y2), .second] [])) _
    refine XS.iload X30.here hx rfl (hb hby d1_51) rfl ?_
    show Steps p.tables e below (T30.setTop (mkF m 53 #[.val (.ref o0), .val (.double d1), .second, .val (.double z32_3), .second, .val (.ref b9), .val (.int (3 : Int32)), .val (.int (3 : Int32)), .val (.double y2), .second] [(.int (3 : Int32))])) _
    refine XS.aloadN X30.here hx rfl (hb hby d1_53) rfl rfl ?_
    show Steps p.tables e below (T30.setTop (mkF m 54 #[.val (.ref o0), .val (.double d1), .second, .val (.double z32_3), .second, .val (.ref b9), .val (.int (3 : Int32)), .val (.int (3 : Int32)), .val (.double y2), .second] [(.ref o0), (.int (3 : Int32))])) _
    refine X30.arraylength hx (by rw [e30]; exact Ar33.1) (State.isArrayOf_alike hZ.alike Ar33.2.1) (g := (mkF m 54 #[.val (.ref o0), .val (.double d1), .second, .val (.double z32_3), .second, .val (.ref b9), .val (.int (3 : Int32)), .val (.int (3 : Int32)), .val (.double y2), .second] [(.ref o0), (.int (3 : Int32))])) rfl rfl (hb hby d1_54) _ ?_
    rw [len_of S33 Nn33]
    show Steps p.tables e below (T30.setTop (mkF m 55 #[.val (.ref o0), .val (.double d1), .second, .val (.double z32_3), .second, .val (.ref b9), .val (.int (3 : Int32)), .val (.int (3 : Int32)), .val (.double y2), .second] [(.int (3 : Int32)), (.int (3 : Int32))])) _
    refine XS.icmpYes X30.here hx rfl (pc0 := 55) (pc' := 85) rfl (hb hby d1_55) rfl (Jvm.Free.XT.ii_ge_t (by decide)) (by decide) (by decide) ?_
    show Steps p.tables e below (T30.setTop (mkF m 85 #[.val (.ref o0), .val (.double d1), .second, .val (.double z32_3), .second, .val (.ref b9), .val (.int (3 : Int32)), .val (.int (3 : Int32)), .val (.double y2), .second] [])) _
    refine XS.aload X30.here hx rfl (hb hby d1_85) rfl rfl ?_
    exact k
  obtain ⟨fs, hr, hrun, hended, hW, hsame⟩ := X30.leave (v := some (.ref b9)) (fun h => by rw [Bd.returns] at h; cases h)
  refine ⟨_, _, c34 _ ?_, hrun, hended, _, _, rfl, ?_, ⟨_, rfl⟩, hW, hsame.mono (by decide) (by decide)⟩
  · show Steps p.tables e below (T30.setTop (mkF m 87 #[.val (.ref o0), .val (.double d1), .second, .val (.double z32_3), .second, .val (.ref b9), .val (.int (3 : Int32)), .val (.int (3 : Int32)), .val (.double y2), .second] [(.ref b9)])) _
    exact retOut X30 hx Bd.returns rfl (Or.inr (Or.inr (Or.inr (Or.inr ⟨rfl, rfl, rfl⟩)))) (hb hby d1_87) hr
  · show Q1_3 Z o0 d1 k_o0 y0 y1 y2 z32 z32_2 z32_3 z68 z69 m70_s0 z68_2 z69_2 m70_s0_2 z68_3 z69_3 m70_s0_3 h0 n0 _ T30.heap _
    rw [e30]
    exact ⟨b9, k9, rfl, N30, gz9, K31, V30⟩
def Q3_3 (Z : State) (q0 : Int64) (p1 : Int32) (o2 : Addr) (o3 : Addr) (q5 : Int64) (k_o2 : ClassId) (x0 : Int64) (x1 : Int64) (x2 : Int64) (x3 : Int64) (k_o3 : ClassId) (f0 : Int32) (f1 : Int32) (f2 : Int32) (f3 : Int32) (c16_z12 : Int64) (c16_z14 : Int32) (c16_rv : Int32) (c39_z12 : Int64) (c39_z14 : Int32) (c39_rv : Int32) (c62_z12 : Int64) (c62_z14 : Int32) (c62_rv : Int32) (rv : Int32) (h0 : Heap) (n0 : Nat) (v : Option Value) (h : Heap) (L : List Loc) : Prop := v = some (.int rv) ∧ Fr n0 L ∧ h = h0
set_option maxRecDepth 65536 in
set_option maxHeartbeats 40000000 in
theorem rm3_3 (l : Launch) (Z : State) (a0 : Array Value) (hw : ∀ d ∈ tables_1, d.before a0 Z = true) (ws : List Jvm.Cond) (q0 : Int64) (p1 : Int32) (o2 : Addr) (o3 : Addr) (q5 : Int64) (k_o2 : ClassId) (x0 : Int64) (x1 : Int64) (x2 : Int64) (x3 : Int64) (k_o3 : ClassId) (f0 : Int32) (f1 : Int32) (f2 : Int32) (f3 : Int32) (c16_z12 : Int64) (c16_z14 : Int32) (c16_rv : Int32) (c39_z12 : Int64) (c39_z14 : Int32) (c39_rv : Int32) (c62_z12 : Int64) (c62_z14 : Int32) (c62_rv : Int32) (rv : Int32) (h0 : Heap) (n0 : Nat) (Z0 : n0 ≤ h0.size) (V_o2 : Arv Z h0 o2 k_o2 .long (4 : Int32) [(.long x0), (.long x1), (.long x2), (.long x3)] (.long (0 : Int64))) (V_o3 : Arv Z h0 o3 k_o3 .boolean (4 : Int32) [(.int f0), (.int f1), (.int f2), (.int f3)] (.int (0 : Int32))) (hc16_z12 : q0 + q5 = c16_z12) (hc16_z14 : lcmpW c16_z12 x0 = c16_z14) (hc16_rv : (if f0 = (0 : Int32) then (if p1 = (0 : Int32) then (if c16_z14 < (0 : Int32) then (0 : Int32) else (1 : Int32)) else (0 : Int32)) else (1 : Int32)) = c16_rv) (hc39_z12 : q0 + q5 = c39_z12) (hc39_z14 : lcmpW c39_z12 x1 = c39_z14) (hc39_rv : (if f1 = (0 : Int32) then (if p1 = (0 : Int32) then (if c39_z14 < (0 : Int32) then (0 : Int32) else (1 : Int32)) else (0 : Int32)) else (1 : Int32)) = c39_rv) (hc62_z12 : q0 + q5 = c62_z12) (hc62_z14 : lcmpW c62_z12 x2 = c62_z14) (hc62_rv : (if f2 = (0 : Int32) then (if p1 = (0 : Int32) then (if c62_z14 < (0 : Int32) then (0 : Int32) else (1 : Int32)) else (0 : Int32)) else (1 : Int32)) = c62_rv) (hrv : (if c16_rv = (0 : Int32) then (0 : Int32) else (if c39_rv = (0 : Int32) then (0 : Int32) else (if c62_rv = (0 : Int32) then (0 : Int32) else (1 : Int32)))) = rv) :
    MetFree l (⟨"com/example/credal_choice/credalchoice/criteria/ChoiceNearLargestPinLaw", "near", "(JZ[J[ZIJ)Z"⟩ : MethodName) (head1 (Jvm.Cond.code (⟨"com/example/credal_choice/credalchoice/criteria/ChoiceNearLargestPinLaw", "near", "(JZ[J[ZIJ)Z"⟩ : MethodName) method_4_code 8 (some .boolean) :: ws) ({ frames := 1, cells := 0, slots := 0, locals := 19 } : Room)) (fun a U => a = #[(.long q0), (.int p1), (.ref o2), (.ref o3), (.int (3 : Int32)), (.long q5)] ∧ Z.Warmed39 U.vm ∧ U.heap = h0) (fun _ _ _ _ _ => True) (fun _ U o U' => ∃ v L, o = .returned v ∧ Q3_3 Z q0 p1 o2 o3 q5 k_o2 x0 x1 x2 x3 k_o3 f0 f1 f2 f3 c16_z12 c16_z14 c16_rv c39_z12 c39_z14 c39_rv c62_z12 c62_z14 c62_rv rv h0 n0 v U'.heap L ∧ FrameEnd U o U' L ({ frames := 1, cells := 0, slots := 0, locals := 19 } : Room).cells ({ frames := 1, cells := 0, slots := 0, locals := 19 } : Room).slots) := by
  refine MetFree.of_bodySF (plainFor_of_name pn_0) hisR ?_
  intro p e s m args below meth c s₁ Bd hml0 hP hK
  obtain ⟨rfl, hZ, hh⟩ := hP
  have hx := Bd.exec
  have hby := Bd.bytes
  have hml : c.maxLocals = 8 := hml0
  have hown : s.vm.findClass "com/example/credal_choice/credalchoice/criteria/ChoiceNearLargestPinLaw" = some m.cls := findClass_of_methodNamed Bd.named
  have hnm := (name_of_methodNamed Bd.named Bd.method).1
  have X0 : Stand p l e ({ frames := 1, cells := 0, slots := 0, locals := 19 } : Room) s m #[(.long q0), (.int p1), (.ref o2), (.ref o3), (.int (3 : Int32)), (.long q5)] below meth c s₁ [] 0 0 := Stand.of_body Bd
  have e0 : s₁.heap = h0 := by rw [← hh, Bd.state]; rfl
  have N0 := Fr.nil n0
  have c0 : ∀ t, Steps p.tables e below (s₁.setTop (mkF m 0 #[.val (.long q0), .second, .val (.int p1), .val (.ref o2), .val (.ref o3), .val (.int (3 : Int32)), .val (.long q5), .second] [])) t → Steps p.tables e below (s₁.setTop (entryFrame m #[(.long q0), (.int p1), (.ref o2), (.ref o3), (.int (3 : Int32)), (.long q5)] 8)) t := fun t k => castTop (ef_rm3_3 m q0 p1 o2 o3 q5) k
  obtain ⟨cl1, Ar1, -, S1, -, Ha1, -⟩ := id V_o2
  have in1 : ¬ ((0 : Int32) < 0 ∨ cl1.slots.size ≤ ((0 : Int32)).toNatClampNeg) := inb_of S1 ⟨by decide, by decide⟩
  obtain ⟨cl2, Ar2, -, S2, -, Ha2, -⟩ := id V_o3
  have in2 : ¬ ((0 : Int32) < 0 ∨ cl2.slots.size ≤ ((0 : Int32)).toNatClampNeg) := inb_of S2 ⟨by decide, by decide⟩
  obtain ⟨_, _, ⟨T3, L3, k3, n3⟩, -, X3, ⟨Lc3, hQ3, ql3, qy3, qz3⟩, st3⟩ := Jvm.LawKit.callS X0 hx (y := (⟨"com/example/credal_choice/credalchoice/criteria/ChoiceNearLargestPinLaw", "beats", "(JZJZJ)Z"⟩ : MethodName)) hown (mvT hZ (hw _ (List.mem_of_getElem? (i := 17) rfl))) (mvT hZ (hw _ (List.mem_of_getElem? (i := 18) rfl))) (mvT hZ (hw _ (List.mem_of_getElem? (i := 15) rfl))) (mvT hZ (hw _ (List.mem_of_getElem? (i := 19) rfl))) (by decide) (backOf (W := 0) (rm4 l Z a0 hw [] q0 p1 x0 f0 q5 c16_z12 c16_z14 c16_rv h0 n0 Z0 hc16_z12 hc16_z14 hc16_rv) hZ (hw _ (List.mem_of_getElem? (i := 19) rfl)) (hw _ (List.mem_of_getElem? (i := 15) rfl)) (by decide) (by decide)) (g := (mkF m 16 #[.val (.long q0), .second, .val (.int p1), .val (.ref o2), .val (.ref o3), .val (.int (3 : Int32)), .val (.long q5), .second] [(.long q5), (.int f0), (.long x0), (.int p1), (.long q0)])) rfl (by rw [hml]; rfl) (argsL := [(.long q0), (.int p1), (.long x0), (.int f0), (.long q5)]) (rest := []) (lenOf pd_1 rfl) rfl (by show 2 * 0 + _ ≤ _; exact Nat.le_of_eq rfl) (hb hby d3_16) (fun _ _ => ⟨rfl, e0, (by decide : 0 + 0 ≤ _), (by decide : 0 + 0 ≤ _)⟩)
  dsimp only [Pt.U, Pt.locs, Pt.cells, Pt.slots] at X3 ql3 qy3 qz3 st3 hQ3
  subst ql3 qy3 qz3
  obtain ⟨rfl, N3q, e3⟩ := hQ3
  have N3 := Fr.app N0 N3q
  have c4 : ∀ t, Steps p.tables e below (T3.setTop (mkF m 19 #[.val (.long q0), .second, .val (.int p1), .val (.ref o2), .val (.ref o3), .val (.int (3 : Int32)), .val (.long q5), .second] [(.int c16_rv)])) t → Steps p.tables e below (s₁.setTop (entryFrame m #[(.long q0), (.int p1), (.ref o2), (.ref o3), (.int (3 : Int32)), (.long q5)] 8)) t := by
    intro t k
    refine c0 t ?_
    show Steps p.tables e below (s₁.setTop (mkF m 0 #[.val (.long q0), .second, .val (.int p1), .val (.ref o2), .val (.ref o3), .val (.int (3 : Int32)), .val (.long q5), .second] [])) _
    refine XS.iload X0.here hx rfl (hb hby d3_0) rfl ?_
    show Steps p.tables e below (s₁.setTop (mkF m 2 #[.val (.long q0), .second, .val (.int p1), .val (.ref o2), .val (.ref o3), .val (.int (3 : Int32)), .val (.long q5), .second] [(.int (3 : Int32))])) _
    refine XS.ifNo X0.here hx rfl (hb hby d3_2) rfl (Jvm.Free.XT.i0_le_f (by decide)) ?_
    show Steps p.tables e below (s₁.setTop (mkF m 5 #[.val (.long q0), .second, .val (.int p1), .val (.ref o2), .val (.ref o3), .val (.int (3 : Int32)), .val (.long q5), .second] [])) _
    refine XS.lloadN X0.here hx rfl (hb hby d3_5) rfl ?_
    show Steps p.tables e below (s₁.setTop (mkF m 6 #[.val (.long q0), .second, .val (.int p1), .val (.ref o2), .val (.ref o3), .val (.int (3 : Int32)), .val (.long q5), .second] [(.long q0)])) _
    refine XS.iloadN X0.here hx rfl (hb hby d3_6) rfl ?_
    show Steps p.tables e below (s₁.setTop (mkF m 7 #[.val (.long q0), .second, .val (.int p1), .val (.ref o2), .val (.ref o3), .val (.int (3 : Int32)), .val (.long q5), .second] [(.int p1), (.long q0)])) _
    refine XS.aloadN X0.here hx rfl (hb hby d3_7) rfl rfl ?_
    show Steps p.tables e below (s₁.setTop (mkF m 8 #[.val (.long q0), .second, .val (.int p1), .val (.ref o2), .val (.ref o3), .val (.int (3 : Int32)), .val (.long q5), .second] [(.ref o2), (.int p1), (.long q0)])) _
    refine XS.iconst X0.here hx rfl (hb hby d3_8) ?_
    show Steps p.tables e below (s₁.setTop (mkF m 9 #[.val (.long q0), .second, .val (.int p1), .val (.ref o2), .val (.ref o3), .val (.int (3 : Int32)), .val (.long q5), .second] [(.int (0 : Int32)), (.ref o2), (.int p1), (.long q0)])) _
    refine X0.laload hx (j := (0 : Int32)) (v := (.long x0)) (by rw [e0]; exact Ar1.1) (State.isArrayOf_alike hZ.alike Ar1.2.1) Ar1.2.2 in1 (Has.at Ha1 in1 rfl) (g := (mkF m 9 #[.val (.long q0), .second, .val (.int p1), .val (.ref o2), .val (.ref o3), .val (.int (3 : Int32)), .val (.long q5), .second] [(.int (0 : Int32)), (.ref o2), (.int p1), (.long q0)])) rfl rfl (hb hby d3_9) _ ?_
    show Steps p.tables e below (s₁.setTop (mkF m 10 #[.val (.long q0), .second, .val (.int p1), .val (.ref o2), .val (.ref o3), .val (.int (3 : Int32)), .val (.long q5), .second] [(.long x0), (.int p1), (.long q0)])) _
    refine XS.aload X0.here hx rfl (hb hby d3_10) rfl rfl ?_
    show Steps p.tables e below (s₁.setTop (mkF m 12 #[.val (.long q0), .second, .val (.int p1), .val (.ref o2), .val (.ref o3), .val (.int (3 : Int32)), .val (.long q5), .second] [(.ref o3), (.long x0), (.int p1), (.long q0)])) _
    refine XS.iconst X0.here hx rfl (hb hby d3_12) ?_
    show Steps p.tables e below (s₁.setTop (mkF m 13 #[.val (.long q0), .second, .val (.int p1), .val (.ref o2), .val (.ref o3), .val (.int (3 : Int32)), .val (.long q5), .second] [(.int (0 : Int32)), (.ref o3), (.long x0), (.int p1), (.long q0)])) _
    refine X0.baloadBooleans hx (j := (0 : Int32)) (v := (.int f0)) (by rw [e0]; exact Ar2.1) (State.isArrayOf_alike hZ.alike Ar2.2.1) Ar2.2.2 in2 (Has.at Ha2 in2 rfl) (g := (mkF m 13 #[.val (.long q0), .second, .val (.int p1), .val (.ref o2), .val (.ref o3), .val (.int (3 : Int32)), .val (.long q5), .second] [(.int (0 : Int32)), (.ref o3), (.long x0), (.int p1), (.long q0)])) rfl rfl (hb hby d3_13) _ ?_
    show Steps p.tables e below (s₁.setTop (mkF m 14 #[.val (.long q0), .second, .val (.int p1), .val (.ref o2), .val (.ref o3), .val (.int (3 : Int32)), .val (.long q5), .second] [(.int f0), (.long x0), (.int p1), (.long q0)])) _
    refine XS.lload X0.here hx rfl (hb hby d3_14) rfl ?_
    show Steps p.tables e below (s₁.setTop (mkF m 16 #[.val (.long q0), .second, .val (.int p1), .val (.ref o2), .val (.ref o3), .val (.int (3 : Int32)), .val (.long q5), .second] [(.long q5), (.int f0), (.long x0), (.int p1), (.long q0)])) _
    refine st3 _ ?_
    exact k
  by_cases hb19 : c16_rv = (0 : Int32)
  · skip
    have c5 : ∀ t, Steps p.tables e below (T3.setTop (mkF m 96 #[.val (.long q0), .second, .val (.int p1), .val (.ref o2), .val (.ref o3), .val (.int (3 : Int32)), .val (.long q5), .second] [(.int (0 : Int32))])) t → Steps p.tables e below (s₁.setTop (entryFrame m #[(.long q0), (.int p1), (.ref o2), (.ref o3), (.int (3 : Int32)), (.long q5)] 8)) t := by
      intro t k
      refine c4 t ?_
      show Steps p.tables e below (T3.setTop (mkF m 19 #[.val (.long q0), .second, .val (.int p1), .val (.ref o2), .val (.ref o3), .val (.int (3 : Int32)), .val (.long q5), .second] [(.int c16_rv)])) _
      refine XS.ifYes X3.here hx rfl (pc0 := 19) (pc' := 95) rfl (hb hby d3_19) rfl (Jvm.Free.XT.i0_eq_t hb19) (by decide) (by decide) ?_
      show Steps p.tables e below (T3.setTop (mkF m 95 #[.val (.long q0), .second, .val (.int p1), .val (.ref o2), .val (.ref o3), .val (.int (3 : Int32)), .val (.long q5), .second] [])) _
      refine XS.iconst X3.here hx rfl (hb hby d3_95) ?_
      exact k
    obtain ⟨fs, hr, hrun, hended, hW, hsame⟩ := X3.leave (v := some (.int (0 : Int32))) (fun h => by rw [Bd.returns] at h; cases h)
    refine ⟨_, _, c5 _ ?_, hrun, hended, _, _, rfl, ?_, ⟨_, rfl⟩, hW, hsame.mono (by decide) (by decide)⟩
    · show Steps p.tables e below (T3.setTop (mkF m 96 #[.val (.long q0), .second, .val (.int p1), .val (.ref o2), .val (.ref o3), .val (.int (3 : Int32)), .val (.long q5), .second] [(.int (0 : Int32))])) _
      exact retOut X3 hx Bd.returns rfl (Or.inl ⟨rfl, by simp, _, rfl⟩) (hb hby d3_96) hr
    · show Q3_3 Z q0 p1 o2 o3 q5 k_o2 x0 x1 x2 x3 k_o3 f0 f1 f2 f3 c16_z12 c16_z14 c16_rv c39_z12 c39_z14 c39_rv c62_z12 c62_z14 c62_rv rv h0 n0 _ T3.heap _
      rw [e3]
      exact ⟨(congrArg (fun z => some (Value.int z)) (show (0 : Int32) = rv by rw [← hrv]; simp only [if_pos hb19])), by first | assumption | exact N0, rfl⟩
  · skip
    obtain ⟨cl6, Ar6, -, S6, -, Ha6, -⟩ := id V_o2
    have in6 : ¬ ((1 : Int32) < 0 ∨ cl6.slots.size ≤ ((1 : Int32)).toNatClampNeg) := inb_of S6 ⟨by decide, by decide⟩
    obtain ⟨cl7, Ar7, -, S7, -, Ha7, -⟩ := id V_o3
    have in7 : ¬ ((1 : Int32) < 0 ∨ cl7.slots.size ≤ ((1 : Int32)).toNatClampNeg) := inb_of S7 ⟨by decide, by decide⟩
    obtain ⟨_, _, ⟨T8, L8, k8, n8⟩, -, X8, ⟨Lc8, hQ8, ql8, qy8, qz8⟩, st8⟩ := Jvm.LawKit.callS X3 hx (y := (⟨"com/example/credal_choice/credalchoice/criteria/ChoiceNearLargestPinLaw", "beats", "(JZJZJ)Z"⟩ : MethodName)) hown (mvT hZ (hw _ (List.mem_of_getElem? (i := 17) rfl))) (mvT hZ (hw _ (List.mem_of_getElem? (i := 18) rfl))) (mvT hZ (hw _ (List.mem_of_getElem? (i := 15) rfl))) (mvT hZ (hw _ (List.mem_of_getElem? (i := 19) rfl))) (by decide) (backOf (W := 0) (rm4 l Z a0 hw [] q0 p1 x1 f1 q5 c39_z12 c39_z14 c39_rv h0 n0 Z0 hc39_z12 hc39_z14 hc39_rv) hZ (hw _ (List.mem_of_getElem? (i := 19) rfl)) (hw _ (List.mem_of_getElem? (i := 15) rfl)) (by decide) (by decide)) (g := (mkF m 39 #[.val (.long q0), .second, .val (.int p1), .val (.ref o2), .val (.ref o3), .val (.int (3 : Int32)), .val (.long q5), .second] [(.long q5), (.int f1), (.long x1), (.int p1), (.long q0)])) rfl (by rw [hml]; rfl) (argsL := [(.long q0), (.int p1), (.long x1), (.int f1), (.long q5)]) (rest := []) (lenOf pd_1 rfl) rfl (by show 2 * 0 + _ ≤ _; exact Nat.le_of_eq rfl) (hb hby d3_39) (fun _ _ => ⟨rfl, e3, (by decide : 0 + 0 ≤ _), (by decide : 0 + 0 ≤ _)⟩)
    dsimp only [Pt.U, Pt.locs, Pt.cells, Pt.slots] at X8 ql8 qy8 qz8 st8 hQ8
    subst ql8 qy8 qz8
    obtain ⟨rfl, N8q, e8⟩ := hQ8
    have N8 := Fr.app N3 N8q
    have c9 : ∀ t, Steps p.tables e below (T8.setTop (mkF m 42 #[.val (.long q0), .second, .val (.int p1), .val (.ref o2), .val (.ref o3), .val (.int (3 : Int32)), .val (.long q5), .second] [(.int c39_rv)])) t → Steps p.tables e below (s₁.setTop (entryFrame m #[(.long q0), (.int p1), (.ref o2), (.ref o3), (.int (3 : Int32)), (.long q5)] 8)) t := by
      intro t k
      refine c4 t ?_
      show Steps p.tables e below (T3.setTop (mkF m 19 #[.val (.long q0), .second, .val (.int p1), .val (.ref o2), .val (.ref o3), .val (.int (3 : Int32)), .val (.long q5), .second] [(.int c16_rv)])) _
      refine XS.ifNo X3.here hx rfl (hb hby d3_19) rfl (Jvm.Free.XT.i0_eq_f hb19) ?_
      show Steps p.tables e below (T3.setTop (mkF m 22 #[.val (.long q0), .second, .val (.int p1), .val (.ref o2), .val (.ref o3), .val (.int (3 : Int32)), .val (.long q5), .second] [])) _
      refine XS.iload X3.here hx rfl (hb hby d3_22) rfl ?_
      show Steps p.tables e below (T3.setTop (mkF m 24 #[.val (.long q0), .second, .val (.int p1), .val (.ref o2), .val (.ref o3), .val (.int (3 : Int32)), .val (.long q5), .second] [(.int (3 : Int32))])) _
      refine XS.iconst X3.here hx rfl (hb hby d3_24) ?_
      show Steps p.tables e below (T3.setTop (mkF m 25 #[.val (.long q0), .second, .val (.int p1), .val (.ref o2), .val (.ref o3), .val (.int (3 : Int32)), .val (.long q5), .second] [(.int (1 : Int32)), (.int (3 : Int32))])) _
      refine XS.icmpNo X3.here hx rfl (hb hby d3_25) rfl (Jvm.Free.XT.ii_le_f (by decide)) ?_
      show Steps p.tables e below (T3.setTop (mkF m 28 #[.val (.long q0), .second, .val (.int p1), .val (.ref o2), .val (.ref o3), .val (.int (3 : Int32)), .val (.long q5), .second] [])) _
      refine XS.lloadN X3.here hx rfl (hb hby d3_28) rfl ?_
      show Steps p.tables e below (T3.setTop (mkF m 29 #[.val (.long q0), .second, .val (.int p1), .val (.ref o2), .val (.ref o3), .val (.int (3 : Int32)), .val (.long q5), .second] [(.long q0)])) _
      refine XS.iloadN X3.here hx rfl (hb hby d3_29) rfl ?_
      show Steps p.tables e below (T3.setTop (mkF m 30 #[.val (.long q0), .second, .val (.int p1), .val (.ref o2), .val (.ref o3), .val (.int (3 : Int32)), .val (.long q5), .second] [(.int p1), (.long q0)])) _
      refine XS.aloadN X3.here hx rfl (hb hby d3_30) rfl rfl ?_
      show Steps p.tables e below (T3.setTop (mkF m 31 #[.val (.long q0), .second, .val (.int p1), .val (.ref o2), .val (.ref o3), .val (.int (3 : Int32)), .val (.long q5), .second] [(.ref o2), (.int p1), (.long q0)])) _
      refine XS.iconst X3.here hx rfl (hb hby d3_31) ?_
      show Steps p.tables e below (T3.setTop (mkF m 32 #[.val (.long q0), .second, .val (.int p1), .val (.ref o2), .val (.ref o3), .val (.int (3 : Int32)), .val (.long q5), .second] [(.int (1 : Int32)), (.ref o2), (.int p1), (.long q0)])) _
      refine X3.laload hx (j := (1 : Int32)) (v := (.long x1)) (by rw [e3]; exact Ar6.1) (State.isArrayOf_alike hZ.alike Ar6.2.1) Ar6.2.2 in6 (Has.at Ha6 in6 rfl) (g := (mkF m 32 #[.val (.long q0), .second, .val (.int p1), .val (.ref o2), .val (.ref o3), .val (.int (3 : Int32)), .val (.long q5), .second] [(.int (1 : Int32)), (.ref o2), (.int p1), (.long q0)])) rfl rfl (hb hby d3_32) _ ?_
      show Steps p.tables e below (T3.setTop (mkF m 33 #[.val (.long q0), .second, .val (.int p1), .val (.ref o2), .val (.ref o3), .val (.int (3 : Int32)), .val (.long q5), .second] [(.long x1), (.int p1), (.long q0)])) _
      refine XS.aload X3.here hx rfl (hb hby d3_33) rfl rfl ?_
      show Steps p.tables e below (T3.setTop (mkF m 35 #[.val (.long q0), .second, .val (.int p1), .val (.ref o2), .val (.ref o3), .val (.int (3 : Int32)), .val (.long q5), .second] [(.ref o3), (.long x1), (.int p1), (.long q0)])) _
      refine XS.iconst X3.here hx rfl (hb hby d3_35) ?_
      show Steps p.tables e below (T3.setTop (mkF m 36 #[.val (.long q0), .second, .val (.int p1), .val (.ref o2), .val (.ref o3), .val (.int (3 : Int32)), .val (.long q5), .second] [(.int (1 : Int32)), (.ref o3), (.long x1), (.int p1), (.long q0)])) _
      refine X3.baloadBooleans hx (j := (1 : Int32)) (v := (.int f1)) (by rw [e3]; exact Ar7.1) (State.isArrayOf_alike hZ.alike Ar7.2.1) Ar7.2.2 in7 (Has.at Ha7 in7 rfl) (g := (mkF m 36 #[.val (.long q0), .second, .val (.int p1), .val (.ref o2), .val (.ref o3), .val (.int (3 : Int32)), .val (.long q5), .second] [(.int (1 : Int32)), (.ref o3), (.long x1), (.int p1), (.long q0)])) rfl rfl (hb hby d3_36) _ ?_
      show Steps p.tables e below (T3.setTop (mkF m 37 #[.val (.long q0), .second, .val (.int p1), .val (.ref o2), .val (.ref o3), .val (.int (3 : Int32)), .val (.long q5), .second] [(.int f1), (.long x1), (.int p1), (.long q0)])) _
      refine XS.lload X3.here hx rfl (hb hby d3_37) rfl ?_
      show Steps p.tables e below (T3.setTop (mkF m 39 #[.val (.long q0), .second, .val (.int p1), .val (.ref o2), .val (.ref o3), .val (.int (3 : Int32)), .val (.long q5), .second] [(.long q5), (.int f1), (.long x1), (.int p1), (.long q0)])) _
      refine st8 _ ?_
      exact k
    by_cases hb42 : c39_rv = (0 : Int32)
    · skip
      have c10 : ∀ t, Steps p.tables e below (T8.setTop (mkF m 96 #[.val (.long q0), .second, .val (.int p1), .val (.ref o2), .val (.ref o3), .val (.int (3 : Int32)), .val (.long q5), .second] [(.int (0 : Int32))])) t → Steps p.tables e below (s₁.setTop (entryFrame m #[(.long q0), (.int p1), (.ref o2), (.ref o3), (.int (3 : Int32)), (.long q5)] 8)) t := by
        intro t k
        refine c9 t ?_
        show Steps p.tables e below (T8.setTop (mkF m 42 #[.val (.long q0), .second, .val (.int p1), .val (.ref o2), .val (.ref o3), .val (.int (3 : Int32)), .val (.long q5), .second] [(.int c39_rv)])) _
        refine XS.ifYes X8.here hx rfl (pc0 := 42) (pc' := 95) rfl (hb hby d3_42) rfl (Jvm.Free.XT.i0_eq_t hb42) (by decide) (by decide) ?_
        show Steps p.tables e below (T8.setTop (mkF m 95 #[.val (.long q0), .second, .val (.int p1), .val (.ref o2), .val (.ref o3), .val (.int (3 : Int32)), .val (.long q5), .second] [])) _
        refine XS.iconst X8.here hx rfl (hb hby d3_95) ?_
        exact k
      obtain ⟨fs, hr, hrun, hended, hW, hsame⟩ := X8.leave (v := some (.int (0 : Int32))) (fun h => by rw [Bd.returns] at h; cases h)
      refine ⟨_, _, c10 _ ?_, hrun, hended, _, _, rfl, ?_, ⟨_, rfl⟩, hW, hsame.mono (by decide) (by decide)⟩
      · show Steps p.tables e below (T8.setTop (mkF m 96 #[.val (.long q0), .second, .val (.int p1), .val (.ref o2), .val (.ref o3), .val (.int (3 : Int32)), .val (.long q5), .second] [(.int (0 : Int32))])) _
        exact retOut X8 hx Bd.returns rfl (Or.inl ⟨rfl, by simp, _, rfl⟩) (hb hby d3_96) hr
      · show Q3_3 Z q0 p1 o2 o3 q5 k_o2 x0 x1 x2 x3 k_o3 f0 f1 f2 f3 c16_z12 c16_z14 c16_rv c39_z12 c39_z14 c39_rv c62_z12 c62_z14 c62_rv rv h0 n0 _ T8.heap _
        rw [e8]
        exact ⟨(congrArg (fun z => some (Value.int z)) (show (0 : Int32) = rv by rw [← hrv]; simp only [if_neg hb19, if_pos hb42])), by first | assumption | exact N0, rfl⟩
    · skip
      obtain ⟨cl11, Ar11, -, S11, -, Ha11, -⟩ := id V_o2
      have in11 : ¬ ((2 : Int32) < 0 ∨ cl11.slots.size ≤ ((2 : Int32)).toNatClampNeg) := inb_of S11 ⟨by decide, by decide⟩
      obtain ⟨cl12, Ar12, -, S12, -, Ha12, -⟩ := id V_o3
      have in12 : ¬ ((2 : Int32) < 0 ∨ cl12.slots.size ≤ ((2 : Int32)).toNatClampNeg) := inb_of S12 ⟨by decide, by decide⟩
      obtain ⟨_, _, ⟨T13, L13, k13, n13⟩, -, X13, ⟨Lc13, hQ13, ql13, qy13, qz13⟩, st13⟩ := Jvm.LawKit.callS X8 hx (y := (⟨"com/example/credal_choice/credalchoice/criteria/ChoiceNearLargestPinLaw", "beats", "(JZJZJ)Z"⟩ : MethodName)) hown (mvT hZ (hw _ (List.mem_of_getElem? (i := 17) rfl))) (mvT hZ (hw _ (List.mem_of_getElem? (i := 18) rfl))) (mvT hZ (hw _ (List.mem_of_getElem? (i := 15) rfl))) (mvT hZ (hw _ (List.mem_of_getElem? (i := 19) rfl))) (by decide) (backOf (W := 0) (rm4 l Z a0 hw [] q0 p1 x2 f2 q5 c62_z12 c62_z14 c62_rv h0 n0 Z0 hc62_z12 hc62_z14 hc62_rv) hZ (hw _ (List.mem_of_getElem? (i := 19) rfl)) (hw _ (List.mem_of_getElem? (i := 15) rfl)) (by decide) (by decide)) (g := (mkF m 62 #[.val (.long q0), .second, .val (.int p1), .val (.ref o2), .val (.ref o3), .val (.int (3 : Int32)), .val (.long q5), .second] [(.long q5), (.int f2), (.long x2), (.int p1), (.long q0)])) rfl (by rw [hml]; rfl) (argsL := [(.long q0), (.int p1), (.long x2), (.int f2), (.long q5)]) (rest := []) (lenOf pd_1 rfl) rfl (by show 2 * 0 + _ ≤ _; exact Nat.le_of_eq rfl) (hb hby d3_62) (fun _ _ => ⟨rfl, e8, (by decide : 0 + 0 ≤ _), (by decide : 0 + 0 ≤ _)⟩)
      dsimp only [Pt.U, Pt.locs, Pt.cells, Pt.slots] at X13 ql13 qy13 qz13 st13 hQ13
      subst ql13 qy13 qz13
      obtain ⟨rfl, N13q, e13⟩ := hQ13
      have N13 := Fr.app N8 N13q
      have c14 : ∀ t, Steps p.tables e below (T13.setTop (mkF m 65 #[.val (.long q0), .second, .val (.int p1), .val (.ref o2), .val (.ref o3), .val (.int (3 : Int32)), .val (.long q5), .second] [(.int c62_rv)])) t → Steps p.tables e below (s₁.setTop (entryFrame m #[(.long q0), (.int p1), (.ref o2), (.ref o3), (.int (3 : Int32)), (.long q5)] 8)) t := by
        intro t k
        refine c9 t ?_
        show Steps p.tables e below (T8.setTop (mkF m 42 #[.val (.long q0), .second, .val (.int p1), .val (.ref o2), .val (.ref o3), .val (.int (3 : Int32)), .val (.long q5), .second] [(.int c39_rv)])) _
        refine XS.ifNo X8.here hx rfl (hb hby d3_42) rfl (Jvm.Free.XT.i0_eq_f hb42) ?_
        show Steps p.tables e below (T8.setTop (mkF m 45 #[.val (.long q0), .second, .val (.int p1), .val (.ref o2), .val (.ref o3), .val (.int (3 : Int32)), .val (.long q5), .second] [])) _
        refine XS.iload X8.here hx rfl (hb hby d3_45) rfl ?_
        show Steps p.tables e below (T8.setTop (mkF m 47 #[.val (.long q0), .second, .val (.int p1), .val (.ref o2), .val (.ref o3), .val (.int (3 : Int32)), .val (.long q5), .second] [(.int (3 : Int32))])) _
        refine XS.iconst X8.here hx rfl (hb hby d3_47) ?_
        show Steps p.tables e below (T8.setTop (mkF m 48 #[.val (.long q0), .second, .val (.int p1), .val (.ref o2), .val (.ref o3), .val (.int (3 : Int32)), .val (.long q5), .second] [(.int (2 : Int32)), (.int (3 : Int32))])) _
        refine XS.icmpNo X8.here hx rfl (hb hby d3_48) rfl (Jvm.Free.XT.ii_le_f (by decide)) ?_
        show Steps p.tables e below (T8.setTop (mkF m 51 #[.val (.long q0), .second, .val (.int p1), .val (.ref o2), .val (.ref o3), .val (.int (3 : Int32)), .val (.long q5), .second] [])) _
        refine XS.lloadN X8.here hx rfl (hb hby d3_51) rfl ?_
        show Steps p.tables e below (T8.setTop (mkF m 52 #[.val (.long q0), .second, .val (.int p1), .val (.ref o2), .val (.ref o3), .val (.int (3 : Int32)), .val (.long q5), .second] [(.long q0)])) _
        refine XS.iloadN X8.here hx rfl (hb hby d3_52) rfl ?_
        show Steps p.tables e below (T8.setTop (mkF m 53 #[.val (.long q0), .second, .val (.int p1), .val (.ref o2), .val (.ref o3), .val (.int (3 : Int32)), .val (.long q5), .second] [(.int p1), (.long q0)])) _
        refine XS.aloadN X8.here hx rfl (hb hby d3_53) rfl rfl ?_
        show Steps p.tables e below (T8.setTop (mkF m 54 #[.val (.long q0), .second, .val (.int p1), .val (.ref o2), .val (.ref o3), .val (.int (3 : Int32)), .val (.long q5), .second] [(.ref o2), (.int p1), (.long q0)])) _
        refine XS.iconst X8.here hx rfl (hb hby d3_54) ?_
        show Steps p.tables e below (T8.setTop (mkF m 55 #[.val (.long q0), .second, .val (.int p1), .val (.ref o2), .val (.ref o3), .val (.int (3 : Int32)), .val (.long q5), .second] [(.int (2 : Int32)), (.ref o2), (.int p1), (.long q0)])) _
        refine X8.laload hx (j := (2 : Int32)) (v := (.long x2)) (by rw [e8]; exact Ar11.1) (State.isArrayOf_alike hZ.alike Ar11.2.1) Ar11.2.2 in11 (Has.at Ha11 in11 rfl) (g := (mkF m 55 #[.val (.long q0), .second, .val (.int p1), .val (.ref o2), .val (.ref o3), .val (.int (3 : Int32)), .val (.long q5), .second] [(.int (2 : Int32)), (.ref o2), (.int p1), (.long q0)])) rfl rfl (hb hby d3_55) _ ?_
        show Steps p.tables e below (T8.setTop (mkF m 56 #[.val (.long q0), .second, .val (.int p1), .val (.ref o2), .val (.ref o3), .val (.int (3 : Int32)), .val (.long q5), .second] [(.long x2), (.int p1), (.long q0)])) _
        refine XS.aload X8.here hx rfl (hb hby d3_56) rfl rfl ?_
        show Steps p.tables e below (T8.setTop (mkF m 58 #[.val (.long q0), .second, .val (.int p1), .val (.ref o2), .val (.ref o3), .val (.int (3 : Int32)), .val (.long q5), .second] [(.ref o3), (.long x2), (.int p1), (.long q0)])) _
        refine XS.iconst X8.here hx rfl (hb hby d3_58) ?_
        show Steps p.tables e below (T8.setTop (mkF m 59 #[.val (.long q0), .second, .val (.int p1), .val (.ref o2), .val (.ref o3), .val (.int (3 : Int32)), .val (.long q5), .second] [(.int (2 : Int32)), (.ref o3), (.long x2), (.int p1), (.long q0)])) _
        refine X8.baloadBooleans hx (j := (2 : Int32)) (v := (.int f2)) (by rw [e8]; exact Ar12.1) (State.isArrayOf_alike hZ.alike Ar12.2.1) Ar12.2.2 in12 (Has.at Ha12 in12 rfl) (g := (mkF m 59 #[.val (.long q0), .second, .val (.int p1), .val (.ref o2), .val (.ref o3), .val (.int (3 : Int32)), .val (.long q5), .second] [(.int (2 : Int32)), (.ref o3), (.long x2), (.int p1), (.long q0)])) rfl rfl (hb hby d3_59) _ ?_
        show Steps p.tables e below (T8.setTop (mkF m 60 #[.val (.long q0), .second, .val (.int p1), .val (.ref o2), .val (.ref o3), .val (.int (3 : Int32)), .val (.long q5), .second] [(.int f2), (.long x2), (.int p1), (.long q0)])) _
        refine XS.lload X8.here hx rfl (hb hby d3_60) rfl ?_
        show Steps p.tables e below (T8.setTop (mkF m 62 #[.val (.long q0), .second, .val (.int p1), .val (.ref o2), .val (.ref o3), .val (.int (3 : Int32)), .val (.long q5), .second] [(.long q5), (.int f2), (.long x2), (.int p1), (.long q0)])) _
        refine st13 _ ?_
        exact k
      by_cases hb65 : c62_rv = (0 : Int32)
      · skip
        have c15 : ∀ t, Steps p.tables e below (T13.setTop (mkF m 96 #[.val (.long q0), .second, .val (.int p1), .val (.ref o2), .val (.ref o3), .val (.int (3 : Int32)), .val (.long q5), .second] [(.int (0 : Int32))])) t → Steps p.tables e below (s₁.setTop (entryFrame m #[(.long q0), (.int p1), (.ref o2), (.ref o3), (.int (3 : Int32)), (.long q5)] 8)) t := by
          intro t k
          refine c14 t ?_
          show Steps p.tables e below (T13.setTop (mkF m 65 #[.val (.long q0), .second, .val (.int p1), .val (.ref o2), .val (.ref o3), .val (.int (3 : Int32)), .val (.long q5), .second] [(.int c62_rv)])) _
          refine XS.ifYes X13.here hx rfl (pc0 := 65) (pc' := 95) rfl (hb hby d3_65) rfl (Jvm.Free.XT.i0_eq_t hb65) (by decide) (by decide) ?_
          show Steps p.tables e below (T13.setTop (mkF m 95 #[.val (.long q0), .second, .val (.int p1), .val (.ref o2), .val (.ref o3), .val (.int (3 : Int32)), .val (.long q5), .second] [])) _
          refine XS.iconst X13.here hx rfl (hb hby d3_95) ?_
          exact k
        obtain ⟨fs, hr, hrun, hended, hW, hsame⟩ := X13.leave (v := some (.int (0 : Int32))) (fun h => by rw [Bd.returns] at h; cases h)
        refine ⟨_, _, c15 _ ?_, hrun, hended, _, _, rfl, ?_, ⟨_, rfl⟩, hW, hsame.mono (by decide) (by decide)⟩
        · show Steps p.tables e below (T13.setTop (mkF m 96 #[.val (.long q0), .second, .val (.int p1), .val (.ref o2), .val (.ref o3), .val (.int (3 : Int32)), .val (.long q5), .second] [(.int (0 : Int32))])) _
          exact retOut X13 hx Bd.returns rfl (Or.inl ⟨rfl, by simp, _, rfl⟩) (hb hby d3_96) hr
        · show Q3_3 Z q0 p1 o2 o3 q5 k_o2 x0 x1 x2 x3 k_o3 f0 f1 f2 f3 c16_z12 c16_z14 c16_rv c39_z12 c39_z14 c39_rv c62_z12 c62_z14 c62_rv rv h0 n0 _ T13.heap _
          rw [e13]
          exact ⟨(congrArg (fun z => some (Value.int z)) (show (0 : Int32) = rv by rw [← hrv]; simp only [if_neg hb19, if_neg hb42, if_pos hb65])), by first | assumption | exact N0, rfl⟩
      · skip
        have c16 : ∀ t, Steps p.tables e below (T13.setTop (mkF m 96 #[.val (.long q0), .second, .val (.int p1), .val (.ref o2), .val (.ref o3), .val (.int (3 : Int32)), .val (.long q5), .second] [(.int (1 : Int32))])) t → Steps p.tables e below (s₁.setTop (entryFrame m #[(.long q0), (.int p1), (.ref o2), (.ref o3), (.int (3 : Int32)), (.long q5)] 8)) t := by
          intro t k
          refine c14 t ?_
          show Steps p.tables e below (T13.setTop (mkF m 65 #[.val (.long q0), .second, .val (.int p1), .val (.ref o2), .val (.ref o3), .val (.int (3 : Int32)), .val (.long q5), .second] [(.int c62_rv)])) _
          refine XS.ifNo X13.here hx rfl (hb hby d3_65) rfl (Jvm.Free.XT.i0_eq_f hb65) ?_
          show Steps p.tables e below (T13.setTop (mkF m 68 #[.val (.long q0), .second, .val (.int p1), .val (.ref o2), .val (.ref o3), .val (.int (3 : Int32)), .val (.long q5), .second] [])) _
          refine XS.iload X13.here hx rfl (hb hby d3_68) rfl ?_
          show Steps p.tables e below (T13.setTop (mkF m 70 #[.val (.long q0), .second, .val (.int p1), .val (.ref o2), .val (.ref o3), .val (.int (3 : Int32)), .val (.long q5), .second] [(.int (3 : Int32))])) _
          refine XS.iconst X13.here hx rfl (hb hby d3_70) ?_
          show Steps p.tables e below (T13.setTop (mkF m 71 #[.val (.long q0), .second, .val (.int p1), .val (.ref o2), .val (.ref o3), .val (.int (3 : Int32)), .val (.long q5), .second] [(.int (3 : Int32)), (.int (3 : Int32))])) _
          refine XS.icmpYes X13.here hx rfl (pc0 := 71) (pc' := 91) rfl (hb hby d3_71) rfl (Jvm.Free.XT.ii_le_t (by decide)) (by decide) (by decide) ?_
          show Steps p.tables e below (T13.setTop (mkF m 91 #[.val (.long q0), .second, .val (.int p1), .val (.ref o2), .val (.ref o3), .val (.int (3 : Int32)), .val (.long q5), .second] [])) _
          refine XS.iconst X13.here hx rfl (hb hby d3_91) ?_
          show Steps p.tables e below (T13.setTop (mkF m 92 #[.val (.long q0), .second, .val (.int p1), .val (.ref o2), .val (.ref o3), .val (.int (3 : Int32)), .val (.long q5), .second] [(.int (1 : Int32))])) _
          refine XS.goto X13.here hx rfl (pc0 := 92) (pc' := 96) rfl (hb hby d3_92) (by decide) (by decide) ?_
          exact k
        obtain ⟨fs, hr, hrun, hended, hW, hsame⟩ := X13.leave (v := some (.int (1 : Int32))) (fun h => by rw [Bd.returns] at h; cases h)
        refine ⟨_, _, c16 _ ?_, hrun, hended, _, _, rfl, ?_, ⟨_, rfl⟩, hW, hsame.mono (by decide) (by decide)⟩
        · show Steps p.tables e below (T13.setTop (mkF m 96 #[.val (.long q0), .second, .val (.int p1), .val (.ref o2), .val (.ref o3), .val (.int (3 : Int32)), .val (.long q5), .second] [(.int (1 : Int32))])) _
          exact retOut X13 hx Bd.returns rfl (Or.inl ⟨rfl, by simp, _, rfl⟩) (hb hby d3_96) hr
        · show Q3_3 Z q0 p1 o2 o3 q5 k_o2 x0 x1 x2 x3 k_o3 f0 f1 f2 f3 c16_z12 c16_z14 c16_rv c39_z12 c39_z14 c39_rv c62_z12 c62_z14 c62_rv rv h0 n0 _ T13.heap _
          rw [e13]
          exact ⟨(congrArg (fun z => some (Value.int z)) (show (1 : Int32) = rv by rw [← hrv]; simp only [if_neg hb19, if_neg hb42, if_neg hb65])), by first | assumption | exact N0, rfl⟩
def Q1_4 (Z : State) (o0 : Addr) (d1 : UInt64) (k_o0 : ClassId) (y0 : UInt64) (y1 : UInt64) (y2 : UInt64) (y3 : UInt64) (z32 : UInt64) (z32_2 : UInt64) (z32_3 : UInt64) (z32_4 : UInt64) (z68 : UInt64) (z69 : Int32) (m70_s0 : Int32) (z68_2 : UInt64) (z69_2 : Int32) (m70_s0_2 : Int32) (z68_3 : UInt64) (z69_3 : Int32) (m70_s0_3 : Int32) (z68_4 : UInt64) (z69_4 : Int32) (m70_s0_4 : Int32) (h0 : Heap) (n0 : Nat) (v : Option Value) (h : Heap) (L : List Loc) : Prop := ∃ b11 : Addr, ∃ k11 : ClassId, v = some (.ref b11) ∧ Fr n0 L ∧ h0.size ≤ b11 ∧ Keep h0 h [] ∧ Arv Z h b11 k11 .boolean (4 : Int32) [(.int m70_s0), (.int m70_s0_2), (.int m70_s0_3), (.int m70_s0_4)] (.int (0 : Int32))
set_option maxRecDepth 65536 in
set_option maxHeartbeats 40000000 in
theorem rm1_4 (l : Launch) (Z : State) (a0 : Array Value) (hw : ∀ d ∈ tables_1, d.before a0 Z = true) (ws : List Jvm.Cond) (o0 : Addr) (d1 : UInt64) (k_o0 : ClassId) (y0 : UInt64) (y1 : UInt64) (y2 : UInt64) (y3 : UInt64) (z32 : UInt64) (z32_2 : UInt64) (z32_3 : UInt64) (z32_4 : UInt64) (z68 : UInt64) (z69 : Int32) (m70_s0 : Int32) (z68_2 : UInt64) (z69_2 : Int32) (m70_s0_2 : Int32) (z68_3 : UInt64) (z69_3 : Int32) (m70_s0_3 : Int32) (z68_4 : UInt64) (z69_4 : Int32) (m70_s0_4 : Int32) (h0 : Heap) (n0 : Nat) (Z0 : n0 ≤ h0.size) (V_o0 : Arv Z h0 o0 k_o0 .double (4 : Int32) [(.double y0), (.double y1), (.double y2), (.double y3)] (.double (0 : UInt64))) (hz32 : Jvm.Native.java_lang_Math.nans.pick64 true (18442240474082181120 : UInt64) y0 = z32) (hz32_2 : Jvm.Native.java_lang_Math.nans.pick64 true z32 y1 = z32_2) (hz32_3 : Jvm.Native.java_lang_Math.nans.pick64 true z32_2 y2 = z32_3) (hz32_4 : Jvm.Native.java_lang_Math.nans.pick64 true z32_3 y3 = z32_4) (hz68 : FP.dsub z32_4 d1 = z68) (hz69 : cmpValue (FP.dcmp y0 z68) .l = z69) (hm70_s0 : (if z69 < (0 : Int32) then (0 : Int32) else (1 : Int32)) = m70_s0) (hz68_2 : FP.dsub z32_4 d1 = z68_2) (hz69_2 : cmpValue (FP.dcmp y1 z68_2) .l = z69_2) (hm70_s0_2 : (if z69_2 < (0 : Int32) then (0 : Int32) else (1 : Int32)) = m70_s0_2) (hz68_3 : FP.dsub z32_4 d1 = z68_3) (hz69_3 : cmpValue (FP.dcmp y2 z68_3) .l = z69_3) (hm70_s0_3 : (if z69_3 < (0 : Int32) then (0 : Int32) else (1 : Int32)) = m70_s0_3) (hz68_4 : FP.dsub z32_4 d1 = z68_4) (hz69_4 : cmpValue (FP.dcmp y3 z68_4) .l = z69_4) (hm70_s0_4 : (if z69_4 < (0 : Int32) then (0 : Int32) else (1 : Int32)) = m70_s0_4) (nm0_32 : Jvm.Free.Fl.NoNaN64 (18442240474082181120 : UInt64)) (nm1_32 : Jvm.Free.Fl.NoNaN64 y0) (nm0_32_2 : Jvm.Free.Fl.NoNaN64 z32) (nm1_32_2 : Jvm.Free.Fl.NoNaN64 y1) (nm0_32_3 : Jvm.Free.Fl.NoNaN64 z32_2) (nm1_32_3 : Jvm.Free.Fl.NoNaN64 y2) (nm0_32_4 : Jvm.Free.Fl.NoNaN64 z32_3) (nm1_32_4 : Jvm.Free.Fl.NoNaN64 y3) (nn68 : Jvm.Free.Fl.NoNaN64 z68) (nb78 : nar .boolean m70_s0 = m70_s0) (fi78 : fits .boolean (.int m70_s0) = true) (nn68_2 : Jvm.Free.Fl.NoNaN64 z68_2) (nb78_2 : nar .boolean m70_s0_2 = m70_s0_2) (fi78_2 : fits .boolean (.int m70_s0_2) = true) (nn68_3 : Jvm.Free.Fl.NoNaN64 z68_3) (nb78_3 : nar .boolean m70_s0_3 = m70_s0_3) (fi78_3 : fits .boolean (.int m70_s0_3) = true) (nn68_4 : Jvm.Free.Fl.NoNaN64 z68_4) (nb78_4 : nar .boolean m70_s0_4 = m70_s0_4) (fi78_4 : fits .boolean (.int m70_s0_4) = true) :
    MetFree l (⟨"com/example/credal_choice/credalchoice/criteria/Choice", "nearLargest", "([DD)[Z"⟩ : MethodName) (head1 (Jvm.Cond.code (⟨"com/example/credal_choice/credalchoice/criteria/Choice", "nearLargest", "([DD)[Z"⟩ : MethodName) prog_5_method_6_code 10 (some (.array .boolean)) :: ws) ({ frames := 1, cells := 1, slots := 4, locals := 15 } : Room)) (fun a U => a = #[(.ref o0), (.double d1)] ∧ Z.Warmed39 U.vm ∧ U.heap = h0) (fun _ _ _ _ _ => True) (fun _ U o U' => ∃ v L, o = .returned v ∧ Q1_4 Z o0 d1 k_o0 y0 y1 y2 y3 z32 z32_2 z32_3 z32_4 z68 z69 m70_s0 z68_2 z69_2 m70_s0_2 z68_3 z69_3 m70_s0_3 z68_4 z69_4 m70_s0_4 h0 n0 v U'.heap L ∧ FrameEnd U o U' L ({ frames := 1, cells := 1, slots := 4, locals := 15 } : Room).cells ({ frames := 1, cells := 1, slots := 4, locals := 15 } : Room).slots) := by
  refine MetFree.of_bodySF (plainFor_of_name pn_1) hisR ?_
  intro p e s m args below meth c s₁ Bd hml0 hP hK
  obtain ⟨rfl, hZ, hh⟩ := hP
  have hx := Bd.exec
  have hby := Bd.bytes
  have hml : c.maxLocals = 10 := hml0
  have hown : s.vm.findClass "com/example/credal_choice/credalchoice/criteria/Choice" = some m.cls := findClass_of_methodNamed Bd.named
  have hnm := (name_of_methodNamed Bd.named Bd.method).1
  have X0 : Stand p l e ({ frames := 1, cells := 1, slots := 4, locals := 15 } : Room) s m #[(.ref o0), (.double d1)] below meth c s₁ [] 0 0 := Stand.of_body Bd
  have e0 : s₁.heap = h0 := by rw [← hh, Bd.state]; rfl
  have N0 := Fr.nil n0
  have c0 : ∀ t, Steps p.tables e below (s₁.setTop (mkF m 0 #[.val (.ref o0), .val (.double d1), .second, .unset, .unset, .unset, .unset, .unset, .unset, .unset] [])) t → Steps p.tables e below (s₁.setTop (entryFrame m #[(.ref o0), (.double d1)] 10)) t := fun t k => castTop (ef_rm1_4 m o0 d1) k
  obtain ⟨cl1, Ar1, -, S1, Nn1, -, -⟩ := id V_o0
  obtain ⟨cl2, Ar2, -, S2, -, Ha2, -⟩ := id V_o0
  have in2 : ¬ ((0 : Int32) < 0 ∨ cl2.slots.size ≤ ((0 : Int32)).toNatClampNeg) := inb_of S2 ⟨by decide, by decide⟩
  obtain ⟨T3, X3, e3, st3⟩ := natS X0 hx hZ (y := (⟨"java/lang/Math", "max", "(DD)D"⟩ : MethodName)) hown (hw _ (List.mem_of_getElem? (i := 9) rfl)) (hw _ (List.mem_of_getElem? (i := 10) rfl)) (hw _ (List.mem_of_getElem? (i := 11) rfl)) (hw _ (List.mem_of_getElem? (i := 12) rfl)) (by decide) e0 (W := 0) (fun hq => Jvm.Free.Fl.Abs.maxD_pays (18442240474082181120 : UInt64) y0 hq (by decide) (by decide)) (g := (mkF m 32 #[.val (.ref o0), .val (.double d1), .second, .val (.double (18442240474082181120 : UInt64)), .second, .val (.ref o0), .val (.int (4 : Int32)), .val (.int (0 : Int32)), .val (.double y0), .second] [(.double y0), (.double (18442240474082181120 : UInt64))])) rfl (by rw [hml]; rfl) (argsL := [(.double (18442240474082181120 : UInt64)), (.double y0)]) (rest := []) (lenOf pd_0 rfl) rfl (by show 2 * 0 + _ ≤ _; exact Nat.le_of_eq rfl) (hb hby d1_32) (by decide) (by decide) ⟨rfl, nm0_32, nm1_32⟩ (congrArg Value.double hz32)
  obtain ⟨cl4, Ar4, -, S4, -, Ha4, -⟩ := id V_o0
  have in4 : ¬ ((1 : Int32) < 0 ∨ cl4.slots.size ≤ ((1 : Int32)).toNatClampNeg) := inb_of S4 ⟨by decide, by decide⟩
  obtain ⟨T5, X5, e5, st5⟩ := natS X3 hx hZ (y := (⟨"java/lang/Math", "max", "(DD)D"⟩ : MethodName)) hown (hw _ (List.mem_of_getElem? (i := 9) rfl)) (hw _ (List.mem_of_getElem? (i := 10) rfl)) (hw _ (List.mem_of_getElem? (i := 11) rfl)) (hw _ (List.mem_of_getElem? (i := 12) rfl)) (by decide) e3 (W := 0) (fun hq => Jvm.Free.Fl.Abs.maxD_pays z32 y1 hq (by decide) (by decide)) (g := (mkF m 32 #[.val (.ref o0), .val (.double d1), .second, .val (.double z32), .second, .val (.ref o0), .val (.int (4 : Int32)), .val (.int (1 : Int32)), .val (.double y1), .second] [(.double y1), (.double z32)])) rfl (by rw [hml]; rfl) (argsL := [(.double z32), (.double y1)]) (rest := []) (lenOf pd_0 rfl) rfl (by show 2 * 0 + _ ≤ _; exact Nat.le_of_eq rfl) (hb hby d1_32) (by decide) (by decide) ⟨rfl, nm0_32_2, nm1_32_2⟩ (congrArg Value.double hz32_2)
  obtain ⟨cl6, Ar6, -, S6, -, Ha6, -⟩ := id V_o0
  have in6 : ¬ ((2 : Int32) < 0 ∨ cl6.slots.size ≤ ((2 : Int32)).toNatClampNeg) := inb_of S6 ⟨by decide, by decide⟩
  obtain ⟨T7, X7, e7, st7⟩ := natS X5 hx hZ (y := (⟨"java/lang/Math", "max", "(DD)D"⟩ : MethodName)) hown (hw _ (List.mem_of_getElem? (i := 9) rfl)) (hw _ (List.mem_of_getElem? (i := 10) rfl)) (hw _ (List.mem_of_getElem? (i := 11) rfl)) (hw _ (List.mem_of_getElem? (i := 12) rfl)) (by decide) e5 (W := 0) (fun hq => Jvm.Free.Fl.Abs.maxD_pays z32_2 y2 hq (by decide) (by decide)) (g := (mkF m 32 #[.val (.ref o0), .val (.double d1), .second, .val (.double z32_2), .second, .val (.ref o0), .val (.int (4 : Int32)), .val (.int (2 : Int32)), .val (.double y2), .second] [(.double y2), (.double z32_2)])) rfl (by rw [hml]; rfl) (argsL := [(.double z32_2), (.double y2)]) (rest := []) (lenOf pd_0 rfl) rfl (by show 2 * 0 + _ ≤ _; exact Nat.le_of_eq rfl) (hb hby d1_32) (by decide) (by decide) ⟨rfl, nm0_32_3, nm1_32_3⟩ (congrArg Value.double hz32_3)
  obtain ⟨cl8, Ar8, -, S8, -, Ha8, -⟩ := id V_o0
  have in8 : ¬ ((3 : Int32) < 0 ∨ cl8.slots.size ≤ ((3 : Int32)).toNatClampNeg) := inb_of S8 ⟨by decide, by decide⟩
  obtain ⟨T9, X9, e9, st9⟩ := natS X7 hx hZ (y := (⟨"java/lang/Math", "max", "(DD)D"⟩ : MethodName)) hown (hw _ (List.mem_of_getElem? (i := 9) rfl)) (hw _ (List.mem_of_getElem? (i := 10) rfl)) (hw _ (List.mem_of_getElem? (i := 11) rfl)) (hw _ (List.mem_of_getElem? (i := 12) rfl)) (by decide) e7 (W := 0) (fun hq => Jvm.Free.Fl.Abs.maxD_pays z32_3 y3 hq (by decide) (by decide)) (g := (mkF m 32 #[.val (.ref o0), .val (.double d1), .second, .val (.double z32_3), .second, .val (.ref o0), .val (.int (4 : Int32)), .val (.int (3 : Int32)), .val (.double y3), .second] [(.double y3), (.double z32_3)])) rfl (by rw [hml]; rfl) (argsL := [(.double z32_3), (.double y3)]) (rest := []) (lenOf pd_0 rfl) rfl (by show 2 * 0 + _ ≤ _; exact Nat.le_of_eq rfl) (hb hby d1_32) (by decide) (by decide) ⟨rfl, nm0_32_4, nm1_32_4⟩ (congrArg Value.double hz32_4)
  obtain ⟨cl10, Ar10, -, S10, Nn10, -, -⟩ := id V_o0
  obtain ⟨T11, h11, k11, X11, e11, E11, A11, st11⟩ := newP X9 hx hZ (hw _ (List.mem_of_getElem? (i := 2) rfl)) e9 (g := (mkF m 44 #[.val (.ref o0), .val (.double d1), .second, .val (.double z32_4), .second, .val (.ref o0), .val (.int (4 : Int32)), .val (.int (4 : Int32)), .val (.double y3), .second] [(.int (4 : Int32))])) rfl (hb hby d1_44) rfl (by decide) (cap := 4) (by decide) (by decide) (by decide) (by decide)
  obtain ⟨b11, g11⟩ : ∃ z, z = h0.size := ⟨_, rfl⟩
  rw [← g11] at A11 st11
  have gn11 : n0 ≤ b11 := Nat.le_trans Z0 (Nat.le_of_eq g11.symm)
  have gz11 : h0.size ≤ b11 := Nat.le_trans ((Keep.refl h0 [])).1 (Nat.le_of_eq g11.symm)
  have K12 : Keep h0 h11 [] := (Keep.refl h0 []).ext E11
  have V11 : Arv Z h11 b11 k11 .boolean (4 : Int32) [(.int (0 : Int32)), (.int (0 : Int32)), (.int (0 : Int32)), (.int (0 : Int32))] (.int (0 : Int32)) := (Arv.new A11 (by decide)).pad (pad_rep [] (.int (0 : Int32)) 4)
  have f13 := (V_o0.ext E11)
  obtain ⟨cl14, Ar14, -, S14, Nn14, -, -⟩ := id f13
  obtain ⟨cl15, Ar15, -, S15, -, Ha15, -⟩ := id f13
  have in15 : ¬ ((0 : Int32) < 0 ∨ cl15.slots.size ≤ ((0 : Int32)).toNatClampNeg) := inb_of S15 ⟨by decide, by decide⟩
  have c16 : ∀ t, Steps p.tables e below (T11.setTop (mkF m 78 #[.val (.ref o0), .val (.double d1), .second, .val (.double z32_4), .second, .val (.ref b11), .val (.int (0 : Int32)), .val (.int (4 : Int32)), .val (.double y3), .second] [(.int m70_s0), (.int (0 : Int32)), (.ref b11)])) t → Steps p.tables e below (s₁.setTop (entryFrame m #[(.ref o0), (.double d1)] 10)) t := by
    intro t k
    refine c0 t ?_
    show Steps p.tables e below (s₁.setTop (mkF m 0 #[.val (.ref o0), .val (.double d1), .second, .unset, .unset, .unset, .unset, .unset, .unset, .unset] [])) _
    refine X0.ldc2DoubleC hx hown (mvT hZ (hw _ (List.mem_of_getElem? (i := 8) rfl))) (g := (mkF m 0 #[.val (.ref o0), .val (.double d1), .second, .unset, .unset, .unset, .unset, .unset, .unset, .unset] [])) rfl (hb hby d1_0) _ ?_
    show Steps p.tables e below (s₁.setTop (mkF m 3 #[.val (.ref o0), .val (.double d1), .second, .unset, .unset, .unset, .unset, .unset, .unset, .unset] [(.double (18442240474082181120 : UInt64))])) _
    refine XS.dstoreN X0.here hx rfl (hb hby d1_3) rfl (l' := #[.val (.ref o0), .val (.double d1), .second, .val (.double (18442240474082181120 : UInt64)), .second, .unset, .unset, .unset, .unset, .unset]) rfl ?_
    show Steps p.tables e below (s₁.setTop (mkF m 4 #[.val (.ref o0), .val (.double d1), .second, .val (.double (18442240474082181120 : UInt64)), .second, .unset, .unset, .unset, .unset, .unset] [])) _
    refine XS.aloadN X0.here hx rfl (hb hby d1_4) rfl rfl ?_
    show Steps p.tables e below (s₁.setTop (mkF m 5 #[.val (.ref o0), .val (.double d1), .second, .val (.double (18442240474082181120 : UInt64)), .second, .unset, .unset, .unset, .unset, .unset] [(.ref o0)])) _
    refine XS.astore X0.here hx rfl (hb hby d1_5) rfl rfl (l' := #[.val (.ref o0), .val (.double d1), .second, .val (.double (18442240474082181120 : UInt64)), .second, .val (.ref o0), .unset, .unset, .unset, .unset]) rfl ?_
    show Steps p.tables e below (s₁.setTop (mkF m 7 #[.val (.ref o0), .val (.double d1), .second, .val (.double (18442240474082181120 : UInt64)), .second, .val (.ref o0), .unset, .unset, .unset, .unset] [])) _
    refine XS.aload X0.here hx rfl (hb hby d1_7) rfl rfl ?_
    show Steps p.tables e below (s₁.setTop (mkF m 9 #[.val (.ref o0), .val (.double d1), .second, .val (.double (18442240474082181120 : UInt64)), .second, .val (.ref o0), .unset, .unset, .unset, .unset] [(.ref o0)])) _
    refine X0.arraylength hx (by rw [e0]; exact Ar1.1) (State.isArrayOf_alike hZ.alike Ar1.2.1) (g := (mkF m 9 #[.val (.ref o0), .val (.double d1), .second, .val (.double (18442240474082181120 : UInt64)), .second, .val (.ref o0), .unset, .unset, .unset, .unset] [(.ref o0)])) rfl rfl (hb hby d1_9) _ ?_
    rw [len_of S1 Nn1]
    show Steps p.tables e below (s₁.setTop (mkF m 10 #[.val (.ref o0), .val (.double d1), .second, .val (.double (18442240474082181120 : UInt64)), .second, .val (.ref o0), .unset, .unset, .unset, .unset] [(.int (4 : Int32))])) _
    refine XS.istore X0.here hx rfl (hb hby d1_10) rfl (l' := #[.val (.ref o0), .val (.double d1), .second, .val (.double (18442240474082181120 : UInt64)), .second, .val (.ref o0), .val (.int (4 : Int32)), .unset, .unset, .unset]) rfl ?_
    show Steps p.tables e below (s₁.setTop (mkF m 12 #[.val (.ref o0), .val (.double d1), .second, .val (.double (18442240474082181120 : UInt64)), .second, .val (.ref o0), .val (.int (4 : Int32)), .unset, .unset, .unset] [])) _
    refine XS.iconst X0.here hx rfl (hb hby d1_12) ?_
    show Steps p.tables e below (s₁.setTop (mkF m 13 #[.val (.ref o0), .val (.double d1), .second, .val (.double (18442240474082181120 : UInt64)), .second, .val (.ref o0), .val (.int (4 : Int32)), .unset, .unset, .unset] [(.int (0 : Int32))])) _
    refine XS.istore X0.here hx rfl (hb hby d1_13) rfl (l' := #[.val (.ref o0), .val (.double d1), .second, .val (.double (18442240474082181120 : UInt64)), .second, .val (.ref o0), .val (.int (4 : Int32)), .val (.int (0 : Int32)), .unset, .unset]) rfl ?_
    show Steps p.tables e below (s₁.setTop (mkF m 15 #[.val (.ref o0), .val (.double d1), .second, .val (.double (18442240474082181120 : UInt64)), .second, .val (.ref o0), .val (.int (4 : Int32)), .val (.int (0 : Int32)), .unset, .unset] [])) _
    refine XS.iload X0.here hx rfl (hb hby d1_15) rfl ?_
    show Steps p.tables e below (s₁.setTop (mkF m 17 #[.val (.ref o0), .val (.double d1), .second, .val (.double (18442240474082181120 : UInt64)), .second, .val (.ref o0), .val (.int (4 : Int32)), .val (.int (0 : Int32)), .unset, .unset] [(.int (0 : Int32))])) _
    refine XS.iload X0.here hx rfl (hb hby d1_17) rfl ?_
    show Steps p.tables e below (s₁.setTop (mkF m 19 #[.val (.ref o0), .val (.double d1), .second, .val (.double (18442240474082181120 : UInt64)), .second, .val (.ref o0), .val (.int (4 : Int32)), .val (.int (0 : Int32)), .unset, .unset] [(.int (4 : Int32)), (.int (0 : Int32))])) _
    refine XS.icmpNo X0.here hx rfl (hb hby d1_19) rfl (Jvm.Free.XT.ii_ge_f (by decide)) ?_
    show Steps p.tables e below (s₁.setTop (mkF m 22 #[.val (.ref o0), .val (.double d1), .second, .val (.double (18442240474082181120 : UInt64)), .second, .val (.ref o0), .val (.int (4 : Int32)), .val (.int (0 : Int32)), .unset, .unset] [])) _
    refine XS.aload X0.here hx rfl (hb hby d1_22) rfl rfl ?_
    show Steps p.tables e below (s₁.setTop (mkF m 24 #[.val (.ref o0), .val (.double d1), .second, .val (.double (18442240474082181120 : UInt64)), .second, .val (.ref o0), .val (.int (4 : Int32)), .val (.int (0 : Int32)), .unset, .unset] [(.ref o0)])) _
    refine XS.iload X0.here hx rfl (hb hby d1_24) rfl ?_
    show Steps p.tables e below (s₁.setTop (mkF m 26 #[.val (.ref o0), .val (.double d1), .second, .val (.double (18442240474082181120 : UInt64)), .second, .val (.ref o0), .val (.int (4 : Int32)), .val (.int (0 : Int32)), .unset, .unset] [(.int (0 : Int32)), (.ref o0)])) _
    refine X0.daload hx (j := (0 : Int32)) (v := (.double y0)) (by rw [e0]; exact Ar2.1) (State.isArrayOf_alike hZ.alike Ar2.2.1) Ar2.2.2 in2 (Has.at Ha2 in2 rfl) (g := (mkF m 26 #[.val (.ref o0), .val (.double d1), .second, .val (.double (18442240474082181120 : UInt64)), .second, .val (.ref o0), .val (.int (4 : Int32)), .val (.int (0 : Int32)), .unset, .unset] [(.int (0 : Int32)), (.ref o0)])) rfl rfl (hb hby d1_26) _ ?_
    show Steps p.tables e below (s₁.setTop (mkF m 27 #[.val (.ref o0), .val (.double d1), .second, .val (.double (18442240474082181120 : UInt64)), .second, .val (.ref o0), .val (.int (4 : Int32)), .val (.int (0 : Int32)), .unset, .unset] [(.double y0)])) _
    refine XS.dstore X0.here hx rfl (hb hby d1_27) rfl (l' := #[.val (.ref o0), .val (.double d1), .second, .val (.double (18442240474082181120 : UInt64)), .second, .val (.ref o0), .val (.int (4 : Int32)), .val (.int (0 : Int32)), .val (.double y0), .second]) rfl ?_
    show Steps p.tables e below (s₁.setTop (mkF m 29 #[.val (.ref o0), .val (.double d1), .second, .val (.double (18442240474082181120 : UInt64)), .second, .val (.ref o0), .val (.int (4 : Int32)), .val (.int (0 : Int32)), .val (.double y0), .second] [])) _
    refine XS.dloadN X0.here hx rfl (hb hby d1_29) rfl ?_
    show Steps p.tables e below (s₁.setTop (mkF m 30 #[.val (.ref o0), .val (.double d1), .second, .val (.double (18442240474082181120 : UInt64)), .second, .val (.ref o0), .val (.int (4 : Int32)), .val (.int (0 : Int32)), .val (.double y0), .second] [(.double (18442240474082181120 : UInt64))])) _
    refine XS.dload X0.here hx rfl (hb hby d1_30) rfl ?_
    show Steps p.tables e below (s₁.setTop (mkF m 32 #[.val (.ref o0), .val (.double d1), .second, .val (.double (18442240474082181120 : UInt64)), .second, .val (.ref o0), .val (.int (4 : Int32)), .val (.int (0 : Int32)), .val (.double y0), .second] [(.double y0), (.double (18442240474082181120 : UInt64))])) _
    refine st3 _ ?_
    show Steps p.tables e below (T3.setTop (mkF m 35 #[.val (.ref o0), .val (.double d1), .second, .val (.double (18442240474082181120 : UInt64)), .second, .val (.ref o0), .val (.int (4 : Int32)), .val (.int (0 : Int32)), .val (.double y0), .second] [(.double z32)])) _
    refine XS.dstoreN X3.here hx rfl (hb hby d1_35) rfl (l' := #[.val (.ref o0), .val (.double d1), .second, .val (.double z32), .second, .val (.ref o0), .val (.int (4 : Int32)), .val (.int (0 : Int32)), .val (.double y0), .second]) rfl ?_
    show Steps p.tables e below (T3.setTop (mkF m 36 #[.val (.ref o0), .val (.double d1), .second, .val (.double z32), .second, .val (.ref o0), .val (.int (4 : Int32)), .val (.int (0 : Int32)), .val (.double y0), .second] [])) _
    refine Jvm.OwnK.iinc X3.here hx rfl (hb hby d1_36) rfl (l' := #[.val (.ref o0), .val (.double d1), .second, .val (.double z32), .second, .val (.ref o0), .val (.int (4 : Int32)), .val (.int (1 : Int32)), .val (.double y0), .second]) (v := (1 : Int32)) (by decide) rfl ?_
    show Steps p.tables e below (T3.setTop (mkF m 39 #[.val (.ref o0), .val (.double d1), .second, .val (.double z32), .second, .val (.ref o0), .val (.int (4 : Int32)), .val (.int (1 : Int32)), .val (.double y0), .second] [])) _
    refine XS.goto X3.here hx rfl (pc0 := 39) (pc' := 15) rfl (hb hby d1_39) (by decide) (by decide) ?_
    show Steps p.tables e below (T3.setTop (mkF m 15 #[.val (.ref o0), .val (.double d1), .second, .val (.double z32), .second, .val (.ref o0), .val (.int (4 : Int32)), .val (.int (1 : Int32)), .val (.double y0), .second] [])) _
    refine XS.iload X3.here hx rfl (hb hby d1_15) rfl ?_
    show Steps p.tables e below (T3.setTop (mkF m 17 #[.val (.ref o0), .val (.double d1), .second, .val (.double z32), .second, .val (.ref o0), .val (.int (4 : Int32)), .val (.int (1 : Int32)), .val (.double y0), .second] [(.int (1 : Int32))])) _
    refine XS.iload X3.here hx rfl (hb hby d1_17) rfl ?_
    show Steps p.tables e below (T3.setTop (mkF m 19 #[.val (.ref o0), .val (.double d1), .second, .val (.double z32), .second, .val (.ref o0), .val (.int (4 : Int32)), .val (.int (1 : Int32)), .val (.double y0), .second] [(.int (4 : Int32)), (.int (1 : Int32))])) _
    refine XS.icmpNo X3.here hx rfl (hb hby d1_19) rfl (Jvm.Free.XT.ii_ge_f (by decide)) ?_
    show Steps p.tables e below (T3.setTop (mkF m 22 #[.val (.ref o0), .val (.double d1), .second, .val (.double z32), .second, .val (.ref o0), .val (.int (4 : Int32)), .val (.int (1 : Int32)), .val (.double y0), .second] [])) _
    refine XS.aload X3.here hx rfl (hb hby d1_22) rfl rfl ?_
    show Steps p.tables e below (T3.setTop (mkF m 24 #[.val (.ref o0), .val (.double d1), .second, .val (.double z32), .second, .val (.ref o0), .val (.int (4 : Int32)), .val (.int (1 : Int32)), .val (.double y0), .second] [(.ref o0)])) _
    refine XS.iload X3.here hx rfl (hb hby d1_24) rfl ?_
    show Steps p.tables e below (T3.setTop (mkF m 26 #[.val (.ref o0), .val (.double d1), .second, .val (.double z32), .second, .val (.ref o0), .val (.int (4 : Int32)), .val (.int (1 : Int32)), .val (.double y0), .second] [(.int (1 : Int32)), (.ref o0)])) _
    refine X3.daload hx (j := (1 : Int32)) (v := (.double y1)) (by rw [e3]; exact Ar4.1) (State.isArrayOf_alike hZ.alike Ar4.2.1) Ar4.2.2 in4 (Has.at Ha4 in4 rfl) (g := (mkF m 26 #[.val (.ref o0), .val (.double d1), .second, .val (.double z32), .second, .val (.ref o0), .val (.int (4 : Int32)), .val (.int (1 : Int32)), .val (.double y0), .second] [(.int (1 : Int32)), (.ref o0)])) rfl rfl (hb hby d1_26) _ ?_
    show Steps p.tables e below (T3.setTop (mkF m 27 #[.val (.ref o0), .val (.double d1), .second, .val (.double z32), .second, .val (.ref o0), .val (.int (4 : Int32)), .val (.int (1 : Int32)), .val (.double y0), .second] [(.double y1)])) _
    refine XS.dstore X3.here hx rfl (hb hby d1_27) rfl (l' := #[.val (.ref o0), .val (.double d1), .second, .val (.double z32), .second, .val (.ref o0), .val (.int (4 : Int32)), .val (.int (1 : Int32)), .val (.double y1), .second]) rfl ?_
    show Steps p.tables e below (T3.setTop (mkF m 29 #[.val (.ref o0), .val (.double d1), .second, .val (.double z32), .second, .val (.ref o0), .val (.int (4 : Int32)), .val (.int (1 : Int32)), .val (.double y1), .second] [])) _
    refine XS.dloadN X3.here hx rfl (hb hby d1_29) rfl ?_
    show Steps p.tables e below (T3.setTop (mkF m 30 #[.val (.ref o0), .val (.double d1), .second, .val (.double z32), .second, .val (.ref o0), .val (.int (4 : Int32)), .val (.int (1 : Int32)), .val (.double y1), .second] [(.double z32)])) _
    refine XS.dload X3.here hx rfl (hb hby d1_30) rfl ?_
    show Steps p.tables e below (T3.setTop (mkF m 32 #[.val (.ref o0), .val (.double d1), .second, .val (.double z32), .second, .val (.ref o0), .val (.int (4 : Int32)), .val (.int (1 : Int32)), .val (.double y1), .second] [(.double y1), (.double z32)])) _
    refine st5 _ ?_
    show Steps p.tables e below (T5.setTop (mkF m 35 #[.val (.ref o0), .val (.double d1), .second, .val (.double z32), .second, .val (.ref o0), .val (.int (4 : Int32)), .val (.int (1 : Int32)), .val (.double y1), .second] [(.double z32_2)])) _
    refine XS.dstoreN X5.here hx rfl (hb hby d1_35) rfl (l' := #[.val (.ref o0), .val (.double d1), .second, .val (.double z32_2), .second, .val (.ref o0), .val (.int (4 : Int32)), .val (.int (1 : Int32)), .val (.double y1), .second]) rfl ?_
    show Steps p.tables e below (T5.setTop (mkF m 36 #[.val (.ref o0), .val (.double d1), .second, .val (.double z32_2), .second, .val (.ref o0), .val (.int (4 : Int32)), .val (.int (1 : Int32)), .val (.double y1), .second] [])) _
    refine Jvm.OwnK.iinc X5.here hx rfl (hb hby d1_36) rfl (l' := #[.val (.ref o0), .val (.double d1), .second, .val (.double z32_2), .second, .val (.ref o0), .val (.int (4 : Int32)), .val (.int (2 : Int32)), .val (.double y1), .second]) (v := (2 : Int32)) (by decide) rfl ?_
    show Steps p.tables e below (T5.setTop (mkF m 39 #[.val (.ref o0), .val (.double d1), .second, .val (.double z32_2), .second, .val (.ref o0), .val (.int (4 : Int32)), .val (.int (2 : Int32)), .val (.double y1), .second] [])) _
    refine XS.goto X5.here hx rfl (pc0 := 39) (pc' := 15) rfl (hb hby d1_39) (by decide) (by decide) ?_
    show Steps p.tables e below (T5.setTop (mkF m 15 #[.val (.ref o0), .val (.double d1), .second, .val (.double z32_2), .second, .val (.ref o0), .val (.int (4 : Int32)), .val (.int (2 : Int32)), .val (.double y1), .second] [])) _
    refine XS.iload X5.here hx rfl (hb hby d1_15) rfl ?_
    show Steps p.tables e below (T5.setTop (mkF m 17 #[.val (.ref o0), .val (.double d1), .second, .val (.double z32_2), .second, .val (.ref o0), .val (.int (4 : Int32)), .val (.int (2 : Int32)), .val (.double y1), .second] [(.int (2 : Int32))])) _
    refine XS.iload X5.here hx rfl (hb hby d1_17) rfl ?_
    show Steps p.tables e below (T5.setTop (mkF m 19 #[.val (.ref o0), .val (.double d1), .second, .val (.double z32_2), .second, .val (.ref o0), .val (.int (4 : Int32)), .val (.int (2 : Int32)), .val (.double y1), .second] [(.int (4 : Int32)), (.int (2 : Int32))])) _
    refine XS.icmpNo X5.here hx rfl (hb hby d1_19) rfl (Jvm.Free.XT.ii_ge_f (by decide)) ?_
    show Steps p.tables e below (T5.setTop (mkF m 22 #[.val (.ref o0), .val (.double d1), .second, .val (.double z32_2), .second, .val (.ref o0), .val (.int (4 : Int32)), .val (.int (2 : Int32)), .val (.double y1), .second] [])) _
    refine XS.aload X5.here hx rfl (hb hby d1_22) rfl rfl ?_
    show Steps p.tables e below (T5.setTop (mkF m 24 #[.val (.ref o0), .val (.double d1), .second, .val (.double z32_2), .second, .val (.ref o0), .val (.int (4 : Int32)), .val (.int (2 : Int32)), .val (.double y1), .second] [(.ref o0)])) _
    refine XS.iload X5.here hx rfl (hb hby d1_24) rfl ?_
    show Steps p.tables e below (T5.setTop (mkF m 26 #[.val (.ref o0), .val (.double d1), .second, .val (.double z32_2), .second, .val (.ref o0), .val (.int (4 : Int32)), .val (.int (2 : Int32)), .val (.double y1), .second] [(.int (2 : Int32)), (.ref o0)])) _
    refine X5.daload hx (j := (2 : Int32)) (v := (.double y2)) (by rw [e5]; exact Ar6.1) (State.isArrayOf_alike hZ.alike Ar6.2.1) Ar6.2.2 in6 (Has.at Ha6 in6 rfl) (g := (mkF m 26 #[.val (.ref o0), .val (.double d1), .second, .val (.double z32_2), .second, .val (.ref o0), .val (.int (4 : Int32)), .val (.int (2 : Int32)), .val (.double y1), .second] [(.int (2 : Int32)), (.ref o0)])) rfl rfl (hb hby d1_26) _ ?_
    show Steps p.tables e below (T5.setTop (mkF m 27 #[.val (.ref o0), .val (.double d1), .second, .val (.double z32_2), .second, .val (.ref o0), .val (.int (4 : Int32)), .val (.int (2 : Int32)), .val (.double y1), .second] [(.double y2)])) _
    refine XS.dstore X5.here hx rfl (hb hby d1_27) rfl (l' := #[.val (.ref o0), .val (.double d1), .second, .val (.double z32_2), .second, .val (.ref o0), .val (.int (4 : Int32)), .val (.int (2 : Int32)), .val (.double y2), .second]) rfl ?_
    show Steps p.tables e below (T5.setTop (mkF m 29 #[.val (.ref o0), .val (.double d1), .second, .val (.double z32_2), .second, .val (.ref o0), .val (.int (4 : Int32)), .val (.int (2 : Int32)), .val (.double y2), .second] [])) _
    refine XS.dloadN X5.here hx rfl (hb hby d1_29) rfl ?_
    show Steps p.tables e below (T5.setTop (mkF m 30 #[.val (.ref o0), .val (.double d1), .second, .val (.double z32_2), .second, .val (.ref o0), .val (.int (4 : Int32)), .val (.int (2 : Int32)), .val (.double y2), .second] [(.double z32_2)])) _
    refine XS.dload X5.here hx rfl (hb hby d1_30) rfl ?_
    show Steps p.tables e below (T5.setTop (mkF m 32 #[.val (.ref o0), .val (.double d1), .second, .val (.double z32_2), .second, .val (.ref o0), .val (.int (4 : Int32)), .val (.int (2 : Int32)), .val (.double y2), .second] [(.double y2), (.double z32_2)])) _
    refine st7 _ ?_
    show Steps p.tables e below (T7.setTop (mkF m 35 #[.val (.ref o0), .val (.double d1), .second, .val (.double z32_2), .second, .val (.ref o0), .val (.int (4 : Int32)), .val (.int (2 : Int32)), .val (.double y2), .second] [(.double z32_3)])) _
    refine XS.dstoreN X7.here hx rfl (hb hby d1_35) rfl (l' := #[.val (.ref o0), .val (.double d1), .second, .val (.double z32_3), .second, .val (.ref o0), .val (.int (4 : Int32)), .val (.int (2 : Int32)), .val (.double y2), .second]) rfl ?_
    show Steps p.tables e below (T7.setTop (mkF m 36 #[.val (.ref o0), .val (.double d1), .second, .val (.double z32_3), .second, .val (.ref o0), .val (.int (4 : Int32)), .val (.int (2 : Int32)), .val (.double y2), .second] [])) _
    refine Jvm.OwnK.iinc X7.here hx rfl (hb hby d1_36) rfl (l' := #[.val (.ref o0), .val (.double d1), .second, .val (.double z32_3), .second, .val (.ref o0), .val (.int (4 : Int32)), .val (.int (3 : Int32)), .val (.double y2), .second]) (v := (3 : Int32)) (by decide) rfl ?_
    show Steps p.tables e below (T7.setTop (mkF m 39 #[.val (.ref o0), .val (.double d1), .second, .val (.double z32_3), .second, .val (.ref o0), .val (.int (4 : Int32)), .val (.int (3 : Int32)), .val (.double y2), .second] [])) _
    refine XS.goto X7.here hx rfl (pc0 := 39) (pc' := 15) rfl (hb hby d1_39) (by decide) (by decide) ?_
    show Steps p.tables e below (T7.setTop (mkF m 15 #[.val (.ref o0), .val (.double d1), .second, .val (.double z32_3), .second, .val (.ref o0), .val (.int (4 : Int32)), .val (.int (3 : Int32)), .val (.double y2), .second] [])) _
    refine XS.iload X7.here hx rfl (hb hby d1_15) rfl ?_
    show Steps p.tables e below (T7.setTop (mkF m 17 #[.val (.ref o0), .val (.double d1), .second, .val (.double z32_3), .second, .val (.ref o0), .val (.int (4 : Int32)), .val (.int (3 : Int32)), .val (.double y2), .second] [(.int (3 : Int32))])) _
    refine XS.iload X7.here hx rfl (hb hby d1_17) rfl ?_
    show Steps p.tables e below (T7.setTop (mkF m 19 #[.val (.ref o0), .val (.double d1), .second, .val (.double z32_3), .second, .val (.ref o0), .val (.int (4 : Int32)), .val (.int (3 : Int32)), .val (.double y2), .second] [(.int (4 : Int32)), (.int (3 : Int32))])) _
    refine XS.icmpNo X7.here hx rfl (hb hby d1_19) rfl (Jvm.Free.XT.ii_ge_f (by decide)) ?_
    show Steps p.tables e below (T7.setTop (mkF m 22 #[.val (.ref o0), .val (.double d1), .second, .val (.double z32_3), .second, .val (.ref o0), .val (.int (4 : Int32)), .val (.int (3 : Int32)), .val (.double y2), .second] [])) _
    refine XS.aload X7.here hx rfl (hb hby d1_22) rfl rfl ?_
    show Steps p.tables e below (T7.setTop (mkF m 24 #[.val (.ref o0), .val (.double d1), .second, .val (.double z32_3), .second, .val (.ref o0), .val (.int (4 : Int32)), .val (.int (3 : Int32)), .val (.double y2), .second] [(.ref o0)])) _
    refine XS.iload X7.here hx rfl (hb hby d1_24) rfl ?_
    show Steps p.tables e below (T7.setTop (mkF m 26 #[.val (.ref o0), .val (.double d1), .second, .val (.double z32_3), .second, .val (.ref o0), .val (.int (4 : Int32)), .val (.int (3 : Int32)), .val (.double y2), .second] [(.int (3 : Int32)), (.ref o0)])) _
    refine X7.daload hx (j := (3 : Int32)) (v := (.double y3)) (by rw [e7]; exact Ar8.1) (State.isArrayOf_alike hZ.alike Ar8.2.1) Ar8.2.2 in8 (Has.at Ha8 in8 rfl) (g := (mkF m 26 #[.val (.ref o0), .val (.double d1), .second, .val (.double z32_3), .second, .val (.ref o0), .val (.int (4 : Int32)), .val (.int (3 : Int32)), .val (.double y2), .second] [(.int (3 : Int32)), (.ref o0)])) rfl rfl (hb hby d1_26) _ ?_
    show Steps p.tables e below (T7.setTop (mkF m 27 #[.val (.ref o0), .val (.double d1), .second, .val (.double z32_3), .second, .val (.ref o0), .val (.int (4 : Int32)), .val (.int (3 : Int32)), .val (.double y2), .second] [(.double y3)])) _
    refine XS.dstore X7.here hx rfl (hb hby d1_27) rfl (l' := #[.val (.ref o0), .val (.double d1), .second, .val (.double z32_3), .second, .val (.ref o0), .val (.int (4 : Int32)), .val (.int (3 : Int32)), .val (.double y3), .second]) rfl ?_
    show Steps p.tables e below (T7.setTop (mkF m 29 #[.val (.ref o0), .val (.double d1), .second, .val (.double z32_3), .second, .val (.ref o0), .val (.int (4 : Int32)), .val (.int (3 : Int32)), .val (.double y3), .second] [])) _
    refine XS.dloadN X7.here hx rfl (hb hby d1_29) rfl ?_
    show Steps p.tables e below (T7.setTop (mkF m 30 #[.val (.ref o0), .val (.double d1), .second, .val (.double z32_3), .second, .val (.ref o0), .val (.int (4 : Int32)), .val (.int (3 : Int32)), .val (.double y3), .second] [(.double z32_3)])) _
    refine XS.dload X7.here hx rfl (hb hby d1_30) rfl ?_
    show Steps p.tables e below (T7.setTop (mkF m 32 #[.val (.ref o0), .val (.double d1), .second, .val (.double z32_3), .second, .val (.ref o0), .val (.int (4 : Int32)), .val (.int (3 : Int32)), .val (.double y3), .second] [(.double y3), (.double z32_3)])) _
    refine st9 _ ?_
    show Steps p.tables e below (T9.setTop (mkF m 35 #[.val (.ref o0), .val (.double d1), .second, .val (.double z32_3), .second, .val (.ref o0), .val (.int (4 : Int32)), .val (.int (3 : Int32)), .val (.double y3), .second] [(.double z32_4)])) _
    refine XS.dstoreN X9.here hx rfl (hb hby d1_35) rfl (l' := #[.val (.ref o0), .val (.double d1), .second, .val (.double z32_4), .second, .val (.ref o0), .val (.int (4 : Int32)), .val (.int (3 : Int32)), .val (.double y3), .second]) rfl ?_
    show Steps p.tables e below (T9.setTop (mkF m 36 #[.val (.ref o0), .val (.double d1), .second, .val (.double z32_4), .second, .val (.ref o0), .val (.int (4 : Int32)), .val (.int (3 : Int32)), .val (.double y3), .second] [])) _
    refine Jvm.OwnK.iinc X9.here hx rfl (hb hby d1_36) rfl (l' := #[.val (.ref o0), .val (.double d1), .second, .val (.double z32_4), .second, .val (.ref o0), .val (.int (4 : Int32)), .val (.int (4 : Int32)), .val (.double y3), .second]) (v := (4 : Int32)) (by decide) rfl ?_
    show Steps p.tables e below (T9.setTop (mkF m 39 #[.val (.ref o0), .val (.double d1), .second, .val (.double z32_4), .second, .val (.ref o0), .val (.int (4 : Int32)), .val (.int (4 : Int32)), .val (.double y3), .second] [])) _
    refine XS.goto X9.here hx rfl (pc0 := 39) (pc' := 15) rfl (hb hby d1_39) (by decide) (by decide) ?_
    show Steps p.tables e below (T9.setTop (mkF m 15 #[.val (.ref o0), .val (.double d1), .second, .val (.double z32_4), .second, .val (.ref o0), .val (.int (4 : Int32)), .val (.int (4 : Int32)), .val (.double y3), .second] [])) _
    refine XS.iload X9.here hx rfl (hb hby d1_15) rfl ?_
    show Steps p.tables e below (T9.setTop (mkF m 17 #[.val (.ref o0), .val (.double d1), .second, .val (.double z32_4), .second, .val (.ref o0), .val (.int (4 : Int32)), .val (.int (4 : Int32)), .val (.double y3), .second] [(.int (4 : Int32))])) _
    refine XS.iload X9.here hx rfl (hb hby d1_17) rfl ?_
    show Steps p.tables e below (T9.setTop (mkF m 19 #[.val (.ref o0), .val (.double d1), .second, .val (.double z32_4), .second, .val (.ref o0), .val (.int (4 : Int32)), .val (.int (4 : Int32)), .val (.double y3), .second] [(.int (4 : Int32)), (.int (4 : Int32))])) _
    refine XS.icmpYes X9.here hx rfl (pc0 := 19) (pc' := 42) rfl (hb hby d1_19) rfl (Jvm.Free.XT.ii_ge_t (by decide)) (by decide) (by decide) ?_
    show Steps p.tables e below (T9.setTop (mkF m 42 #[.val (.ref o0), .val (.double d1), .second, .val (.double z32_4), .second, .val (.ref o0), .val (.int (4 : Int32)), .val (.int (4 : Int32)), .val (.double y3), .second] [])) _
    refine XS.aloadN X9.here hx rfl (hb hby d1_42) rfl rfl ?_
    show Steps p.tables e below (T9.setTop (mkF m 43 #[.val (.ref o0), .val (.double d1), .second, .val (.double z32_4), .second, .val (.ref o0), .val (.int (4 : Int32)), .val (.int (4 : Int32)), .val (.double y3), .second] [(.ref o0)])) _
    refine X9.arraylength hx (by rw [e9]; exact Ar10.1) (State.isArrayOf_alike hZ.alike Ar10.2.1) (g := (mkF m 43 #[.val (.ref o0), .val (.double d1), .second, .val (.double z32_4), .second, .val (.ref o0), .val (.int (4 : Int32)), .val (.int (4 : Int32)), .val (.double y3), .second] [(.ref o0)])) rfl rfl (hb hby d1_43) _ ?_
    rw [len_of S10 Nn10]
    show Steps p.tables e below (T9.setTop (mkF m 44 #[.val (.ref o0), .val (.double d1), .second, .val (.double z32_4), .second, .val (.ref o0), .val (.int (4 : Int32)), .val (.int (4 : Int32)), .val (.double y3), .second] [(.int (4 : Int32))])) _
    refine st11 _ ?_
    show Steps p.tables e below (T11.setTop (mkF m 46 #[.val (.ref o0), .val (.double d1), .second, .val (.double z32_4), .second, .val (.ref o0), .val (.int (4 : Int32)), .val (.int (4 : Int32)), .val (.double y3), .second] [(.ref b11)])) _
    refine XS.astore X11.here hx rfl (hb hby d1_46) rfl rfl (l' := #[.val (.ref o0), .val (.double d1), .second, .val (.double z32_4), .second, .val (.ref b11), .val (.int (4 : Int32)), .val (.int (4 : Int32)), .val (.double y3), .second]) rfl ?_
    show Steps p.tables e below (T11.setTop (mkF m 48 #[.val (.ref o0), .val (.double d1), .second, .val (.double z32_4), .second, .val (.ref b11), .val (.int (4 : Int32)), .val (.int (4 : Int32)), .val (.double y3), .second] [])) _
    refine XS.iconst X11.here hx rfl (hb hby d1_48) ?_
    show Steps p.tables e below (T11.setTop (mkF m 49 #[.val (.ref o0), .val (.double d1), .second, .val (.double z32_4), .second, .val (.ref b11), .val (.int (4 : Int32)), .val (.int (4 : Int32)), .val (.double y3), .second] [(.int (0 : Int32))])) _
    refine XS.istore X11.here hx rfl (hb hby d1_49) rfl (l' := #[.val (.ref o0), .val (.double d1), .second, .val (.double z32_4), .second, .val (.ref b11), .val (.int (0 : Int32)), .val (.int (4 : Int32)), .val (.double y3), .second]) rfl ?_
    show Steps p.tables e below (T11.setTop (mkF m 51 #[.val (.ref o0), .val (.double d1), .second, .val (.double z32_4), .second, .val (.ref b11), .val (.int (0 : Int32)), .val (.int (4 : Int32)), .val (.double y3), .second] [])) _
    refine XS.iload X11.here hx rfl (hb hby d1_51) rfl ?_
    show Steps p.tables e below (T11.setTop (mkF m 53 #[.val (.ref o0), .val (.double d1), .second, .val (.double z32_4), .second, .val (.ref b11), .val (.int (0 : Int32)), .val (.int (4 : Int32)), .val (.double y3), .second] [(.int (0 : Int32))])) _
    refine XS.aloadN X11.here hx rfl (hb hby d1_53) rfl rfl ?_
    show Steps p.tables e below (T11.setTop (mkF m 54 #[.val (.ref o0), .val (.double d1), .second, .val (.double z32_4), .second, .val (.ref b11), .val (.int (0 : Int32)), .val (.int (4 : Int32)), .val (.double y3), .second] [(.ref o0), (.int (0 : Int32))])) _
    refine X11.arraylength hx (by rw [e11]; exact Ar14.1) (State.isArrayOf_alike hZ.alike Ar14.2.1) (g := (mkF m 54 #[.val (.ref o0), .val (.double d1), .second, .val (.double z32_4), .second, .val (.ref b11), .val (.int (0 : Int32)), .val (.int (4 : Int32)), .val (.double y3), .second] [(.ref o0), (.int (0 : Int32))])) rfl rfl (hb hby d1_54) _ ?_
    rw [len_of S14 Nn14]
    show Steps p.tables e below (T11.setTop (mkF m 55 #[.val (.ref o0), .val (.double d1), .second, .val (.double z32_4), .second, .val (.ref b11), .val (.int (0 : Int32)), .val (.int (4 : Int32)), .val (.double y3), .second] [(.int (4 : Int32)), (.int (0 : Int32))])) _
    refine XS.icmpNo X11.here hx rfl (hb hby d1_55) rfl (Jvm.Free.XT.ii_ge_f (by decide)) ?_
    show Steps p.tables e below (T11.setTop (mkF m 58 #[.val (.ref o0), .val (.double d1), .second, .val (.double z32_4), .second, .val (.ref b11), .val (.int (0 : Int32)), .val (.int (4 : Int32)), .val (.double y3), .second] [])) _
    refine XS.aload X11.here hx rfl (hb hby d1_58) rfl rfl ?_
    show Steps p.tables e below (T11.setTop (mkF m 60 #[.val (.ref o0), .val (.double d1), .second, .val (.double z32_4), .second, .val (.ref b11), .val (.int (0 : Int32)), .val (.int (4 : Int32)), .val (.double y3), .second] [(.ref b11)])) _
    refine XS.iload X11.here hx rfl (hb hby d1_60) rfl ?_
    show Steps p.tables e below (T11.setTop (mkF m 62 #[.val (.ref o0), .val (.double d1), .second, .val (.double z32_4), .second, .val (.ref b11), .val (.int (0 : Int32)), .val (.int (4 : Int32)), .val (.double y3), .second] [(.int (0 : Int32)), (.ref b11)])) _
    refine XS.aloadN X11.here hx rfl (hb hby d1_62) rfl rfl ?_
    show Steps p.tables e below (T11.setTop (mkF m 63 #[.val (.ref o0), .val (.double d1), .second, .val (.double z32_4), .second, .val (.ref b11), .val (.int (0 : Int32)), .val (.int (4 : Int32)), .val (.double y3), .second] [(.ref o0), (.int (0 : Int32)), (.ref b11)])) _
    refine XS.iload X11.here hx rfl (hb hby d1_63) rfl ?_
    show Steps p.tables e below (T11.setTop (mkF m 65 #[.val (.ref o0), .val (.double d1), .second, .val (.double z32_4), .second, .val (.ref b11), .val (.int (0 : Int32)), .val (.int (4 : Int32)), .val (.double y3), .second] [(.int (0 : Int32)), (.ref o0), (.int (0 : Int32)), (.ref b11)])) _
    refine X11.daload hx (j := (0 : Int32)) (v := (.double y0)) (by rw [e11]; exact Ar15.1) (State.isArrayOf_alike hZ.alike Ar15.2.1) Ar15.2.2 in15 (Has.at Ha15 in15 rfl) (g := (mkF m 65 #[.val (.ref o0), .val (.double d1), .second, .val (.double z32_4), .second, .val (.ref b11), .val (.int (0 : Int32)), .val (.int (4 : Int32)), .val (.double y3), .second] [(.int (0 : Int32)), (.ref o0), (.int (0 : Int32)), (.ref b11)])) rfl rfl (hb hby d1_65) _ ?_
    show Steps p.tables e below (T11.setTop (mkF m 66 #[.val (.ref o0), .val (.double d1), .second, .val (.double z32_4), .second, .val (.ref b11), .val (.int (0 : Int32)), .val (.int (4 : Int32)), .val (.double y3), .second] [(.double y0), (.int (0 : Int32)), (.ref b11)])) _
    refine XS.dloadN X11.here hx rfl (hb hby d1_66) rfl ?_
    show Steps p.tables e below (T11.setTop (mkF m 67 #[.val (.ref o0), .val (.double d1), .second, .val (.double z32_4), .second, .val (.ref b11), .val (.int (0 : Int32)), .val (.int (4 : Int32)), .val (.double y3), .second] [(.double z32_4), (.double y0), (.int (0 : Int32)), (.ref b11)])) _
    refine XS.dloadN X11.here hx rfl (hb hby d1_67) rfl ?_
    show Steps p.tables e below (T11.setTop (mkF m 68 #[.val (.ref o0), .val (.double d1), .second, .val (.double z32_4), .second, .val (.ref b11), .val (.int (0 : Int32)), .val (.int (4 : Int32)), .val (.double y3), .second] [(.double d1), (.double z32_4), (.double y0), (.int (0 : Int32)), (.ref b11)])) _
    refine Jvm.OwnK.dsub X11.here hx rfl (hb hby d1_68) rfl hz68 nn68 ?_
    show Steps p.tables e below (T11.setTop (mkF m 69 #[.val (.ref o0), .val (.double d1), .second, .val (.double z32_4), .second, .val (.ref b11), .val (.int (0 : Int32)), .val (.int (4 : Int32)), .val (.double y3), .second] [(.double z68), (.double y0), (.int (0 : Int32)), (.ref b11)])) _
    refine XS.dcmpS X11.here hx rfl (hb hby d1_69) rfl hz69 ?_
    by_cases hm70_0 : z69 < (0 : Int32)
    · skip
      show Steps p.tables e below (T11.setTop (mkF m 70 #[.val (.ref o0), .val (.double d1), .second, .val (.double z32_4), .second, .val (.ref b11), .val (.int (0 : Int32)), .val (.int (4 : Int32)), .val (.double y3), .second] [(.int z69), (.int (0 : Int32)), (.ref b11)])) _
      refine XS.ifYes X11.here hx rfl (pc0 := 70) (pc' := 77) rfl (hb hby d1_70) rfl (Jvm.Free.XT.i0_lt_t hm70_0) (by decide) (by decide) ?_
      show Steps p.tables e below (T11.setTop (mkF m 77 #[.val (.ref o0), .val (.double d1), .second, .val (.double z32_4), .second, .val (.ref b11), .val (.int (0 : Int32)), .val (.int (4 : Int32)), .val (.double y3), .second] [(.int (0 : Int32)), (.ref b11)])) _
      refine XS.iconst X11.here hx rfl (hb hby d1_77) ?_
      obtain rfl : (0 : Int32) = m70_s0 := by rw [← hm70_s0]; simp only [if_pos hm70_0]
      exact k
    · skip
      show Steps p.tables e below (T11.setTop (mkF m 70 #[.val (.ref o0), .val (.double d1), .second, .val (.double z32_4), .second, .val (.ref b11), .val (.int (0 : Int32)), .val (.int (4 : Int32)), .val (.double y3), .second] [(.int z69), (.int (0 : Int32)), (.ref b11)])) _
      refine XS.ifNo X11.here hx rfl (hb hby d1_70) rfl (Jvm.Free.XT.i0_lt_f hm70_0) ?_
      show Steps p.tables e below (T11.setTop (mkF m 73 #[.val (.ref o0), .val (.double d1), .second, .val (.double z32_4), .second, .val (.ref b11), .val (.int (0 : Int32)), .val (.int (4 : Int32)), .val (.double y3), .second] [(.int (0 : Int32)), (.ref b11)])) _
      refine XS.iconst X11.here hx rfl (hb hby d1_73) ?_
      show Steps p.tables e below (T11.setTop (mkF m 74 #[.val (.ref o0), .val (.double d1), .second, .val (.double z32_4), .second, .val (.ref b11), .val (.int (0 : Int32)), .val (.int (4 : Int32)), .val (.double y3), .second] [(.int (1 : Int32)), (.int (0 : Int32)), (.ref b11)])) _
      refine XS.goto X11.here hx rfl (pc0 := 74) (pc' := 78) rfl (hb hby d1_74) (by decide) (by decide) ?_
      obtain rfl : (1 : Int32) = m70_s0 := by rw [← hm70_s0]; simp only [if_neg hm70_0]
      exact k
  obtain ⟨cl17, Ar17, q17, S17, Nn17, Ha17, G17⟩ := id V11
  have in17 : ¬ ((0 : Int32) < 0 ∨ cl17.slots.size ≤ ((0 : Int32)).toNatClampNeg) := inb_of S17 ⟨by decide, by decide⟩
  obtain ⟨T18, h18, X18, e18, W18, st18⟩ := stZ X11 hx hZ e11 Ar17 (j := (0 : Int32)) in17 (g := (mkF m 78 #[.val (.ref o0), .val (.double d1), .second, .val (.double z32_4), .second, .val (.ref b11), .val (.int (0 : Int32)), .val (.int (4 : Int32)), .val (.double y3), .second] [(.int m70_s0), (.int (0 : Int32)), (.ref b11)])) rfl rfl (hb hby d1_78)
  rw [nb78] at W18
  have N18 := Fr.snoc X18 N0 gn11
  have K19 : Keep h0 h18 [] := K12.wr W18 (Or.inr gz11)
  have V18 : Arv Z h18 b11 k11 .boolean (4 : Int32) [(.int m70_s0), (.int (0 : Int32)), (.int (0 : Int32)), (.int (0 : Int32))] (.int (0 : Int32)) := Arv.set Ar17 q17 S17 Nn17 Ha17 G17 fi78 W18 0 rfl (show (0 : Nat) < 4 by decide)
  have f20 := (f13.other W18 (Nat.ne_of_lt (Nat.lt_of_lt_of_le (V_o0).lt (Nat.le_of_eq g11.symm))))
  obtain ⟨cl21, Ar21, -, S21, Nn21, -, -⟩ := id f20
  obtain ⟨cl22, Ar22, -, S22, -, Ha22, -⟩ := id f20
  have in22 : ¬ ((1 : Int32) < 0 ∨ cl22.slots.size ≤ ((1 : Int32)).toNatClampNeg) := inb_of S22 ⟨by decide, by decide⟩
  have c23 : ∀ t, Steps p.tables e below (T18.setTop (mkF m 78 #[.val (.ref o0), .val (.double d1), .second, .val (.double z32_4), .second, .val (.ref b11), .val (.int (1 : Int32)), .val (.int (4 : Int32)), .val (.double y3), .second] [(.int m70_s0_2), (.int (1 : Int32)), (.ref b11)])) t → Steps p.tables e below (s₁.setTop (entryFrame m #[(.ref o0), (.double d1)] 10)) t := by
    intro t k
    refine c16 t ?_
    show Steps p.tables e below (T11.setTop (mkF m 78 #[.val (.ref o0), .val (.double d1), .second, .val (.double z32_4), .second, .val (.ref b11), .val (.int (0 : Int32)), .val (.int (4 : Int32)), .val (.double y3), .second] [(.int m70_s0), (.int (0 : Int32)), (.ref b11)])) _
    refine st18 _ ?_
    show Steps p.tables e below (T18.setTop (mkF m 79 #[.val (.ref o0), .val (.double d1), .second, .val (.double z32_4), .second, .val (.ref b11), .val (.int (0 : Int32)), .val (.int (4 : Int32)), .val (.double y3), .second] [])) _
    refine Jvm.OwnK.iinc X18.here hx rfl (hb hby d1_79) rfl (l' := #[.val (.ref o0), .val (.double d1), .second, .val (.double z32_4), .second, .val (.ref b11), .val (.int (1 : Int32)), .val (.int (4 : Int32)), .val (.double y3), .second]) (v := (1 : Int32)) (by decide) rfl ?_
    show Steps p.tables e below (T18.setTop (mkF m 82 #[.val (.ref o0), .val (.double d1), .second, .val (.double z32_4), .second, .val (.ref b11), .val (.int (1 : Int32)), .val (.int (4 : Int32)), .val (.double y3), .second] [])) _
    refine XS.goto X18.here hx rfl (pc0 := 82) (pc' := 51) rfl (hb hby d1_82) (by decide) (by decide) ?_
    show Steps p.tables e below (T18.setTop (mkF m 51 #[.val (.ref o0), .val (.double d1), .second, .val (.double z32_4), .second, .val (.ref b11), .val (.int (1 : Int32)), .val (.int (4 : Int32)), .val (.double y3), .second] [])) _
    refine XS.iload X18.here hx rfl (hb hby d1_51) rfl ?_
    show Steps p.tables e below (T18.setTop (mkF m 53 #[.val (.ref o0), .val (.double d1), .second, .val (.double z32_4), .second, .val (.ref b11), .val (.int (1 : Int32)), .val (.int (4 : Int32)), .val (.double y3), .second] [(.int (1 : Int32))])) _
    refine XS.aloadN X18.here hx rfl (hb hby d1_53) rfl rfl ?_
    show Steps p.tables e below (T18.setTop (mkF m 54 #[.val (.ref o0), .val (.double d1), .second, .val (.double z32_4), .second, .val (.ref b11), .val (.int (1 : Int32)), .val (.int (4 : Int32)), .val (.double y3), .second] [(.ref o0), (.int (1 : Int32))])) _
    refine X18.arraylength hx (by rw [e18]; exact Ar21.1) (State.isArrayOf_alike hZ.alike Ar21.2.1) (g := (mkF m 54 #[.val (.ref o0), .val (.double d1), .second, .val (.double z32_4), .second, .val (.ref b11), .val (.int (1 : Int32)), .val (.int (4 : Int32)), .val (.double y3), .second] [(.ref o0), (.int (1 : Int32))])) rfl rfl (hb hby d1_54) _ ?_
    rw [len_of S21 Nn21]
    show Steps p.tables e below (T18.setTop (mkF m 55 #[.val (.ref o0), .val (.double d1), .second, .val (.double z32_4), .second, .val (.ref b11), .val (.int (1 : Int32)), .val (.int (4 : Int32)), .val (.double y3), .second] [(.int (4 : Int32)), (.int (1 : Int32))])) _
    refine XS.icmpNo X18.here hx rfl (hb hby d1_55) rfl (Jvm.Free.XT.ii_ge_f (by decide)) ?_
    show Steps p.tables e below (T18.setTop (mkF m 58 #[.val (.ref o0), .val (.double d1), .second, .val (.double z32_4), .second, .val (.ref b11), .val (.int (1 : Int32)), .val (.int (4 : Int32)), .val (.double y3), .second] [])) _
    refine XS.aload X18.here hx rfl (hb hby d1_58) rfl rfl ?_
    show Steps p.tables e below (T18.setTop (mkF m 60 #[.val (.ref o0), .val (.double d1), .second, .val (.double z32_4), .second, .val (.ref b11), .val (.int (1 : Int32)), .val (.int (4 : Int32)), .val (.double y3), .second] [(.ref b11)])) _
    refine XS.iload X18.here hx rfl (hb hby d1_60) rfl ?_
    show Steps p.tables e below (T18.setTop (mkF m 62 #[.val (.ref o0), .val (.double d1), .second, .val (.double z32_4), .second, .val (.ref b11), .val (.int (1 : Int32)), .val (.int (4 : Int32)), .val (.double y3), .second] [(.int (1 : Int32)), (.ref b11)])) _
    refine XS.aloadN X18.here hx rfl (hb hby d1_62) rfl rfl ?_
    show Steps p.tables e below (T18.setTop (mkF m 63 #[.val (.ref o0), .val (.double d1), .second, .val (.double z32_4), .second, .val (.ref b11), .val (.int (1 : Int32)), .val (.int (4 : Int32)), .val (.double y3), .second] [(.ref o0), (.int (1 : Int32)), (.ref b11)])) _
    refine XS.iload X18.here hx rfl (hb hby d1_63) rfl ?_
    show Steps p.tables e below (T18.setTop (mkF m 65 #[.val (.ref o0), .val (.double d1), .second, .val (.double z32_4), .second, .val (.ref b11), .val (.int (1 : Int32)), .val (.int (4 : Int32)), .val (.double y3), .second] [(.int (1 : Int32)), (.ref o0), (.int (1 : Int32)), (.ref b11)])) _
    refine X18.daload hx (j := (1 : Int32)) (v := (.double y1)) (by rw [e18]; exact Ar22.1) (State.isArrayOf_alike hZ.alike Ar22.2.1) Ar22.2.2 in22 (Has.at Ha22 in22 rfl) (g := (mkF m 65 #[.val (.ref o0), .val (.double d1), .second, .val (.double z32_4), .second, .val (.ref b11), .val (.int (1 : Int32)), .val (.int (4 : Int32)), .val (.double y3), .second] [(.int (1 : Int32)), (.ref o0), (.int (1 : Int32)), (.ref b11)])) rfl rfl (hb hby d1_65) _ ?_
    show Steps p.tables e below (T18.setTop (mkF m 66 #[.val (.ref o0), .val (.double d1), .second, .val (.double z32_4), .second, .val (.ref b11), .val (.int (1 : Int32)), .val (.int (4 : Int32)), .val (.double y3), .second] [(.double y1), (.int (1 : Int32)), (.ref b11)])) _
    refine XS.dloadN X18.here hx rfl (hb hby d1_66) rfl ?_
    show Steps p.tables e below (T18.setTop (mkF m 67 #[.val (.ref o0), .val (.double d1), .second, .val (.double z32_4), .second, .val (.ref b11), .val (.int (1 : Int32)), .val (.int (4 : Int32)), .val (.double y3), .second] [(.double z32_4), (.double y1), (.int (1 : Int32)), (.ref b11)])) _
    refine XS.dloadN X18.here hx rfl (hb hby d1_67) rfl ?_
    show Steps p.tables e below (T18.setTop (mkF m 68 #[.val (.ref o0), .val (.double d1), .second, .val (.double z32_4), .second, .val (.ref b11), .val (.int (1 : Int32)), .val (.int (4 : Int32)), .val (.double y3), .second] [(.double d1), (.double z32_4), (.double y1), (.int (1 : Int32)), (.ref b11)])) _
    refine Jvm.OwnK.dsub X18.here hx rfl (hb hby d1_68) rfl hz68_2 nn68_2 ?_
    show Steps p.tables e below (T18.setTop (mkF m 69 #[.val (.ref o0), .val (.double d1), .second, .val (.double z32_4), .second, .val (.ref b11), .val (.int (1 : Int32)), .val (.int (4 : Int32)), .val (.double y3), .second] [(.double z68_2), (.double y1), (.int (1 : Int32)), (.ref b11)])) _
    refine XS.dcmpS X18.here hx rfl (hb hby d1_69) rfl hz69_2 ?_
    by_cases hm70_0 : z69_2 < (0 : Int32)
    · skip
      show Steps p.tables e below (T18.setTop (mkF m 70 #[.val (.ref o0), .val (.double d1), .second, .val (.double z32_4), .second, .val (.ref b11), .val (.int (1 : Int32)), .val (.int (4 : Int32)), .val (.double y3), .second] [(.int z69_2), (.int (1 : Int32)), (.ref b11)])) _
      refine XS.ifYes X18.here hx rfl (pc0 := 70) (pc' := 77) rfl (hb hby d1_70) rfl (Jvm.Free.XT.i0_lt_t hm70_0) (by decide) (by decide) ?_
      show Steps p.tables e below (T18.setTop (mkF m 77 #[.val (.ref o0), .val (.double d1), .second, .val (.double z32_4), .second, .val (.ref b11), .val (.int (1 : Int32)), .val (.int (4 : Int32)), .val (.double y3), .second] [(.int (1 : Int32)), (.ref b11)])) _
      refine XS.iconst X18.here hx rfl (hb hby d1_77) ?_
      obtain rfl : (0 : Int32) = m70_s0_2 := by rw [← hm70_s0_2]; simp only [if_pos hm70_0]
      exact k
    · skip
      show Steps p.tables e below (T18.setTop (mkF m 70 #[.val (.ref o0), .val (.double d1), .second, .val (.double z32_4), .second, .val (.ref b11), .val (.int (1 : Int32)), .val (.int (4 : Int32)), .val (.double y3), .second] [(.int z69_2), (.int (1 : Int32)), (.ref b11)])) _
      refine XS.ifNo X18.here hx rfl (hb hby d1_70) rfl (Jvm.Free.XT.i0_lt_f hm70_0) ?_
      show Steps p.tables e below (T18.setTop (mkF m 73 #[.val (.ref o0), .val (.double d1), .second, .val (.double z32_4), .second, .val (.ref b11), .val (.int (1 : Int32)), .val (.int (4 : Int32)), .val (.double y3), .second] [(.int (1 : Int32)), (.ref b11)])) _
      refine XS.iconst X18.here hx rfl (hb hby d1_73) ?_
      show Steps p.tables e below (T18.setTop (mkF m 74 #[.val (.ref o0), .val (.double d1), .second, .val (.double z32_4), .second, .val (.ref b11), .val (.int (1 : Int32)), .val (.int (4 : Int32)), .val (.double y3), .second] [(.int (1 : Int32)), (.int (1 : Int32)), (.ref b11)])) _
      refine XS.goto X18.here hx rfl (pc0 := 74) (pc' := 78) rfl (hb hby d1_74) (by decide) (by decide) ?_
      obtain rfl : (1 : Int32) = m70_s0_2 := by rw [← hm70_s0_2]; simp only [if_neg hm70_0]
      exact k
  obtain ⟨cl24, Ar24, q24, S24, Nn24, Ha24, G24⟩ := id V18
  have in24 : ¬ ((1 : Int32) < 0 ∨ cl24.slots.size ≤ ((1 : Int32)).toNatClampNeg) := inb_of S24 ⟨by decide, by decide⟩
  obtain ⟨T25, h25, X25, e25, W25, st25⟩ := stZ X18 hx hZ e18 Ar24 (j := (1 : Int32)) in24 (g := (mkF m 78 #[.val (.ref o0), .val (.double d1), .second, .val (.double z32_4), .second, .val (.ref b11), .val (.int (1 : Int32)), .val (.int (4 : Int32)), .val (.double y3), .second] [(.int m70_s0_2), (.int (1 : Int32)), (.ref b11)])) rfl rfl (hb hby d1_78)
  rw [nb78_2] at W25
  have N25 := Fr.snoc X25 N18 gn11
  have K26 : Keep h0 h25 [] := K19.wr W25 (Or.inr gz11)
  have V25 : Arv Z h25 b11 k11 .boolean (4 : Int32) [(.int m70_s0), (.int m70_s0_2), (.int (0 : Int32)), (.int (0 : Int32))] (.int (0 : Int32)) := Arv.set Ar24 q24 S24 Nn24 Ha24 G24 fi78_2 W25 1 rfl (show (1 : Nat) < 4 by decide)
  have f27 := (f20.other W25 (Nat.ne_of_lt (Nat.lt_of_lt_of_le (V_o0).lt (Nat.le_of_eq g11.symm))))
  obtain ⟨cl28, Ar28, -, S28, Nn28, -, -⟩ := id f27
  obtain ⟨cl29, Ar29, -, S29, -, Ha29, -⟩ := id f27
  have in29 : ¬ ((2 : Int32) < 0 ∨ cl29.slots.size ≤ ((2 : Int32)).toNatClampNeg) := inb_of S29 ⟨by decide, by decide⟩
  have c30 : ∀ t, Steps p.tables e below (T25.setTop (mkF m 78 #[.val (.ref o0), .val (.double d1), .second, .val (.double z32_4), .second, .val (.ref b11), .val (.int (2 : Int32)), .val (.int (4 : Int32)), .val (.double y3), .second] [(.int m70_s0_3), (.int (2 : Int32)), (.ref b11)])) t → Steps p.tables e below (s₁.setTop (entryFrame m #[(.ref o0), (.double d1)] 10)) t := by
    intro t k
    refine c23 t ?_
    show Steps p.tables e below (T18.setTop (mkF m 78 #[.val (.ref o0), .val (.double d1), .second, .val (.double z32_4), .second, .val (.ref b11), .val (.int (1 : Int32)), .val (.int (4 : Int32)), .val (.double y3), .second] [(.int m70_s0_2), (.int (1 : Int32)), (.ref b11)])) _
    refine st25 _ ?_
    show Steps p.tables e below (T25.setTop (mkF m 79 #[.val (.ref o0), .val (.double d1), .second, .val (.double z32_4), .second, .val (.ref b11), .val (.int (1 : Int32)), .val (.int (4 : Int32)), .val (.double y3), .second] [])) _
    refine Jvm.OwnK.iinc X25.here hx rfl (hb hby d1_79) rfl (l' := #[.val (.ref o0), .val (.double d1), .second, .val (.double z32_4), .second, .val (.ref b11), .val (.int (2 : Int32)), .val (.int (4 : Int32)), .val (.double y3), .second]) (v := (2 : Int32)) (by decide) rfl ?_
    show Steps p.tables e below (T25.setTop (mkF m 82 #[.val (.ref o0), .val (.double d1), .second, .val (.double z32_4), .second, .val (.ref b11), .val (.int (2 : Int32)), .val (.int (4 : Int32)), .val (.double y3), .second] [])) _
    refine XS.goto X25.here hx rfl (pc0 := 82) (pc' := 51) rfl (hb hby d1_82) (by decide) (by decide) ?_
    show Steps p.tables e below (T25.setTop (mkF m 51 #[.val (.ref o0), .val (.double d1), .second, .val (.double z32_4), .second, .val (.ref b11), .val (.int (2 : Int32)), .val (.int (4 : Int32)), .val (.double y3), .second] [])) _
    refine XS.iload X25.here hx rfl (hb hby d1_51) rfl ?_
    show Steps p.tables e below (T25.setTop (mkF m 53 #[.val (.ref o0), .val (.double d1), .second, .val (.double z32_4), .second, .val (.ref b11), .val (.int (2 : Int32)), .val (.int (4 : Int32)), .val (.double y3), .second] [(.int (2 : Int32))])) _
    refine XS.aloadN X25.here hx rfl (hb hby d1_53) rfl rfl ?_
    show Steps p.tables e below (T25.setTop (mkF m 54 #[.val (.ref o0), .val (.double d1), .second, .val (.double z32_4), .second, .val (.ref b11), .val (.int (2 : Int32)), .val (.int (4 : Int32)), .val (.double y3), .second] [(.ref o0), (.int (2 : Int32))])) _
    refine X25.arraylength hx (by rw [e25]; exact Ar28.1) (State.isArrayOf_alike hZ.alike Ar28.2.1) (g := (mkF m 54 #[.val (.ref o0), .val (.double d1), .second, .val (.double z32_4), .second, .val (.ref b11), .val (.int (2 : Int32)), .val (.int (4 : Int32)), .val (.double y3), .second] [(.ref o0), (.int (2 : Int32))])) rfl rfl (hb hby d1_54) _ ?_
    rw [len_of S28 Nn28]
    show Steps p.tables e below (T25.setTop (mkF m 55 #[.val (.ref o0), .val (.double d1), .second, .val (.double z32_4), .second, .val (.ref b11), .val (.int (2 : Int32)), .val (.int (4 : Int32)), .val (.double y3), .second] [(.int (4 : Int32)), (.int (2 : Int32))])) _
    refine XS.icmpNo X25.here hx rfl (hb hby d1_55) rfl (Jvm.Free.XT.ii_ge_f (by decide)) ?_
    show Steps p.tables e below (T25.setTop (mkF m 58 #[.val (.ref o0), .val (.double d1), .second, .val (.double z32_4), .second, .val (.ref b11), .val (.int (2 : Int32)), .val (.int (4 : Int32)), .val (.double y3), .second] [])) _
    refine XS.aload X25.here hx rfl (hb hby d1_58) rfl rfl ?_
    show Steps p.tables e below (T25.setTop (mkF m 60 #[.val (.ref o0), .val (.double d1), .second, .val (.double z32_4), .second, .val (.ref b11), .val (.int (2 : Int32)), .val (.int (4 : Int32)), .val (.double y3), .second] [(.ref b11)])) _
    refine XS.iload X25.here hx rfl (hb hby d1_60) rfl ?_
    show Steps p.tables e below (T25.setTop (mkF m 62 #[.val (.ref o0), .val (.double d1), .second, .val (.double z32_4), .second, .val (.ref b11), .val (.int (2 : Int32)), .val (.int (4 : Int32)), .val (.double y3), .second] [(.int (2 : Int32)), (.ref b11)])) _
    refine XS.aloadN X25.here hx rfl (hb hby d1_62) rfl rfl ?_
    show Steps p.tables e below (T25.setTop (mkF m 63 #[.val (.ref o0), .val (.double d1), .second, .val (.double z32_4), .second, .val (.ref b11), .val (.int (2 : Int32)), .val (.int (4 : Int32)), .val (.double y3), .second] [(.ref o0), (.int (2 : Int32)), (.ref b11)])) _
    refine XS.iload X25.here hx rfl (hb hby d1_63) rfl ?_
    show Steps p.tables e below (T25.setTop (mkF m 65 #[.val (.ref o0), .val (.double d1), .second, .val (.double z32_4), .second, .val (.ref b11), .val (.int (2 : Int32)), .val (.int (4 : Int32)), .val (.double y3), .second] [(.int (2 : Int32)), (.ref o0), (.int (2 : Int32)), (.ref b11)])) _
    refine X25.daload hx (j := (2 : Int32)) (v := (.double y2)) (by rw [e25]; exact Ar29.1) (State.isArrayOf_alike hZ.alike Ar29.2.1) Ar29.2.2 in29 (Has.at Ha29 in29 rfl) (g := (mkF m 65 #[.val (.ref o0), .val (.double d1), .second, .val (.double z32_4), .second, .val (.ref b11), .val (.int (2 : Int32)), .val (.int (4 : Int32)), .val (.double y3), .second] [(.int (2 : Int32)), (.ref o0), (.int (2 : Int32)), (.ref b11)])) rfl rfl (hb hby d1_65) _ ?_
    show Steps p.tables e below (T25.setTop (mkF m 66 #[.val (.ref o0), .val (.double d1), .second, .val (.double z32_4), .second, .val (.ref b11), .val (.int (2 : Int32)), .val (.int (4 : Int32)), .val (.double y3), .second] [(.double y2), (.int (2 : Int32)), (.ref b11)])) _
    refine XS.dloadN X25.here hx rfl (hb hby d1_66) rfl ?_
    show Steps p.tables e below (T25.setTop (mkF m 67 #[.val (.ref o0), .val (.double d1), .second, .val (.double z32_4), .second, .val (.ref b11), .val (.int (2 : Int32)), .val (.int (4 : Int32)), .val (.double y3), .second] [(.double z32_4), (.double y2), (.int (2 : Int32)), (.ref b11)])) _
    refine XS.dloadN X25.here hx rfl (hb hby d1_67) rfl ?_
    show Steps p.tables e below (T25.setTop (mkF m 68 #[.val (.ref o0), .val (.double d1), .second, .val (.double z32_4), .second, .val (.ref b11), .val (.int (2 : Int32)), .val (.int (4 : Int32)), .val (.double y3), .second] [(.double d1), (.double z32_4), (.double y2), (.int (2 : Int32)), (.ref b11)])) _
    refine Jvm.OwnK.dsub X25.here hx rfl (hb hby d1_68) rfl hz68_3 nn68_3 ?_
    show Steps p.tables e below (T25.setTop (mkF m 69 #[.val (.ref o0), .val (.double d1), .second, .val (.double z32_4), .second, .val (.ref b11), .val (.int (2 : Int32)), .val (.int (4 : Int32)), .val (.double y3), .second] [(.double z68_3), (.double y2), (.int (2 : Int32)), (.ref b11)])) _
    refine XS.dcmpS X25.here hx rfl (hb hby d1_69) rfl hz69_3 ?_
    by_cases hm70_0 : z69_3 < (0 : Int32)
    · skip
      show Steps p.tables e below (T25.setTop (mkF m 70 #[.val (.ref o0), .val (.double d1), .second, .val (.double z32_4), .second, .val (.ref b11), .val (.int (2 : Int32)), .val (.int (4 : Int32)), .val (.double y3), .second] [(.int z69_3), (.int (2 : Int32)), (.ref b11)])) _
      refine XS.ifYes X25.here hx rfl (pc0 := 70) (pc' := 77) rfl (hb hby d1_70) rfl (Jvm.Free.XT.i0_lt_t hm70_0) (by decide) (by decide) ?_
      show Steps p.tables e below (T25.setTop (mkF m 77 #[.val (.ref o0), .val (.double d1), .second, .val (.double z32_4), .second, .val (.ref b11), .val (.int (2 : Int32)), .val (.int (4 : Int32)), .val (.double y3), .second] [(.int (2 : Int32)), (.ref b11)])) _
      refine XS.iconst X25.here hx rfl (hb hby d1_77) ?_
      obtain rfl : (0 : Int32) = m70_s0_3 := by rw [← hm70_s0_3]; simp only [if_pos hm70_0]
      exact k
    · skip
      show Steps p.tables e below (T25.setTop (mkF m 70 #[.val (.ref o0), .val (.double d1), .second, .val (.double z32_4), .second, .val (.ref b11), .val (.int (2 : Int32)), .val (.int (4 : Int32)), .val (.double y3), .second] [(.int z69_3), (.int (2 : Int32)), (.ref b11)])) _
      refine XS.ifNo X25.here hx rfl (hb hby d1_70) rfl (Jvm.Free.XT.i0_lt_f hm70_0) ?_
      show Steps p.tables e below (T25.setTop (mkF m 73 #[.val (.ref o0), .val (.double d1), .second, .val (.double z32_4), .second, .val (.ref b11), .val (.int (2 : Int32)), .val (.int (4 : Int32)), .val (.double y3), .second] [(.int (2 : Int32)), (.ref b11)])) _
      refine XS.iconst X25.here hx rfl (hb hby d1_73) ?_
      show Steps p.tables e below (T25.setTop (mkF m 74 #[.val (.ref o0), .val (.double d1), .second, .val (.double z32_4), .second, .val (.ref b11), .val (.int (2 : Int32)), .val (.int (4 : Int32)), .val (.double y3), .second] [(.int (1 : Int32)), (.int (2 : Int32)), (.ref b11)])) _
      refine XS.goto X25.here hx rfl (pc0 := 74) (pc' := 78) rfl (hb hby d1_74) (by decide) (by decide) ?_
      obtain rfl : (1 : Int32) = m70_s0_3 := by rw [← hm70_s0_3]; simp only [if_neg hm70_0]
      exact k
  obtain ⟨cl31, Ar31, q31, S31, Nn31, Ha31, G31⟩ := id V25
  have in31 : ¬ ((2 : Int32) < 0 ∨ cl31.slots.size ≤ ((2 : Int32)).toNatClampNeg) := inb_of S31 ⟨by decide, by decide⟩
  obtain ⟨T32, h32, X32, e32, W32, st32⟩ := stZ X25 hx hZ e25 Ar31 (j := (2 : Int32)) in31 (g := (mkF m 78 #[.val (.ref o0), .val (.double d1), .second, .val (.double z32_4), .second, .val (.ref b11), .val (.int (2 : Int32)), .val (.int (4 : Int32)), .val (.double y3), .second] [(.int m70_s0_3), (.int (2 : Int32)), (.ref b11)])) rfl rfl (hb hby d1_78)
  rw [nb78_3] at W32
  have N32 := Fr.snoc X32 N25 gn11
  have K33 : Keep h0 h32 [] := K26.wr W32 (Or.inr gz11)
  have V32 : Arv Z h32 b11 k11 .boolean (4 : Int32) [(.int m70_s0), (.int m70_s0_2), (.int m70_s0_3), (.int (0 : Int32))] (.int (0 : Int32)) := Arv.set Ar31 q31 S31 Nn31 Ha31 G31 fi78_3 W32 2 rfl (show (2 : Nat) < 4 by decide)
  have f34 := (f27.other W32 (Nat.ne_of_lt (Nat.lt_of_lt_of_le (V_o0).lt (Nat.le_of_eq g11.symm))))
  obtain ⟨cl35, Ar35, -, S35, Nn35, -, -⟩ := id f34
  obtain ⟨cl36, Ar36, -, S36, -, Ha36, -⟩ := id f34
  have in36 : ¬ ((3 : Int32) < 0 ∨ cl36.slots.size ≤ ((3 : Int32)).toNatClampNeg) := inb_of S36 ⟨by decide, by decide⟩
  have c37 : ∀ t, Steps p.tables e below (T32.setTop (mkF m 78 #[.val (.ref o0), .val (.double d1), .second, .val (.double z32_4), .second, .val (.ref b11), .val (.int (3 : Int32)), .val (.int (4 : Int32)), .val (.double y3), .second] [(.int m70_s0_4), (.int (3 : Int32)), (.ref b11)])) t → Steps p.tables e below (s₁.setTop (entryFrame m #[(.ref o0), (.double d1)] 10)) t := by
    intro t k
    refine c30 t ?_
    show Steps p.tables e below (T25.setTop (mkF m 78 #[.val (.ref o0), .val (.double d1), .second, .val (.double z32_4), .second, .val (.ref b11), .val (.int (2 : Int32)), .val (.int (4 : Int32)), .val (.double y3), .second] [(.int m70_s0_3), (.int (2 : Int32)), (.ref b11)])) _
    refine st32 _ ?_
    show Steps p.tables e below (T32.setTop (mkF m 79 #[.val (.ref o0), .val (.double d1), .second, .val (.double z32_4), .second, .val (.ref b11), .val (.int (2 : Int32)), .val (.int (4 : Int32)), .val (.double y3), .second] [])) _
    refine Jvm.OwnK.iinc X32.here hx rfl (hb hby d1_79) rfl (l' := #[.val (.ref o0), .val (.double d1), .second, .val (.double z32_4), .second, .val (.ref b11), .val (.int (3 : Int32)), .val (.int (4 : Int32)), .val (.double y3), .second]) (v := (3 : Int32)) (by decide) rfl ?_
    show Steps p.tables e below (T32.setTop (mkF m 82 #[.val (.ref o0), .val (.double d1), .second, .val (.double z32_4), .second, .val (.ref b11), .val (.int (3 : Int32)), .val (.int (4 : Int32)), .val (.double y3), .second] [])) _
    refine XS.goto X32.here hx rfl (pc0 := 82) (pc' := 51) rfl (hb hby d1_82) (by decide) (by decide) ?_
    show Steps p.tables e below (T32.setTop (mkF m 51 #[.val (.ref o0), .val (.double d1), .second, .val (.double z32_4), .second, .val (.ref b11), .val (.int (3 : Int32)), .val (.int (4 : Int32)), .val (.double y3), .second] [])) _
    refine XS.iload X32.here hx rfl (hb hby d1_51) rfl ?_
    show Steps p.tables e below (T32.setTop (mkF m 53 #[.val (.ref o0), .val (.double d1), .second, .val (.double z32_4), .second, .val (.ref b11), .val (.int (3 : Int32)), .val (.int (4 : Int32)), .val (.double y3), .second] [(.int (3 : Int32))])) _
    refine XS.aloadN X32.here hx rfl (hb hby d1_53) rfl rfl ?_
    show Steps p.tables e below (T32.setTop (mkF m 54 #[.val (.ref o0), .val (.double d1), .second, .val (.double z32_4), .second, .val (.ref b11), .val (.int (3 : Int32)), .val (.int (4 : Int32)), .val (.double y3), .second] [(.ref o0), (.int (3 : Int32))])) _
    refine X32.arraylength hx (by rw [e32]; exact Ar35.1) (State.isArrayOf_alike hZ.alike Ar35.2.1) (g := (mkF m 54 #[.val (.ref o0), .val (.double d1), .second, .val (.double z32_4), .second, .val (.ref b11), .val (.int (3 : Int32)), .val (.int (4 : Int32)), .val (.double y3), .second] [(.ref o0), (.int (3 : Int32))])) rfl rfl (hb hby d1_54) _ ?_
    rw [len_of S35 Nn35]
    show Steps p.tables e below (T32.setTop (mkF m 55 #[.val (.ref o0), .val (.double d1), .second, .val (.double z32_4), .second, .val (.ref b11), .val (.int (3 : Int32)), .val (.int (4 : Int32)), .val (.double y3), .second] [(.int (4 : Int32)), (.int (3 : Int32))])) _
    refine XS.icmpNo X32.here hx rfl (hb hby d1_55) rfl (Jvm.Free.XT.ii_ge_f (by decide)) ?_
    show Steps p.tables e below (T32.setTop (mkF m 58 #[.val (.ref o0), .val (.double d1), .second, .val (.double z32_4), .second, .val (.ref b11), .val (.int (3 : Int32)), .val (.int (4 : Int32)), .val (.double y3), .second] [])) _
    refine XS.aload X32.here hx rfl (hb hby d1_58) rfl rfl ?_
    show Steps p.tables e below (T32.setTop (mkF m 60 #[.val (.ref o0), .val (.double d1), .second, .val (.double z32_4), .second, .val (.ref b11), .val (.int (3 : Int32)), .val (.int (4 : Int32)), .val (.double y3), .second] [(.ref b11)])) _
    refine XS.iload X32.here hx rfl (hb hby d1_60) rfl ?_
    show Steps p.tables e below (T32.setTop (mkF m 62 #[.val (.ref o0), .val (.double d1), .second, .val (.double z32_4), .second, .val (.ref b11), .val (.int (3 : Int32)), .val (.int (4 : Int32)), .val (.double y3), .second] [(.int (3 : Int32)), (.ref b11)])) _
    refine XS.aloadN X32.here hx rfl (hb hby d1_62) rfl rfl ?_
    show Steps p.tables e below (T32.setTop (mkF m 63 #[.val (.ref o0), .val (.double d1), .second, .val (.double z32_4), .second, .val (.ref b11), .val (.int (3 : Int32)), .val (.int (4 : Int32)), .val (.double y3), .second] [(.ref o0), (.int (3 : Int32)), (.ref b11)])) _
    refine XS.iload X32.here hx rfl (hb hby d1_63) rfl ?_
    show Steps p.tables e below (T32.setTop (mkF m 65 #[.val (.ref o0), .val (.double d1), .second, .val (.double z32_4), .second, .val (.ref b11), .val (.int (3 : Int32)), .val (.int (4 : Int32)), .val (.double y3), .second] [(.int (3 : Int32)), (.ref o0), (.int (3 : Int32)), (.ref b11)])) _
    refine X32.daload hx (j := (3 : Int32)) (v := (.double y3)) (by rw [e32]; exact Ar36.1) (State.isArrayOf_alike hZ.alike Ar36.2.1) Ar36.2.2 in36 (Has.at Ha36 in36 rfl) (g := (mkF m 65 #[.val (.ref o0), .val (.double d1), .second, .val (.double z32_4), .second, .val (.ref b11), .val (.int (3 : Int32)), .val (.int (4 : Int32)), .val (.double y3), .second] [(.int (3 : Int32)), (.ref o0), (.int (3 : Int32)), (.ref b11)])) rfl rfl (hb hby d1_65) _ ?_
    show Steps p.tables e below (T32.setTop (mkF m 66 #[.val (.ref o0), .val (.double d1), .second, .val (.double z32_4), .second, .val (.ref b11), .val (.int (3 : Int32)), .val (.int (4 : Int32)), .val (.double y3), .second] [(.double y3), (.int (3 : Int32)), (.ref b11)])) _
    refine XS.dloadN X32.here hx rfl (hb hby d1_66) rfl ?_
    show Steps p.tables e below (T32.setTop (mkF m 67 #[.val (.ref o0), .val (.double d1), .second, .val (.double z32_4), .second, .val (.ref b11), .val (.int (3 : Int32)), .val (.int (4 : Int32)), .val (.double y3), .second] [(.double z32_4), (.double y3), (.int (3 : Int32)), (.ref b11)])) _
    refine XS.dloadN X32.here hx rfl (hb hby d1_67) rfl ?_
    show Steps p.tables e below (T32.setTop (mkF m 68 #[.val (.ref o0), .val (.double d1), .second, .val (.double z32_4), .second, .val (.ref b11), .val (.int (3 : Int32)), .val (.int (4 : Int32)), .val (.double y3), .second] [(.double d1), (.double z32_4), (.double y3), (.int (3 : Int32)), (.ref b11)])) _
    refine Jvm.OwnK.dsub X32.here hx rfl (hb hby d1_68) rfl hz68_4 nn68_4 ?_
    show Steps p.tables e below (T32.setTop (mkF m 69 #[.val (.ref o0), .val (.double d1), .second, .val (.double z32_4), .second, .val (.ref b11), .val (.int (3 : Int32)), .val (.int (4 : Int32)), .val (.double y3), .second] [(.double z68_4), (.double y3), (.int (3 : Int32)), (.ref b11)])) _
    refine XS.dcmpS X32.here hx rfl (hb hby d1_69) rfl hz69_4 ?_
    by_cases hm70_0 : z69_4 < (0 : Int32)
    · skip
      show Steps p.tables e below (T32.setTop (mkF m 70 #[.val (.ref o0), .val (.double d1), .second, .val (.double z32_4), .second, .val (.ref b11), .val (.int (3 : Int32)), .val (.int (4 : Int32)), .val (.double y3), .second] [(.int z69_4), (.int (3 : Int32)), (.ref b11)])) _
      refine XS.ifYes X32.here hx rfl (pc0 := 70) (pc' := 77) rfl (hb hby d1_70) rfl (Jvm.Free.XT.i0_lt_t hm70_0) (by decide) (by decide) ?_
      show Steps p.tables e below (T32.setTop (mkF m 77 #[.val (.ref o0), .val (.double d1), .second, .val (.double z32_4), .second, .val (.ref b11), .val (.int (3 : Int32)), .val (.int (4 : Int32)), .val (.double y3), .second] [(.int (3 : Int32)), (.ref b11)])) _
      refine XS.iconst X32.here hx rfl (hb hby d1_77) ?_
      obtain rfl : (0 : Int32) = m70_s0_4 := by rw [← hm70_s0_4]; simp only [if_pos hm70_0]
      exact k
    · skip
      show Steps p.tables e below (T32.setTop (mkF m 70 #[.val (.ref o0), .val (.double d1), .second, .val (.double z32_4), .second, .val (.ref b11), .val (.int (3 : Int32)), .val (.int (4 : Int32)), .val (.double y3), .second] [(.int z69_4), (.int (3 : Int32)), (.ref b11)])) _
      refine XS.ifNo X32.here hx rfl (hb hby d1_70) rfl (Jvm.Free.XT.i0_lt_f hm70_0) ?_
      show Steps p.tables e below (T32.setTop (mkF m 73 #[.val (.ref o0), .val (.double d1), .second, .val (.double z32_4), .second, .val (.ref b11), .val (.int (3 : Int32)), .val (.int (4 : Int32)), .val (.double y3), .second] [(.int (3 : Int32)), (.ref b11)])) _
      refine XS.iconst X32.here hx rfl (hb hby d1_73) ?_
      show Steps p.tables e below (T32.setTop (mkF m 74 #[.val (.ref o0), .val (.double d1), .second, .val (.double z32_4), .second, .val (.ref b11), .val (.int (3 : Int32)), .val (.int (4 : Int32)), .val (.double y3), .second] [(.int (1 : Int32)), (.int (3 : Int32)), (.ref b11)])) _
      refine XS.goto X32.here hx rfl (pc0 := 74) (pc' := 78) rfl (hb hby d1_74) (by decide) (by decide) ?_
      obtain rfl : (1 : Int32) = m70_s0_4 := by rw [← hm70_s0_4]; simp only [if_neg hm70_0]
      exact k
  obtain ⟨cl38, Ar38, q38, S38, Nn38, Ha38, G38⟩ := id V32
  have in38 : ¬ ((3 : Int32) < 0 ∨ cl38.slots.size ≤ ((3 : Int32)).toNatClampNeg) := inb_of S38 ⟨by decide, by decide⟩
  obtain ⟨T39, h39, X39, e39, W39, st39⟩ := stZ X32 hx hZ e32 Ar38 (j := (3 : Int32)) in38 (g := (mkF m 78 #[.val (.ref o0), .val (.double d1), .second, .val (.double z32_4), .second, .val (.ref b11), .val (.int (3 : Int32)), .val (.int (4 : Int32)), .val (.double y3), .second] [(.int m70_s0_4), (.int (3 : Int32)), (.ref b11)])) rfl rfl (hb hby d1_78)
  rw [nb78_4] at W39
  have N39 := Fr.snoc X39 N32 gn11
  have K40 : Keep h0 h39 [] := K33.wr W39 (Or.inr gz11)
  have V39 : Arv Z h39 b11 k11 .boolean (4 : Int32) [(.int m70_s0), (.int m70_s0_2), (.int m70_s0_3), (.int m70_s0_4)] (.int (0 : Int32)) := Arv.set Ar38 q38 S38 Nn38 Ha38 G38 fi78_4 W39 3 rfl (show (3 : Nat) < 4 by decide)
  have f41 := (f34.other W39 (Nat.ne_of_lt (Nat.lt_of_lt_of_le (V_o0).lt (Nat.le_of_eq g11.symm))))
  obtain ⟨cl42, Ar42, -, S42, Nn42, -, -⟩ := id f41
  have c43 : ∀ t, Steps p.tables e below (T39.setTop (mkF m 87 #[.val (.ref o0), .val (.double d1), .second, .val (.double z32_4), .second, .val (.ref b11), .val (.int (4 : Int32)), .val (.int (4 : Int32)), .val (.double y3), .second] [(.ref b11)])) t → Steps p.tables e below (s₁.setTop (entryFrame m #[(.ref o0), (.double d1)] 10)) t := by
    intro t k
    refine c37 t ?_
    show Steps p.tables e below (T32.setTop (mkF m 78 #[.val (.ref o0), .val (.double d1), .second, .val (.double z32_4), .second, .val (.ref b11), .val (.int (3 : Int32)), .val (.int (4 : Int32)), .val (.double y3), .second] [(.int m70_s0_4), (.int (3 : Int32)), (.ref b11)])) _
    refine st39 _ ?_
    show Steps p.tables e below (T39.setTop (mkF m 79 #[.val (.ref o0), .val (.double d1), .second, .val (.double z32_4), .second, .val (.ref b11), .val (.int (3 : Int32)), .val (.int (4 : Int32)), .val (.double y3), .second] [])) _
    refine Jvm.OwnK.iinc X39.here hx rfl (hb hby d1_79) rfl (l' := #[.val (.ref o0), .val (.double d1), .second, .val (.double z32_4), .second, .val (.ref b11), .val (.int (4 : Int32)), .val (.int (4 : Int32)), .val (.double y3), .second]) (v := (4 : Int32)) (by decide) rfl ?_
    show Steps p.tables e below (T39.setTop (mkF m 82 #[.val (.ref o0), .val (.double d1), .second, .val (.double z32_4), .second, .val (.ref b11), .val (.int (4 : Int32)), .val (.int (4 : Int32)), .val (.double y3), .second] [])) _
    refine XS.goto X39.here hx rfl (pc0 := 82) (pc' := 51) rfl (hb hby d1_82) (by decide) (by decide) ?_
    show Steps p.tables e below (T39.setTop (mkF m 51 #[.val (.ref o0), .val (.double d1), .second, .val (.double z32_4), .second, .val (.ref b11), .val (.int (4 : Int32)), .val (.int (4 : Int32)), .val (.double y3), .second] [])) _
    refine XS.iload X39.here hx rfl (hb hby d1_51) rfl ?_
    show Steps p.tables e below (T39.setTop (mkF m 53 #[.val (.ref o0), .val (.double d1), .second, .val (.double z32_4), .second, .val (.ref b11), .val (.int (4 : Int32)), .val (.int (4 : Int32)), .val (.double y3), .second] [(.int (4 : Int32))])) _
    refine XS.aloadN X39.here hx rfl (hb hby d1_53) rfl rfl ?_
    show Steps p.tables e below (T39.setTop (mkF m 54 #[.val (.ref o0), .val (.double d1), .second, .val (.double z32_4), .second, .val (.ref b11), .val (.int (4 : Int32)), .val (.int (4 : Int32)), .val (.double y3), .second] [(.ref o0), (.int (4 : Int32))])) _
    refine X39.arraylength hx (by rw [e39]; exact Ar42.1) (State.isArrayOf_alike hZ.alike Ar42.2.1) (g := (mkF m 54 #[.val (.ref o0), .val (.double d1), .second, .val (.double z32_4), .second, .val (.ref b11), .val (.int (4 : Int32)), .val (.int (4 : Int32)), .val (.double y3), .second] [(.ref o0), (.int (4 : Int32))])) rfl rfl (hb hby d1_54) _ ?_
    rw [len_of S42 Nn42]
    show Steps p.tables e below (T39.setTop (mkF m 55 #[.val (.ref o0), .val (.double d1), .second, .val (.double z32_4), .second, .val (.ref b11), .val (.int (4 : Int32)), .val (.int (4 : Int32)), .val (.double y3), .second] [(.int (4 : Int32)), (.int (4 : Int32))])) _
    refine XS.icmpYes X39.here hx rfl (pc0 := 55) (pc' := 85) rfl (hb hby d1_55) rfl (Jvm.Free.XT.ii_ge_t (by decide)) (by decide) (by decide) ?_
    show Steps p.tables e below (T39.setTop (mkF m 85 #[.val (.ref o0), .val (.double d1), .second, .val (.double z32_4), .second, .val (.ref b11), .val (.int (4 : Int32)), .val (.int (4 : Int32)), .val (.double y3), .second] [])) _
    refine XS.aload X39.here hx rfl (hb hby d1_85) rfl rfl ?_
    exact k
  obtain ⟨fs, hr, hrun, hended, hW, hsame⟩ := X39.leave (v := some (.ref b11)) (fun h => by rw [Bd.returns] at h; cases h)
  refine ⟨_, _, c43 _ ?_, hrun, hended, _, _, rfl, ?_, ⟨_, rfl⟩, hW, hsame.mono (by decide) (by decide)⟩
  · show Steps p.tables e below (T39.setTop (mkF m 87 #[.val (.ref o0), .val (.double d1), .second, .val (.double z32_4), .second, .val (.ref b11), .val (.int (4 : Int32)), .val (.int (4 : Int32)), .val (.double y3), .second] [(.ref b11)])) _
    exact retOut X39 hx Bd.returns rfl (Or.inr (Or.inr (Or.inr (Or.inr ⟨rfl, rfl, rfl⟩)))) (hb hby d1_87) hr
  · show Q1_4 Z o0 d1 k_o0 y0 y1 y2 y3 z32 z32_2 z32_3 z32_4 z68 z69 m70_s0 z68_2 z69_2 m70_s0_2 z68_3 z69_3 m70_s0_3 z68_4 z69_4 m70_s0_4 h0 n0 _ T39.heap _
    rw [e39]
    exact ⟨b11, k11, rfl, N39, gz11, K40, V39⟩
def Q3_4 (Z : State) (q0 : Int64) (p1 : Int32) (o2 : Addr) (o3 : Addr) (q5 : Int64) (k_o2 : ClassId) (x0 : Int64) (x1 : Int64) (x2 : Int64) (x3 : Int64) (k_o3 : ClassId) (f0 : Int32) (f1 : Int32) (f2 : Int32) (f3 : Int32) (c16_z12 : Int64) (c16_z14 : Int32) (c16_rv : Int32) (c39_z12 : Int64) (c39_z14 : Int32) (c39_rv : Int32) (c62_z12 : Int64) (c62_z14 : Int32) (c62_rv : Int32) (c85_z12 : Int64) (c85_z14 : Int32) (c85_rv : Int32) (rv : Int32) (h0 : Heap) (n0 : Nat) (v : Option Value) (h : Heap) (L : List Loc) : Prop := v = some (.int rv) ∧ Fr n0 L ∧ h = h0
set_option maxRecDepth 65536 in
set_option maxHeartbeats 40000000 in
theorem rm3_4 (l : Launch) (Z : State) (a0 : Array Value) (hw : ∀ d ∈ tables_1, d.before a0 Z = true) (ws : List Jvm.Cond) (q0 : Int64) (p1 : Int32) (o2 : Addr) (o3 : Addr) (q5 : Int64) (k_o2 : ClassId) (x0 : Int64) (x1 : Int64) (x2 : Int64) (x3 : Int64) (k_o3 : ClassId) (f0 : Int32) (f1 : Int32) (f2 : Int32) (f3 : Int32) (c16_z12 : Int64) (c16_z14 : Int32) (c16_rv : Int32) (c39_z12 : Int64) (c39_z14 : Int32) (c39_rv : Int32) (c62_z12 : Int64) (c62_z14 : Int32) (c62_rv : Int32) (c85_z12 : Int64) (c85_z14 : Int32) (c85_rv : Int32) (rv : Int32) (h0 : Heap) (n0 : Nat) (Z0 : n0 ≤ h0.size) (V_o2 : Arv Z h0 o2 k_o2 .long (4 : Int32) [(.long x0), (.long x1), (.long x2), (.long x3)] (.long (0 : Int64))) (V_o3 : Arv Z h0 o3 k_o3 .boolean (4 : Int32) [(.int f0), (.int f1), (.int f2), (.int f3)] (.int (0 : Int32))) (hc16_z12 : q0 + q5 = c16_z12) (hc16_z14 : lcmpW c16_z12 x0 = c16_z14) (hc16_rv : (if f0 = (0 : Int32) then (if p1 = (0 : Int32) then (if c16_z14 < (0 : Int32) then (0 : Int32) else (1 : Int32)) else (0 : Int32)) else (1 : Int32)) = c16_rv) (hc39_z12 : q0 + q5 = c39_z12) (hc39_z14 : lcmpW c39_z12 x1 = c39_z14) (hc39_rv : (if f1 = (0 : Int32) then (if p1 = (0 : Int32) then (if c39_z14 < (0 : Int32) then (0 : Int32) else (1 : Int32)) else (0 : Int32)) else (1 : Int32)) = c39_rv) (hc62_z12 : q0 + q5 = c62_z12) (hc62_z14 : lcmpW c62_z12 x2 = c62_z14) (hc62_rv : (if f2 = (0 : Int32) then (if p1 = (0 : Int32) then (if c62_z14 < (0 : Int32) then (0 : Int32) else (1 : Int32)) else (0 : Int32)) else (1 : Int32)) = c62_rv) (hc85_z12 : q0 + q5 = c85_z12) (hc85_z14 : lcmpW c85_z12 x3 = c85_z14) (hc85_rv : (if f3 = (0 : Int32) then (if p1 = (0 : Int32) then (if c85_z14 < (0 : Int32) then (0 : Int32) else (1 : Int32)) else (0 : Int32)) else (1 : Int32)) = c85_rv) (hrv : (if c16_rv = (0 : Int32) then (0 : Int32) else (if c39_rv = (0 : Int32) then (0 : Int32) else (if c62_rv = (0 : Int32) then (0 : Int32) else (if c85_rv = (0 : Int32) then (0 : Int32) else (1 : Int32))))) = rv) :
    MetFree l (⟨"com/example/credal_choice/credalchoice/criteria/ChoiceNearLargestPinLaw", "near", "(JZ[J[ZIJ)Z"⟩ : MethodName) (head1 (Jvm.Cond.code (⟨"com/example/credal_choice/credalchoice/criteria/ChoiceNearLargestPinLaw", "near", "(JZ[J[ZIJ)Z"⟩ : MethodName) method_4_code 8 (some .boolean) :: ws) ({ frames := 1, cells := 0, slots := 0, locals := 19 } : Room)) (fun a U => a = #[(.long q0), (.int p1), (.ref o2), (.ref o3), (.int (4 : Int32)), (.long q5)] ∧ Z.Warmed39 U.vm ∧ U.heap = h0) (fun _ _ _ _ _ => True) (fun _ U o U' => ∃ v L, o = .returned v ∧ Q3_4 Z q0 p1 o2 o3 q5 k_o2 x0 x1 x2 x3 k_o3 f0 f1 f2 f3 c16_z12 c16_z14 c16_rv c39_z12 c39_z14 c39_rv c62_z12 c62_z14 c62_rv c85_z12 c85_z14 c85_rv rv h0 n0 v U'.heap L ∧ FrameEnd U o U' L ({ frames := 1, cells := 0, slots := 0, locals := 19 } : Room).cells ({ frames := 1, cells := 0, slots := 0, locals := 19 } : Room).slots) := by
  refine MetFree.of_bodySF (plainFor_of_name pn_0) hisR ?_
  intro p e s m args below meth c s₁ Bd hml0 hP hK
  obtain ⟨rfl, hZ, hh⟩ := hP
  have hx := Bd.exec
  have hby := Bd.bytes
  have hml : c.maxLocals = 8 := hml0
  have hown : s.vm.findClass "com/example/credal_choice/credalchoice/criteria/ChoiceNearLargestPinLaw" = some m.cls := findClass_of_methodNamed Bd.named
  have hnm := (name_of_methodNamed Bd.named Bd.method).1
  have X0 : Stand p l e ({ frames := 1, cells := 0, slots := 0, locals := 19 } : Room) s m #[(.long q0), (.int p1), (.ref o2), (.ref o3), (.int (4 : Int32)), (.long q5)] below meth c s₁ [] 0 0 := Stand.of_body Bd
  have e0 : s₁.heap = h0 := by rw [← hh, Bd.state]; rfl
  have N0 := Fr.nil n0
  have c0 : ∀ t, Steps p.tables e below (s₁.setTop (mkF m 0 #[.val (.long q0), .second, .val (.int p1), .val (.ref o2), .val (.ref o3), .val (.int (4 : Int32)), .val (.long q5), .second] [])) t → Steps p.tables e below (s₁.setTop (entryFrame m #[(.long q0), (.int p1), (.ref o2), (.ref o3), (.int (4 : Int32)), (.long q5)] 8)) t := fun t k => castTop (ef_rm3_4 m q0 p1 o2 o3 q5) k
  obtain ⟨cl1, Ar1, -, S1, -, Ha1, -⟩ := id V_o2
  have in1 : ¬ ((0 : Int32) < 0 ∨ cl1.slots.size ≤ ((0 : Int32)).toNatClampNeg) := inb_of S1 ⟨by decide, by decide⟩
  obtain ⟨cl2, Ar2, -, S2, -, Ha2, -⟩ := id V_o3
  have in2 : ¬ ((0 : Int32) < 0 ∨ cl2.slots.size ≤ ((0 : Int32)).toNatClampNeg) := inb_of S2 ⟨by decide, by decide⟩
  obtain ⟨_, _, ⟨T3, L3, k3, n3⟩, -, X3, ⟨Lc3, hQ3, ql3, qy3, qz3⟩, st3⟩ := Jvm.LawKit.callS X0 hx (y := (⟨"com/example/credal_choice/credalchoice/criteria/ChoiceNearLargestPinLaw", "beats", "(JZJZJ)Z"⟩ : MethodName)) hown (mvT hZ (hw _ (List.mem_of_getElem? (i := 17) rfl))) (mvT hZ (hw _ (List.mem_of_getElem? (i := 18) rfl))) (mvT hZ (hw _ (List.mem_of_getElem? (i := 15) rfl))) (mvT hZ (hw _ (List.mem_of_getElem? (i := 19) rfl))) (by decide) (backOf (W := 0) (rm4 l Z a0 hw [] q0 p1 x0 f0 q5 c16_z12 c16_z14 c16_rv h0 n0 Z0 hc16_z12 hc16_z14 hc16_rv) hZ (hw _ (List.mem_of_getElem? (i := 19) rfl)) (hw _ (List.mem_of_getElem? (i := 15) rfl)) (by decide) (by decide)) (g := (mkF m 16 #[.val (.long q0), .second, .val (.int p1), .val (.ref o2), .val (.ref o3), .val (.int (4 : Int32)), .val (.long q5), .second] [(.long q5), (.int f0), (.long x0), (.int p1), (.long q0)])) rfl (by rw [hml]; rfl) (argsL := [(.long q0), (.int p1), (.long x0), (.int f0), (.long q5)]) (rest := []) (lenOf pd_1 rfl) rfl (by show 2 * 0 + _ ≤ _; exact Nat.le_of_eq rfl) (hb hby d3_16) (fun _ _ => ⟨rfl, e0, (by decide : 0 + 0 ≤ _), (by decide : 0 + 0 ≤ _)⟩)
  dsimp only [Pt.U, Pt.locs, Pt.cells, Pt.slots] at X3 ql3 qy3 qz3 st3 hQ3
  subst ql3 qy3 qz3
  obtain ⟨rfl, N3q, e3⟩ := hQ3
  have N3 := Fr.app N0 N3q
  have c4 : ∀ t, Steps p.tables e below (T3.setTop (mkF m 19 #[.val (.long q0), .second, .val (.int p1), .val (.ref o2), .val (.ref o3), .val (.int (4 : Int32)), .val (.long q5), .second] [(.int c16_rv)])) t → Steps p.tables e below (s₁.setTop (entryFrame m #[(.long q0), (.int p1), (.ref o2), (.ref o3), (.int (4 : Int32)), (.long q5)] 8)) t := by
    intro t k
    refine c0 t ?_
    show Steps p.tables e below (s₁.setTop (mkF m 0 #[.val (.long q0), .second, .val (.int p1), .val (.ref o2), .val (.ref o3), .val (.int (4 : Int32)), .val (.long q5), .second] [])) _
    refine XS.iload X0.here hx rfl (hb hby d3_0) rfl ?_
    show Steps p.tables e below (s₁.setTop (mkF m 2 #[.val (.long q0), .second, .val (.int p1), .val (.ref o2), .val (.ref o3), .val (.int (4 : Int32)), .val (.long q5), .second] [(.int (4 : Int32))])) _
    refine XS.ifNo X0.here hx rfl (hb hby d3_2) rfl (Jvm.Free.XT.i0_le_f (by decide)) ?_
    show Steps p.tables e below (s₁.setTop (mkF m 5 #[.val (.long q0), .second, .val (.int p1), .val (.ref o2), .val (.ref o3), .val (.int (4 : Int32)), .val (.long q5), .second] [])) _
    refine XS.lloadN X0.here hx rfl (hb hby d3_5) rfl ?_
    show Steps p.tables e below (s₁.setTop (mkF m 6 #[.val (.long q0), .second, .val (.int p1), .val (.ref o2), .val (.ref o3), .val (.int (4 : Int32)), .val (.long q5), .second] [(.long q0)])) _
    refine XS.iloadN X0.here hx rfl (hb hby d3_6) rfl ?_
    show Steps p.tables e below (s₁.setTop (mkF m 7 #[.val (.long q0), .second, .val (.int p1), .val (.ref o2), .val (.ref o3), .val (.int (4 : Int32)), .val (.long q5), .second] [(.int p1), (.long q0)])) _
    refine XS.aloadN X0.here hx rfl (hb hby d3_7) rfl rfl ?_
    show Steps p.tables e below (s₁.setTop (mkF m 8 #[.val (.long q0), .second, .val (.int p1), .val (.ref o2), .val (.ref o3), .val (.int (4 : Int32)), .val (.long q5), .second] [(.ref o2), (.int p1), (.long q0)])) _
    refine XS.iconst X0.here hx rfl (hb hby d3_8) ?_
    show Steps p.tables e below (s₁.setTop (mkF m 9 #[.val (.long q0), .second, .val (.int p1), .val (.ref o2), .val (.ref o3), .val (.int (4 : Int32)), .val (.long q5), .second] [(.int (0 : Int32)), (.ref o2), (.int p1), (.long q0)])) _
    refine X0.laload hx (j := (0 : Int32)) (v := (.long x0)) (by rw [e0]; exact Ar1.1) (State.isArrayOf_alike hZ.alike Ar1.2.1) Ar1.2.2 in1 (Has.at Ha1 in1 rfl) (g := (mkF m 9 #[.val (.long q0), .second, .val (.int p1), .val (.ref o2), .val (.ref o3), .val (.int (4 : Int32)), .val (.long q5), .second] [(.int (0 : Int32)), (.ref o2), (.int p1), (.long q0)])) rfl rfl (hb hby d3_9) _ ?_
    show Steps p.tables e below (s₁.setTop (mkF m 10 #[.val (.long q0), .second, .val (.int p1), .val (.ref o2), .val (.ref o3), .val (.int (4 : Int32)), .val (.long q5), .second] [(.long x0), (.int p1), (.long q0)])) _
    refine XS.aload X0.here hx rfl (hb hby d3_10) rfl rfl ?_
    show Steps p.tables e below (s₁.setTop (mkF m 12 #[.val (.long q0), .second, .val (.int p1), .val (.ref o2), .val (.ref o3), .val (.int (4 : Int32)), .val (.long q5), .second] [(.ref o3), (.long x0), (.int p1), (.long q0)])) _
    refine XS.iconst X0.here hx rfl (hb hby d3_12) ?_
    show Steps p.tables e below (s₁.setTop (mkF m 13 #[.val (.long q0), .second, .val (.int p1), .val (.ref o2), .val (.ref o3), .val (.int (4 : Int32)), .val (.long q5), .second] [(.int (0 : Int32)), (.ref o3), (.long x0), (.int p1), (.long q0)])) _
    refine X0.baloadBooleans hx (j := (0 : Int32)) (v := (.int f0)) (by rw [e0]; exact Ar2.1) (State.isArrayOf_alike hZ.alike Ar2.2.1) Ar2.2.2 in2 (Has.at Ha2 in2 rfl) (g := (mkF m 13 #[.val (.long q0), .second, .val (.int p1), .val (.ref o2), .val (.ref o3), .val (.int (4 : Int32)), .val (.long q5), .second] [(.int (0 : Int32)), (.ref o3), (.long x0), (.int p1), (.long q0)])) rfl rfl (hb hby d3_13) _ ?_
    show Steps p.tables e below (s₁.setTop (mkF m 14 #[.val (.long q0), .second, .val (.int p1), .val (.ref o2), .val (.ref o3), .val (.int (4 : Int32)), .val (.long q5), .second] [(.int f0), (.long x0), (.int p1), (.long q0)])) _
    refine XS.lload X0.here hx rfl (hb hby d3_14) rfl ?_
    show Steps p.tables e below (s₁.setTop (mkF m 16 #[.val (.long q0), .second, .val (.int p1), .val (.ref o2), .val (.ref o3), .val (.int (4 : Int32)), .val (.long q5), .second] [(.long q5), (.int f0), (.long x0), (.int p1), (.long q0)])) _
    refine st3 _ ?_
    exact k
  by_cases hb19 : c16_rv = (0 : Int32)
  · skip
    have c5 : ∀ t, Steps p.tables e below (T3.setTop (mkF m 96 #[.val (.long q0), .second, .val (.int p1), .val (.ref o2), .val (.ref o3), .val (.int (4 : Int32)), .val (.long q5), .second] [(.int (0 : Int32))])) t → Steps p.tables e below (s₁.setTop (entryFrame m #[(.long q0), (.int p1), (.ref o2), (.ref o3), (.int (4 : Int32)), (.long q5)] 8)) t := by
      intro t k
      refine c4 t ?_
      show Steps p.tables e below (T3.setTop (mkF m 19 #[.val (.long q0), .second, .val (.int p1), .val (.ref o2), .val (.ref o3), .val (.int (4 : Int32)), .val (.long q5), .second] [(.int c16_rv)])) _
      refine XS.ifYes X3.here hx rfl (pc0 := 19) (pc' := 95) rfl (hb hby d3_19) rfl (Jvm.Free.XT.i0_eq_t hb19) (by decide) (by decide) ?_
      show Steps p.tables e below (T3.setTop (mkF m 95 #[.val (.long q0), .second, .val (.int p1), .val (.ref o2), .val (.ref o3), .val (.int (4 : Int32)), .val (.long q5), .second] [])) _
      refine XS.iconst X3.here hx rfl (hb hby d3_95) ?_
      exact k
    obtain ⟨fs, hr, hrun, hended, hW, hsame⟩ := X3.leave (v := some (.int (0 : Int32))) (fun h => by rw [Bd.returns] at h; cases h)
    refine ⟨_, _, c5 _ ?_, hrun, hended, _, _, rfl, ?_, ⟨_, rfl⟩, hW, hsame.mono (by decide) (by decide)⟩
    · show Steps p.tables e below (T3.setTop (mkF m 96 #[.val (.long q0), .second, .val (.int p1), .val (.ref o2), .val (.ref o3), .val (.int (4 : Int32)), .val (.long q5), .second] [(.int (0 : Int32))])) _
      exact retOut X3 hx Bd.returns rfl (Or.inl ⟨rfl, by simp, _, rfl⟩) (hb hby d3_96) hr
    · show Q3_4 Z q0 p1 o2 o3 q5 k_o2 x0 x1 x2 x3 k_o3 f0 f1 f2 f3 c16_z12 c16_z14 c16_rv c39_z12 c39_z14 c39_rv c62_z12 c62_z14 c62_rv c85_z12 c85_z14 c85_rv rv h0 n0 _ T3.heap _
      rw [e3]
      exact ⟨(congrArg (fun z => some (Value.int z)) (show (0 : Int32) = rv by rw [← hrv]; simp only [if_pos hb19])), by first | assumption | exact N0, rfl⟩
  · skip
    obtain ⟨cl6, Ar6, -, S6, -, Ha6, -⟩ := id V_o2
    have in6 : ¬ ((1 : Int32) < 0 ∨ cl6.slots.size ≤ ((1 : Int32)).toNatClampNeg) := inb_of S6 ⟨by decide, by decide⟩
    obtain ⟨cl7, Ar7, -, S7, -, Ha7, -⟩ := id V_o3
    have in7 : ¬ ((1 : Int32) < 0 ∨ cl7.slots.size ≤ ((1 : Int32)).toNatClampNeg) := inb_of S7 ⟨by decide, by decide⟩
    obtain ⟨_, _, ⟨T8, L8, k8, n8⟩, -, X8, ⟨Lc8, hQ8, ql8, qy8, qz8⟩, st8⟩ := Jvm.LawKit.callS X3 hx (y := (⟨"com/example/credal_choice/credalchoice/criteria/ChoiceNearLargestPinLaw", "beats", "(JZJZJ)Z"⟩ : MethodName)) hown (mvT hZ (hw _ (List.mem_of_getElem? (i := 17) rfl))) (mvT hZ (hw _ (List.mem_of_getElem? (i := 18) rfl))) (mvT hZ (hw _ (List.mem_of_getElem? (i := 15) rfl))) (mvT hZ (hw _ (List.mem_of_getElem? (i := 19) rfl))) (by decide) (backOf (W := 0) (rm4 l Z a0 hw [] q0 p1 x1 f1 q5 c39_z12 c39_z14 c39_rv h0 n0 Z0 hc39_z12 hc39_z14 hc39_rv) hZ (hw _ (List.mem_of_getElem? (i := 19) rfl)) (hw _ (List.mem_of_getElem? (i := 15) rfl)) (by decide) (by decide)) (g := (mkF m 39 #[.val (.long q0), .second, .val (.int p1), .val (.ref o2), .val (.ref o3), .val (.int (4 : Int32)), .val (.long q5), .second] [(.long q5), (.int f1), (.long x1), (.int p1), (.long q0)])) rfl (by rw [hml]; rfl) (argsL := [(.long q0), (.int p1), (.long x1), (.int f1), (.long q5)]) (rest := []) (lenOf pd_1 rfl) rfl (by show 2 * 0 + _ ≤ _; exact Nat.le_of_eq rfl) (hb hby d3_39) (fun _ _ => ⟨rfl, e3, (by decide : 0 + 0 ≤ _), (by decide : 0 + 0 ≤ _)⟩)
    dsimp only [Pt.U, Pt.locs, Pt.cells, Pt.slots] at X8 ql8 qy8 qz8 st8 hQ8
    subst ql8 qy8 qz8
    obtain ⟨rfl, N8q, e8⟩ := hQ8
    have N8 := Fr.app N3 N8q
    have c9 : ∀ t, Steps p.tables e below (T8.setTop (mkF m 42 #[.val (.long q0), .second, .val (.int p1), .val (.ref o2), .val (.ref o3), .val (.int (4 : Int32)), .val (.long q5), .second] [(.int c39_rv)])) t → Steps p.tables e below (s₁.setTop (entryFrame m #[(.long q0), (.int p1), (.ref o2), (.ref o3), (.int (4 : Int32)), (.long q5)] 8)) t := by
      intro t k
      refine c4 t ?_
      show Steps p.tables e below (T3.setTop (mkF m 19 #[.val (.long q0), .second, .val (.int p1), .val (.ref o2), .val (.ref o3), .val (.int (4 : Int32)), .val (.long q5), .second] [(.int c16_rv)])) _
      refine XS.ifNo X3.here hx rfl (hb hby d3_19) rfl (Jvm.Free.XT.i0_eq_f hb19) ?_
      show Steps p.tables e below (T3.setTop (mkF m 22 #[.val (.long q0), .second, .val (.int p1), .val (.ref o2), .val (.ref o3), .val (.int (4 : Int32)), .val (.long q5), .second] [])) _
      refine XS.iload X3.here hx rfl (hb hby d3_22) rfl ?_
      show Steps p.tables e below (T3.setTop (mkF m 24 #[.val (.long q0), .second, .val (.int p1), .val (.ref o2), .val (.ref o3), .val (.int (4 : Int32)), .val (.long q5), .second] [(.int (4 : Int32))])) _
      refine XS.iconst X3.here hx rfl (hb hby d3_24) ?_
      show Steps p.tables e below (T3.setTop (mkF m 25 #[.val (.long q0), .second, .val (.int p1), .val (.ref o2), .val (.ref o3), .val (.int (4 : Int32)), .val (.long q5), .second] [(.int (1 : Int32)), (.int (4 : Int32))])) _
      refine XS.icmpNo X3.here hx rfl (hb hby d3_25) rfl (Jvm.Free.XT.ii_le_f (by decide)) ?_
      show Steps p.tables e below (T3.setTop (mkF m 28 #[.val (.long q0), .second, .val (.int p1), .val (.ref o2), .val (.ref o3), .val (.int (4 : Int32)), .val (.long q5), .second] [])) _
      refine XS.lloadN X3.here hx rfl (hb hby d3_28) rfl ?_
      show Steps p.tables e below (T3.setTop (mkF m 29 #[.val (.long q0), .second, .val (.int p1), .val (.ref o2), .val (.ref o3), .val (.int (4 : Int32)), .val (.long q5), .second] [(.long q0)])) _
      refine XS.iloadN X3.here hx rfl (hb hby d3_29) rfl ?_
      show Steps p.tables e below (T3.setTop (mkF m 30 #[.val (.long q0), .second, .val (.int p1), .val (.ref o2), .val (.ref o3), .val (.int (4 : Int32)), .val (.long q5), .second] [(.int p1), (.long q0)])) _
      refine XS.aloadN X3.here hx rfl (hb hby d3_30) rfl rfl ?_
      show Steps p.tables e below (T3.setTop (mkF m 31 #[.val (.long q0), .second, .val (.int p1), .val (.ref o2), .val (.ref o3), .val (.int (4 : Int32)), .val (.long q5), .second] [(.ref o2), (.int p1), (.long q0)])) _
      refine XS.iconst X3.here hx rfl (hb hby d3_31) ?_
      show Steps p.tables e below (T3.setTop (mkF m 32 #[.val (.long q0), .second, .val (.int p1), .val (.ref o2), .val (.ref o3), .val (.int (4 : Int32)), .val (.long q5), .second] [(.int (1 : Int32)), (.ref o2), (.int p1), (.long q0)])) _
      refine X3.laload hx (j := (1 : Int32)) (v := (.long x1)) (by rw [e3]; exact Ar6.1) (State.isArrayOf_alike hZ.alike Ar6.2.1) Ar6.2.2 in6 (Has.at Ha6 in6 rfl) (g := (mkF m 32 #[.val (.long q0), .second, .val (.int p1), .val (.ref o2), .val (.ref o3), .val (.int (4 : Int32)), .val (.long q5), .second] [(.int (1 : Int32)), (.ref o2), (.int p1), (.long q0)])) rfl rfl (hb hby d3_32) _ ?_
      show Steps p.tables e below (T3.setTop (mkF m 33 #[.val (.long q0), .second, .val (.int p1), .val (.ref o2), .val (.ref o3), .val (.int (4 : Int32)), .val (.long q5), .second] [(.long x1), (.int p1), (.long q0)])) _
      refine XS.aload X3.here hx rfl (hb hby d3_33) rfl rfl ?_
      show Steps p.tables e below (T3.setTop (mkF m 35 #[.val (.long q0), .second, .val (.int p1), .val (.ref o2), .val (.ref o3), .val (.int (4 : Int32)), .val (.long q5), .second] [(.ref o3), (.long x1), (.int p1), (.long q0)])) _
      refine XS.iconst X3.here hx rfl (hb hby d3_35) ?_
      show Steps p.tables e below (T3.setTop (mkF m 36 #[.val (.long q0), .second, .val (.int p1), .val (.ref o2), .val (.ref o3), .val (.int (4 : Int32)), .val (.long q5), .second] [(.int (1 : Int32)), (.ref o3), (.long x1), (.int p1), (.long q0)])) _
      refine X3.baloadBooleans hx (j := (1 : Int32)) (v := (.int f1)) (by rw [e3]; exact Ar7.1) (State.isArrayOf_alike hZ.alike Ar7.2.1) Ar7.2.2 in7 (Has.at Ha7 in7 rfl) (g := (mkF m 36 #[.val (.long q0), .second, .val (.int p1), .val (.ref o2), .val (.ref o3), .val (.int (4 : Int32)), .val (.long q5), .second] [(.int (1 : Int32)), (.ref o3), (.long x1), (.int p1), (.long q0)])) rfl rfl (hb hby d3_36) _ ?_
      show Steps p.tables e below (T3.setTop (mkF m 37 #[.val (.long q0), .second, .val (.int p1), .val (.ref o2), .val (.ref o3), .val (.int (4 : Int32)), .val (.long q5), .second] [(.int f1), (.long x1), (.int p1), (.long q0)])) _
      refine XS.lload X3.here hx rfl (hb hby d3_37) rfl ?_
      show Steps p.tables e below (T3.setTop (mkF m 39 #[.val (.long q0), .second, .val (.int p1), .val (.ref o2), .val (.ref o3), .val (.int (4 : Int32)), .val (.long q5), .second] [(.long q5), (.int f1), (.long x1), (.int p1), (.long q0)])) _
      refine st8 _ ?_
      exact k
    by_cases hb42 : c39_rv = (0 : Int32)
    · skip
      have c10 : ∀ t, Steps p.tables e below (T8.setTop (mkF m 96 #[.val (.long q0), .second, .val (.int p1), .val (.ref o2), .val (.ref o3), .val (.int (4 : Int32)), .val (.long q5), .second] [(.int (0 : Int32))])) t → Steps p.tables e below (s₁.setTop (entryFrame m #[(.long q0), (.int p1), (.ref o2), (.ref o3), (.int (4 : Int32)), (.long q5)] 8)) t := by
        intro t k
        refine c9 t ?_
        show Steps p.tables e below (T8.setTop (mkF m 42 #[.val (.long q0), .second, .val (.int p1), .val (.ref o2), .val (.ref o3), .val (.int (4 : Int32)), .val (.long q5), .second] [(.int c39_rv)])) _
        refine XS.ifYes X8.here hx rfl (pc0 := 42) (pc' := 95) rfl (hb hby d3_42) rfl (Jvm.Free.XT.i0_eq_t hb42) (by decide) (by decide) ?_
        show Steps p.tables e below (T8.setTop (mkF m 95 #[.val (.long q0), .second, .val (.int p1), .val (.ref o2), .val (.ref o3), .val (.int (4 : Int32)), .val (.long q5), .second] [])) _
        refine XS.iconst X8.here hx rfl (hb hby d3_95) ?_
        exact k
      obtain ⟨fs, hr, hrun, hended, hW, hsame⟩ := X8.leave (v := some (.int (0 : Int32))) (fun h => by rw [Bd.returns] at h; cases h)
      refine ⟨_, _, c10 _ ?_, hrun, hended, _, _, rfl, ?_, ⟨_, rfl⟩, hW, hsame.mono (by decide) (by decide)⟩
      · show Steps p.tables e below (T8.setTop (mkF m 96 #[.val (.long q0), .second, .val (.int p1), .val (.ref o2), .val (.ref o3), .val (.int (4 : Int32)), .val (.long q5), .second] [(.int (0 : Int32))])) _
        exact retOut X8 hx Bd.returns rfl (Or.inl ⟨rfl, by simp, _, rfl⟩) (hb hby d3_96) hr
      · show Q3_4 Z q0 p1 o2 o3 q5 k_o2 x0 x1 x2 x3 k_o3 f0 f1 f2 f3 c16_z12 c16_z14 c16_rv c39_z12 c39_z14 c39_rv c62_z12 c62_z14 c62_rv c85_z12 c85_z14 c85_rv rv h0 n0 _ T8.heap _
        rw [e8]
        exact ⟨(congrArg (fun z => some (Value.int z)) (show (0 : Int32) = rv by rw [← hrv]; simp only [if_neg hb19, if_pos hb42])), by first | assumption | exact N0, rfl⟩
    · skip
      obtain ⟨cl11, Ar11, -, S11, -, Ha11, -⟩ := id V_o2
      have in11 : ¬ ((2 : Int32) < 0 ∨ cl11.slots.size ≤ ((2 : Int32)).toNatClampNeg) := inb_of S11 ⟨by decide, by decide⟩
      obtain ⟨cl12, Ar12, -, S12, -, Ha12, -⟩ := id V_o3
      have in12 : ¬ ((2 : Int32) < 0 ∨ cl12.slots.size ≤ ((2 : Int32)).toNatClampNeg) := inb_of S12 ⟨by decide, by decide⟩
      obtain ⟨_, _, ⟨T13, L13, k13, n13⟩, -, X13, ⟨Lc13, hQ13, ql13, qy13, qz13⟩, st13⟩ := Jvm.LawKit.callS X8 hx (y := (⟨"com/example/credal_choice/credalchoice/criteria/ChoiceNearLargestPinLaw", "beats", "(JZJZJ)Z"⟩ : MethodName)) hown (mvT hZ (hw _ (List.mem_of_getElem? (i := 17) rfl))) (mvT hZ (hw _ (List.mem_of_getElem? (i := 18) rfl))) (mvT hZ (hw _ (List.mem_of_getElem? (i := 15) rfl))) (mvT hZ (hw _ (List.mem_of_getElem? (i := 19) rfl))) (by decide) (backOf (W := 0) (rm4 l Z a0 hw [] q0 p1 x2 f2 q5 c62_z12 c62_z14 c62_rv h0 n0 Z0 hc62_z12 hc62_z14 hc62_rv) hZ (hw _ (List.mem_of_getElem? (i := 19) rfl)) (hw _ (List.mem_of_getElem? (i := 15) rfl)) (by decide) (by decide)) (g := (mkF m 62 #[.val (.long q0), .second, .val (.int p1), .val (.ref o2), .val (.ref o3), .val (.int (4 : Int32)), .val (.long q5), .second] [(.long q5), (.int f2), (.long x2), (.int p1), (.long q0)])) rfl (by rw [hml]; rfl) (argsL := [(.long q0), (.int p1), (.long x2), (.int f2), (.long q5)]) (rest := []) (lenOf pd_1 rfl) rfl (by show 2 * 0 + _ ≤ _; exact Nat.le_of_eq rfl) (hb hby d3_62) (fun _ _ => ⟨rfl, e8, (by decide : 0 + 0 ≤ _), (by decide : 0 + 0 ≤ _)⟩)
      dsimp only [Pt.U, Pt.locs, Pt.cells, Pt.slots] at X13 ql13 qy13 qz13 st13 hQ13
      subst ql13 qy13 qz13
      obtain ⟨rfl, N13q, e13⟩ := hQ13
      have N13 := Fr.app N8 N13q
      have c14 : ∀ t, Steps p.tables e below (T13.setTop (mkF m 65 #[.val (.long q0), .second, .val (.int p1), .val (.ref o2), .val (.ref o3), .val (.int (4 : Int32)), .val (.long q5), .second] [(.int c62_rv)])) t → Steps p.tables e below (s₁.setTop (entryFrame m #[(.long q0), (.int p1), (.ref o2), (.ref o3), (.int (4 : Int32)), (.long q5)] 8)) t := by
        intro t k
        refine c9 t ?_
        show Steps p.tables e below (T8.setTop (mkF m 42 #[.val (.long q0), .second, .val (.int p1), .val (.ref o2), .val (.ref o3), .val (.int (4 : Int32)), .val (.long q5), .second] [(.int c39_rv)])) _
        refine XS.ifNo X8.here hx rfl (hb hby d3_42) rfl (Jvm.Free.XT.i0_eq_f hb42) ?_
        show Steps p.tables e below (T8.setTop (mkF m 45 #[.val (.long q0), .second, .val (.int p1), .val (.ref o2), .val (.ref o3), .val (.int (4 : Int32)), .val (.long q5), .second] [])) _
        refine XS.iload X8.here hx rfl (hb hby d3_45) rfl ?_
        show Steps p.tables e below (T8.setTop (mkF m 47 #[.val (.long q0), .second, .val (.int p1), .val (.ref o2), .val (.ref o3), .val (.int (4 : Int32)), .val (.long q5), .second] [(.int (4 : Int32))])) _
        refine XS.iconst X8.here hx rfl (hb hby d3_47) ?_
        show Steps p.tables e below (T8.setTop (mkF m 48 #[.val (.long q0), .second, .val (.int p1), .val (.ref o2), .val (.ref o3), .val (.int (4 : Int32)), .val (.long q5), .second] [(.int (2 : Int32)), (.int (4 : Int32))])) _
        refine XS.icmpNo X8.here hx rfl (hb hby d3_48) rfl (Jvm.Free.XT.ii_le_f (by decide)) ?_
        show Steps p.tables e below (T8.setTop (mkF m 51 #[.val (.long q0), .second, .val (.int p1), .val (.ref o2), .val (.ref o3), .val (.int (4 : Int32)), .val (.long q5), .second] [])) _
        refine XS.lloadN X8.here hx rfl (hb hby d3_51) rfl ?_
        show Steps p.tables e below (T8.setTop (mkF m 52 #[.val (.long q0), .second, .val (.int p1), .val (.ref o2), .val (.ref o3), .val (.int (4 : Int32)), .val (.long q5), .second] [(.long q0)])) _
        refine XS.iloadN X8.here hx rfl (hb hby d3_52) rfl ?_
        show Steps p.tables e below (T8.setTop (mkF m 53 #[.val (.long q0), .second, .val (.int p1), .val (.ref o2), .val (.ref o3), .val (.int (4 : Int32)), .val (.long q5), .second] [(.int p1), (.long q0)])) _
        refine XS.aloadN X8.here hx rfl (hb hby d3_53) rfl rfl ?_
        show Steps p.tables e below (T8.setTop (mkF m 54 #[.val (.long q0), .second, .val (.int p1), .val (.ref o2), .val (.ref o3), .val (.int (4 : Int32)), .val (.long q5), .second] [(.ref o2), (.int p1), (.long q0)])) _
        refine XS.iconst X8.here hx rfl (hb hby d3_54) ?_
        show Steps p.tables e below (T8.setTop (mkF m 55 #[.val (.long q0), .second, .val (.int p1), .val (.ref o2), .val (.ref o3), .val (.int (4 : Int32)), .val (.long q5), .second] [(.int (2 : Int32)), (.ref o2), (.int p1), (.long q0)])) _
        refine X8.laload hx (j := (2 : Int32)) (v := (.long x2)) (by rw [e8]; exact Ar11.1) (State.isArrayOf_alike hZ.alike Ar11.2.1) Ar11.2.2 in11 (Has.at Ha11 in11 rfl) (g := (mkF m 55 #[.val (.long q0), .second, .val (.int p1), .val (.ref o2), .val (.ref o3), .val (.int (4 : Int32)), .val (.long q5), .second] [(.int (2 : Int32)), (.ref o2), (.int p1), (.long q0)])) rfl rfl (hb hby d3_55) _ ?_
        show Steps p.tables e below (T8.setTop (mkF m 56 #[.val (.long q0), .second, .val (.int p1), .val (.ref o2), .val (.ref o3), .val (.int (4 : Int32)), .val (.long q5), .second] [(.long x2), (.int p1), (.long q0)])) _
        refine XS.aload X8.here hx rfl (hb hby d3_56) rfl rfl ?_
        show Steps p.tables e below (T8.setTop (mkF m 58 #[.val (.long q0), .second, .val (.int p1), .val (.ref o2), .val (.ref o3), .val (.int (4 : Int32)), .val (.long q5), .second] [(.ref o3), (.long x2), (.int p1), (.long q0)])) _
        refine XS.iconst X8.here hx rfl (hb hby d3_58) ?_
        show Steps p.tables e below (T8.setTop (mkF m 59 #[.val (.long q0), .second, .val (.int p1), .val (.ref o2), .val (.ref o3), .val (.int (4 : Int32)), .val (.long q5), .second] [(.int (2 : Int32)), (.ref o3), (.long x2), (.int p1), (.long q0)])) _
        refine X8.baloadBooleans hx (j := (2 : Int32)) (v := (.int f2)) (by rw [e8]; exact Ar12.1) (State.isArrayOf_alike hZ.alike Ar12.2.1) Ar12.2.2 in12 (Has.at Ha12 in12 rfl) (g := (mkF m 59 #[.val (.long q0), .second, .val (.int p1), .val (.ref o2), .val (.ref o3), .val (.int (4 : Int32)), .val (.long q5), .second] [(.int (2 : Int32)), (.ref o3), (.long x2), (.int p1), (.long q0)])) rfl rfl (hb hby d3_59) _ ?_
        show Steps p.tables e below (T8.setTop (mkF m 60 #[.val (.long q0), .second, .val (.int p1), .val (.ref o2), .val (.ref o3), .val (.int (4 : Int32)), .val (.long q5), .second] [(.int f2), (.long x2), (.int p1), (.long q0)])) _
        refine XS.lload X8.here hx rfl (hb hby d3_60) rfl ?_
        show Steps p.tables e below (T8.setTop (mkF m 62 #[.val (.long q0), .second, .val (.int p1), .val (.ref o2), .val (.ref o3), .val (.int (4 : Int32)), .val (.long q5), .second] [(.long q5), (.int f2), (.long x2), (.int p1), (.long q0)])) _
        refine st13 _ ?_
        exact k
      by_cases hb65 : c62_rv = (0 : Int32)
      · skip
        have c15 : ∀ t, Steps p.tables e below (T13.setTop (mkF m 96 #[.val (.long q0), .second, .val (.int p1), .val (.ref o2), .val (.ref o3), .val (.int (4 : Int32)), .val (.long q5), .second] [(.int (0 : Int32))])) t → Steps p.tables e below (s₁.setTop (entryFrame m #[(.long q0), (.int p1), (.ref o2), (.ref o3), (.int (4 : Int32)), (.long q5)] 8)) t := by
          intro t k
          refine c14 t ?_
          show Steps p.tables e below (T13.setTop (mkF m 65 #[.val (.long q0), .second, .val (.int p1), .val (.ref o2), .val (.ref o3), .val (.int (4 : Int32)), .val (.long q5), .second] [(.int c62_rv)])) _
          refine XS.ifYes X13.here hx rfl (pc0 := 65) (pc' := 95) rfl (hb hby d3_65) rfl (Jvm.Free.XT.i0_eq_t hb65) (by decide) (by decide) ?_
          show Steps p.tables e below (T13.setTop (mkF m 95 #[.val (.long q0), .second, .val (.int p1), .val (.ref o2), .val (.ref o3), .val (.int (4 : Int32)), .val (.long q5), .second] [])) _
          refine XS.iconst X13.here hx rfl (hb hby d3_95) ?_
          exact k
        obtain ⟨fs, hr, hrun, hended, hW, hsame⟩ := X13.leave (v := some (.int (0 : Int32))) (fun h => by rw [Bd.returns] at h; cases h)
        refine ⟨_, _, c15 _ ?_, hrun, hended, _, _, rfl, ?_, ⟨_, rfl⟩, hW, hsame.mono (by decide) (by decide)⟩
        · show Steps p.tables e below (T13.setTop (mkF m 96 #[.val (.long q0), .second, .val (.int p1), .val (.ref o2), .val (.ref o3), .val (.int (4 : Int32)), .val (.long q5), .second] [(.int (0 : Int32))])) _
          exact retOut X13 hx Bd.returns rfl (Or.inl ⟨rfl, by simp, _, rfl⟩) (hb hby d3_96) hr
        · show Q3_4 Z q0 p1 o2 o3 q5 k_o2 x0 x1 x2 x3 k_o3 f0 f1 f2 f3 c16_z12 c16_z14 c16_rv c39_z12 c39_z14 c39_rv c62_z12 c62_z14 c62_rv c85_z12 c85_z14 c85_rv rv h0 n0 _ T13.heap _
          rw [e13]
          exact ⟨(congrArg (fun z => some (Value.int z)) (show (0 : Int32) = rv by rw [← hrv]; simp only [if_neg hb19, if_neg hb42, if_pos hb65])), by first | assumption | exact N0, rfl⟩
      · skip
        obtain ⟨cl16, Ar16, -, S16, -, Ha16, -⟩ := id V_o2
        have in16 : ¬ ((3 : Int32) < 0 ∨ cl16.slots.size ≤ ((3 : Int32)).toNatClampNeg) := inb_of S16 ⟨by decide, by decide⟩
        obtain ⟨cl17, Ar17, -, S17, -, Ha17, -⟩ := id V_o3
        have in17 : ¬ ((3 : Int32) < 0 ∨ cl17.slots.size ≤ ((3 : Int32)).toNatClampNeg) := inb_of S17 ⟨by decide, by decide⟩
        obtain ⟨_, _, ⟨T18, L18, k18, n18⟩, -, X18, ⟨Lc18, hQ18, ql18, qy18, qz18⟩, st18⟩ := Jvm.LawKit.callS X13 hx (y := (⟨"com/example/credal_choice/credalchoice/criteria/ChoiceNearLargestPinLaw", "beats", "(JZJZJ)Z"⟩ : MethodName)) hown (mvT hZ (hw _ (List.mem_of_getElem? (i := 17) rfl))) (mvT hZ (hw _ (List.mem_of_getElem? (i := 18) rfl))) (mvT hZ (hw _ (List.mem_of_getElem? (i := 15) rfl))) (mvT hZ (hw _ (List.mem_of_getElem? (i := 19) rfl))) (by decide) (backOf (W := 0) (rm4 l Z a0 hw [] q0 p1 x3 f3 q5 c85_z12 c85_z14 c85_rv h0 n0 Z0 hc85_z12 hc85_z14 hc85_rv) hZ (hw _ (List.mem_of_getElem? (i := 19) rfl)) (hw _ (List.mem_of_getElem? (i := 15) rfl)) (by decide) (by decide)) (g := (mkF m 85 #[.val (.long q0), .second, .val (.int p1), .val (.ref o2), .val (.ref o3), .val (.int (4 : Int32)), .val (.long q5), .second] [(.long q5), (.int f3), (.long x3), (.int p1), (.long q0)])) rfl (by rw [hml]; rfl) (argsL := [(.long q0), (.int p1), (.long x3), (.int f3), (.long q5)]) (rest := []) (lenOf pd_1 rfl) rfl (by show 2 * 0 + _ ≤ _; exact Nat.le_of_eq rfl) (hb hby d3_85) (fun _ _ => ⟨rfl, e13, (by decide : 0 + 0 ≤ _), (by decide : 0 + 0 ≤ _)⟩)
        dsimp only [Pt.U, Pt.locs, Pt.cells, Pt.slots] at X18 ql18 qy18 qz18 st18 hQ18
        subst ql18 qy18 qz18
        obtain ⟨rfl, N18q, e18⟩ := hQ18
        have N18 := Fr.app N13 N18q
        have c19 : ∀ t, Steps p.tables e below (T18.setTop (mkF m 88 #[.val (.long q0), .second, .val (.int p1), .val (.ref o2), .val (.ref o3), .val (.int (4 : Int32)), .val (.long q5), .second] [(.int c85_rv)])) t → Steps p.tables e below (s₁.setTop (entryFrame m #[(.long q0), (.int p1), (.ref o2), (.ref o3), (.int (4 : Int32)), (.long q5)] 8)) t := by
          intro t k
          refine c14 t ?_
          show Steps p.tables e below (T13.setTop (mkF m 65 #[.val (.long q0), .second, .val (.int p1), .val (.ref o2), .val (.ref o3), .val (.int (4 : Int32)), .val (.long q5), .second] [(.int c62_rv)])) _
          refine XS.ifNo X13.here hx rfl (hb hby d3_65) rfl (Jvm.Free.XT.i0_eq_f hb65) ?_
          show Steps p.tables e below (T13.setTop (mkF m 68 #[.val (.long q0), .second, .val (.int p1), .val (.ref o2), .val (.ref o3), .val (.int (4 : Int32)), .val (.long q5), .second] [])) _
          refine XS.iload X13.here hx rfl (hb hby d3_68) rfl ?_
          show Steps p.tables e below (T13.setTop (mkF m 70 #[.val (.long q0), .second, .val (.int p1), .val (.ref o2), .val (.ref o3), .val (.int (4 : Int32)), .val (.long q5), .second] [(.int (4 : Int32))])) _
          refine XS.iconst X13.here hx rfl (hb hby d3_70) ?_
          show Steps p.tables e below (T13.setTop (mkF m 71 #[.val (.long q0), .second, .val (.int p1), .val (.ref o2), .val (.ref o3), .val (.int (4 : Int32)), .val (.long q5), .second] [(.int (3 : Int32)), (.int (4 : Int32))])) _
          refine XS.icmpNo X13.here hx rfl (hb hby d3_71) rfl (Jvm.Free.XT.ii_le_f (by decide)) ?_
          show Steps p.tables e below (T13.setTop (mkF m 74 #[.val (.long q0), .second, .val (.int p1), .val (.ref o2), .val (.ref o3), .val (.int (4 : Int32)), .val (.long q5), .second] [])) _
          refine XS.lloadN X13.here hx rfl (hb hby d3_74) rfl ?_
          show Steps p.tables e below (T13.setTop (mkF m 75 #[.val (.long q0), .second, .val (.int p1), .val (.ref o2), .val (.ref o3), .val (.int (4 : Int32)), .val (.long q5), .second] [(.long q0)])) _
          refine XS.iloadN X13.here hx rfl (hb hby d3_75) rfl ?_
          show Steps p.tables e below (T13.setTop (mkF m 76 #[.val (.long q0), .second, .val (.int p1), .val (.ref o2), .val (.ref o3), .val (.int (4 : Int32)), .val (.long q5), .second] [(.int p1), (.long q0)])) _
          refine XS.aloadN X13.here hx rfl (hb hby d3_76) rfl rfl ?_
          show Steps p.tables e below (T13.setTop (mkF m 77 #[.val (.long q0), .second, .val (.int p1), .val (.ref o2), .val (.ref o3), .val (.int (4 : Int32)), .val (.long q5), .second] [(.ref o2), (.int p1), (.long q0)])) _
          refine XS.iconst X13.here hx rfl (hb hby d3_77) ?_
          show Steps p.tables e below (T13.setTop (mkF m 78 #[.val (.long q0), .second, .val (.int p1), .val (.ref o2), .val (.ref o3), .val (.int (4 : Int32)), .val (.long q5), .second] [(.int (3 : Int32)), (.ref o2), (.int p1), (.long q0)])) _
          refine X13.laload hx (j := (3 : Int32)) (v := (.long x3)) (by rw [e13]; exact Ar16.1) (State.isArrayOf_alike hZ.alike Ar16.2.1) Ar16.2.2 in16 (Has.at Ha16 in16 rfl) (g := (mkF m 78 #[.val (.long q0), .second, .val (.int p1), .val (.ref o2), .val (.ref o3), .val (.int (4 : Int32)), .val (.long q5), .second] [(.int (3 : Int32)), (.ref o2), (.int p1), (.long q0)])) rfl rfl (hb hby d3_78) _ ?_
          show Steps p.tables e below (T13.setTop (mkF m 79 #[.val (.long q0), .second, .val (.int p1), .val (.ref o2), .val (.ref o3), .val (.int (4 : Int32)), .val (.long q5), .second] [(.long x3), (.int p1), (.long q0)])) _
          refine XS.aload X13.here hx rfl (hb hby d3_79) rfl rfl ?_
          show Steps p.tables e below (T13.setTop (mkF m 81 #[.val (.long q0), .second, .val (.int p1), .val (.ref o2), .val (.ref o3), .val (.int (4 : Int32)), .val (.long q5), .second] [(.ref o3), (.long x3), (.int p1), (.long q0)])) _
          refine XS.iconst X13.here hx rfl (hb hby d3_81) ?_
          show Steps p.tables e below (T13.setTop (mkF m 82 #[.val (.long q0), .second, .val (.int p1), .val (.ref o2), .val (.ref o3), .val (.int (4 : Int32)), .val (.long q5), .second] [(.int (3 : Int32)), (.ref o3), (.long x3), (.int p1), (.long q0)])) _
          refine X13.baloadBooleans hx (j := (3 : Int32)) (v := (.int f3)) (by rw [e13]; exact Ar17.1) (State.isArrayOf_alike hZ.alike Ar17.2.1) Ar17.2.2 in17 (Has.at Ha17 in17 rfl) (g := (mkF m 82 #[.val (.long q0), .second, .val (.int p1), .val (.ref o2), .val (.ref o3), .val (.int (4 : Int32)), .val (.long q5), .second] [(.int (3 : Int32)), (.ref o3), (.long x3), (.int p1), (.long q0)])) rfl rfl (hb hby d3_82) _ ?_
          show Steps p.tables e below (T13.setTop (mkF m 83 #[.val (.long q0), .second, .val (.int p1), .val (.ref o2), .val (.ref o3), .val (.int (4 : Int32)), .val (.long q5), .second] [(.int f3), (.long x3), (.int p1), (.long q0)])) _
          refine XS.lload X13.here hx rfl (hb hby d3_83) rfl ?_
          show Steps p.tables e below (T13.setTop (mkF m 85 #[.val (.long q0), .second, .val (.int p1), .val (.ref o2), .val (.ref o3), .val (.int (4 : Int32)), .val (.long q5), .second] [(.long q5), (.int f3), (.long x3), (.int p1), (.long q0)])) _
          refine st18 _ ?_
          exact k
        by_cases hb88 : c85_rv = (0 : Int32)
        · skip
          have c20 : ∀ t, Steps p.tables e below (T18.setTop (mkF m 96 #[.val (.long q0), .second, .val (.int p1), .val (.ref o2), .val (.ref o3), .val (.int (4 : Int32)), .val (.long q5), .second] [(.int (0 : Int32))])) t → Steps p.tables e below (s₁.setTop (entryFrame m #[(.long q0), (.int p1), (.ref o2), (.ref o3), (.int (4 : Int32)), (.long q5)] 8)) t := by
            intro t k
            refine c19 t ?_
            show Steps p.tables e below (T18.setTop (mkF m 88 #[.val (.long q0), .second, .val (.int p1), .val (.ref o2), .val (.ref o3), .val (.int (4 : Int32)), .val (.long q5), .second] [(.int c85_rv)])) _
            refine XS.ifYes X18.here hx rfl (pc0 := 88) (pc' := 95) rfl (hb hby d3_88) rfl (Jvm.Free.XT.i0_eq_t hb88) (by decide) (by decide) ?_
            show Steps p.tables e below (T18.setTop (mkF m 95 #[.val (.long q0), .second, .val (.int p1), .val (.ref o2), .val (.ref o3), .val (.int (4 : Int32)), .val (.long q5), .second] [])) _
            refine XS.iconst X18.here hx rfl (hb hby d3_95) ?_
            exact k
          obtain ⟨fs, hr, hrun, hended, hW, hsame⟩ := X18.leave (v := some (.int (0 : Int32))) (fun h => by rw [Bd.returns] at h; cases h)
          refine ⟨_, _, c20 _ ?_, hrun, hended, _, _, rfl, ?_, ⟨_, rfl⟩, hW, hsame.mono (by decide) (by decide)⟩
          · show Steps p.tables e below (T18.setTop (mkF m 96 #[.val (.long q0), .second, .val (.int p1), .val (.ref o2), .val (.ref o3), .val (.int (4 : Int32)), .val (.long q5), .second] [(.int (0 : Int32))])) _
            exact retOut X18 hx Bd.returns rfl (Or.inl ⟨rfl, by simp, _, rfl⟩) (hb hby d3_96) hr
          · show Q3_4 Z q0 p1 o2 o3 q5 k_o2 x0 x1 x2 x3 k_o3 f0 f1 f2 f3 c16_z12 c16_z14 c16_rv c39_z12 c39_z14 c39_rv c62_z12 c62_z14 c62_rv c85_z12 c85_z14 c85_rv rv h0 n0 _ T18.heap _
            rw [e18]
            exact ⟨(congrArg (fun z => some (Value.int z)) (show (0 : Int32) = rv by rw [← hrv]; simp only [if_neg hb19, if_neg hb42, if_neg hb65, if_pos hb88])), by first | assumption | exact N0, rfl⟩
        · skip
          have c21 : ∀ t, Steps p.tables e below (T18.setTop (mkF m 96 #[.val (.long q0), .second, .val (.int p1), .val (.ref o2), .val (.ref o3), .val (.int (4 : Int32)), .val (.long q5), .second] [(.int (1 : Int32))])) t → Steps p.tables e below (s₁.setTop (entryFrame m #[(.long q0), (.int p1), (.ref o2), (.ref o3), (.int (4 : Int32)), (.long q5)] 8)) t := by
            intro t k
            refine c19 t ?_
            show Steps p.tables e below (T18.setTop (mkF m 88 #[.val (.long q0), .second, .val (.int p1), .val (.ref o2), .val (.ref o3), .val (.int (4 : Int32)), .val (.long q5), .second] [(.int c85_rv)])) _
            refine XS.ifNo X18.here hx rfl (hb hby d3_88) rfl (Jvm.Free.XT.i0_eq_f hb88) ?_
            show Steps p.tables e below (T18.setTop (mkF m 91 #[.val (.long q0), .second, .val (.int p1), .val (.ref o2), .val (.ref o3), .val (.int (4 : Int32)), .val (.long q5), .second] [])) _
            refine XS.iconst X18.here hx rfl (hb hby d3_91) ?_
            show Steps p.tables e below (T18.setTop (mkF m 92 #[.val (.long q0), .second, .val (.int p1), .val (.ref o2), .val (.ref o3), .val (.int (4 : Int32)), .val (.long q5), .second] [(.int (1 : Int32))])) _
            refine XS.goto X18.here hx rfl (pc0 := 92) (pc' := 96) rfl (hb hby d3_92) (by decide) (by decide) ?_
            exact k
          obtain ⟨fs, hr, hrun, hended, hW, hsame⟩ := X18.leave (v := some (.int (1 : Int32))) (fun h => by rw [Bd.returns] at h; cases h)
          refine ⟨_, _, c21 _ ?_, hrun, hended, _, _, rfl, ?_, ⟨_, rfl⟩, hW, hsame.mono (by decide) (by decide)⟩
          · show Steps p.tables e below (T18.setTop (mkF m 96 #[.val (.long q0), .second, .val (.int p1), .val (.ref o2), .val (.ref o3), .val (.int (4 : Int32)), .val (.long q5), .second] [(.int (1 : Int32))])) _
            exact retOut X18 hx Bd.returns rfl (Or.inl ⟨rfl, by simp, _, rfl⟩) (hb hby d3_96) hr
          · show Q3_4 Z q0 p1 o2 o3 q5 k_o2 x0 x1 x2 x3 k_o3 f0 f1 f2 f3 c16_z12 c16_z14 c16_rv c39_z12 c39_z14 c39_rv c62_z12 c62_z14 c62_rv c85_z12 c85_z14 c85_rv rv h0 n0 _ T18.heap _
            rw [e18]
            exact ⟨(congrArg (fun z => some (Value.int z)) (show (1 : Int32) = rv by rw [← hrv]; simp only [if_neg hb19, if_neg hb42, if_neg hb65, if_neg hb88])), by first | assumption | exact N0, rfl⟩
def Q0 (n0 : Nat) (v : Option Value) (h : Heap) (L : List Loc) : Prop := v = some (.int 1) ∧ Fr n0 L
set_option maxRecDepth 65536 in
set_option maxHeartbeats 40000000 in
theorem rm0 (l : Launch) (Z : State) (a0 : Array Value) (hw : ∀ d ∈ tables_1, d.before a0 Z = true) (ws : List Jvm.Cond) (p0 : Int32) (p1 : Int32) (p2 : Int32) (p3 : Int32) (p4 : Int32) (p5 : Int32)  (h0 : Heap) (n0 : Nat) (Z0 : n0 ≤ h0.size)  :
    MetFree l x (head1 (Jvm.Cond.code x code maxLocals ret :: ws) room_1) (fun a U => a = #[(.int p0), (.int p1), (.int p2), (.int p3), (.int p4), (.int p5)] ∧ Z.Warmed39 U.vm ∧ U.heap = h0) (fun _ _ _ _ _ => True) (fun _ U o U' => ∃ v L, o = .returned v ∧ Q0 n0 v U'.heap L ∧ FrameEnd U o U' L room_1.cells room_1.slots) := by
  refine MetFree.of_bodySF (plainFor_of_name pn_0) hisR ?_
  intro p e s m args below meth c s₁ Bd hml0 hP hK
  obtain ⟨rfl, hZ, hh⟩ := hP
  have hx := Bd.exec
  have hby := Bd.bytes
  have hml : c.maxLocals = 17 := hml0
  have hown : s.vm.findClass "com/example/credal_choice/credalchoice/criteria/ChoiceNearLargestPinLaw" = some m.cls := findClass_of_methodNamed Bd.named
  have hnm := (name_of_methodNamed Bd.named Bd.method).1
  have X0 : Stand p l e room_1 s m #[(.int p0), (.int p1), (.int p2), (.int p3), (.int p4), (.int p5)] below meth c s₁ [] 0 0 := Stand.of_body Bd
  have e0 : s₁.heap = h0 := by rw [← hh, Bd.state]; rfl
  have N0 := Fr.nil n0
  have c0 : ∀ t, Steps p.tables e below (s₁.setTop (mkF m 0 #[.val (.int p0), .val (.int p1), .val (.int p2), .val (.int p3), .val (.int p4), .val (.int p5), .unset, .unset, .unset, .unset, .unset, .unset, .unset, .unset, .unset, .unset, .unset] [])) t → Steps p.tables e below (s₁.setTop (entryFrame m #[(.int p0), (.int p1), (.int p2), (.int p3), (.int p4), (.int p5)] maxLocals)) t := fun t k => castTop (ef_rm0 m p0 p1 p2 p3 p4 p5) k
  obtain ⟨z4, hz4⟩ : ∃ z : Int32, p5 &&& (2147483647 : Int32) = z := ⟨_, rfl⟩
  obtain ⟨z6, hz6⟩ : ∃ z : Int32, z4 % (5 : Int32) = z := ⟨_, rfl⟩
  obtain ⟨z13, hz13⟩ : ∃ z : Int32, p4 &&& (2147483647 : Int32) = z := ⟨_, rfl⟩
  obtain ⟨z14, hz14⟩ : ∃ z : Int64, z13.toInt64 = z := ⟨_, rfl⟩
  obtain ⟨z20, hz20⟩ : ∃ z : Int32, (p5.toUInt32 >>> ((3 : Int32) &&& 31).toUInt32).toInt32 = z := ⟨_, rfl⟩
  obtain ⟨z22, hz22⟩ : ∃ z : Int32, z20 &&& (1 : Int32) = z := ⟨_, rfl⟩
  obtain ⟨m23_s0, hm23_s0⟩ : ∃ z : Int32, (if z22 = (0 : Int32) then (0 : Int32) else (1 : Int32)) = z := ⟨_, rfl⟩
  obtain ⟨z36, hz36⟩ : ∃ z : Int32, (p5.toUInt32 >>> ((4 : Int32) &&& 31).toUInt32).toInt32 = z := ⟨_, rfl⟩
  obtain ⟨z38, hz38⟩ : ∃ z : Int32, z36 &&& (1 : Int32) = z := ⟨_, rfl⟩
  obtain ⟨m39_s0, hm39_s0⟩ : ∃ z : Int32, (if z38 = (0 : Int32) then (0 : Int32) else (1 : Int32)) = z := ⟨_, rfl⟩
  obtain ⟨z52, hz52⟩ : ∃ z : Int32, (p5.toUInt32 >>> ((5 : Int32) &&& 31).toUInt32).toInt32 = z := ⟨_, rfl⟩
  obtain ⟨z54, hz54⟩ : ∃ z : Int32, z52 &&& (1 : Int32) = z := ⟨_, rfl⟩
  obtain ⟨m55_s0, hm55_s0⟩ : ∃ z : Int32, (if z54 = (0 : Int32) then (0 : Int32) else (1 : Int32)) = z := ⟨_, rfl⟩
  obtain ⟨z69, hz69⟩ : ∃ z : Int32, (p5.toUInt32 >>> ((6 : Int32) &&& 31).toUInt32).toInt32 = z := ⟨_, rfl⟩
  obtain ⟨z71, hz71⟩ : ∃ z : Int32, z69 &&& (1 : Int32) = z := ⟨_, rfl⟩
  obtain ⟨m72_s0, hm72_s0⟩ : ∃ z : Int32, (if z71 = (0 : Int32) then (0 : Int32) else (1 : Int32)) = z := ⟨_, rfl⟩
  obtain ⟨z88, hz88⟩ : ∃ z : Int64, p0.toInt64 = z := ⟨_, rfl⟩
  obtain ⟨z93, hz93⟩ : ∃ z : Int64, p1.toInt64 = z := ⟨_, rfl⟩
  obtain ⟨z98, hz98⟩ : ∃ z : Int64, p2.toInt64 = z := ⟨_, rfl⟩
  obtain ⟨z103, hz103⟩ : ∃ z : Int64, p3.toInt64 = z := ⟨_, rfl⟩
  have c1 : ∀ t, Steps p.tables e below (s₁.setTop (mkF m 31 #[.val (.int p0), .val (.int p1), .val (.int p2), .val (.int p3), .val (.int p4), .val (.int p5), .val (.int z6), .val (.long z14), .second, .unset, .unset, .unset, .unset, .unset, .unset, .unset, .unset] [(.int m23_s0)])) t → Steps p.tables e below (s₁.setTop (entryFrame m #[(.int p0), (.int p1), (.int p2), (.int p3), (.int p4), (.int p5)] maxLocals)) t := by
    intro t k
    refine c0 t ?_
    show Steps p.tables e below (s₁.setTop (mkF m 0 #[.val (.int p0), .val (.int p1), .val (.int p2), .val (.int p3), .val (.int p4), .val (.int p5), .unset, .unset, .unset, .unset, .unset, .unset, .unset, .unset, .unset, .unset, .unset] [])) _
    refine XS.iload X0.here hx rfl (hb hby at_0) rfl ?_
    show Steps p.tables e below (s₁.setTop (mkF m 2 #[.val (.int p0), .val (.int p1), .val (.int p2), .val (.int p3), .val (.int p4), .val (.int p5), .unset, .unset, .unset, .unset, .unset, .unset, .unset, .unset, .unset, .unset, .unset] [(.int p5)])) _
    refine X0.ldcInt hx hown (mvT hZ (hw _ (List.mem_of_getElem? (i := 0) rfl))) (g := (mkF m 2 #[.val (.int p0), .val (.int p1), .val (.int p2), .val (.int p3), .val (.int p4), .val (.int p5), .unset, .unset, .unset, .unset, .unset, .unset, .unset, .unset, .unset, .unset, .unset] [(.int p5)])) rfl (hb hby at_2) _ ?_
    show Steps p.tables e below (s₁.setTop (mkF m 4 #[.val (.int p0), .val (.int p1), .val (.int p2), .val (.int p3), .val (.int p4), .val (.int p5), .unset, .unset, .unset, .unset, .unset, .unset, .unset, .unset, .unset, .unset, .unset] [(.int (2147483647 : Int32)), (.int p5)])) _
    refine Jvm.OwnK.iand X0.here hx rfl (hb hby at_4) rfl hz4 ?_
    show Steps p.tables e below (s₁.setTop (mkF m 5 #[.val (.int p0), .val (.int p1), .val (.int p2), .val (.int p3), .val (.int p4), .val (.int p5), .unset, .unset, .unset, .unset, .unset, .unset, .unset, .unset, .unset, .unset, .unset] [(.int z4)])) _
    refine XS.iconst X0.here hx rfl (hb hby at_5) ?_
    show Steps p.tables e below (s₁.setTop (mkF m 6 #[.val (.int p0), .val (.int p1), .val (.int p2), .val (.int p3), .val (.int p4), .val (.int p5), .unset, .unset, .unset, .unset, .unset, .unset, .unset, .unset, .unset, .unset, .unset] [(.int (5 : Int32)), (.int z4)])) _
    refine Jvm.OwnK.irem X0.here hx rfl (hb hby at_6) rfl (by decide) hz6 ?_
    show Steps p.tables e below (s₁.setTop (mkF m 7 #[.val (.int p0), .val (.int p1), .val (.int p2), .val (.int p3), .val (.int p4), .val (.int p5), .unset, .unset, .unset, .unset, .unset, .unset, .unset, .unset, .unset, .unset, .unset] [(.int z6)])) _
    refine XS.istore X0.here hx rfl (hb hby at_7) rfl (l' := #[.val (.int p0), .val (.int p1), .val (.int p2), .val (.int p3), .val (.int p4), .val (.int p5), .val (.int z6), .unset, .unset, .unset, .unset, .unset, .unset, .unset, .unset, .unset, .unset]) rfl ?_
    show Steps p.tables e below (s₁.setTop (mkF m 9 #[.val (.int p0), .val (.int p1), .val (.int p2), .val (.int p3), .val (.int p4), .val (.int p5), .val (.int z6), .unset, .unset, .unset, .unset, .unset, .unset, .unset, .unset, .unset, .unset] [])) _
    refine XS.iload X0.here hx rfl (hb hby at_9) rfl ?_
    show Steps p.tables e below (s₁.setTop (mkF m 11 #[.val (.int p0), .val (.int p1), .val (.int p2), .val (.int p3), .val (.int p4), .val (.int p5), .val (.int z6), .unset, .unset, .unset, .unset, .unset, .unset, .unset, .unset, .unset, .unset] [(.int p4)])) _
    refine X0.ldcInt hx hown (mvT hZ (hw _ (List.mem_of_getElem? (i := 0) rfl))) (g := (mkF m 11 #[.val (.int p0), .val (.int p1), .val (.int p2), .val (.int p3), .val (.int p4), .val (.int p5), .val (.int z6), .unset, .unset, .unset, .unset, .unset, .unset, .unset, .unset, .unset, .unset] [(.int p4)])) rfl (hb hby at_11) _ ?_
    show Steps p.tables e below (s₁.setTop (mkF m 13 #[.val (.int p0), .val (.int p1), .val (.int p2), .val (.int p3), .val (.int p4), .val (.int p5), .val (.int z6), .unset, .unset, .unset, .unset, .unset, .unset, .unset, .unset, .unset, .unset] [(.int (2147483647 : Int32)), (.int p4)])) _
    refine Jvm.OwnK.iand X0.here hx rfl (hb hby at_13) rfl hz13 ?_
    show Steps p.tables e below (s₁.setTop (mkF m 14 #[.val (.int p0), .val (.int p1), .val (.int p2), .val (.int p3), .val (.int p4), .val (.int p5), .val (.int z6), .unset, .unset, .unset, .unset, .unset, .unset, .unset, .unset, .unset, .unset] [(.int z13)])) _
    refine Jvm.OwnK.i2l X0.here hx rfl (hb hby at_14) rfl hz14 ?_
    show Steps p.tables e below (s₁.setTop (mkF m 15 #[.val (.int p0), .val (.int p1), .val (.int p2), .val (.int p3), .val (.int p4), .val (.int p5), .val (.int z6), .unset, .unset, .unset, .unset, .unset, .unset, .unset, .unset, .unset, .unset] [(.long z14)])) _
    refine XS.lstore X0.here hx rfl (hb hby at_15) rfl (l' := #[.val (.int p0), .val (.int p1), .val (.int p2), .val (.int p3), .val (.int p4), .val (.int p5), .val (.int z6), .val (.long z14), .second, .unset, .unset, .unset, .unset, .unset, .unset, .unset, .unset]) rfl ?_
    show Steps p.tables e below (s₁.setTop (mkF m 17 #[.val (.int p0), .val (.int p1), .val (.int p2), .val (.int p3), .val (.int p4), .val (.int p5), .val (.int z6), .val (.long z14), .second, .unset, .unset, .unset, .unset, .unset, .unset, .unset, .unset] [])) _
    refine XS.iload X0.here hx rfl (hb hby at_17) rfl ?_
    show Steps p.tables e below (s₁.setTop (mkF m 19 #[.val (.int p0), .val (.int p1), .val (.int p2), .val (.int p3), .val (.int p4), .val (.int p5), .val (.int z6), .val (.long z14), .second, .unset, .unset, .unset, .unset, .unset, .unset, .unset, .unset] [(.int p5)])) _
    refine XS.iconst X0.here hx rfl (hb hby at_19) ?_
    show Steps p.tables e below (s₁.setTop (mkF m 20 #[.val (.int p0), .val (.int p1), .val (.int p2), .val (.int p3), .val (.int p4), .val (.int p5), .val (.int z6), .val (.long z14), .second, .unset, .unset, .unset, .unset, .unset, .unset, .unset, .unset] [(.int (3 : Int32)), (.int p5)])) _
    refine Jvm.OwnK.iushr X0.here hx rfl (hb hby at_20) rfl hz20 ?_
    show Steps p.tables e below (s₁.setTop (mkF m 21 #[.val (.int p0), .val (.int p1), .val (.int p2), .val (.int p3), .val (.int p4), .val (.int p5), .val (.int z6), .val (.long z14), .second, .unset, .unset, .unset, .unset, .unset, .unset, .unset, .unset] [(.int z20)])) _
    refine XS.iconst X0.here hx rfl (hb hby at_21) ?_
    show Steps p.tables e below (s₁.setTop (mkF m 22 #[.val (.int p0), .val (.int p1), .val (.int p2), .val (.int p3), .val (.int p4), .val (.int p5), .val (.int z6), .val (.long z14), .second, .unset, .unset, .unset, .unset, .unset, .unset, .unset, .unset] [(.int (1 : Int32)), (.int z20)])) _
    refine Jvm.OwnK.iand X0.here hx rfl (hb hby at_22) rfl hz22 ?_
    by_cases hm23_0 : z22 = (0 : Int32)
    · skip
      show Steps p.tables e below (s₁.setTop (mkF m 23 #[.val (.int p0), .val (.int p1), .val (.int p2), .val (.int p3), .val (.int p4), .val (.int p5), .val (.int z6), .val (.long z14), .second, .unset, .unset, .unset, .unset, .unset, .unset, .unset, .unset] [(.int z22)])) _
      refine XS.ifYes X0.here hx rfl (pc0 := 23) (pc' := 30) rfl (hb hby at_23) rfl (Jvm.Free.XT.i0_eq_t hm23_0) (by decide) (by decide) ?_
      show Steps p.tables e below (s₁.setTop (mkF m 30 #[.val (.int p0), .val (.int p1), .val (.int p2), .val (.int p3), .val (.int p4), .val (.int p5), .val (.int z6), .val (.long z14), .second, .unset, .unset, .unset, .unset, .unset, .unset, .unset, .unset] [])) _
      refine XS.iconst X0.here hx rfl (hb hby at_30) ?_
      obtain rfl : (0 : Int32) = m23_s0 := by rw [← hm23_s0]; simp only [if_pos hm23_0]
      exact k
    · skip
      show Steps p.tables e below (s₁.setTop (mkF m 23 #[.val (.int p0), .val (.int p1), .val (.int p2), .val (.int p3), .val (.int p4), .val (.int p5), .val (.int z6), .val (.long z14), .second, .unset, .unset, .unset, .unset, .unset, .unset, .unset, .unset] [(.int z22)])) _
      refine XS.ifNo X0.here hx rfl (hb hby at_23) rfl (Jvm.Free.XT.i0_eq_f hm23_0) ?_
      show Steps p.tables e below (s₁.setTop (mkF m 26 #[.val (.int p0), .val (.int p1), .val (.int p2), .val (.int p3), .val (.int p4), .val (.int p5), .val (.int z6), .val (.long z14), .second, .unset, .unset, .unset, .unset, .unset, .unset, .unset, .unset] [])) _
      refine XS.iconst X0.here hx rfl (hb hby at_26) ?_
      show Steps p.tables e below (s₁.setTop (mkF m 27 #[.val (.int p0), .val (.int p1), .val (.int p2), .val (.int p3), .val (.int p4), .val (.int p5), .val (.int z6), .val (.long z14), .second, .unset, .unset, .unset, .unset, .unset, .unset, .unset, .unset] [(.int (1 : Int32))])) _
      refine XS.goto X0.here hx rfl (pc0 := 27) (pc' := 31) rfl (hb hby at_27) (by decide) (by decide) ?_
      obtain rfl : (1 : Int32) = m23_s0 := by rw [← hm23_s0]; simp only [if_neg hm23_0]
      exact k
  have c2 : ∀ t, Steps p.tables e below (s₁.setTop (mkF m 47 #[.val (.int p0), .val (.int p1), .val (.int p2), .val (.int p3), .val (.int p4), .val (.int p5), .val (.int z6), .val (.long z14), .second, .val (.int m23_s0), .unset, .unset, .unset, .unset, .unset, .unset, .unset] [(.int m39_s0)])) t → Steps p.tables e below (s₁.setTop (entryFrame m #[(.int p0), (.int p1), (.int p2), (.int p3), (.int p4), (.int p5)] maxLocals)) t := by
    intro t k
    refine c1 t ?_
    show Steps p.tables e below (s₁.setTop (mkF m 31 #[.val (.int p0), .val (.int p1), .val (.int p2), .val (.int p3), .val (.int p4), .val (.int p5), .val (.int z6), .val (.long z14), .second, .unset, .unset, .unset, .unset, .unset, .unset, .unset, .unset] [(.int m23_s0)])) _
    refine XS.istore X0.here hx rfl (hb hby at_31) rfl (l' := #[.val (.int p0), .val (.int p1), .val (.int p2), .val (.int p3), .val (.int p4), .val (.int p5), .val (.int z6), .val (.long z14), .second, .val (.int m23_s0), .unset, .unset, .unset, .unset, .unset, .unset, .unset]) rfl ?_
    show Steps p.tables e below (s₁.setTop (mkF m 33 #[.val (.int p0), .val (.int p1), .val (.int p2), .val (.int p3), .val (.int p4), .val (.int p5), .val (.int z6), .val (.long z14), .second, .val (.int m23_s0), .unset, .unset, .unset, .unset, .unset, .unset, .unset] [])) _
    refine XS.iload X0.here hx rfl (hb hby at_33) rfl ?_
    show Steps p.tables e below (s₁.setTop (mkF m 35 #[.val (.int p0), .val (.int p1), .val (.int p2), .val (.int p3), .val (.int p4), .val (.int p5), .val (.int z6), .val (.long z14), .second, .val (.int m23_s0), .unset, .unset, .unset, .unset, .unset, .unset, .unset] [(.int p5)])) _
    refine XS.iconst X0.here hx rfl (hb hby at_35) ?_
    show Steps p.tables e below (s₁.setTop (mkF m 36 #[.val (.int p0), .val (.int p1), .val (.int p2), .val (.int p3), .val (.int p4), .val (.int p5), .val (.int z6), .val (.long z14), .second, .val (.int m23_s0), .unset, .unset, .unset, .unset, .unset, .unset, .unset] [(.int (4 : Int32)), (.int p5)])) _
    refine Jvm.OwnK.iushr X0.here hx rfl (hb hby at_36) rfl hz36 ?_
    show Steps p.tables e below (s₁.setTop (mkF m 37 #[.val (.int p0), .val (.int p1), .val (.int p2), .val (.int p3), .val (.int p4), .val (.int p5), .val (.int z6), .val (.long z14), .second, .val (.int m23_s0), .unset, .unset, .unset, .unset, .unset, .unset, .unset] [(.int z36)])) _
    refine XS.iconst X0.here hx rfl (hb hby at_37) ?_
    show Steps p.tables e below (s₁.setTop (mkF m 38 #[.val (.int p0), .val (.int p1), .val (.int p2), .val (.int p3), .val (.int p4), .val (.int p5), .val (.int z6), .val (.long z14), .second, .val (.int m23_s0), .unset, .unset, .unset, .unset, .unset, .unset, .unset] [(.int (1 : Int32)), (.int z36)])) _
    refine Jvm.OwnK.iand X0.here hx rfl (hb hby at_38) rfl hz38 ?_
    by_cases hm39_0 : z38 = (0 : Int32)
    · skip
      show Steps p.tables e below (s₁.setTop (mkF m 39 #[.val (.int p0), .val (.int p1), .val (.int p2), .val (.int p3), .val (.int p4), .val (.int p5), .val (.int z6), .val (.long z14), .second, .val (.int m23_s0), .unset, .unset, .unset, .unset, .unset, .unset, .unset] [(.int z38)])) _
      refine XS.ifYes X0.here hx rfl (pc0 := 39) (pc' := 46) rfl (hb hby at_39) rfl (Jvm.Free.XT.i0_eq_t hm39_0) (by decide) (by decide) ?_
      show Steps p.tables e below (s₁.setTop (mkF m 46 #[.val (.int p0), .val (.int p1), .val (.int p2), .val (.int p3), .val (.int p4), .val (.int p5), .val (.int z6), .val (.long z14), .second, .val (.int m23_s0), .unset, .unset, .unset, .unset, .unset, .unset, .unset] [])) _
      refine XS.iconst X0.here hx rfl (hb hby at_46) ?_
      obtain rfl : (0 : Int32) = m39_s0 := by rw [← hm39_s0]; simp only [if_pos hm39_0]
      exact k
    · skip
      show Steps p.tables e below (s₁.setTop (mkF m 39 #[.val (.int p0), .val (.int p1), .val (.int p2), .val (.int p3), .val (.int p4), .val (.int p5), .val (.int z6), .val (.long z14), .second, .val (.int m23_s0), .unset, .unset, .unset, .unset, .unset, .unset, .unset] [(.int z38)])) _
      refine XS.ifNo X0.here hx rfl (hb hby at_39) rfl (Jvm.Free.XT.i0_eq_f hm39_0) ?_
      show Steps p.tables e below (s₁.setTop (mkF m 42 #[.val (.int p0), .val (.int p1), .val (.int p2), .val (.int p3), .val (.int p4), .val (.int p5), .val (.int z6), .val (.long z14), .second, .val (.int m23_s0), .unset, .unset, .unset, .unset, .unset, .unset, .unset] [])) _
      refine XS.iconst X0.here hx rfl (hb hby at_42) ?_
      show Steps p.tables e below (s₁.setTop (mkF m 43 #[.val (.int p0), .val (.int p1), .val (.int p2), .val (.int p3), .val (.int p4), .val (.int p5), .val (.int z6), .val (.long z14), .second, .val (.int m23_s0), .unset, .unset, .unset, .unset, .unset, .unset, .unset] [(.int (1 : Int32))])) _
      refine XS.goto X0.here hx rfl (pc0 := 43) (pc' := 47) rfl (hb hby at_43) (by decide) (by decide) ?_
      obtain rfl : (1 : Int32) = m39_s0 := by rw [← hm39_s0]; simp only [if_neg hm39_0]
      exact k
  have c3 : ∀ t, Steps p.tables e below (s₁.setTop (mkF m 63 #[.val (.int p0), .val (.int p1), .val (.int p2), .val (.int p3), .val (.int p4), .val (.int p5), .val (.int z6), .val (.long z14), .second, .val (.int m23_s0), .val (.int m39_s0), .unset, .unset, .unset, .unset, .unset, .unset] [(.int m55_s0)])) t → Steps p.tables e below (s₁.setTop (entryFrame m #[(.int p0), (.int p1), (.int p2), (.int p3), (.int p4), (.int p5)] maxLocals)) t := by
    intro t k
    refine c2 t ?_
    show Steps p.tables e below (s₁.setTop (mkF m 47 #[.val (.int p0), .val (.int p1), .val (.int p2), .val (.int p3), .val (.int p4), .val (.int p5), .val (.int z6), .val (.long z14), .second, .val (.int m23_s0), .unset, .unset, .unset, .unset, .unset, .unset, .unset] [(.int m39_s0)])) _
    refine XS.istore X0.here hx rfl (hb hby at_47) rfl (l' := #[.val (.int p0), .val (.int p1), .val (.int p2), .val (.int p3), .val (.int p4), .val (.int p5), .val (.int z6), .val (.long z14), .second, .val (.int m23_s0), .val (.int m39_s0), .unset, .unset, .unset, .unset, .unset, .unset]) rfl ?_
    show Steps p.tables e below (s₁.setTop (mkF m 49 #[.val (.int p0), .val (.int p1), .val (.int p2), .val (.int p3), .val (.int p4), .val (.int p5), .val (.int z6), .val (.long z14), .second, .val (.int m23_s0), .val (.int m39_s0), .unset, .unset, .unset, .unset, .unset, .unset] [])) _
    refine XS.iload X0.here hx rfl (hb hby at_49) rfl ?_
    show Steps p.tables e below (s₁.setTop (mkF m 51 #[.val (.int p0), .val (.int p1), .val (.int p2), .val (.int p3), .val (.int p4), .val (.int p5), .val (.int z6), .val (.long z14), .second, .val (.int m23_s0), .val (.int m39_s0), .unset, .unset, .unset, .unset, .unset, .unset] [(.int p5)])) _
    refine XS.iconst X0.here hx rfl (hb hby at_51) ?_
    show Steps p.tables e below (s₁.setTop (mkF m 52 #[.val (.int p0), .val (.int p1), .val (.int p2), .val (.int p3), .val (.int p4), .val (.int p5), .val (.int z6), .val (.long z14), .second, .val (.int m23_s0), .val (.int m39_s0), .unset, .unset, .unset, .unset, .unset, .unset] [(.int (5 : Int32)), (.int p5)])) _
    refine Jvm.OwnK.iushr X0.here hx rfl (hb hby at_52) rfl hz52 ?_
    show Steps p.tables e below (s₁.setTop (mkF m 53 #[.val (.int p0), .val (.int p1), .val (.int p2), .val (.int p3), .val (.int p4), .val (.int p5), .val (.int z6), .val (.long z14), .second, .val (.int m23_s0), .val (.int m39_s0), .unset, .unset, .unset, .unset, .unset, .unset] [(.int z52)])) _
    refine XS.iconst X0.here hx rfl (hb hby at_53) ?_
    show Steps p.tables e below (s₁.setTop (mkF m 54 #[.val (.int p0), .val (.int p1), .val (.int p2), .val (.int p3), .val (.int p4), .val (.int p5), .val (.int z6), .val (.long z14), .second, .val (.int m23_s0), .val (.int m39_s0), .unset, .unset, .unset, .unset, .unset, .unset] [(.int (1 : Int32)), (.int z52)])) _
    refine Jvm.OwnK.iand X0.here hx rfl (hb hby at_54) rfl hz54 ?_
    by_cases hm55_0 : z54 = (0 : Int32)
    · skip
      show Steps p.tables e below (s₁.setTop (mkF m 55 #[.val (.int p0), .val (.int p1), .val (.int p2), .val (.int p3), .val (.int p4), .val (.int p5), .val (.int z6), .val (.long z14), .second, .val (.int m23_s0), .val (.int m39_s0), .unset, .unset, .unset, .unset, .unset, .unset] [(.int z54)])) _
      refine XS.ifYes X0.here hx rfl (pc0 := 55) (pc' := 62) rfl (hb hby at_55) rfl (Jvm.Free.XT.i0_eq_t hm55_0) (by decide) (by decide) ?_
      show Steps p.tables e below (s₁.setTop (mkF m 62 #[.val (.int p0), .val (.int p1), .val (.int p2), .val (.int p3), .val (.int p4), .val (.int p5), .val (.int z6), .val (.long z14), .second, .val (.int m23_s0), .val (.int m39_s0), .unset, .unset, .unset, .unset, .unset, .unset] [])) _
      refine XS.iconst X0.here hx rfl (hb hby at_62) ?_
      obtain rfl : (0 : Int32) = m55_s0 := by rw [← hm55_s0]; simp only [if_pos hm55_0]
      exact k
    · skip
      show Steps p.tables e below (s₁.setTop (mkF m 55 #[.val (.int p0), .val (.int p1), .val (.int p2), .val (.int p3), .val (.int p4), .val (.int p5), .val (.int z6), .val (.long z14), .second, .val (.int m23_s0), .val (.int m39_s0), .unset, .unset, .unset, .unset, .unset, .unset] [(.int z54)])) _
      refine XS.ifNo X0.here hx rfl (hb hby at_55) rfl (Jvm.Free.XT.i0_eq_f hm55_0) ?_
      show Steps p.tables e below (s₁.setTop (mkF m 58 #[.val (.int p0), .val (.int p1), .val (.int p2), .val (.int p3), .val (.int p4), .val (.int p5), .val (.int z6), .val (.long z14), .second, .val (.int m23_s0), .val (.int m39_s0), .unset, .unset, .unset, .unset, .unset, .unset] [])) _
      refine XS.iconst X0.here hx rfl (hb hby at_58) ?_
      show Steps p.tables e below (s₁.setTop (mkF m 59 #[.val (.int p0), .val (.int p1), .val (.int p2), .val (.int p3), .val (.int p4), .val (.int p5), .val (.int z6), .val (.long z14), .second, .val (.int m23_s0), .val (.int m39_s0), .unset, .unset, .unset, .unset, .unset, .unset] [(.int (1 : Int32))])) _
      refine XS.goto X0.here hx rfl (pc0 := 59) (pc' := 63) rfl (hb hby at_59) (by decide) (by decide) ?_
      obtain rfl : (1 : Int32) = m55_s0 := by rw [← hm55_s0]; simp only [if_neg hm55_0]
      exact k
  have c4 : ∀ t, Steps p.tables e below (s₁.setTop (mkF m 80 #[.val (.int p0), .val (.int p1), .val (.int p2), .val (.int p3), .val (.int p4), .val (.int p5), .val (.int z6), .val (.long z14), .second, .val (.int m23_s0), .val (.int m39_s0), .val (.int m55_s0), .unset, .unset, .unset, .unset, .unset] [(.int m72_s0)])) t → Steps p.tables e below (s₁.setTop (entryFrame m #[(.int p0), (.int p1), (.int p2), (.int p3), (.int p4), (.int p5)] maxLocals)) t := by
    intro t k
    refine c3 t ?_
    show Steps p.tables e below (s₁.setTop (mkF m 63 #[.val (.int p0), .val (.int p1), .val (.int p2), .val (.int p3), .val (.int p4), .val (.int p5), .val (.int z6), .val (.long z14), .second, .val (.int m23_s0), .val (.int m39_s0), .unset, .unset, .unset, .unset, .unset, .unset] [(.int m55_s0)])) _
    refine XS.istore X0.here hx rfl (hb hby at_63) rfl (l' := #[.val (.int p0), .val (.int p1), .val (.int p2), .val (.int p3), .val (.int p4), .val (.int p5), .val (.int z6), .val (.long z14), .second, .val (.int m23_s0), .val (.int m39_s0), .val (.int m55_s0), .unset, .unset, .unset, .unset, .unset]) rfl ?_
    show Steps p.tables e below (s₁.setTop (mkF m 65 #[.val (.int p0), .val (.int p1), .val (.int p2), .val (.int p3), .val (.int p4), .val (.int p5), .val (.int z6), .val (.long z14), .second, .val (.int m23_s0), .val (.int m39_s0), .val (.int m55_s0), .unset, .unset, .unset, .unset, .unset] [])) _
    refine XS.iload X0.here hx rfl (hb hby at_65) rfl ?_
    show Steps p.tables e below (s₁.setTop (mkF m 67 #[.val (.int p0), .val (.int p1), .val (.int p2), .val (.int p3), .val (.int p4), .val (.int p5), .val (.int z6), .val (.long z14), .second, .val (.int m23_s0), .val (.int m39_s0), .val (.int m55_s0), .unset, .unset, .unset, .unset, .unset] [(.int p5)])) _
    refine XS.bipush X0.here hx rfl (hb hby at_67) ?_
    show Steps p.tables e below (s₁.setTop (mkF m 69 #[.val (.int p0), .val (.int p1), .val (.int p2), .val (.int p3), .val (.int p4), .val (.int p5), .val (.int z6), .val (.long z14), .second, .val (.int m23_s0), .val (.int m39_s0), .val (.int m55_s0), .unset, .unset, .unset, .unset, .unset] [(.int (6 : Int32)), (.int p5)])) _
    refine Jvm.OwnK.iushr X0.here hx rfl (hb hby at_69) rfl hz69 ?_
    show Steps p.tables e below (s₁.setTop (mkF m 70 #[.val (.int p0), .val (.int p1), .val (.int p2), .val (.int p3), .val (.int p4), .val (.int p5), .val (.int z6), .val (.long z14), .second, .val (.int m23_s0), .val (.int m39_s0), .val (.int m55_s0), .unset, .unset, .unset, .unset, .unset] [(.int z69)])) _
    refine XS.iconst X0.here hx rfl (hb hby at_70) ?_
    show Steps p.tables e below (s₁.setTop (mkF m 71 #[.val (.int p0), .val (.int p1), .val (.int p2), .val (.int p3), .val (.int p4), .val (.int p5), .val (.int z6), .val (.long z14), .second, .val (.int m23_s0), .val (.int m39_s0), .val (.int m55_s0), .unset, .unset, .unset, .unset, .unset] [(.int (1 : Int32)), (.int z69)])) _
    refine Jvm.OwnK.iand X0.here hx rfl (hb hby at_71) rfl hz71 ?_
    by_cases hm72_0 : z71 = (0 : Int32)
    · skip
      show Steps p.tables e below (s₁.setTop (mkF m 72 #[.val (.int p0), .val (.int p1), .val (.int p2), .val (.int p3), .val (.int p4), .val (.int p5), .val (.int z6), .val (.long z14), .second, .val (.int m23_s0), .val (.int m39_s0), .val (.int m55_s0), .unset, .unset, .unset, .unset, .unset] [(.int z71)])) _
      refine XS.ifYes X0.here hx rfl (pc0 := 72) (pc' := 79) rfl (hb hby at_72) rfl (Jvm.Free.XT.i0_eq_t hm72_0) (by decide) (by decide) ?_
      show Steps p.tables e below (s₁.setTop (mkF m 79 #[.val (.int p0), .val (.int p1), .val (.int p2), .val (.int p3), .val (.int p4), .val (.int p5), .val (.int z6), .val (.long z14), .second, .val (.int m23_s0), .val (.int m39_s0), .val (.int m55_s0), .unset, .unset, .unset, .unset, .unset] [])) _
      refine XS.iconst X0.here hx rfl (hb hby at_79) ?_
      obtain rfl : (0 : Int32) = m72_s0 := by rw [← hm72_s0]; simp only [if_pos hm72_0]
      exact k
    · skip
      show Steps p.tables e below (s₁.setTop (mkF m 72 #[.val (.int p0), .val (.int p1), .val (.int p2), .val (.int p3), .val (.int p4), .val (.int p5), .val (.int z6), .val (.long z14), .second, .val (.int m23_s0), .val (.int m39_s0), .val (.int m55_s0), .unset, .unset, .unset, .unset, .unset] [(.int z71)])) _
      refine XS.ifNo X0.here hx rfl (hb hby at_72) rfl (Jvm.Free.XT.i0_eq_f hm72_0) ?_
      show Steps p.tables e below (s₁.setTop (mkF m 75 #[.val (.int p0), .val (.int p1), .val (.int p2), .val (.int p3), .val (.int p4), .val (.int p5), .val (.int z6), .val (.long z14), .second, .val (.int m23_s0), .val (.int m39_s0), .val (.int m55_s0), .unset, .unset, .unset, .unset, .unset] [])) _
      refine XS.iconst X0.here hx rfl (hb hby at_75) ?_
      show Steps p.tables e below (s₁.setTop (mkF m 76 #[.val (.int p0), .val (.int p1), .val (.int p2), .val (.int p3), .val (.int p4), .val (.int p5), .val (.int z6), .val (.long z14), .second, .val (.int m23_s0), .val (.int m39_s0), .val (.int m55_s0), .unset, .unset, .unset, .unset, .unset] [(.int (1 : Int32))])) _
      refine XS.goto X0.here hx rfl (pc0 := 76) (pc' := 80) rfl (hb hby at_76) (by decide) (by decide) ?_
      obtain rfl : (1 : Int32) = m72_s0 := by rw [← hm72_s0]; simp only [if_neg hm72_0]
      exact k
  obtain ⟨nb114, fi114⟩ := nar1 hm23_s0
  obtain ⟨nb119, fi119⟩ := nar1 hm39_s0
  obtain ⟨nb124, fi124⟩ := nar1 hm55_s0
  obtain ⟨nb129, fi129⟩ := nar1 hm72_s0
  obtain ⟨T5, h5, k5, X5, e5, E5, A5, st5⟩ := newP X0 hx hZ (hw _ (List.mem_of_getElem? (i := 1) rfl)) e0 (g := (mkF m 83 #[.val (.int p0), .val (.int p1), .val (.int p2), .val (.int p3), .val (.int p4), .val (.int p5), .val (.int z6), .val (.long z14), .second, .val (.int m23_s0), .val (.int m39_s0), .val (.int m55_s0), .val (.int m72_s0), .unset, .unset, .unset, .unset] [(.int (4 : Int32))])) rfl (hb hby at_83) rfl (by decide) (cap := 4) (by decide) (by decide) (by decide) (by decide)
  obtain ⟨b5, g5⟩ : ∃ z, z = h0.size := ⟨_, rfl⟩
  rw [← g5] at A5 st5
  have gn5 : n0 ≤ b5 := Nat.le_trans Z0 (Nat.le_of_eq g5.symm)
  have gz5 : h0.size ≤ b5 := Nat.le_trans ((Keep.refl h0 [])).1 (Nat.le_of_eq g5.symm)
  have K6 : Keep h0 h5 [] := (Keep.refl h0 []).ext E5
  have V5 : Arv Z h5 b5 k5 .long (4 : Int32) [(.long (0 : Int64)), (.long (0 : Int64)), (.long (0 : Int64)), (.long (0 : Int64))] (.long (0 : Int64)) := (Arv.new A5 (by decide)).pad (pad_rep [] (.long (0 : Int64)) 4)
  obtain ⟨cl7, Ar7, q7, S7, Nn7, Ha7, G7⟩ := id V5
  have in7 : ¬ ((0 : Int32) < 0 ∨ cl7.slots.size ≤ ((0 : Int32)).toNatClampNeg) := inb_of S7 ⟨by decide, by decide⟩
  obtain ⟨T8, h8, X8, e8, W8, st8⟩ := stJ X5 hx hZ e5 Ar7 (j := (0 : Int32)) in7 (g := (mkF m 89 #[.val (.int p0), .val (.int p1), .val (.int p2), .val (.int p3), .val (.int p4), .val (.int p5), .val (.int z6), .val (.long z14), .second, .val (.int m23_s0), .val (.int m39_s0), .val (.int m55_s0), .val (.int m72_s0), .unset, .unset, .unset, .unset] [(.long z88), (.int (0 : Int32)), (.ref b5), (.ref b5)])) rfl rfl (hb hby at_89)
  have N8 := Fr.snoc X8 N0 gn5
  have K9 : Keep h0 h8 [] := K6.wr W8 (Or.inr gz5)
  have V8 : Arv Z h8 b5 k5 .long (4 : Int32) [(.long z88), (.long (0 : Int64)), (.long (0 : Int64)), (.long (0 : Int64))] (.long (0 : Int64)) := Arv.set Ar7 q7 S7 Nn7 Ha7 G7 rfl W8 0 rfl (show (0 : Nat) < 4 by decide)
  obtain ⟨cl10, Ar10, q10, S10, Nn10, Ha10, G10⟩ := id V8
  have in10 : ¬ ((1 : Int32) < 0 ∨ cl10.slots.size ≤ ((1 : Int32)).toNatClampNeg) := inb_of S10 ⟨by decide, by decide⟩
  obtain ⟨T11, h11, X11, e11, W11, st11⟩ := stJ X8 hx hZ e8 Ar10 (j := (1 : Int32)) in10 (g := (mkF m 94 #[.val (.int p0), .val (.int p1), .val (.int p2), .val (.int p3), .val (.int p4), .val (.int p5), .val (.int z6), .val (.long z14), .second, .val (.int m23_s0), .val (.int m39_s0), .val (.int m55_s0), .val (.int m72_s0), .unset, .unset, .unset, .unset] [(.long z93), (.int (1 : Int32)), (.ref b5), (.ref b5)])) rfl rfl (hb hby at_94)
  have N11 := Fr.snoc X11 N8 gn5
  have K12 : Keep h0 h11 [] := K9.wr W11 (Or.inr gz5)
  have V11 : Arv Z h11 b5 k5 .long (4 : Int32) [(.long z88), (.long z93), (.long (0 : Int64)), (.long (0 : Int64))] (.long (0 : Int64)) := Arv.set Ar10 q10 S10 Nn10 Ha10 G10 rfl W11 1 rfl (show (1 : Nat) < 4 by decide)
  obtain ⟨cl13, Ar13, q13, S13, Nn13, Ha13, G13⟩ := id V11
  have in13 : ¬ ((2 : Int32) < 0 ∨ cl13.slots.size ≤ ((2 : Int32)).toNatClampNeg) := inb_of S13 ⟨by decide, by decide⟩
  obtain ⟨T14, h14, X14, e14, W14, st14⟩ := stJ X11 hx hZ e11 Ar13 (j := (2 : Int32)) in13 (g := (mkF m 99 #[.val (.int p0), .val (.int p1), .val (.int p2), .val (.int p3), .val (.int p4), .val (.int p5), .val (.int z6), .val (.long z14), .second, .val (.int m23_s0), .val (.int m39_s0), .val (.int m55_s0), .val (.int m72_s0), .unset, .unset, .unset, .unset] [(.long z98), (.int (2 : Int32)), (.ref b5), (.ref b5)])) rfl rfl (hb hby at_99)
  have N14 := Fr.snoc X14 N11 gn5
  have K15 : Keep h0 h14 [] := K12.wr W14 (Or.inr gz5)
  have V14 : Arv Z h14 b5 k5 .long (4 : Int32) [(.long z88), (.long z93), (.long z98), (.long (0 : Int64))] (.long (0 : Int64)) := Arv.set Ar13 q13 S13 Nn13 Ha13 G13 rfl W14 2 rfl (show (2 : Nat) < 4 by decide)
  obtain ⟨cl16, Ar16, q16, S16, Nn16, Ha16, G16⟩ := id V14
  have in16 : ¬ ((3 : Int32) < 0 ∨ cl16.slots.size ≤ ((3 : Int32)).toNatClampNeg) := inb_of S16 ⟨by decide, by decide⟩
  obtain ⟨T17, h17, X17, e17, W17, st17⟩ := stJ X14 hx hZ e14 Ar16 (j := (3 : Int32)) in16 (g := (mkF m 104 #[.val (.int p0), .val (.int p1), .val (.int p2), .val (.int p3), .val (.int p4), .val (.int p5), .val (.int z6), .val (.long z14), .second, .val (.int m23_s0), .val (.int m39_s0), .val (.int m55_s0), .val (.int m72_s0), .unset, .unset, .unset, .unset] [(.long z103), (.int (3 : Int32)), (.ref b5), (.ref b5)])) rfl rfl (hb hby at_104)
  have N17 := Fr.snoc X17 N14 gn5
  have K18 : Keep h0 h17 [] := K15.wr W17 (Or.inr gz5)
  have V17 : Arv Z h17 b5 k5 .long (4 : Int32) [(.long z88), (.long z93), (.long z98), (.long z103)] (.long (0 : Int64)) := Arv.set Ar16 q16 S16 Nn16 Ha16 G16 rfl W17 3 rfl (show (3 : Nat) < 4 by decide)
  obtain ⟨T19, h19, k19, X19, e19, E19, A19, st19⟩ := newP X17 hx hZ (hw _ (List.mem_of_getElem? (i := 2) rfl)) e17 (g := (mkF m 108 #[.val (.int p0), .val (.int p1), .val (.int p2), .val (.int p3), .val (.int p4), .val (.int p5), .val (.int z6), .val (.long z14), .second, .val (.int m23_s0), .val (.int m39_s0), .val (.int m55_s0), .val (.int m72_s0), .val (.ref b5), .unset, .unset, .unset] [(.int (4 : Int32))])) rfl (hb hby at_108) rfl (by decide) (cap := 4) (by decide) (by decide) (by decide) (by decide)
  obtain ⟨b19, g19⟩ : ∃ z, z = h17.size := ⟨_, rfl⟩
  rw [← g19] at A19 st19
  have gn19 : n0 ≤ b19 := Nat.le_trans (Nat.le_trans (Nat.le_trans (Nat.le_trans (Nat.le_trans (Nat.le_trans Z0 E5.1) (Keep.of_wr W8).1) (Keep.of_wr W11).1) (Keep.of_wr W14).1) (Keep.of_wr W17).1) (Nat.le_of_eq g19.symm)
  have gz19 : h0.size ≤ b19 := Nat.le_trans (K18).1 (Nat.le_of_eq g19.symm)
  have K20 : Keep h0 h19 [] := K18.ext E19
  have V19 : Arv Z h19 b19 k19 .boolean (4 : Int32) [(.int (0 : Int32)), (.int (0 : Int32)), (.int (0 : Int32)), (.int (0 : Int32))] (.int (0 : Int32)) := (Arv.new A19 (by decide)).pad (pad_rep [] (.int (0 : Int32)) 4)
  obtain ⟨cl21, Ar21, q21, S21, Nn21, Ha21, G21⟩ := id V19
  have in21 : ¬ ((0 : Int32) < 0 ∨ cl21.slots.size ≤ ((0 : Int32)).toNatClampNeg) := inb_of S21 ⟨by decide, by decide⟩
  obtain ⟨T22, h22, X22, e22, W22, st22⟩ := stZ X19 hx hZ e19 Ar21 (j := (0 : Int32)) in21 (g := (mkF m 114 #[.val (.int p0), .val (.int p1), .val (.int p2), .val (.int p3), .val (.int p4), .val (.int p5), .val (.int z6), .val (.long z14), .second, .val (.int m23_s0), .val (.int m39_s0), .val (.int m55_s0), .val (.int m72_s0), .val (.ref b5), .unset, .unset, .unset] [(.int m23_s0), (.int (0 : Int32)), (.ref b19), (.ref b19)])) rfl rfl (hb hby at_114)
  rw [nb114] at W22
  have N22 := Fr.snoc X22 N17 gn19
  have K23 : Keep h0 h22 [] := K20.wr W22 (Or.inr gz19)
  have V22 : Arv Z h22 b19 k19 .boolean (4 : Int32) [(.int m23_s0), (.int (0 : Int32)), (.int (0 : Int32)), (.int (0 : Int32))] (.int (0 : Int32)) := Arv.set Ar21 q21 S21 Nn21 Ha21 G21 fi114 W22 0 rfl (show (0 : Nat) < 4 by decide)
  obtain ⟨cl24, Ar24, q24, S24, Nn24, Ha24, G24⟩ := id V22
  have in24 : ¬ ((1 : Int32) < 0 ∨ cl24.slots.size ≤ ((1 : Int32)).toNatClampNeg) := inb_of S24 ⟨by decide, by decide⟩
  obtain ⟨T25, h25, X25, e25, W25, st25⟩ := stZ X22 hx hZ e22 Ar24 (j := (1 : Int32)) in24 (g := (mkF m 119 #[.val (.int p0), .val (.int p1), .val (.int p2), .val (.int p3), .val (.int p4), .val (.int p5), .val (.int z6), .val (.long z14), .second, .val (.int m23_s0), .val (.int m39_s0), .val (.int m55_s0), .val (.int m72_s0), .val (.ref b5), .unset, .unset, .unset] [(.int m39_s0), (.int (1 : Int32)), (.ref b19), (.ref b19)])) rfl rfl (hb hby at_119)
  rw [nb119] at W25
  have N25 := Fr.snoc X25 N22 gn19
  have K26 : Keep h0 h25 [] := K23.wr W25 (Or.inr gz19)
  have V25 : Arv Z h25 b19 k19 .boolean (4 : Int32) [(.int m23_s0), (.int m39_s0), (.int (0 : Int32)), (.int (0 : Int32))] (.int (0 : Int32)) := Arv.set Ar24 q24 S24 Nn24 Ha24 G24 fi119 W25 1 rfl (show (1 : Nat) < 4 by decide)
  obtain ⟨cl27, Ar27, q27, S27, Nn27, Ha27, G27⟩ := id V25
  have in27 : ¬ ((2 : Int32) < 0 ∨ cl27.slots.size ≤ ((2 : Int32)).toNatClampNeg) := inb_of S27 ⟨by decide, by decide⟩
  obtain ⟨T28, h28, X28, e28, W28, st28⟩ := stZ X25 hx hZ e25 Ar27 (j := (2 : Int32)) in27 (g := (mkF m 124 #[.val (.int p0), .val (.int p1), .val (.int p2), .val (.int p3), .val (.int p4), .val (.int p5), .val (.int z6), .val (.long z14), .second, .val (.int m23_s0), .val (.int m39_s0), .val (.int m55_s0), .val (.int m72_s0), .val (.ref b5), .unset, .unset, .unset] [(.int m55_s0), (.int (2 : Int32)), (.ref b19), (.ref b19)])) rfl rfl (hb hby at_124)
  rw [nb124] at W28
  have N28 := Fr.snoc X28 N25 gn19
  have K29 : Keep h0 h28 [] := K26.wr W28 (Or.inr gz19)
  have V28 : Arv Z h28 b19 k19 .boolean (4 : Int32) [(.int m23_s0), (.int m39_s0), (.int m55_s0), (.int (0 : Int32))] (.int (0 : Int32)) := Arv.set Ar27 q27 S27 Nn27 Ha27 G27 fi124 W28 2 rfl (show (2 : Nat) < 4 by decide)
  obtain ⟨cl30, Ar30, q30, S30, Nn30, Ha30, G30⟩ := id V28
  have in30 : ¬ ((3 : Int32) < 0 ∨ cl30.slots.size ≤ ((3 : Int32)).toNatClampNeg) := inb_of S30 ⟨by decide, by decide⟩
  obtain ⟨T31, h31, X31, e31, W31, st31⟩ := stZ X28 hx hZ e28 Ar30 (j := (3 : Int32)) in30 (g := (mkF m 129 #[.val (.int p0), .val (.int p1), .val (.int p2), .val (.int p3), .val (.int p4), .val (.int p5), .val (.int z6), .val (.long z14), .second, .val (.int m23_s0), .val (.int m39_s0), .val (.int m55_s0), .val (.int m72_s0), .val (.ref b5), .unset, .unset, .unset] [(.int m72_s0), (.int (3 : Int32)), (.ref b19), (.ref b19)])) rfl rfl (hb hby at_129)
  rw [nb129] at W31
  have N31 := Fr.snoc X31 N28 gn19
  have K32 : Keep h0 h31 [] := K29.wr W31 (Or.inr gz19)
  have V31 : Arv Z h31 b19 k19 .boolean (4 : Int32) [(.int m23_s0), (.int m39_s0), (.int m55_s0), (.int m72_s0)] (.int (0 : Int32)) := Arv.set Ar30 q30 S30 Nn30 Ha30 G30 fi129 W31 3 rfl (show (3 : Nat) < 4 by decide)
  have c33 : ∀ t, Steps p.tables e below (T31.setTop (mkF m 132 #[.val (.int p0), .val (.int p1), .val (.int p2), .val (.int p3), .val (.int p4), .val (.int p5), .val (.int z6), .val (.long z14), .second, .val (.int m23_s0), .val (.int m39_s0), .val (.int m55_s0), .val (.int m72_s0), .val (.ref b5), .val (.ref b19), .unset, .unset] [])) t → Steps p.tables e below (s₁.setTop (entryFrame m #[(.int p0), (.int p1), (.int p2), (.int p3), (.int p4), (.int p5)] maxLocals)) t := by
    intro t k
    refine c4 t ?_
    show Steps p.tables e below (s₁.setTop (mkF m 80 #[.val (.int p0), .val (.int p1), .val (.int p2), .val (.int p3), .val (.int p4), .val (.int p5), .val (.int z6), .val (.long z14), .second, .val (.int m23_s0), .val (.int m39_s0), .val (.int m55_s0), .unset, .unset, .unset, .unset, .unset] [(.int m72_s0)])) _
    refine XS.istore X0.here hx rfl (hb hby at_80) rfl (l' := #[.val (.int p0), .val (.int p1), .val (.int p2), .val (.int p3), .val (.int p4), .val (.int p5), .val (.int z6), .val (.long z14), .second, .val (.int m23_s0), .val (.int m39_s0), .val (.int m55_s0), .val (.int m72_s0), .unset, .unset, .unset, .unset]) rfl ?_
    show Steps p.tables e below (s₁.setTop (mkF m 82 #[.val (.int p0), .val (.int p1), .val (.int p2), .val (.int p3), .val (.int p4), .val (.int p5), .val (.int z6), .val (.long z14), .second, .val (.int m23_s0), .val (.int m39_s0), .val (.int m55_s0), .val (.int m72_s0), .unset, .unset, .unset, .unset] [])) _
    refine XS.iconst X0.here hx rfl (hb hby at_82) ?_
    show Steps p.tables e below (s₁.setTop (mkF m 83 #[.val (.int p0), .val (.int p1), .val (.int p2), .val (.int p3), .val (.int p4), .val (.int p5), .val (.int z6), .val (.long z14), .second, .val (.int m23_s0), .val (.int m39_s0), .val (.int m55_s0), .val (.int m72_s0), .unset, .unset, .unset, .unset] [(.int (4 : Int32))])) _
    refine st5 _ ?_
    show Steps p.tables e below (T5.setTop (mkF m 85 #[.val (.int p0), .val (.int p1), .val (.int p2), .val (.int p3), .val (.int p4), .val (.int p5), .val (.int z6), .val (.long z14), .second, .val (.int m23_s0), .val (.int m39_s0), .val (.int m55_s0), .val (.int m72_s0), .unset, .unset, .unset, .unset] [(.ref b5)])) _
    refine XS.dup X5.here hx rfl (hb hby at_85) rfl rfl ?_
    show Steps p.tables e below (T5.setTop (mkF m 86 #[.val (.int p0), .val (.int p1), .val (.int p2), .val (.int p3), .val (.int p4), .val (.int p5), .val (.int z6), .val (.long z14), .second, .val (.int m23_s0), .val (.int m39_s0), .val (.int m55_s0), .val (.int m72_s0), .unset, .unset, .unset, .unset] [(.ref b5), (.ref b5)])) _
    refine XS.iconst X5.here hx rfl (hb hby at_86) ?_
    show Steps p.tables e below (T5.setTop (mkF m 87 #[.val (.int p0), .val (.int p1), .val (.int p2), .val (.int p3), .val (.int p4), .val (.int p5), .val (.int z6), .val (.long z14), .second, .val (.int m23_s0), .val (.int m39_s0), .val (.int m55_s0), .val (.int m72_s0), .unset, .unset, .unset, .unset] [(.int (0 : Int32)), (.ref b5), (.ref b5)])) _
    refine XS.iloadN X5.here hx rfl (hb hby at_87) rfl ?_
    show Steps p.tables e below (T5.setTop (mkF m 88 #[.val (.int p0), .val (.int p1), .val (.int p2), .val (.int p3), .val (.int p4), .val (.int p5), .val (.int z6), .val (.long z14), .second, .val (.int m23_s0), .val (.int m39_s0), .val (.int m55_s0), .val (.int m72_s0), .unset, .unset, .unset, .unset] [(.int p0), (.int (0 : Int32)), (.ref b5), (.ref b5)])) _
    refine Jvm.OwnK.i2l X5.here hx rfl (hb hby at_88) rfl hz88 ?_
    show Steps p.tables e below (T5.setTop (mkF m 89 #[.val (.int p0), .val (.int p1), .val (.int p2), .val (.int p3), .val (.int p4), .val (.int p5), .val (.int z6), .val (.long z14), .second, .val (.int m23_s0), .val (.int m39_s0), .val (.int m55_s0), .val (.int m72_s0), .unset, .unset, .unset, .unset] [(.long z88), (.int (0 : Int32)), (.ref b5), (.ref b5)])) _
    refine st8 _ ?_
    show Steps p.tables e below (T8.setTop (mkF m 90 #[.val (.int p0), .val (.int p1), .val (.int p2), .val (.int p3), .val (.int p4), .val (.int p5), .val (.int z6), .val (.long z14), .second, .val (.int m23_s0), .val (.int m39_s0), .val (.int m55_s0), .val (.int m72_s0), .unset, .unset, .unset, .unset] [(.ref b5)])) _
    refine XS.dup X8.here hx rfl (hb hby at_90) rfl rfl ?_
    show Steps p.tables e below (T8.setTop (mkF m 91 #[.val (.int p0), .val (.int p1), .val (.int p2), .val (.int p3), .val (.int p4), .val (.int p5), .val (.int z6), .val (.long z14), .second, .val (.int m23_s0), .val (.int m39_s0), .val (.int m55_s0), .val (.int m72_s0), .unset, .unset, .unset, .unset] [(.ref b5), (.ref b5)])) _
    refine XS.iconst X8.here hx rfl (hb hby at_91) ?_
    show Steps p.tables e below (T8.setTop (mkF m 92 #[.val (.int p0), .val (.int p1), .val (.int p2), .val (.int p3), .val (.int p4), .val (.int p5), .val (.int z6), .val (.long z14), .second, .val (.int m23_s0), .val (.int m39_s0), .val (.int m55_s0), .val (.int m72_s0), .unset, .unset, .unset, .unset] [(.int (1 : Int32)), (.ref b5), (.ref b5)])) _
    refine XS.iloadN X8.here hx rfl (hb hby at_92) rfl ?_
    show Steps p.tables e below (T8.setTop (mkF m 93 #[.val (.int p0), .val (.int p1), .val (.int p2), .val (.int p3), .val (.int p4), .val (.int p5), .val (.int z6), .val (.long z14), .second, .val (.int m23_s0), .val (.int m39_s0), .val (.int m55_s0), .val (.int m72_s0), .unset, .unset, .unset, .unset] [(.int p1), (.int (1 : Int32)), (.ref b5), (.ref b5)])) _
    refine Jvm.OwnK.i2l X8.here hx rfl (hb hby at_93) rfl hz93 ?_
    show Steps p.tables e below (T8.setTop (mkF m 94 #[.val (.int p0), .val (.int p1), .val (.int p2), .val (.int p3), .val (.int p4), .val (.int p5), .val (.int z6), .val (.long z14), .second, .val (.int m23_s0), .val (.int m39_s0), .val (.int m55_s0), .val (.int m72_s0), .unset, .unset, .unset, .unset] [(.long z93), (.int (1 : Int32)), (.ref b5), (.ref b5)])) _
    refine st11 _ ?_
    show Steps p.tables e below (T11.setTop (mkF m 95 #[.val (.int p0), .val (.int p1), .val (.int p2), .val (.int p3), .val (.int p4), .val (.int p5), .val (.int z6), .val (.long z14), .second, .val (.int m23_s0), .val (.int m39_s0), .val (.int m55_s0), .val (.int m72_s0), .unset, .unset, .unset, .unset] [(.ref b5)])) _
    refine XS.dup X11.here hx rfl (hb hby at_95) rfl rfl ?_
    show Steps p.tables e below (T11.setTop (mkF m 96 #[.val (.int p0), .val (.int p1), .val (.int p2), .val (.int p3), .val (.int p4), .val (.int p5), .val (.int z6), .val (.long z14), .second, .val (.int m23_s0), .val (.int m39_s0), .val (.int m55_s0), .val (.int m72_s0), .unset, .unset, .unset, .unset] [(.ref b5), (.ref b5)])) _
    refine XS.iconst X11.here hx rfl (hb hby at_96) ?_
    show Steps p.tables e below (T11.setTop (mkF m 97 #[.val (.int p0), .val (.int p1), .val (.int p2), .val (.int p3), .val (.int p4), .val (.int p5), .val (.int z6), .val (.long z14), .second, .val (.int m23_s0), .val (.int m39_s0), .val (.int m55_s0), .val (.int m72_s0), .unset, .unset, .unset, .unset] [(.int (2 : Int32)), (.ref b5), (.ref b5)])) _
    refine XS.iloadN X11.here hx rfl (hb hby at_97) rfl ?_
    show Steps p.tables e below (T11.setTop (mkF m 98 #[.val (.int p0), .val (.int p1), .val (.int p2), .val (.int p3), .val (.int p4), .val (.int p5), .val (.int z6), .val (.long z14), .second, .val (.int m23_s0), .val (.int m39_s0), .val (.int m55_s0), .val (.int m72_s0), .unset, .unset, .unset, .unset] [(.int p2), (.int (2 : Int32)), (.ref b5), (.ref b5)])) _
    refine Jvm.OwnK.i2l X11.here hx rfl (hb hby at_98) rfl hz98 ?_
    show Steps p.tables e below (T11.setTop (mkF m 99 #[.val (.int p0), .val (.int p1), .val (.int p2), .val (.int p3), .val (.int p4), .val (.int p5), .val (.int z6), .val (.long z14), .second, .val (.int m23_s0), .val (.int m39_s0), .val (.int m55_s0), .val (.int m72_s0), .unset, .unset, .unset, .unset] [(.long z98), (.int (2 : Int32)), (.ref b5), (.ref b5)])) _
    refine st14 _ ?_
    show Steps p.tables e below (T14.setTop (mkF m 100 #[.val (.int p0), .val (.int p1), .val (.int p2), .val (.int p3), .val (.int p4), .val (.int p5), .val (.int z6), .val (.long z14), .second, .val (.int m23_s0), .val (.int m39_s0), .val (.int m55_s0), .val (.int m72_s0), .unset, .unset, .unset, .unset] [(.ref b5)])) _
    refine XS.dup X14.here hx rfl (hb hby at_100) rfl rfl ?_
    show Steps p.tables e below (T14.setTop (mkF m 101 #[.val (.int p0), .val (.int p1), .val (.int p2), .val (.int p3), .val (.int p4), .val (.int p5), .val (.int z6), .val (.long z14), .second, .val (.int m23_s0), .val (.int m39_s0), .val (.int m55_s0), .val (.int m72_s0), .unset, .unset, .unset, .unset] [(.ref b5), (.ref b5)])) _
    refine XS.iconst X14.here hx rfl (hb hby at_101) ?_
    show Steps p.tables e below (T14.setTop (mkF m 102 #[.val (.int p0), .val (.int p1), .val (.int p2), .val (.int p3), .val (.int p4), .val (.int p5), .val (.int z6), .val (.long z14), .second, .val (.int m23_s0), .val (.int m39_s0), .val (.int m55_s0), .val (.int m72_s0), .unset, .unset, .unset, .unset] [(.int (3 : Int32)), (.ref b5), (.ref b5)])) _
    refine XS.iloadN X14.here hx rfl (hb hby at_102) rfl ?_
    show Steps p.tables e below (T14.setTop (mkF m 103 #[.val (.int p0), .val (.int p1), .val (.int p2), .val (.int p3), .val (.int p4), .val (.int p5), .val (.int z6), .val (.long z14), .second, .val (.int m23_s0), .val (.int m39_s0), .val (.int m55_s0), .val (.int m72_s0), .unset, .unset, .unset, .unset] [(.int p3), (.int (3 : Int32)), (.ref b5), (.ref b5)])) _
    refine Jvm.OwnK.i2l X14.here hx rfl (hb hby at_103) rfl hz103 ?_
    show Steps p.tables e below (T14.setTop (mkF m 104 #[.val (.int p0), .val (.int p1), .val (.int p2), .val (.int p3), .val (.int p4), .val (.int p5), .val (.int z6), .val (.long z14), .second, .val (.int m23_s0), .val (.int m39_s0), .val (.int m55_s0), .val (.int m72_s0), .unset, .unset, .unset, .unset] [(.long z103), (.int (3 : Int32)), (.ref b5), (.ref b5)])) _
    refine st17 _ ?_
    show Steps p.tables e below (T17.setTop (mkF m 105 #[.val (.int p0), .val (.int p1), .val (.int p2), .val (.int p3), .val (.int p4), .val (.int p5), .val (.int z6), .val (.long z14), .second, .val (.int m23_s0), .val (.int m39_s0), .val (.int m55_s0), .val (.int m72_s0), .unset, .unset, .unset, .unset] [(.ref b5)])) _
    refine XS.astore X17.here hx rfl (hb hby at_105) rfl rfl (l' := #[.val (.int p0), .val (.int p1), .val (.int p2), .val (.int p3), .val (.int p4), .val (.int p5), .val (.int z6), .val (.long z14), .second, .val (.int m23_s0), .val (.int m39_s0), .val (.int m55_s0), .val (.int m72_s0), .val (.ref b5), .unset, .unset, .unset]) rfl ?_
    show Steps p.tables e below (T17.setTop (mkF m 107 #[.val (.int p0), .val (.int p1), .val (.int p2), .val (.int p3), .val (.int p4), .val (.int p5), .val (.int z6), .val (.long z14), .second, .val (.int m23_s0), .val (.int m39_s0), .val (.int m55_s0), .val (.int m72_s0), .val (.ref b5), .unset, .unset, .unset] [])) _
    refine XS.iconst X17.here hx rfl (hb hby at_107) ?_
    show Steps p.tables e below (T17.setTop (mkF m 108 #[.val (.int p0), .val (.int p1), .val (.int p2), .val (.int p3), .val (.int p4), .val (.int p5), .val (.int z6), .val (.long z14), .second, .val (.int m23_s0), .val (.int m39_s0), .val (.int m55_s0), .val (.int m72_s0), .val (.ref b5), .unset, .unset, .unset] [(.int (4 : Int32))])) _
    refine st19 _ ?_
    show Steps p.tables e below (T19.setTop (mkF m 110 #[.val (.int p0), .val (.int p1), .val (.int p2), .val (.int p3), .val (.int p4), .val (.int p5), .val (.int z6), .val (.long z14), .second, .val (.int m23_s0), .val (.int m39_s0), .val (.int m55_s0), .val (.int m72_s0), .val (.ref b5), .unset, .unset, .unset] [(.ref b19)])) _
    refine XS.dup X19.here hx rfl (hb hby at_110) rfl rfl ?_
    show Steps p.tables e below (T19.setTop (mkF m 111 #[.val (.int p0), .val (.int p1), .val (.int p2), .val (.int p3), .val (.int p4), .val (.int p5), .val (.int z6), .val (.long z14), .second, .val (.int m23_s0), .val (.int m39_s0), .val (.int m55_s0), .val (.int m72_s0), .val (.ref b5), .unset, .unset, .unset] [(.ref b19), (.ref b19)])) _
    refine XS.iconst X19.here hx rfl (hb hby at_111) ?_
    show Steps p.tables e below (T19.setTop (mkF m 112 #[.val (.int p0), .val (.int p1), .val (.int p2), .val (.int p3), .val (.int p4), .val (.int p5), .val (.int z6), .val (.long z14), .second, .val (.int m23_s0), .val (.int m39_s0), .val (.int m55_s0), .val (.int m72_s0), .val (.ref b5), .unset, .unset, .unset] [(.int (0 : Int32)), (.ref b19), (.ref b19)])) _
    refine XS.iload X19.here hx rfl (hb hby at_112) rfl ?_
    show Steps p.tables e below (T19.setTop (mkF m 114 #[.val (.int p0), .val (.int p1), .val (.int p2), .val (.int p3), .val (.int p4), .val (.int p5), .val (.int z6), .val (.long z14), .second, .val (.int m23_s0), .val (.int m39_s0), .val (.int m55_s0), .val (.int m72_s0), .val (.ref b5), .unset, .unset, .unset] [(.int m23_s0), (.int (0 : Int32)), (.ref b19), (.ref b19)])) _
    refine st22 _ ?_
    show Steps p.tables e below (T22.setTop (mkF m 115 #[.val (.int p0), .val (.int p1), .val (.int p2), .val (.int p3), .val (.int p4), .val (.int p5), .val (.int z6), .val (.long z14), .second, .val (.int m23_s0), .val (.int m39_s0), .val (.int m55_s0), .val (.int m72_s0), .val (.ref b5), .unset, .unset, .unset] [(.ref b19)])) _
    refine XS.dup X22.here hx rfl (hb hby at_115) rfl rfl ?_
    show Steps p.tables e below (T22.setTop (mkF m 116 #[.val (.int p0), .val (.int p1), .val (.int p2), .val (.int p3), .val (.int p4), .val (.int p5), .val (.int z6), .val (.long z14), .second, .val (.int m23_s0), .val (.int m39_s0), .val (.int m55_s0), .val (.int m72_s0), .val (.ref b5), .unset, .unset, .unset] [(.ref b19), (.ref b19)])) _
    refine XS.iconst X22.here hx rfl (hb hby at_116) ?_
    show Steps p.tables e below (T22.setTop (mkF m 117 #[.val (.int p0), .val (.int p1), .val (.int p2), .val (.int p3), .val (.int p4), .val (.int p5), .val (.int z6), .val (.long z14), .second, .val (.int m23_s0), .val (.int m39_s0), .val (.int m55_s0), .val (.int m72_s0), .val (.ref b5), .unset, .unset, .unset] [(.int (1 : Int32)), (.ref b19), (.ref b19)])) _
    refine XS.iload X22.here hx rfl (hb hby at_117) rfl ?_
    show Steps p.tables e below (T22.setTop (mkF m 119 #[.val (.int p0), .val (.int p1), .val (.int p2), .val (.int p3), .val (.int p4), .val (.int p5), .val (.int z6), .val (.long z14), .second, .val (.int m23_s0), .val (.int m39_s0), .val (.int m55_s0), .val (.int m72_s0), .val (.ref b5), .unset, .unset, .unset] [(.int m39_s0), (.int (1 : Int32)), (.ref b19), (.ref b19)])) _
    refine st25 _ ?_
    show Steps p.tables e below (T25.setTop (mkF m 120 #[.val (.int p0), .val (.int p1), .val (.int p2), .val (.int p3), .val (.int p4), .val (.int p5), .val (.int z6), .val (.long z14), .second, .val (.int m23_s0), .val (.int m39_s0), .val (.int m55_s0), .val (.int m72_s0), .val (.ref b5), .unset, .unset, .unset] [(.ref b19)])) _
    refine XS.dup X25.here hx rfl (hb hby at_120) rfl rfl ?_
    show Steps p.tables e below (T25.setTop (mkF m 121 #[.val (.int p0), .val (.int p1), .val (.int p2), .val (.int p3), .val (.int p4), .val (.int p5), .val (.int z6), .val (.long z14), .second, .val (.int m23_s0), .val (.int m39_s0), .val (.int m55_s0), .val (.int m72_s0), .val (.ref b5), .unset, .unset, .unset] [(.ref b19), (.ref b19)])) _
    refine XS.iconst X25.here hx rfl (hb hby at_121) ?_
    show Steps p.tables e below (T25.setTop (mkF m 122 #[.val (.int p0), .val (.int p1), .val (.int p2), .val (.int p3), .val (.int p4), .val (.int p5), .val (.int z6), .val (.long z14), .second, .val (.int m23_s0), .val (.int m39_s0), .val (.int m55_s0), .val (.int m72_s0), .val (.ref b5), .unset, .unset, .unset] [(.int (2 : Int32)), (.ref b19), (.ref b19)])) _
    refine XS.iload X25.here hx rfl (hb hby at_122) rfl ?_
    show Steps p.tables e below (T25.setTop (mkF m 124 #[.val (.int p0), .val (.int p1), .val (.int p2), .val (.int p3), .val (.int p4), .val (.int p5), .val (.int z6), .val (.long z14), .second, .val (.int m23_s0), .val (.int m39_s0), .val (.int m55_s0), .val (.int m72_s0), .val (.ref b5), .unset, .unset, .unset] [(.int m55_s0), (.int (2 : Int32)), (.ref b19), (.ref b19)])) _
    refine st28 _ ?_
    show Steps p.tables e below (T28.setTop (mkF m 125 #[.val (.int p0), .val (.int p1), .val (.int p2), .val (.int p3), .val (.int p4), .val (.int p5), .val (.int z6), .val (.long z14), .second, .val (.int m23_s0), .val (.int m39_s0), .val (.int m55_s0), .val (.int m72_s0), .val (.ref b5), .unset, .unset, .unset] [(.ref b19)])) _
    refine XS.dup X28.here hx rfl (hb hby at_125) rfl rfl ?_
    show Steps p.tables e below (T28.setTop (mkF m 126 #[.val (.int p0), .val (.int p1), .val (.int p2), .val (.int p3), .val (.int p4), .val (.int p5), .val (.int z6), .val (.long z14), .second, .val (.int m23_s0), .val (.int m39_s0), .val (.int m55_s0), .val (.int m72_s0), .val (.ref b5), .unset, .unset, .unset] [(.ref b19), (.ref b19)])) _
    refine XS.iconst X28.here hx rfl (hb hby at_126) ?_
    show Steps p.tables e below (T28.setTop (mkF m 127 #[.val (.int p0), .val (.int p1), .val (.int p2), .val (.int p3), .val (.int p4), .val (.int p5), .val (.int z6), .val (.long z14), .second, .val (.int m23_s0), .val (.int m39_s0), .val (.int m55_s0), .val (.int m72_s0), .val (.ref b5), .unset, .unset, .unset] [(.int (3 : Int32)), (.ref b19), (.ref b19)])) _
    refine XS.iload X28.here hx rfl (hb hby at_127) rfl ?_
    show Steps p.tables e below (T28.setTop (mkF m 129 #[.val (.int p0), .val (.int p1), .val (.int p2), .val (.int p3), .val (.int p4), .val (.int p5), .val (.int z6), .val (.long z14), .second, .val (.int m23_s0), .val (.int m39_s0), .val (.int m55_s0), .val (.int m72_s0), .val (.ref b5), .unset, .unset, .unset] [(.int m72_s0), (.int (3 : Int32)), (.ref b19), (.ref b19)])) _
    refine st31 _ ?_
    show Steps p.tables e below (T31.setTop (mkF m 130 #[.val (.int p0), .val (.int p1), .val (.int p2), .val (.int p3), .val (.int p4), .val (.int p5), .val (.int z6), .val (.long z14), .second, .val (.int m23_s0), .val (.int m39_s0), .val (.int m55_s0), .val (.int m72_s0), .val (.ref b5), .unset, .unset, .unset] [(.ref b19)])) _
    refine XS.astore X31.here hx rfl (hb hby at_130) rfl rfl (l' := #[.val (.int p0), .val (.int p1), .val (.int p2), .val (.int p3), .val (.int p4), .val (.int p5), .val (.int z6), .val (.long z14), .second, .val (.int m23_s0), .val (.int m39_s0), .val (.int m55_s0), .val (.int m72_s0), .val (.ref b5), .val (.ref b19), .unset, .unset]) rfl ?_
    exact k
  rcases (mod5 hz4 hz6) with q34 | q34 | q34 | q34 | q34
  · obtain rfl := q34
    obtain ⟨z233, hz233⟩ : ∃ z : UInt64, FP.l2d z14 = z := ⟨_, rfl⟩
    obtain ⟨T35, h35, k35, X35, e35, E35, A35, st35⟩ := newP X31 hx hZ (hw _ (List.mem_of_getElem? (i := 3) rfl)) e31 (g := (mkF m 134 #[.val (.int p0), .val (.int p1), .val (.int p2), .val (.int p3), .val (.int p4), .val (.int p5), .val (.int (0 : Int32)), .val (.long z14), .second, .val (.int m23_s0), .val (.int m39_s0), .val (.int m55_s0), .val (.int m72_s0), .val (.ref b5), .val (.ref b19), .unset, .unset] [(.int (0 : Int32))])) rfl (hb hby at_134) rfl (by decide) (cap := 0) (by decide) (by decide) (by decide) (by decide)
    obtain ⟨b35, g35⟩ : ∃ z, z = h31.size := ⟨_, rfl⟩
    rw [← g35] at A35 st35
    have gn35 : n0 ≤ b35 := Nat.le_trans (Nat.le_trans (Nat.le_trans (Nat.le_trans (Nat.le_trans (Nat.le_trans (Nat.le_trans (Nat.le_trans (Nat.le_trans (Nat.le_trans (Nat.le_trans Z0 E5.1) (Keep.of_wr W8).1) (Keep.of_wr W11).1) (Keep.of_wr W14).1) (Keep.of_wr W17).1) E19.1) (Keep.of_wr W22).1) (Keep.of_wr W25).1) (Keep.of_wr W28).1) (Keep.of_wr W31).1) (Nat.le_of_eq g35.symm)
    have gz35 : h0.size ≤ b35 := Nat.le_trans (K32).1 (Nat.le_of_eq g35.symm)
    have K36 : Keep h0 h35 [] := K32.ext E35
    have V35 : Arv Z h35 b35 k35 .double (0 : Int32) [] (.double (0 : UInt64)) := (Arv.new A35 (by decide)).pad (pad_rep [] (.double (0 : UInt64)) 0)
    have bT : 0 ≤ z14.toInt ∧ z14.toInt < 2147483648 := by rw [Jvm.OwnF.i2l_v hz14]; exact Jvm.OwnF.mask31 hz13
    have dT : Jvm.OwnF.DV z14.toInt 0 z233 := hz233 ▸ Jvm.OwnF.DV_l2d (Jvm.OwnF.r53 (by omega))
    obtain ⟨_, _, ⟨T37, L37, k37, n37⟩, -, X37, ⟨Lc37, hQ37, ql37, qy37, qz37⟩, st37⟩ := Jvm.LawKit.callS X35 hx (y := (⟨"com/example/credal_choice/credalchoice/criteria/Choice", "nearLargest", "([DD)[Z"⟩ : MethodName)) hown (mvT hZ (hw _ (List.mem_of_getElem? (i := 4) rfl))) (mvT hZ (hw _ (List.mem_of_getElem? (i := 5) rfl))) (mvT hZ (hw _ (List.mem_of_getElem? (i := 6) rfl))) (mvT hZ (hw _ (List.mem_of_getElem? (i := 7) rfl))) (by decide) (backOf (W := 0) (rm1_0 l Z a0 hw [] b35 z233 k35  h35 n0 (Nat.le_trans (Nat.le_trans (Nat.le_trans (Nat.le_trans (Nat.le_trans (Nat.le_trans (Nat.le_trans (Nat.le_trans (Nat.le_trans (Nat.le_trans (Nat.le_trans Z0 E5.1) (Keep.of_wr W8).1) (Keep.of_wr W11).1) (Keep.of_wr W14).1) (Keep.of_wr W17).1) E19.1) (Keep.of_wr W22).1) (Keep.of_wr W25).1) (Keep.of_wr W28).1) (Keep.of_wr W31).1) E35.1) V35) hZ (hw _ (List.mem_of_getElem? (i := 7) rfl)) (hw _ (List.mem_of_getElem? (i := 6) rfl)) (by decide) (by decide)) (g := (mkF m 234 #[.val (.int p0), .val (.int p1), .val (.int p2), .val (.int p3), .val (.int p4), .val (.int p5), .val (.int (0 : Int32)), .val (.long z14), .second, .val (.int m23_s0), .val (.int m39_s0), .val (.int m55_s0), .val (.int m72_s0), .val (.ref b5), .val (.ref b19), .val (.ref b35), .unset] [(.double z233), (.ref b35)])) rfl (by rw [hml]; rfl) (argsL := [(.ref b35), (.double z233)]) (rest := []) (lenOf pd_2 rfl) rfl (by show 2 * 0 + _ ≤ _; exact Nat.le_of_eq rfl) (hb hby at_234) (fun _ _ => ⟨rfl, e35, (by decide : 3 + 1 ≤ _), (by decide : 8 + 0 ≤ _)⟩)
    dsimp only [Pt.U, Pt.locs, Pt.cells, Pt.slots] at X37 ql37 qy37 qz37 st37 hQ37
    subst ql37 qy37 qz37
    obtain ⟨rb37_b3, kk37_k3, rfl, N37q, gz37_b3, K37q, Q37_0⟩ := hQ37
    have N37 := Fr.app N31 N37q
    have gn37_b3 : n0 ≤ rb37_b3 := Nat.le_trans (Nat.le_trans (Nat.le_trans (Nat.le_trans (Nat.le_trans (Nat.le_trans (Nat.le_trans (Nat.le_trans (Nat.le_trans (Nat.le_trans (Nat.le_trans (Nat.le_trans Z0 E5.1) (Keep.of_wr W8).1) (Keep.of_wr W11).1) (Keep.of_wr W14).1) (Keep.of_wr W17).1) E19.1) (Keep.of_wr W22).1) (Keep.of_wr W25).1) (Keep.of_wr W28).1) (Keep.of_wr W31).1) E35.1) gz37_b3
    have gy37_b3 : h0.size ≤ rb37_b3 := Nat.le_trans (K36).1 gz37_b3
    have K38 : Keep h0 T37.heap [] := Keep.trans K36 K37q all0
    obtain ⟨cl39, Ar39, -, S39, Nn39, -, -⟩ := id Q37_0
    have c40 : ∀ t, Steps p.tables e below (T37.setTop (mkF m 385 #[.val (.int p0), .val (.int p1), .val (.int p2), .val (.int p3), .val (.int p4), .val (.int p5), .val (.int (0 : Int32)), .val (.long z14), .second, .val (.int m23_s0), .val (.int m39_s0), .val (.int m55_s0), .val (.int m72_s0), .val (.ref b5), .val (.ref b19), .val (.ref b35), .val (.ref rb37_b3)] [(.int (1 : Int32))])) t → Steps p.tables e below (s₁.setTop (entryFrame m #[(.int p0), (.int p1), (.int p2), (.int p3), (.int p4), (.int p5)] maxLocals)) t := by
      intro t k
      refine c33 t ?_
      show Steps p.tables e below (T31.setTop (mkF m 132 #[.val (.int p0), .val (.int p1), .val (.int p2), .val (.int p3), .val (.int p4), .val (.int p5), .val (.int (0 : Int32)), .val (.long z14), .second, .val (.int m23_s0), .val (.int m39_s0), .val (.int m55_s0), .val (.int m72_s0), .val (.ref b5), .val (.ref b19), .unset, .unset] [])) _
      refine XS.iload X31.here hx rfl (hb hby at_132) rfl ?_
      show Steps p.tables e below (T31.setTop (mkF m 134 #[.val (.int p0), .val (.int p1), .val (.int p2), .val (.int p3), .val (.int p4), .val (.int p5), .val (.int (0 : Int32)), .val (.long z14), .second, .val (.int m23_s0), .val (.int m39_s0), .val (.int m55_s0), .val (.int m72_s0), .val (.ref b5), .val (.ref b19), .unset, .unset] [(.int (0 : Int32))])) _
      refine st35 _ ?_
      show Steps p.tables e below (T35.setTop (mkF m 136 #[.val (.int p0), .val (.int p1), .val (.int p2), .val (.int p3), .val (.int p4), .val (.int p5), .val (.int (0 : Int32)), .val (.long z14), .second, .val (.int m23_s0), .val (.int m39_s0), .val (.int m55_s0), .val (.int m72_s0), .val (.ref b5), .val (.ref b19), .unset, .unset] [(.ref b35)])) _
      refine XS.astore X35.here hx rfl (hb hby at_136) rfl rfl (l' := #[.val (.int p0), .val (.int p1), .val (.int p2), .val (.int p3), .val (.int p4), .val (.int p5), .val (.int (0 : Int32)), .val (.long z14), .second, .val (.int m23_s0), .val (.int m39_s0), .val (.int m55_s0), .val (.int m72_s0), .val (.ref b5), .val (.ref b19), .val (.ref b35), .unset]) rfl ?_
      show Steps p.tables e below (T35.setTop (mkF m 138 #[.val (.int p0), .val (.int p1), .val (.int p2), .val (.int p3), .val (.int p4), .val (.int p5), .val (.int (0 : Int32)), .val (.long z14), .second, .val (.int m23_s0), .val (.int m39_s0), .val (.int m55_s0), .val (.int m72_s0), .val (.ref b5), .val (.ref b19), .val (.ref b35), .unset] [])) _
      refine XS.iload X35.here hx rfl (hb hby at_138) rfl ?_
      show Steps p.tables e below (T35.setTop (mkF m 140 #[.val (.int p0), .val (.int p1), .val (.int p2), .val (.int p3), .val (.int p4), .val (.int p5), .val (.int (0 : Int32)), .val (.long z14), .second, .val (.int m23_s0), .val (.int m39_s0), .val (.int m55_s0), .val (.int m72_s0), .val (.ref b5), .val (.ref b19), .val (.ref b35), .unset] [(.int (0 : Int32))])) _
      refine XS.ifYes X35.here hx rfl (pc0 := 140) (pc' := 160) rfl (hb hby at_140) rfl (Jvm.Free.XT.i0_le_t (by decide)) (by decide) (by decide) ?_
      show Steps p.tables e below (T35.setTop (mkF m 160 #[.val (.int p0), .val (.int p1), .val (.int p2), .val (.int p3), .val (.int p4), .val (.int p5), .val (.int (0 : Int32)), .val (.long z14), .second, .val (.int m23_s0), .val (.int m39_s0), .val (.int m55_s0), .val (.int m72_s0), .val (.ref b5), .val (.ref b19), .val (.ref b35), .unset] [])) _
      refine XS.iload X35.here hx rfl (hb hby at_160) rfl ?_
      show Steps p.tables e below (T35.setTop (mkF m 162 #[.val (.int p0), .val (.int p1), .val (.int p2), .val (.int p3), .val (.int p4), .val (.int p5), .val (.int (0 : Int32)), .val (.long z14), .second, .val (.int m23_s0), .val (.int m39_s0), .val (.int m55_s0), .val (.int m72_s0), .val (.ref b5), .val (.ref b19), .val (.ref b35), .unset] [(.int (0 : Int32))])) _
      refine XS.iconst X35.here hx rfl (hb hby at_162) ?_
      show Steps p.tables e below (T35.setTop (mkF m 163 #[.val (.int p0), .val (.int p1), .val (.int p2), .val (.int p3), .val (.int p4), .val (.int p5), .val (.int (0 : Int32)), .val (.long z14), .second, .val (.int m23_s0), .val (.int m39_s0), .val (.int m55_s0), .val (.int m72_s0), .val (.ref b5), .val (.ref b19), .val (.ref b35), .unset] [(.int (1 : Int32)), (.int (0 : Int32))])) _
      refine XS.icmpYes X35.here hx rfl (pc0 := 163) (pc' := 183) rfl (hb hby at_163) rfl (Jvm.Free.XT.ii_le_t (by decide)) (by decide) (by decide) ?_
      show Steps p.tables e below (T35.setTop (mkF m 183 #[.val (.int p0), .val (.int p1), .val (.int p2), .val (.int p3), .val (.int p4), .val (.int p5), .val (.int (0 : Int32)), .val (.long z14), .second, .val (.int m23_s0), .val (.int m39_s0), .val (.int m55_s0), .val (.int m72_s0), .val (.ref b5), .val (.ref b19), .val (.ref b35), .unset] [])) _
      refine XS.iload X35.here hx rfl (hb hby at_183) rfl ?_
      show Steps p.tables e below (T35.setTop (mkF m 185 #[.val (.int p0), .val (.int p1), .val (.int p2), .val (.int p3), .val (.int p4), .val (.int p5), .val (.int (0 : Int32)), .val (.long z14), .second, .val (.int m23_s0), .val (.int m39_s0), .val (.int m55_s0), .val (.int m72_s0), .val (.ref b5), .val (.ref b19), .val (.ref b35), .unset] [(.int (0 : Int32))])) _
      refine XS.iconst X35.here hx rfl (hb hby at_185) ?_
      show Steps p.tables e below (T35.setTop (mkF m 186 #[.val (.int p0), .val (.int p1), .val (.int p2), .val (.int p3), .val (.int p4), .val (.int p5), .val (.int (0 : Int32)), .val (.long z14), .second, .val (.int m23_s0), .val (.int m39_s0), .val (.int m55_s0), .val (.int m72_s0), .val (.ref b5), .val (.ref b19), .val (.ref b35), .unset] [(.int (2 : Int32)), (.int (0 : Int32))])) _
      refine XS.icmpYes X35.here hx rfl (pc0 := 186) (pc' := 206) rfl (hb hby at_186) rfl (Jvm.Free.XT.ii_le_t (by decide)) (by decide) (by decide) ?_
      show Steps p.tables e below (T35.setTop (mkF m 206 #[.val (.int p0), .val (.int p1), .val (.int p2), .val (.int p3), .val (.int p4), .val (.int p5), .val (.int (0 : Int32)), .val (.long z14), .second, .val (.int m23_s0), .val (.int m39_s0), .val (.int m55_s0), .val (.int m72_s0), .val (.ref b5), .val (.ref b19), .val (.ref b35), .unset] [])) _
      refine XS.iload X35.here hx rfl (hb hby at_206) rfl ?_
      show Steps p.tables e below (T35.setTop (mkF m 208 #[.val (.int p0), .val (.int p1), .val (.int p2), .val (.int p3), .val (.int p4), .val (.int p5), .val (.int (0 : Int32)), .val (.long z14), .second, .val (.int m23_s0), .val (.int m39_s0), .val (.int m55_s0), .val (.int m72_s0), .val (.ref b5), .val (.ref b19), .val (.ref b35), .unset] [(.int (0 : Int32))])) _
      refine XS.iconst X35.here hx rfl (hb hby at_208) ?_
      show Steps p.tables e below (T35.setTop (mkF m 209 #[.val (.int p0), .val (.int p1), .val (.int p2), .val (.int p3), .val (.int p4), .val (.int p5), .val (.int (0 : Int32)), .val (.long z14), .second, .val (.int m23_s0), .val (.int m39_s0), .val (.int m55_s0), .val (.int m72_s0), .val (.ref b5), .val (.ref b19), .val (.ref b35), .unset] [(.int (3 : Int32)), (.int (0 : Int32))])) _
      refine XS.icmpYes X35.here hx rfl (pc0 := 209) (pc' := 229) rfl (hb hby at_209) rfl (Jvm.Free.XT.ii_le_t (by decide)) (by decide) (by decide) ?_
      show Steps p.tables e below (T35.setTop (mkF m 229 #[.val (.int p0), .val (.int p1), .val (.int p2), .val (.int p3), .val (.int p4), .val (.int p5), .val (.int (0 : Int32)), .val (.long z14), .second, .val (.int m23_s0), .val (.int m39_s0), .val (.int m55_s0), .val (.int m72_s0), .val (.ref b5), .val (.ref b19), .val (.ref b35), .unset] [])) _
      refine XS.aload X35.here hx rfl (hb hby at_229) rfl rfl ?_
      show Steps p.tables e below (T35.setTop (mkF m 231 #[.val (.int p0), .val (.int p1), .val (.int p2), .val (.int p3), .val (.int p4), .val (.int p5), .val (.int (0 : Int32)), .val (.long z14), .second, .val (.int m23_s0), .val (.int m39_s0), .val (.int m55_s0), .val (.int m72_s0), .val (.ref b5), .val (.ref b19), .val (.ref b35), .unset] [(.ref b35)])) _
      refine XS.lload X35.here hx rfl (hb hby at_231) rfl ?_
      show Steps p.tables e below (T35.setTop (mkF m 233 #[.val (.int p0), .val (.int p1), .val (.int p2), .val (.int p3), .val (.int p4), .val (.int p5), .val (.int (0 : Int32)), .val (.long z14), .second, .val (.int m23_s0), .val (.int m39_s0), .val (.int m55_s0), .val (.int m72_s0), .val (.ref b5), .val (.ref b19), .val (.ref b35), .unset] [(.long z14), (.ref b35)])) _
      refine XS.l2dS X35.here hx rfl (hb hby at_233) rfl hz233 ?_
      show Steps p.tables e below (T35.setTop (mkF m 234 #[.val (.int p0), .val (.int p1), .val (.int p2), .val (.int p3), .val (.int p4), .val (.int p5), .val (.int (0 : Int32)), .val (.long z14), .second, .val (.int m23_s0), .val (.int m39_s0), .val (.int m55_s0), .val (.int m72_s0), .val (.ref b5), .val (.ref b19), .val (.ref b35), .unset] [(.double z233), (.ref b35)])) _
      refine st37 _ ?_
      show Steps p.tables e below (T37.setTop (mkF m 237 #[.val (.int p0), .val (.int p1), .val (.int p2), .val (.int p3), .val (.int p4), .val (.int p5), .val (.int (0 : Int32)), .val (.long z14), .second, .val (.int m23_s0), .val (.int m39_s0), .val (.int m55_s0), .val (.int m72_s0), .val (.ref b5), .val (.ref b19), .val (.ref b35), .unset] [(.ref rb37_b3)])) _
      refine XS.astore X37.here hx rfl (hb hby at_237) rfl rfl (l' := #[.val (.int p0), .val (.int p1), .val (.int p2), .val (.int p3), .val (.int p4), .val (.int p5), .val (.int (0 : Int32)), .val (.long z14), .second, .val (.int m23_s0), .val (.int m39_s0), .val (.int m55_s0), .val (.int m72_s0), .val (.ref b5), .val (.ref b19), .val (.ref b35), .val (.ref rb37_b3)]) rfl ?_
      show Steps p.tables e below (T37.setTop (mkF m 239 #[.val (.int p0), .val (.int p1), .val (.int p2), .val (.int p3), .val (.int p4), .val (.int p5), .val (.int (0 : Int32)), .val (.long z14), .second, .val (.int m23_s0), .val (.int m39_s0), .val (.int m55_s0), .val (.int m72_s0), .val (.ref b5), .val (.ref b19), .val (.ref b35), .val (.ref rb37_b3)] [])) _
      refine XS.aload X37.here hx rfl (hb hby at_239) rfl rfl ?_
      show Steps p.tables e below (T37.setTop (mkF m 241 #[.val (.int p0), .val (.int p1), .val (.int p2), .val (.int p3), .val (.int p4), .val (.int p5), .val (.int (0 : Int32)), .val (.long z14), .second, .val (.int m23_s0), .val (.int m39_s0), .val (.int m55_s0), .val (.int m72_s0), .val (.ref b5), .val (.ref b19), .val (.ref b35), .val (.ref rb37_b3)] [(.ref rb37_b3)])) _
      refine X37.arraylength hx Ar39.1 (State.isArrayOf_alike hZ.alike Ar39.2.1) (g := (mkF m 241 #[.val (.int p0), .val (.int p1), .val (.int p2), .val (.int p3), .val (.int p4), .val (.int p5), .val (.int (0 : Int32)), .val (.long z14), .second, .val (.int m23_s0), .val (.int m39_s0), .val (.int m55_s0), .val (.int m72_s0), .val (.ref b5), .val (.ref b19), .val (.ref b35), .val (.ref rb37_b3)] [(.ref rb37_b3)])) rfl rfl (hb hby at_241) _ ?_
      rw [len_of S39 Nn39]
      show Steps p.tables e below (T37.setTop (mkF m 242 #[.val (.int p0), .val (.int p1), .val (.int p2), .val (.int p3), .val (.int p4), .val (.int p5), .val (.int (0 : Int32)), .val (.long z14), .second, .val (.int m23_s0), .val (.int m39_s0), .val (.int m55_s0), .val (.int m72_s0), .val (.ref b5), .val (.ref b19), .val (.ref b35), .val (.ref rb37_b3)] [(.int (0 : Int32))])) _
      refine XS.iload X37.here hx rfl (hb hby at_242) rfl ?_
      show Steps p.tables e below (T37.setTop (mkF m 244 #[.val (.int p0), .val (.int p1), .val (.int p2), .val (.int p3), .val (.int p4), .val (.int p5), .val (.int (0 : Int32)), .val (.long z14), .second, .val (.int m23_s0), .val (.int m39_s0), .val (.int m55_s0), .val (.int m72_s0), .val (.ref b5), .val (.ref b19), .val (.ref b35), .val (.ref rb37_b3)] [(.int (0 : Int32)), (.int (0 : Int32))])) _
      refine XS.icmpYes X37.here hx rfl (pc0 := 244) (pc' := 249) rfl (hb hby at_244) rfl (Jvm.Free.XT.ii_eq_t (by decide)) (by decide) (by decide) ?_
      show Steps p.tables e below (T37.setTop (mkF m 249 #[.val (.int p0), .val (.int p1), .val (.int p2), .val (.int p3), .val (.int p4), .val (.int p5), .val (.int (0 : Int32)), .val (.long z14), .second, .val (.int m23_s0), .val (.int m39_s0), .val (.int m55_s0), .val (.int m72_s0), .val (.ref b5), .val (.ref b19), .val (.ref b35), .val (.ref rb37_b3)] [])) _
      refine XS.iload X37.here hx rfl (hb hby at_249) rfl ?_
      show Steps p.tables e below (T37.setTop (mkF m 251 #[.val (.int p0), .val (.int p1), .val (.int p2), .val (.int p3), .val (.int p4), .val (.int p5), .val (.int (0 : Int32)), .val (.long z14), .second, .val (.int m23_s0), .val (.int m39_s0), .val (.int m55_s0), .val (.int m72_s0), .val (.ref b5), .val (.ref b19), .val (.ref b35), .val (.ref rb37_b3)] [(.int (0 : Int32))])) _
      refine XS.ifYes X37.here hx rfl (pc0 := 251) (pc' := 282) rfl (hb hby at_251) rfl (Jvm.Free.XT.i0_le_t (by decide)) (by decide) (by decide) ?_
      show Steps p.tables e below (T37.setTop (mkF m 282 #[.val (.int p0), .val (.int p1), .val (.int p2), .val (.int p3), .val (.int p4), .val (.int p5), .val (.int (0 : Int32)), .val (.long z14), .second, .val (.int m23_s0), .val (.int m39_s0), .val (.int m55_s0), .val (.int m72_s0), .val (.ref b5), .val (.ref b19), .val (.ref b35), .val (.ref rb37_b3)] [])) _
      refine XS.iload X37.here hx rfl (hb hby at_282) rfl ?_
      show Steps p.tables e below (T37.setTop (mkF m 284 #[.val (.int p0), .val (.int p1), .val (.int p2), .val (.int p3), .val (.int p4), .val (.int p5), .val (.int (0 : Int32)), .val (.long z14), .second, .val (.int m23_s0), .val (.int m39_s0), .val (.int m55_s0), .val (.int m72_s0), .val (.ref b5), .val (.ref b19), .val (.ref b35), .val (.ref rb37_b3)] [(.int (0 : Int32))])) _
      refine XS.iconst X37.here hx rfl (hb hby at_284) ?_
      show Steps p.tables e below (T37.setTop (mkF m 285 #[.val (.int p0), .val (.int p1), .val (.int p2), .val (.int p3), .val (.int p4), .val (.int p5), .val (.int (0 : Int32)), .val (.long z14), .second, .val (.int m23_s0), .val (.int m39_s0), .val (.int m55_s0), .val (.int m72_s0), .val (.ref b5), .val (.ref b19), .val (.ref b35), .val (.ref rb37_b3)] [(.int (1 : Int32)), (.int (0 : Int32))])) _
      refine XS.icmpYes X37.here hx rfl (pc0 := 285) (pc' := 316) rfl (hb hby at_285) rfl (Jvm.Free.XT.ii_le_t (by decide)) (by decide) (by decide) ?_
      show Steps p.tables e below (T37.setTop (mkF m 316 #[.val (.int p0), .val (.int p1), .val (.int p2), .val (.int p3), .val (.int p4), .val (.int p5), .val (.int (0 : Int32)), .val (.long z14), .second, .val (.int m23_s0), .val (.int m39_s0), .val (.int m55_s0), .val (.int m72_s0), .val (.ref b5), .val (.ref b19), .val (.ref b35), .val (.ref rb37_b3)] [])) _
      refine XS.iload X37.here hx rfl (hb hby at_316) rfl ?_
      show Steps p.tables e below (T37.setTop (mkF m 318 #[.val (.int p0), .val (.int p1), .val (.int p2), .val (.int p3), .val (.int p4), .val (.int p5), .val (.int (0 : Int32)), .val (.long z14), .second, .val (.int m23_s0), .val (.int m39_s0), .val (.int m55_s0), .val (.int m72_s0), .val (.ref b5), .val (.ref b19), .val (.ref b35), .val (.ref rb37_b3)] [(.int (0 : Int32))])) _
      refine XS.iconst X37.here hx rfl (hb hby at_318) ?_
      show Steps p.tables e below (T37.setTop (mkF m 319 #[.val (.int p0), .val (.int p1), .val (.int p2), .val (.int p3), .val (.int p4), .val (.int p5), .val (.int (0 : Int32)), .val (.long z14), .second, .val (.int m23_s0), .val (.int m39_s0), .val (.int m55_s0), .val (.int m72_s0), .val (.ref b5), .val (.ref b19), .val (.ref b35), .val (.ref rb37_b3)] [(.int (2 : Int32)), (.int (0 : Int32))])) _
      refine XS.icmpYes X37.here hx rfl (pc0 := 319) (pc' := 350) rfl (hb hby at_319) rfl (Jvm.Free.XT.ii_le_t (by decide)) (by decide) (by decide) ?_
      show Steps p.tables e below (T37.setTop (mkF m 350 #[.val (.int p0), .val (.int p1), .val (.int p2), .val (.int p3), .val (.int p4), .val (.int p5), .val (.int (0 : Int32)), .val (.long z14), .second, .val (.int m23_s0), .val (.int m39_s0), .val (.int m55_s0), .val (.int m72_s0), .val (.ref b5), .val (.ref b19), .val (.ref b35), .val (.ref rb37_b3)] [])) _
      refine XS.iload X37.here hx rfl (hb hby at_350) rfl ?_
      show Steps p.tables e below (T37.setTop (mkF m 352 #[.val (.int p0), .val (.int p1), .val (.int p2), .val (.int p3), .val (.int p4), .val (.int p5), .val (.int (0 : Int32)), .val (.long z14), .second, .val (.int m23_s0), .val (.int m39_s0), .val (.int m55_s0), .val (.int m72_s0), .val (.ref b5), .val (.ref b19), .val (.ref b35), .val (.ref rb37_b3)] [(.int (0 : Int32))])) _
      refine XS.iconst X37.here hx rfl (hb hby at_352) ?_
      show Steps p.tables e below (T37.setTop (mkF m 353 #[.val (.int p0), .val (.int p1), .val (.int p2), .val (.int p3), .val (.int p4), .val (.int p5), .val (.int (0 : Int32)), .val (.long z14), .second, .val (.int m23_s0), .val (.int m39_s0), .val (.int m55_s0), .val (.int m72_s0), .val (.ref b5), .val (.ref b19), .val (.ref b35), .val (.ref rb37_b3)] [(.int (3 : Int32)), (.int (0 : Int32))])) _
      refine XS.icmpYes X37.here hx rfl (pc0 := 353) (pc' := 384) rfl (hb hby at_353) rfl (Jvm.Free.XT.ii_le_t (by decide)) (by decide) (by decide) ?_
      show Steps p.tables e below (T37.setTop (mkF m 384 #[.val (.int p0), .val (.int p1), .val (.int p2), .val (.int p3), .val (.int p4), .val (.int p5), .val (.int (0 : Int32)), .val (.long z14), .second, .val (.int m23_s0), .val (.int m39_s0), .val (.int m55_s0), .val (.int m72_s0), .val (.ref b5), .val (.ref b19), .val (.ref b35), .val (.ref rb37_b3)] [])) _
      refine XS.iconst X37.here hx rfl (hb hby at_384) ?_
      exact k
    obtain ⟨fs, hr, hrun, hended, hW, hsame⟩ := X37.leave (v := some (.int (1 : Int32))) (fun h => by rw [Bd.returns] at h; cases h)
    refine ⟨_, _, c40 _ ?_, hrun, hended, _, _, rfl, ?_, ⟨_, rfl⟩, hW, hsame.mono (by decide) (by decide)⟩
    · show Steps p.tables e below (T37.setTop (mkF m 385 #[.val (.int p0), .val (.int p1), .val (.int p2), .val (.int p3), .val (.int p4), .val (.int p5), .val (.int (0 : Int32)), .val (.long z14), .second, .val (.int m23_s0), .val (.int m39_s0), .val (.int m55_s0), .val (.int m72_s0), .val (.ref b5), .val (.ref b19), .val (.ref b35), .val (.ref rb37_b3)] [(.int (1 : Int32))])) _
      exact retOut X37 hx Bd.returns rfl (Or.inl ⟨rfl, by simp, _, rfl⟩) (hb hby at_385) hr
    · show Q0 n0 _ T37.heap _
      exact ⟨rfl, by first | assumption | exact N0⟩
  · obtain rfl := q34
    obtain ⟨z158, hz158⟩ : ∃ z : UInt64, FP.i2d p0 = z := ⟨_, rfl⟩
    obtain ⟨m148_s0, hm148_s0⟩ : ∃ z : UInt64, (if m23_s0 = (0 : Int32) then z158 else (18442240474082181120 : UInt64)) = z := ⟨_, rfl⟩
    obtain ⟨z233, hz233⟩ : ∃ z : UInt64, FP.l2d z14 = z := ⟨_, rfl⟩
    obtain ⟨c234_z32, hc234_z32⟩ : ∃ z : UInt64, Jvm.Native.java_lang_Math.nans.pick64 true (18442240474082181120 : UInt64) m148_s0 = z := ⟨_, rfl⟩
    obtain ⟨c234_z68, hc234_z68⟩ : ∃ z : UInt64, FP.dsub c234_z32 z233 = z := ⟨_, rfl⟩
    obtain ⟨c234_z69, hc234_z69⟩ : ∃ z : Int32, cmpValue (FP.dcmp m148_s0 c234_z68) .l = z := ⟨_, rfl⟩
    obtain ⟨c234_m70_s0, hc234_m70_s0⟩ : ∃ z : Int32, (if c234_z69 < (0 : Int32) then (0 : Int32) else (1 : Int32)) = z := ⟨_, rfl⟩
    obtain ⟨c274_c16_z12, hc274_c16_z12⟩ : ∃ z : Int64, z88 + z14 = z := ⟨_, rfl⟩
    obtain ⟨c274_c16_z14, hc274_c16_z14⟩ : ∃ z : Int32, lcmpW c274_c16_z12 z88 = z := ⟨_, rfl⟩
    obtain ⟨c274_c16_rv, hc274_c16_rv⟩ : ∃ z : Int32, (if m23_s0 = (0 : Int32) then (if m23_s0 = (0 : Int32) then (if c274_c16_z14 < (0 : Int32) then (0 : Int32) else (1 : Int32)) else (0 : Int32)) else (1 : Int32)) = z := ⟨_, rfl⟩
    obtain ⟨c274_rv, hc274_rv⟩ : ∃ z : Int32, (if c274_c16_rv = (0 : Int32) then (0 : Int32) else (1 : Int32)) = z := ⟨_, rfl⟩
    obtain ⟨T41, h41, k41, X41, e41, E41, A41, st41⟩ := newP X31 hx hZ (hw _ (List.mem_of_getElem? (i := 3) rfl)) e31 (g := (mkF m 134 #[.val (.int p0), .val (.int p1), .val (.int p2), .val (.int p3), .val (.int p4), .val (.int p5), .val (.int (1 : Int32)), .val (.long z14), .second, .val (.int m23_s0), .val (.int m39_s0), .val (.int m55_s0), .val (.int m72_s0), .val (.ref b5), .val (.ref b19), .unset, .unset] [(.int (1 : Int32))])) rfl (hb hby at_134) rfl (by decide) (cap := 1) (by decide) (by decide) (by decide) (by decide)
    obtain ⟨b41, g41⟩ : ∃ z, z = h31.size := ⟨_, rfl⟩
    rw [← g41] at A41 st41
    have gn41 : n0 ≤ b41 := Nat.le_trans (Nat.le_trans (Nat.le_trans (Nat.le_trans (Nat.le_trans (Nat.le_trans (Nat.le_trans (Nat.le_trans (Nat.le_trans (Nat.le_trans (Nat.le_trans Z0 E5.1) (Keep.of_wr W8).1) (Keep.of_wr W11).1) (Keep.of_wr W14).1) (Keep.of_wr W17).1) E19.1) (Keep.of_wr W22).1) (Keep.of_wr W25).1) (Keep.of_wr W28).1) (Keep.of_wr W31).1) (Nat.le_of_eq g41.symm)
    have gz41 : h0.size ≤ b41 := Nat.le_trans (K32).1 (Nat.le_of_eq g41.symm)
    have K42 : Keep h0 h41 [] := K32.ext E41
    have V41 : Arv Z h41 b41 k41 .double (1 : Int32) [(.double (0 : UInt64))] (.double (0 : UInt64)) := (Arv.new A41 (by decide)).pad (pad_rep [] (.double (0 : UInt64)) 1)
    have c43 : ∀ t, Steps p.tables e below (T41.setTop (mkF m 159 #[.val (.int p0), .val (.int p1), .val (.int p2), .val (.int p3), .val (.int p4), .val (.int p5), .val (.int (1 : Int32)), .val (.long z14), .second, .val (.int m23_s0), .val (.int m39_s0), .val (.int m55_s0), .val (.int m72_s0), .val (.ref b5), .val (.ref b19), .val (.ref b41), .unset] [(.double m148_s0), (.int (0 : Int32)), (.ref b41)])) t → Steps p.tables e below (s₁.setTop (entryFrame m #[(.int p0), (.int p1), (.int p2), (.int p3), (.int p4), (.int p5)] maxLocals)) t := by
      intro t k
      refine c33 t ?_
      show Steps p.tables e below (T31.setTop (mkF m 132 #[.val (.int p0), .val (.int p1), .val (.int p2), .val (.int p3), .val (.int p4), .val (.int p5), .val (.int (1 : Int32)), .val (.long z14), .second, .val (.int m23_s0), .val (.int m39_s0), .val (.int m55_s0), .val (.int m72_s0), .val (.ref b5), .val (.ref b19), .unset, .unset] [])) _
      refine XS.iload X31.here hx rfl (hb hby at_132) rfl ?_
      show Steps p.tables e below (T31.setTop (mkF m 134 #[.val (.int p0), .val (.int p1), .val (.int p2), .val (.int p3), .val (.int p4), .val (.int p5), .val (.int (1 : Int32)), .val (.long z14), .second, .val (.int m23_s0), .val (.int m39_s0), .val (.int m55_s0), .val (.int m72_s0), .val (.ref b5), .val (.ref b19), .unset, .unset] [(.int (1 : Int32))])) _
      refine st41 _ ?_
      show Steps p.tables e below (T41.setTop (mkF m 136 #[.val (.int p0), .val (.int p1), .val (.int p2), .val (.int p3), .val (.int p4), .val (.int p5), .val (.int (1 : Int32)), .val (.long z14), .second, .val (.int m23_s0), .val (.int m39_s0), .val (.int m55_s0), .val (.int m72_s0), .val (.ref b5), .val (.ref b19), .unset, .unset] [(.ref b41)])) _
      refine XS.astore X41.here hx rfl (hb hby at_136) rfl rfl (l' := #[.val (.int p0), .val (.int p1), .val (.int p2), .val (.int p3), .val (.int p4), .val (.int p5), .val (.int (1 : Int32)), .val (.long z14), .second, .val (.int m23_s0), .val (.int m39_s0), .val (.int m55_s0), .val (.int m72_s0), .val (.ref b5), .val (.ref b19), .val (.ref b41), .unset]) rfl ?_
      show Steps p.tables e below (T41.setTop (mkF m 138 #[.val (.int p0), .val (.int p1), .val (.int p2), .val (.int p3), .val (.int p4), .val (.int p5), .val (.int (1 : Int32)), .val (.long z14), .second, .val (.int m23_s0), .val (.int m39_s0), .val (.int m55_s0), .val (.int m72_s0), .val (.ref b5), .val (.ref b19), .val (.ref b41), .unset] [])) _
      refine XS.iload X41.here hx rfl (hb hby at_138) rfl ?_
      show Steps p.tables e below (T41.setTop (mkF m 140 #[.val (.int p0), .val (.int p1), .val (.int p2), .val (.int p3), .val (.int p4), .val (.int p5), .val (.int (1 : Int32)), .val (.long z14), .second, .val (.int m23_s0), .val (.int m39_s0), .val (.int m55_s0), .val (.int m72_s0), .val (.ref b5), .val (.ref b19), .val (.ref b41), .unset] [(.int (1 : Int32))])) _
      refine XS.ifNo X41.here hx rfl (hb hby at_140) rfl (Jvm.Free.XT.i0_le_f (by decide)) ?_
      show Steps p.tables e below (T41.setTop (mkF m 143 #[.val (.int p0), .val (.int p1), .val (.int p2), .val (.int p3), .val (.int p4), .val (.int p5), .val (.int (1 : Int32)), .val (.long z14), .second, .val (.int m23_s0), .val (.int m39_s0), .val (.int m55_s0), .val (.int m72_s0), .val (.ref b5), .val (.ref b19), .val (.ref b41), .unset] [])) _
      refine XS.aload X41.here hx rfl (hb hby at_143) rfl rfl ?_
      show Steps p.tables e below (T41.setTop (mkF m 145 #[.val (.int p0), .val (.int p1), .val (.int p2), .val (.int p3), .val (.int p4), .val (.int p5), .val (.int (1 : Int32)), .val (.long z14), .second, .val (.int m23_s0), .val (.int m39_s0), .val (.int m55_s0), .val (.int m72_s0), .val (.ref b5), .val (.ref b19), .val (.ref b41), .unset] [(.ref b41)])) _
      refine XS.iconst X41.here hx rfl (hb hby at_145) ?_
      show Steps p.tables e below (T41.setTop (mkF m 146 #[.val (.int p0), .val (.int p1), .val (.int p2), .val (.int p3), .val (.int p4), .val (.int p5), .val (.int (1 : Int32)), .val (.long z14), .second, .val (.int m23_s0), .val (.int m39_s0), .val (.int m55_s0), .val (.int m72_s0), .val (.ref b5), .val (.ref b19), .val (.ref b41), .unset] [(.int (0 : Int32)), (.ref b41)])) _
      refine XS.iload X41.here hx rfl (hb hby at_146) rfl ?_
      by_cases hm148_0 : m23_s0 = (0 : Int32)
      · skip
        show Steps p.tables e below (T41.setTop (mkF m 148 #[.val (.int p0), .val (.int p1), .val (.int p2), .val (.int p3), .val (.int p4), .val (.int p5), .val (.int (1 : Int32)), .val (.long z14), .second, .val (.int m23_s0), .val (.int m39_s0), .val (.int m55_s0), .val (.int m72_s0), .val (.ref b5), .val (.ref b19), .val (.ref b41), .unset] [(.int m23_s0), (.int (0 : Int32)), (.ref b41)])) _
        refine XS.ifYes X41.here hx rfl (pc0 := 148) (pc' := 157) rfl (hb hby at_148) rfl (Jvm.Free.XT.i0_eq_t hm148_0) (by decide) (by decide) ?_
        show Steps p.tables e below (T41.setTop (mkF m 157 #[.val (.int p0), .val (.int p1), .val (.int p2), .val (.int p3), .val (.int p4), .val (.int p5), .val (.int (1 : Int32)), .val (.long z14), .second, .val (.int m23_s0), .val (.int m39_s0), .val (.int m55_s0), .val (.int m72_s0), .val (.ref b5), .val (.ref b19), .val (.ref b41), .unset] [(.int (0 : Int32)), (.ref b41)])) _
        refine XS.iloadN X41.here hx rfl (hb hby at_157) rfl ?_
        show Steps p.tables e below (T41.setTop (mkF m 158 #[.val (.int p0), .val (.int p1), .val (.int p2), .val (.int p3), .val (.int p4), .val (.int p5), .val (.int (1 : Int32)), .val (.long z14), .second, .val (.int m23_s0), .val (.int m39_s0), .val (.int m55_s0), .val (.int m72_s0), .val (.ref b5), .val (.ref b19), .val (.ref b41), .unset] [(.int p0), (.int (0 : Int32)), (.ref b41)])) _
        refine XS.i2dS X41.here hx rfl (hb hby at_158) rfl hz158 ?_
        obtain rfl : z158 = m148_s0 := by rw [← hm148_s0]; simp only [if_pos hm148_0]
        exact k
      · skip
        show Steps p.tables e below (T41.setTop (mkF m 148 #[.val (.int p0), .val (.int p1), .val (.int p2), .val (.int p3), .val (.int p4), .val (.int p5), .val (.int (1 : Int32)), .val (.long z14), .second, .val (.int m23_s0), .val (.int m39_s0), .val (.int m55_s0), .val (.int m72_s0), .val (.ref b5), .val (.ref b19), .val (.ref b41), .unset] [(.int m23_s0), (.int (0 : Int32)), (.ref b41)])) _
        refine XS.ifNo X41.here hx rfl (hb hby at_148) rfl (Jvm.Free.XT.i0_eq_f hm148_0) ?_
        show Steps p.tables e below (T41.setTop (mkF m 151 #[.val (.int p0), .val (.int p1), .val (.int p2), .val (.int p3), .val (.int p4), .val (.int p5), .val (.int (1 : Int32)), .val (.long z14), .second, .val (.int m23_s0), .val (.int m39_s0), .val (.int m55_s0), .val (.int m72_s0), .val (.ref b5), .val (.ref b19), .val (.ref b41), .unset] [(.int (0 : Int32)), (.ref b41)])) _
        refine X41.ldc2DoubleC hx hown (mvT hZ (hw _ (List.mem_of_getElem? (i := 20) rfl))) (g := (mkF m 151 #[.val (.int p0), .val (.int p1), .val (.int p2), .val (.int p3), .val (.int p4), .val (.int p5), .val (.int (1 : Int32)), .val (.long z14), .second, .val (.int m23_s0), .val (.int m39_s0), .val (.int m55_s0), .val (.int m72_s0), .val (.ref b5), .val (.ref b19), .val (.ref b41), .unset] [(.int (0 : Int32)), (.ref b41)])) rfl (hb hby at_151) _ ?_
        show Steps p.tables e below (T41.setTop (mkF m 154 #[.val (.int p0), .val (.int p1), .val (.int p2), .val (.int p3), .val (.int p4), .val (.int p5), .val (.int (1 : Int32)), .val (.long z14), .second, .val (.int m23_s0), .val (.int m39_s0), .val (.int m55_s0), .val (.int m72_s0), .val (.ref b5), .val (.ref b19), .val (.ref b41), .unset] [(.double (18442240474082181120 : UInt64)), (.int (0 : Int32)), (.ref b41)])) _
        refine XS.goto X41.here hx rfl (pc0 := 154) (pc' := 159) rfl (hb hby at_154) (by decide) (by decide) ?_
        obtain rfl : (18442240474082181120 : UInt64) = m148_s0 := by rw [← hm148_s0]; simp only [if_neg hm148_0]
        exact k
    obtain ⟨cl44, Ar44, q44, S44, Nn44, Ha44, G44⟩ := id V41
    have in44 : ¬ ((0 : Int32) < 0 ∨ cl44.slots.size ≤ ((0 : Int32)).toNatClampNeg) := inb_of S44 ⟨by decide, by decide⟩
    obtain ⟨T45, h45, X45, e45, W45, st45⟩ := stD X41 hx hZ e41 Ar44 (j := (0 : Int32)) in44 (g := (mkF m 159 #[.val (.int p0), .val (.int p1), .val (.int p2), .val (.int p3), .val (.int p4), .val (.int p5), .val (.int (1 : Int32)), .val (.long z14), .second, .val (.int m23_s0), .val (.int m39_s0), .val (.int m55_s0), .val (.int m72_s0), .val (.ref b5), .val (.ref b19), .val (.ref b41), .unset] [(.double m148_s0), (.int (0 : Int32)), (.ref b41)])) rfl rfl (hb hby at_159)
    have N45 := Fr.snoc X45 N31 gn41
    have K46 : Keep h0 h45 [] := K42.wr W45 (Or.inr gz41)
    have V45 : Arv Z h45 b41 k41 .double (1 : Int32) [(.double m148_s0)] (.double (0 : UInt64)) := Arv.set Ar44 q44 S44 Nn44 Ha44 G44 rfl W45 0 rfl (show (0 : Nat) < 1 by decide)
    have bT : 0 ≤ z14.toInt ∧ z14.toInt < 2147483648 := by rw [Jvm.OwnF.i2l_v hz14]; exact Jvm.OwnF.mask31 hz13
    have dT : Jvm.OwnF.DV z14.toInt 0 z233 := hz233 ▸ Jvm.OwnF.DV_l2d (Jvm.OwnF.r53 (by omega))
    have e0_ := EVe hz158 hm148_s0
    have c234_nm0_32 := (ev0).nn
    have c234_nm1_32 := e0_.nn
    have x0_ := EV_max (ev0) e0_ hc234_z32
    have s0_ := EV_sub (x0_) (mx_le bd0 (bde m23_s0 p0)) dT bT hc234_z68
    have c234_nn68 := s0_.nn
    obtain ⟨c234_nb78, c234_fi78⟩ := nar2 hc234_m70_s0
    obtain ⟨_, _, ⟨T47, L47, k47, n47⟩, -, X47, ⟨Lc47, hQ47, ql47, qy47, qz47⟩, st47⟩ := Jvm.LawKit.callS X45 hx (y := (⟨"com/example/credal_choice/credalchoice/criteria/Choice", "nearLargest", "([DD)[Z"⟩ : MethodName)) hown (mvT hZ (hw _ (List.mem_of_getElem? (i := 4) rfl))) (mvT hZ (hw _ (List.mem_of_getElem? (i := 5) rfl))) (mvT hZ (hw _ (List.mem_of_getElem? (i := 6) rfl))) (mvT hZ (hw _ (List.mem_of_getElem? (i := 7) rfl))) (by decide) (backOf (W := 0) (rm1_1 l Z a0 hw [] b41 z233 k41 m148_s0 c234_z32 c234_z68 c234_z69 c234_m70_s0 h45 n0 (Nat.le_trans (Nat.le_trans (Nat.le_trans (Nat.le_trans (Nat.le_trans (Nat.le_trans (Nat.le_trans (Nat.le_trans (Nat.le_trans (Nat.le_trans (Nat.le_trans (Nat.le_trans Z0 E5.1) (Keep.of_wr W8).1) (Keep.of_wr W11).1) (Keep.of_wr W14).1) (Keep.of_wr W17).1) E19.1) (Keep.of_wr W22).1) (Keep.of_wr W25).1) (Keep.of_wr W28).1) (Keep.of_wr W31).1) E41.1) (Keep.of_wr W45).1) V45 hc234_z32 hc234_z68 hc234_z69 hc234_m70_s0 c234_nm0_32 c234_nm1_32 c234_nn68 c234_nb78 c234_fi78) hZ (hw _ (List.mem_of_getElem? (i := 7) rfl)) (hw _ (List.mem_of_getElem? (i := 6) rfl)) (by decide) (by decide)) (g := (mkF m 234 #[.val (.int p0), .val (.int p1), .val (.int p2), .val (.int p3), .val (.int p4), .val (.int p5), .val (.int (1 : Int32)), .val (.long z14), .second, .val (.int m23_s0), .val (.int m39_s0), .val (.int m55_s0), .val (.int m72_s0), .val (.ref b5), .val (.ref b19), .val (.ref b41), .unset] [(.double z233), (.ref b41)])) rfl (by rw [hml]; rfl) (argsL := [(.ref b41), (.double z233)]) (rest := []) (lenOf pd_2 rfl) rfl (by show 2 * 0 + _ ≤ _; exact Nat.le_of_eq rfl) (hb hby at_234) (fun _ _ => ⟨rfl, e45, (by decide : 3 + 1 ≤ _), (by decide : 9 + 1 ≤ _)⟩)
    dsimp only [Pt.U, Pt.locs, Pt.cells, Pt.slots] at X47 ql47 qy47 qz47 st47 hQ47
    subst ql47 qy47 qz47
    obtain ⟨rb47_b5, kk47_k5, rfl, N47q, gz47_b5, K47q, Q47_0⟩ := hQ47
    have N47 := Fr.app N45 N47q
    have gn47_b5 : n0 ≤ rb47_b5 := Nat.le_trans (Nat.le_trans (Nat.le_trans (Nat.le_trans (Nat.le_trans (Nat.le_trans (Nat.le_trans (Nat.le_trans (Nat.le_trans (Nat.le_trans (Nat.le_trans (Nat.le_trans (Nat.le_trans Z0 E5.1) (Keep.of_wr W8).1) (Keep.of_wr W11).1) (Keep.of_wr W14).1) (Keep.of_wr W17).1) E19.1) (Keep.of_wr W22).1) (Keep.of_wr W25).1) (Keep.of_wr W28).1) (Keep.of_wr W31).1) E41.1) (Keep.of_wr W45).1) gz47_b5
    have gy47_b5 : h0.size ≤ rb47_b5 := Nat.le_trans (K46).1 gz47_b5
    have K48 : Keep h0 T47.heap [] := Keep.trans K46 K47q all0
    obtain ⟨cl49, Ar49, -, S49, Nn49, -, -⟩ := id Q47_0
    obtain ⟨cl50, Ar50, -, S50, -, Ha50, -⟩ := id Q47_0
    have in50 : ¬ ((0 : Int32) < 0 ∨ cl50.slots.size ≤ ((0 : Int32)).toNatClampNeg) := inb_of S50 ⟨by decide, by decide⟩
    have f51 := ((((((((V17.ext E19).other W22 (Nat.ne_of_lt (Nat.lt_of_lt_of_le (V17).lt (Nat.le_of_eq g19.symm)))).other W25 (Nat.ne_of_lt (Nat.lt_of_lt_of_le (V17).lt (Nat.le_of_eq g19.symm)))).other W28 (Nat.ne_of_lt (Nat.lt_of_lt_of_le (V17).lt (Nat.le_of_eq g19.symm)))).other W31 (Nat.ne_of_lt (Nat.lt_of_lt_of_le (V17).lt (Nat.le_of_eq g19.symm)))).ext E41).other W45 (Nat.ne_of_lt (Nat.lt_of_lt_of_le ((((((V17.ext E19).other W22 (Nat.ne_of_lt (Nat.lt_of_lt_of_le (V17).lt (Nat.le_of_eq g19.symm)))).other W25 (Nat.ne_of_lt (Nat.lt_of_lt_of_le (V17).lt (Nat.le_of_eq g19.symm)))).other W28 (Nat.ne_of_lt (Nat.lt_of_lt_of_le (V17).lt (Nat.le_of_eq g19.symm)))).other W31 (Nat.ne_of_lt (Nat.lt_of_lt_of_le (V17).lt (Nat.le_of_eq g19.symm))))).lt (Nat.le_of_eq g41.symm)))).keep K47q nin0)
    obtain ⟨cl52, Ar52, -, S52, -, Ha52, -⟩ := id f51
    have in52 : ¬ ((0 : Int32) < 0 ∨ cl52.slots.size ≤ ((0 : Int32)).toNatClampNeg) := inb_of S52 ⟨by decide, by decide⟩
    have f53 := (((V31.ext E41).other W45 (Nat.ne_of_lt (Nat.lt_of_lt_of_le (V31).lt (Nat.le_of_eq g41.symm)))).keep K47q nin0)
    obtain ⟨cl54, Ar54, -, S54, -, Ha54, -⟩ := id f53
    have in54 : ¬ ((0 : Int32) < 0 ∨ cl54.slots.size ≤ ((0 : Int32)).toNatClampNeg) := inb_of S54 ⟨by decide, by decide⟩
    obtain ⟨_, _, ⟨T55, L55, k55, n55⟩, -, X55, ⟨Lc55, hQ55, ql55, qy55, qz55⟩, st55⟩ := Jvm.LawKit.callS X47 hx (y := (⟨"com/example/credal_choice/credalchoice/criteria/ChoiceNearLargestPinLaw", "near", "(JZ[J[ZIJ)Z"⟩ : MethodName)) hown (mvT hZ (hw _ (List.mem_of_getElem? (i := 13) rfl))) (mvT hZ (hw _ (List.mem_of_getElem? (i := 14) rfl))) (mvT hZ (hw _ (List.mem_of_getElem? (i := 15) rfl))) (mvT hZ (hw _ (List.mem_of_getElem? (i := 16) rfl))) (by decide) (backOf (W := 1) (rm3_1 l Z a0 hw [] z88 m23_s0 b5 b19 z14 k5 z88 z93 z98 z103 k19 m23_s0 m39_s0 m55_s0 m72_s0 c274_c16_z12 c274_c16_z14 c274_c16_rv c274_rv T47.heap n0 (Nat.le_trans (Nat.le_trans (Nat.le_trans (Nat.le_trans (Nat.le_trans (Nat.le_trans (Nat.le_trans (Nat.le_trans (Nat.le_trans (Nat.le_trans (Nat.le_trans (Nat.le_trans (Nat.le_trans Z0 E5.1) (Keep.of_wr W8).1) (Keep.of_wr W11).1) (Keep.of_wr W14).1) (Keep.of_wr W17).1) E19.1) (Keep.of_wr W22).1) (Keep.of_wr W25).1) (Keep.of_wr W28).1) (Keep.of_wr W31).1) E41.1) (Keep.of_wr W45).1) K47q.1) f51 f53 hc274_c16_z12 hc274_c16_z14 hc274_c16_rv hc274_rv) hZ (hw _ (List.mem_of_getElem? (i := 16) rfl)) (hw _ (List.mem_of_getElem? (i := 15) rfl)) (by decide) (by decide)) (g := (mkF m 274 #[.val (.int p0), .val (.int p1), .val (.int p2), .val (.int p3), .val (.int p4), .val (.int p5), .val (.int (1 : Int32)), .val (.long z14), .second, .val (.int m23_s0), .val (.int m39_s0), .val (.int m55_s0), .val (.int m72_s0), .val (.ref b5), .val (.ref b19), .val (.ref b41), .val (.ref rb47_b5)] [(.long z14), (.int (1 : Int32)), (.ref b19), (.ref b5), (.int m23_s0), (.long z88), (.int c234_m70_s0)])) rfl (by rw [hml]; rfl) (argsL := [(.long z88), (.int m23_s0), (.ref b5), (.ref b19), (.int (1 : Int32)), (.long z14)]) (rest := [(.int c234_m70_s0)]) (lenOf pd_3 rfl) rfl (by show 2 * 0 + _ ≤ _; exact Nat.le_of_eq rfl) (hb hby at_274) (fun _ _ => ⟨rfl, rfl, (by decide : 4 + 0 ≤ _), (by decide : 10 + 0 ≤ _)⟩)
    dsimp only [Pt.U, Pt.locs, Pt.cells, Pt.slots] at X55 ql55 qy55 qz55 st55 hQ55
    subst ql55 qy55 qz55
    obtain ⟨rfl, N55q, e55⟩ := hQ55
    have N55 := Fr.app N47 N55q
    have br277 : c234_m70_s0 = c274_rv := N1 (bt hz88 hz88 bT hc274_c16_z12 hc274_c16_z14 hc274_c16_rv) (by simp only [lt_sub, lt_mx]; rfl) (last (EV_cmp e0_ s0_ hc234_z69) hc234_m70_s0) hc274_rv
    have c56 : ∀ t, Steps p.tables e below (T55.setTop (mkF m 385 #[.val (.int p0), .val (.int p1), .val (.int p2), .val (.int p3), .val (.int p4), .val (.int p5), .val (.int (1 : Int32)), .val (.long z14), .second, .val (.int m23_s0), .val (.int m39_s0), .val (.int m55_s0), .val (.int m72_s0), .val (.ref b5), .val (.ref b19), .val (.ref b41), .val (.ref rb47_b5)] [(.int (1 : Int32))])) t → Steps p.tables e below (s₁.setTop (entryFrame m #[(.int p0), (.int p1), (.int p2), (.int p3), (.int p4), (.int p5)] maxLocals)) t := by
      intro t k
      refine c43 t ?_
      show Steps p.tables e below (T41.setTop (mkF m 159 #[.val (.int p0), .val (.int p1), .val (.int p2), .val (.int p3), .val (.int p4), .val (.int p5), .val (.int (1 : Int32)), .val (.long z14), .second, .val (.int m23_s0), .val (.int m39_s0), .val (.int m55_s0), .val (.int m72_s0), .val (.ref b5), .val (.ref b19), .val (.ref b41), .unset] [(.double m148_s0), (.int (0 : Int32)), (.ref b41)])) _
      refine st45 _ ?_
      show Steps p.tables e below (T45.setTop (mkF m 160 #[.val (.int p0), .val (.int p1), .val (.int p2), .val (.int p3), .val (.int p4), .val (.int p5), .val (.int (1 : Int32)), .val (.long z14), .second, .val (.int m23_s0), .val (.int m39_s0), .val (.int m55_s0), .val (.int m72_s0), .val (.ref b5), .val (.ref b19), .val (.ref b41), .unset] [])) _
      refine XS.iload X45.here hx rfl (hb hby at_160) rfl ?_
      show Steps p.tables e below (T45.setTop (mkF m 162 #[.val (.int p0), .val (.int p1), .val (.int p2), .val (.int p3), .val (.int p4), .val (.int p5), .val (.int (1 : Int32)), .val (.long z14), .second, .val (.int m23_s0), .val (.int m39_s0), .val (.int m55_s0), .val (.int m72_s0), .val (.ref b5), .val (.ref b19), .val (.ref b41), .unset] [(.int (1 : Int32))])) _
      refine XS.iconst X45.here hx rfl (hb hby at_162) ?_
      show Steps p.tables e below (T45.setTop (mkF m 163 #[.val (.int p0), .val (.int p1), .val (.int p2), .val (.int p3), .val (.int p4), .val (.int p5), .val (.int (1 : Int32)), .val (.long z14), .second, .val (.int m23_s0), .val (.int m39_s0), .val (.int m55_s0), .val (.int m72_s0), .val (.ref b5), .val (.ref b19), .val (.ref b41), .unset] [(.int (1 : Int32)), (.int (1 : Int32))])) _
      refine XS.icmpYes X45.here hx rfl (pc0 := 163) (pc' := 183) rfl (hb hby at_163) rfl (Jvm.Free.XT.ii_le_t (by decide)) (by decide) (by decide) ?_
      show Steps p.tables e below (T45.setTop (mkF m 183 #[.val (.int p0), .val (.int p1), .val (.int p2), .val (.int p3), .val (.int p4), .val (.int p5), .val (.int (1 : Int32)), .val (.long z14), .second, .val (.int m23_s0), .val (.int m39_s0), .val (.int m55_s0), .val (.int m72_s0), .val (.ref b5), .val (.ref b19), .val (.ref b41), .unset] [])) _
      refine XS.iload X45.here hx rfl (hb hby at_183) rfl ?_
      show Steps p.tables e below (T45.setTop (mkF m 185 #[.val (.int p0), .val (.int p1), .val (.int p2), .val (.int p3), .val (.int p4), .val (.int p5), .val (.int (1 : Int32)), .val (.long z14), .second, .val (.int m23_s0), .val (.int m39_s0), .val (.int m55_s0), .val (.int m72_s0), .val (.ref b5), .val (.ref b19), .val (.ref b41), .unset] [(.int (1 : Int32))])) _
      refine XS.iconst X45.here hx rfl (hb hby at_185) ?_
      show Steps p.tables e below (T45.setTop (mkF m 186 #[.val (.int p0), .val (.int p1), .val (.int p2), .val (.int p3), .val (.int p4), .val (.int p5), .val (.int (1 : Int32)), .val (.long z14), .second, .val (.int m23_s0), .val (.int m39_s0), .val (.int m55_s0), .val (.int m72_s0), .val (.ref b5), .val (.ref b19), .val (.ref b41), .unset] [(.int (2 : Int32)), (.int (1 : Int32))])) _
      refine XS.icmpYes X45.here hx rfl (pc0 := 186) (pc' := 206) rfl (hb hby at_186) rfl (Jvm.Free.XT.ii_le_t (by decide)) (by decide) (by decide) ?_
      show Steps p.tables e below (T45.setTop (mkF m 206 #[.val (.int p0), .val (.int p1), .val (.int p2), .val (.int p3), .val (.int p4), .val (.int p5), .val (.int (1 : Int32)), .val (.long z14), .second, .val (.int m23_s0), .val (.int m39_s0), .val (.int m55_s0), .val (.int m72_s0), .val (.ref b5), .val (.ref b19), .val (.ref b41), .unset] [])) _
      refine XS.iload X45.here hx rfl (hb hby at_206) rfl ?_
      show Steps p.tables e below (T45.setTop (mkF m 208 #[.val (.int p0), .val (.int p1), .val (.int p2), .val (.int p3), .val (.int p4), .val (.int p5), .val (.int (1 : Int32)), .val (.long z14), .second, .val (.int m23_s0), .val (.int m39_s0), .val (.int m55_s0), .val (.int m72_s0), .val (.ref b5), .val (.ref b19), .val (.ref b41), .unset] [(.int (1 : Int32))])) _
      refine XS.iconst X45.here hx rfl (hb hby at_208) ?_
      show Steps p.tables e below (T45.setTop (mkF m 209 #[.val (.int p0), .val (.int p1), .val (.int p2), .val (.int p3), .val (.int p4), .val (.int p5), .val (.int (1 : Int32)), .val (.long z14), .second, .val (.int m23_s0), .val (.int m39_s0), .val (.int m55_s0), .val (.int m72_s0), .val (.ref b5), .val (.ref b19), .val (.ref b41), .unset] [(.int (3 : Int32)), (.int (1 : Int32))])) _
      refine XS.icmpYes X45.here hx rfl (pc0 := 209) (pc' := 229) rfl (hb hby at_209) rfl (Jvm.Free.XT.ii_le_t (by decide)) (by decide) (by decide) ?_
      show Steps p.tables e below (T45.setTop (mkF m 229 #[.val (.int p0), .val (.int p1), .val (.int p2), .val (.int p3), .val (.int p4), .val (.int p5), .val (.int (1 : Int32)), .val (.long z14), .second, .val (.int m23_s0), .val (.int m39_s0), .val (.int m55_s0), .val (.int m72_s0), .val (.ref b5), .val (.ref b19), .val (.ref b41), .unset] [])) _
      refine XS.aload X45.here hx rfl (hb hby at_229) rfl rfl ?_
      show Steps p.tables e below (T45.setTop (mkF m 231 #[.val (.int p0), .val (.int p1), .val (.int p2), .val (.int p3), .val (.int p4), .val (.int p5), .val (.int (1 : Int32)), .val (.long z14), .second, .val (.int m23_s0), .val (.int m39_s0), .val (.int m55_s0), .val (.int m72_s0), .val (.ref b5), .val (.ref b19), .val (.ref b41), .unset] [(.ref b41)])) _
      refine XS.lload X45.here hx rfl (hb hby at_231) rfl ?_
      show Steps p.tables e below (T45.setTop (mkF m 233 #[.val (.int p0), .val (.int p1), .val (.int p2), .val (.int p3), .val (.int p4), .val (.int p5), .val (.int (1 : Int32)), .val (.long z14), .second, .val (.int m23_s0), .val (.int m39_s0), .val (.int m55_s0), .val (.int m72_s0), .val (.ref b5), .val (.ref b19), .val (.ref b41), .unset] [(.long z14), (.ref b41)])) _
      refine XS.l2dS X45.here hx rfl (hb hby at_233) rfl hz233 ?_
      show Steps p.tables e below (T45.setTop (mkF m 234 #[.val (.int p0), .val (.int p1), .val (.int p2), .val (.int p3), .val (.int p4), .val (.int p5), .val (.int (1 : Int32)), .val (.long z14), .second, .val (.int m23_s0), .val (.int m39_s0), .val (.int m55_s0), .val (.int m72_s0), .val (.ref b5), .val (.ref b19), .val (.ref b41), .unset] [(.double z233), (.ref b41)])) _
      refine st47 _ ?_
      show Steps p.tables e below (T47.setTop (mkF m 237 #[.val (.int p0), .val (.int p1), .val (.int p2), .val (.int p3), .val (.int p4), .val (.int p5), .val (.int (1 : Int32)), .val (.long z14), .second, .val (.int m23_s0), .val (.int m39_s0), .val (.int m55_s0), .val (.int m72_s0), .val (.ref b5), .val (.ref b19), .val (.ref b41), .unset] [(.ref rb47_b5)])) _
      refine XS.astore X47.here hx rfl (hb hby at_237) rfl rfl (l' := #[.val (.int p0), .val (.int p1), .val (.int p2), .val (.int p3), .val (.int p4), .val (.int p5), .val (.int (1 : Int32)), .val (.long z14), .second, .val (.int m23_s0), .val (.int m39_s0), .val (.int m55_s0), .val (.int m72_s0), .val (.ref b5), .val (.ref b19), .val (.ref b41), .val (.ref rb47_b5)]) rfl ?_
      show Steps p.tables e below (T47.setTop (mkF m 239 #[.val (.int p0), .val (.int p1), .val (.int p2), .val (.int p3), .val (.int p4), .val (.int p5), .val (.int (1 : Int32)), .val (.long z14), .second, .val (.int m23_s0), .val (.int m39_s0), .val (.int m55_s0), .val (.int m72_s0), .val (.ref b5), .val (.ref b19), .val (.ref b41), .val (.ref rb47_b5)] [])) _
      refine XS.aload X47.here hx rfl (hb hby at_239) rfl rfl ?_
      show Steps p.tables e below (T47.setTop (mkF m 241 #[.val (.int p0), .val (.int p1), .val (.int p2), .val (.int p3), .val (.int p4), .val (.int p5), .val (.int (1 : Int32)), .val (.long z14), .second, .val (.int m23_s0), .val (.int m39_s0), .val (.int m55_s0), .val (.int m72_s0), .val (.ref b5), .val (.ref b19), .val (.ref b41), .val (.ref rb47_b5)] [(.ref rb47_b5)])) _
      refine X47.arraylength hx Ar49.1 (State.isArrayOf_alike hZ.alike Ar49.2.1) (g := (mkF m 241 #[.val (.int p0), .val (.int p1), .val (.int p2), .val (.int p3), .val (.int p4), .val (.int p5), .val (.int (1 : Int32)), .val (.long z14), .second, .val (.int m23_s0), .val (.int m39_s0), .val (.int m55_s0), .val (.int m72_s0), .val (.ref b5), .val (.ref b19), .val (.ref b41), .val (.ref rb47_b5)] [(.ref rb47_b5)])) rfl rfl (hb hby at_241) _ ?_
      rw [len_of S49 Nn49]
      show Steps p.tables e below (T47.setTop (mkF m 242 #[.val (.int p0), .val (.int p1), .val (.int p2), .val (.int p3), .val (.int p4), .val (.int p5), .val (.int (1 : Int32)), .val (.long z14), .second, .val (.int m23_s0), .val (.int m39_s0), .val (.int m55_s0), .val (.int m72_s0), .val (.ref b5), .val (.ref b19), .val (.ref b41), .val (.ref rb47_b5)] [(.int (1 : Int32))])) _
      refine XS.iload X47.here hx rfl (hb hby at_242) rfl ?_
      show Steps p.tables e below (T47.setTop (mkF m 244 #[.val (.int p0), .val (.int p1), .val (.int p2), .val (.int p3), .val (.int p4), .val (.int p5), .val (.int (1 : Int32)), .val (.long z14), .second, .val (.int m23_s0), .val (.int m39_s0), .val (.int m55_s0), .val (.int m72_s0), .val (.ref b5), .val (.ref b19), .val (.ref b41), .val (.ref rb47_b5)] [(.int (1 : Int32)), (.int (1 : Int32))])) _
      refine XS.icmpYes X47.here hx rfl (pc0 := 244) (pc' := 249) rfl (hb hby at_244) rfl (Jvm.Free.XT.ii_eq_t (by decide)) (by decide) (by decide) ?_
      show Steps p.tables e below (T47.setTop (mkF m 249 #[.val (.int p0), .val (.int p1), .val (.int p2), .val (.int p3), .val (.int p4), .val (.int p5), .val (.int (1 : Int32)), .val (.long z14), .second, .val (.int m23_s0), .val (.int m39_s0), .val (.int m55_s0), .val (.int m72_s0), .val (.ref b5), .val (.ref b19), .val (.ref b41), .val (.ref rb47_b5)] [])) _
      refine XS.iload X47.here hx rfl (hb hby at_249) rfl ?_
      show Steps p.tables e below (T47.setTop (mkF m 251 #[.val (.int p0), .val (.int p1), .val (.int p2), .val (.int p3), .val (.int p4), .val (.int p5), .val (.int (1 : Int32)), .val (.long z14), .second, .val (.int m23_s0), .val (.int m39_s0), .val (.int m55_s0), .val (.int m72_s0), .val (.ref b5), .val (.ref b19), .val (.ref b41), .val (.ref rb47_b5)] [(.int (1 : Int32))])) _
      refine XS.ifNo X47.here hx rfl (hb hby at_251) rfl (Jvm.Free.XT.i0_le_f (by decide)) ?_
      show Steps p.tables e below (T47.setTop (mkF m 254 #[.val (.int p0), .val (.int p1), .val (.int p2), .val (.int p3), .val (.int p4), .val (.int p5), .val (.int (1 : Int32)), .val (.long z14), .second, .val (.int m23_s0), .val (.int m39_s0), .val (.int m55_s0), .val (.int m72_s0), .val (.ref b5), .val (.ref b19), .val (.ref b41), .val (.ref rb47_b5)] [])) _
      refine XS.aload X47.here hx rfl (hb hby at_254) rfl rfl ?_
      show Steps p.tables e below (T47.setTop (mkF m 256 #[.val (.int p0), .val (.int p1), .val (.int p2), .val (.int p3), .val (.int p4), .val (.int p5), .val (.int (1 : Int32)), .val (.long z14), .second, .val (.int m23_s0), .val (.int m39_s0), .val (.int m55_s0), .val (.int m72_s0), .val (.ref b5), .val (.ref b19), .val (.ref b41), .val (.ref rb47_b5)] [(.ref rb47_b5)])) _
      refine XS.iconst X47.here hx rfl (hb hby at_256) ?_
      show Steps p.tables e below (T47.setTop (mkF m 257 #[.val (.int p0), .val (.int p1), .val (.int p2), .val (.int p3), .val (.int p4), .val (.int p5), .val (.int (1 : Int32)), .val (.long z14), .second, .val (.int m23_s0), .val (.int m39_s0), .val (.int m55_s0), .val (.int m72_s0), .val (.ref b5), .val (.ref b19), .val (.ref b41), .val (.ref rb47_b5)] [(.int (0 : Int32)), (.ref rb47_b5)])) _
      refine X47.baloadBooleans hx (j := (0 : Int32)) (v := (.int c234_m70_s0)) Ar50.1 (State.isArrayOf_alike hZ.alike Ar50.2.1) Ar50.2.2 in50 (Has.at Ha50 in50 rfl) (g := (mkF m 257 #[.val (.int p0), .val (.int p1), .val (.int p2), .val (.int p3), .val (.int p4), .val (.int p5), .val (.int (1 : Int32)), .val (.long z14), .second, .val (.int m23_s0), .val (.int m39_s0), .val (.int m55_s0), .val (.int m72_s0), .val (.ref b5), .val (.ref b19), .val (.ref b41), .val (.ref rb47_b5)] [(.int (0 : Int32)), (.ref rb47_b5)])) rfl rfl (hb hby at_257) _ ?_
      show Steps p.tables e below (T47.setTop (mkF m 258 #[.val (.int p0), .val (.int p1), .val (.int p2), .val (.int p3), .val (.int p4), .val (.int p5), .val (.int (1 : Int32)), .val (.long z14), .second, .val (.int m23_s0), .val (.int m39_s0), .val (.int m55_s0), .val (.int m72_s0), .val (.ref b5), .val (.ref b19), .val (.ref b41), .val (.ref rb47_b5)] [(.int c234_m70_s0)])) _
      refine XS.aload X47.here hx rfl (hb hby at_258) rfl rfl ?_
      show Steps p.tables e below (T47.setTop (mkF m 260 #[.val (.int p0), .val (.int p1), .val (.int p2), .val (.int p3), .val (.int p4), .val (.int p5), .val (.int (1 : Int32)), .val (.long z14), .second, .val (.int m23_s0), .val (.int m39_s0), .val (.int m55_s0), .val (.int m72_s0), .val (.ref b5), .val (.ref b19), .val (.ref b41), .val (.ref rb47_b5)] [(.ref b5), (.int c234_m70_s0)])) _
      refine XS.iconst X47.here hx rfl (hb hby at_260) ?_
      show Steps p.tables e below (T47.setTop (mkF m 261 #[.val (.int p0), .val (.int p1), .val (.int p2), .val (.int p3), .val (.int p4), .val (.int p5), .val (.int (1 : Int32)), .val (.long z14), .second, .val (.int m23_s0), .val (.int m39_s0), .val (.int m55_s0), .val (.int m72_s0), .val (.ref b5), .val (.ref b19), .val (.ref b41), .val (.ref rb47_b5)] [(.int (0 : Int32)), (.ref b5), (.int c234_m70_s0)])) _
      refine X47.laload hx (j := (0 : Int32)) (v := (.long z88)) Ar52.1 (State.isArrayOf_alike hZ.alike Ar52.2.1) Ar52.2.2 in52 (Has.at Ha52 in52 rfl) (g := (mkF m 261 #[.val (.int p0), .val (.int p1), .val (.int p2), .val (.int p3), .val (.int p4), .val (.int p5), .val (.int (1 : Int32)), .val (.long z14), .second, .val (.int m23_s0), .val (.int m39_s0), .val (.int m55_s0), .val (.int m72_s0), .val (.ref b5), .val (.ref b19), .val (.ref b41), .val (.ref rb47_b5)] [(.int (0 : Int32)), (.ref b5), (.int c234_m70_s0)])) rfl rfl (hb hby at_261) _ ?_
      show Steps p.tables e below (T47.setTop (mkF m 262 #[.val (.int p0), .val (.int p1), .val (.int p2), .val (.int p3), .val (.int p4), .val (.int p5), .val (.int (1 : Int32)), .val (.long z14), .second, .val (.int m23_s0), .val (.int m39_s0), .val (.int m55_s0), .val (.int m72_s0), .val (.ref b5), .val (.ref b19), .val (.ref b41), .val (.ref rb47_b5)] [(.long z88), (.int c234_m70_s0)])) _
      refine XS.aload X47.here hx rfl (hb hby at_262) rfl rfl ?_
      show Steps p.tables e below (T47.setTop (mkF m 264 #[.val (.int p0), .val (.int p1), .val (.int p2), .val (.int p3), .val (.int p4), .val (.int p5), .val (.int (1 : Int32)), .val (.long z14), .second, .val (.int m23_s0), .val (.int m39_s0), .val (.int m55_s0), .val (.int m72_s0), .val (.ref b5), .val (.ref b19), .val (.ref b41), .val (.ref rb47_b5)] [(.ref b19), (.long z88), (.int c234_m70_s0)])) _
      refine XS.iconst X47.here hx rfl (hb hby at_264) ?_
      show Steps p.tables e below (T47.setTop (mkF m 265 #[.val (.int p0), .val (.int p1), .val (.int p2), .val (.int p3), .val (.int p4), .val (.int p5), .val (.int (1 : Int32)), .val (.long z14), .second, .val (.int m23_s0), .val (.int m39_s0), .val (.int m55_s0), .val (.int m72_s0), .val (.ref b5), .val (.ref b19), .val (.ref b41), .val (.ref rb47_b5)] [(.int (0 : Int32)), (.ref b19), (.long z88), (.int c234_m70_s0)])) _
      refine X47.baloadBooleans hx (j := (0 : Int32)) (v := (.int m23_s0)) Ar54.1 (State.isArrayOf_alike hZ.alike Ar54.2.1) Ar54.2.2 in54 (Has.at Ha54 in54 rfl) (g := (mkF m 265 #[.val (.int p0), .val (.int p1), .val (.int p2), .val (.int p3), .val (.int p4), .val (.int p5), .val (.int (1 : Int32)), .val (.long z14), .second, .val (.int m23_s0), .val (.int m39_s0), .val (.int m55_s0), .val (.int m72_s0), .val (.ref b5), .val (.ref b19), .val (.ref b41), .val (.ref rb47_b5)] [(.int (0 : Int32)), (.ref b19), (.long z88), (.int c234_m70_s0)])) rfl rfl (hb hby at_265) _ ?_
      show Steps p.tables e below (T47.setTop (mkF m 266 #[.val (.int p0), .val (.int p1), .val (.int p2), .val (.int p3), .val (.int p4), .val (.int p5), .val (.int (1 : Int32)), .val (.long z14), .second, .val (.int m23_s0), .val (.int m39_s0), .val (.int m55_s0), .val (.int m72_s0), .val (.ref b5), .val (.ref b19), .val (.ref b41), .val (.ref rb47_b5)] [(.int m23_s0), (.long z88), (.int c234_m70_s0)])) _
      refine XS.aload X47.here hx rfl (hb hby at_266) rfl rfl ?_
      show Steps p.tables e below (T47.setTop (mkF m 268 #[.val (.int p0), .val (.int p1), .val (.int p2), .val (.int p3), .val (.int p4), .val (.int p5), .val (.int (1 : Int32)), .val (.long z14), .second, .val (.int m23_s0), .val (.int m39_s0), .val (.int m55_s0), .val (.int m72_s0), .val (.ref b5), .val (.ref b19), .val (.ref b41), .val (.ref rb47_b5)] [(.ref b5), (.int m23_s0), (.long z88), (.int c234_m70_s0)])) _
      refine XS.aload X47.here hx rfl (hb hby at_268) rfl rfl ?_
      show Steps p.tables e below (T47.setTop (mkF m 270 #[.val (.int p0), .val (.int p1), .val (.int p2), .val (.int p3), .val (.int p4), .val (.int p5), .val (.int (1 : Int32)), .val (.long z14), .second, .val (.int m23_s0), .val (.int m39_s0), .val (.int m55_s0), .val (.int m72_s0), .val (.ref b5), .val (.ref b19), .val (.ref b41), .val (.ref rb47_b5)] [(.ref b19), (.ref b5), (.int m23_s0), (.long z88), (.int c234_m70_s0)])) _
      refine XS.iload X47.here hx rfl (hb hby at_270) rfl ?_
      show Steps p.tables e below (T47.setTop (mkF m 272 #[.val (.int p0), .val (.int p1), .val (.int p2), .val (.int p3), .val (.int p4), .val (.int p5), .val (.int (1 : Int32)), .val (.long z14), .second, .val (.int m23_s0), .val (.int m39_s0), .val (.int m55_s0), .val (.int m72_s0), .val (.ref b5), .val (.ref b19), .val (.ref b41), .val (.ref rb47_b5)] [(.int (1 : Int32)), (.ref b19), (.ref b5), (.int m23_s0), (.long z88), (.int c234_m70_s0)])) _
      refine XS.lload X47.here hx rfl (hb hby at_272) rfl ?_
      show Steps p.tables e below (T47.setTop (mkF m 274 #[.val (.int p0), .val (.int p1), .val (.int p2), .val (.int p3), .val (.int p4), .val (.int p5), .val (.int (1 : Int32)), .val (.long z14), .second, .val (.int m23_s0), .val (.int m39_s0), .val (.int m55_s0), .val (.int m72_s0), .val (.ref b5), .val (.ref b19), .val (.ref b41), .val (.ref rb47_b5)] [(.long z14), (.int (1 : Int32)), (.ref b19), (.ref b5), (.int m23_s0), (.long z88), (.int c234_m70_s0)])) _
      refine st55 _ ?_
      show Steps p.tables e below (T55.setTop (mkF m 277 #[.val (.int p0), .val (.int p1), .val (.int p2), .val (.int p3), .val (.int p4), .val (.int p5), .val (.int (1 : Int32)), .val (.long z14), .second, .val (.int m23_s0), .val (.int m39_s0), .val (.int m55_s0), .val (.int m72_s0), .val (.ref b5), .val (.ref b19), .val (.ref b41), .val (.ref rb47_b5)] [(.int c274_rv), (.int c234_m70_s0)])) _
      refine XS.icmpYes X55.here hx rfl (pc0 := 277) (pc' := 282) rfl (hb hby at_277) rfl (Jvm.Free.XT.ii_eq_t br277) (by decide) (by decide) ?_
      show Steps p.tables e below (T55.setTop (mkF m 282 #[.val (.int p0), .val (.int p1), .val (.int p2), .val (.int p3), .val (.int p4), .val (.int p5), .val (.int (1 : Int32)), .val (.long z14), .second, .val (.int m23_s0), .val (.int m39_s0), .val (.int m55_s0), .val (.int m72_s0), .val (.ref b5), .val (.ref b19), .val (.ref b41), .val (.ref rb47_b5)] [])) _
      refine XS.iload X55.here hx rfl (hb hby at_282) rfl ?_
      show Steps p.tables e below (T55.setTop (mkF m 284 #[.val (.int p0), .val (.int p1), .val (.int p2), .val (.int p3), .val (.int p4), .val (.int p5), .val (.int (1 : Int32)), .val (.long z14), .second, .val (.int m23_s0), .val (.int m39_s0), .val (.int m55_s0), .val (.int m72_s0), .val (.ref b5), .val (.ref b19), .val (.ref b41), .val (.ref rb47_b5)] [(.int (1 : Int32))])) _
      refine XS.iconst X55.here hx rfl (hb hby at_284) ?_
      show Steps p.tables e below (T55.setTop (mkF m 285 #[.val (.int p0), .val (.int p1), .val (.int p2), .val (.int p3), .val (.int p4), .val (.int p5), .val (.int (1 : Int32)), .val (.long z14), .second, .val (.int m23_s0), .val (.int m39_s0), .val (.int m55_s0), .val (.int m72_s0), .val (.ref b5), .val (.ref b19), .val (.ref b41), .val (.ref rb47_b5)] [(.int (1 : Int32)), (.int (1 : Int32))])) _
      refine XS.icmpYes X55.here hx rfl (pc0 := 285) (pc' := 316) rfl (hb hby at_285) rfl (Jvm.Free.XT.ii_le_t (by decide)) (by decide) (by decide) ?_
      show Steps p.tables e below (T55.setTop (mkF m 316 #[.val (.int p0), .val (.int p1), .val (.int p2), .val (.int p3), .val (.int p4), .val (.int p5), .val (.int (1 : Int32)), .val (.long z14), .second, .val (.int m23_s0), .val (.int m39_s0), .val (.int m55_s0), .val (.int m72_s0), .val (.ref b5), .val (.ref b19), .val (.ref b41), .val (.ref rb47_b5)] [])) _
      refine XS.iload X55.here hx rfl (hb hby at_316) rfl ?_
      show Steps p.tables e below (T55.setTop (mkF m 318 #[.val (.int p0), .val (.int p1), .val (.int p2), .val (.int p3), .val (.int p4), .val (.int p5), .val (.int (1 : Int32)), .val (.long z14), .second, .val (.int m23_s0), .val (.int m39_s0), .val (.int m55_s0), .val (.int m72_s0), .val (.ref b5), .val (.ref b19), .val (.ref b41), .val (.ref rb47_b5)] [(.int (1 : Int32))])) _
      refine XS.iconst X55.here hx rfl (hb hby at_318) ?_
      show Steps p.tables e below (T55.setTop (mkF m 319 #[.val (.int p0), .val (.int p1), .val (.int p2), .val (.int p3), .val (.int p4), .val (.int p5), .val (.int (1 : Int32)), .val (.long z14), .second, .val (.int m23_s0), .val (.int m39_s0), .val (.int m55_s0), .val (.int m72_s0), .val (.ref b5), .val (.ref b19), .val (.ref b41), .val (.ref rb47_b5)] [(.int (2 : Int32)), (.int (1 : Int32))])) _
      refine XS.icmpYes X55.here hx rfl (pc0 := 319) (pc' := 350) rfl (hb hby at_319) rfl (Jvm.Free.XT.ii_le_t (by decide)) (by decide) (by decide) ?_
      show Steps p.tables e below (T55.setTop (mkF m 350 #[.val (.int p0), .val (.int p1), .val (.int p2), .val (.int p3), .val (.int p4), .val (.int p5), .val (.int (1 : Int32)), .val (.long z14), .second, .val (.int m23_s0), .val (.int m39_s0), .val (.int m55_s0), .val (.int m72_s0), .val (.ref b5), .val (.ref b19), .val (.ref b41), .val (.ref rb47_b5)] [])) _
      refine XS.iload X55.here hx rfl (hb hby at_350) rfl ?_
      show Steps p.tables e below (T55.setTop (mkF m 352 #[.val (.int p0), .val (.int p1), .val (.int p2), .val (.int p3), .val (.int p4), .val (.int p5), .val (.int (1 : Int32)), .val (.long z14), .second, .val (.int m23_s0), .val (.int m39_s0), .val (.int m55_s0), .val (.int m72_s0), .val (.ref b5), .val (.ref b19), .val (.ref b41), .val (.ref rb47_b5)] [(.int (1 : Int32))])) _
      refine XS.iconst X55.here hx rfl (hb hby at_352) ?_
      show Steps p.tables e below (T55.setTop (mkF m 353 #[.val (.int p0), .val (.int p1), .val (.int p2), .val (.int p3), .val (.int p4), .val (.int p5), .val (.int (1 : Int32)), .val (.long z14), .second, .val (.int m23_s0), .val (.int m39_s0), .val (.int m55_s0), .val (.int m72_s0), .val (.ref b5), .val (.ref b19), .val (.ref b41), .val (.ref rb47_b5)] [(.int (3 : Int32)), (.int (1 : Int32))])) _
      refine XS.icmpYes X55.here hx rfl (pc0 := 353) (pc' := 384) rfl (hb hby at_353) rfl (Jvm.Free.XT.ii_le_t (by decide)) (by decide) (by decide) ?_
      show Steps p.tables e below (T55.setTop (mkF m 384 #[.val (.int p0), .val (.int p1), .val (.int p2), .val (.int p3), .val (.int p4), .val (.int p5), .val (.int (1 : Int32)), .val (.long z14), .second, .val (.int m23_s0), .val (.int m39_s0), .val (.int m55_s0), .val (.int m72_s0), .val (.ref b5), .val (.ref b19), .val (.ref b41), .val (.ref rb47_b5)] [])) _
      refine XS.iconst X55.here hx rfl (hb hby at_384) ?_
      exact k
    obtain ⟨fs, hr, hrun, hended, hW, hsame⟩ := X55.leave (v := some (.int (1 : Int32))) (fun h => by rw [Bd.returns] at h; cases h)
    refine ⟨_, _, c56 _ ?_, hrun, hended, _, _, rfl, ?_, ⟨_, rfl⟩, hW, hsame.mono (by decide) (by decide)⟩
    · show Steps p.tables e below (T55.setTop (mkF m 385 #[.val (.int p0), .val (.int p1), .val (.int p2), .val (.int p3), .val (.int p4), .val (.int p5), .val (.int (1 : Int32)), .val (.long z14), .second, .val (.int m23_s0), .val (.int m39_s0), .val (.int m55_s0), .val (.int m72_s0), .val (.ref b5), .val (.ref b19), .val (.ref b41), .val (.ref rb47_b5)] [(.int (1 : Int32))])) _
      exact retOut X55 hx Bd.returns rfl (Or.inl ⟨rfl, by simp, _, rfl⟩) (hb hby at_385) hr
    · show Q0 n0 _ T55.heap _
      rw [e55]
      exact ⟨rfl, by first | assumption | exact N0⟩
  · obtain rfl := q34
    obtain ⟨z158, hz158⟩ : ∃ z : UInt64, FP.i2d p0 = z := ⟨_, rfl⟩
    obtain ⟨m148_s0, hm148_s0⟩ : ∃ z : UInt64, (if m23_s0 = (0 : Int32) then z158 else (18442240474082181120 : UInt64)) = z := ⟨_, rfl⟩
    obtain ⟨z181, hz181⟩ : ∃ z : UInt64, FP.i2d p1 = z := ⟨_, rfl⟩
    obtain ⟨m171_s0, hm171_s0⟩ : ∃ z : UInt64, (if m39_s0 = (0 : Int32) then z181 else (18442240474082181120 : UInt64)) = z := ⟨_, rfl⟩
    obtain ⟨z233, hz233⟩ : ∃ z : UInt64, FP.l2d z14 = z := ⟨_, rfl⟩
    obtain ⟨c234_z32, hc234_z32⟩ : ∃ z : UInt64, Jvm.Native.java_lang_Math.nans.pick64 true (18442240474082181120 : UInt64) m148_s0 = z := ⟨_, rfl⟩
    obtain ⟨c234_z32_2, hc234_z32_2⟩ : ∃ z : UInt64, Jvm.Native.java_lang_Math.nans.pick64 true c234_z32 m171_s0 = z := ⟨_, rfl⟩
    obtain ⟨c234_z68, hc234_z68⟩ : ∃ z : UInt64, FP.dsub c234_z32_2 z233 = z := ⟨_, rfl⟩
    obtain ⟨c234_z69, hc234_z69⟩ : ∃ z : Int32, cmpValue (FP.dcmp m148_s0 c234_z68) .l = z := ⟨_, rfl⟩
    obtain ⟨c234_m70_s0, hc234_m70_s0⟩ : ∃ z : Int32, (if c234_z69 < (0 : Int32) then (0 : Int32) else (1 : Int32)) = z := ⟨_, rfl⟩
    obtain ⟨c234_z68_2, hc234_z68_2⟩ : ∃ z : UInt64, FP.dsub c234_z32_2 z233 = z := ⟨_, rfl⟩
    obtain ⟨c234_z69_2, hc234_z69_2⟩ : ∃ z : Int32, cmpValue (FP.dcmp m171_s0 c234_z68_2) .l = z := ⟨_, rfl⟩
    obtain ⟨c234_m70_s0_2, hc234_m70_s0_2⟩ : ∃ z : Int32, (if c234_z69_2 < (0 : Int32) then (0 : Int32) else (1 : Int32)) = z := ⟨_, rfl⟩
    obtain ⟨c274_c16_z12, hc274_c16_z12⟩ : ∃ z : Int64, z88 + z14 = z := ⟨_, rfl⟩
    obtain ⟨c274_c16_z14, hc274_c16_z14⟩ : ∃ z : Int32, lcmpW c274_c16_z12 z88 = z := ⟨_, rfl⟩
    obtain ⟨c274_c16_rv, hc274_c16_rv⟩ : ∃ z : Int32, (if m23_s0 = (0 : Int32) then (if m23_s0 = (0 : Int32) then (if c274_c16_z14 < (0 : Int32) then (0 : Int32) else (1 : Int32)) else (0 : Int32)) else (1 : Int32)) = z := ⟨_, rfl⟩
    obtain ⟨c274_c39_z12, hc274_c39_z12⟩ : ∃ z : Int64, z88 + z14 = z := ⟨_, rfl⟩
    obtain ⟨c274_c39_z14, hc274_c39_z14⟩ : ∃ z : Int32, lcmpW c274_c39_z12 z93 = z := ⟨_, rfl⟩
    obtain ⟨c274_c39_rv, hc274_c39_rv⟩ : ∃ z : Int32, (if m39_s0 = (0 : Int32) then (if m23_s0 = (0 : Int32) then (if c274_c39_z14 < (0 : Int32) then (0 : Int32) else (1 : Int32)) else (0 : Int32)) else (1 : Int32)) = z := ⟨_, rfl⟩
    obtain ⟨c274_rv, hc274_rv⟩ : ∃ z : Int32, (if c274_c16_rv = (0 : Int32) then (0 : Int32) else (if c274_c39_rv = (0 : Int32) then (0 : Int32) else (1 : Int32))) = z := ⟨_, rfl⟩
    obtain ⟨c308_c16_z12, hc308_c16_z12⟩ : ∃ z : Int64, z93 + z14 = z := ⟨_, rfl⟩
    obtain ⟨c308_c16_z14, hc308_c16_z14⟩ : ∃ z : Int32, lcmpW c308_c16_z12 z88 = z := ⟨_, rfl⟩
    obtain ⟨c308_c16_rv, hc308_c16_rv⟩ : ∃ z : Int32, (if m23_s0 = (0 : Int32) then (if m39_s0 = (0 : Int32) then (if c308_c16_z14 < (0 : Int32) then (0 : Int32) else (1 : Int32)) else (0 : Int32)) else (1 : Int32)) = z := ⟨_, rfl⟩
    obtain ⟨c308_c39_z12, hc308_c39_z12⟩ : ∃ z : Int64, z93 + z14 = z := ⟨_, rfl⟩
    obtain ⟨c308_c39_z14, hc308_c39_z14⟩ : ∃ z : Int32, lcmpW c308_c39_z12 z93 = z := ⟨_, rfl⟩
    obtain ⟨c308_c39_rv, hc308_c39_rv⟩ : ∃ z : Int32, (if m39_s0 = (0 : Int32) then (if m39_s0 = (0 : Int32) then (if c308_c39_z14 < (0 : Int32) then (0 : Int32) else (1 : Int32)) else (0 : Int32)) else (1 : Int32)) = z := ⟨_, rfl⟩
    obtain ⟨c308_rv, hc308_rv⟩ : ∃ z : Int32, (if c308_c16_rv = (0 : Int32) then (0 : Int32) else (if c308_c39_rv = (0 : Int32) then (0 : Int32) else (1 : Int32))) = z := ⟨_, rfl⟩
    obtain ⟨T57, h57, k57, X57, e57, E57, A57, st57⟩ := newP X31 hx hZ (hw _ (List.mem_of_getElem? (i := 3) rfl)) e31 (g := (mkF m 134 #[.val (.int p0), .val (.int p1), .val (.int p2), .val (.int p3), .val (.int p4), .val (.int p5), .val (.int (2 : Int32)), .val (.long z14), .second, .val (.int m23_s0), .val (.int m39_s0), .val (.int m55_s0), .val (.int m72_s0), .val (.ref b5), .val (.ref b19), .unset, .unset] [(.int (2 : Int32))])) rfl (hb hby at_134) rfl (by decide) (cap := 2) (by decide) (by decide) (by decide) (by decide)
    obtain ⟨b57, g57⟩ : ∃ z, z = h31.size := ⟨_, rfl⟩
    rw [← g57] at A57 st57
    have gn57 : n0 ≤ b57 := Nat.le_trans (Nat.le_trans (Nat.le_trans (Nat.le_trans (Nat.le_trans (Nat.le_trans (Nat.le_trans (Nat.le_trans (Nat.le_trans (Nat.le_trans (Nat.le_trans Z0 E5.1) (Keep.of_wr W8).1) (Keep.of_wr W11).1) (Keep.of_wr W14).1) (Keep.of_wr W17).1) E19.1) (Keep.of_wr W22).1) (Keep.of_wr W25).1) (Keep.of_wr W28).1) (Keep.of_wr W31).1) (Nat.le_of_eq g57.symm)
    have gz57 : h0.size ≤ b57 := Nat.le_trans (K32).1 (Nat.le_of_eq g57.symm)
    have K58 : Keep h0 h57 [] := K32.ext E57
    have V57 : Arv Z h57 b57 k57 .double (2 : Int32) [(.double (0 : UInt64)), (.double (0 : UInt64))] (.double (0 : UInt64)) := (Arv.new A57 (by decide)).pad (pad_rep [] (.double (0 : UInt64)) 2)
    have c59 : ∀ t, Steps p.tables e below (T57.setTop (mkF m 159 #[.val (.int p0), .val (.int p1), .val (.int p2), .val (.int p3), .val (.int p4), .val (.int p5), .val (.int (2 : Int32)), .val (.long z14), .second, .val (.int m23_s0), .val (.int m39_s0), .val (.int m55_s0), .val (.int m72_s0), .val (.ref b5), .val (.ref b19), .val (.ref b57), .unset] [(.double m148_s0), (.int (0 : Int32)), (.ref b57)])) t → Steps p.tables e below (s₁.setTop (entryFrame m #[(.int p0), (.int p1), (.int p2), (.int p3), (.int p4), (.int p5)] maxLocals)) t := by
      intro t k
      refine c33 t ?_
      show Steps p.tables e below (T31.setTop (mkF m 132 #[.val (.int p0), .val (.int p1), .val (.int p2), .val (.int p3), .val (.int p4), .val (.int p5), .val (.int (2 : Int32)), .val (.long z14), .second, .val (.int m23_s0), .val (.int m39_s0), .val (.int m55_s0), .val (.int m72_s0), .val (.ref b5), .val (.ref b19), .unset, .unset] [])) _
      refine XS.iload X31.here hx rfl (hb hby at_132) rfl ?_
      show Steps p.tables e below (T31.setTop (mkF m 134 #[.val (.int p0), .val (.int p1), .val (.int p2), .val (.int p3), .val (.int p4), .val (.int p5), .val (.int (2 : Int32)), .val (.long z14), .second, .val (.int m23_s0), .val (.int m39_s0), .val (.int m55_s0), .val (.int m72_s0), .val (.ref b5), .val (.ref b19), .unset, .unset] [(.int (2 : Int32))])) _
      refine st57 _ ?_
      show Steps p.tables e below (T57.setTop (mkF m 136 #[.val (.int p0), .val (.int p1), .val (.int p2), .val (.int p3), .val (.int p4), .val (.int p5), .val (.int (2 : Int32)), .val (.long z14), .second, .val (.int m23_s0), .val (.int m39_s0), .val (.int m55_s0), .val (.int m72_s0), .val (.ref b5), .val (.ref b19), .unset, .unset] [(.ref b57)])) _
      refine XS.astore X57.here hx rfl (hb hby at_136) rfl rfl (l' := #[.val (.int p0), .val (.int p1), .val (.int p2), .val (.int p3), .val (.int p4), .val (.int p5), .val (.int (2 : Int32)), .val (.long z14), .second, .val (.int m23_s0), .val (.int m39_s0), .val (.int m55_s0), .val (.int m72_s0), .val (.ref b5), .val (.ref b19), .val (.ref b57), .unset]) rfl ?_
      show Steps p.tables e below (T57.setTop (mkF m 138 #[.val (.int p0), .val (.int p1), .val (.int p2), .val (.int p3), .val (.int p4), .val (.int p5), .val (.int (2 : Int32)), .val (.long z14), .second, .val (.int m23_s0), .val (.int m39_s0), .val (.int m55_s0), .val (.int m72_s0), .val (.ref b5), .val (.ref b19), .val (.ref b57), .unset] [])) _
      refine XS.iload X57.here hx rfl (hb hby at_138) rfl ?_
      show Steps p.tables e below (T57.setTop (mkF m 140 #[.val (.int p0), .val (.int p1), .val (.int p2), .val (.int p3), .val (.int p4), .val (.int p5), .val (.int (2 : Int32)), .val (.long z14), .second, .val (.int m23_s0), .val (.int m39_s0), .val (.int m55_s0), .val (.int m72_s0), .val (.ref b5), .val (.ref b19), .val (.ref b57), .unset] [(.int (2 : Int32))])) _
      refine XS.ifNo X57.here hx rfl (hb hby at_140) rfl (Jvm.Free.XT.i0_le_f (by decide)) ?_
      show Steps p.tables e below (T57.setTop (mkF m 143 #[.val (.int p0), .val (.int p1), .val (.int p2), .val (.int p3), .val (.int p4), .val (.int p5), .val (.int (2 : Int32)), .val (.long z14), .second, .val (.int m23_s0), .val (.int m39_s0), .val (.int m55_s0), .val (.int m72_s0), .val (.ref b5), .val (.ref b19), .val (.ref b57), .unset] [])) _
      refine XS.aload X57.here hx rfl (hb hby at_143) rfl rfl ?_
      show Steps p.tables e below (T57.setTop (mkF m 145 #[.val (.int p0), .val (.int p1), .val (.int p2), .val (.int p3), .val (.int p4), .val (.int p5), .val (.int (2 : Int32)), .val (.long z14), .second, .val (.int m23_s0), .val (.int m39_s0), .val (.int m55_s0), .val (.int m72_s0), .val (.ref b5), .val (.ref b19), .val (.ref b57), .unset] [(.ref b57)])) _
      refine XS.iconst X57.here hx rfl (hb hby at_145) ?_
      show Steps p.tables e below (T57.setTop (mkF m 146 #[.val (.int p0), .val (.int p1), .val (.int p2), .val (.int p3), .val (.int p4), .val (.int p5), .val (.int (2 : Int32)), .val (.long z14), .second, .val (.int m23_s0), .val (.int m39_s0), .val (.int m55_s0), .val (.int m72_s0), .val (.ref b5), .val (.ref b19), .val (.ref b57), .unset] [(.int (0 : Int32)), (.ref b57)])) _
      refine XS.iload X57.here hx rfl (hb hby at_146) rfl ?_
      by_cases hm148_0 : m23_s0 = (0 : Int32)
      · skip
        show Steps p.tables e below (T57.setTop (mkF m 148 #[.val (.int p0), .val (.int p1), .val (.int p2), .val (.int p3), .val (.int p4), .val (.int p5), .val (.int (2 : Int32)), .val (.long z14), .second, .val (.int m23_s0), .val (.int m39_s0), .val (.int m55_s0), .val (.int m72_s0), .val (.ref b5), .val (.ref b19), .val (.ref b57), .unset] [(.int m23_s0), (.int (0 : Int32)), (.ref b57)])) _
        refine XS.ifYes X57.here hx rfl (pc0 := 148) (pc' := 157) rfl (hb hby at_148) rfl (Jvm.Free.XT.i0_eq_t hm148_0) (by decide) (by decide) ?_
        show Steps p.tables e below (T57.setTop (mkF m 157 #[.val (.int p0), .val (.int p1), .val (.int p2), .val (.int p3), .val (.int p4), .val (.int p5), .val (.int (2 : Int32)), .val (.long z14), .second, .val (.int m23_s0), .val (.int m39_s0), .val (.int m55_s0), .val (.int m72_s0), .val (.ref b5), .val (.ref b19), .val (.ref b57), .unset] [(.int (0 : Int32)), (.ref b57)])) _
        refine XS.iloadN X57.here hx rfl (hb hby at_157) rfl ?_
        show Steps p.tables e below (T57.setTop (mkF m 158 #[.val (.int p0), .val (.int p1), .val (.int p2), .val (.int p3), .val (.int p4), .val (.int p5), .val (.int (2 : Int32)), .val (.long z14), .second, .val (.int m23_s0), .val (.int m39_s0), .val (.int m55_s0), .val (.int m72_s0), .val (.ref b5), .val (.ref b19), .val (.ref b57), .unset] [(.int p0), (.int (0 : Int32)), (.ref b57)])) _
        refine XS.i2dS X57.here hx rfl (hb hby at_158) rfl hz158 ?_
        obtain rfl : z158 = m148_s0 := by rw [← hm148_s0]; simp only [if_pos hm148_0]
        exact k
      · skip
        show Steps p.tables e below (T57.setTop (mkF m 148 #[.val (.int p0), .val (.int p1), .val (.int p2), .val (.int p3), .val (.int p4), .val (.int p5), .val (.int (2 : Int32)), .val (.long z14), .second, .val (.int m23_s0), .val (.int m39_s0), .val (.int m55_s0), .val (.int m72_s0), .val (.ref b5), .val (.ref b19), .val (.ref b57), .unset] [(.int m23_s0), (.int (0 : Int32)), (.ref b57)])) _
        refine XS.ifNo X57.here hx rfl (hb hby at_148) rfl (Jvm.Free.XT.i0_eq_f hm148_0) ?_
        show Steps p.tables e below (T57.setTop (mkF m 151 #[.val (.int p0), .val (.int p1), .val (.int p2), .val (.int p3), .val (.int p4), .val (.int p5), .val (.int (2 : Int32)), .val (.long z14), .second, .val (.int m23_s0), .val (.int m39_s0), .val (.int m55_s0), .val (.int m72_s0), .val (.ref b5), .val (.ref b19), .val (.ref b57), .unset] [(.int (0 : Int32)), (.ref b57)])) _
        refine X57.ldc2DoubleC hx hown (mvT hZ (hw _ (List.mem_of_getElem? (i := 20) rfl))) (g := (mkF m 151 #[.val (.int p0), .val (.int p1), .val (.int p2), .val (.int p3), .val (.int p4), .val (.int p5), .val (.int (2 : Int32)), .val (.long z14), .second, .val (.int m23_s0), .val (.int m39_s0), .val (.int m55_s0), .val (.int m72_s0), .val (.ref b5), .val (.ref b19), .val (.ref b57), .unset] [(.int (0 : Int32)), (.ref b57)])) rfl (hb hby at_151) _ ?_
        show Steps p.tables e below (T57.setTop (mkF m 154 #[.val (.int p0), .val (.int p1), .val (.int p2), .val (.int p3), .val (.int p4), .val (.int p5), .val (.int (2 : Int32)), .val (.long z14), .second, .val (.int m23_s0), .val (.int m39_s0), .val (.int m55_s0), .val (.int m72_s0), .val (.ref b5), .val (.ref b19), .val (.ref b57), .unset] [(.double (18442240474082181120 : UInt64)), (.int (0 : Int32)), (.ref b57)])) _
        refine XS.goto X57.here hx rfl (pc0 := 154) (pc' := 159) rfl (hb hby at_154) (by decide) (by decide) ?_
        obtain rfl : (18442240474082181120 : UInt64) = m148_s0 := by rw [← hm148_s0]; simp only [if_neg hm148_0]
        exact k
    obtain ⟨cl60, Ar60, q60, S60, Nn60, Ha60, G60⟩ := id V57
    have in60 : ¬ ((0 : Int32) < 0 ∨ cl60.slots.size ≤ ((0 : Int32)).toNatClampNeg) := inb_of S60 ⟨by decide, by decide⟩
    obtain ⟨T61, h61, X61, e61, W61, st61⟩ := stD X57 hx hZ e57 Ar60 (j := (0 : Int32)) in60 (g := (mkF m 159 #[.val (.int p0), .val (.int p1), .val (.int p2), .val (.int p3), .val (.int p4), .val (.int p5), .val (.int (2 : Int32)), .val (.long z14), .second, .val (.int m23_s0), .val (.int m39_s0), .val (.int m55_s0), .val (.int m72_s0), .val (.ref b5), .val (.ref b19), .val (.ref b57), .unset] [(.double m148_s0), (.int (0 : Int32)), (.ref b57)])) rfl rfl (hb hby at_159)
    have N61 := Fr.snoc X61 N31 gn57
    have K62 : Keep h0 h61 [] := K58.wr W61 (Or.inr gz57)
    have V61 : Arv Z h61 b57 k57 .double (2 : Int32) [(.double m148_s0), (.double (0 : UInt64))] (.double (0 : UInt64)) := Arv.set Ar60 q60 S60 Nn60 Ha60 G60 rfl W61 0 rfl (show (0 : Nat) < 2 by decide)
    have c63 : ∀ t, Steps p.tables e below (T61.setTop (mkF m 182 #[.val (.int p0), .val (.int p1), .val (.int p2), .val (.int p3), .val (.int p4), .val (.int p5), .val (.int (2 : Int32)), .val (.long z14), .second, .val (.int m23_s0), .val (.int m39_s0), .val (.int m55_s0), .val (.int m72_s0), .val (.ref b5), .val (.ref b19), .val (.ref b57), .unset] [(.double m171_s0), (.int (1 : Int32)), (.ref b57)])) t → Steps p.tables e below (s₁.setTop (entryFrame m #[(.int p0), (.int p1), (.int p2), (.int p3), (.int p4), (.int p5)] maxLocals)) t := by
      intro t k
      refine c59 t ?_
      show Steps p.tables e below (T57.setTop (mkF m 159 #[.val (.int p0), .val (.int p1), .val (.int p2), .val (.int p3), .val (.int p4), .val (.int p5), .val (.int (2 : Int32)), .val (.long z14), .second, .val (.int m23_s0), .val (.int m39_s0), .val (.int m55_s0), .val (.int m72_s0), .val (.ref b5), .val (.ref b19), .val (.ref b57), .unset] [(.double m148_s0), (.int (0 : Int32)), (.ref b57)])) _
      refine st61 _ ?_
      show Steps p.tables e below (T61.setTop (mkF m 160 #[.val (.int p0), .val (.int p1), .val (.int p2), .val (.int p3), .val (.int p4), .val (.int p5), .val (.int (2 : Int32)), .val (.long z14), .second, .val (.int m23_s0), .val (.int m39_s0), .val (.int m55_s0), .val (.int m72_s0), .val (.ref b5), .val (.ref b19), .val (.ref b57), .unset] [])) _
      refine XS.iload X61.here hx rfl (hb hby at_160) rfl ?_
      show Steps p.tables e below (T61.setTop (mkF m 162 #[.val (.int p0), .val (.int p1), .val (.int p2), .val (.int p3), .val (.int p4), .val (.int p5), .val (.int (2 : Int32)), .val (.long z14), .second, .val (.int m23_s0), .val (.int m39_s0), .val (.int m55_s0), .val (.int m72_s0), .val (.ref b5), .val (.ref b19), .val (.ref b57), .unset] [(.int (2 : Int32))])) _
      refine XS.iconst X61.here hx rfl (hb hby at_162) ?_
      show Steps p.tables e below (T61.setTop (mkF m 163 #[.val (.int p0), .val (.int p1), .val (.int p2), .val (.int p3), .val (.int p4), .val (.int p5), .val (.int (2 : Int32)), .val (.long z14), .second, .val (.int m23_s0), .val (.int m39_s0), .val (.int m55_s0), .val (.int m72_s0), .val (.ref b5), .val (.ref b19), .val (.ref b57), .unset] [(.int (1 : Int32)), (.int (2 : Int32))])) _
      refine XS.icmpNo X61.here hx rfl (hb hby at_163) rfl (Jvm.Free.XT.ii_le_f (by decide)) ?_
      show Steps p.tables e below (T61.setTop (mkF m 166 #[.val (.int p0), .val (.int p1), .val (.int p2), .val (.int p3), .val (.int p4), .val (.int p5), .val (.int (2 : Int32)), .val (.long z14), .second, .val (.int m23_s0), .val (.int m39_s0), .val (.int m55_s0), .val (.int m72_s0), .val (.ref b5), .val (.ref b19), .val (.ref b57), .unset] [])) _
      refine XS.aload X61.here hx rfl (hb hby at_166) rfl rfl ?_
      show Steps p.tables e below (T61.setTop (mkF m 168 #[.val (.int p0), .val (.int p1), .val (.int p2), .val (.int p3), .val (.int p4), .val (.int p5), .val (.int (2 : Int32)), .val (.long z14), .second, .val (.int m23_s0), .val (.int m39_s0), .val (.int m55_s0), .val (.int m72_s0), .val (.ref b5), .val (.ref b19), .val (.ref b57), .unset] [(.ref b57)])) _
      refine XS.iconst X61.here hx rfl (hb hby at_168) ?_
      show Steps p.tables e below (T61.setTop (mkF m 169 #[.val (.int p0), .val (.int p1), .val (.int p2), .val (.int p3), .val (.int p4), .val (.int p5), .val (.int (2 : Int32)), .val (.long z14), .second, .val (.int m23_s0), .val (.int m39_s0), .val (.int m55_s0), .val (.int m72_s0), .val (.ref b5), .val (.ref b19), .val (.ref b57), .unset] [(.int (1 : Int32)), (.ref b57)])) _
      refine XS.iload X61.here hx rfl (hb hby at_169) rfl ?_
      by_cases hm171_0 : m39_s0 = (0 : Int32)
      · skip
        show Steps p.tables e below (T61.setTop (mkF m 171 #[.val (.int p0), .val (.int p1), .val (.int p2), .val (.int p3), .val (.int p4), .val (.int p5), .val (.int (2 : Int32)), .val (.long z14), .second, .val (.int m23_s0), .val (.int m39_s0), .val (.int m55_s0), .val (.int m72_s0), .val (.ref b5), .val (.ref b19), .val (.ref b57), .unset] [(.int m39_s0), (.int (1 : Int32)), (.ref b57)])) _
        refine XS.ifYes X61.here hx rfl (pc0 := 171) (pc' := 180) rfl (hb hby at_171) rfl (Jvm.Free.XT.i0_eq_t hm171_0) (by decide) (by decide) ?_
        show Steps p.tables e below (T61.setTop (mkF m 180 #[.val (.int p0), .val (.int p1), .val (.int p2), .val (.int p3), .val (.int p4), .val (.int p5), .val (.int (2 : Int32)), .val (.long z14), .second, .val (.int m23_s0), .val (.int m39_s0), .val (.int m55_s0), .val (.int m72_s0), .val (.ref b5), .val (.ref b19), .val (.ref b57), .unset] [(.int (1 : Int32)), (.ref b57)])) _
        refine XS.iloadN X61.here hx rfl (hb hby at_180) rfl ?_
        show Steps p.tables e below (T61.setTop (mkF m 181 #[.val (.int p0), .val (.int p1), .val (.int p2), .val (.int p3), .val (.int p4), .val (.int p5), .val (.int (2 : Int32)), .val (.long z14), .second, .val (.int m23_s0), .val (.int m39_s0), .val (.int m55_s0), .val (.int m72_s0), .val (.ref b5), .val (.ref b19), .val (.ref b57), .unset] [(.int p1), (.int (1 : Int32)), (.ref b57)])) _
        refine XS.i2dS X61.here hx rfl (hb hby at_181) rfl hz181 ?_
        obtain rfl : z181 = m171_s0 := by rw [← hm171_s0]; simp only [if_pos hm171_0]
        exact k
      · skip
        show Steps p.tables e below (T61.setTop (mkF m 171 #[.val (.int p0), .val (.int p1), .val (.int p2), .val (.int p3), .val (.int p4), .val (.int p5), .val (.int (2 : Int32)), .val (.long z14), .second, .val (.int m23_s0), .val (.int m39_s0), .val (.int m55_s0), .val (.int m72_s0), .val (.ref b5), .val (.ref b19), .val (.ref b57), .unset] [(.int m39_s0), (.int (1 : Int32)), (.ref b57)])) _
        refine XS.ifNo X61.here hx rfl (hb hby at_171) rfl (Jvm.Free.XT.i0_eq_f hm171_0) ?_
        show Steps p.tables e below (T61.setTop (mkF m 174 #[.val (.int p0), .val (.int p1), .val (.int p2), .val (.int p3), .val (.int p4), .val (.int p5), .val (.int (2 : Int32)), .val (.long z14), .second, .val (.int m23_s0), .val (.int m39_s0), .val (.int m55_s0), .val (.int m72_s0), .val (.ref b5), .val (.ref b19), .val (.ref b57), .unset] [(.int (1 : Int32)), (.ref b57)])) _
        refine X61.ldc2DoubleC hx hown (mvT hZ (hw _ (List.mem_of_getElem? (i := 20) rfl))) (g := (mkF m 174 #[.val (.int p0), .val (.int p1), .val (.int p2), .val (.int p3), .val (.int p4), .val (.int p5), .val (.int (2 : Int32)), .val (.long z14), .second, .val (.int m23_s0), .val (.int m39_s0), .val (.int m55_s0), .val (.int m72_s0), .val (.ref b5), .val (.ref b19), .val (.ref b57), .unset] [(.int (1 : Int32)), (.ref b57)])) rfl (hb hby at_174) _ ?_
        show Steps p.tables e below (T61.setTop (mkF m 177 #[.val (.int p0), .val (.int p1), .val (.int p2), .val (.int p3), .val (.int p4), .val (.int p5), .val (.int (2 : Int32)), .val (.long z14), .second, .val (.int m23_s0), .val (.int m39_s0), .val (.int m55_s0), .val (.int m72_s0), .val (.ref b5), .val (.ref b19), .val (.ref b57), .unset] [(.double (18442240474082181120 : UInt64)), (.int (1 : Int32)), (.ref b57)])) _
        refine XS.goto X61.here hx rfl (pc0 := 177) (pc' := 182) rfl (hb hby at_177) (by decide) (by decide) ?_
        obtain rfl : (18442240474082181120 : UInt64) = m171_s0 := by rw [← hm171_s0]; simp only [if_neg hm171_0]
        exact k
    obtain ⟨cl64, Ar64, q64, S64, Nn64, Ha64, G64⟩ := id V61
    have in64 : ¬ ((1 : Int32) < 0 ∨ cl64.slots.size ≤ ((1 : Int32)).toNatClampNeg) := inb_of S64 ⟨by decide, by decide⟩
    obtain ⟨T65, h65, X65, e65, W65, st65⟩ := stD X61 hx hZ e61 Ar64 (j := (1 : Int32)) in64 (g := (mkF m 182 #[.val (.int p0), .val (.int p1), .val (.int p2), .val (.int p3), .val (.int p4), .val (.int p5), .val (.int (2 : Int32)), .val (.long z14), .second, .val (.int m23_s0), .val (.int m39_s0), .val (.int m55_s0), .val (.int m72_s0), .val (.ref b5), .val (.ref b19), .val (.ref b57), .unset] [(.double m171_s0), (.int (1 : Int32)), (.ref b57)])) rfl rfl (hb hby at_182)
    have N65 := Fr.snoc X65 N61 gn57
    have K66 : Keep h0 h65 [] := K62.wr W65 (Or.inr gz57)
    have V65 : Arv Z h65 b57 k57 .double (2 : Int32) [(.double m148_s0), (.double m171_s0)] (.double (0 : UInt64)) := Arv.set Ar64 q64 S64 Nn64 Ha64 G64 rfl W65 1 rfl (show (1 : Nat) < 2 by decide)
    have bT : 0 ≤ z14.toInt ∧ z14.toInt < 2147483648 := by rw [Jvm.OwnF.i2l_v hz14]; exact Jvm.OwnF.mask31 hz13
    have dT : Jvm.OwnF.DV z14.toInt 0 z233 := hz233 ▸ Jvm.OwnF.DV_l2d (Jvm.OwnF.r53 (by omega))
    have e0_ := EVe hz158 hm148_s0
    have c234_nm0_32 := (ev0).nn
    have c234_nm1_32 := e0_.nn
    have x0_ := EV_max (ev0) e0_ hc234_z32
    have e1_ := EVe hz181 hm171_s0
    have c234_nm0_32_2 := (x0_).nn
    have c234_nm1_32_2 := e1_.nn
    have x1_ := EV_max (x0_) e1_ hc234_z32_2
    have s0_ := EV_sub (x1_) (mx_le (mx_le bd0 (bde m23_s0 p0)) (bde m39_s0 p1)) dT bT hc234_z68
    have c234_nn68 := s0_.nn
    obtain ⟨c234_nb78, c234_fi78⟩ := nar2 hc234_m70_s0
    have s1_ := EV_sub (x1_) (mx_le (mx_le bd0 (bde m23_s0 p0)) (bde m39_s0 p1)) dT bT hc234_z68_2
    have c234_nn68_2 := s1_.nn
    obtain ⟨c234_nb78_2, c234_fi78_2⟩ := nar2 hc234_m70_s0_2
    obtain ⟨_, _, ⟨T67, L67, k67, n67⟩, -, X67, ⟨Lc67, hQ67, ql67, qy67, qz67⟩, st67⟩ := Jvm.LawKit.callS X65 hx (y := (⟨"com/example/credal_choice/credalchoice/criteria/Choice", "nearLargest", "([DD)[Z"⟩ : MethodName)) hown (mvT hZ (hw _ (List.mem_of_getElem? (i := 4) rfl))) (mvT hZ (hw _ (List.mem_of_getElem? (i := 5) rfl))) (mvT hZ (hw _ (List.mem_of_getElem? (i := 6) rfl))) (mvT hZ (hw _ (List.mem_of_getElem? (i := 7) rfl))) (by decide) (backOf (W := 0) (rm1_2 l Z a0 hw [] b57 z233 k57 m148_s0 m171_s0 c234_z32 c234_z32_2 c234_z68 c234_z69 c234_m70_s0 c234_z68_2 c234_z69_2 c234_m70_s0_2 h65 n0 (Nat.le_trans (Nat.le_trans (Nat.le_trans (Nat.le_trans (Nat.le_trans (Nat.le_trans (Nat.le_trans (Nat.le_trans (Nat.le_trans (Nat.le_trans (Nat.le_trans (Nat.le_trans (Nat.le_trans Z0 E5.1) (Keep.of_wr W8).1) (Keep.of_wr W11).1) (Keep.of_wr W14).1) (Keep.of_wr W17).1) E19.1) (Keep.of_wr W22).1) (Keep.of_wr W25).1) (Keep.of_wr W28).1) (Keep.of_wr W31).1) E57.1) (Keep.of_wr W61).1) (Keep.of_wr W65).1) V65 hc234_z32 hc234_z32_2 hc234_z68 hc234_z69 hc234_m70_s0 hc234_z68_2 hc234_z69_2 hc234_m70_s0_2 c234_nm0_32 c234_nm1_32 c234_nm0_32_2 c234_nm1_32_2 c234_nn68 c234_nb78 c234_fi78 c234_nn68_2 c234_nb78_2 c234_fi78_2) hZ (hw _ (List.mem_of_getElem? (i := 7) rfl)) (hw _ (List.mem_of_getElem? (i := 6) rfl)) (by decide) (by decide)) (g := (mkF m 234 #[.val (.int p0), .val (.int p1), .val (.int p2), .val (.int p3), .val (.int p4), .val (.int p5), .val (.int (2 : Int32)), .val (.long z14), .second, .val (.int m23_s0), .val (.int m39_s0), .val (.int m55_s0), .val (.int m72_s0), .val (.ref b5), .val (.ref b19), .val (.ref b57), .unset] [(.double z233), (.ref b57)])) rfl (by rw [hml]; rfl) (argsL := [(.ref b57), (.double z233)]) (rest := []) (lenOf pd_2 rfl) rfl (by show 2 * 0 + _ ≤ _; exact Nat.le_of_eq rfl) (hb hby at_234) (fun _ _ => ⟨rfl, e65, (by decide : 3 + 1 ≤ _), (by decide : 10 + 2 ≤ _)⟩)
    dsimp only [Pt.U, Pt.locs, Pt.cells, Pt.slots] at X67 ql67 qy67 qz67 st67 hQ67
    subst ql67 qy67 qz67
    obtain ⟨rb67_b7, kk67_k7, rfl, N67q, gz67_b7, K67q, Q67_0⟩ := hQ67
    have N67 := Fr.app N65 N67q
    have gn67_b7 : n0 ≤ rb67_b7 := Nat.le_trans (Nat.le_trans (Nat.le_trans (Nat.le_trans (Nat.le_trans (Nat.le_trans (Nat.le_trans (Nat.le_trans (Nat.le_trans (Nat.le_trans (Nat.le_trans (Nat.le_trans (Nat.le_trans (Nat.le_trans Z0 E5.1) (Keep.of_wr W8).1) (Keep.of_wr W11).1) (Keep.of_wr W14).1) (Keep.of_wr W17).1) E19.1) (Keep.of_wr W22).1) (Keep.of_wr W25).1) (Keep.of_wr W28).1) (Keep.of_wr W31).1) E57.1) (Keep.of_wr W61).1) (Keep.of_wr W65).1) gz67_b7
    have gy67_b7 : h0.size ≤ rb67_b7 := Nat.le_trans (K66).1 gz67_b7
    have K68 : Keep h0 T67.heap [] := Keep.trans K66 K67q all0
    obtain ⟨cl69, Ar69, -, S69, Nn69, -, -⟩ := id Q67_0
    obtain ⟨cl70, Ar70, -, S70, -, Ha70, -⟩ := id Q67_0
    have in70 : ¬ ((0 : Int32) < 0 ∨ cl70.slots.size ≤ ((0 : Int32)).toNatClampNeg) := inb_of S70 ⟨by decide, by decide⟩
    have f71 := (((((((((V17.ext E19).other W22 (Nat.ne_of_lt (Nat.lt_of_lt_of_le (V17).lt (Nat.le_of_eq g19.symm)))).other W25 (Nat.ne_of_lt (Nat.lt_of_lt_of_le (V17).lt (Nat.le_of_eq g19.symm)))).other W28 (Nat.ne_of_lt (Nat.lt_of_lt_of_le (V17).lt (Nat.le_of_eq g19.symm)))).other W31 (Nat.ne_of_lt (Nat.lt_of_lt_of_le (V17).lt (Nat.le_of_eq g19.symm)))).ext E57).other W61 (Nat.ne_of_lt (Nat.lt_of_lt_of_le ((((((V17.ext E19).other W22 (Nat.ne_of_lt (Nat.lt_of_lt_of_le (V17).lt (Nat.le_of_eq g19.symm)))).other W25 (Nat.ne_of_lt (Nat.lt_of_lt_of_le (V17).lt (Nat.le_of_eq g19.symm)))).other W28 (Nat.ne_of_lt (Nat.lt_of_lt_of_le (V17).lt (Nat.le_of_eq g19.symm)))).other W31 (Nat.ne_of_lt (Nat.lt_of_lt_of_le (V17).lt (Nat.le_of_eq g19.symm))))).lt (Nat.le_of_eq g57.symm)))).other W65 (Nat.ne_of_lt (Nat.lt_of_lt_of_le ((((((V17.ext E19).other W22 (Nat.ne_of_lt (Nat.lt_of_lt_of_le (V17).lt (Nat.le_of_eq g19.symm)))).other W25 (Nat.ne_of_lt (Nat.lt_of_lt_of_le (V17).lt (Nat.le_of_eq g19.symm)))).other W28 (Nat.ne_of_lt (Nat.lt_of_lt_of_le (V17).lt (Nat.le_of_eq g19.symm)))).other W31 (Nat.ne_of_lt (Nat.lt_of_lt_of_le (V17).lt (Nat.le_of_eq g19.symm))))).lt (Nat.le_of_eq g57.symm)))).keep K67q nin0)
    obtain ⟨cl72, Ar72, -, S72, -, Ha72, -⟩ := id f71
    have in72 : ¬ ((0 : Int32) < 0 ∨ cl72.slots.size ≤ ((0 : Int32)).toNatClampNeg) := inb_of S72 ⟨by decide, by decide⟩
    have f73 := ((((V31.ext E57).other W61 (Nat.ne_of_lt (Nat.lt_of_lt_of_le (V31).lt (Nat.le_of_eq g57.symm)))).other W65 (Nat.ne_of_lt (Nat.lt_of_lt_of_le (V31).lt (Nat.le_of_eq g57.symm)))).keep K67q nin0)
    obtain ⟨cl74, Ar74, -, S74, -, Ha74, -⟩ := id f73
    have in74 : ¬ ((0 : Int32) < 0 ∨ cl74.slots.size ≤ ((0 : Int32)).toNatClampNeg) := inb_of S74 ⟨by decide, by decide⟩
    obtain ⟨_, _, ⟨T75, L75, k75, n75⟩, -, X75, ⟨Lc75, hQ75, ql75, qy75, qz75⟩, st75⟩ := Jvm.LawKit.callS X67 hx (y := (⟨"com/example/credal_choice/credalchoice/criteria/ChoiceNearLargestPinLaw", "near", "(JZ[J[ZIJ)Z"⟩ : MethodName)) hown (mvT hZ (hw _ (List.mem_of_getElem? (i := 13) rfl))) (mvT hZ (hw _ (List.mem_of_getElem? (i := 14) rfl))) (mvT hZ (hw _ (List.mem_of_getElem? (i := 15) rfl))) (mvT hZ (hw _ (List.mem_of_getElem? (i := 16) rfl))) (by decide) (backOf (W := 1) (rm3_2 l Z a0 hw [] z88 m23_s0 b5 b19 z14 k5 z88 z93 z98 z103 k19 m23_s0 m39_s0 m55_s0 m72_s0 c274_c16_z12 c274_c16_z14 c274_c16_rv c274_c39_z12 c274_c39_z14 c274_c39_rv c274_rv T67.heap n0 (Nat.le_trans (Nat.le_trans (Nat.le_trans (Nat.le_trans (Nat.le_trans (Nat.le_trans (Nat.le_trans (Nat.le_trans (Nat.le_trans (Nat.le_trans (Nat.le_trans (Nat.le_trans (Nat.le_trans (Nat.le_trans Z0 E5.1) (Keep.of_wr W8).1) (Keep.of_wr W11).1) (Keep.of_wr W14).1) (Keep.of_wr W17).1) E19.1) (Keep.of_wr W22).1) (Keep.of_wr W25).1) (Keep.of_wr W28).1) (Keep.of_wr W31).1) E57.1) (Keep.of_wr W61).1) (Keep.of_wr W65).1) K67q.1) f71 f73 hc274_c16_z12 hc274_c16_z14 hc274_c16_rv hc274_c39_z12 hc274_c39_z14 hc274_c39_rv hc274_rv) hZ (hw _ (List.mem_of_getElem? (i := 16) rfl)) (hw _ (List.mem_of_getElem? (i := 15) rfl)) (by decide) (by decide)) (g := (mkF m 274 #[.val (.int p0), .val (.int p1), .val (.int p2), .val (.int p3), .val (.int p4), .val (.int p5), .val (.int (2 : Int32)), .val (.long z14), .second, .val (.int m23_s0), .val (.int m39_s0), .val (.int m55_s0), .val (.int m72_s0), .val (.ref b5), .val (.ref b19), .val (.ref b57), .val (.ref rb67_b7)] [(.long z14), (.int (2 : Int32)), (.ref b19), (.ref b5), (.int m23_s0), (.long z88), (.int c234_m70_s0)])) rfl (by rw [hml]; rfl) (argsL := [(.long z88), (.int m23_s0), (.ref b5), (.ref b19), (.int (2 : Int32)), (.long z14)]) (rest := [(.int c234_m70_s0)]) (lenOf pd_3 rfl) rfl (by show 2 * 0 + _ ≤ _; exact Nat.le_of_eq rfl) (hb hby at_274) (fun _ _ => ⟨rfl, rfl, (by decide : 4 + 0 ≤ _), (by decide : 12 + 0 ≤ _)⟩)
    dsimp only [Pt.U, Pt.locs, Pt.cells, Pt.slots] at X75 ql75 qy75 qz75 st75 hQ75
    subst ql75 qy75 qz75
    obtain ⟨rfl, N75q, e75⟩ := hQ75
    have N75 := Fr.app N67 N75q
    have br277 : c234_m70_s0 = c274_rv := N2 (bt hz88 hz88 bT hc274_c16_z12 hc274_c16_z14 hc274_c16_rv) (bt hz88 hz93 bT hc274_c39_z12 hc274_c39_z14 hc274_c39_rv) (by simp only [lt_sub, lt_mx]; rfl) (last (EV_cmp e0_ s0_ hc234_z69) hc234_m70_s0) hc274_rv
    obtain ⟨cl76, Ar76, -, S76, -, Ha76, -⟩ := id Q67_0
    have in76 : ¬ ((1 : Int32) < 0 ∨ cl76.slots.size ≤ ((1 : Int32)).toNatClampNeg) := inb_of S76 ⟨by decide, by decide⟩
    obtain ⟨cl77, Ar77, -, S77, -, Ha77, -⟩ := id f71
    have in77 : ¬ ((1 : Int32) < 0 ∨ cl77.slots.size ≤ ((1 : Int32)).toNatClampNeg) := inb_of S77 ⟨by decide, by decide⟩
    obtain ⟨cl78, Ar78, -, S78, -, Ha78, -⟩ := id f73
    have in78 : ¬ ((1 : Int32) < 0 ∨ cl78.slots.size ≤ ((1 : Int32)).toNatClampNeg) := inb_of S78 ⟨by decide, by decide⟩
    obtain ⟨_, _, ⟨T79, L79, k79, n79⟩, -, X79, ⟨Lc79, hQ79, ql79, qy79, qz79⟩, st79⟩ := Jvm.LawKit.callS X75 hx (y := (⟨"com/example/credal_choice/credalchoice/criteria/ChoiceNearLargestPinLaw", "near", "(JZ[J[ZIJ)Z"⟩ : MethodName)) hown (mvT hZ (hw _ (List.mem_of_getElem? (i := 13) rfl))) (mvT hZ (hw _ (List.mem_of_getElem? (i := 14) rfl))) (mvT hZ (hw _ (List.mem_of_getElem? (i := 15) rfl))) (mvT hZ (hw _ (List.mem_of_getElem? (i := 16) rfl))) (by decide) (backOf (W := 1) (rm3_2 l Z a0 hw [] z93 m39_s0 b5 b19 z14 k5 z88 z93 z98 z103 k19 m23_s0 m39_s0 m55_s0 m72_s0 c308_c16_z12 c308_c16_z14 c308_c16_rv c308_c39_z12 c308_c39_z14 c308_c39_rv c308_rv T67.heap n0 (Nat.le_trans (Nat.le_trans (Nat.le_trans (Nat.le_trans (Nat.le_trans (Nat.le_trans (Nat.le_trans (Nat.le_trans (Nat.le_trans (Nat.le_trans (Nat.le_trans (Nat.le_trans (Nat.le_trans (Nat.le_trans Z0 E5.1) (Keep.of_wr W8).1) (Keep.of_wr W11).1) (Keep.of_wr W14).1) (Keep.of_wr W17).1) E19.1) (Keep.of_wr W22).1) (Keep.of_wr W25).1) (Keep.of_wr W28).1) (Keep.of_wr W31).1) E57.1) (Keep.of_wr W61).1) (Keep.of_wr W65).1) K67q.1) f71 f73 hc308_c16_z12 hc308_c16_z14 hc308_c16_rv hc308_c39_z12 hc308_c39_z14 hc308_c39_rv hc308_rv) hZ (hw _ (List.mem_of_getElem? (i := 16) rfl)) (hw _ (List.mem_of_getElem? (i := 15) rfl)) (by decide) (by decide)) (g := (mkF m 308 #[.val (.int p0), .val (.int p1), .val (.int p2), .val (.int p3), .val (.int p4), .val (.int p5), .val (.int (2 : Int32)), .val (.long z14), .second, .val (.int m23_s0), .val (.int m39_s0), .val (.int m55_s0), .val (.int m72_s0), .val (.ref b5), .val (.ref b19), .val (.ref b57), .val (.ref rb67_b7)] [(.long z14), (.int (2 : Int32)), (.ref b19), (.ref b5), (.int m39_s0), (.long z93), (.int c234_m70_s0_2)])) rfl (by rw [hml]; rfl) (argsL := [(.long z93), (.int m39_s0), (.ref b5), (.ref b19), (.int (2 : Int32)), (.long z14)]) (rest := [(.int c234_m70_s0_2)]) (lenOf pd_3 rfl) rfl (by show 2 * 0 + _ ≤ _; exact Nat.le_of_eq rfl) (hb hby at_308) (fun _ _ => ⟨rfl, e75, (by decide : 4 + 0 ≤ _), (by decide : 12 + 0 ≤ _)⟩)
    dsimp only [Pt.U, Pt.locs, Pt.cells, Pt.slots] at X79 ql79 qy79 qz79 st79 hQ79
    subst ql79 qy79 qz79
    obtain ⟨rfl, N79q, e79⟩ := hQ79
    have N79 := Fr.app N75 N79q
    have br311 : c234_m70_s0_2 = c308_rv := N2 (bt hz93 hz88 bT hc308_c16_z12 hc308_c16_z14 hc308_c16_rv) (bt hz93 hz93 bT hc308_c39_z12 hc308_c39_z14 hc308_c39_rv) (by simp only [lt_sub, lt_mx]; rfl) (last (EV_cmp e1_ s1_ hc234_z69_2) hc234_m70_s0_2) hc308_rv
    have c80 : ∀ t, Steps p.tables e below (T79.setTop (mkF m 385 #[.val (.int p0), .val (.int p1), .val (.int p2), .val (.int p3), .val (.int p4), .val (.int p5), .val (.int (2 : Int32)), .val (.long z14), .second, .val (.int m23_s0), .val (.int m39_s0), .val (.int m55_s0), .val (.int m72_s0), .val (.ref b5), .val (.ref b19), .val (.ref b57), .val (.ref rb67_b7)] [(.int (1 : Int32))])) t → Steps p.tables e below (s₁.setTop (entryFrame m #[(.int p0), (.int p1), (.int p2), (.int p3), (.int p4), (.int p5)] maxLocals)) t := by
      intro t k
      refine c63 t ?_
      show Steps p.tables e below (T61.setTop (mkF m 182 #[.val (.int p0), .val (.int p1), .val (.int p2), .val (.int p3), .val (.int p4), .val (.int p5), .val (.int (2 : Int32)), .val (.long z14), .second, .val (.int m23_s0), .val (.int m39_s0), .val (.int m55_s0), .val (.int m72_s0), .val (.ref b5), .val (.ref b19), .val (.ref b57), .unset] [(.double m171_s0), (.int (1 : Int32)), (.ref b57)])) _
      refine st65 _ ?_
      show Steps p.tables e below (T65.setTop (mkF m 183 #[.val (.int p0), .val (.int p1), .val (.int p2), .val (.int p3), .val (.int p4), .val (.int p5), .val (.int (2 : Int32)), .val (.long z14), .second, .val (.int m23_s0), .val (.int m39_s0), .val (.int m55_s0), .val (.int m72_s0), .val (.ref b5), .val (.ref b19), .val (.ref b57), .unset] [])) _
      refine XS.iload X65.here hx rfl (hb hby at_183) rfl ?_
      show Steps p.tables e below (T65.setTop (mkF m 185 #[.val (.int p0), .val (.int p1), .val (.int p2), .val (.int p3), .val (.int p4), .val (.int p5), .val (.int (2 : Int32)), .val (.long z14), .second, .val (.int m23_s0), .val (.int m39_s0), .val (.int m55_s0), .val (.int m72_s0), .val (.ref b5), .val (.ref b19), .val (.ref b57), .unset] [(.int (2 : Int32))])) _
      refine XS.iconst X65.here hx rfl (hb hby at_185) ?_
      show Steps p.tables e below (T65.setTop (mkF m 186 #[.val (.int p0), .val (.int p1), .val (.int p2), .val (.int p3), .val (.int p4), .val (.int p5), .val (.int (2 : Int32)), .val (.long z14), .second, .val (.int m23_s0), .val (.int m39_s0), .val (.int m55_s0), .val (.int m72_s0), .val (.ref b5), .val (.ref b19), .val (.ref b57), .unset] [(.int (2 : Int32)), (.int (2 : Int32))])) _
      refine XS.icmpYes X65.here hx rfl (pc0 := 186) (pc' := 206) rfl (hb hby at_186) rfl (Jvm.Free.XT.ii_le_t (by decide)) (by decide) (by decide) ?_
      show Steps p.tables e below (T65.setTop (mkF m 206 #[.val (.int p0), .val (.int p1), .val (.int p2), .val (.int p3), .val (.int p4), .val (.int p5), .val (.int (2 : Int32)), .val (.long z14), .second, .val (.int m23_s0), .val (.int m39_s0), .val (.int m55_s0), .val (.int m72_s0), .val (.ref b5), .val (.ref b19), .val (.ref b57), .unset] [])) _
      refine XS.iload X65.here hx rfl (hb hby at_206) rfl ?_
      show Steps p.tables e below (T65.setTop (mkF m 208 #[.val (.int p0), .val (.int p1), .val (.int p2), .val (.int p3), .val (.int p4), .val (.int p5), .val (.int (2 : Int32)), .val (.long z14), .second, .val (.int m23_s0), .val (.int m39_s0), .val (.int m55_s0), .val (.int m72_s0), .val (.ref b5), .val (.ref b19), .val (.ref b57), .unset] [(.int (2 : Int32))])) _
      refine XS.iconst X65.here hx rfl (hb hby at_208) ?_
      show Steps p.tables e below (T65.setTop (mkF m 209 #[.val (.int p0), .val (.int p1), .val (.int p2), .val (.int p3), .val (.int p4), .val (.int p5), .val (.int (2 : Int32)), .val (.long z14), .second, .val (.int m23_s0), .val (.int m39_s0), .val (.int m55_s0), .val (.int m72_s0), .val (.ref b5), .val (.ref b19), .val (.ref b57), .unset] [(.int (3 : Int32)), (.int (2 : Int32))])) _
      refine XS.icmpYes X65.here hx rfl (pc0 := 209) (pc' := 229) rfl (hb hby at_209) rfl (Jvm.Free.XT.ii_le_t (by decide)) (by decide) (by decide) ?_
      show Steps p.tables e below (T65.setTop (mkF m 229 #[.val (.int p0), .val (.int p1), .val (.int p2), .val (.int p3), .val (.int p4), .val (.int p5), .val (.int (2 : Int32)), .val (.long z14), .second, .val (.int m23_s0), .val (.int m39_s0), .val (.int m55_s0), .val (.int m72_s0), .val (.ref b5), .val (.ref b19), .val (.ref b57), .unset] [])) _
      refine XS.aload X65.here hx rfl (hb hby at_229) rfl rfl ?_
      show Steps p.tables e below (T65.setTop (mkF m 231 #[.val (.int p0), .val (.int p1), .val (.int p2), .val (.int p3), .val (.int p4), .val (.int p5), .val (.int (2 : Int32)), .val (.long z14), .second, .val (.int m23_s0), .val (.int m39_s0), .val (.int m55_s0), .val (.int m72_s0), .val (.ref b5), .val (.ref b19), .val (.ref b57), .unset] [(.ref b57)])) _
      refine XS.lload X65.here hx rfl (hb hby at_231) rfl ?_
      show Steps p.tables e below (T65.setTop (mkF m 233 #[.val (.int p0), .val (.int p1), .val (.int p2), .val (.int p3), .val (.int p4), .val (.int p5), .val (.int (2 : Int32)), .val (.long z14), .second, .val (.int m23_s0), .val (.int m39_s0), .val (.int m55_s0), .val (.int m72_s0), .val (.ref b5), .val (.ref b19), .val (.ref b57), .unset] [(.long z14), (.ref b57)])) _
      refine XS.l2dS X65.here hx rfl (hb hby at_233) rfl hz233 ?_
      show Steps p.tables e below (T65.setTop (mkF m 234 #[.val (.int p0), .val (.int p1), .val (.int p2), .val (.int p3), .val (.int p4), .val (.int p5), .val (.int (2 : Int32)), .val (.long z14), .second, .val (.int m23_s0), .val (.int m39_s0), .val (.int m55_s0), .val (.int m72_s0), .val (.ref b5), .val (.ref b19), .val (.ref b57), .unset] [(.double z233), (.ref b57)])) _
      refine st67 _ ?_
      show Steps p.tables e below (T67.setTop (mkF m 237 #[.val (.int p0), .val (.int p1), .val (.int p2), .val (.int p3), .val (.int p4), .val (.int p5), .val (.int (2 : Int32)), .val (.long z14), .second, .val (.int m23_s0), .val (.int m39_s0), .val (.int m55_s0), .val (.int m72_s0), .val (.ref b5), .val (.ref b19), .val (.ref b57), .unset] [(.ref rb67_b7)])) _
      refine XS.astore X67.here hx rfl (hb hby at_237) rfl rfl (l' := #[.val (.int p0), .val (.int p1), .val (.int p2), .val (.int p3), .val (.int p4), .val (.int p5), .val (.int (2 : Int32)), .val (.long z14), .second, .val (.int m23_s0), .val (.int m39_s0), .val (.int m55_s0), .val (.int m72_s0), .val (.ref b5), .val (.ref b19), .val (.ref b57), .val (.ref rb67_b7)]) rfl ?_
      show Steps p.tables e below (T67.setTop (mkF m 239 #[.val (.int p0), .val (.int p1), .val (.int p2), .val (.int p3), .val (.int p4), .val (.int p5), .val (.int (2 : Int32)), .val (.long z14), .second, .val (.int m23_s0), .val (.int m39_s0), .val (.int m55_s0), .val (.int m72_s0), .val (.ref b5), .val (.ref b19), .val (.ref b57), .val (.ref rb67_b7)] [])) _
      refine XS.aload X67.here hx rfl (hb hby at_239) rfl rfl ?_
      show Steps p.tables e below (T67.setTop (mkF m 241 #[.val (.int p0), .val (.int p1), .val (.int p2), .val (.int p3), .val (.int p4), .val (.int p5), .val (.int (2 : Int32)), .val (.long z14), .second, .val (.int m23_s0), .val (.int m39_s0), .val (.int m55_s0), .val (.int m72_s0), .val (.ref b5), .val (.ref b19), .val (.ref b57), .val (.ref rb67_b7)] [(.ref rb67_b7)])) _
      refine X67.arraylength hx Ar69.1 (State.isArrayOf_alike hZ.alike Ar69.2.1) (g := (mkF m 241 #[.val (.int p0), .val (.int p1), .val (.int p2), .val (.int p3), .val (.int p4), .val (.int p5), .val (.int (2 : Int32)), .val (.long z14), .second, .val (.int m23_s0), .val (.int m39_s0), .val (.int m55_s0), .val (.int m72_s0), .val (.ref b5), .val (.ref b19), .val (.ref b57), .val (.ref rb67_b7)] [(.ref rb67_b7)])) rfl rfl (hb hby at_241) _ ?_
      rw [len_of S69 Nn69]
      show Steps p.tables e below (T67.setTop (mkF m 242 #[.val (.int p0), .val (.int p1), .val (.int p2), .val (.int p3), .val (.int p4), .val (.int p5), .val (.int (2 : Int32)), .val (.long z14), .second, .val (.int m23_s0), .val (.int m39_s0), .val (.int m55_s0), .val (.int m72_s0), .val (.ref b5), .val (.ref b19), .val (.ref b57), .val (.ref rb67_b7)] [(.int (2 : Int32))])) _
      refine XS.iload X67.here hx rfl (hb hby at_242) rfl ?_
      show Steps p.tables e below (T67.setTop (mkF m 244 #[.val (.int p0), .val (.int p1), .val (.int p2), .val (.int p3), .val (.int p4), .val (.int p5), .val (.int (2 : Int32)), .val (.long z14), .second, .val (.int m23_s0), .val (.int m39_s0), .val (.int m55_s0), .val (.int m72_s0), .val (.ref b5), .val (.ref b19), .val (.ref b57), .val (.ref rb67_b7)] [(.int (2 : Int32)), (.int (2 : Int32))])) _
      refine XS.icmpYes X67.here hx rfl (pc0 := 244) (pc' := 249) rfl (hb hby at_244) rfl (Jvm.Free.XT.ii_eq_t (by decide)) (by decide) (by decide) ?_
      show Steps p.tables e below (T67.setTop (mkF m 249 #[.val (.int p0), .val (.int p1), .val (.int p2), .val (.int p3), .val (.int p4), .val (.int p5), .val (.int (2 : Int32)), .val (.long z14), .second, .val (.int m23_s0), .val (.int m39_s0), .val (.int m55_s0), .val (.int m72_s0), .val (.ref b5), .val (.ref b19), .val (.ref b57), .val (.ref rb67_b7)] [])) _
      refine XS.iload X67.here hx rfl (hb hby at_249) rfl ?_
      show Steps p.tables e below (T67.setTop (mkF m 251 #[.val (.int p0), .val (.int p1), .val (.int p2), .val (.int p3), .val (.int p4), .val (.int p5), .val (.int (2 : Int32)), .val (.long z14), .second, .val (.int m23_s0), .val (.int m39_s0), .val (.int m55_s0), .val (.int m72_s0), .val (.ref b5), .val (.ref b19), .val (.ref b57), .val (.ref rb67_b7)] [(.int (2 : Int32))])) _
      refine XS.ifNo X67.here hx rfl (hb hby at_251) rfl (Jvm.Free.XT.i0_le_f (by decide)) ?_
      show Steps p.tables e below (T67.setTop (mkF m 254 #[.val (.int p0), .val (.int p1), .val (.int p2), .val (.int p3), .val (.int p4), .val (.int p5), .val (.int (2 : Int32)), .val (.long z14), .second, .val (.int m23_s0), .val (.int m39_s0), .val (.int m55_s0), .val (.int m72_s0), .val (.ref b5), .val (.ref b19), .val (.ref b57), .val (.ref rb67_b7)] [])) _
      refine XS.aload X67.here hx rfl (hb hby at_254) rfl rfl ?_
      show Steps p.tables e below (T67.setTop (mkF m 256 #[.val (.int p0), .val (.int p1), .val (.int p2), .val (.int p3), .val (.int p4), .val (.int p5), .val (.int (2 : Int32)), .val (.long z14), .second, .val (.int m23_s0), .val (.int m39_s0), .val (.int m55_s0), .val (.int m72_s0), .val (.ref b5), .val (.ref b19), .val (.ref b57), .val (.ref rb67_b7)] [(.ref rb67_b7)])) _
      refine XS.iconst X67.here hx rfl (hb hby at_256) ?_
      show Steps p.tables e below (T67.setTop (mkF m 257 #[.val (.int p0), .val (.int p1), .val (.int p2), .val (.int p3), .val (.int p4), .val (.int p5), .val (.int (2 : Int32)), .val (.long z14), .second, .val (.int m23_s0), .val (.int m39_s0), .val (.int m55_s0), .val (.int m72_s0), .val (.ref b5), .val (.ref b19), .val (.ref b57), .val (.ref rb67_b7)] [(.int (0 : Int32)), (.ref rb67_b7)])) _
      refine X67.baloadBooleans hx (j := (0 : Int32)) (v := (.int c234_m70_s0)) Ar70.1 (State.isArrayOf_alike hZ.alike Ar70.2.1) Ar70.2.2 in70 (Has.at Ha70 in70 rfl) (g := (mkF m 257 #[.val (.int p0), .val (.int p1), .val (.int p2), .val (.int p3), .val (.int p4), .val (.int p5), .val (.int (2 : Int32)), .val (.long z14), .second, .val (.int m23_s0), .val (.int m39_s0), .val (.int m55_s0), .val (.int m72_s0), .val (.ref b5), .val (.ref b19), .val (.ref b57), .val (.ref rb67_b7)] [(.int (0 : Int32)), (.ref rb67_b7)])) rfl rfl (hb hby at_257) _ ?_
      show Steps p.tables e below (T67.setTop (mkF m 258 #[.val (.int p0), .val (.int p1), .val (.int p2), .val (.int p3), .val (.int p4), .val (.int p5), .val (.int (2 : Int32)), .val (.long z14), .second, .val (.int m23_s0), .val (.int m39_s0), .val (.int m55_s0), .val (.int m72_s0), .val (.ref b5), .val (.ref b19), .val (.ref b57), .val (.ref rb67_b7)] [(.int c234_m70_s0)])) _
      refine XS.aload X67.here hx rfl (hb hby at_258) rfl rfl ?_
      show Steps p.tables e below (T67.setTop (mkF m 260 #[.val (.int p0), .val (.int p1), .val (.int p2), .val (.int p3), .val (.int p4), .val (.int p5), .val (.int (2 : Int32)), .val (.long z14), .second, .val (.int m23_s0), .val (.int m39_s0), .val (.int m55_s0), .val (.int m72_s0), .val (.ref b5), .val (.ref b19), .val (.ref b57), .val (.ref rb67_b7)] [(.ref b5), (.int c234_m70_s0)])) _
      refine XS.iconst X67.here hx rfl (hb hby at_260) ?_
      show Steps p.tables e below (T67.setTop (mkF m 261 #[.val (.int p0), .val (.int p1), .val (.int p2), .val (.int p3), .val (.int p4), .val (.int p5), .val (.int (2 : Int32)), .val (.long z14), .second, .val (.int m23_s0), .val (.int m39_s0), .val (.int m55_s0), .val (.int m72_s0), .val (.ref b5), .val (.ref b19), .val (.ref b57), .val (.ref rb67_b7)] [(.int (0 : Int32)), (.ref b5), (.int c234_m70_s0)])) _
      refine X67.laload hx (j := (0 : Int32)) (v := (.long z88)) Ar72.1 (State.isArrayOf_alike hZ.alike Ar72.2.1) Ar72.2.2 in72 (Has.at Ha72 in72 rfl) (g := (mkF m 261 #[.val (.int p0), .val (.int p1), .val (.int p2), .val (.int p3), .val (.int p4), .val (.int p5), .val (.int (2 : Int32)), .val (.long z14), .second, .val (.int m23_s0), .val (.int m39_s0), .val (.int m55_s0), .val (.int m72_s0), .val (.ref b5), .val (.ref b19), .val (.ref b57), .val (.ref rb67_b7)] [(.int (0 : Int32)), (.ref b5), (.int c234_m70_s0)])) rfl rfl (hb hby at_261) _ ?_
      show Steps p.tables e below (T67.setTop (mkF m 262 #[.val (.int p0), .val (.int p1), .val (.int p2), .val (.int p3), .val (.int p4), .val (.int p5), .val (.int (2 : Int32)), .val (.long z14), .second, .val (.int m23_s0), .val (.int m39_s0), .val (.int m55_s0), .val (.int m72_s0), .val (.ref b5), .val (.ref b19), .val (.ref b57), .val (.ref rb67_b7)] [(.long z88), (.int c234_m70_s0)])) _
      refine XS.aload X67.here hx rfl (hb hby at_262) rfl rfl ?_
      show Steps p.tables e below (T67.setTop (mkF m 264 #[.val (.int p0), .val (.int p1), .val (.int p2), .val (.int p3), .val (.int p4), .val (.int p5), .val (.int (2 : Int32)), .val (.long z14), .second, .val (.int m23_s0), .val (.int m39_s0), .val (.int m55_s0), .val (.int m72_s0), .val (.ref b5), .val (.ref b19), .val (.ref b57), .val (.ref rb67_b7)] [(.ref b19), (.long z88), (.int c234_m70_s0)])) _
      refine XS.iconst X67.here hx rfl (hb hby at_264) ?_
      show Steps p.tables e below (T67.setTop (mkF m 265 #[.val (.int p0), .val (.int p1), .val (.int p2), .val (.int p3), .val (.int p4), .val (.int p5), .val (.int (2 : Int32)), .val (.long z14), .second, .val (.int m23_s0), .val (.int m39_s0), .val (.int m55_s0), .val (.int m72_s0), .val (.ref b5), .val (.ref b19), .val (.ref b57), .val (.ref rb67_b7)] [(.int (0 : Int32)), (.ref b19), (.long z88), (.int c234_m70_s0)])) _
      refine X67.baloadBooleans hx (j := (0 : Int32)) (v := (.int m23_s0)) Ar74.1 (State.isArrayOf_alike hZ.alike Ar74.2.1) Ar74.2.2 in74 (Has.at Ha74 in74 rfl) (g := (mkF m 265 #[.val (.int p0), .val (.int p1), .val (.int p2), .val (.int p3), .val (.int p4), .val (.int p5), .val (.int (2 : Int32)), .val (.long z14), .second, .val (.int m23_s0), .val (.int m39_s0), .val (.int m55_s0), .val (.int m72_s0), .val (.ref b5), .val (.ref b19), .val (.ref b57), .val (.ref rb67_b7)] [(.int (0 : Int32)), (.ref b19), (.long z88), (.int c234_m70_s0)])) rfl rfl (hb hby at_265) _ ?_
      show Steps p.tables e below (T67.setTop (mkF m 266 #[.val (.int p0), .val (.int p1), .val (.int p2), .val (.int p3), .val (.int p4), .val (.int p5), .val (.int (2 : Int32)), .val (.long z14), .second, .val (.int m23_s0), .val (.int m39_s0), .val (.int m55_s0), .val (.int m72_s0), .val (.ref b5), .val (.ref b19), .val (.ref b57), .val (.ref rb67_b7)] [(.int m23_s0), (.long z88), (.int c234_m70_s0)])) _
      refine XS.aload X67.here hx rfl (hb hby at_266) rfl rfl ?_
      show Steps p.tables e below (T67.setTop (mkF m 268 #[.val (.int p0), .val (.int p1), .val (.int p2), .val (.int p3), .val (.int p4), .val (.int p5), .val (.int (2 : Int32)), .val (.long z14), .second, .val (.int m23_s0), .val (.int m39_s0), .val (.int m55_s0), .val (.int m72_s0), .val (.ref b5), .val (.ref b19), .val (.ref b57), .val (.ref rb67_b7)] [(.ref b5), (.int m23_s0), (.long z88), (.int c234_m70_s0)])) _
      refine XS.aload X67.here hx rfl (hb hby at_268) rfl rfl ?_
      show Steps p.tables e below (T67.setTop (mkF m 270 #[.val (.int p0), .val (.int p1), .val (.int p2), .val (.int p3), .val (.int p4), .val (.int p5), .val (.int (2 : Int32)), .val (.long z14), .second, .val (.int m23_s0), .val (.int m39_s0), .val (.int m55_s0), .val (.int m72_s0), .val (.ref b5), .val (.ref b19), .val (.ref b57), .val (.ref rb67_b7)] [(.ref b19), (.ref b5), (.int m23_s0), (.long z88), (.int c234_m70_s0)])) _
      refine XS.iload X67.here hx rfl (hb hby at_270) rfl ?_
      show Steps p.tables e below (T67.setTop (mkF m 272 #[.val (.int p0), .val (.int p1), .val (.int p2), .val (.int p3), .val (.int p4), .val (.int p5), .val (.int (2 : Int32)), .val (.long z14), .second, .val (.int m23_s0), .val (.int m39_s0), .val (.int m55_s0), .val (.int m72_s0), .val (.ref b5), .val (.ref b19), .val (.ref b57), .val (.ref rb67_b7)] [(.int (2 : Int32)), (.ref b19), (.ref b5), (.int m23_s0), (.long z88), (.int c234_m70_s0)])) _
      refine XS.lload X67.here hx rfl (hb hby at_272) rfl ?_
      show Steps p.tables e below (T67.setTop (mkF m 274 #[.val (.int p0), .val (.int p1), .val (.int p2), .val (.int p3), .val (.int p4), .val (.int p5), .val (.int (2 : Int32)), .val (.long z14), .second, .val (.int m23_s0), .val (.int m39_s0), .val (.int m55_s0), .val (.int m72_s0), .val (.ref b5), .val (.ref b19), .val (.ref b57), .val (.ref rb67_b7)] [(.long z14), (.int (2 : Int32)), (.ref b19), (.ref b5), (.int m23_s0), (.long z88), (.int c234_m70_s0)])) _
      refine st75 _ ?_
      show Steps p.tables e below (T75.setTop (mkF m 277 #[.val (.int p0), .val (.int p1), .val (.int p2), .val (.int p3), .val (.int p4), .val (.int p5), .val (.int (2 : Int32)), .val (.long z14), .second, .val (.int m23_s0), .val (.int m39_s0), .val (.int m55_s0), .val (.int m72_s0), .val (.ref b5), .val (.ref b19), .val (.ref b57), .val (.ref rb67_b7)] [(.int c274_rv), (.int c234_m70_s0)])) _
      refine XS.icmpYes X75.here hx rfl (pc0 := 277) (pc' := 282) rfl (hb hby at_277) rfl (Jvm.Free.XT.ii_eq_t br277) (by decide) (by decide) ?_
      show Steps p.tables e below (T75.setTop (mkF m 282 #[.val (.int p0), .val (.int p1), .val (.int p2), .val (.int p3), .val (.int p4), .val (.int p5), .val (.int (2 : Int32)), .val (.long z14), .second, .val (.int m23_s0), .val (.int m39_s0), .val (.int m55_s0), .val (.int m72_s0), .val (.ref b5), .val (.ref b19), .val (.ref b57), .val (.ref rb67_b7)] [])) _
      refine XS.iload X75.here hx rfl (hb hby at_282) rfl ?_
      show Steps p.tables e below (T75.setTop (mkF m 284 #[.val (.int p0), .val (.int p1), .val (.int p2), .val (.int p3), .val (.int p4), .val (.int p5), .val (.int (2 : Int32)), .val (.long z14), .second, .val (.int m23_s0), .val (.int m39_s0), .val (.int m55_s0), .val (.int m72_s0), .val (.ref b5), .val (.ref b19), .val (.ref b57), .val (.ref rb67_b7)] [(.int (2 : Int32))])) _
      refine XS.iconst X75.here hx rfl (hb hby at_284) ?_
      show Steps p.tables e below (T75.setTop (mkF m 285 #[.val (.int p0), .val (.int p1), .val (.int p2), .val (.int p3), .val (.int p4), .val (.int p5), .val (.int (2 : Int32)), .val (.long z14), .second, .val (.int m23_s0), .val (.int m39_s0), .val (.int m55_s0), .val (.int m72_s0), .val (.ref b5), .val (.ref b19), .val (.ref b57), .val (.ref rb67_b7)] [(.int (1 : Int32)), (.int (2 : Int32))])) _
      refine XS.icmpNo X75.here hx rfl (hb hby at_285) rfl (Jvm.Free.XT.ii_le_f (by decide)) ?_
      show Steps p.tables e below (T75.setTop (mkF m 288 #[.val (.int p0), .val (.int p1), .val (.int p2), .val (.int p3), .val (.int p4), .val (.int p5), .val (.int (2 : Int32)), .val (.long z14), .second, .val (.int m23_s0), .val (.int m39_s0), .val (.int m55_s0), .val (.int m72_s0), .val (.ref b5), .val (.ref b19), .val (.ref b57), .val (.ref rb67_b7)] [])) _
      refine XS.aload X75.here hx rfl (hb hby at_288) rfl rfl ?_
      show Steps p.tables e below (T75.setTop (mkF m 290 #[.val (.int p0), .val (.int p1), .val (.int p2), .val (.int p3), .val (.int p4), .val (.int p5), .val (.int (2 : Int32)), .val (.long z14), .second, .val (.int m23_s0), .val (.int m39_s0), .val (.int m55_s0), .val (.int m72_s0), .val (.ref b5), .val (.ref b19), .val (.ref b57), .val (.ref rb67_b7)] [(.ref rb67_b7)])) _
      refine XS.iconst X75.here hx rfl (hb hby at_290) ?_
      show Steps p.tables e below (T75.setTop (mkF m 291 #[.val (.int p0), .val (.int p1), .val (.int p2), .val (.int p3), .val (.int p4), .val (.int p5), .val (.int (2 : Int32)), .val (.long z14), .second, .val (.int m23_s0), .val (.int m39_s0), .val (.int m55_s0), .val (.int m72_s0), .val (.ref b5), .val (.ref b19), .val (.ref b57), .val (.ref rb67_b7)] [(.int (1 : Int32)), (.ref rb67_b7)])) _
      refine X75.baloadBooleans hx (j := (1 : Int32)) (v := (.int c234_m70_s0_2)) (by rw [e75]; exact Ar76.1) (State.isArrayOf_alike hZ.alike Ar76.2.1) Ar76.2.2 in76 (Has.at Ha76 in76 rfl) (g := (mkF m 291 #[.val (.int p0), .val (.int p1), .val (.int p2), .val (.int p3), .val (.int p4), .val (.int p5), .val (.int (2 : Int32)), .val (.long z14), .second, .val (.int m23_s0), .val (.int m39_s0), .val (.int m55_s0), .val (.int m72_s0), .val (.ref b5), .val (.ref b19), .val (.ref b57), .val (.ref rb67_b7)] [(.int (1 : Int32)), (.ref rb67_b7)])) rfl rfl (hb hby at_291) _ ?_
      show Steps p.tables e below (T75.setTop (mkF m 292 #[.val (.int p0), .val (.int p1), .val (.int p2), .val (.int p3), .val (.int p4), .val (.int p5), .val (.int (2 : Int32)), .val (.long z14), .second, .val (.int m23_s0), .val (.int m39_s0), .val (.int m55_s0), .val (.int m72_s0), .val (.ref b5), .val (.ref b19), .val (.ref b57), .val (.ref rb67_b7)] [(.int c234_m70_s0_2)])) _
      refine XS.aload X75.here hx rfl (hb hby at_292) rfl rfl ?_
      show Steps p.tables e below (T75.setTop (mkF m 294 #[.val (.int p0), .val (.int p1), .val (.int p2), .val (.int p3), .val (.int p4), .val (.int p5), .val (.int (2 : Int32)), .val (.long z14), .second, .val (.int m23_s0), .val (.int m39_s0), .val (.int m55_s0), .val (.int m72_s0), .val (.ref b5), .val (.ref b19), .val (.ref b57), .val (.ref rb67_b7)] [(.ref b5), (.int c234_m70_s0_2)])) _
      refine XS.iconst X75.here hx rfl (hb hby at_294) ?_
      show Steps p.tables e below (T75.setTop (mkF m 295 #[.val (.int p0), .val (.int p1), .val (.int p2), .val (.int p3), .val (.int p4), .val (.int p5), .val (.int (2 : Int32)), .val (.long z14), .second, .val (.int m23_s0), .val (.int m39_s0), .val (.int m55_s0), .val (.int m72_s0), .val (.ref b5), .val (.ref b19), .val (.ref b57), .val (.ref rb67_b7)] [(.int (1 : Int32)), (.ref b5), (.int c234_m70_s0_2)])) _
      refine X75.laload hx (j := (1 : Int32)) (v := (.long z93)) (by rw [e75]; exact Ar77.1) (State.isArrayOf_alike hZ.alike Ar77.2.1) Ar77.2.2 in77 (Has.at Ha77 in77 rfl) (g := (mkF m 295 #[.val (.int p0), .val (.int p1), .val (.int p2), .val (.int p3), .val (.int p4), .val (.int p5), .val (.int (2 : Int32)), .val (.long z14), .second, .val (.int m23_s0), .val (.int m39_s0), .val (.int m55_s0), .val (.int m72_s0), .val (.ref b5), .val (.ref b19), .val (.ref b57), .val (.ref rb67_b7)] [(.int (1 : Int32)), (.ref b5), (.int c234_m70_s0_2)])) rfl rfl (hb hby at_295) _ ?_
      show Steps p.tables e below (T75.setTop (mkF m 296 #[.val (.int p0), .val (.int p1), .val (.int p2), .val (.int p3), .val (.int p4), .val (.int p5), .val (.int (2 : Int32)), .val (.long z14), .second, .val (.int m23_s0), .val (.int m39_s0), .val (.int m55_s0), .val (.int m72_s0), .val (.ref b5), .val (.ref b19), .val (.ref b57), .val (.ref rb67_b7)] [(.long z93), (.int c234_m70_s0_2)])) _
      refine XS.aload X75.here hx rfl (hb hby at_296) rfl rfl ?_
      show Steps p.tables e below (T75.setTop (mkF m 298 #[.val (.int p0), .val (.int p1), .val (.int p2), .val (.int p3), .val (.int p4), .val (.int p5), .val (.int (2 : Int32)), .val (.long z14), .second, .val (.int m23_s0), .val (.int m39_s0), .val (.int m55_s0), .val (.int m72_s0), .val (.ref b5), .val (.ref b19), .val (.ref b57), .val (.ref rb67_b7)] [(.ref b19), (.long z93), (.int c234_m70_s0_2)])) _
      refine XS.iconst X75.here hx rfl (hb hby at_298) ?_
      show Steps p.tables e below (T75.setTop (mkF m 299 #[.val (.int p0), .val (.int p1), .val (.int p2), .val (.int p3), .val (.int p4), .val (.int p5), .val (.int (2 : Int32)), .val (.long z14), .second, .val (.int m23_s0), .val (.int m39_s0), .val (.int m55_s0), .val (.int m72_s0), .val (.ref b5), .val (.ref b19), .val (.ref b57), .val (.ref rb67_b7)] [(.int (1 : Int32)), (.ref b19), (.long z93), (.int c234_m70_s0_2)])) _
      refine X75.baloadBooleans hx (j := (1 : Int32)) (v := (.int m39_s0)) (by rw [e75]; exact Ar78.1) (State.isArrayOf_alike hZ.alike Ar78.2.1) Ar78.2.2 in78 (Has.at Ha78 in78 rfl) (g := (mkF m 299 #[.val (.int p0), .val (.int p1), .val (.int p2), .val (.int p3), .val (.int p4), .val (.int p5), .val (.int (2 : Int32)), .val (.long z14), .second, .val (.int m23_s0), .val (.int m39_s0), .val (.int m55_s0), .val (.int m72_s0), .val (.ref b5), .val (.ref b19), .val (.ref b57), .val (.ref rb67_b7)] [(.int (1 : Int32)), (.ref b19), (.long z93), (.int c234_m70_s0_2)])) rfl rfl (hb hby at_299) _ ?_
      show Steps p.tables e below (T75.setTop (mkF m 300 #[.val (.int p0), .val (.int p1), .val (.int p2), .val (.int p3), .val (.int p4), .val (.int p5), .val (.int (2 : Int32)), .val (.long z14), .second, .val (.int m23_s0), .val (.int m39_s0), .val (.int m55_s0), .val (.int m72_s0), .val (.ref b5), .val (.ref b19), .val (.ref b57), .val (.ref rb67_b7)] [(.int m39_s0), (.long z93), (.int c234_m70_s0_2)])) _
      refine XS.aload X75.here hx rfl (hb hby at_300) rfl rfl ?_
      show Steps p.tables e below (T75.setTop (mkF m 302 #[.val (.int p0), .val (.int p1), .val (.int p2), .val (.int p3), .val (.int p4), .val (.int p5), .val (.int (2 : Int32)), .val (.long z14), .second, .val (.int m23_s0), .val (.int m39_s0), .val (.int m55_s0), .val (.int m72_s0), .val (.ref b5), .val (.ref b19), .val (.ref b57), .val (.ref rb67_b7)] [(.ref b5), (.int m39_s0), (.long z93), (.int c234_m70_s0_2)])) _
      refine XS.aload X75.here hx rfl (hb hby at_302) rfl rfl ?_
      show Steps p.tables e below (T75.setTop (mkF m 304 #[.val (.int p0), .val (.int p1), .val (.int p2), .val (.int p3), .val (.int p4), .val (.int p5), .val (.int (2 : Int32)), .val (.long z14), .second, .val (.int m23_s0), .val (.int m39_s0), .val (.int m55_s0), .val (.int m72_s0), .val (.ref b5), .val (.ref b19), .val (.ref b57), .val (.ref rb67_b7)] [(.ref b19), (.ref b5), (.int m39_s0), (.long z93), (.int c234_m70_s0_2)])) _
      refine XS.iload X75.here hx rfl (hb hby at_304) rfl ?_
      show Steps p.tables e below (T75.setTop (mkF m 306 #[.val (.int p0), .val (.int p1), .val (.int p2), .val (.int p3), .val (.int p4), .val (.int p5), .val (.int (2 : Int32)), .val (.long z14), .second, .val (.int m23_s0), .val (.int m39_s0), .val (.int m55_s0), .val (.int m72_s0), .val (.ref b5), .val (.ref b19), .val (.ref b57), .val (.ref rb67_b7)] [(.int (2 : Int32)), (.ref b19), (.ref b5), (.int m39_s0), (.long z93), (.int c234_m70_s0_2)])) _
      refine XS.lload X75.here hx rfl (hb hby at_306) rfl ?_
      show Steps p.tables e below (T75.setTop (mkF m 308 #[.val (.int p0), .val (.int p1), .val (.int p2), .val (.int p3), .val (.int p4), .val (.int p5), .val (.int (2 : Int32)), .val (.long z14), .second, .val (.int m23_s0), .val (.int m39_s0), .val (.int m55_s0), .val (.int m72_s0), .val (.ref b5), .val (.ref b19), .val (.ref b57), .val (.ref rb67_b7)] [(.long z14), (.int (2 : Int32)), (.ref b19), (.ref b5), (.int m39_s0), (.long z93), (.int c234_m70_s0_2)])) _
      refine st79 _ ?_
      show Steps p.tables e below (T79.setTop (mkF m 311 #[.val (.int p0), .val (.int p1), .val (.int p2), .val (.int p3), .val (.int p4), .val (.int p5), .val (.int (2 : Int32)), .val (.long z14), .second, .val (.int m23_s0), .val (.int m39_s0), .val (.int m55_s0), .val (.int m72_s0), .val (.ref b5), .val (.ref b19), .val (.ref b57), .val (.ref rb67_b7)] [(.int c308_rv), (.int c234_m70_s0_2)])) _
      refine XS.icmpYes X79.here hx rfl (pc0 := 311) (pc' := 316) rfl (hb hby at_311) rfl (Jvm.Free.XT.ii_eq_t br311) (by decide) (by decide) ?_
      show Steps p.tables e below (T79.setTop (mkF m 316 #[.val (.int p0), .val (.int p1), .val (.int p2), .val (.int p3), .val (.int p4), .val (.int p5), .val (.int (2 : Int32)), .val (.long z14), .second, .val (.int m23_s0), .val (.int m39_s0), .val (.int m55_s0), .val (.int m72_s0), .val (.ref b5), .val (.ref b19), .val (.ref b57), .val (.ref rb67_b7)] [])) _
      refine XS.iload X79.here hx rfl (hb hby at_316) rfl ?_
      show Steps p.tables e below (T79.setTop (mkF m 318 #[.val (.int p0), .val (.int p1), .val (.int p2), .val (.int p3), .val (.int p4), .val (.int p5), .val (.int (2 : Int32)), .val (.long z14), .second, .val (.int m23_s0), .val (.int m39_s0), .val (.int m55_s0), .val (.int m72_s0), .val (.ref b5), .val (.ref b19), .val (.ref b57), .val (.ref rb67_b7)] [(.int (2 : Int32))])) _
      refine XS.iconst X79.here hx rfl (hb hby at_318) ?_
      show Steps p.tables e below (T79.setTop (mkF m 319 #[.val (.int p0), .val (.int p1), .val (.int p2), .val (.int p3), .val (.int p4), .val (.int p5), .val (.int (2 : Int32)), .val (.long z14), .second, .val (.int m23_s0), .val (.int m39_s0), .val (.int m55_s0), .val (.int m72_s0), .val (.ref b5), .val (.ref b19), .val (.ref b57), .val (.ref rb67_b7)] [(.int (2 : Int32)), (.int (2 : Int32))])) _
      refine XS.icmpYes X79.here hx rfl (pc0 := 319) (pc' := 350) rfl (hb hby at_319) rfl (Jvm.Free.XT.ii_le_t (by decide)) (by decide) (by decide) ?_
      show Steps p.tables e below (T79.setTop (mkF m 350 #[.val (.int p0), .val (.int p1), .val (.int p2), .val (.int p3), .val (.int p4), .val (.int p5), .val (.int (2 : Int32)), .val (.long z14), .second, .val (.int m23_s0), .val (.int m39_s0), .val (.int m55_s0), .val (.int m72_s0), .val (.ref b5), .val (.ref b19), .val (.ref b57), .val (.ref rb67_b7)] [])) _
      refine XS.iload X79.here hx rfl (hb hby at_350) rfl ?_
      show Steps p.tables e below (T79.setTop (mkF m 352 #[.val (.int p0), .val (.int p1), .val (.int p2), .val (.int p3), .val (.int p4), .val (.int p5), .val (.int (2 : Int32)), .val (.long z14), .second, .val (.int m23_s0), .val (.int m39_s0), .val (.int m55_s0), .val (.int m72_s0), .val (.ref b5), .val (.ref b19), .val (.ref b57), .val (.ref rb67_b7)] [(.int (2 : Int32))])) _
      refine XS.iconst X79.here hx rfl (hb hby at_352) ?_
      show Steps p.tables e below (T79.setTop (mkF m 353 #[.val (.int p0), .val (.int p1), .val (.int p2), .val (.int p3), .val (.int p4), .val (.int p5), .val (.int (2 : Int32)), .val (.long z14), .second, .val (.int m23_s0), .val (.int m39_s0), .val (.int m55_s0), .val (.int m72_s0), .val (.ref b5), .val (.ref b19), .val (.ref b57), .val (.ref rb67_b7)] [(.int (3 : Int32)), (.int (2 : Int32))])) _
      refine XS.icmpYes X79.here hx rfl (pc0 := 353) (pc' := 384) rfl (hb hby at_353) rfl (Jvm.Free.XT.ii_le_t (by decide)) (by decide) (by decide) ?_
      show Steps p.tables e below (T79.setTop (mkF m 384 #[.val (.int p0), .val (.int p1), .val (.int p2), .val (.int p3), .val (.int p4), .val (.int p5), .val (.int (2 : Int32)), .val (.long z14), .second, .val (.int m23_s0), .val (.int m39_s0), .val (.int m55_s0), .val (.int m72_s0), .val (.ref b5), .val (.ref b19), .val (.ref b57), .val (.ref rb67_b7)] [])) _
      refine XS.iconst X79.here hx rfl (hb hby at_384) ?_
      exact k
    obtain ⟨fs, hr, hrun, hended, hW, hsame⟩ := X79.leave (v := some (.int (1 : Int32))) (fun h => by rw [Bd.returns] at h; cases h)
    refine ⟨_, _, c80 _ ?_, hrun, hended, _, _, rfl, ?_, ⟨_, rfl⟩, hW, hsame.mono (by decide) (by decide)⟩
    · show Steps p.tables e below (T79.setTop (mkF m 385 #[.val (.int p0), .val (.int p1), .val (.int p2), .val (.int p3), .val (.int p4), .val (.int p5), .val (.int (2 : Int32)), .val (.long z14), .second, .val (.int m23_s0), .val (.int m39_s0), .val (.int m55_s0), .val (.int m72_s0), .val (.ref b5), .val (.ref b19), .val (.ref b57), .val (.ref rb67_b7)] [(.int (1 : Int32))])) _
      exact retOut X79 hx Bd.returns rfl (Or.inl ⟨rfl, by simp, _, rfl⟩) (hb hby at_385) hr
    · show Q0 n0 _ T79.heap _
      rw [e79]
      exact ⟨rfl, by first | assumption | exact N0⟩
  · obtain rfl := q34
    obtain ⟨z158, hz158⟩ : ∃ z : UInt64, FP.i2d p0 = z := ⟨_, rfl⟩
    obtain ⟨m148_s0, hm148_s0⟩ : ∃ z : UInt64, (if m23_s0 = (0 : Int32) then z158 else (18442240474082181120 : UInt64)) = z := ⟨_, rfl⟩
    obtain ⟨z181, hz181⟩ : ∃ z : UInt64, FP.i2d p1 = z := ⟨_, rfl⟩
    obtain ⟨m171_s0, hm171_s0⟩ : ∃ z : UInt64, (if m39_s0 = (0 : Int32) then z181 else (18442240474082181120 : UInt64)) = z := ⟨_, rfl⟩
    obtain ⟨z204, hz204⟩ : ∃ z : UInt64, FP.i2d p2 = z := ⟨_, rfl⟩
    obtain ⟨m194_s0, hm194_s0⟩ : ∃ z : UInt64, (if m55_s0 = (0 : Int32) then z204 else (18442240474082181120 : UInt64)) = z := ⟨_, rfl⟩
    obtain ⟨z233, hz233⟩ : ∃ z : UInt64, FP.l2d z14 = z := ⟨_, rfl⟩
    obtain ⟨c234_z32, hc234_z32⟩ : ∃ z : UInt64, Jvm.Native.java_lang_Math.nans.pick64 true (18442240474082181120 : UInt64) m148_s0 = z := ⟨_, rfl⟩
    obtain ⟨c234_z32_2, hc234_z32_2⟩ : ∃ z : UInt64, Jvm.Native.java_lang_Math.nans.pick64 true c234_z32 m171_s0 = z := ⟨_, rfl⟩
    obtain ⟨c234_z32_3, hc234_z32_3⟩ : ∃ z : UInt64, Jvm.Native.java_lang_Math.nans.pick64 true c234_z32_2 m194_s0 = z := ⟨_, rfl⟩
    obtain ⟨c234_z68, hc234_z68⟩ : ∃ z : UInt64, FP.dsub c234_z32_3 z233 = z := ⟨_, rfl⟩
    obtain ⟨c234_z69, hc234_z69⟩ : ∃ z : Int32, cmpValue (FP.dcmp m148_s0 c234_z68) .l = z := ⟨_, rfl⟩
    obtain ⟨c234_m70_s0, hc234_m70_s0⟩ : ∃ z : Int32, (if c234_z69 < (0 : Int32) then (0 : Int32) else (1 : Int32)) = z := ⟨_, rfl⟩
    obtain ⟨c234_z68_2, hc234_z68_2⟩ : ∃ z : UInt64, FP.dsub c234_z32_3 z233 = z := ⟨_, rfl⟩
    obtain ⟨c234_z69_2, hc234_z69_2⟩ : ∃ z : Int32, cmpValue (FP.dcmp m171_s0 c234_z68_2) .l = z := ⟨_, rfl⟩
    obtain ⟨c234_m70_s0_2, hc234_m70_s0_2⟩ : ∃ z : Int32, (if c234_z69_2 < (0 : Int32) then (0 : Int32) else (1 : Int32)) = z := ⟨_, rfl⟩
    obtain ⟨c234_z68_3, hc234_z68_3⟩ : ∃ z : UInt64, FP.dsub c234_z32_3 z233 = z := ⟨_, rfl⟩
    obtain ⟨c234_z69_3, hc234_z69_3⟩ : ∃ z : Int32, cmpValue (FP.dcmp m194_s0 c234_z68_3) .l = z := ⟨_, rfl⟩
    obtain ⟨c234_m70_s0_3, hc234_m70_s0_3⟩ : ∃ z : Int32, (if c234_z69_3 < (0 : Int32) then (0 : Int32) else (1 : Int32)) = z := ⟨_, rfl⟩
    obtain ⟨c274_c16_z12, hc274_c16_z12⟩ : ∃ z : Int64, z88 + z14 = z := ⟨_, rfl⟩
    obtain ⟨c274_c16_z14, hc274_c16_z14⟩ : ∃ z : Int32, lcmpW c274_c16_z12 z88 = z := ⟨_, rfl⟩
    obtain ⟨c274_c16_rv, hc274_c16_rv⟩ : ∃ z : Int32, (if m23_s0 = (0 : Int32) then (if m23_s0 = (0 : Int32) then (if c274_c16_z14 < (0 : Int32) then (0 : Int32) else (1 : Int32)) else (0 : Int32)) else (1 : Int32)) = z := ⟨_, rfl⟩
    obtain ⟨c274_c39_z12, hc274_c39_z12⟩ : ∃ z : Int64, z88 + z14 = z := ⟨_, rfl⟩
    obtain ⟨c274_c39_z14, hc274_c39_z14⟩ : ∃ z : Int32, lcmpW c274_c39_z12 z93 = z := ⟨_, rfl⟩
    obtain ⟨c274_c39_rv, hc274_c39_rv⟩ : ∃ z : Int32, (if m39_s0 = (0 : Int32) then (if m23_s0 = (0 : Int32) then (if c274_c39_z14 < (0 : Int32) then (0 : Int32) else (1 : Int32)) else (0 : Int32)) else (1 : Int32)) = z := ⟨_, rfl⟩
    obtain ⟨c274_c62_z12, hc274_c62_z12⟩ : ∃ z : Int64, z88 + z14 = z := ⟨_, rfl⟩
    obtain ⟨c274_c62_z14, hc274_c62_z14⟩ : ∃ z : Int32, lcmpW c274_c62_z12 z98 = z := ⟨_, rfl⟩
    obtain ⟨c274_c62_rv, hc274_c62_rv⟩ : ∃ z : Int32, (if m55_s0 = (0 : Int32) then (if m23_s0 = (0 : Int32) then (if c274_c62_z14 < (0 : Int32) then (0 : Int32) else (1 : Int32)) else (0 : Int32)) else (1 : Int32)) = z := ⟨_, rfl⟩
    obtain ⟨c274_rv, hc274_rv⟩ : ∃ z : Int32, (if c274_c16_rv = (0 : Int32) then (0 : Int32) else (if c274_c39_rv = (0 : Int32) then (0 : Int32) else (if c274_c62_rv = (0 : Int32) then (0 : Int32) else (1 : Int32)))) = z := ⟨_, rfl⟩
    obtain ⟨c308_c16_z12, hc308_c16_z12⟩ : ∃ z : Int64, z93 + z14 = z := ⟨_, rfl⟩
    obtain ⟨c308_c16_z14, hc308_c16_z14⟩ : ∃ z : Int32, lcmpW c308_c16_z12 z88 = z := ⟨_, rfl⟩
    obtain ⟨c308_c16_rv, hc308_c16_rv⟩ : ∃ z : Int32, (if m23_s0 = (0 : Int32) then (if m39_s0 = (0 : Int32) then (if c308_c16_z14 < (0 : Int32) then (0 : Int32) else (1 : Int32)) else (0 : Int32)) else (1 : Int32)) = z := ⟨_, rfl⟩
    obtain ⟨c308_c39_z12, hc308_c39_z12⟩ : ∃ z : Int64, z93 + z14 = z := ⟨_, rfl⟩
    obtain ⟨c308_c39_z14, hc308_c39_z14⟩ : ∃ z : Int32, lcmpW c308_c39_z12 z93 = z := ⟨_, rfl⟩
    obtain ⟨c308_c39_rv, hc308_c39_rv⟩ : ∃ z : Int32, (if m39_s0 = (0 : Int32) then (if m39_s0 = (0 : Int32) then (if c308_c39_z14 < (0 : Int32) then (0 : Int32) else (1 : Int32)) else (0 : Int32)) else (1 : Int32)) = z := ⟨_, rfl⟩
    obtain ⟨c308_c62_z12, hc308_c62_z12⟩ : ∃ z : Int64, z93 + z14 = z := ⟨_, rfl⟩
    obtain ⟨c308_c62_z14, hc308_c62_z14⟩ : ∃ z : Int32, lcmpW c308_c62_z12 z98 = z := ⟨_, rfl⟩
    obtain ⟨c308_c62_rv, hc308_c62_rv⟩ : ∃ z : Int32, (if m55_s0 = (0 : Int32) then (if m39_s0 = (0 : Int32) then (if c308_c62_z14 < (0 : Int32) then (0 : Int32) else (1 : Int32)) else (0 : Int32)) else (1 : Int32)) = z := ⟨_, rfl⟩
    obtain ⟨c308_rv, hc308_rv⟩ : ∃ z : Int32, (if c308_c16_rv = (0 : Int32) then (0 : Int32) else (if c308_c39_rv = (0 : Int32) then (0 : Int32) else (if c308_c62_rv = (0 : Int32) then (0 : Int32) else (1 : Int32)))) = z := ⟨_, rfl⟩
    obtain ⟨c342_c16_z12, hc342_c16_z12⟩ : ∃ z : Int64, z98 + z14 = z := ⟨_, rfl⟩
    obtain ⟨c342_c16_z14, hc342_c16_z14⟩ : ∃ z : Int32, lcmpW c342_c16_z12 z88 = z := ⟨_, rfl⟩
    obtain ⟨c342_c16_rv, hc342_c16_rv⟩ : ∃ z : Int32, (if m23_s0 = (0 : Int32) then (if m55_s0 = (0 : Int32) then (if c342_c16_z14 < (0 : Int32) then (0 : Int32) else (1 : Int32)) else (0 : Int32)) else (1 : Int32)) = z := ⟨_, rfl⟩
    obtain ⟨c342_c39_z12, hc342_c39_z12⟩ : ∃ z : Int64, z98 + z14 = z := ⟨_, rfl⟩
    obtain ⟨c342_c39_z14, hc342_c39_z14⟩ : ∃ z : Int32, lcmpW c342_c39_z12 z93 = z := ⟨_, rfl⟩
    obtain ⟨c342_c39_rv, hc342_c39_rv⟩ : ∃ z : Int32, (if m39_s0 = (0 : Int32) then (if m55_s0 = (0 : Int32) then (if c342_c39_z14 < (0 : Int32) then (0 : Int32) else (1 : Int32)) else (0 : Int32)) else (1 : Int32)) = z := ⟨_, rfl⟩
    obtain ⟨c342_c62_z12, hc342_c62_z12⟩ : ∃ z : Int64, z98 + z14 = z := ⟨_, rfl⟩
    obtain ⟨c342_c62_z14, hc342_c62_z14⟩ : ∃ z : Int32, lcmpW c342_c62_z12 z98 = z := ⟨_, rfl⟩
    obtain ⟨c342_c62_rv, hc342_c62_rv⟩ : ∃ z : Int32, (if m55_s0 = (0 : Int32) then (if m55_s0 = (0 : Int32) then (if c342_c62_z14 < (0 : Int32) then (0 : Int32) else (1 : Int32)) else (0 : Int32)) else (1 : Int32)) = z := ⟨_, rfl⟩
    obtain ⟨c342_rv, hc342_rv⟩ : ∃ z : Int32, (if c342_c16_rv = (0 : Int32) then (0 : Int32) else (if c342_c39_rv = (0 : Int32) then (0 : Int32) else (if c342_c62_rv = (0 : Int32) then (0 : Int32) else (1 : Int32)))) = z := ⟨_, rfl⟩
    obtain ⟨T81, h81, k81, X81, e81, E81, A81, st81⟩ := newP X31 hx hZ (hw _ (List.mem_of_getElem? (i := 3) rfl)) e31 (g := (mkF m 134 #[.val (.int p0), .val (.int p1), .val (.int p2), .val (.int p3), .val (.int p4), .val (.int p5), .val (.int (3 : Int32)), .val (.long z14), .second, .val (.int m23_s0), .val (.int m39_s0), .val (.int m55_s0), .val (.int m72_s0), .val (.ref b5), .val (.ref b19), .unset, .unset] [(.int (3 : Int32))])) rfl (hb hby at_134) rfl (by decide) (cap := 3) (by decide) (by decide) (by decide) (by decide)
    obtain ⟨b81, g81⟩ : ∃ z, z = h31.size := ⟨_, rfl⟩
    rw [← g81] at A81 st81
    have gn81 : n0 ≤ b81 := Nat.le_trans (Nat.le_trans (Nat.le_trans (Nat.le_trans (Nat.le_trans (Nat.le_trans (Nat.le_trans (Nat.le_trans (Nat.le_trans (Nat.le_trans (Nat.le_trans Z0 E5.1) (Keep.of_wr W8).1) (Keep.of_wr W11).1) (Keep.of_wr W14).1) (Keep.of_wr W17).1) E19.1) (Keep.of_wr W22).1) (Keep.of_wr W25).1) (Keep.of_wr W28).1) (Keep.of_wr W31).1) (Nat.le_of_eq g81.symm)
    have gz81 : h0.size ≤ b81 := Nat.le_trans (K32).1 (Nat.le_of_eq g81.symm)
    have K82 : Keep h0 h81 [] := K32.ext E81
    have V81 : Arv Z h81 b81 k81 .double (3 : Int32) [(.double (0 : UInt64)), (.double (0 : UInt64)), (.double (0 : UInt64))] (.double (0 : UInt64)) := (Arv.new A81 (by decide)).pad (pad_rep [] (.double (0 : UInt64)) 3)
    have c83 : ∀ t, Steps p.tables e below (T81.setTop (mkF m 159 #[.val (.int p0), .val (.int p1), .val (.int p2), .val (.int p3), .val (.int p4), .val (.int p5), .val (.int (3 : Int32)), .val (.long z14), .second, .val (.int m23_s0), .val (.int m39_s0), .val (.int m55_s0), .val (.int m72_s0), .val (.ref b5), .val (.ref b19), .val (.ref b81), .unset] [(.double m148_s0), (.int (0 : Int32)), (.ref b81)])) t → Steps p.tables e below (s₁.setTop (entryFrame m #[(.int p0), (.int p1), (.int p2), (.int p3), (.int p4), (.int p5)] maxLocals)) t := by
      intro t k
      refine c33 t ?_
      show Steps p.tables e below (T31.setTop (mkF m 132 #[.val (.int p0), .val (.int p1), .val (.int p2), .val (.int p3), .val (.int p4), .val (.int p5), .val (.int (3 : Int32)), .val (.long z14), .second, .val (.int m23_s0), .val (.int m39_s0), .val (.int m55_s0), .val (.int m72_s0), .val (.ref b5), .val (.ref b19), .unset, .unset] [])) _
      refine XS.iload X31.here hx rfl (hb hby at_132) rfl ?_
      show Steps p.tables e below (T31.setTop (mkF m 134 #[.val (.int p0), .val (.int p1), .val (.int p2), .val (.int p3), .val (.int p4), .val (.int p5), .val (.int (3 : Int32)), .val (.long z14), .second, .val (.int m23_s0), .val (.int m39_s0), .val (.int m55_s0), .val (.int m72_s0), .val (.ref b5), .val (.ref b19), .unset, .unset] [(.int (3 : Int32))])) _
      refine st81 _ ?_
      show Steps p.tables e below (T81.setTop (mkF m 136 #[.val (.int p0), .val (.int p1), .val (.int p2), .val (.int p3), .val (.int p4), .val (.int p5), .val (.int (3 : Int32)), .val (.long z14), .second, .val (.int m23_s0), .val (.int m39_s0), .val (.int m55_s0), .val (.int m72_s0), .val (.ref b5), .val (.ref b19), .unset, .unset] [(.ref b81)])) _
      refine XS.astore X81.here hx rfl (hb hby at_136) rfl rfl (l' := #[.val (.int p0), .val (.int p1), .val (.int p2), .val (.int p3), .val (.int p4), .val (.int p5), .val (.int (3 : Int32)), .val (.long z14), .second, .val (.int m23_s0), .val (.int m39_s0), .val (.int m55_s0), .val (.int m72_s0), .val (.ref b5), .val (.ref b19), .val (.ref b81), .unset]) rfl ?_
      show Steps p.tables e below (T81.setTop (mkF m 138 #[.val (.int p0), .val (.int p1), .val (.int p2), .val (.int p3), .val (.int p4), .val (.int p5), .val (.int (3 : Int32)), .val (.long z14), .second, .val (.int m23_s0), .val (.int m39_s0), .val (.int m55_s0), .val (.int m72_s0), .val (.ref b5), .val (.ref b19), .val (.ref b81), .unset] [])) _
      refine XS.iload X81.here hx rfl (hb hby at_138) rfl ?_
      show Steps p.tables e below (T81.setTop (mkF m 140 #[.val (.int p0), .val (.int p1), .val (.int p2), .val (.int p3), .val (.int p4), .val (.int p5), .val (.int (3 : Int32)), .val (.long z14), .second, .val (.int m23_s0), .val (.int m39_s0), .val (.int m55_s0), .val (.int m72_s0), .val (.ref b5), .val (.ref b19), .val (.ref b81), .unset] [(.int (3 : Int32))])) _
      refine XS.ifNo X81.here hx rfl (hb hby at_140) rfl (Jvm.Free.XT.i0_le_f (by decide)) ?_
      show Steps p.tables e below (T81.setTop (mkF m 143 #[.val (.int p0), .val (.int p1), .val (.int p2), .val (.int p3), .val (.int p4), .val (.int p5), .val (.int (3 : Int32)), .val (.long z14), .second, .val (.int m23_s0), .val (.int m39_s0), .val (.int m55_s0), .val (.int m72_s0), .val (.ref b5), .val (.ref b19), .val (.ref b81), .unset] [])) _
      refine XS.aload X81.here hx rfl (hb hby at_143) rfl rfl ?_
      show Steps p.tables e below (T81.setTop (mkF m 145 #[.val (.int p0), .val (.int p1), .val (.int p2), .val (.int p3), .val (.int p4), .val (.int p5), .val (.int (3 : Int32)), .val (.long z14), .second, .val (.int m23_s0), .val (.int m39_s0), .val (.int m55_s0), .val (.int m72_s0), .val (.ref b5), .val (.ref b19), .val (.ref b81), .unset] [(.ref b81)])) _
      refine XS.iconst X81.here hx rfl (hb hby at_145) ?_
      show Steps p.tables e below (T81.setTop (mkF m 146 #[.val (.int p0), .val (.int p1), .val (.int p2), .val (.int p3), .val (.int p4), .val (.int p5), .val (.int (3 : Int32)), .val (.long z14), .second, .val (.int m23_s0), .val (.int m39_s0), .val (.int m55_s0), .val (.int m72_s0), .val (.ref b5), .val (.ref b19), .val (.ref b81), .unset] [(.int (0 : Int32)), (.ref b81)])) _
      refine XS.iload X81.here hx rfl (hb hby at_146) rfl ?_
      by_cases hm148_0 : m23_s0 = (0 : Int32)
      · skip
        show Steps p.tables e below (T81.setTop (mkF m 148 #[.val (.int p0), .val (.int p1), .val (.int p2), .val (.int p3), .val (.int p4), .val (.int p5), .val (.int (3 : Int32)), .val (.long z14), .second, .val (.int m23_s0), .val (.int m39_s0), .val (.int m55_s0), .val (.int m72_s0), .val (.ref b5), .val (.ref b19), .val (.ref b81), .unset] [(.int m23_s0), (.int (0 : Int32)), (.ref b81)])) _
        refine XS.ifYes X81.here hx rfl (pc0 := 148) (pc' := 157) rfl (hb hby at_148) rfl (Jvm.Free.XT.i0_eq_t hm148_0) (by decide) (by decide) ?_
        show Steps p.tables e below (T81.setTop (mkF m 157 #[.val (.int p0), .val (.int p1), .val (.int p2), .val (.int p3), .val (.int p4), .val (.int p5), .val (.int (3 : Int32)), .val (.long z14), .second, .val (.int m23_s0), .val (.int m39_s0), .val (.int m55_s0), .val (.int m72_s0), .val (.ref b5), .val (.ref b19), .val (.ref b81), .unset] [(.int (0 : Int32)), (.ref b81)])) _
        refine XS.iloadN X81.here hx rfl (hb hby at_157) rfl ?_
        show Steps p.tables e below (T81.setTop (mkF m 158 #[.val (.int p0), .val (.int p1), .val (.int p2), .val (.int p3), .val (.int p4), .val (.int p5), .val (.int (3 : Int32)), .val (.long z14), .second, .val (.int m23_s0), .val (.int m39_s0), .val (.int m55_s0), .val (.int m72_s0), .val (.ref b5), .val (.ref b19), .val (.ref b81), .unset] [(.int p0), (.int (0 : Int32)), (.ref b81)])) _
        refine XS.i2dS X81.here hx rfl (hb hby at_158) rfl hz158 ?_
        obtain rfl : z158 = m148_s0 := by rw [← hm148_s0]; simp only [if_pos hm148_0]
        exact k
      · skip
        show Steps p.tables e below (T81.setTop (mkF m 148 #[.val (.int p0), .val (.int p1), .val (.int p2), .val (.int p3), .val (.int p4), .val (.int p5), .val (.int (3 : Int32)), .val (.long z14), .second, .val (.int m23_s0), .val (.int m39_s0), .val (.int m55_s0), .val (.int m72_s0), .val (.ref b5), .val (.ref b19), .val (.ref b81), .unset] [(.int m23_s0), (.int (0 : Int32)), (.ref b81)])) _
        refine XS.ifNo X81.here hx rfl (hb hby at_148) rfl (Jvm.Free.XT.i0_eq_f hm148_0) ?_
        show Steps p.tables e below (T81.setTop (mkF m 151 #[.val (.int p0), .val (.int p1), .val (.int p2), .val (.int p3), .val (.int p4), .val (.int p5), .val (.int (3 : Int32)), .val (.long z14), .second, .val (.int m23_s0), .val (.int m39_s0), .val (.int m55_s0), .val (.int m72_s0), .val (.ref b5), .val (.ref b19), .val (.ref b81), .unset] [(.int (0 : Int32)), (.ref b81)])) _
        refine X81.ldc2DoubleC hx hown (mvT hZ (hw _ (List.mem_of_getElem? (i := 20) rfl))) (g := (mkF m 151 #[.val (.int p0), .val (.int p1), .val (.int p2), .val (.int p3), .val (.int p4), .val (.int p5), .val (.int (3 : Int32)), .val (.long z14), .second, .val (.int m23_s0), .val (.int m39_s0), .val (.int m55_s0), .val (.int m72_s0), .val (.ref b5), .val (.ref b19), .val (.ref b81), .unset] [(.int (0 : Int32)), (.ref b81)])) rfl (hb hby at_151) _ ?_
        show Steps p.tables e below (T81.setTop (mkF m 154 #[.val (.int p0), .val (.int p1), .val (.int p2), .val (.int p3), .val (.int p4), .val (.int p5), .val (.int (3 : Int32)), .val (.long z14), .second, .val (.int m23_s0), .val (.int m39_s0), .val (.int m55_s0), .val (.int m72_s0), .val (.ref b5), .val (.ref b19), .val (.ref b81), .unset] [(.double (18442240474082181120 : UInt64)), (.int (0 : Int32)), (.ref b81)])) _
        refine XS.goto X81.here hx rfl (pc0 := 154) (pc' := 159) rfl (hb hby at_154) (by decide) (by decide) ?_
        obtain rfl : (18442240474082181120 : UInt64) = m148_s0 := by rw [← hm148_s0]; simp only [if_neg hm148_0]
        exact k
    obtain ⟨cl84, Ar84, q84, S84, Nn84, Ha84, G84⟩ := id V81
    have in84 : ¬ ((0 : Int32) < 0 ∨ cl84.slots.size ≤ ((0 : Int32)).toNatClampNeg) := inb_of S84 ⟨by decide, by decide⟩
    obtain ⟨T85, h85, X85, e85, W85, st85⟩ := stD X81 hx hZ e81 Ar84 (j := (0 : Int32)) in84 (g := (mkF m 159 #[.val (.int p0), .val (.int p1), .val (.int p2), .val (.int p3), .val (.int p4), .val (.int p5), .val (.int (3 : Int32)), .val (.long z14), .second, .val (.int m23_s0), .val (.int m39_s0), .val (.int m55_s0), .val (.int m72_s0), .val (.ref b5), .val (.ref b19), .val (.ref b81), .unset] [(.double m148_s0), (.int (0 : Int32)), (.ref b81)])) rfl rfl (hb hby at_159)
    have N85 := Fr.snoc X85 N31 gn81
    have K86 : Keep h0 h85 [] := K82.wr W85 (Or.inr gz81)
    have V85 : Arv Z h85 b81 k81 .double (3 : Int32) [(.double m148_s0), (.double (0 : UInt64)), (.double (0 : UInt64))] (.double (0 : UInt64)) := Arv.set Ar84 q84 S84 Nn84 Ha84 G84 rfl W85 0 rfl (show (0 : Nat) < 3 by decide)
    have c87 : ∀ t, Steps p.tables e below (T85.setTop (mkF m 182 #[.val (.int p0), .val (.int p1), .val (.int p2), .val (.int p3), .val (.int p4), .val (.int p5), .val (.int (3 : Int32)), .val (.long z14), .second, .val (.int m23_s0), .val (.int m39_s0), .val (.int m55_s0), .val (.int m72_s0), .val (.ref b5), .val (.ref b19), .val (.ref b81), .unset] [(.double m171_s0), (.int (1 : Int32)), (.ref b81)])) t → Steps p.tables e below (s₁.setTop (entryFrame m #[(.int p0), (.int p1), (.int p2), (.int p3), (.int p4), (.int p5)] maxLocals)) t := by
      intro t k
      refine c83 t ?_
      show Steps p.tables e below (T81.setTop (mkF m 159 #[.val (.int p0), .val (.int p1), .val (.int p2), .val (.int p3), .val (.int p4), .val (.int p5), .val (.int (3 : Int32)), .val (.long z14), .second, .val (.int m23_s0), .val (.int m39_s0), .val (.int m55_s0), .val (.int m72_s0), .val (.ref b5), .val (.ref b19), .val (.ref b81), .unset] [(.double m148_s0), (.int (0 : Int32)), (.ref b81)])) _
      refine st85 _ ?_
      show Steps p.tables e below (T85.setTop (mkF m 160 #[.val (.int p0), .val (.int p1), .val (.int p2), .val (.int p3), .val (.int p4), .val (.int p5), .val (.int (3 : Int32)), .val (.long z14), .second, .val (.int m23_s0), .val (.int m39_s0), .val (.int m55_s0), .val (.int m72_s0), .val (.ref b5), .val (.ref b19), .val (.ref b81), .unset] [])) _
      refine XS.iload X85.here hx rfl (hb hby at_160) rfl ?_
      show Steps p.tables e below (T85.setTop (mkF m 162 #[.val (.int p0), .val (.int p1), .val (.int p2), .val (.int p3), .val (.int p4), .val (.int p5), .val (.int (3 : Int32)), .val (.long z14), .second, .val (.int m23_s0), .val (.int m39_s0), .val (.int m55_s0), .val (.int m72_s0), .val (.ref b5), .val (.ref b19), .val (.ref b81), .unset] [(.int (3 : Int32))])) _
      refine XS.iconst X85.here hx rfl (hb hby at_162) ?_
      show Steps p.tables e below (T85.setTop (mkF m 163 #[.val (.int p0), .val (.int p1), .val (.int p2), .val (.int p3), .val (.int p4), .val (.int p5), .val (.int (3 : Int32)), .val (.long z14), .second, .val (.int m23_s0), .val (.int m39_s0), .val (.int m55_s0), .val (.int m72_s0), .val (.ref b5), .val (.ref b19), .val (.ref b81), .unset] [(.int (1 : Int32)), (.int (3 : Int32))])) _
      refine XS.icmpNo X85.here hx rfl (hb hby at_163) rfl (Jvm.Free.XT.ii_le_f (by decide)) ?_
      show Steps p.tables e below (T85.setTop (mkF m 166 #[.val (.int p0), .val (.int p1), .val (.int p2), .val (.int p3), .val (.int p4), .val (.int p5), .val (.int (3 : Int32)), .val (.long z14), .second, .val (.int m23_s0), .val (.int m39_s0), .val (.int m55_s0), .val (.int m72_s0), .val (.ref b5), .val (.ref b19), .val (.ref b81), .unset] [])) _
      refine XS.aload X85.here hx rfl (hb hby at_166) rfl rfl ?_
      show Steps p.tables e below (T85.setTop (mkF m 168 #[.val (.int p0), .val (.int p1), .val (.int p2), .val (.int p3), .val (.int p4), .val (.int p5), .val (.int (3 : Int32)), .val (.long z14), .second, .val (.int m23_s0), .val (.int m39_s0), .val (.int m55_s0), .val (.int m72_s0), .val (.ref b5), .val (.ref b19), .val (.ref b81), .unset] [(.ref b81)])) _
      refine XS.iconst X85.here hx rfl (hb hby at_168) ?_
      show Steps p.tables e below (T85.setTop (mkF m 169 #[.val (.int p0), .val (.int p1), .val (.int p2), .val (.int p3), .val (.int p4), .val (.int p5), .val (.int (3 : Int32)), .val (.long z14), .second, .val (.int m23_s0), .val (.int m39_s0), .val (.int m55_s0), .val (.int m72_s0), .val (.ref b5), .val (.ref b19), .val (.ref b81), .unset] [(.int (1 : Int32)), (.ref b81)])) _
      refine XS.iload X85.here hx rfl (hb hby at_169) rfl ?_
      by_cases hm171_0 : m39_s0 = (0 : Int32)
      · skip
        show Steps p.tables e below (T85.setTop (mkF m 171 #[.val (.int p0), .val (.int p1), .val (.int p2), .val (.int p3), .val (.int p4), .val (.int p5), .val (.int (3 : Int32)), .val (.long z14), .second, .val (.int m23_s0), .val (.int m39_s0), .val (.int m55_s0), .val (.int m72_s0), .val (.ref b5), .val (.ref b19), .val (.ref b81), .unset] [(.int m39_s0), (.int (1 : Int32)), (.ref b81)])) _
        refine XS.ifYes X85.here hx rfl (pc0 := 171) (pc' := 180) rfl (hb hby at_171) rfl (Jvm.Free.XT.i0_eq_t hm171_0) (by decide) (by decide) ?_
        show Steps p.tables e below (T85.setTop (mkF m 180 #[.val (.int p0), .val (.int p1), .val (.int p2), .val (.int p3), .val (.int p4), .val (.int p5), .val (.int (3 : Int32)), .val (.long z14), .second, .val (.int m23_s0), .val (.int m39_s0), .val (.int m55_s0), .val (.int m72_s0), .val (.ref b5), .val (.ref b19), .val (.ref b81), .unset] [(.int (1 : Int32)), (.ref b81)])) _
        refine XS.iloadN X85.here hx rfl (hb hby at_180) rfl ?_
        show Steps p.tables e below (T85.setTop (mkF m 181 #[.val (.int p0), .val (.int p1), .val (.int p2), .val (.int p3), .val (.int p4), .val (.int p5), .val (.int (3 : Int32)), .val (.long z14), .second, .val (.int m23_s0), .val (.int m39_s0), .val (.int m55_s0), .val (.int m72_s0), .val (.ref b5), .val (.ref b19), .val (.ref b81), .unset] [(.int p1), (.int (1 : Int32)), (.ref b81)])) _
        refine XS.i2dS X85.here hx rfl (hb hby at_181) rfl hz181 ?_
        obtain rfl : z181 = m171_s0 := by rw [← hm171_s0]; simp only [if_pos hm171_0]
        exact k
      · skip
        show Steps p.tables e below (T85.setTop (mkF m 171 #[.val (.int p0), .val (.int p1), .val (.int p2), .val (.int p3), .val (.int p4), .val (.int p5), .val (.int (3 : Int32)), .val (.long z14), .second, .val (.int m23_s0), .val (.int m39_s0), .val (.int m55_s0), .val (.int m72_s0), .val (.ref b5), .val (.ref b19), .val (.ref b81), .unset] [(.int m39_s0), (.int (1 : Int32)), (.ref b81)])) _
        refine XS.ifNo X85.here hx rfl (hb hby at_171) rfl (Jvm.Free.XT.i0_eq_f hm171_0) ?_
        show Steps p.tables e below (T85.setTop (mkF m 174 #[.val (.int p0), .val (.int p1), .val (.int p2), .val (.int p3), .val (.int p4), .val (.int p5), .val (.int (3 : Int32)), .val (.long z14), .second, .val (.int m23_s0), .val (.int m39_s0), .val (.int m55_s0), .val (.int m72_s0), .val (.ref b5), .val (.ref b19), .val (.ref b81), .unset] [(.int (1 : Int32)), (.ref b81)])) _
        refine X85.ldc2DoubleC hx hown (mvT hZ (hw _ (List.mem_of_getElem? (i := 20) rfl))) (g := (mkF m 174 #[.val (.int p0), .val (.int p1), .val (.int p2), .val (.int p3), .val (.int p4), .val (.int p5), .val (.int (3 : Int32)), .val (.long z14), .second, .val (.int m23_s0), .val (.int m39_s0), .val (.int m55_s0), .val (.int m72_s0), .val (.ref b5), .val (.ref b19), .val (.ref b81), .unset] [(.int (1 : Int32)), (.ref b81)])) rfl (hb hby at_174) _ ?_
        show Steps p.tables e below (T85.setTop (mkF m 177 #[.val (.int p0), .val (.int p1), .val (.int p2), .val (.int p3), .val (.int p4), .val (.int p5), .val (.int (3 : Int32)), .val (.long z14), .second, .val (.int m23_s0), .val (.int m39_s0), .val (.int m55_s0), .val (.int m72_s0), .val (.ref b5), .val (.ref b19), .val (.ref b81), .unset] [(.double (18442240474082181120 : UInt64)), (.int (1 : Int32)), (.ref b81)])) _
        refine XS.goto X85.here hx rfl (pc0 := 177) (pc' := 182) rfl (hb hby at_177) (by decide) (by decide) ?_
        obtain rfl : (18442240474082181120 : UInt64) = m171_s0 := by rw [← hm171_s0]; simp only [if_neg hm171_0]
        exact k
    obtain ⟨cl88, Ar88, q88, S88, Nn88, Ha88, G88⟩ := id V85
    have in88 : ¬ ((1 : Int32) < 0 ∨ cl88.slots.size ≤ ((1 : Int32)).toNatClampNeg) := inb_of S88 ⟨by decide, by decide⟩
    obtain ⟨T89, h89, X89, e89, W89, st89⟩ := stD X85 hx hZ e85 Ar88 (j := (1 : Int32)) in88 (g := (mkF m 182 #[.val (.int p0), .val (.int p1), .val (.int p2), .val (.int p3), .val (.int p4), .val (.int p5), .val (.int (3 : Int32)), .val (.long z14), .second, .val (.int m23_s0), .val (.int m39_s0), .val (.int m55_s0), .val (.int m72_s0), .val (.ref b5), .val (.ref b19), .val (.ref b81), .unset] [(.double m171_s0), (.int (1 : Int32)), (.ref b81)])) rfl rfl (hb hby at_182)
    have N89 := Fr.snoc X89 N85 gn81
    have K90 : Keep h0 h89 [] := K86.wr W89 (Or.inr gz81)
    have V89 : Arv Z h89 b81 k81 .double (3 : Int32) [(.double m148_s0), (.double m171_s0), (.double (0 : UInt64))] (.double (0 : UInt64)) := Arv.set Ar88 q88 S88 Nn88 Ha88 G88 rfl W89 1 rfl (show (1 : Nat) < 3 by decide)
    have c91 : ∀ t, Steps p.tables e below (T89.setTop (mkF m 205 #[.val (.int p0), .val (.int p1), .val (.int p2), .val (.int p3), .val (.int p4), .val (.int p5), .val (.int (3 : Int32)), .val (.long z14), .second, .val (.int m23_s0), .val (.int m39_s0), .val (.int m55_s0), .val (.int m72_s0), .val (.ref b5), .val (.ref b19), .val (.ref b81), .unset] [(.double m194_s0), (.int (2 : Int32)), (.ref b81)])) t → Steps p.tables e below (s₁.setTop (entryFrame m #[(.int p0), (.int p1), (.int p2), (.int p3), (.int p4), (.int p5)] maxLocals)) t := by
      intro t k
      refine c87 t ?_
      show Steps p.tables e below (T85.setTop (mkF m 182 #[.val (.int p0), .val (.int p1), .val (.int p2), .val (.int p3), .val (.int p4), .val (.int p5), .val (.int (3 : Int32)), .val (.long z14), .second, .val (.int m23_s0), .val (.int m39_s0), .val (.int m55_s0), .val (.int m72_s0), .val (.ref b5), .val (.ref b19), .val (.ref b81), .unset] [(.double m171_s0), (.int (1 : Int32)), (.ref b81)])) _
      refine st89 _ ?_
      show Steps p.tables e below (T89.setTop (mkF m 183 #[.val (.int p0), .val (.int p1), .val (.int p2), .val (.int p3), .val (.int p4), .val (.int p5), .val (.int (3 : Int32)), .val (.long z14), .second, .val (.int m23_s0), .val (.int m39_s0), .val (.int m55_s0), .val (.int m72_s0), .val (.ref b5), .val (.ref b19), .val (.ref b81), .unset] [])) _
      refine XS.iload X89.here hx rfl (hb hby at_183) rfl ?_
      show Steps p.tables e below (T89.setTop (mkF m 185 #[.val (.int p0), .val (.int p1), .val (.int p2), .val (.int p3), .val (.int p4), .val (.int p5), .val (.int (3 : Int32)), .val (.long z14), .second, .val (.int m23_s0), .val (.int m39_s0), .val (.int m55_s0), .val (.int m72_s0), .val (.ref b5), .val (.ref b19), .val (.ref b81), .unset] [(.int (3 : Int32))])) _
      refine XS.iconst X89.here hx rfl (hb hby at_185) ?_
      show Steps p.tables e below (T89.setTop (mkF m 186 #[.val (.int p0), .val (.int p1), .val (.int p2), .val (.int p3), .val (.int p4), .val (.int p5), .val (.int (3 : Int32)), .val (.long z14), .second, .val (.int m23_s0), .val (.int m39_s0), .val (.int m55_s0), .val (.int m72_s0), .val (.ref b5), .val (.ref b19), .val (.ref b81), .unset] [(.int (2 : Int32)), (.int (3 : Int32))])) _
      refine XS.icmpNo X89.here hx rfl (hb hby at_186) rfl (Jvm.Free.XT.ii_le_f (by decide)) ?_
      show Steps p.tables e below (T89.setTop (mkF m 189 #[.val (.int p0), .val (.int p1), .val (.int p2), .val (.int p3), .val (.int p4), .val (.int p5), .val (.int (3 : Int32)), .val (.long z14), .second, .val (.int m23_s0), .val (.int m39_s0), .val (.int m55_s0), .val (.int m72_s0), .val (.ref b5), .val (.ref b19), .val (.ref b81), .unset] [])) _
      refine XS.aload X89.here hx rfl (hb hby at_189) rfl rfl ?_
      show Steps p.tables e below (T89.setTop (mkF m 191 #[.val (.int p0), .val (.int p1), .val (.int p2), .val (.int p3), .val (.int p4), .val (.int p5), .val (.int (3 : Int32)), .val (.long z14), .second, .val (.int m23_s0), .val (.int m39_s0), .val (.int m55_s0), .val (.int m72_s0), .val (.ref b5), .val (.ref b19), .val (.ref b81), .unset] [(.ref b81)])) _
      refine XS.iconst X89.here hx rfl (hb hby at_191) ?_
      show Steps p.tables e below (T89.setTop (mkF m 192 #[.val (.int p0), .val (.int p1), .val (.int p2), .val (.int p3), .val (.int p4), .val (.int p5), .val (.int (3 : Int32)), .val (.long z14), .second, .val (.int m23_s0), .val (.int m39_s0), .val (.int m55_s0), .val (.int m72_s0), .val (.ref b5), .val (.ref b19), .val (.ref b81), .unset] [(.int (2 : Int32)), (.ref b81)])) _
      refine XS.iload X89.here hx rfl (hb hby at_192) rfl ?_
      by_cases hm194_0 : m55_s0 = (0 : Int32)
      · skip
        show Steps p.tables e below (T89.setTop (mkF m 194 #[.val (.int p0), .val (.int p1), .val (.int p2), .val (.int p3), .val (.int p4), .val (.int p5), .val (.int (3 : Int32)), .val (.long z14), .second, .val (.int m23_s0), .val (.int m39_s0), .val (.int m55_s0), .val (.int m72_s0), .val (.ref b5), .val (.ref b19), .val (.ref b81), .unset] [(.int m55_s0), (.int (2 : Int32)), (.ref b81)])) _
        refine XS.ifYes X89.here hx rfl (pc0 := 194) (pc' := 203) rfl (hb hby at_194) rfl (Jvm.Free.XT.i0_eq_t hm194_0) (by decide) (by decide) ?_
        show Steps p.tables e below (T89.setTop (mkF m 203 #[.val (.int p0), .val (.int p1), .val (.int p2), .val (.int p3), .val (.int p4), .val (.int p5), .val (.int (3 : Int32)), .val (.long z14), .second, .val (.int m23_s0), .val (.int m39_s0), .val (.int m55_s0), .val (.int m72_s0), .val (.ref b5), .val (.ref b19), .val (.ref b81), .unset] [(.int (2 : Int32)), (.ref b81)])) _
        refine XS.iloadN X89.here hx rfl (hb hby at_203) rfl ?_
        show Steps p.tables e below (T89.setTop (mkF m 204 #[.val (.int p0), .val (.int p1), .val (.int p2), .val (.int p3), .val (.int p4), .val (.int p5), .val (.int (3 : Int32)), .val (.long z14), .second, .val (.int m23_s0), .val (.int m39_s0), .val (.int m55_s0), .val (.int m72_s0), .val (.ref b5), .val (.ref b19), .val (.ref b81), .unset] [(.int p2), (.int (2 : Int32)), (.ref b81)])) _
        refine XS.i2dS X89.here hx rfl (hb hby at_204) rfl hz204 ?_
        obtain rfl : z204 = m194_s0 := by rw [← hm194_s0]; simp only [if_pos hm194_0]
        exact k
      · skip
        show Steps p.tables e below (T89.setTop (mkF m 194 #[.val (.int p0), .val (.int p1), .val (.int p2), .val (.int p3), .val (.int p4), .val (.int p5), .val (.int (3 : Int32)), .val (.long z14), .second, .val (.int m23_s0), .val (.int m39_s0), .val (.int m55_s0), .val (.int m72_s0), .val (.ref b5), .val (.ref b19), .val (.ref b81), .unset] [(.int m55_s0), (.int (2 : Int32)), (.ref b81)])) _
        refine XS.ifNo X89.here hx rfl (hb hby at_194) rfl (Jvm.Free.XT.i0_eq_f hm194_0) ?_
        show Steps p.tables e below (T89.setTop (mkF m 197 #[.val (.int p0), .val (.int p1), .val (.int p2), .val (.int p3), .val (.int p4), .val (.int p5), .val (.int (3 : Int32)), .val (.long z14), .second, .val (.int m23_s0), .val (.int m39_s0), .val (.int m55_s0), .val (.int m72_s0), .val (.ref b5), .val (.ref b19), .val (.ref b81), .unset] [(.int (2 : Int32)), (.ref b81)])) _
        refine X89.ldc2DoubleC hx hown (mvT hZ (hw _ (List.mem_of_getElem? (i := 20) rfl))) (g := (mkF m 197 #[.val (.int p0), .val (.int p1), .val (.int p2), .val (.int p3), .val (.int p4), .val (.int p5), .val (.int (3 : Int32)), .val (.long z14), .second, .val (.int m23_s0), .val (.int m39_s0), .val (.int m55_s0), .val (.int m72_s0), .val (.ref b5), .val (.ref b19), .val (.ref b81), .unset] [(.int (2 : Int32)), (.ref b81)])) rfl (hb hby at_197) _ ?_
        show Steps p.tables e below (T89.setTop (mkF m 200 #[.val (.int p0), .val (.int p1), .val (.int p2), .val (.int p3), .val (.int p4), .val (.int p5), .val (.int (3 : Int32)), .val (.long z14), .second, .val (.int m23_s0), .val (.int m39_s0), .val (.int m55_s0), .val (.int m72_s0), .val (.ref b5), .val (.ref b19), .val (.ref b81), .unset] [(.double (18442240474082181120 : UInt64)), (.int (2 : Int32)), (.ref b81)])) _
        refine XS.goto X89.here hx rfl (pc0 := 200) (pc' := 205) rfl (hb hby at_200) (by decide) (by decide) ?_
        obtain rfl : (18442240474082181120 : UInt64) = m194_s0 := by rw [← hm194_s0]; simp only [if_neg hm194_0]
        exact k
    obtain ⟨cl92, Ar92, q92, S92, Nn92, Ha92, G92⟩ := id V89
    have in92 : ¬ ((2 : Int32) < 0 ∨ cl92.slots.size ≤ ((2 : Int32)).toNatClampNeg) := inb_of S92 ⟨by decide, by decide⟩
    obtain ⟨T93, h93, X93, e93, W93, st93⟩ := stD X89 hx hZ e89 Ar92 (j := (2 : Int32)) in92 (g := (mkF m 205 #[.val (.int p0), .val (.int p1), .val (.int p2), .val (.int p3), .val (.int p4), .val (.int p5), .val (.int (3 : Int32)), .val (.long z14), .second, .val (.int m23_s0), .val (.int m39_s0), .val (.int m55_s0), .val (.int m72_s0), .val (.ref b5), .val (.ref b19), .val (.ref b81), .unset] [(.double m194_s0), (.int (2 : Int32)), (.ref b81)])) rfl rfl (hb hby at_205)
    have N93 := Fr.snoc X93 N89 gn81
    have K94 : Keep h0 h93 [] := K90.wr W93 (Or.inr gz81)
    have V93 : Arv Z h93 b81 k81 .double (3 : Int32) [(.double m148_s0), (.double m171_s0), (.double m194_s0)] (.double (0 : UInt64)) := Arv.set Ar92 q92 S92 Nn92 Ha92 G92 rfl W93 2 rfl (show (2 : Nat) < 3 by decide)
    have bT : 0 ≤ z14.toInt ∧ z14.toInt < 2147483648 := by rw [Jvm.OwnF.i2l_v hz14]; exact Jvm.OwnF.mask31 hz13
    have dT : Jvm.OwnF.DV z14.toInt 0 z233 := hz233 ▸ Jvm.OwnF.DV_l2d (Jvm.OwnF.r53 (by omega))
    have e0_ := EVe hz158 hm148_s0
    have c234_nm0_32 := (ev0).nn
    have c234_nm1_32 := e0_.nn
    have x0_ := EV_max (ev0) e0_ hc234_z32
    have e1_ := EVe hz181 hm171_s0
    have c234_nm0_32_2 := (x0_).nn
    have c234_nm1_32_2 := e1_.nn
    have x1_ := EV_max (x0_) e1_ hc234_z32_2
    have e2_ := EVe hz204 hm194_s0
    have c234_nm0_32_3 := (x1_).nn
    have c234_nm1_32_3 := e2_.nn
    have x2_ := EV_max (x1_) e2_ hc234_z32_3
    have s0_ := EV_sub (x2_) (mx_le (mx_le (mx_le bd0 (bde m23_s0 p0)) (bde m39_s0 p1)) (bde m55_s0 p2)) dT bT hc234_z68
    have c234_nn68 := s0_.nn
    obtain ⟨c234_nb78, c234_fi78⟩ := nar2 hc234_m70_s0
    have s1_ := EV_sub (x2_) (mx_le (mx_le (mx_le bd0 (bde m23_s0 p0)) (bde m39_s0 p1)) (bde m55_s0 p2)) dT bT hc234_z68_2
    have c234_nn68_2 := s1_.nn
    obtain ⟨c234_nb78_2, c234_fi78_2⟩ := nar2 hc234_m70_s0_2
    have s2_ := EV_sub (x2_) (mx_le (mx_le (mx_le bd0 (bde m23_s0 p0)) (bde m39_s0 p1)) (bde m55_s0 p2)) dT bT hc234_z68_3
    have c234_nn68_3 := s2_.nn
    obtain ⟨c234_nb78_3, c234_fi78_3⟩ := nar2 hc234_m70_s0_3
    obtain ⟨_, _, ⟨T95, L95, k95, n95⟩, -, X95, ⟨Lc95, hQ95, ql95, qy95, qz95⟩, st95⟩ := Jvm.LawKit.callS X93 hx (y := (⟨"com/example/credal_choice/credalchoice/criteria/Choice", "nearLargest", "([DD)[Z"⟩ : MethodName)) hown (mvT hZ (hw _ (List.mem_of_getElem? (i := 4) rfl))) (mvT hZ (hw _ (List.mem_of_getElem? (i := 5) rfl))) (mvT hZ (hw _ (List.mem_of_getElem? (i := 6) rfl))) (mvT hZ (hw _ (List.mem_of_getElem? (i := 7) rfl))) (by decide) (backOf (W := 0) (rm1_3 l Z a0 hw [] b81 z233 k81 m148_s0 m171_s0 m194_s0 c234_z32 c234_z32_2 c234_z32_3 c234_z68 c234_z69 c234_m70_s0 c234_z68_2 c234_z69_2 c234_m70_s0_2 c234_z68_3 c234_z69_3 c234_m70_s0_3 h93 n0 (Nat.le_trans (Nat.le_trans (Nat.le_trans (Nat.le_trans (Nat.le_trans (Nat.le_trans (Nat.le_trans (Nat.le_trans (Nat.le_trans (Nat.le_trans (Nat.le_trans (Nat.le_trans (Nat.le_trans (Nat.le_trans Z0 E5.1) (Keep.of_wr W8).1) (Keep.of_wr W11).1) (Keep.of_wr W14).1) (Keep.of_wr W17).1) E19.1) (Keep.of_wr W22).1) (Keep.of_wr W25).1) (Keep.of_wr W28).1) (Keep.of_wr W31).1) E81.1) (Keep.of_wr W85).1) (Keep.of_wr W89).1) (Keep.of_wr W93).1) V93 hc234_z32 hc234_z32_2 hc234_z32_3 hc234_z68 hc234_z69 hc234_m70_s0 hc234_z68_2 hc234_z69_2 hc234_m70_s0_2 hc234_z68_3 hc234_z69_3 hc234_m70_s0_3 c234_nm0_32 c234_nm1_32 c234_nm0_32_2 c234_nm1_32_2 c234_nm0_32_3 c234_nm1_32_3 c234_nn68 c234_nb78 c234_fi78 c234_nn68_2 c234_nb78_2 c234_fi78_2 c234_nn68_3 c234_nb78_3 c234_fi78_3) hZ (hw _ (List.mem_of_getElem? (i := 7) rfl)) (hw _ (List.mem_of_getElem? (i := 6) rfl)) (by decide) (by decide)) (g := (mkF m 234 #[.val (.int p0), .val (.int p1), .val (.int p2), .val (.int p3), .val (.int p4), .val (.int p5), .val (.int (3 : Int32)), .val (.long z14), .second, .val (.int m23_s0), .val (.int m39_s0), .val (.int m55_s0), .val (.int m72_s0), .val (.ref b5), .val (.ref b19), .val (.ref b81), .unset] [(.double z233), (.ref b81)])) rfl (by rw [hml]; rfl) (argsL := [(.ref b81), (.double z233)]) (rest := []) (lenOf pd_2 rfl) rfl (by show 2 * 0 + _ ≤ _; exact Nat.le_of_eq rfl) (hb hby at_234) (fun _ _ => ⟨rfl, e93, (by decide : 3 + 1 ≤ _), (by decide : 11 + 3 ≤ _)⟩)
    dsimp only [Pt.U, Pt.locs, Pt.cells, Pt.slots] at X95 ql95 qy95 qz95 st95 hQ95
    subst ql95 qy95 qz95
    obtain ⟨rb95_b9, kk95_k9, rfl, N95q, gz95_b9, K95q, Q95_0⟩ := hQ95
    have N95 := Fr.app N93 N95q
    have gn95_b9 : n0 ≤ rb95_b9 := Nat.le_trans (Nat.le_trans (Nat.le_trans (Nat.le_trans (Nat.le_trans (Nat.le_trans (Nat.le_trans (Nat.le_trans (Nat.le_trans (Nat.le_trans (Nat.le_trans (Nat.le_trans (Nat.le_trans (Nat.le_trans (Nat.le_trans Z0 E5.1) (Keep.of_wr W8).1) (Keep.of_wr W11).1) (Keep.of_wr W14).1) (Keep.of_wr W17).1) E19.1) (Keep.of_wr W22).1) (Keep.of_wr W25).1) (Keep.of_wr W28).1) (Keep.of_wr W31).1) E81.1) (Keep.of_wr W85).1) (Keep.of_wr W89).1) (Keep.of_wr W93).1) gz95_b9
    have gy95_b9 : h0.size ≤ rb95_b9 := Nat.le_trans (K94).1 gz95_b9
    have K96 : Keep h0 T95.heap [] := Keep.trans K94 K95q all0
    obtain ⟨cl97, Ar97, -, S97, Nn97, -, -⟩ := id Q95_0
    obtain ⟨cl98, Ar98, -, S98, -, Ha98, -⟩ := id Q95_0
    have in98 : ¬ ((0 : Int32) < 0 ∨ cl98.slots.size ≤ ((0 : Int32)).toNatClampNeg) := inb_of S98 ⟨by decide, by decide⟩
    have f99 := ((((((((((V17.ext E19).other W22 (Nat.ne_of_lt (Nat.lt_of_lt_of_le (V17).lt (Nat.le_of_eq g19.symm)))).other W25 (Nat.ne_of_lt (Nat.lt_of_lt_of_le (V17).lt (Nat.le_of_eq g19.symm)))).other W28 (Nat.ne_of_lt (Nat.lt_of_lt_of_le (V17).lt (Nat.le_of_eq g19.symm)))).other W31 (Nat.ne_of_lt (Nat.lt_of_lt_of_le (V17).lt (Nat.le_of_eq g19.symm)))).ext E81).other W85 (Nat.ne_of_lt (Nat.lt_of_lt_of_le ((((((V17.ext E19).other W22 (Nat.ne_of_lt (Nat.lt_of_lt_of_le (V17).lt (Nat.le_of_eq g19.symm)))).other W25 (Nat.ne_of_lt (Nat.lt_of_lt_of_le (V17).lt (Nat.le_of_eq g19.symm)))).other W28 (Nat.ne_of_lt (Nat.lt_of_lt_of_le (V17).lt (Nat.le_of_eq g19.symm)))).other W31 (Nat.ne_of_lt (Nat.lt_of_lt_of_le (V17).lt (Nat.le_of_eq g19.symm))))).lt (Nat.le_of_eq g81.symm)))).other W89 (Nat.ne_of_lt (Nat.lt_of_lt_of_le ((((((V17.ext E19).other W22 (Nat.ne_of_lt (Nat.lt_of_lt_of_le (V17).lt (Nat.le_of_eq g19.symm)))).other W25 (Nat.ne_of_lt (Nat.lt_of_lt_of_le (V17).lt (Nat.le_of_eq g19.symm)))).other W28 (Nat.ne_of_lt (Nat.lt_of_lt_of_le (V17).lt (Nat.le_of_eq g19.symm)))).other W31 (Nat.ne_of_lt (Nat.lt_of_lt_of_le (V17).lt (Nat.le_of_eq g19.symm))))).lt (Nat.le_of_eq g81.symm)))).other W93 (Nat.ne_of_lt (Nat.lt_of_lt_of_le ((((((V17.ext E19).other W22 (Nat.ne_of_lt (Nat.lt_of_lt_of_le (V17).lt (Nat.le_of_eq g19.symm)))).other W25 (Nat.ne_of_lt (Nat.lt_of_lt_of_le (V17).lt (Nat.le_of_eq g19.symm)))).other W28 (Nat.ne_of_lt (Nat.lt_of_lt_of_le (V17).lt (Nat.le_of_eq g19.symm)))).other W31 (Nat.ne_of_lt (Nat.lt_of_lt_of_le (V17).lt (Nat.le_of_eq g19.symm))))).lt (Nat.le_of_eq g81.symm)))).keep K95q nin0)
    obtain ⟨cl100, Ar100, -, S100, -, Ha100, -⟩ := id f99
    have in100 : ¬ ((0 : Int32) < 0 ∨ cl100.slots.size ≤ ((0 : Int32)).toNatClampNeg) := inb_of S100 ⟨by decide, by decide⟩
    have f101 := (((((V31.ext E81).other W85 (Nat.ne_of_lt (Nat.lt_of_lt_of_le (V31).lt (Nat.le_of_eq g81.symm)))).other W89 (Nat.ne_of_lt (Nat.lt_of_lt_of_le (V31).lt (Nat.le_of_eq g81.symm)))).other W93 (Nat.ne_of_lt (Nat.lt_of_lt_of_le (V31).lt (Nat.le_of_eq g81.symm)))).keep K95q nin0)
    obtain ⟨cl102, Ar102, -, S102, -, Ha102, -⟩ := id f101
    have in102 : ¬ ((0 : Int32) < 0 ∨ cl102.slots.size ≤ ((0 : Int32)).toNatClampNeg) := inb_of S102 ⟨by decide, by decide⟩
    obtain ⟨_, _, ⟨T103, L103, k103, n103⟩, -, X103, ⟨Lc103, hQ103, ql103, qy103, qz103⟩, st103⟩ := Jvm.LawKit.callS X95 hx (y := (⟨"com/example/credal_choice/credalchoice/criteria/ChoiceNearLargestPinLaw", "near", "(JZ[J[ZIJ)Z"⟩ : MethodName)) hown (mvT hZ (hw _ (List.mem_of_getElem? (i := 13) rfl))) (mvT hZ (hw _ (List.mem_of_getElem? (i := 14) rfl))) (mvT hZ (hw _ (List.mem_of_getElem? (i := 15) rfl))) (mvT hZ (hw _ (List.mem_of_getElem? (i := 16) rfl))) (by decide) (backOf (W := 1) (rm3_3 l Z a0 hw [] z88 m23_s0 b5 b19 z14 k5 z88 z93 z98 z103 k19 m23_s0 m39_s0 m55_s0 m72_s0 c274_c16_z12 c274_c16_z14 c274_c16_rv c274_c39_z12 c274_c39_z14 c274_c39_rv c274_c62_z12 c274_c62_z14 c274_c62_rv c274_rv T95.heap n0 (Nat.le_trans (Nat.le_trans (Nat.le_trans (Nat.le_trans (Nat.le_trans (Nat.le_trans (Nat.le_trans (Nat.le_trans (Nat.le_trans (Nat.le_trans (Nat.le_trans (Nat.le_trans (Nat.le_trans (Nat.le_trans (Nat.le_trans Z0 E5.1) (Keep.of_wr W8).1) (Keep.of_wr W11).1) (Keep.of_wr W14).1) (Keep.of_wr W17).1) E19.1) (Keep.of_wr W22).1) (Keep.of_wr W25).1) (Keep.of_wr W28).1) (Keep.of_wr W31).1) E81.1) (Keep.of_wr W85).1) (Keep.of_wr W89).1) (Keep.of_wr W93).1) K95q.1) f99 f101 hc274_c16_z12 hc274_c16_z14 hc274_c16_rv hc274_c39_z12 hc274_c39_z14 hc274_c39_rv hc274_c62_z12 hc274_c62_z14 hc274_c62_rv hc274_rv) hZ (hw _ (List.mem_of_getElem? (i := 16) rfl)) (hw _ (List.mem_of_getElem? (i := 15) rfl)) (by decide) (by decide)) (g := (mkF m 274 #[.val (.int p0), .val (.int p1), .val (.int p2), .val (.int p3), .val (.int p4), .val (.int p5), .val (.int (3 : Int32)), .val (.long z14), .second, .val (.int m23_s0), .val (.int m39_s0), .val (.int m55_s0), .val (.int m72_s0), .val (.ref b5), .val (.ref b19), .val (.ref b81), .val (.ref rb95_b9)] [(.long z14), (.int (3 : Int32)), (.ref b19), (.ref b5), (.int m23_s0), (.long z88), (.int c234_m70_s0)])) rfl (by rw [hml]; rfl) (argsL := [(.long z88), (.int m23_s0), (.ref b5), (.ref b19), (.int (3 : Int32)), (.long z14)]) (rest := [(.int c234_m70_s0)]) (lenOf pd_3 rfl) rfl (by show 2 * 0 + _ ≤ _; exact Nat.le_of_eq rfl) (hb hby at_274) (fun _ _ => ⟨rfl, rfl, (by decide : 4 + 0 ≤ _), (by decide : 14 + 0 ≤ _)⟩)
    dsimp only [Pt.U, Pt.locs, Pt.cells, Pt.slots] at X103 ql103 qy103 qz103 st103 hQ103
    subst ql103 qy103 qz103
    obtain ⟨rfl, N103q, e103⟩ := hQ103
    have N103 := Fr.app N95 N103q
    have br277 : c234_m70_s0 = c274_rv := N3 (bt hz88 hz88 bT hc274_c16_z12 hc274_c16_z14 hc274_c16_rv) (bt hz88 hz93 bT hc274_c39_z12 hc274_c39_z14 hc274_c39_rv) (bt hz88 hz98 bT hc274_c62_z12 hc274_c62_z14 hc274_c62_rv) (by simp only [lt_sub, lt_mx]; rfl) (last (EV_cmp e0_ s0_ hc234_z69) hc234_m70_s0) hc274_rv
    obtain ⟨cl104, Ar104, -, S104, -, Ha104, -⟩ := id Q95_0
    have in104 : ¬ ((1 : Int32) < 0 ∨ cl104.slots.size ≤ ((1 : Int32)).toNatClampNeg) := inb_of S104 ⟨by decide, by decide⟩
    obtain ⟨cl105, Ar105, -, S105, -, Ha105, -⟩ := id f99
    have in105 : ¬ ((1 : Int32) < 0 ∨ cl105.slots.size ≤ ((1 : Int32)).toNatClampNeg) := inb_of S105 ⟨by decide, by decide⟩
    obtain ⟨cl106, Ar106, -, S106, -, Ha106, -⟩ := id f101
    have in106 : ¬ ((1 : Int32) < 0 ∨ cl106.slots.size ≤ ((1 : Int32)).toNatClampNeg) := inb_of S106 ⟨by decide, by decide⟩
    obtain ⟨_, _, ⟨T107, L107, k107, n107⟩, -, X107, ⟨Lc107, hQ107, ql107, qy107, qz107⟩, st107⟩ := Jvm.LawKit.callS X103 hx (y := (⟨"com/example/credal_choice/credalchoice/criteria/ChoiceNearLargestPinLaw", "near", "(JZ[J[ZIJ)Z"⟩ : MethodName)) hown (mvT hZ (hw _ (List.mem_of_getElem? (i := 13) rfl))) (mvT hZ (hw _ (List.mem_of_getElem? (i := 14) rfl))) (mvT hZ (hw _ (List.mem_of_getElem? (i := 15) rfl))) (mvT hZ (hw _ (List.mem_of_getElem? (i := 16) rfl))) (by decide) (backOf (W := 1) (rm3_3 l Z a0 hw [] z93 m39_s0 b5 b19 z14 k5 z88 z93 z98 z103 k19 m23_s0 m39_s0 m55_s0 m72_s0 c308_c16_z12 c308_c16_z14 c308_c16_rv c308_c39_z12 c308_c39_z14 c308_c39_rv c308_c62_z12 c308_c62_z14 c308_c62_rv c308_rv T95.heap n0 (Nat.le_trans (Nat.le_trans (Nat.le_trans (Nat.le_trans (Nat.le_trans (Nat.le_trans (Nat.le_trans (Nat.le_trans (Nat.le_trans (Nat.le_trans (Nat.le_trans (Nat.le_trans (Nat.le_trans (Nat.le_trans (Nat.le_trans Z0 E5.1) (Keep.of_wr W8).1) (Keep.of_wr W11).1) (Keep.of_wr W14).1) (Keep.of_wr W17).1) E19.1) (Keep.of_wr W22).1) (Keep.of_wr W25).1) (Keep.of_wr W28).1) (Keep.of_wr W31).1) E81.1) (Keep.of_wr W85).1) (Keep.of_wr W89).1) (Keep.of_wr W93).1) K95q.1) f99 f101 hc308_c16_z12 hc308_c16_z14 hc308_c16_rv hc308_c39_z12 hc308_c39_z14 hc308_c39_rv hc308_c62_z12 hc308_c62_z14 hc308_c62_rv hc308_rv) hZ (hw _ (List.mem_of_getElem? (i := 16) rfl)) (hw _ (List.mem_of_getElem? (i := 15) rfl)) (by decide) (by decide)) (g := (mkF m 308 #[.val (.int p0), .val (.int p1), .val (.int p2), .val (.int p3), .val (.int p4), .val (.int p5), .val (.int (3 : Int32)), .val (.long z14), .second, .val (.int m23_s0), .val (.int m39_s0), .val (.int m55_s0), .val (.int m72_s0), .val (.ref b5), .val (.ref b19), .val (.ref b81), .val (.ref rb95_b9)] [(.long z14), (.int (3 : Int32)), (.ref b19), (.ref b5), (.int m39_s0), (.long z93), (.int c234_m70_s0_2)])) rfl (by rw [hml]; rfl) (argsL := [(.long z93), (.int m39_s0), (.ref b5), (.ref b19), (.int (3 : Int32)), (.long z14)]) (rest := [(.int c234_m70_s0_2)]) (lenOf pd_3 rfl) rfl (by show 2 * 0 + _ ≤ _; exact Nat.le_of_eq rfl) (hb hby at_308) (fun _ _ => ⟨rfl, e103, (by decide : 4 + 0 ≤ _), (by decide : 14 + 0 ≤ _)⟩)
    dsimp only [Pt.U, Pt.locs, Pt.cells, Pt.slots] at X107 ql107 qy107 qz107 st107 hQ107
    subst ql107 qy107 qz107
    obtain ⟨rfl, N107q, e107⟩ := hQ107
    have N107 := Fr.app N103 N107q
    have br311 : c234_m70_s0_2 = c308_rv := N3 (bt hz93 hz88 bT hc308_c16_z12 hc308_c16_z14 hc308_c16_rv) (bt hz93 hz93 bT hc308_c39_z12 hc308_c39_z14 hc308_c39_rv) (bt hz93 hz98 bT hc308_c62_z12 hc308_c62_z14 hc308_c62_rv) (by simp only [lt_sub, lt_mx]; rfl) (last (EV_cmp e1_ s1_ hc234_z69_2) hc234_m70_s0_2) hc308_rv
    obtain ⟨cl108, Ar108, -, S108, -, Ha108, -⟩ := id Q95_0
    have in108 : ¬ ((2 : Int32) < 0 ∨ cl108.slots.size ≤ ((2 : Int32)).toNatClampNeg) := inb_of S108 ⟨by decide, by decide⟩
    obtain ⟨cl109, Ar109, -, S109, -, Ha109, -⟩ := id f99
    have in109 : ¬ ((2 : Int32) < 0 ∨ cl109.slots.size ≤ ((2 : Int32)).toNatClampNeg) := inb_of S109 ⟨by decide, by decide⟩
    obtain ⟨cl110, Ar110, -, S110, -, Ha110, -⟩ := id f101
    have in110 : ¬ ((2 : Int32) < 0 ∨ cl110.slots.size ≤ ((2 : Int32)).toNatClampNeg) := inb_of S110 ⟨by decide, by decide⟩
    obtain ⟨_, _, ⟨T111, L111, k111, n111⟩, -, X111, ⟨Lc111, hQ111, ql111, qy111, qz111⟩, st111⟩ := Jvm.LawKit.callS X107 hx (y := (⟨"com/example/credal_choice/credalchoice/criteria/ChoiceNearLargestPinLaw", "near", "(JZ[J[ZIJ)Z"⟩ : MethodName)) hown (mvT hZ (hw _ (List.mem_of_getElem? (i := 13) rfl))) (mvT hZ (hw _ (List.mem_of_getElem? (i := 14) rfl))) (mvT hZ (hw _ (List.mem_of_getElem? (i := 15) rfl))) (mvT hZ (hw _ (List.mem_of_getElem? (i := 16) rfl))) (by decide) (backOf (W := 1) (rm3_3 l Z a0 hw [] z98 m55_s0 b5 b19 z14 k5 z88 z93 z98 z103 k19 m23_s0 m39_s0 m55_s0 m72_s0 c342_c16_z12 c342_c16_z14 c342_c16_rv c342_c39_z12 c342_c39_z14 c342_c39_rv c342_c62_z12 c342_c62_z14 c342_c62_rv c342_rv T95.heap n0 (Nat.le_trans (Nat.le_trans (Nat.le_trans (Nat.le_trans (Nat.le_trans (Nat.le_trans (Nat.le_trans (Nat.le_trans (Nat.le_trans (Nat.le_trans (Nat.le_trans (Nat.le_trans (Nat.le_trans (Nat.le_trans (Nat.le_trans Z0 E5.1) (Keep.of_wr W8).1) (Keep.of_wr W11).1) (Keep.of_wr W14).1) (Keep.of_wr W17).1) E19.1) (Keep.of_wr W22).1) (Keep.of_wr W25).1) (Keep.of_wr W28).1) (Keep.of_wr W31).1) E81.1) (Keep.of_wr W85).1) (Keep.of_wr W89).1) (Keep.of_wr W93).1) K95q.1) f99 f101 hc342_c16_z12 hc342_c16_z14 hc342_c16_rv hc342_c39_z12 hc342_c39_z14 hc342_c39_rv hc342_c62_z12 hc342_c62_z14 hc342_c62_rv hc342_rv) hZ (hw _ (List.mem_of_getElem? (i := 16) rfl)) (hw _ (List.mem_of_getElem? (i := 15) rfl)) (by decide) (by decide)) (g := (mkF m 342 #[.val (.int p0), .val (.int p1), .val (.int p2), .val (.int p3), .val (.int p4), .val (.int p5), .val (.int (3 : Int32)), .val (.long z14), .second, .val (.int m23_s0), .val (.int m39_s0), .val (.int m55_s0), .val (.int m72_s0), .val (.ref b5), .val (.ref b19), .val (.ref b81), .val (.ref rb95_b9)] [(.long z14), (.int (3 : Int32)), (.ref b19), (.ref b5), (.int m55_s0), (.long z98), (.int c234_m70_s0_3)])) rfl (by rw [hml]; rfl) (argsL := [(.long z98), (.int m55_s0), (.ref b5), (.ref b19), (.int (3 : Int32)), (.long z14)]) (rest := [(.int c234_m70_s0_3)]) (lenOf pd_3 rfl) rfl (by show 2 * 0 + _ ≤ _; exact Nat.le_of_eq rfl) (hb hby at_342) (fun _ _ => ⟨rfl, e107, (by decide : 4 + 0 ≤ _), (by decide : 14 + 0 ≤ _)⟩)
    dsimp only [Pt.U, Pt.locs, Pt.cells, Pt.slots] at X111 ql111 qy111 qz111 st111 hQ111
    subst ql111 qy111 qz111
    obtain ⟨rfl, N111q, e111⟩ := hQ111
    have N111 := Fr.app N107 N111q
    have br345 : c234_m70_s0_3 = c342_rv := N3 (bt hz98 hz88 bT hc342_c16_z12 hc342_c16_z14 hc342_c16_rv) (bt hz98 hz93 bT hc342_c39_z12 hc342_c39_z14 hc342_c39_rv) (bt hz98 hz98 bT hc342_c62_z12 hc342_c62_z14 hc342_c62_rv) (by simp only [lt_sub, lt_mx]; rfl) (last (EV_cmp e2_ s2_ hc234_z69_3) hc234_m70_s0_3) hc342_rv
    have c112 : ∀ t, Steps p.tables e below (T111.setTop (mkF m 385 #[.val (.int p0), .val (.int p1), .val (.int p2), .val (.int p3), .val (.int p4), .val (.int p5), .val (.int (3 : Int32)), .val (.long z14), .second, .val (.int m23_s0), .val (.int m39_s0), .val (.int m55_s0), .val (.int m72_s0), .val (.ref b5), .val (.ref b19), .val (.ref b81), .val (.ref rb95_b9)] [(.int (1 : Int32))])) t → Steps p.tables e below (s₁.setTop (entryFrame m #[(.int p0), (.int p1), (.int p2), (.int p3), (.int p4), (.int p5)] maxLocals)) t := by
      intro t k
      refine c91 t ?_
      show Steps p.tables e below (T89.setTop (mkF m 205 #[.val (.int p0), .val (.int p1), .val (.int p2), .val (.int p3), .val (.int p4), .val (.int p5), .val (.int (3 : Int32)), .val (.long z14), .second, .val (.int m23_s0), .val (.int m39_s0), .val (.int m55_s0), .val (.int m72_s0), .val (.ref b5), .val (.ref b19), .val (.ref b81), .unset] [(.double m194_s0), (.int (2 : Int32)), (.ref b81)])) _
      refine st93 _ ?_
      show Steps p.tables e below (T93.setTop (mkF m 206 #[.val (.int p0), .val (.int p1), .val (.int p2), .val (.int p3), .val (.int p4), .val (.int p5), .val (.int (3 : Int32)), .val (.long z14), .second, .val (.int m23_s0), .val (.int m39_s0), .val (.int m55_s0), .val (.int m72_s0), .val (.ref b5), .val (.ref b19), .val (.ref b81), .unset] [])) _
      refine XS.iload X93.here hx rfl (hb hby at_206) rfl ?_
      show Steps p.tables e below (T93.setTop (mkF m 208 #[.val (.int p0), .val (.int p1), .val (.int p2), .val (.int p3), .val (.int p4), .val (.int p5), .val (.int (3 : Int32)), .val (.long z14), .second, .val (.int m23_s0), .val (.int m39_s0), .val (.int m55_s0), .val (.int m72_s0), .val (.ref b5), .val (.ref b19), .val (.ref b81), .unset] [(.int (3 : Int32))])) _
      refine XS.iconst X93.here hx rfl (hb hby at_208) ?_
      show Steps p.tables e below (T93.setTop (mkF m 209 #[.val (.int p0), .val (.int p1), .val (.int p2), .val (.int p3), .val (.int p4), .val (.int p5), .val (.int (3 : Int32)), .val (.long z14), .second, .val (.int m23_s0), .val (.int m39_s0), .val (.int m55_s0), .val (.int m72_s0), .val (.ref b5), .val (.ref b19), .val (.ref b81), .unset] [(.int (3 : Int32)), (.int (3 : Int32))])) _
      refine XS.icmpYes X93.here hx rfl (pc0 := 209) (pc' := 229) rfl (hb hby at_209) rfl (Jvm.Free.XT.ii_le_t (by decide)) (by decide) (by decide) ?_
      show Steps p.tables e below (T93.setTop (mkF m 229 #[.val (.int p0), .val (.int p1), .val (.int p2), .val (.int p3), .val (.int p4), .val (.int p5), .val (.int (3 : Int32)), .val (.long z14), .second, .val (.int m23_s0), .val (.int m39_s0), .val (.int m55_s0), .val (.int m72_s0), .val (.ref b5), .val (.ref b19), .val (.ref b81), .unset] [])) _
      refine XS.aload X93.here hx rfl (hb hby at_229) rfl rfl ?_
      show Steps p.tables e below (T93.setTop (mkF m 231 #[.val (.int p0), .val (.int p1), .val (.int p2), .val (.int p3), .val (.int p4), .val (.int p5), .val (.int (3 : Int32)), .val (.long z14), .second, .val (.int m23_s0), .val (.int m39_s0), .val (.int m55_s0), .val (.int m72_s0), .val (.ref b5), .val (.ref b19), .val (.ref b81), .unset] [(.ref b81)])) _
      refine XS.lload X93.here hx rfl (hb hby at_231) rfl ?_
      show Steps p.tables e below (T93.setTop (mkF m 233 #[.val (.int p0), .val (.int p1), .val (.int p2), .val (.int p3), .val (.int p4), .val (.int p5), .val (.int (3 : Int32)), .val (.long z14), .second, .val (.int m23_s0), .val (.int m39_s0), .val (.int m55_s0), .val (.int m72_s0), .val (.ref b5), .val (.ref b19), .val (.ref b81), .unset] [(.long z14), (.ref b81)])) _
      refine XS.l2dS X93.here hx rfl (hb hby at_233) rfl hz233 ?_
      show Steps p.tables e below (T93.setTop (mkF m 234 #[.val (.int p0), .val (.int p1), .val (.int p2), .val (.int p3), .val (.int p4), .val (.int p5), .val (.int (3 : Int32)), .val (.long z14), .second, .val (.int m23_s0), .val (.int m39_s0), .val (.int m55_s0), .val (.int m72_s0), .val (.ref b5), .val (.ref b19), .val (.ref b81), .unset] [(.double z233), (.ref b81)])) _
      refine st95 _ ?_
      show Steps p.tables e below (T95.setTop (mkF m 237 #[.val (.int p0), .val (.int p1), .val (.int p2), .val (.int p3), .val (.int p4), .val (.int p5), .val (.int (3 : Int32)), .val (.long z14), .second, .val (.int m23_s0), .val (.int m39_s0), .val (.int m55_s0), .val (.int m72_s0), .val (.ref b5), .val (.ref b19), .val (.ref b81), .unset] [(.ref rb95_b9)])) _
      refine XS.astore X95.here hx rfl (hb hby at_237) rfl rfl (l' := #[.val (.int p0), .val (.int p1), .val (.int p2), .val (.int p3), .val (.int p4), .val (.int p5), .val (.int (3 : Int32)), .val (.long z14), .second, .val (.int m23_s0), .val (.int m39_s0), .val (.int m55_s0), .val (.int m72_s0), .val (.ref b5), .val (.ref b19), .val (.ref b81), .val (.ref rb95_b9)]) rfl ?_
      show Steps p.tables e below (T95.setTop (mkF m 239 #[.val (.int p0), .val (.int p1), .val (.int p2), .val (.int p3), .val (.int p4), .val (.int p5), .val (.int (3 : Int32)), .val (.long z14), .second, .val (.int m23_s0), .val (.int m39_s0), .val (.int m55_s0), .val (.int m72_s0), .val (.ref b5), .val (.ref b19), .val (.ref b81), .val (.ref rb95_b9)] [])) _
      refine XS.aload X95.here hx rfl (hb hby at_239) rfl rfl ?_
      show Steps p.tables e below (T95.setTop (mkF m 241 #[.val (.int p0), .val (.int p1), .val (.int p2), .val (.int p3), .val (.int p4), .val (.int p5), .val (.int (3 : Int32)), .val (.long z14), .second, .val (.int m23_s0), .val (.int m39_s0), .val (.int m55_s0), .val (.int m72_s0), .val (.ref b5), .val (.ref b19), .val (.ref b81), .val (.ref rb95_b9)] [(.ref rb95_b9)])) _
      refine X95.arraylength hx Ar97.1 (State.isArrayOf_alike hZ.alike Ar97.2.1) (g := (mkF m 241 #[.val (.int p0), .val (.int p1), .val (.int p2), .val (.int p3), .val (.int p4), .val (.int p5), .val (.int (3 : Int32)), .val (.long z14), .second, .val (.int m23_s0), .val (.int m39_s0), .val (.int m55_s0), .val (.int m72_s0), .val (.ref b5), .val (.ref b19), .val (.ref b81), .val (.ref rb95_b9)] [(.ref rb95_b9)])) rfl rfl (hb hby at_241) _ ?_
      rw [len_of S97 Nn97]
      show Steps p.tables e below (T95.setTop (mkF m 242 #[.val (.int p0), .val (.int p1), .val (.int p2), .val (.int p3), .val (.int p4), .val (.int p5), .val (.int (3 : Int32)), .val (.long z14), .second, .val (.int m23_s0), .val (.int m39_s0), .val (.int m55_s0), .val (.int m72_s0), .val (.ref b5), .val (.ref b19), .val (.ref b81), .val (.ref rb95_b9)] [(.int (3 : Int32))])) _
      refine XS.iload X95.here hx rfl (hb hby at_242) rfl ?_
      show Steps p.tables e below (T95.setTop (mkF m 244 #[.val (.int p0), .val (.int p1), .val (.int p2), .val (.int p3), .val (.int p4), .val (.int p5), .val (.int (3 : Int32)), .val (.long z14), .second, .val (.int m23_s0), .val (.int m39_s0), .val (.int m55_s0), .val (.int m72_s0), .val (.ref b5), .val (.ref b19), .val (.ref b81), .val (.ref rb95_b9)] [(.int (3 : Int32)), (.int (3 : Int32))])) _
      refine XS.icmpYes X95.here hx rfl (pc0 := 244) (pc' := 249) rfl (hb hby at_244) rfl (Jvm.Free.XT.ii_eq_t (by decide)) (by decide) (by decide) ?_
      show Steps p.tables e below (T95.setTop (mkF m 249 #[.val (.int p0), .val (.int p1), .val (.int p2), .val (.int p3), .val (.int p4), .val (.int p5), .val (.int (3 : Int32)), .val (.long z14), .second, .val (.int m23_s0), .val (.int m39_s0), .val (.int m55_s0), .val (.int m72_s0), .val (.ref b5), .val (.ref b19), .val (.ref b81), .val (.ref rb95_b9)] [])) _
      refine XS.iload X95.here hx rfl (hb hby at_249) rfl ?_
      show Steps p.tables e below (T95.setTop (mkF m 251 #[.val (.int p0), .val (.int p1), .val (.int p2), .val (.int p3), .val (.int p4), .val (.int p5), .val (.int (3 : Int32)), .val (.long z14), .second, .val (.int m23_s0), .val (.int m39_s0), .val (.int m55_s0), .val (.int m72_s0), .val (.ref b5), .val (.ref b19), .val (.ref b81), .val (.ref rb95_b9)] [(.int (3 : Int32))])) _
      refine XS.ifNo X95.here hx rfl (hb hby at_251) rfl (Jvm.Free.XT.i0_le_f (by decide)) ?_
      show Steps p.tables e below (T95.setTop (mkF m 254 #[.val (.int p0), .val (.int p1), .val (.int p2), .val (.int p3), .val (.int p4), .val (.int p5), .val (.int (3 : Int32)), .val (.long z14), .second, .val (.int m23_s0), .val (.int m39_s0), .val (.int m55_s0), .val (.int m72_s0), .val (.ref b5), .val (.ref b19), .val (.ref b81), .val (.ref rb95_b9)] [])) _
      refine XS.aload X95.here hx rfl (hb hby at_254) rfl rfl ?_
      show Steps p.tables e below (T95.setTop (mkF m 256 #[.val (.int p0), .val (.int p1), .val (.int p2), .val (.int p3), .val (.int p4), .val (.int p5), .val (.int (3 : Int32)), .val (.long z14), .second, .val (.int m23_s0), .val (.int m39_s0), .val (.int m55_s0), .val (.int m72_s0), .val (.ref b5), .val (.ref b19), .val (.ref b81), .val (.ref rb95_b9)] [(.ref rb95_b9)])) _
      refine XS.iconst X95.here hx rfl (hb hby at_256) ?_
      show Steps p.tables e below (T95.setTop (mkF m 257 #[.val (.int p0), .val (.int p1), .val (.int p2), .val (.int p3), .val (.int p4), .val (.int p5), .val (.int (3 : Int32)), .val (.long z14), .second, .val (.int m23_s0), .val (.int m39_s0), .val (.int m55_s0), .val (.int m72_s0), .val (.ref b5), .val (.ref b19), .val (.ref b81), .val (.ref rb95_b9)] [(.int (0 : Int32)), (.ref rb95_b9)])) _
      refine X95.baloadBooleans hx (j := (0 : Int32)) (v := (.int c234_m70_s0)) Ar98.1 (State.isArrayOf_alike hZ.alike Ar98.2.1) Ar98.2.2 in98 (Has.at Ha98 in98 rfl) (g := (mkF m 257 #[.val (.int p0), .val (.int p1), .val (.int p2), .val (.int p3), .val (.int p4), .val (.int p5), .val (.int (3 : Int32)), .val (.long z14), .second, .val (.int m23_s0), .val (.int m39_s0), .val (.int m55_s0), .val (.int m72_s0), .val (.ref b5), .val (.ref b19), .val (.ref b81), .val (.ref rb95_b9)] [(.int (0 : Int32)), (.ref rb95_b9)])) rfl rfl (hb hby at_257) _ ?_
      show Steps p.tables e below (T95.setTop (mkF m 258 #[.val (.int p0), .val (.int p1), .val (.int p2), .val (.int p3), .val (.int p4), .val (.int p5), .val (.int (3 : Int32)), .val (.long z14), .second, .val (.int m23_s0), .val (.int m39_s0), .val (.int m55_s0), .val (.int m72_s0), .val (.ref b5), .val (.ref b19), .val (.ref b81), .val (.ref rb95_b9)] [(.int c234_m70_s0)])) _
      refine XS.aload X95.here hx rfl (hb hby at_258) rfl rfl ?_
      show Steps p.tables e below (T95.setTop (mkF m 260 #[.val (.int p0), .val (.int p1), .val (.int p2), .val (.int p3), .val (.int p4), .val (.int p5), .val (.int (3 : Int32)), .val (.long z14), .second, .val (.int m23_s0), .val (.int m39_s0), .val (.int m55_s0), .val (.int m72_s0), .val (.ref b5), .val (.ref b19), .val (.ref b81), .val (.ref rb95_b9)] [(.ref b5), (.int c234_m70_s0)])) _
      refine XS.iconst X95.here hx rfl (hb hby at_260) ?_
      show Steps p.tables e below (T95.setTop (mkF m 261 #[.val (.int p0), .val (.int p1), .val (.int p2), .val (.int p3), .val (.int p4), .val (.int p5), .val (.int (3 : Int32)), .val (.long z14), .second, .val (.int m23_s0), .val (.int m39_s0), .val (.int m55_s0), .val (.int m72_s0), .val (.ref b5), .val (.ref b19), .val (.ref b81), .val (.ref rb95_b9)] [(.int (0 : Int32)), (.ref b5), (.int c234_m70_s0)])) _
      refine X95.laload hx (j := (0 : Int32)) (v := (.long z88)) Ar100.1 (State.isArrayOf_alike hZ.alike Ar100.2.1) Ar100.2.2 in100 (Has.at Ha100 in100 rfl) (g := (mkF m 261 #[.val (.int p0), .val (.int p1), .val (.int p2), .val (.int p3), .val (.int p4), .val (.int p5), .val (.int (3 : Int32)), .val (.long z14), .second, .val (.int m23_s0), .val (.int m39_s0), .val (.int m55_s0), .val (.int m72_s0), .val (.ref b5), .val (.ref b19), .val (.ref b81), .val (.ref rb95_b9)] [(.int (0 : Int32)), (.ref b5), (.int c234_m70_s0)])) rfl rfl (hb hby at_261) _ ?_
      show Steps p.tables e below (T95.setTop (mkF m 262 #[.val (.int p0), .val (.int p1), .val (.int p2), .val (.int p3), .val (.int p4), .val (.int p5), .val (.int (3 : Int32)), .val (.long z14), .second, .val (.int m23_s0), .val (.int m39_s0), .val (.int m55_s0), .val (.int m72_s0), .val (.ref b5), .val (.ref b19), .val (.ref b81), .val (.ref rb95_b9)] [(.long z88), (.int c234_m70_s0)])) _
      refine XS.aload X95.here hx rfl (hb hby at_262) rfl rfl ?_
      show Steps p.tables e below (T95.setTop (mkF m 264 #[.val (.int p0), .val (.int p1), .val (.int p2), .val (.int p3), .val (.int p4), .val (.int p5), .val (.int (3 : Int32)), .val (.long z14), .second, .val (.int m23_s0), .val (.int m39_s0), .val (.int m55_s0), .val (.int m72_s0), .val (.ref b5), .val (.ref b19), .val (.ref b81), .val (.ref rb95_b9)] [(.ref b19), (.long z88), (.int c234_m70_s0)])) _
      refine XS.iconst X95.here hx rfl (hb hby at_264) ?_
      show Steps p.tables e below (T95.setTop (mkF m 265 #[.val (.int p0), .val (.int p1), .val (.int p2), .val (.int p3), .val (.int p4), .val (.int p5), .val (.int (3 : Int32)), .val (.long z14), .second, .val (.int m23_s0), .val (.int m39_s0), .val (.int m55_s0), .val (.int m72_s0), .val (.ref b5), .val (.ref b19), .val (.ref b81), .val (.ref rb95_b9)] [(.int (0 : Int32)), (.ref b19), (.long z88), (.int c234_m70_s0)])) _
      refine X95.baloadBooleans hx (j := (0 : Int32)) (v := (.int m23_s0)) Ar102.1 (State.isArrayOf_alike hZ.alike Ar102.2.1) Ar102.2.2 in102 (Has.at Ha102 in102 rfl) (g := (mkF m 265 #[.val (.int p0), .val (.int p1), .val (.int p2), .val (.int p3), .val (.int p4), .val (.int p5), .val (.int (3 : Int32)), .val (.long z14), .second, .val (.int m23_s0), .val (.int m39_s0), .val (.int m55_s0), .val (.int m72_s0), .val (.ref b5), .val (.ref b19), .val (.ref b81), .val (.ref rb95_b9)] [(.int (0 : Int32)), (.ref b19), (.long z88), (.int c234_m70_s0)])) rfl rfl (hb hby at_265) _ ?_
      show Steps p.tables e below (T95.setTop (mkF m 266 #[.val (.int p0), .val (.int p1), .val (.int p2), .val (.int p3), .val (.int p4), .val (.int p5), .val (.int (3 : Int32)), .val (.long z14), .second, .val (.int m23_s0), .val (.int m39_s0), .val (.int m55_s0), .val (.int m72_s0), .val (.ref b5), .val (.ref b19), .val (.ref b81), .val (.ref rb95_b9)] [(.int m23_s0), (.long z88), (.int c234_m70_s0)])) _
      refine XS.aload X95.here hx rfl (hb hby at_266) rfl rfl ?_
      show Steps p.tables e below (T95.setTop (mkF m 268 #[.val (.int p0), .val (.int p1), .val (.int p2), .val (.int p3), .val (.int p4), .val (.int p5), .val (.int (3 : Int32)), .val (.long z14), .second, .val (.int m23_s0), .val (.int m39_s0), .val (.int m55_s0), .val (.int m72_s0), .val (.ref b5), .val (.ref b19), .val (.ref b81), .val (.ref rb95_b9)] [(.ref b5), (.int m23_s0), (.long z88), (.int c234_m70_s0)])) _
      refine XS.aload X95.here hx rfl (hb hby at_268) rfl rfl ?_
      show Steps p.tables e below (T95.setTop (mkF m 270 #[.val (.int p0), .val (.int p1), .val (.int p2), .val (.int p3), .val (.int p4), .val (.int p5), .val (.int (3 : Int32)), .val (.long z14), .second, .val (.int m23_s0), .val (.int m39_s0), .val (.int m55_s0), .val (.int m72_s0), .val (.ref b5), .val (.ref b19), .val (.ref b81), .val (.ref rb95_b9)] [(.ref b19), (.ref b5), (.int m23_s0), (.long z88), (.int c234_m70_s0)])) _
      refine XS.iload X95.here hx rfl (hb hby at_270) rfl ?_
      show Steps p.tables e below (T95.setTop (mkF m 272 #[.val (.int p0), .val (.int p1), .val (.int p2), .val (.int p3), .val (.int p4), .val (.int p5), .val (.int (3 : Int32)), .val (.long z14), .second, .val (.int m23_s0), .val (.int m39_s0), .val (.int m55_s0), .val (.int m72_s0), .val (.ref b5), .val (.ref b19), .val (.ref b81), .val (.ref rb95_b9)] [(.int (3 : Int32)), (.ref b19), (.ref b5), (.int m23_s0), (.long z88), (.int c234_m70_s0)])) _
      refine XS.lload X95.here hx rfl (hb hby at_272) rfl ?_
      show Steps p.tables e below (T95.setTop (mkF m 274 #[.val (.int p0), .val (.int p1), .val (.int p2), .val (.int p3), .val (.int p4), .val (.int p5), .val (.int (3 : Int32)), .val (.long z14), .second, .val (.int m23_s0), .val (.int m39_s0), .val (.int m55_s0), .val (.int m72_s0), .val (.ref b5), .val (.ref b19), .val (.ref b81), .val (.ref rb95_b9)] [(.long z14), (.int (3 : Int32)), (.ref b19), (.ref b5), (.int m23_s0), (.long z88), (.int c234_m70_s0)])) _
      refine st103 _ ?_
      show Steps p.tables e below (T103.setTop (mkF m 277 #[.val (.int p0), .val (.int p1), .val (.int p2), .val (.int p3), .val (.int p4), .val (.int p5), .val (.int (3 : Int32)), .val (.long z14), .second, .val (.int m23_s0), .val (.int m39_s0), .val (.int m55_s0), .val (.int m72_s0), .val (.ref b5), .val (.ref b19), .val (.ref b81), .val (.ref rb95_b9)] [(.int c274_rv), (.int c234_m70_s0)])) _
      refine XS.icmpYes X103.here hx rfl (pc0 := 277) (pc' := 282) rfl (hb hby at_277) rfl (Jvm.Free.XT.ii_eq_t br277) (by decide) (by decide) ?_
      show Steps p.tables e below (T103.setTop (mkF m 282 #[.val (.int p0), .val (.int p1), .val (.int p2), .val (.int p3), .val (.int p4), .val (.int p5), .val (.int (3 : Int32)), .val (.long z14), .second, .val (.int m23_s0), .val (.int m39_s0), .val (.int m55_s0), .val (.int m72_s0), .val (.ref b5), .val (.ref b19), .val (.ref b81), .val (.ref rb95_b9)] [])) _
      refine XS.iload X103.here hx rfl (hb hby at_282) rfl ?_
      show Steps p.tables e below (T103.setTop (mkF m 284 #[.val (.int p0), .val (.int p1), .val (.int p2), .val (.int p3), .val (.int p4), .val (.int p5), .val (.int (3 : Int32)), .val (.long z14), .second, .val (.int m23_s0), .val (.int m39_s0), .val (.int m55_s0), .val (.int m72_s0), .val (.ref b5), .val (.ref b19), .val (.ref b81), .val (.ref rb95_b9)] [(.int (3 : Int32))])) _
      refine XS.iconst X103.here hx rfl (hb hby at_284) ?_
      show Steps p.tables e below (T103.setTop (mkF m 285 #[.val (.int p0), .val (.int p1), .val (.int p2), .val (.int p3), .val (.int p4), .val (.int p5), .val (.int (3 : Int32)), .val (.long z14), .second, .val (.int m23_s0), .val (.int m39_s0), .val (.int m55_s0), .val (.int m72_s0), .val (.ref b5), .val (.ref b19), .val (.ref b81), .val (.ref rb95_b9)] [(.int (1 : Int32)), (.int (3 : Int32))])) _
      refine XS.icmpNo X103.here hx rfl (hb hby at_285) rfl (Jvm.Free.XT.ii_le_f (by decide)) ?_
      show Steps p.tables e below (T103.setTop (mkF m 288 #[.val (.int p0), .val (.int p1), .val (.int p2), .val (.int p3), .val (.int p4), .val (.int p5), .val (.int (3 : Int32)), .val (.long z14), .second, .val (.int m23_s0), .val (.int m39_s0), .val (.int m55_s0), .val (.int m72_s0), .val (.ref b5), .val (.ref b19), .val (.ref b81), .val (.ref rb95_b9)] [])) _
      refine XS.aload X103.here hx rfl (hb hby at_288) rfl rfl ?_
      show Steps p.tables e below (T103.setTop (mkF m 290 #[.val (.int p0), .val (.int p1), .val (.int p2), .val (.int p3), .val (.int p4), .val (.int p5), .val (.int (3 : Int32)), .val (.long z14), .second, .val (.int m23_s0), .val (.int m39_s0), .val (.int m55_s0), .val (.int m72_s0), .val (.ref b5), .val (.ref b19), .val (.ref b81), .val (.ref rb95_b9)] [(.ref rb95_b9)])) _
      refine XS.iconst X103.here hx rfl (hb hby at_290) ?_
      show Steps p.tables e below (T103.setTop (mkF m 291 #[.val (.int p0), .val (.int p1), .val (.int p2), .val (.int p3), .val (.int p4), .val (.int p5), .val (.int (3 : Int32)), .val (.long z14), .second, .val (.int m23_s0), .val (.int m39_s0), .val (.int m55_s0), .val (.int m72_s0), .val (.ref b5), .val (.ref b19), .val (.ref b81), .val (.ref rb95_b9)] [(.int (1 : Int32)), (.ref rb95_b9)])) _
      refine X103.baloadBooleans hx (j := (1 : Int32)) (v := (.int c234_m70_s0_2)) (by rw [e103]; exact Ar104.1) (State.isArrayOf_alike hZ.alike Ar104.2.1) Ar104.2.2 in104 (Has.at Ha104 in104 rfl) (g := (mkF m 291 #[.val (.int p0), .val (.int p1), .val (.int p2), .val (.int p3), .val (.int p4), .val (.int p5), .val (.int (3 : Int32)), .val (.long z14), .second, .val (.int m23_s0), .val (.int m39_s0), .val (.int m55_s0), .val (.int m72_s0), .val (.ref b5), .val (.ref b19), .val (.ref b81), .val (.ref rb95_b9)] [(.int (1 : Int32)), (.ref rb95_b9)])) rfl rfl (hb hby at_291) _ ?_
      show Steps p.tables e below (T103.setTop (mkF m 292 #[.val (.int p0), .val (.int p1), .val (.int p2), .val (.int p3), .val (.int p4), .val (.int p5), .val (.int (3 : Int32)), .val (.long z14), .second, .val (.int m23_s0), .val (.int m39_s0), .val (.int m55_s0), .val (.int m72_s0), .val (.ref b5), .val (.ref b19), .val (.ref b81), .val (.ref rb95_b9)] [(.int c234_m70_s0_2)])) _
      refine XS.aload X103.here hx rfl (hb hby at_292) rfl rfl ?_
      show Steps p.tables e below (T103.setTop (mkF m 294 #[.val (.int p0), .val (.int p1), .val (.int p2), .val (.int p3), .val (.int p4), .val (.int p5), .val (.int (3 : Int32)), .val (.long z14), .second, .val (.int m23_s0), .val (.int m39_s0), .val (.int m55_s0), .val (.int m72_s0), .val (.ref b5), .val (.ref b19), .val (.ref b81), .val (.ref rb95_b9)] [(.ref b5), (.int c234_m70_s0_2)])) _
      refine XS.iconst X103.here hx rfl (hb hby at_294) ?_
      show Steps p.tables e below (T103.setTop (mkF m 295 #[.val (.int p0), .val (.int p1), .val (.int p2), .val (.int p3), .val (.int p4), .val (.int p5), .val (.int (3 : Int32)), .val (.long z14), .second, .val (.int m23_s0), .val (.int m39_s0), .val (.int m55_s0), .val (.int m72_s0), .val (.ref b5), .val (.ref b19), .val (.ref b81), .val (.ref rb95_b9)] [(.int (1 : Int32)), (.ref b5), (.int c234_m70_s0_2)])) _
      refine X103.laload hx (j := (1 : Int32)) (v := (.long z93)) (by rw [e103]; exact Ar105.1) (State.isArrayOf_alike hZ.alike Ar105.2.1) Ar105.2.2 in105 (Has.at Ha105 in105 rfl) (g := (mkF m 295 #[.val (.int p0), .val (.int p1), .val (.int p2), .val (.int p3), .val (.int p4), .val (.int p5), .val (.int (3 : Int32)), .val (.long z14), .second, .val (.int m23_s0), .val (.int m39_s0), .val (.int m55_s0), .val (.int m72_s0), .val (.ref b5), .val (.ref b19), .val (.ref b81), .val (.ref rb95_b9)] [(.int (1 : Int32)), (.ref b5), (.int c234_m70_s0_2)])) rfl rfl (hb hby at_295) _ ?_
      show Steps p.tables e below (T103.setTop (mkF m 296 #[.val (.int p0), .val (.int p1), .val (.int p2), .val (.int p3), .val (.int p4), .val (.int p5), .val (.int (3 : Int32)), .val (.long z14), .second, .val (.int m23_s0), .val (.int m39_s0), .val (.int m55_s0), .val (.int m72_s0), .val (.ref b5), .val (.ref b19), .val (.ref b81), .val (.ref rb95_b9)] [(.long z93), (.int c234_m70_s0_2)])) _
      refine XS.aload X103.here hx rfl (hb hby at_296) rfl rfl ?_
      show Steps p.tables e below (T103.setTop (mkF m 298 #[.val (.int p0), .val (.int p1), .val (.int p2), .val (.int p3), .val (.int p4), .val (.int p5), .val (.int (3 : Int32)), .val (.long z14), .second, .val (.int m23_s0), .val (.int m39_s0), .val (.int m55_s0), .val (.int m72_s0), .val (.ref b5), .val (.ref b19), .val (.ref b81), .val (.ref rb95_b9)] [(.ref b19), (.long z93), (.int c234_m70_s0_2)])) _
      refine XS.iconst X103.here hx rfl (hb hby at_298) ?_
      show Steps p.tables e below (T103.setTop (mkF m 299 #[.val (.int p0), .val (.int p1), .val (.int p2), .val (.int p3), .val (.int p4), .val (.int p5), .val (.int (3 : Int32)), .val (.long z14), .second, .val (.int m23_s0), .val (.int m39_s0), .val (.int m55_s0), .val (.int m72_s0), .val (.ref b5), .val (.ref b19), .val (.ref b81), .val (.ref rb95_b9)] [(.int (1 : Int32)), (.ref b19), (.long z93), (.int c234_m70_s0_2)])) _
      refine X103.baloadBooleans hx (j := (1 : Int32)) (v := (.int m39_s0)) (by rw [e103]; exact Ar106.1) (State.isArrayOf_alike hZ.alike Ar106.2.1) Ar106.2.2 in106 (Has.at Ha106 in106 rfl) (g := (mkF m 299 #[.val (.int p0), .val (.int p1), .val (.int p2), .val (.int p3), .val (.int p4), .val (.int p5), .val (.int (3 : Int32)), .val (.long z14), .second, .val (.int m23_s0), .val (.int m39_s0), .val (.int m55_s0), .val (.int m72_s0), .val (.ref b5), .val (.ref b19), .val (.ref b81), .val (.ref rb95_b9)] [(.int (1 : Int32)), (.ref b19), (.long z93), (.int c234_m70_s0_2)])) rfl rfl (hb hby at_299) _ ?_
      show Steps p.tables e below (T103.setTop (mkF m 300 #[.val (.int p0), .val (.int p1), .val (.int p2), .val (.int p3), .val (.int p4), .val (.int p5), .val (.int (3 : Int32)), .val (.long z14), .second, .val (.int m23_s0), .val (.int m39_s0), .val (.int m55_s0), .val (.int m72_s0), .val (.ref b5), .val (.ref b19), .val (.ref b81), .val (.ref rb95_b9)] [(.int m39_s0), (.long z93), (.int c234_m70_s0_2)])) _
      refine XS.aload X103.here hx rfl (hb hby at_300) rfl rfl ?_
      show Steps p.tables e below (T103.setTop (mkF m 302 #[.val (.int p0), .val (.int p1), .val (.int p2), .val (.int p3), .val (.int p4), .val (.int p5), .val (.int (3 : Int32)), .val (.long z14), .second, .val (.int m23_s0), .val (.int m39_s0), .val (.int m55_s0), .val (.int m72_s0), .val (.ref b5), .val (.ref b19), .val (.ref b81), .val (.ref rb95_b9)] [(.ref b5), (.int m39_s0), (.long z93), (.int c234_m70_s0_2)])) _
      refine XS.aload X103.here hx rfl (hb hby at_302) rfl rfl ?_
      show Steps p.tables e below (T103.setTop (mkF m 304 #[.val (.int p0), .val (.int p1), .val (.int p2), .val (.int p3), .val (.int p4), .val (.int p5), .val (.int (3 : Int32)), .val (.long z14), .second, .val (.int m23_s0), .val (.int m39_s0), .val (.int m55_s0), .val (.int m72_s0), .val (.ref b5), .val (.ref b19), .val (.ref b81), .val (.ref rb95_b9)] [(.ref b19), (.ref b5), (.int m39_s0), (.long z93), (.int c234_m70_s0_2)])) _
      refine XS.iload X103.here hx rfl (hb hby at_304) rfl ?_
      show Steps p.tables e below (T103.setTop (mkF m 306 #[.val (.int p0), .val (.int p1), .val (.int p2), .val (.int p3), .val (.int p4), .val (.int p5), .val (.int (3 : Int32)), .val (.long z14), .second, .val (.int m23_s0), .val (.int m39_s0), .val (.int m55_s0), .val (.int m72_s0), .val (.ref b5), .val (.ref b19), .val (.ref b81), .val (.ref rb95_b9)] [(.int (3 : Int32)), (.ref b19), (.ref b5), (.int m39_s0), (.long z93), (.int c234_m70_s0_2)])) _
      refine XS.lload X103.here hx rfl (hb hby at_306) rfl ?_
      show Steps p.tables e below (T103.setTop (mkF m 308 #[.val (.int p0), .val (.int p1), .val (.int p2), .val (.int p3), .val (.int p4), .val (.int p5), .val (.int (3 : Int32)), .val (.long z14), .second, .val (.int m23_s0), .val (.int m39_s0), .val (.int m55_s0), .val (.int m72_s0), .val (.ref b5), .val (.ref b19), .val (.ref b81), .val (.ref rb95_b9)] [(.long z14), (.int (3 : Int32)), (.ref b19), (.ref b5), (.int m39_s0), (.long z93), (.int c234_m70_s0_2)])) _
      refine st107 _ ?_
      show Steps p.tables e below (T107.setTop (mkF m 311 #[.val (.int p0), .val (.int p1), .val (.int p2), .val (.int p3), .val (.int p4), .val (.int p5), .val (.int (3 : Int32)), .val (.long z14), .second, .val (.int m23_s0), .val (.int m39_s0), .val (.int m55_s0), .val (.int m72_s0), .val (.ref b5), .val (.ref b19), .val (.ref b81), .val (.ref rb95_b9)] [(.int c308_rv), (.int c234_m70_s0_2)])) _
      refine XS.icmpYes X107.here hx rfl (pc0 := 311) (pc' := 316) rfl (hb hby at_311) rfl (Jvm.Free.XT.ii_eq_t br311) (by decide) (by decide) ?_
      show Steps p.tables e below (T107.setTop (mkF m 316 #[.val (.int p0), .val (.int p1), .val (.int p2), .val (.int p3), .val (.int p4), .val (.int p5), .val (.int (3 : Int32)), .val (.long z14), .second, .val (.int m23_s0), .val (.int m39_s0), .val (.int m55_s0), .val (.int m72_s0), .val (.ref b5), .val (.ref b19), .val (.ref b81), .val (.ref rb95_b9)] [])) _
      refine XS.iload X107.here hx rfl (hb hby at_316) rfl ?_
      show Steps p.tables e below (T107.setTop (mkF m 318 #[.val (.int p0), .val (.int p1), .val (.int p2), .val (.int p3), .val (.int p4), .val (.int p5), .val (.int (3 : Int32)), .val (.long z14), .second, .val (.int m23_s0), .val (.int m39_s0), .val (.int m55_s0), .val (.int m72_s0), .val (.ref b5), .val (.ref b19), .val (.ref b81), .val (.ref rb95_b9)] [(.int (3 : Int32))])) _
      refine XS.iconst X107.here hx rfl (hb hby at_318) ?_
      show Steps p.tables e below (T107.setTop (mkF m 319 #[.val (.int p0), .val (.int p1), .val (.int p2), .val (.int p3), .val (.int p4), .val (.int p5), .val (.int (3 : Int32)), .val (.long z14), .second, .val (.int m23_s0), .val (.int m39_s0), .val (.int m55_s0), .val (.int m72_s0), .val (.ref b5), .val (.ref b19), .val (.ref b81), .val (.ref rb95_b9)] [(.int (2 : Int32)), (.int (3 : Int32))])) _
      refine XS.icmpNo X107.here hx rfl (hb hby at_319) rfl (Jvm.Free.XT.ii_le_f (by decide)) ?_
      show Steps p.tables e below (T107.setTop (mkF m 322 #[.val (.int p0), .val (.int p1), .val (.int p2), .val (.int p3), .val (.int p4), .val (.int p5), .val (.int (3 : Int32)), .val (.long z14), .second, .val (.int m23_s0), .val (.int m39_s0), .val (.int m55_s0), .val (.int m72_s0), .val (.ref b5), .val (.ref b19), .val (.ref b81), .val (.ref rb95_b9)] [])) _
      refine XS.aload X107.here hx rfl (hb hby at_322) rfl rfl ?_
      show Steps p.tables e below (T107.setTop (mkF m 324 #[.val (.int p0), .val (.int p1), .val (.int p2), .val (.int p3), .val (.int p4), .val (.int p5), .val (.int (3 : Int32)), .val (.long z14), .second, .val (.int m23_s0), .val (.int m39_s0), .val (.int m55_s0), .val (.int m72_s0), .val (.ref b5), .val (.ref b19), .val (.ref b81), .val (.ref rb95_b9)] [(.ref rb95_b9)])) _
      refine XS.iconst X107.here hx rfl (hb hby at_324) ?_
      show Steps p.tables e below (T107.setTop (mkF m 325 #[.val (.int p0), .val (.int p1), .val (.int p2), .val (.int p3), .val (.int p4), .val (.int p5), .val (.int (3 : Int32)), .val (.long z14), .second, .val (.int m23_s0), .val (.int m39_s0), .val (.int m55_s0), .val (.int m72_s0), .val (.ref b5), .val (.ref b19), .val (.ref b81), .val (.ref rb95_b9)] [(.int (2 : Int32)), (.ref rb95_b9)])) _
      refine X107.baloadBooleans hx (j := (2 : Int32)) (v := (.int c234_m70_s0_3)) (by rw [e107]; exact Ar108.1) (State.isArrayOf_alike hZ.alike Ar108.2.1) Ar108.2.2 in108 (Has.at Ha108 in108 rfl) (g := (mkF m 325 #[.val (.int p0), .val (.int p1), .val (.int p2), .val (.int p3), .val (.int p4), .val (.int p5), .val (.int (3 : Int32)), .val (.long z14), .second, .val (.int m23_s0), .val (.int m39_s0), .val (.int m55_s0), .val (.int m72_s0), .val (.ref b5), .val (.ref b19), .val (.ref b81), .val (.ref rb95_b9)] [(.int (2 : Int32)), (.ref rb95_b9)])) rfl rfl (hb hby at_325) _ ?_
      show Steps p.tables e below (T107.setTop (mkF m 326 #[.val (.int p0), .val (.int p1), .val (.int p2), .val (.int p3), .val (.int p4), .val (.int p5), .val (.int (3 : Int32)), .val (.long z14), .second, .val (.int m23_s0), .val (.int m39_s0), .val (.int m55_s0), .val (.int m72_s0), .val (.ref b5), .val (.ref b19), .val (.ref b81), .val (.ref rb95_b9)] [(.int c234_m70_s0_3)])) _
      refine XS.aload X107.here hx rfl (hb hby at_326) rfl rfl ?_
      show Steps p.tables e below (T107.setTop (mkF m 328 #[.val (.int p0), .val (.int p1), .val (.int p2), .val (.int p3), .val (.int p4), .val (.int p5), .val (.int (3 : Int32)), .val (.long z14), .second, .val (.int m23_s0), .val (.int m39_s0), .val (.int m55_s0), .val (.int m72_s0), .val (.ref b5), .val (.ref b19), .val (.ref b81), .val (.ref rb95_b9)] [(.ref b5), (.int c234_m70_s0_3)])) _
      refine XS.iconst X107.here hx rfl (hb hby at_328) ?_
      show Steps p.tables e below (T107.setTop (mkF m 329 #[.val (.int p0), .val (.int p1), .val (.int p2), .val (.int p3), .val (.int p4), .val (.int p5), .val (.int (3 : Int32)), .val (.long z14), .second, .val (.int m23_s0), .val (.int m39_s0), .val (.int m55_s0), .val (.int m72_s0), .val (.ref b5), .val (.ref b19), .val (.ref b81), .val (.ref rb95_b9)] [(.int (2 : Int32)), (.ref b5), (.int c234_m70_s0_3)])) _
      refine X107.laload hx (j := (2 : Int32)) (v := (.long z98)) (by rw [e107]; exact Ar109.1) (State.isArrayOf_alike hZ.alike Ar109.2.1) Ar109.2.2 in109 (Has.at Ha109 in109 rfl) (g := (mkF m 329 #[.val (.int p0), .val (.int p1), .val (.int p2), .val (.int p3), .val (.int p4), .val (.int p5), .val (.int (3 : Int32)), .val (.long z14), .second, .val (.int m23_s0), .val (.int m39_s0), .val (.int m55_s0), .val (.int m72_s0), .val (.ref b5), .val (.ref b19), .val (.ref b81), .val (.ref rb95_b9)] [(.int (2 : Int32)), (.ref b5), (.int c234_m70_s0_3)])) rfl rfl (hb hby at_329) _ ?_
      show Steps p.tables e below (T107.setTop (mkF m 330 #[.val (.int p0), .val (.int p1), .val (.int p2), .val (.int p3), .val (.int p4), .val (.int p5), .val (.int (3 : Int32)), .val (.long z14), .second, .val (.int m23_s0), .val (.int m39_s0), .val (.int m55_s0), .val (.int m72_s0), .val (.ref b5), .val (.ref b19), .val (.ref b81), .val (.ref rb95_b9)] [(.long z98), (.int c234_m70_s0_3)])) _
      refine XS.aload X107.here hx rfl (hb hby at_330) rfl rfl ?_
      show Steps p.tables e below (T107.setTop (mkF m 332 #[.val (.int p0), .val (.int p1), .val (.int p2), .val (.int p3), .val (.int p4), .val (.int p5), .val (.int (3 : Int32)), .val (.long z14), .second, .val (.int m23_s0), .val (.int m39_s0), .val (.int m55_s0), .val (.int m72_s0), .val (.ref b5), .val (.ref b19), .val (.ref b81), .val (.ref rb95_b9)] [(.ref b19), (.long z98), (.int c234_m70_s0_3)])) _
      refine XS.iconst X107.here hx rfl (hb hby at_332) ?_
      show Steps p.tables e below (T107.setTop (mkF m 333 #[.val (.int p0), .val (.int p1), .val (.int p2), .val (.int p3), .val (.int p4), .val (.int p5), .val (.int (3 : Int32)), .val (.long z14), .second, .val (.int m23_s0), .val (.int m39_s0), .val (.int m55_s0), .val (.int m72_s0), .val (.ref b5), .val (.ref b19), .val (.ref b81), .val (.ref rb95_b9)] [(.int (2 : Int32)), (.ref b19), (.long z98), (.int c234_m70_s0_3)])) _
      refine X107.baloadBooleans hx (j := (2 : Int32)) (v := (.int m55_s0)) (by rw [e107]; exact Ar110.1) (State.isArrayOf_alike hZ.alike Ar110.2.1) Ar110.2.2 in110 (Has.at Ha110 in110 rfl) (g := (mkF m 333 #[.val (.int p0), .val (.int p1), .val (.int p2), .val (.int p3), .val (.int p4), .val (.int p5), .val (.int (3 : Int32)), .val (.long z14), .second, .val (.int m23_s0), .val (.int m39_s0), .val (.int m55_s0), .val (.int m72_s0), .val (.ref b5), .val (.ref b19), .val (.ref b81), .val (.ref rb95_b9)] [(.int (2 : Int32)), (.ref b19), (.long z98), (.int c234_m70_s0_3)])) rfl rfl (hb hby at_333) _ ?_
      show Steps p.tables e below (T107.setTop (mkF m 334 #[.val (.int p0), .val (.int p1), .val (.int p2), .val (.int p3), .val (.int p4), .val (.int p5), .val (.int (3 : Int32)), .val (.long z14), .second, .val (.int m23_s0), .val (.int m39_s0), .val (.int m55_s0), .val (.int m72_s0), .val (.ref b5), .val (.ref b19), .val (.ref b81), .val (.ref rb95_b9)] [(.int m55_s0), (.long z98), (.int c234_m70_s0_3)])) _
      refine XS.aload X107.here hx rfl (hb hby at_334) rfl rfl ?_
      show Steps p.tables e below (T107.setTop (mkF m 336 #[.val (.int p0), .val (.int p1), .val (.int p2), .val (.int p3), .val (.int p4), .val (.int p5), .val (.int (3 : Int32)), .val (.long z14), .second, .val (.int m23_s0), .val (.int m39_s0), .val (.int m55_s0), .val (.int m72_s0), .val (.ref b5), .val (.ref b19), .val (.ref b81), .val (.ref rb95_b9)] [(.ref b5), (.int m55_s0), (.long z98), (.int c234_m70_s0_3)])) _
      refine XS.aload X107.here hx rfl (hb hby at_336) rfl rfl ?_
      show Steps p.tables e below (T107.setTop (mkF m 338 #[.val (.int p0), .val (.int p1), .val (.int p2), .val (.int p3), .val (.int p4), .val (.int p5), .val (.int (3 : Int32)), .val (.long z14), .second, .val (.int m23_s0), .val (.int m39_s0), .val (.int m55_s0), .val (.int m72_s0), .val (.ref b5), .val (.ref b19), .val (.ref b81), .val (.ref rb95_b9)] [(.ref b19), (.ref b5), (.int m55_s0), (.long z98), (.int c234_m70_s0_3)])) _
      refine XS.iload X107.here hx rfl (hb hby at_338) rfl ?_
      show Steps p.tables e below (T107.setTop (mkF m 340 #[.val (.int p0), .val (.int p1), .val (.int p2), .val (.int p3), .val (.int p4), .val (.int p5), .val (.int (3 : Int32)), .val (.long z14), .second, .val (.int m23_s0), .val (.int m39_s0), .val (.int m55_s0), .val (.int m72_s0), .val (.ref b5), .val (.ref b19), .val (.ref b81), .val (.ref rb95_b9)] [(.int (3 : Int32)), (.ref b19), (.ref b5), (.int m55_s0), (.long z98), (.int c234_m70_s0_3)])) _
      refine XS.lload X107.here hx rfl (hb hby at_340) rfl ?_
      show Steps p.tables e below (T107.setTop (mkF m 342 #[.val (.int p0), .val (.int p1), .val (.int p2), .val (.int p3), .val (.int p4), .val (.int p5), .val (.int (3 : Int32)), .val (.long z14), .second, .val (.int m23_s0), .val (.int m39_s0), .val (.int m55_s0), .val (.int m72_s0), .val (.ref b5), .val (.ref b19), .val (.ref b81), .val (.ref rb95_b9)] [(.long z14), (.int (3 : Int32)), (.ref b19), (.ref b5), (.int m55_s0), (.long z98), (.int c234_m70_s0_3)])) _
      refine st111 _ ?_
      show Steps p.tables e below (T111.setTop (mkF m 345 #[.val (.int p0), .val (.int p1), .val (.int p2), .val (.int p3), .val (.int p4), .val (.int p5), .val (.int (3 : Int32)), .val (.long z14), .second, .val (.int m23_s0), .val (.int m39_s0), .val (.int m55_s0), .val (.int m72_s0), .val (.ref b5), .val (.ref b19), .val (.ref b81), .val (.ref rb95_b9)] [(.int c342_rv), (.int c234_m70_s0_3)])) _
      refine XS.icmpYes X111.here hx rfl (pc0 := 345) (pc' := 350) rfl (hb hby at_345) rfl (Jvm.Free.XT.ii_eq_t br345) (by decide) (by decide) ?_
      show Steps p.tables e below (T111.setTop (mkF m 350 #[.val (.int p0), .val (.int p1), .val (.int p2), .val (.int p3), .val (.int p4), .val (.int p5), .val (.int (3 : Int32)), .val (.long z14), .second, .val (.int m23_s0), .val (.int m39_s0), .val (.int m55_s0), .val (.int m72_s0), .val (.ref b5), .val (.ref b19), .val (.ref b81), .val (.ref rb95_b9)] [])) _
      refine XS.iload X111.here hx rfl (hb hby at_350) rfl ?_
      show Steps p.tables e below (T111.setTop (mkF m 352 #[.val (.int p0), .val (.int p1), .val (.int p2), .val (.int p3), .val (.int p4), .val (.int p5), .val (.int (3 : Int32)), .val (.long z14), .second, .val (.int m23_s0), .val (.int m39_s0), .val (.int m55_s0), .val (.int m72_s0), .val (.ref b5), .val (.ref b19), .val (.ref b81), .val (.ref rb95_b9)] [(.int (3 : Int32))])) _
      refine XS.iconst X111.here hx rfl (hb hby at_352) ?_
      show Steps p.tables e below (T111.setTop (mkF m 353 #[.val (.int p0), .val (.int p1), .val (.int p2), .val (.int p3), .val (.int p4), .val (.int p5), .val (.int (3 : Int32)), .val (.long z14), .second, .val (.int m23_s0), .val (.int m39_s0), .val (.int m55_s0), .val (.int m72_s0), .val (.ref b5), .val (.ref b19), .val (.ref b81), .val (.ref rb95_b9)] [(.int (3 : Int32)), (.int (3 : Int32))])) _
      refine XS.icmpYes X111.here hx rfl (pc0 := 353) (pc' := 384) rfl (hb hby at_353) rfl (Jvm.Free.XT.ii_le_t (by decide)) (by decide) (by decide) ?_
      show Steps p.tables e below (T111.setTop (mkF m 384 #[.val (.int p0), .val (.int p1), .val (.int p2), .val (.int p3), .val (.int p4), .val (.int p5), .val (.int (3 : Int32)), .val (.long z14), .second, .val (.int m23_s0), .val (.int m39_s0), .val (.int m55_s0), .val (.int m72_s0), .val (.ref b5), .val (.ref b19), .val (.ref b81), .val (.ref rb95_b9)] [])) _
      refine XS.iconst X111.here hx rfl (hb hby at_384) ?_
      exact k
    obtain ⟨fs, hr, hrun, hended, hW, hsame⟩ := X111.leave (v := some (.int (1 : Int32))) (fun h => by rw [Bd.returns] at h; cases h)
    refine ⟨_, _, c112 _ ?_, hrun, hended, _, _, rfl, ?_, ⟨_, rfl⟩, hW, hsame.mono (by decide) (by decide)⟩
    · show Steps p.tables e below (T111.setTop (mkF m 385 #[.val (.int p0), .val (.int p1), .val (.int p2), .val (.int p3), .val (.int p4), .val (.int p5), .val (.int (3 : Int32)), .val (.long z14), .second, .val (.int m23_s0), .val (.int m39_s0), .val (.int m55_s0), .val (.int m72_s0), .val (.ref b5), .val (.ref b19), .val (.ref b81), .val (.ref rb95_b9)] [(.int (1 : Int32))])) _
      exact retOut X111 hx Bd.returns rfl (Or.inl ⟨rfl, by simp, _, rfl⟩) (hb hby at_385) hr
    · show Q0 n0 _ T111.heap _
      rw [e111]
      exact ⟨rfl, by first | assumption | exact N0⟩
  · obtain rfl := q34
    obtain ⟨z158, hz158⟩ : ∃ z : UInt64, FP.i2d p0 = z := ⟨_, rfl⟩
    obtain ⟨m148_s0, hm148_s0⟩ : ∃ z : UInt64, (if m23_s0 = (0 : Int32) then z158 else (18442240474082181120 : UInt64)) = z := ⟨_, rfl⟩
    obtain ⟨z181, hz181⟩ : ∃ z : UInt64, FP.i2d p1 = z := ⟨_, rfl⟩
    obtain ⟨m171_s0, hm171_s0⟩ : ∃ z : UInt64, (if m39_s0 = (0 : Int32) then z181 else (18442240474082181120 : UInt64)) = z := ⟨_, rfl⟩
    obtain ⟨z204, hz204⟩ : ∃ z : UInt64, FP.i2d p2 = z := ⟨_, rfl⟩
    obtain ⟨m194_s0, hm194_s0⟩ : ∃ z : UInt64, (if m55_s0 = (0 : Int32) then z204 else (18442240474082181120 : UInt64)) = z := ⟨_, rfl⟩
    obtain ⟨z227, hz227⟩ : ∃ z : UInt64, FP.i2d p3 = z := ⟨_, rfl⟩
    obtain ⟨m217_s0, hm217_s0⟩ : ∃ z : UInt64, (if m72_s0 = (0 : Int32) then z227 else (18442240474082181120 : UInt64)) = z := ⟨_, rfl⟩
    obtain ⟨z233, hz233⟩ : ∃ z : UInt64, FP.l2d z14 = z := ⟨_, rfl⟩
    obtain ⟨c234_z32, hc234_z32⟩ : ∃ z : UInt64, Jvm.Native.java_lang_Math.nans.pick64 true (18442240474082181120 : UInt64) m148_s0 = z := ⟨_, rfl⟩
    obtain ⟨c234_z32_2, hc234_z32_2⟩ : ∃ z : UInt64, Jvm.Native.java_lang_Math.nans.pick64 true c234_z32 m171_s0 = z := ⟨_, rfl⟩
    obtain ⟨c234_z32_3, hc234_z32_3⟩ : ∃ z : UInt64, Jvm.Native.java_lang_Math.nans.pick64 true c234_z32_2 m194_s0 = z := ⟨_, rfl⟩
    obtain ⟨c234_z32_4, hc234_z32_4⟩ : ∃ z : UInt64, Jvm.Native.java_lang_Math.nans.pick64 true c234_z32_3 m217_s0 = z := ⟨_, rfl⟩
    obtain ⟨c234_z68, hc234_z68⟩ : ∃ z : UInt64, FP.dsub c234_z32_4 z233 = z := ⟨_, rfl⟩
    obtain ⟨c234_z69, hc234_z69⟩ : ∃ z : Int32, cmpValue (FP.dcmp m148_s0 c234_z68) .l = z := ⟨_, rfl⟩
    obtain ⟨c234_m70_s0, hc234_m70_s0⟩ : ∃ z : Int32, (if c234_z69 < (0 : Int32) then (0 : Int32) else (1 : Int32)) = z := ⟨_, rfl⟩
    obtain ⟨c234_z68_2, hc234_z68_2⟩ : ∃ z : UInt64, FP.dsub c234_z32_4 z233 = z := ⟨_, rfl⟩
    obtain ⟨c234_z69_2, hc234_z69_2⟩ : ∃ z : Int32, cmpValue (FP.dcmp m171_s0 c234_z68_2) .l = z := ⟨_, rfl⟩
    obtain ⟨c234_m70_s0_2, hc234_m70_s0_2⟩ : ∃ z : Int32, (if c234_z69_2 < (0 : Int32) then (0 : Int32) else (1 : Int32)) = z := ⟨_, rfl⟩
    obtain ⟨c234_z68_3, hc234_z68_3⟩ : ∃ z : UInt64, FP.dsub c234_z32_4 z233 = z := ⟨_, rfl⟩
    obtain ⟨c234_z69_3, hc234_z69_3⟩ : ∃ z : Int32, cmpValue (FP.dcmp m194_s0 c234_z68_3) .l = z := ⟨_, rfl⟩
    obtain ⟨c234_m70_s0_3, hc234_m70_s0_3⟩ : ∃ z : Int32, (if c234_z69_3 < (0 : Int32) then (0 : Int32) else (1 : Int32)) = z := ⟨_, rfl⟩
    obtain ⟨c234_z68_4, hc234_z68_4⟩ : ∃ z : UInt64, FP.dsub c234_z32_4 z233 = z := ⟨_, rfl⟩
    obtain ⟨c234_z69_4, hc234_z69_4⟩ : ∃ z : Int32, cmpValue (FP.dcmp m217_s0 c234_z68_4) .l = z := ⟨_, rfl⟩
    obtain ⟨c234_m70_s0_4, hc234_m70_s0_4⟩ : ∃ z : Int32, (if c234_z69_4 < (0 : Int32) then (0 : Int32) else (1 : Int32)) = z := ⟨_, rfl⟩
    obtain ⟨c274_c16_z12, hc274_c16_z12⟩ : ∃ z : Int64, z88 + z14 = z := ⟨_, rfl⟩
    obtain ⟨c274_c16_z14, hc274_c16_z14⟩ : ∃ z : Int32, lcmpW c274_c16_z12 z88 = z := ⟨_, rfl⟩
    obtain ⟨c274_c16_rv, hc274_c16_rv⟩ : ∃ z : Int32, (if m23_s0 = (0 : Int32) then (if m23_s0 = (0 : Int32) then (if c274_c16_z14 < (0 : Int32) then (0 : Int32) else (1 : Int32)) else (0 : Int32)) else (1 : Int32)) = z := ⟨_, rfl⟩
    obtain ⟨c274_c39_z12, hc274_c39_z12⟩ : ∃ z : Int64, z88 + z14 = z := ⟨_, rfl⟩
    obtain ⟨c274_c39_z14, hc274_c39_z14⟩ : ∃ z : Int32, lcmpW c274_c39_z12 z93 = z := ⟨_, rfl⟩
    obtain ⟨c274_c39_rv, hc274_c39_rv⟩ : ∃ z : Int32, (if m39_s0 = (0 : Int32) then (if m23_s0 = (0 : Int32) then (if c274_c39_z14 < (0 : Int32) then (0 : Int32) else (1 : Int32)) else (0 : Int32)) else (1 : Int32)) = z := ⟨_, rfl⟩
    obtain ⟨c274_c62_z12, hc274_c62_z12⟩ : ∃ z : Int64, z88 + z14 = z := ⟨_, rfl⟩
    obtain ⟨c274_c62_z14, hc274_c62_z14⟩ : ∃ z : Int32, lcmpW c274_c62_z12 z98 = z := ⟨_, rfl⟩
    obtain ⟨c274_c62_rv, hc274_c62_rv⟩ : ∃ z : Int32, (if m55_s0 = (0 : Int32) then (if m23_s0 = (0 : Int32) then (if c274_c62_z14 < (0 : Int32) then (0 : Int32) else (1 : Int32)) else (0 : Int32)) else (1 : Int32)) = z := ⟨_, rfl⟩
    obtain ⟨c274_c85_z12, hc274_c85_z12⟩ : ∃ z : Int64, z88 + z14 = z := ⟨_, rfl⟩
    obtain ⟨c274_c85_z14, hc274_c85_z14⟩ : ∃ z : Int32, lcmpW c274_c85_z12 z103 = z := ⟨_, rfl⟩
    obtain ⟨c274_c85_rv, hc274_c85_rv⟩ : ∃ z : Int32, (if m72_s0 = (0 : Int32) then (if m23_s0 = (0 : Int32) then (if c274_c85_z14 < (0 : Int32) then (0 : Int32) else (1 : Int32)) else (0 : Int32)) else (1 : Int32)) = z := ⟨_, rfl⟩
    obtain ⟨c274_rv, hc274_rv⟩ : ∃ z : Int32, (if c274_c16_rv = (0 : Int32) then (0 : Int32) else (if c274_c39_rv = (0 : Int32) then (0 : Int32) else (if c274_c62_rv = (0 : Int32) then (0 : Int32) else (if c274_c85_rv = (0 : Int32) then (0 : Int32) else (1 : Int32))))) = z := ⟨_, rfl⟩
    obtain ⟨c308_c16_z12, hc308_c16_z12⟩ : ∃ z : Int64, z93 + z14 = z := ⟨_, rfl⟩
    obtain ⟨c308_c16_z14, hc308_c16_z14⟩ : ∃ z : Int32, lcmpW c308_c16_z12 z88 = z := ⟨_, rfl⟩
    obtain ⟨c308_c16_rv, hc308_c16_rv⟩ : ∃ z : Int32, (if m23_s0 = (0 : Int32) then (if m39_s0 = (0 : Int32) then (if c308_c16_z14 < (0 : Int32) then (0 : Int32) else (1 : Int32)) else (0 : Int32)) else (1 : Int32)) = z := ⟨_, rfl⟩
    obtain ⟨c308_c39_z12, hc308_c39_z12⟩ : ∃ z : Int64, z93 + z14 = z := ⟨_, rfl⟩
    obtain ⟨c308_c39_z14, hc308_c39_z14⟩ : ∃ z : Int32, lcmpW c308_c39_z12 z93 = z := ⟨_, rfl⟩
    obtain ⟨c308_c39_rv, hc308_c39_rv⟩ : ∃ z : Int32, (if m39_s0 = (0 : Int32) then (if m39_s0 = (0 : Int32) then (if c308_c39_z14 < (0 : Int32) then (0 : Int32) else (1 : Int32)) else (0 : Int32)) else (1 : Int32)) = z := ⟨_, rfl⟩
    obtain ⟨c308_c62_z12, hc308_c62_z12⟩ : ∃ z : Int64, z93 + z14 = z := ⟨_, rfl⟩
    obtain ⟨c308_c62_z14, hc308_c62_z14⟩ : ∃ z : Int32, lcmpW c308_c62_z12 z98 = z := ⟨_, rfl⟩
    obtain ⟨c308_c62_rv, hc308_c62_rv⟩ : ∃ z : Int32, (if m55_s0 = (0 : Int32) then (if m39_s0 = (0 : Int32) then (if c308_c62_z14 < (0 : Int32) then (0 : Int32) else (1 : Int32)) else (0 : Int32)) else (1 : Int32)) = z := ⟨_, rfl⟩
    obtain ⟨c308_c85_z12, hc308_c85_z12⟩ : ∃ z : Int64, z93 + z14 = z := ⟨_, rfl⟩
    obtain ⟨c308_c85_z14, hc308_c85_z14⟩ : ∃ z : Int32, lcmpW c308_c85_z12 z103 = z := ⟨_, rfl⟩
    obtain ⟨c308_c85_rv, hc308_c85_rv⟩ : ∃ z : Int32, (if m72_s0 = (0 : Int32) then (if m39_s0 = (0 : Int32) then (if c308_c85_z14 < (0 : Int32) then (0 : Int32) else (1 : Int32)) else (0 : Int32)) else (1 : Int32)) = z := ⟨_, rfl⟩
    obtain ⟨c308_rv, hc308_rv⟩ : ∃ z : Int32, (if c308_c16_rv = (0 : Int32) then (0 : Int32) else (if c308_c39_rv = (0 : Int32) then (0 : Int32) else (if c308_c62_rv = (0 : Int32) then (0 : Int32) else (if c308_c85_rv = (0 : Int32) then (0 : Int32) else (1 : Int32))))) = z := ⟨_, rfl⟩
    obtain ⟨c342_c16_z12, hc342_c16_z12⟩ : ∃ z : Int64, z98 + z14 = z := ⟨_, rfl⟩
    obtain ⟨c342_c16_z14, hc342_c16_z14⟩ : ∃ z : Int32, lcmpW c342_c16_z12 z88 = z := ⟨_, rfl⟩
    obtain ⟨c342_c16_rv, hc342_c16_rv⟩ : ∃ z : Int32, (if m23_s0 = (0 : Int32) then (if m55_s0 = (0 : Int32) then (if c342_c16_z14 < (0 : Int32) then (0 : Int32) else (1 : Int32)) else (0 : Int32)) else (1 : Int32)) = z := ⟨_, rfl⟩
    obtain ⟨c342_c39_z12, hc342_c39_z12⟩ : ∃ z : Int64, z98 + z14 = z := ⟨_, rfl⟩
    obtain ⟨c342_c39_z14, hc342_c39_z14⟩ : ∃ z : Int32, lcmpW c342_c39_z12 z93 = z := ⟨_, rfl⟩
    obtain ⟨c342_c39_rv, hc342_c39_rv⟩ : ∃ z : Int32, (if m39_s0 = (0 : Int32) then (if m55_s0 = (0 : Int32) then (if c342_c39_z14 < (0 : Int32) then (0 : Int32) else (1 : Int32)) else (0 : Int32)) else (1 : Int32)) = z := ⟨_, rfl⟩
    obtain ⟨c342_c62_z12, hc342_c62_z12⟩ : ∃ z : Int64, z98 + z14 = z := ⟨_, rfl⟩
    obtain ⟨c342_c62_z14, hc342_c62_z14⟩ : ∃ z : Int32, lcmpW c342_c62_z12 z98 = z := ⟨_, rfl⟩
    obtain ⟨c342_c62_rv, hc342_c62_rv⟩ : ∃ z : Int32, (if m55_s0 = (0 : Int32) then (if m55_s0 = (0 : Int32) then (if c342_c62_z14 < (0 : Int32) then (0 : Int32) else (1 : Int32)) else (0 : Int32)) else (1 : Int32)) = z := ⟨_, rfl⟩
    obtain ⟨c342_c85_z12, hc342_c85_z12⟩ : ∃ z : Int64, z98 + z14 = z := ⟨_, rfl⟩
    obtain ⟨c342_c85_z14, hc342_c85_z14⟩ : ∃ z : Int32, lcmpW c342_c85_z12 z103 = z := ⟨_, rfl⟩
    obtain ⟨c342_c85_rv, hc342_c85_rv⟩ : ∃ z : Int32, (if m72_s0 = (0 : Int32) then (if m55_s0 = (0 : Int32) then (if c342_c85_z14 < (0 : Int32) then (0 : Int32) else (1 : Int32)) else (0 : Int32)) else (1 : Int32)) = z := ⟨_, rfl⟩
    obtain ⟨c342_rv, hc342_rv⟩ : ∃ z : Int32, (if c342_c16_rv = (0 : Int32) then (0 : Int32) else (if c342_c39_rv = (0 : Int32) then (0 : Int32) else (if c342_c62_rv = (0 : Int32) then (0 : Int32) else (if c342_c85_rv = (0 : Int32) then (0 : Int32) else (1 : Int32))))) = z := ⟨_, rfl⟩
    obtain ⟨c376_c16_z12, hc376_c16_z12⟩ : ∃ z : Int64, z103 + z14 = z := ⟨_, rfl⟩
    obtain ⟨c376_c16_z14, hc376_c16_z14⟩ : ∃ z : Int32, lcmpW c376_c16_z12 z88 = z := ⟨_, rfl⟩
    obtain ⟨c376_c16_rv, hc376_c16_rv⟩ : ∃ z : Int32, (if m23_s0 = (0 : Int32) then (if m72_s0 = (0 : Int32) then (if c376_c16_z14 < (0 : Int32) then (0 : Int32) else (1 : Int32)) else (0 : Int32)) else (1 : Int32)) = z := ⟨_, rfl⟩
    obtain ⟨c376_c39_z12, hc376_c39_z12⟩ : ∃ z : Int64, z103 + z14 = z := ⟨_, rfl⟩
    obtain ⟨c376_c39_z14, hc376_c39_z14⟩ : ∃ z : Int32, lcmpW c376_c39_z12 z93 = z := ⟨_, rfl⟩
    obtain ⟨c376_c39_rv, hc376_c39_rv⟩ : ∃ z : Int32, (if m39_s0 = (0 : Int32) then (if m72_s0 = (0 : Int32) then (if c376_c39_z14 < (0 : Int32) then (0 : Int32) else (1 : Int32)) else (0 : Int32)) else (1 : Int32)) = z := ⟨_, rfl⟩
    obtain ⟨c376_c62_z12, hc376_c62_z12⟩ : ∃ z : Int64, z103 + z14 = z := ⟨_, rfl⟩
    obtain ⟨c376_c62_z14, hc376_c62_z14⟩ : ∃ z : Int32, lcmpW c376_c62_z12 z98 = z := ⟨_, rfl⟩
    obtain ⟨c376_c62_rv, hc376_c62_rv⟩ : ∃ z : Int32, (if m55_s0 = (0 : Int32) then (if m72_s0 = (0 : Int32) then (if c376_c62_z14 < (0 : Int32) then (0 : Int32) else (1 : Int32)) else (0 : Int32)) else (1 : Int32)) = z := ⟨_, rfl⟩
    obtain ⟨c376_c85_z12, hc376_c85_z12⟩ : ∃ z : Int64, z103 + z14 = z := ⟨_, rfl⟩
    obtain ⟨c376_c85_z14, hc376_c85_z14⟩ : ∃ z : Int32, lcmpW c376_c85_z12 z103 = z := ⟨_, rfl⟩
    obtain ⟨c376_c85_rv, hc376_c85_rv⟩ : ∃ z : Int32, (if m72_s0 = (0 : Int32) then (if m72_s0 = (0 : Int32) then (if c376_c85_z14 < (0 : Int32) then (0 : Int32) else (1 : Int32)) else (0 : Int32)) else (1 : Int32)) = z := ⟨_, rfl⟩
    obtain ⟨c376_rv, hc376_rv⟩ : ∃ z : Int32, (if c376_c16_rv = (0 : Int32) then (0 : Int32) else (if c376_c39_rv = (0 : Int32) then (0 : Int32) else (if c376_c62_rv = (0 : Int32) then (0 : Int32) else (if c376_c85_rv = (0 : Int32) then (0 : Int32) else (1 : Int32))))) = z := ⟨_, rfl⟩
    obtain ⟨T113, h113, k113, X113, e113, E113, A113, st113⟩ := newP X31 hx hZ (hw _ (List.mem_of_getElem? (i := 3) rfl)) e31 (g := (mkF m 134 #[.val (.int p0), .val (.int p1), .val (.int p2), .val (.int p3), .val (.int p4), .val (.int p5), .val (.int (4 : Int32)), .val (.long z14), .second, .val (.int m23_s0), .val (.int m39_s0), .val (.int m55_s0), .val (.int m72_s0), .val (.ref b5), .val (.ref b19), .unset, .unset] [(.int (4 : Int32))])) rfl (hb hby at_134) rfl (by decide) (cap := 4) (by decide) (by decide) (by decide) (by decide)
    obtain ⟨b113, g113⟩ : ∃ z, z = h31.size := ⟨_, rfl⟩
    rw [← g113] at A113 st113
    have gn113 : n0 ≤ b113 := Nat.le_trans (Nat.le_trans (Nat.le_trans (Nat.le_trans (Nat.le_trans (Nat.le_trans (Nat.le_trans (Nat.le_trans (Nat.le_trans (Nat.le_trans (Nat.le_trans Z0 E5.1) (Keep.of_wr W8).1) (Keep.of_wr W11).1) (Keep.of_wr W14).1) (Keep.of_wr W17).1) E19.1) (Keep.of_wr W22).1) (Keep.of_wr W25).1) (Keep.of_wr W28).1) (Keep.of_wr W31).1) (Nat.le_of_eq g113.symm)
    have gz113 : h0.size ≤ b113 := Nat.le_trans (K32).1 (Nat.le_of_eq g113.symm)
    have K114 : Keep h0 h113 [] := K32.ext E113
    have V113 : Arv Z h113 b113 k113 .double (4 : Int32) [(.double (0 : UInt64)), (.double (0 : UInt64)), (.double (0 : UInt64)), (.double (0 : UInt64))] (.double (0 : UInt64)) := (Arv.new A113 (by decide)).pad (pad_rep [] (.double (0 : UInt64)) 4)
    have c115 : ∀ t, Steps p.tables e below (T113.setTop (mkF m 159 #[.val (.int p0), .val (.int p1), .val (.int p2), .val (.int p3), .val (.int p4), .val (.int p5), .val (.int (4 : Int32)), .val (.long z14), .second, .val (.int m23_s0), .val (.int m39_s0), .val (.int m55_s0), .val (.int m72_s0), .val (.ref b5), .val (.ref b19), .val (.ref b113), .unset] [(.double m148_s0), (.int (0 : Int32)), (.ref b113)])) t → Steps p.tables e below (s₁.setTop (entryFrame m #[(.int p0), (.int p1), (.int p2), (.int p3), (.int p4), (.int p5)] maxLocals)) t := by
      intro t k
      refine c33 t ?_
      show Steps p.tables e below (T31.setTop (mkF m 132 #[.val (.int p0), .val (.int p1), .val (.int p2), .val (.int p3), .val (.int p4), .val (.int p5), .val (.int (4 : Int32)), .val (.long z14), .second, .val (.int m23_s0), .val (.int m39_s0), .val (.int m55_s0), .val (.int m72_s0), .val (.ref b5), .val (.ref b19), .unset, .unset] [])) _
      refine XS.iload X31.here hx rfl (hb hby at_132) rfl ?_
      show Steps p.tables e below (T31.setTop (mkF m 134 #[.val (.int p0), .val (.int p1), .val (.int p2), .val (.int p3), .val (.int p4), .val (.int p5), .val (.int (4 : Int32)), .val (.long z14), .second, .val (.int m23_s0), .val (.int m39_s0), .val (.int m55_s0), .val (.int m72_s0), .val (.ref b5), .val (.ref b19), .unset, .unset] [(.int (4 : Int32))])) _
      refine st113 _ ?_
      show Steps p.tables e below (T113.setTop (mkF m 136 #[.val (.int p0), .val (.int p1), .val (.int p2), .val (.int p3), .val (.int p4), .val (.int p5), .val (.int (4 : Int32)), .val (.long z14), .second, .val (.int m23_s0), .val (.int m39_s0), .val (.int m55_s0), .val (.int m72_s0), .val (.ref b5), .val (.ref b19), .unset, .unset] [(.ref b113)])) _
      refine XS.astore X113.here hx rfl (hb hby at_136) rfl rfl (l' := #[.val (.int p0), .val (.int p1), .val (.int p2), .val (.int p3), .val (.int p4), .val (.int p5), .val (.int (4 : Int32)), .val (.long z14), .second, .val (.int m23_s0), .val (.int m39_s0), .val (.int m55_s0), .val (.int m72_s0), .val (.ref b5), .val (.ref b19), .val (.ref b113), .unset]) rfl ?_
      show Steps p.tables e below (T113.setTop (mkF m 138 #[.val (.int p0), .val (.int p1), .val (.int p2), .val (.int p3), .val (.int p4), .val (.int p5), .val (.int (4 : Int32)), .val (.long z14), .second, .val (.int m23_s0), .val (.int m39_s0), .val (.int m55_s0), .val (.int m72_s0), .val (.ref b5), .val (.ref b19), .val (.ref b113), .unset] [])) _
      refine XS.iload X113.here hx rfl (hb hby at_138) rfl ?_
      show Steps p.tables e below (T113.setTop (mkF m 140 #[.val (.int p0), .val (.int p1), .val (.int p2), .val (.int p3), .val (.int p4), .val (.int p5), .val (.int (4 : Int32)), .val (.long z14), .second, .val (.int m23_s0), .val (.int m39_s0), .val (.int m55_s0), .val (.int m72_s0), .val (.ref b5), .val (.ref b19), .val (.ref b113), .unset] [(.int (4 : Int32))])) _
      refine XS.ifNo X113.here hx rfl (hb hby at_140) rfl (Jvm.Free.XT.i0_le_f (by decide)) ?_
      show Steps p.tables e below (T113.setTop (mkF m 143 #[.val (.int p0), .val (.int p1), .val (.int p2), .val (.int p3), .val (.int p4), .val (.int p5), .val (.int (4 : Int32)), .val (.long z14), .second, .val (.int m23_s0), .val (.int m39_s0), .val (.int m55_s0), .val (.int m72_s0), .val (.ref b5), .val (.ref b19), .val (.ref b113), .unset] [])) _
      refine XS.aload X113.here hx rfl (hb hby at_143) rfl rfl ?_
      show Steps p.tables e below (T113.setTop (mkF m 145 #[.val (.int p0), .val (.int p1), .val (.int p2), .val (.int p3), .val (.int p4), .val (.int p5), .val (.int (4 : Int32)), .val (.long z14), .second, .val (.int m23_s0), .val (.int m39_s0), .val (.int m55_s0), .val (.int m72_s0), .val (.ref b5), .val (.ref b19), .val (.ref b113), .unset] [(.ref b113)])) _
      refine XS.iconst X113.here hx rfl (hb hby at_145) ?_
      show Steps p.tables e below (T113.setTop (mkF m 146 #[.val (.int p0), .val (.int p1), .val (.int p2), .val (.int p3), .val (.int p4), .val (.int p5), .val (.int (4 : Int32)), .val (.long z14), .second, .val (.int m23_s0), .val (.int m39_s0), .val (.int m55_s0), .val (.int m72_s0), .val (.ref b5), .val (.ref b19), .val (.ref b113), .unset] [(.int (0 : Int32)), (.ref b113)])) _
      refine XS.iload X113.here hx rfl (hb hby at_146) rfl ?_
      by_cases hm148_0 : m23_s0 = (0 : Int32)
      · skip
        show Steps p.tables e below (T113.setTop (mkF m 148 #[.val (.int p0), .val (.int p1), .val (.int p2), .val (.int p3), .val (.int p4), .val (.int p5), .val (.int (4 : Int32)), .val (.long z14), .second, .val (.int m23_s0), .val (.int m39_s0), .val (.int m55_s0), .val (.int m72_s0), .val (.ref b5), .val (.ref b19), .val (.ref b113), .unset] [(.int m23_s0), (.int (0 : Int32)), (.ref b113)])) _
        refine XS.ifYes X113.here hx rfl (pc0 := 148) (pc' := 157) rfl (hb hby at_148) rfl (Jvm.Free.XT.i0_eq_t hm148_0) (by decide) (by decide) ?_
        show Steps p.tables e below (T113.setTop (mkF m 157 #[.val (.int p0), .val (.int p1), .val (.int p2), .val (.int p3), .val (.int p4), .val (.int p5), .val (.int (4 : Int32)), .val (.long z14), .second, .val (.int m23_s0), .val (.int m39_s0), .val (.int m55_s0), .val (.int m72_s0), .val (.ref b5), .val (.ref b19), .val (.ref b113), .unset] [(.int (0 : Int32)), (.ref b113)])) _
        refine XS.iloadN X113.here hx rfl (hb hby at_157) rfl ?_
        show Steps p.tables e below (T113.setTop (mkF m 158 #[.val (.int p0), .val (.int p1), .val (.int p2), .val (.int p3), .val (.int p4), .val (.int p5), .val (.int (4 : Int32)), .val (.long z14), .second, .val (.int m23_s0), .val (.int m39_s0), .val (.int m55_s0), .val (.int m72_s0), .val (.ref b5), .val (.ref b19), .val (.ref b113), .unset] [(.int p0), (.int (0 : Int32)), (.ref b113)])) _
        refine XS.i2dS X113.here hx rfl (hb hby at_158) rfl hz158 ?_
        obtain rfl : z158 = m148_s0 := by rw [← hm148_s0]; simp only [if_pos hm148_0]
        exact k
      · skip
        show Steps p.tables e below (T113.setTop (mkF m 148 #[.val (.int p0), .val (.int p1), .val (.int p2), .val (.int p3), .val (.int p4), .val (.int p5), .val (.int (4 : Int32)), .val (.long z14), .second, .val (.int m23_s0), .val (.int m39_s0), .val (.int m55_s0), .val (.int m72_s0), .val (.ref b5), .val (.ref b19), .val (.ref b113), .unset] [(.int m23_s0), (.int (0 : Int32)), (.ref b113)])) _
        refine XS.ifNo X113.here hx rfl (hb hby at_148) rfl (Jvm.Free.XT.i0_eq_f hm148_0) ?_
        show Steps p.tables e below (T113.setTop (mkF m 151 #[.val (.int p0), .val (.int p1), .val (.int p2), .val (.int p3), .val (.int p4), .val (.int p5), .val (.int (4 : Int32)), .val (.long z14), .second, .val (.int m23_s0), .val (.int m39_s0), .val (.int m55_s0), .val (.int m72_s0), .val (.ref b5), .val (.ref b19), .val (.ref b113), .unset] [(.int (0 : Int32)), (.ref b113)])) _
        refine X113.ldc2DoubleC hx hown (mvT hZ (hw _ (List.mem_of_getElem? (i := 20) rfl))) (g := (mkF m 151 #[.val (.int p0), .val (.int p1), .val (.int p2), .val (.int p3), .val (.int p4), .val (.int p5), .val (.int (4 : Int32)), .val (.long z14), .second, .val (.int m23_s0), .val (.int m39_s0), .val (.int m55_s0), .val (.int m72_s0), .val (.ref b5), .val (.ref b19), .val (.ref b113), .unset] [(.int (0 : Int32)), (.ref b113)])) rfl (hb hby at_151) _ ?_
        show Steps p.tables e below (T113.setTop (mkF m 154 #[.val (.int p0), .val (.int p1), .val (.int p2), .val (.int p3), .val (.int p4), .val (.int p5), .val (.int (4 : Int32)), .val (.long z14), .second, .val (.int m23_s0), .val (.int m39_s0), .val (.int m55_s0), .val (.int m72_s0), .val (.ref b5), .val (.ref b19), .val (.ref b113), .unset] [(.double (18442240474082181120 : UInt64)), (.int (0 : Int32)), (.ref b113)])) _
        refine XS.goto X113.here hx rfl (pc0 := 154) (pc' := 159) rfl (hb hby at_154) (by decide) (by decide) ?_
        obtain rfl : (18442240474082181120 : UInt64) = m148_s0 := by rw [← hm148_s0]; simp only [if_neg hm148_0]
        exact k
    obtain ⟨cl116, Ar116, q116, S116, Nn116, Ha116, G116⟩ := id V113
    have in116 : ¬ ((0 : Int32) < 0 ∨ cl116.slots.size ≤ ((0 : Int32)).toNatClampNeg) := inb_of S116 ⟨by decide, by decide⟩
    obtain ⟨T117, h117, X117, e117, W117, st117⟩ := stD X113 hx hZ e113 Ar116 (j := (0 : Int32)) in116 (g := (mkF m 159 #[.val (.int p0), .val (.int p1), .val (.int p2), .val (.int p3), .val (.int p4), .val (.int p5), .val (.int (4 : Int32)), .val (.long z14), .second, .val (.int m23_s0), .val (.int m39_s0), .val (.int m55_s0), .val (.int m72_s0), .val (.ref b5), .val (.ref b19), .val (.ref b113), .unset] [(.double m148_s0), (.int (0 : Int32)), (.ref b113)])) rfl rfl (hb hby at_159)
    have N117 := Fr.snoc X117 N31 gn113
    have K118 : Keep h0 h117 [] := K114.wr W117 (Or.inr gz113)
    have V117 : Arv Z h117 b113 k113 .double (4 : Int32) [(.double m148_s0), (.double (0 : UInt64)), (.double (0 : UInt64)), (.double (0 : UInt64))] (.double (0 : UInt64)) := Arv.set Ar116 q116 S116 Nn116 Ha116 G116 rfl W117 0 rfl (show (0 : Nat) < 4 by decide)
    have c119 : ∀ t, Steps p.tables e below (T117.setTop (mkF m 182 #[.val (.int p0), .val (.int p1), .val (.int p2), .val (.int p3), .val (.int p4), .val (.int p5), .val (.int (4 : Int32)), .val (.long z14), .second, .val (.int m23_s0), .val (.int m39_s0), .val (.int m55_s0), .val (.int m72_s0), .val (.ref b5), .val (.ref b19), .val (.ref b113), .unset] [(.double m171_s0), (.int (1 : Int32)), (.ref b113)])) t → Steps p.tables e below (s₁.setTop (entryFrame m #[(.int p0), (.int p1), (.int p2), (.int p3), (.int p4), (.int p5)] maxLocals)) t := by
      intro t k
      refine c115 t ?_
      show Steps p.tables e below (T113.setTop (mkF m 159 #[.val (.int p0), .val (.int p1), .val (.int p2), .val (.int p3), .val (.int p4), .val (.int p5), .val (.int (4 : Int32)), .val (.long z14), .second, .val (.int m23_s0), .val (.int m39_s0), .val (.int m55_s0), .val (.int m72_s0), .val (.ref b5), .val (.ref b19), .val (.ref b113), .unset] [(.double m148_s0), (.int (0 : Int32)), (.ref b113)])) _
      refine st117 _ ?_
      show Steps p.tables e below (T117.setTop (mkF m 160 #[.val (.int p0), .val (.int p1), .val (.int p2), .val (.int p3), .val (.int p4), .val (.int p5), .val (.int (4 : Int32)), .val (.long z14), .second, .val (.int m23_s0), .val (.int m39_s0), .val (.int m55_s0), .val (.int m72_s0), .val (.ref b5), .val (.ref b19), .val (.ref b113), .unset] [])) _
      refine XS.iload X117.here hx rfl (hb hby at_160) rfl ?_
      show Steps p.tables e below (T117.setTop (mkF m 162 #[.val (.int p0), .val (.int p1), .val (.int p2), .val (.int p3), .val (.int p4), .val (.int p5), .val (.int (4 : Int32)), .val (.long z14), .second, .val (.int m23_s0), .val (.int m39_s0), .val (.int m55_s0), .val (.int m72_s0), .val (.ref b5), .val (.ref b19), .val (.ref b113), .unset] [(.int (4 : Int32))])) _
      refine XS.iconst X117.here hx rfl (hb hby at_162) ?_
      show Steps p.tables e below (T117.setTop (mkF m 163 #[.val (.int p0), .val (.int p1), .val (.int p2), .val (.int p3), .val (.int p4), .val (.int p5), .val (.int (4 : Int32)), .val (.long z14), .second, .val (.int m23_s0), .val (.int m39_s0), .val (.int m55_s0), .val (.int m72_s0), .val (.ref b5), .val (.ref b19), .val (.ref b113), .unset] [(.int (1 : Int32)), (.int (4 : Int32))])) _
      refine XS.icmpNo X117.here hx rfl (hb hby at_163) rfl (Jvm.Free.XT.ii_le_f (by decide)) ?_
      show Steps p.tables e below (T117.setTop (mkF m 166 #[.val (.int p0), .val (.int p1), .val (.int p2), .val (.int p3), .val (.int p4), .val (.int p5), .val (.int (4 : Int32)), .val (.long z14), .second, .val (.int m23_s0), .val (.int m39_s0), .val (.int m55_s0), .val (.int m72_s0), .val (.ref b5), .val (.ref b19), .val (.ref b113), .unset] [])) _
      refine XS.aload X117.here hx rfl (hb hby at_166) rfl rfl ?_
      show Steps p.tables e below (T117.setTop (mkF m 168 #[.val (.int p0), .val (.int p1), .val (.int p2), .val (.int p3), .val (.int p4), .val (.int p5), .val (.int (4 : Int32)), .val (.long z14), .second, .val (.int m23_s0), .val (.int m39_s0), .val (.int m55_s0), .val (.int m72_s0), .val (.ref b5), .val (.ref b19), .val (.ref b113), .unset] [(.ref b113)])) _
      refine XS.iconst X117.here hx rfl (hb hby at_168) ?_
      show Steps p.tables e below (T117.setTop (mkF m 169 #[.val (.int p0), .val (.int p1), .val (.int p2), .val (.int p3), .val (.int p4), .val (.int p5), .val (.int (4 : Int32)), .val (.long z14), .second, .val (.int m23_s0), .val (.int m39_s0), .val (.int m55_s0), .val (.int m72_s0), .val (.ref b5), .val (.ref b19), .val (.ref b113), .unset] [(.int (1 : Int32)), (.ref b113)])) _
      refine XS.iload X117.here hx rfl (hb hby at_169) rfl ?_
      by_cases hm171_0 : m39_s0 = (0 : Int32)
      · skip
        show Steps p.tables e below (T117.setTop (mkF m 171 #[.val (.int p0), .val (.int p1), .val (.int p2), .val (.int p3), .val (.int p4), .val (.int p5), .val (.int (4 : Int32)), .val (.long z14), .second, .val (.int m23_s0), .val (.int m39_s0), .val (.int m55_s0), .val (.int m72_s0), .val (.ref b5), .val (.ref b19), .val (.ref b113), .unset] [(.int m39_s0), (.int (1 : Int32)), (.ref b113)])) _
        refine XS.ifYes X117.here hx rfl (pc0 := 171) (pc' := 180) rfl (hb hby at_171) rfl (Jvm.Free.XT.i0_eq_t hm171_0) (by decide) (by decide) ?_
        show Steps p.tables e below (T117.setTop (mkF m 180 #[.val (.int p0), .val (.int p1), .val (.int p2), .val (.int p3), .val (.int p4), .val (.int p5), .val (.int (4 : Int32)), .val (.long z14), .second, .val (.int m23_s0), .val (.int m39_s0), .val (.int m55_s0), .val (.int m72_s0), .val (.ref b5), .val (.ref b19), .val (.ref b113), .unset] [(.int (1 : Int32)), (.ref b113)])) _
        refine XS.iloadN X117.here hx rfl (hb hby at_180) rfl ?_
        show Steps p.tables e below (T117.setTop (mkF m 181 #[.val (.int p0), .val (.int p1), .val (.int p2), .val (.int p3), .val (.int p4), .val (.int p5), .val (.int (4 : Int32)), .val (.long z14), .second, .val (.int m23_s0), .val (.int m39_s0), .val (.int m55_s0), .val (.int m72_s0), .val (.ref b5), .val (.ref b19), .val (.ref b113), .unset] [(.int p1), (.int (1 : Int32)), (.ref b113)])) _
        refine XS.i2dS X117.here hx rfl (hb hby at_181) rfl hz181 ?_
        obtain rfl : z181 = m171_s0 := by rw [← hm171_s0]; simp only [if_pos hm171_0]
        exact k
      · skip
        show Steps p.tables e below (T117.setTop (mkF m 171 #[.val (.int p0), .val (.int p1), .val (.int p2), .val (.int p3), .val (.int p4), .val (.int p5), .val (.int (4 : Int32)), .val (.long z14), .second, .val (.int m23_s0), .val (.int m39_s0), .val (.int m55_s0), .val (.int m72_s0), .val (.ref b5), .val (.ref b19), .val (.ref b113), .unset] [(.int m39_s0), (.int (1 : Int32)), (.ref b113)])) _
        refine XS.ifNo X117.here hx rfl (hb hby at_171) rfl (Jvm.Free.XT.i0_eq_f hm171_0) ?_
        show Steps p.tables e below (T117.setTop (mkF m 174 #[.val (.int p0), .val (.int p1), .val (.int p2), .val (.int p3), .val (.int p4), .val (.int p5), .val (.int (4 : Int32)), .val (.long z14), .second, .val (.int m23_s0), .val (.int m39_s0), .val (.int m55_s0), .val (.int m72_s0), .val (.ref b5), .val (.ref b19), .val (.ref b113), .unset] [(.int (1 : Int32)), (.ref b113)])) _
        refine X117.ldc2DoubleC hx hown (mvT hZ (hw _ (List.mem_of_getElem? (i := 20) rfl))) (g := (mkF m 174 #[.val (.int p0), .val (.int p1), .val (.int p2), .val (.int p3), .val (.int p4), .val (.int p5), .val (.int (4 : Int32)), .val (.long z14), .second, .val (.int m23_s0), .val (.int m39_s0), .val (.int m55_s0), .val (.int m72_s0), .val (.ref b5), .val (.ref b19), .val (.ref b113), .unset] [(.int (1 : Int32)), (.ref b113)])) rfl (hb hby at_174) _ ?_
        show Steps p.tables e below (T117.setTop (mkF m 177 #[.val (.int p0), .val (.int p1), .val (.int p2), .val (.int p3), .val (.int p4), .val (.int p5), .val (.int (4 : Int32)), .val (.long z14), .second, .val (.int m23_s0), .val (.int m39_s0), .val (.int m55_s0), .val (.int m72_s0), .val (.ref b5), .val (.ref b19), .val (.ref b113), .unset] [(.double (18442240474082181120 : UInt64)), (.int (1 : Int32)), (.ref b113)])) _
        refine XS.goto X117.here hx rfl (pc0 := 177) (pc' := 182) rfl (hb hby at_177) (by decide) (by decide) ?_
        obtain rfl : (18442240474082181120 : UInt64) = m171_s0 := by rw [← hm171_s0]; simp only [if_neg hm171_0]
        exact k
    obtain ⟨cl120, Ar120, q120, S120, Nn120, Ha120, G120⟩ := id V117
    have in120 : ¬ ((1 : Int32) < 0 ∨ cl120.slots.size ≤ ((1 : Int32)).toNatClampNeg) := inb_of S120 ⟨by decide, by decide⟩
    obtain ⟨T121, h121, X121, e121, W121, st121⟩ := stD X117 hx hZ e117 Ar120 (j := (1 : Int32)) in120 (g := (mkF m 182 #[.val (.int p0), .val (.int p1), .val (.int p2), .val (.int p3), .val (.int p4), .val (.int p5), .val (.int (4 : Int32)), .val (.long z14), .second, .val (.int m23_s0), .val (.int m39_s0), .val (.int m55_s0), .val (.int m72_s0), .val (.ref b5), .val (.ref b19), .val (.ref b113), .unset] [(.double m171_s0), (.int (1 : Int32)), (.ref b113)])) rfl rfl (hb hby at_182)
    have N121 := Fr.snoc X121 N117 gn113
    have K122 : Keep h0 h121 [] := K118.wr W121 (Or.inr gz113)
    have V121 : Arv Z h121 b113 k113 .double (4 : Int32) [(.double m148_s0), (.double m171_s0), (.double (0 : UInt64)), (.double (0 : UInt64))] (.double (0 : UInt64)) := Arv.set Ar120 q120 S120 Nn120 Ha120 G120 rfl W121 1 rfl (show (1 : Nat) < 4 by decide)
    have c123 : ∀ t, Steps p.tables e below (T121.setTop (mkF m 205 #[.val (.int p0), .val (.int p1), .val (.int p2), .val (.int p3), .val (.int p4), .val (.int p5), .val (.int (4 : Int32)), .val (.long z14), .second, .val (.int m23_s0), .val (.int m39_s0), .val (.int m55_s0), .val (.int m72_s0), .val (.ref b5), .val (.ref b19), .val (.ref b113), .unset] [(.double m194_s0), (.int (2 : Int32)), (.ref b113)])) t → Steps p.tables e below (s₁.setTop (entryFrame m #[(.int p0), (.int p1), (.int p2), (.int p3), (.int p4), (.int p5)] maxLocals)) t := by
      intro t k
      refine c119 t ?_
      show Steps p.tables e below (T117.setTop (mkF m 182 #[.val (.int p0), .val (.int p1), .val (.int p2), .val (.int p3), .val (.int p4), .val (.int p5), .val (.int (4 : Int32)), .val (.long z14), .second, .val (.int m23_s0), .val (.int m39_s0), .val (.int m55_s0), .val (.int m72_s0), .val (.ref b5), .val (.ref b19), .val (.ref b113), .unset] [(.double m171_s0), (.int (1 : Int32)), (.ref b113)])) _
      refine st121 _ ?_
      show Steps p.tables e below (T121.setTop (mkF m 183 #[.val (.int p0), .val (.int p1), .val (.int p2), .val (.int p3), .val (.int p4), .val (.int p5), .val (.int (4 : Int32)), .val (.long z14), .second, .val (.int m23_s0), .val (.int m39_s0), .val (.int m55_s0), .val (.int m72_s0), .val (.ref b5), .val (.ref b19), .val (.ref b113), .unset] [])) _
      refine XS.iload X121.here hx rfl (hb hby at_183) rfl ?_
      show Steps p.tables e below (T121.setTop (mkF m 185 #[.val (.int p0), .val (.int p1), .val (.int p2), .val (.int p3), .val (.int p4), .val (.int p5), .val (.int (4 : Int32)), .val (.long z14), .second, .val (.int m23_s0), .val (.int m39_s0), .val (.int m55_s0), .val (.int m72_s0), .val (.ref b5), .val (.ref b19), .val (.ref b113), .unset] [(.int (4 : Int32))])) _
      refine XS.iconst X121.here hx rfl (hb hby at_185) ?_
      show Steps p.tables e below (T121.setTop (mkF m 186 #[.val (.int p0), .val (.int p1), .val (.int p2), .val (.int p3), .val (.int p4), .val (.int p5), .val (.int (4 : Int32)), .val (.long z14), .second, .val (.int m23_s0), .val (.int m39_s0), .val (.int m55_s0), .val (.int m72_s0), .val (.ref b5), .val (.ref b19), .val (.ref b113), .unset] [(.int (2 : Int32)), (.int (4 : Int32))])) _
      refine XS.icmpNo X121.here hx rfl (hb hby at_186) rfl (Jvm.Free.XT.ii_le_f (by decide)) ?_
      show Steps p.tables e below (T121.setTop (mkF m 189 #[.val (.int p0), .val (.int p1), .val (.int p2), .val (.int p3), .val (.int p4), .val (.int p5), .val (.int (4 : Int32)), .val (.long z14), .second, .val (.int m23_s0), .val (.int m39_s0), .val (.int m55_s0), .val (.int m72_s0), .val (.ref b5), .val (.ref b19), .val (.ref b113), .unset] [])) _
      refine XS.aload X121.here hx rfl (hb hby at_189) rfl rfl ?_
      show Steps p.tables e below (T121.setTop (mkF m 191 #[.val (.int p0), .val (.int p1), .val (.int p2), .val (.int p3), .val (.int p4), .val (.int p5), .val (.int (4 : Int32)), .val (.long z14), .second, .val (.int m23_s0), .val (.int m39_s0), .val (.int m55_s0), .val (.int m72_s0), .val (.ref b5), .val (.ref b19), .val (.ref b113), .unset] [(.ref b113)])) _
      refine XS.iconst X121.here hx rfl (hb hby at_191) ?_
      show Steps p.tables e below (T121.setTop (mkF m 192 #[.val (.int p0), .val (.int p1), .val (.int p2), .val (.int p3), .val (.int p4), .val (.int p5), .val (.int (4 : Int32)), .val (.long z14), .second, .val (.int m23_s0), .val (.int m39_s0), .val (.int m55_s0), .val (.int m72_s0), .val (.ref b5), .val (.ref b19), .val (.ref b113), .unset] [(.int (2 : Int32)), (.ref b113)])) _
      refine XS.iload X121.here hx rfl (hb hby at_192) rfl ?_
      by_cases hm194_0 : m55_s0 = (0 : Int32)
      · skip
        show Steps p.tables e below (T121.setTop (mkF m 194 #[.val (.int p0), .val (.int p1), .val (.int p2), .val (.int p3), .val (.int p4), .val (.int p5), .val (.int (4 : Int32)), .val (.long z14), .second, .val (.int m23_s0), .val (.int m39_s0), .val (.int m55_s0), .val (.int m72_s0), .val (.ref b5), .val (.ref b19), .val (.ref b113), .unset] [(.int m55_s0), (.int (2 : Int32)), (.ref b113)])) _
        refine XS.ifYes X121.here hx rfl (pc0 := 194) (pc' := 203) rfl (hb hby at_194) rfl (Jvm.Free.XT.i0_eq_t hm194_0) (by decide) (by decide) ?_
        show Steps p.tables e below (T121.setTop (mkF m 203 #[.val (.int p0), .val (.int p1), .val (.int p2), .val (.int p3), .val (.int p4), .val (.int p5), .val (.int (4 : Int32)), .val (.long z14), .second, .val (.int m23_s0), .val (.int m39_s0), .val (.int m55_s0), .val (.int m72_s0), .val (.ref b5), .val (.ref b19), .val (.ref b113), .unset] [(.int (2 : Int32)), (.ref b113)])) _
        refine XS.iloadN X121.here hx rfl (hb hby at_203) rfl ?_
        show Steps p.tables e below (T121.setTop (mkF m 204 #[.val (.int p0), .val (.int p1), .val (.int p2), .val (.int p3), .val (.int p4), .val (.int p5), .val (.int (4 : Int32)), .val (.long z14), .second, .val (.int m23_s0), .val (.int m39_s0), .val (.int m55_s0), .val (.int m72_s0), .val (.ref b5), .val (.ref b19), .val (.ref b113), .unset] [(.int p2), (.int (2 : Int32)), (.ref b113)])) _
        refine XS.i2dS X121.here hx rfl (hb hby at_204) rfl hz204 ?_
        obtain rfl : z204 = m194_s0 := by rw [← hm194_s0]; simp only [if_pos hm194_0]
        exact k
      · skip
        show Steps p.tables e below (T121.setTop (mkF m 194 #[.val (.int p0), .val (.int p1), .val (.int p2), .val (.int p3), .val (.int p4), .val (.int p5), .val (.int (4 : Int32)), .val (.long z14), .second, .val (.int m23_s0), .val (.int m39_s0), .val (.int m55_s0), .val (.int m72_s0), .val (.ref b5), .val (.ref b19), .val (.ref b113), .unset] [(.int m55_s0), (.int (2 : Int32)), (.ref b113)])) _
        refine XS.ifNo X121.here hx rfl (hb hby at_194) rfl (Jvm.Free.XT.i0_eq_f hm194_0) ?_
        show Steps p.tables e below (T121.setTop (mkF m 197 #[.val (.int p0), .val (.int p1), .val (.int p2), .val (.int p3), .val (.int p4), .val (.int p5), .val (.int (4 : Int32)), .val (.long z14), .second, .val (.int m23_s0), .val (.int m39_s0), .val (.int m55_s0), .val (.int m72_s0), .val (.ref b5), .val (.ref b19), .val (.ref b113), .unset] [(.int (2 : Int32)), (.ref b113)])) _
        refine X121.ldc2DoubleC hx hown (mvT hZ (hw _ (List.mem_of_getElem? (i := 20) rfl))) (g := (mkF m 197 #[.val (.int p0), .val (.int p1), .val (.int p2), .val (.int p3), .val (.int p4), .val (.int p5), .val (.int (4 : Int32)), .val (.long z14), .second, .val (.int m23_s0), .val (.int m39_s0), .val (.int m55_s0), .val (.int m72_s0), .val (.ref b5), .val (.ref b19), .val (.ref b113), .unset] [(.int (2 : Int32)), (.ref b113)])) rfl (hb hby at_197) _ ?_
        show Steps p.tables e below (T121.setTop (mkF m 200 #[.val (.int p0), .val (.int p1), .val (.int p2), .val (.int p3), .val (.int p4), .val (.int p5), .val (.int (4 : Int32)), .val (.long z14), .second, .val (.int m23_s0), .val (.int m39_s0), .val (.int m55_s0), .val (.int m72_s0), .val (.ref b5), .val (.ref b19), .val (.ref b113), .unset] [(.double (18442240474082181120 : UInt64)), (.int (2 : Int32)), (.ref b113)])) _
        refine XS.goto X121.here hx rfl (pc0 := 200) (pc' := 205) rfl (hb hby at_200) (by decide) (by decide) ?_
        obtain rfl : (18442240474082181120 : UInt64) = m194_s0 := by rw [← hm194_s0]; simp only [if_neg hm194_0]
        exact k
    obtain ⟨cl124, Ar124, q124, S124, Nn124, Ha124, G124⟩ := id V121
    have in124 : ¬ ((2 : Int32) < 0 ∨ cl124.slots.size ≤ ((2 : Int32)).toNatClampNeg) := inb_of S124 ⟨by decide, by decide⟩
    obtain ⟨T125, h125, X125, e125, W125, st125⟩ := stD X121 hx hZ e121 Ar124 (j := (2 : Int32)) in124 (g := (mkF m 205 #[.val (.int p0), .val (.int p1), .val (.int p2), .val (.int p3), .val (.int p4), .val (.int p5), .val (.int (4 : Int32)), .val (.long z14), .second, .val (.int m23_s0), .val (.int m39_s0), .val (.int m55_s0), .val (.int m72_s0), .val (.ref b5), .val (.ref b19), .val (.ref b113), .unset] [(.double m194_s0), (.int (2 : Int32)), (.ref b113)])) rfl rfl (hb hby at_205)
    have N125 := Fr.snoc X125 N121 gn113
    have K126 : Keep h0 h125 [] := K122.wr W125 (Or.inr gz113)
    have V125 : Arv Z h125 b113 k113 .double (4 : Int32) [(.double m148_s0), (.double m171_s0), (.double m194_s0), (.double (0 : UInt64))] (.double (0 : UInt64)) := Arv.set Ar124 q124 S124 Nn124 Ha124 G124 rfl W125 2 rfl (show (2 : Nat) < 4 by decide)
    have c127 : ∀ t, Steps p.tables e below (T125.setTop (mkF m 228 #[.val (.int p0), .val (.int p1), .val (.int p2), .val (.int p3), .val (.int p4), .val (.int p5), .val (.int (4 : Int32)), .val (.long z14), .second, .val (.int m23_s0), .val (.int m39_s0), .val (.int m55_s0), .val (.int m72_s0), .val (.ref b5), .val (.ref b19), .val (.ref b113), .unset] [(.double m217_s0), (.int (3 : Int32)), (.ref b113)])) t → Steps p.tables e below (s₁.setTop (entryFrame m #[(.int p0), (.int p1), (.int p2), (.int p3), (.int p4), (.int p5)] maxLocals)) t := by
      intro t k
      refine c123 t ?_
      show Steps p.tables e below (T121.setTop (mkF m 205 #[.val (.int p0), .val (.int p1), .val (.int p2), .val (.int p3), .val (.int p4), .val (.int p5), .val (.int (4 : Int32)), .val (.long z14), .second, .val (.int m23_s0), .val (.int m39_s0), .val (.int m55_s0), .val (.int m72_s0), .val (.ref b5), .val (.ref b19), .val (.ref b113), .unset] [(.double m194_s0), (.int (2 : Int32)), (.ref b113)])) _
      refine st125 _ ?_
      show Steps p.tables e below (T125.setTop (mkF m 206 #[.val (.int p0), .val (.int p1), .val (.int p2), .val (.int p3), .val (.int p4), .val (.int p5), .val (.int (4 : Int32)), .val (.long z14), .second, .val (.int m23_s0), .val (.int m39_s0), .val (.int m55_s0), .val (.int m72_s0), .val (.ref b5), .val (.ref b19), .val (.ref b113), .unset] [])) _
      refine XS.iload X125.here hx rfl (hb hby at_206) rfl ?_
      show Steps p.tables e below (T125.setTop (mkF m 208 #[.val (.int p0), .val (.int p1), .val (.int p2), .val (.int p3), .val (.int p4), .val (.int p5), .val (.int (4 : Int32)), .val (.long z14), .second, .val (.int m23_s0), .val (.int m39_s0), .val (.int m55_s0), .val (.int m72_s0), .val (.ref b5), .val (.ref b19), .val (.ref b113), .unset] [(.int (4 : Int32))])) _
      refine XS.iconst X125.here hx rfl (hb hby at_208) ?_
      show Steps p.tables e below (T125.setTop (mkF m 209 #[.val (.int p0), .val (.int p1), .val (.int p2), .val (.int p3), .val (.int p4), .val (.int p5), .val (.int (4 : Int32)), .val (.long z14), .second, .val (.int m23_s0), .val (.int m39_s0), .val (.int m55_s0), .val (.int m72_s0), .val (.ref b5), .val (.ref b19), .val (.ref b113), .unset] [(.int (3 : Int32)), (.int (4 : Int32))])) _
      refine XS.icmpNo X125.here hx rfl (hb hby at_209) rfl (Jvm.Free.XT.ii_le_f (by decide)) ?_
      show Steps p.tables e below (T125.setTop (mkF m 212 #[.val (.int p0), .val (.int p1), .val (.int p2), .val (.int p3), .val (.int p4), .val (.int p5), .val (.int (4 : Int32)), .val (.long z14), .second, .val (.int m23_s0), .val (.int m39_s0), .val (.int m55_s0), .val (.int m72_s0), .val (.ref b5), .val (.ref b19), .val (.ref b113), .unset] [])) _
      refine XS.aload X125.here hx rfl (hb hby at_212) rfl rfl ?_
      show Steps p.tables e below (T125.setTop (mkF m 214 #[.val (.int p0), .val (.int p1), .val (.int p2), .val (.int p3), .val (.int p4), .val (.int p5), .val (.int (4 : Int32)), .val (.long z14), .second, .val (.int m23_s0), .val (.int m39_s0), .val (.int m55_s0), .val (.int m72_s0), .val (.ref b5), .val (.ref b19), .val (.ref b113), .unset] [(.ref b113)])) _
      refine XS.iconst X125.here hx rfl (hb hby at_214) ?_
      show Steps p.tables e below (T125.setTop (mkF m 215 #[.val (.int p0), .val (.int p1), .val (.int p2), .val (.int p3), .val (.int p4), .val (.int p5), .val (.int (4 : Int32)), .val (.long z14), .second, .val (.int m23_s0), .val (.int m39_s0), .val (.int m55_s0), .val (.int m72_s0), .val (.ref b5), .val (.ref b19), .val (.ref b113), .unset] [(.int (3 : Int32)), (.ref b113)])) _
      refine XS.iload X125.here hx rfl (hb hby at_215) rfl ?_
      by_cases hm217_0 : m72_s0 = (0 : Int32)
      · skip
        show Steps p.tables e below (T125.setTop (mkF m 217 #[.val (.int p0), .val (.int p1), .val (.int p2), .val (.int p3), .val (.int p4), .val (.int p5), .val (.int (4 : Int32)), .val (.long z14), .second, .val (.int m23_s0), .val (.int m39_s0), .val (.int m55_s0), .val (.int m72_s0), .val (.ref b5), .val (.ref b19), .val (.ref b113), .unset] [(.int m72_s0), (.int (3 : Int32)), (.ref b113)])) _
        refine XS.ifYes X125.here hx rfl (pc0 := 217) (pc' := 226) rfl (hb hby at_217) rfl (Jvm.Free.XT.i0_eq_t hm217_0) (by decide) (by decide) ?_
        show Steps p.tables e below (T125.setTop (mkF m 226 #[.val (.int p0), .val (.int p1), .val (.int p2), .val (.int p3), .val (.int p4), .val (.int p5), .val (.int (4 : Int32)), .val (.long z14), .second, .val (.int m23_s0), .val (.int m39_s0), .val (.int m55_s0), .val (.int m72_s0), .val (.ref b5), .val (.ref b19), .val (.ref b113), .unset] [(.int (3 : Int32)), (.ref b113)])) _
        refine XS.iloadN X125.here hx rfl (hb hby at_226) rfl ?_
        show Steps p.tables e below (T125.setTop (mkF m 227 #[.val (.int p0), .val (.int p1), .val (.int p2), .val (.int p3), .val (.int p4), .val (.int p5), .val (.int (4 : Int32)), .val (.long z14), .second, .val (.int m23_s0), .val (.int m39_s0), .val (.int m55_s0), .val (.int m72_s0), .val (.ref b5), .val (.ref b19), .val (.ref b113), .unset] [(.int p3), (.int (3 : Int32)), (.ref b113)])) _
        refine XS.i2dS X125.here hx rfl (hb hby at_227) rfl hz227 ?_
        obtain rfl : z227 = m217_s0 := by rw [← hm217_s0]; simp only [if_pos hm217_0]
        exact k
      · skip
        show Steps p.tables e below (T125.setTop (mkF m 217 #[.val (.int p0), .val (.int p1), .val (.int p2), .val (.int p3), .val (.int p4), .val (.int p5), .val (.int (4 : Int32)), .val (.long z14), .second, .val (.int m23_s0), .val (.int m39_s0), .val (.int m55_s0), .val (.int m72_s0), .val (.ref b5), .val (.ref b19), .val (.ref b113), .unset] [(.int m72_s0), (.int (3 : Int32)), (.ref b113)])) _
        refine XS.ifNo X125.here hx rfl (hb hby at_217) rfl (Jvm.Free.XT.i0_eq_f hm217_0) ?_
        show Steps p.tables e below (T125.setTop (mkF m 220 #[.val (.int p0), .val (.int p1), .val (.int p2), .val (.int p3), .val (.int p4), .val (.int p5), .val (.int (4 : Int32)), .val (.long z14), .second, .val (.int m23_s0), .val (.int m39_s0), .val (.int m55_s0), .val (.int m72_s0), .val (.ref b5), .val (.ref b19), .val (.ref b113), .unset] [(.int (3 : Int32)), (.ref b113)])) _
        refine X125.ldc2DoubleC hx hown (mvT hZ (hw _ (List.mem_of_getElem? (i := 20) rfl))) (g := (mkF m 220 #[.val (.int p0), .val (.int p1), .val (.int p2), .val (.int p3), .val (.int p4), .val (.int p5), .val (.int (4 : Int32)), .val (.long z14), .second, .val (.int m23_s0), .val (.int m39_s0), .val (.int m55_s0), .val (.int m72_s0), .val (.ref b5), .val (.ref b19), .val (.ref b113), .unset] [(.int (3 : Int32)), (.ref b113)])) rfl (hb hby at_220) _ ?_
        show Steps p.tables e below (T125.setTop (mkF m 223 #[.val (.int p0), .val (.int p1), .val (.int p2), .val (.int p3), .val (.int p4), .val (.int p5), .val (.int (4 : Int32)), .val (.long z14), .second, .val (.int m23_s0), .val (.int m39_s0), .val (.int m55_s0), .val (.int m72_s0), .val (.ref b5), .val (.ref b19), .val (.ref b113), .unset] [(.double (18442240474082181120 : UInt64)), (.int (3 : Int32)), (.ref b113)])) _
        refine XS.goto X125.here hx rfl (pc0 := 223) (pc' := 228) rfl (hb hby at_223) (by decide) (by decide) ?_
        obtain rfl : (18442240474082181120 : UInt64) = m217_s0 := by rw [← hm217_s0]; simp only [if_neg hm217_0]
        exact k
    obtain ⟨cl128, Ar128, q128, S128, Nn128, Ha128, G128⟩ := id V125
    have in128 : ¬ ((3 : Int32) < 0 ∨ cl128.slots.size ≤ ((3 : Int32)).toNatClampNeg) := inb_of S128 ⟨by decide, by decide⟩
    obtain ⟨T129, h129, X129, e129, W129, st129⟩ := stD X125 hx hZ e125 Ar128 (j := (3 : Int32)) in128 (g := (mkF m 228 #[.val (.int p0), .val (.int p1), .val (.int p2), .val (.int p3), .val (.int p4), .val (.int p5), .val (.int (4 : Int32)), .val (.long z14), .second, .val (.int m23_s0), .val (.int m39_s0), .val (.int m55_s0), .val (.int m72_s0), .val (.ref b5), .val (.ref b19), .val (.ref b113), .unset] [(.double m217_s0), (.int (3 : Int32)), (.ref b113)])) rfl rfl (hb hby at_228)
    have N129 := Fr.snoc X129 N125 gn113
    have K130 : Keep h0 h129 [] := K126.wr W129 (Or.inr gz113)
    have V129 : Arv Z h129 b113 k113 .double (4 : Int32) [(.double m148_s0), (.double m171_s0), (.double m194_s0), (.double m217_s0)] (.double (0 : UInt64)) := Arv.set Ar128 q128 S128 Nn128 Ha128 G128 rfl W129 3 rfl (show (3 : Nat) < 4 by decide)
    have bT : 0 ≤ z14.toInt ∧ z14.toInt < 2147483648 := by rw [Jvm.OwnF.i2l_v hz14]; exact Jvm.OwnF.mask31 hz13
    have dT : Jvm.OwnF.DV z14.toInt 0 z233 := hz233 ▸ Jvm.OwnF.DV_l2d (Jvm.OwnF.r53 (by omega))
    have e0_ := EVe hz158 hm148_s0
    have c234_nm0_32 := (ev0).nn
    have c234_nm1_32 := e0_.nn
    have x0_ := EV_max (ev0) e0_ hc234_z32
    have e1_ := EVe hz181 hm171_s0
    have c234_nm0_32_2 := (x0_).nn
    have c234_nm1_32_2 := e1_.nn
    have x1_ := EV_max (x0_) e1_ hc234_z32_2
    have e2_ := EVe hz204 hm194_s0
    have c234_nm0_32_3 := (x1_).nn
    have c234_nm1_32_3 := e2_.nn
    have x2_ := EV_max (x1_) e2_ hc234_z32_3
    have e3_ := EVe hz227 hm217_s0
    have c234_nm0_32_4 := (x2_).nn
    have c234_nm1_32_4 := e3_.nn
    have x3_ := EV_max (x2_) e3_ hc234_z32_4
    have s0_ := EV_sub (x3_) (mx_le (mx_le (mx_le (mx_le bd0 (bde m23_s0 p0)) (bde m39_s0 p1)) (bde m55_s0 p2)) (bde m72_s0 p3)) dT bT hc234_z68
    have c234_nn68 := s0_.nn
    obtain ⟨c234_nb78, c234_fi78⟩ := nar2 hc234_m70_s0
    have s1_ := EV_sub (x3_) (mx_le (mx_le (mx_le (mx_le bd0 (bde m23_s0 p0)) (bde m39_s0 p1)) (bde m55_s0 p2)) (bde m72_s0 p3)) dT bT hc234_z68_2
    have c234_nn68_2 := s1_.nn
    obtain ⟨c234_nb78_2, c234_fi78_2⟩ := nar2 hc234_m70_s0_2
    have s2_ := EV_sub (x3_) (mx_le (mx_le (mx_le (mx_le bd0 (bde m23_s0 p0)) (bde m39_s0 p1)) (bde m55_s0 p2)) (bde m72_s0 p3)) dT bT hc234_z68_3
    have c234_nn68_3 := s2_.nn
    obtain ⟨c234_nb78_3, c234_fi78_3⟩ := nar2 hc234_m70_s0_3
    have s3_ := EV_sub (x3_) (mx_le (mx_le (mx_le (mx_le bd0 (bde m23_s0 p0)) (bde m39_s0 p1)) (bde m55_s0 p2)) (bde m72_s0 p3)) dT bT hc234_z68_4
    have c234_nn68_4 := s3_.nn
    obtain ⟨c234_nb78_4, c234_fi78_4⟩ := nar2 hc234_m70_s0_4
    obtain ⟨_, _, ⟨T131, L131, k131, n131⟩, -, X131, ⟨Lc131, hQ131, ql131, qy131, qz131⟩, st131⟩ := Jvm.LawKit.callS X129 hx (y := (⟨"com/example/credal_choice/credalchoice/criteria/Choice", "nearLargest", "([DD)[Z"⟩ : MethodName)) hown (mvT hZ (hw _ (List.mem_of_getElem? (i := 4) rfl))) (mvT hZ (hw _ (List.mem_of_getElem? (i := 5) rfl))) (mvT hZ (hw _ (List.mem_of_getElem? (i := 6) rfl))) (mvT hZ (hw _ (List.mem_of_getElem? (i := 7) rfl))) (by decide) (backOf (W := 0) (rm1_4 l Z a0 hw [] b113 z233 k113 m148_s0 m171_s0 m194_s0 m217_s0 c234_z32 c234_z32_2 c234_z32_3 c234_z32_4 c234_z68 c234_z69 c234_m70_s0 c234_z68_2 c234_z69_2 c234_m70_s0_2 c234_z68_3 c234_z69_3 c234_m70_s0_3 c234_z68_4 c234_z69_4 c234_m70_s0_4 h129 n0 (Nat.le_trans (Nat.le_trans (Nat.le_trans (Nat.le_trans (Nat.le_trans (Nat.le_trans (Nat.le_trans (Nat.le_trans (Nat.le_trans (Nat.le_trans (Nat.le_trans (Nat.le_trans (Nat.le_trans (Nat.le_trans (Nat.le_trans Z0 E5.1) (Keep.of_wr W8).1) (Keep.of_wr W11).1) (Keep.of_wr W14).1) (Keep.of_wr W17).1) E19.1) (Keep.of_wr W22).1) (Keep.of_wr W25).1) (Keep.of_wr W28).1) (Keep.of_wr W31).1) E113.1) (Keep.of_wr W117).1) (Keep.of_wr W121).1) (Keep.of_wr W125).1) (Keep.of_wr W129).1) V129 hc234_z32 hc234_z32_2 hc234_z32_3 hc234_z32_4 hc234_z68 hc234_z69 hc234_m70_s0 hc234_z68_2 hc234_z69_2 hc234_m70_s0_2 hc234_z68_3 hc234_z69_3 hc234_m70_s0_3 hc234_z68_4 hc234_z69_4 hc234_m70_s0_4 c234_nm0_32 c234_nm1_32 c234_nm0_32_2 c234_nm1_32_2 c234_nm0_32_3 c234_nm1_32_3 c234_nm0_32_4 c234_nm1_32_4 c234_nn68 c234_nb78 c234_fi78 c234_nn68_2 c234_nb78_2 c234_fi78_2 c234_nn68_3 c234_nb78_3 c234_fi78_3 c234_nn68_4 c234_nb78_4 c234_fi78_4) hZ (hw _ (List.mem_of_getElem? (i := 7) rfl)) (hw _ (List.mem_of_getElem? (i := 6) rfl)) (by decide) (by decide)) (g := (mkF m 234 #[.val (.int p0), .val (.int p1), .val (.int p2), .val (.int p3), .val (.int p4), .val (.int p5), .val (.int (4 : Int32)), .val (.long z14), .second, .val (.int m23_s0), .val (.int m39_s0), .val (.int m55_s0), .val (.int m72_s0), .val (.ref b5), .val (.ref b19), .val (.ref b113), .unset] [(.double z233), (.ref b113)])) rfl (by rw [hml]; rfl) (argsL := [(.ref b113), (.double z233)]) (rest := []) (lenOf pd_2 rfl) rfl (by show 2 * 0 + _ ≤ _; exact Nat.le_of_eq rfl) (hb hby at_234) (fun _ _ => ⟨rfl, e129, (by decide : 3 + 1 ≤ _), (by decide : 12 + 4 ≤ _)⟩)
    dsimp only [Pt.U, Pt.locs, Pt.cells, Pt.slots] at X131 ql131 qy131 qz131 st131 hQ131
    subst ql131 qy131 qz131
    obtain ⟨rb131_b11, kk131_k11, rfl, N131q, gz131_b11, K131q, Q131_0⟩ := hQ131
    have N131 := Fr.app N129 N131q
    have gn131_b11 : n0 ≤ rb131_b11 := Nat.le_trans (Nat.le_trans (Nat.le_trans (Nat.le_trans (Nat.le_trans (Nat.le_trans (Nat.le_trans (Nat.le_trans (Nat.le_trans (Nat.le_trans (Nat.le_trans (Nat.le_trans (Nat.le_trans (Nat.le_trans (Nat.le_trans (Nat.le_trans Z0 E5.1) (Keep.of_wr W8).1) (Keep.of_wr W11).1) (Keep.of_wr W14).1) (Keep.of_wr W17).1) E19.1) (Keep.of_wr W22).1) (Keep.of_wr W25).1) (Keep.of_wr W28).1) (Keep.of_wr W31).1) E113.1) (Keep.of_wr W117).1) (Keep.of_wr W121).1) (Keep.of_wr W125).1) (Keep.of_wr W129).1) gz131_b11
    have gy131_b11 : h0.size ≤ rb131_b11 := Nat.le_trans (K130).1 gz131_b11
    have K132 : Keep h0 T131.heap [] := Keep.trans K130 K131q all0
    obtain ⟨cl133, Ar133, -, S133, Nn133, -, -⟩ := id Q131_0
    obtain ⟨cl134, Ar134, -, S134, -, Ha134, -⟩ := id Q131_0
    have in134 : ¬ ((0 : Int32) < 0 ∨ cl134.slots.size ≤ ((0 : Int32)).toNatClampNeg) := inb_of S134 ⟨by decide, by decide⟩
    have f135 := (((((((((((V17.ext E19).other W22 (Nat.ne_of_lt (Nat.lt_of_lt_of_le (V17).lt (Nat.le_of_eq g19.symm)))).other W25 (Nat.ne_of_lt (Nat.lt_of_lt_of_le (V17).lt (Nat.le_of_eq g19.symm)))).other W28 (Nat.ne_of_lt (Nat.lt_of_lt_of_le (V17).lt (Nat.le_of_eq g19.symm)))).other W31 (Nat.ne_of_lt (Nat.lt_of_lt_of_le (V17).lt (Nat.le_of_eq g19.symm)))).ext E113).other W117 (Nat.ne_of_lt (Nat.lt_of_lt_of_le ((((((V17.ext E19).other W22 (Nat.ne_of_lt (Nat.lt_of_lt_of_le (V17).lt (Nat.le_of_eq g19.symm)))).other W25 (Nat.ne_of_lt (Nat.lt_of_lt_of_le (V17).lt (Nat.le_of_eq g19.symm)))).other W28 (Nat.ne_of_lt (Nat.lt_of_lt_of_le (V17).lt (Nat.le_of_eq g19.symm)))).other W31 (Nat.ne_of_lt (Nat.lt_of_lt_of_le (V17).lt (Nat.le_of_eq g19.symm))))).lt (Nat.le_of_eq g113.symm)))).other W121 (Nat.ne_of_lt (Nat.lt_of_lt_of_le ((((((V17.ext E19).other W22 (Nat.ne_of_lt (Nat.lt_of_lt_of_le (V17).lt (Nat.le_of_eq g19.symm)))).other W25 (Nat.ne_of_lt (Nat.lt_of_lt_of_le (V17).lt (Nat.le_of_eq g19.symm)))).other W28 (Nat.ne_of_lt (Nat.lt_of_lt_of_le (V17).lt (Nat.le_of_eq g19.symm)))).other W31 (Nat.ne_of_lt (Nat.lt_of_lt_of_le (V17).lt (Nat.le_of_eq g19.symm))))).lt (Nat.le_of_eq g113.symm)))).other W125 (Nat.ne_of_lt (Nat.lt_of_lt_of_le ((((((V17.ext E19).other W22 (Nat.ne_of_lt (Nat.lt_of_lt_of_le (V17).lt (Nat.le_of_eq g19.symm)))).other W25 (Nat.ne_of_lt (Nat.lt_of_lt_of_le (V17).lt (Nat.le_of_eq g19.symm)))).other W28 (Nat.ne_of_lt (Nat.lt_of_lt_of_le (V17).lt (Nat.le_of_eq g19.symm)))).other W31 (Nat.ne_of_lt (Nat.lt_of_lt_of_le (V17).lt (Nat.le_of_eq g19.symm))))).lt (Nat.le_of_eq g113.symm)))).other W129 (Nat.ne_of_lt (Nat.lt_of_lt_of_le ((((((V17.ext E19).other W22 (Nat.ne_of_lt (Nat.lt_of_lt_of_le (V17).lt (Nat.le_of_eq g19.symm)))).other W25 (Nat.ne_of_lt (Nat.lt_of_lt_of_le (V17).lt (Nat.le_of_eq g19.symm)))).other W28 (Nat.ne_of_lt (Nat.lt_of_lt_of_le (V17).lt (Nat.le_of_eq g19.symm)))).other W31 (Nat.ne_of_lt (Nat.lt_of_lt_of_le (V17).lt (Nat.le_of_eq g19.symm))))).lt (Nat.le_of_eq g113.symm)))).keep K131q nin0)
    obtain ⟨cl136, Ar136, -, S136, -, Ha136, -⟩ := id f135
    have in136 : ¬ ((0 : Int32) < 0 ∨ cl136.slots.size ≤ ((0 : Int32)).toNatClampNeg) := inb_of S136 ⟨by decide, by decide⟩
    have f137 := ((((((V31.ext E113).other W117 (Nat.ne_of_lt (Nat.lt_of_lt_of_le (V31).lt (Nat.le_of_eq g113.symm)))).other W121 (Nat.ne_of_lt (Nat.lt_of_lt_of_le (V31).lt (Nat.le_of_eq g113.symm)))).other W125 (Nat.ne_of_lt (Nat.lt_of_lt_of_le (V31).lt (Nat.le_of_eq g113.symm)))).other W129 (Nat.ne_of_lt (Nat.lt_of_lt_of_le (V31).lt (Nat.le_of_eq g113.symm)))).keep K131q nin0)
    obtain ⟨cl138, Ar138, -, S138, -, Ha138, -⟩ := id f137
    have in138 : ¬ ((0 : Int32) < 0 ∨ cl138.slots.size ≤ ((0 : Int32)).toNatClampNeg) := inb_of S138 ⟨by decide, by decide⟩
    obtain ⟨_, _, ⟨T139, L139, k139, n139⟩, -, X139, ⟨Lc139, hQ139, ql139, qy139, qz139⟩, st139⟩ := Jvm.LawKit.callS X131 hx (y := (⟨"com/example/credal_choice/credalchoice/criteria/ChoiceNearLargestPinLaw", "near", "(JZ[J[ZIJ)Z"⟩ : MethodName)) hown (mvT hZ (hw _ (List.mem_of_getElem? (i := 13) rfl))) (mvT hZ (hw _ (List.mem_of_getElem? (i := 14) rfl))) (mvT hZ (hw _ (List.mem_of_getElem? (i := 15) rfl))) (mvT hZ (hw _ (List.mem_of_getElem? (i := 16) rfl))) (by decide) (backOf (W := 1) (rm3_4 l Z a0 hw [] z88 m23_s0 b5 b19 z14 k5 z88 z93 z98 z103 k19 m23_s0 m39_s0 m55_s0 m72_s0 c274_c16_z12 c274_c16_z14 c274_c16_rv c274_c39_z12 c274_c39_z14 c274_c39_rv c274_c62_z12 c274_c62_z14 c274_c62_rv c274_c85_z12 c274_c85_z14 c274_c85_rv c274_rv T131.heap n0 (Nat.le_trans (Nat.le_trans (Nat.le_trans (Nat.le_trans (Nat.le_trans (Nat.le_trans (Nat.le_trans (Nat.le_trans (Nat.le_trans (Nat.le_trans (Nat.le_trans (Nat.le_trans (Nat.le_trans (Nat.le_trans (Nat.le_trans (Nat.le_trans Z0 E5.1) (Keep.of_wr W8).1) (Keep.of_wr W11).1) (Keep.of_wr W14).1) (Keep.of_wr W17).1) E19.1) (Keep.of_wr W22).1) (Keep.of_wr W25).1) (Keep.of_wr W28).1) (Keep.of_wr W31).1) E113.1) (Keep.of_wr W117).1) (Keep.of_wr W121).1) (Keep.of_wr W125).1) (Keep.of_wr W129).1) K131q.1) f135 f137 hc274_c16_z12 hc274_c16_z14 hc274_c16_rv hc274_c39_z12 hc274_c39_z14 hc274_c39_rv hc274_c62_z12 hc274_c62_z14 hc274_c62_rv hc274_c85_z12 hc274_c85_z14 hc274_c85_rv hc274_rv) hZ (hw _ (List.mem_of_getElem? (i := 16) rfl)) (hw _ (List.mem_of_getElem? (i := 15) rfl)) (by decide) (by decide)) (g := (mkF m 274 #[.val (.int p0), .val (.int p1), .val (.int p2), .val (.int p3), .val (.int p4), .val (.int p5), .val (.int (4 : Int32)), .val (.long z14), .second, .val (.int m23_s0), .val (.int m39_s0), .val (.int m55_s0), .val (.int m72_s0), .val (.ref b5), .val (.ref b19), .val (.ref b113), .val (.ref rb131_b11)] [(.long z14), (.int (4 : Int32)), (.ref b19), (.ref b5), (.int m23_s0), (.long z88), (.int c234_m70_s0)])) rfl (by rw [hml]; rfl) (argsL := [(.long z88), (.int m23_s0), (.ref b5), (.ref b19), (.int (4 : Int32)), (.long z14)]) (rest := [(.int c234_m70_s0)]) (lenOf pd_3 rfl) rfl (by show 2 * 0 + _ ≤ _; exact Nat.le_of_eq rfl) (hb hby at_274) (fun _ _ => ⟨rfl, rfl, (by decide : 4 + 0 ≤ _), (by decide : 16 + 0 ≤ _)⟩)
    dsimp only [Pt.U, Pt.locs, Pt.cells, Pt.slots] at X139 ql139 qy139 qz139 st139 hQ139
    subst ql139 qy139 qz139
    obtain ⟨rfl, N139q, e139⟩ := hQ139
    have N139 := Fr.app N131 N139q
    have br277 : c234_m70_s0 = c274_rv := N4 (bt hz88 hz88 bT hc274_c16_z12 hc274_c16_z14 hc274_c16_rv) (bt hz88 hz93 bT hc274_c39_z12 hc274_c39_z14 hc274_c39_rv) (bt hz88 hz98 bT hc274_c62_z12 hc274_c62_z14 hc274_c62_rv) (bt hz88 hz103 bT hc274_c85_z12 hc274_c85_z14 hc274_c85_rv) (by simp only [lt_sub, lt_mx]; rfl) (last (EV_cmp e0_ s0_ hc234_z69) hc234_m70_s0) hc274_rv
    obtain ⟨cl140, Ar140, -, S140, -, Ha140, -⟩ := id Q131_0
    have in140 : ¬ ((1 : Int32) < 0 ∨ cl140.slots.size ≤ ((1 : Int32)).toNatClampNeg) := inb_of S140 ⟨by decide, by decide⟩
    obtain ⟨cl141, Ar141, -, S141, -, Ha141, -⟩ := id f135
    have in141 : ¬ ((1 : Int32) < 0 ∨ cl141.slots.size ≤ ((1 : Int32)).toNatClampNeg) := inb_of S141 ⟨by decide, by decide⟩
    obtain ⟨cl142, Ar142, -, S142, -, Ha142, -⟩ := id f137
    have in142 : ¬ ((1 : Int32) < 0 ∨ cl142.slots.size ≤ ((1 : Int32)).toNatClampNeg) := inb_of S142 ⟨by decide, by decide⟩
    obtain ⟨_, _, ⟨T143, L143, k143, n143⟩, -, X143, ⟨Lc143, hQ143, ql143, qy143, qz143⟩, st143⟩ := Jvm.LawKit.callS X139 hx (y := (⟨"com/example/credal_choice/credalchoice/criteria/ChoiceNearLargestPinLaw", "near", "(JZ[J[ZIJ)Z"⟩ : MethodName)) hown (mvT hZ (hw _ (List.mem_of_getElem? (i := 13) rfl))) (mvT hZ (hw _ (List.mem_of_getElem? (i := 14) rfl))) (mvT hZ (hw _ (List.mem_of_getElem? (i := 15) rfl))) (mvT hZ (hw _ (List.mem_of_getElem? (i := 16) rfl))) (by decide) (backOf (W := 1) (rm3_4 l Z a0 hw [] z93 m39_s0 b5 b19 z14 k5 z88 z93 z98 z103 k19 m23_s0 m39_s0 m55_s0 m72_s0 c308_c16_z12 c308_c16_z14 c308_c16_rv c308_c39_z12 c308_c39_z14 c308_c39_rv c308_c62_z12 c308_c62_z14 c308_c62_rv c308_c85_z12 c308_c85_z14 c308_c85_rv c308_rv T131.heap n0 (Nat.le_trans (Nat.le_trans (Nat.le_trans (Nat.le_trans (Nat.le_trans (Nat.le_trans (Nat.le_trans (Nat.le_trans (Nat.le_trans (Nat.le_trans (Nat.le_trans (Nat.le_trans (Nat.le_trans (Nat.le_trans (Nat.le_trans (Nat.le_trans Z0 E5.1) (Keep.of_wr W8).1) (Keep.of_wr W11).1) (Keep.of_wr W14).1) (Keep.of_wr W17).1) E19.1) (Keep.of_wr W22).1) (Keep.of_wr W25).1) (Keep.of_wr W28).1) (Keep.of_wr W31).1) E113.1) (Keep.of_wr W117).1) (Keep.of_wr W121).1) (Keep.of_wr W125).1) (Keep.of_wr W129).1) K131q.1) f135 f137 hc308_c16_z12 hc308_c16_z14 hc308_c16_rv hc308_c39_z12 hc308_c39_z14 hc308_c39_rv hc308_c62_z12 hc308_c62_z14 hc308_c62_rv hc308_c85_z12 hc308_c85_z14 hc308_c85_rv hc308_rv) hZ (hw _ (List.mem_of_getElem? (i := 16) rfl)) (hw _ (List.mem_of_getElem? (i := 15) rfl)) (by decide) (by decide)) (g := (mkF m 308 #[.val (.int p0), .val (.int p1), .val (.int p2), .val (.int p3), .val (.int p4), .val (.int p5), .val (.int (4 : Int32)), .val (.long z14), .second, .val (.int m23_s0), .val (.int m39_s0), .val (.int m55_s0), .val (.int m72_s0), .val (.ref b5), .val (.ref b19), .val (.ref b113), .val (.ref rb131_b11)] [(.long z14), (.int (4 : Int32)), (.ref b19), (.ref b5), (.int m39_s0), (.long z93), (.int c234_m70_s0_2)])) rfl (by rw [hml]; rfl) (argsL := [(.long z93), (.int m39_s0), (.ref b5), (.ref b19), (.int (4 : Int32)), (.long z14)]) (rest := [(.int c234_m70_s0_2)]) (lenOf pd_3 rfl) rfl (by show 2 * 0 + _ ≤ _; exact Nat.le_of_eq rfl) (hb hby at_308) (fun _ _ => ⟨rfl, e139, (by decide : 4 + 0 ≤ _), (by decide : 16 + 0 ≤ _)⟩)
    dsimp only [Pt.U, Pt.locs, Pt.cells, Pt.slots] at X143 ql143 qy143 qz143 st143 hQ143
    subst ql143 qy143 qz143
    obtain ⟨rfl, N143q, e143⟩ := hQ143
    have N143 := Fr.app N139 N143q
    have br311 : c234_m70_s0_2 = c308_rv := N4 (bt hz93 hz88 bT hc308_c16_z12 hc308_c16_z14 hc308_c16_rv) (bt hz93 hz93 bT hc308_c39_z12 hc308_c39_z14 hc308_c39_rv) (bt hz93 hz98 bT hc308_c62_z12 hc308_c62_z14 hc308_c62_rv) (bt hz93 hz103 bT hc308_c85_z12 hc308_c85_z14 hc308_c85_rv) (by simp only [lt_sub, lt_mx]; rfl) (last (EV_cmp e1_ s1_ hc234_z69_2) hc234_m70_s0_2) hc308_rv
    obtain ⟨cl144, Ar144, -, S144, -, Ha144, -⟩ := id Q131_0
    have in144 : ¬ ((2 : Int32) < 0 ∨ cl144.slots.size ≤ ((2 : Int32)).toNatClampNeg) := inb_of S144 ⟨by decide, by decide⟩
    obtain ⟨cl145, Ar145, -, S145, -, Ha145, -⟩ := id f135
    have in145 : ¬ ((2 : Int32) < 0 ∨ cl145.slots.size ≤ ((2 : Int32)).toNatClampNeg) := inb_of S145 ⟨by decide, by decide⟩
    obtain ⟨cl146, Ar146, -, S146, -, Ha146, -⟩ := id f137
    have in146 : ¬ ((2 : Int32) < 0 ∨ cl146.slots.size ≤ ((2 : Int32)).toNatClampNeg) := inb_of S146 ⟨by decide, by decide⟩
    obtain ⟨_, _, ⟨T147, L147, k147, n147⟩, -, X147, ⟨Lc147, hQ147, ql147, qy147, qz147⟩, st147⟩ := Jvm.LawKit.callS X143 hx (y := (⟨"com/example/credal_choice/credalchoice/criteria/ChoiceNearLargestPinLaw", "near", "(JZ[J[ZIJ)Z"⟩ : MethodName)) hown (mvT hZ (hw _ (List.mem_of_getElem? (i := 13) rfl))) (mvT hZ (hw _ (List.mem_of_getElem? (i := 14) rfl))) (mvT hZ (hw _ (List.mem_of_getElem? (i := 15) rfl))) (mvT hZ (hw _ (List.mem_of_getElem? (i := 16) rfl))) (by decide) (backOf (W := 1) (rm3_4 l Z a0 hw [] z98 m55_s0 b5 b19 z14 k5 z88 z93 z98 z103 k19 m23_s0 m39_s0 m55_s0 m72_s0 c342_c16_z12 c342_c16_z14 c342_c16_rv c342_c39_z12 c342_c39_z14 c342_c39_rv c342_c62_z12 c342_c62_z14 c342_c62_rv c342_c85_z12 c342_c85_z14 c342_c85_rv c342_rv T131.heap n0 (Nat.le_trans (Nat.le_trans (Nat.le_trans (Nat.le_trans (Nat.le_trans (Nat.le_trans (Nat.le_trans (Nat.le_trans (Nat.le_trans (Nat.le_trans (Nat.le_trans (Nat.le_trans (Nat.le_trans (Nat.le_trans (Nat.le_trans (Nat.le_trans Z0 E5.1) (Keep.of_wr W8).1) (Keep.of_wr W11).1) (Keep.of_wr W14).1) (Keep.of_wr W17).1) E19.1) (Keep.of_wr W22).1) (Keep.of_wr W25).1) (Keep.of_wr W28).1) (Keep.of_wr W31).1) E113.1) (Keep.of_wr W117).1) (Keep.of_wr W121).1) (Keep.of_wr W125).1) (Keep.of_wr W129).1) K131q.1) f135 f137 hc342_c16_z12 hc342_c16_z14 hc342_c16_rv hc342_c39_z12 hc342_c39_z14 hc342_c39_rv hc342_c62_z12 hc342_c62_z14 hc342_c62_rv hc342_c85_z12 hc342_c85_z14 hc342_c85_rv hc342_rv) hZ (hw _ (List.mem_of_getElem? (i := 16) rfl)) (hw _ (List.mem_of_getElem? (i := 15) rfl)) (by decide) (by decide)) (g := (mkF m 342 #[.val (.int p0), .val (.int p1), .val (.int p2), .val (.int p3), .val (.int p4), .val (.int p5), .val (.int (4 : Int32)), .val (.long z14), .second, .val (.int m23_s0), .val (.int m39_s0), .val (.int m55_s0), .val (.int m72_s0), .val (.ref b5), .val (.ref b19), .val (.ref b113), .val (.ref rb131_b11)] [(.long z14), (.int (4 : Int32)), (.ref b19), (.ref b5), (.int m55_s0), (.long z98), (.int c234_m70_s0_3)])) rfl (by rw [hml]; rfl) (argsL := [(.long z98), (.int m55_s0), (.ref b5), (.ref b19), (.int (4 : Int32)), (.long z14)]) (rest := [(.int c234_m70_s0_3)]) (lenOf pd_3 rfl) rfl (by show 2 * 0 + _ ≤ _; exact Nat.le_of_eq rfl) (hb hby at_342) (fun _ _ => ⟨rfl, e143, (by decide : 4 + 0 ≤ _), (by decide : 16 + 0 ≤ _)⟩)
    dsimp only [Pt.U, Pt.locs, Pt.cells, Pt.slots] at X147 ql147 qy147 qz147 st147 hQ147
    subst ql147 qy147 qz147
    obtain ⟨rfl, N147q, e147⟩ := hQ147
    have N147 := Fr.app N143 N147q
    have br345 : c234_m70_s0_3 = c342_rv := N4 (bt hz98 hz88 bT hc342_c16_z12 hc342_c16_z14 hc342_c16_rv) (bt hz98 hz93 bT hc342_c39_z12 hc342_c39_z14 hc342_c39_rv) (bt hz98 hz98 bT hc342_c62_z12 hc342_c62_z14 hc342_c62_rv) (bt hz98 hz103 bT hc342_c85_z12 hc342_c85_z14 hc342_c85_rv) (by simp only [lt_sub, lt_mx]; rfl) (last (EV_cmp e2_ s2_ hc234_z69_3) hc234_m70_s0_3) hc342_rv
    obtain ⟨cl148, Ar148, -, S148, -, Ha148, -⟩ := id Q131_0
    have in148 : ¬ ((3 : Int32) < 0 ∨ cl148.slots.size ≤ ((3 : Int32)).toNatClampNeg) := inb_of S148 ⟨by decide, by decide⟩
    obtain ⟨cl149, Ar149, -, S149, -, Ha149, -⟩ := id f135
    have in149 : ¬ ((3 : Int32) < 0 ∨ cl149.slots.size ≤ ((3 : Int32)).toNatClampNeg) := inb_of S149 ⟨by decide, by decide⟩
    obtain ⟨cl150, Ar150, -, S150, -, Ha150, -⟩ := id f137
    have in150 : ¬ ((3 : Int32) < 0 ∨ cl150.slots.size ≤ ((3 : Int32)).toNatClampNeg) := inb_of S150 ⟨by decide, by decide⟩
    obtain ⟨_, _, ⟨T151, L151, k151, n151⟩, -, X151, ⟨Lc151, hQ151, ql151, qy151, qz151⟩, st151⟩ := Jvm.LawKit.callS X147 hx (y := (⟨"com/example/credal_choice/credalchoice/criteria/ChoiceNearLargestPinLaw", "near", "(JZ[J[ZIJ)Z"⟩ : MethodName)) hown (mvT hZ (hw _ (List.mem_of_getElem? (i := 13) rfl))) (mvT hZ (hw _ (List.mem_of_getElem? (i := 14) rfl))) (mvT hZ (hw _ (List.mem_of_getElem? (i := 15) rfl))) (mvT hZ (hw _ (List.mem_of_getElem? (i := 16) rfl))) (by decide) (backOf (W := 1) (rm3_4 l Z a0 hw [] z103 m72_s0 b5 b19 z14 k5 z88 z93 z98 z103 k19 m23_s0 m39_s0 m55_s0 m72_s0 c376_c16_z12 c376_c16_z14 c376_c16_rv c376_c39_z12 c376_c39_z14 c376_c39_rv c376_c62_z12 c376_c62_z14 c376_c62_rv c376_c85_z12 c376_c85_z14 c376_c85_rv c376_rv T131.heap n0 (Nat.le_trans (Nat.le_trans (Nat.le_trans (Nat.le_trans (Nat.le_trans (Nat.le_trans (Nat.le_trans (Nat.le_trans (Nat.le_trans (Nat.le_trans (Nat.le_trans (Nat.le_trans (Nat.le_trans (Nat.le_trans (Nat.le_trans (Nat.le_trans Z0 E5.1) (Keep.of_wr W8).1) (Keep.of_wr W11).1) (Keep.of_wr W14).1) (Keep.of_wr W17).1) E19.1) (Keep.of_wr W22).1) (Keep.of_wr W25).1) (Keep.of_wr W28).1) (Keep.of_wr W31).1) E113.1) (Keep.of_wr W117).1) (Keep.of_wr W121).1) (Keep.of_wr W125).1) (Keep.of_wr W129).1) K131q.1) f135 f137 hc376_c16_z12 hc376_c16_z14 hc376_c16_rv hc376_c39_z12 hc376_c39_z14 hc376_c39_rv hc376_c62_z12 hc376_c62_z14 hc376_c62_rv hc376_c85_z12 hc376_c85_z14 hc376_c85_rv hc376_rv) hZ (hw _ (List.mem_of_getElem? (i := 16) rfl)) (hw _ (List.mem_of_getElem? (i := 15) rfl)) (by decide) (by decide)) (g := (mkF m 376 #[.val (.int p0), .val (.int p1), .val (.int p2), .val (.int p3), .val (.int p4), .val (.int p5), .val (.int (4 : Int32)), .val (.long z14), .second, .val (.int m23_s0), .val (.int m39_s0), .val (.int m55_s0), .val (.int m72_s0), .val (.ref b5), .val (.ref b19), .val (.ref b113), .val (.ref rb131_b11)] [(.long z14), (.int (4 : Int32)), (.ref b19), (.ref b5), (.int m72_s0), (.long z103), (.int c234_m70_s0_4)])) rfl (by rw [hml]; rfl) (argsL := [(.long z103), (.int m72_s0), (.ref b5), (.ref b19), (.int (4 : Int32)), (.long z14)]) (rest := [(.int c234_m70_s0_4)]) (lenOf pd_3 rfl) rfl (by show 2 * 0 + _ ≤ _; exact Nat.le_of_eq rfl) (hb hby at_376) (fun _ _ => ⟨rfl, e147, (by decide : 4 + 0 ≤ _), (by decide : 16 + 0 ≤ _)⟩)
    dsimp only [Pt.U, Pt.locs, Pt.cells, Pt.slots] at X151 ql151 qy151 qz151 st151 hQ151
    subst ql151 qy151 qz151
    obtain ⟨rfl, N151q, e151⟩ := hQ151
    have N151 := Fr.app N147 N151q
    have br379 : c234_m70_s0_4 = c376_rv := N4 (bt hz103 hz88 bT hc376_c16_z12 hc376_c16_z14 hc376_c16_rv) (bt hz103 hz93 bT hc376_c39_z12 hc376_c39_z14 hc376_c39_rv) (bt hz103 hz98 bT hc376_c62_z12 hc376_c62_z14 hc376_c62_rv) (bt hz103 hz103 bT hc376_c85_z12 hc376_c85_z14 hc376_c85_rv) (by simp only [lt_sub, lt_mx]; rfl) (last (EV_cmp e3_ s3_ hc234_z69_4) hc234_m70_s0_4) hc376_rv
    have c152 : ∀ t, Steps p.tables e below (T151.setTop (mkF m 385 #[.val (.int p0), .val (.int p1), .val (.int p2), .val (.int p3), .val (.int p4), .val (.int p5), .val (.int (4 : Int32)), .val (.long z14), .second, .val (.int m23_s0), .val (.int m39_s0), .val (.int m55_s0), .val (.int m72_s0), .val (.ref b5), .val (.ref b19), .val (.ref b113), .val (.ref rb131_b11)] [(.int (1 : Int32))])) t → Steps p.tables e below (s₁.setTop (entryFrame m #[(.int p0), (.int p1), (.int p2), (.int p3), (.int p4), (.int p5)] maxLocals)) t := by
      intro t k
      refine c127 t ?_
      show Steps p.tables e below (T125.setTop (mkF m 228 #[.val (.int p0), .val (.int p1), .val (.int p2), .val (.int p3), .val (.int p4), .val (.int p5), .val (.int (4 : Int32)), .val (.long z14), .second, .val (.int m23_s0), .val (.int m39_s0), .val (.int m55_s0), .val (.int m72_s0), .val (.ref b5), .val (.ref b19), .val (.ref b113), .unset] [(.double m217_s0), (.int (3 : Int32)), (.ref b113)])) _
      refine st129 _ ?_
      show Steps p.tables e below (T129.setTop (mkF m 229 #[.val (.int p0), .val (.int p1), .val (.int p2), .val (.int p3), .val (.int p4), .val (.int p5), .val (.int (4 : Int32)), .val (.long z14), .second, .val (.int m23_s0), .val (.int m39_s0), .val (.int m55_s0), .val (.int m72_s0), .val (.ref b5), .val (.ref b19), .val (.ref b113), .unset] [])) _
      refine XS.aload X129.here hx rfl (hb hby at_229) rfl rfl ?_
      show Steps p.tables e below (T129.setTop (mkF m 231 #[.val (.int p0), .val (.int p1), .val (.int p2), .val (.int p3), .val (.int p4), .val (.int p5), .val (.int (4 : Int32)), .val (.long z14), .second, .val (.int m23_s0), .val (.int m39_s0), .val (.int m55_s0), .val (.int m72_s0), .val (.ref b5), .val (.ref b19), .val (.ref b113), .unset] [(.ref b113)])) _
      refine XS.lload X129.here hx rfl (hb hby at_231) rfl ?_
      show Steps p.tables e below (T129.setTop (mkF m 233 #[.val (.int p0), .val (.int p1), .val (.int p2), .val (.int p3), .val (.int p4), .val (.int p5), .val (.int (4 : Int32)), .val (.long z14), .second, .val (.int m23_s0), .val (.int m39_s0), .val (.int m55_s0), .val (.int m72_s0), .val (.ref b5), .val (.ref b19), .val (.ref b113), .unset] [(.long z14), (.ref b113)])) _
      refine XS.l2dS X129.here hx rfl (hb hby at_233) rfl hz233 ?_
      show Steps p.tables e below (T129.setTop (mkF m 234 #[.val (.int p0), .val (.int p1), .val (.int p2), .val (.int p3), .val (.int p4), .val (.int p5), .val (.int (4 : Int32)), .val (.long z14), .second, .val (.int m23_s0), .val (.int m39_s0), .val (.int m55_s0), .val (.int m72_s0), .val (.ref b5), .val (.ref b19), .val (.ref b113), .unset] [(.double z233), (.ref b113)])) _
      refine st131 _ ?_
      show Steps p.tables e below (T131.setTop (mkF m 237 #[.val (.int p0), .val (.int p1), .val (.int p2), .val (.int p3), .val (.int p4), .val (.int p5), .val (.int (4 : Int32)), .val (.long z14), .second, .val (.int m23_s0), .val (.int m39_s0), .val (.int m55_s0), .val (.int m72_s0), .val (.ref b5), .val (.ref b19), .val (.ref b113), .unset] [(.ref rb131_b11)])) _
      refine XS.astore X131.here hx rfl (hb hby at_237) rfl rfl (l' := #[.val (.int p0), .val (.int p1), .val (.int p2), .val (.int p3), .val (.int p4), .val (.int p5), .val (.int (4 : Int32)), .val (.long z14), .second, .val (.int m23_s0), .val (.int m39_s0), .val (.int m55_s0), .val (.int m72_s0), .val (.ref b5), .val (.ref b19), .val (.ref b113), .val (.ref rb131_b11)]) rfl ?_
      show Steps p.tables e below (T131.setTop (mkF m 239 #[.val (.int p0), .val (.int p1), .val (.int p2), .val (.int p3), .val (.int p4), .val (.int p5), .val (.int (4 : Int32)), .val (.long z14), .second, .val (.int m23_s0), .val (.int m39_s0), .val (.int m55_s0), .val (.int m72_s0), .val (.ref b5), .val (.ref b19), .val (.ref b113), .val (.ref rb131_b11)] [])) _
      refine XS.aload X131.here hx rfl (hb hby at_239) rfl rfl ?_
      show Steps p.tables e below (T131.setTop (mkF m 241 #[.val (.int p0), .val (.int p1), .val (.int p2), .val (.int p3), .val (.int p4), .val (.int p5), .val (.int (4 : Int32)), .val (.long z14), .second, .val (.int m23_s0), .val (.int m39_s0), .val (.int m55_s0), .val (.int m72_s0), .val (.ref b5), .val (.ref b19), .val (.ref b113), .val (.ref rb131_b11)] [(.ref rb131_b11)])) _
      refine X131.arraylength hx Ar133.1 (State.isArrayOf_alike hZ.alike Ar133.2.1) (g := (mkF m 241 #[.val (.int p0), .val (.int p1), .val (.int p2), .val (.int p3), .val (.int p4), .val (.int p5), .val (.int (4 : Int32)), .val (.long z14), .second, .val (.int m23_s0), .val (.int m39_s0), .val (.int m55_s0), .val (.int m72_s0), .val (.ref b5), .val (.ref b19), .val (.ref b113), .val (.ref rb131_b11)] [(.ref rb131_b11)])) rfl rfl (hb hby at_241) _ ?_
      rw [len_of S133 Nn133]
      show Steps p.tables e below (T131.setTop (mkF m 242 #[.val (.int p0), .val (.int p1), .val (.int p2), .val (.int p3), .val (.int p4), .val (.int p5), .val (.int (4 : Int32)), .val (.long z14), .second, .val (.int m23_s0), .val (.int m39_s0), .val (.int m55_s0), .val (.int m72_s0), .val (.ref b5), .val (.ref b19), .val (.ref b113), .val (.ref rb131_b11)] [(.int (4 : Int32))])) _
      refine XS.iload X131.here hx rfl (hb hby at_242) rfl ?_
      show Steps p.tables e below (T131.setTop (mkF m 244 #[.val (.int p0), .val (.int p1), .val (.int p2), .val (.int p3), .val (.int p4), .val (.int p5), .val (.int (4 : Int32)), .val (.long z14), .second, .val (.int m23_s0), .val (.int m39_s0), .val (.int m55_s0), .val (.int m72_s0), .val (.ref b5), .val (.ref b19), .val (.ref b113), .val (.ref rb131_b11)] [(.int (4 : Int32)), (.int (4 : Int32))])) _
      refine XS.icmpYes X131.here hx rfl (pc0 := 244) (pc' := 249) rfl (hb hby at_244) rfl (Jvm.Free.XT.ii_eq_t (by decide)) (by decide) (by decide) ?_
      show Steps p.tables e below (T131.setTop (mkF m 249 #[.val (.int p0), .val (.int p1), .val (.int p2), .val (.int p3), .val (.int p4), .val (.int p5), .val (.int (4 : Int32)), .val (.long z14), .second, .val (.int m23_s0), .val (.int m39_s0), .val (.int m55_s0), .val (.int m72_s0), .val (.ref b5), .val (.ref b19), .val (.ref b113), .val (.ref rb131_b11)] [])) _
      refine XS.iload X131.here hx rfl (hb hby at_249) rfl ?_
      show Steps p.tables e below (T131.setTop (mkF m 251 #[.val (.int p0), .val (.int p1), .val (.int p2), .val (.int p3), .val (.int p4), .val (.int p5), .val (.int (4 : Int32)), .val (.long z14), .second, .val (.int m23_s0), .val (.int m39_s0), .val (.int m55_s0), .val (.int m72_s0), .val (.ref b5), .val (.ref b19), .val (.ref b113), .val (.ref rb131_b11)] [(.int (4 : Int32))])) _
      refine XS.ifNo X131.here hx rfl (hb hby at_251) rfl (Jvm.Free.XT.i0_le_f (by decide)) ?_
      show Steps p.tables e below (T131.setTop (mkF m 254 #[.val (.int p0), .val (.int p1), .val (.int p2), .val (.int p3), .val (.int p4), .val (.int p5), .val (.int (4 : Int32)), .val (.long z14), .second, .val (.int m23_s0), .val (.int m39_s0), .val (.int m55_s0), .val (.int m72_s0), .val (.ref b5), .val (.ref b19), .val (.ref b113), .val (.ref rb131_b11)] [])) _
      refine XS.aload X131.here hx rfl (hb hby at_254) rfl rfl ?_
      show Steps p.tables e below (T131.setTop (mkF m 256 #[.val (.int p0), .val (.int p1), .val (.int p2), .val (.int p3), .val (.int p4), .val (.int p5), .val (.int (4 : Int32)), .val (.long z14), .second, .val (.int m23_s0), .val (.int m39_s0), .val (.int m55_s0), .val (.int m72_s0), .val (.ref b5), .val (.ref b19), .val (.ref b113), .val (.ref rb131_b11)] [(.ref rb131_b11)])) _
      refine XS.iconst X131.here hx rfl (hb hby at_256) ?_
      show Steps p.tables e below (T131.setTop (mkF m 257 #[.val (.int p0), .val (.int p1), .val (.int p2), .val (.int p3), .val (.int p4), .val (.int p5), .val (.int (4 : Int32)), .val (.long z14), .second, .val (.int m23_s0), .val (.int m39_s0), .val (.int m55_s0), .val (.int m72_s0), .val (.ref b5), .val (.ref b19), .val (.ref b113), .val (.ref rb131_b11)] [(.int (0 : Int32)), (.ref rb131_b11)])) _
      refine X131.baloadBooleans hx (j := (0 : Int32)) (v := (.int c234_m70_s0)) Ar134.1 (State.isArrayOf_alike hZ.alike Ar134.2.1) Ar134.2.2 in134 (Has.at Ha134 in134 rfl) (g := (mkF m 257 #[.val (.int p0), .val (.int p1), .val (.int p2), .val (.int p3), .val (.int p4), .val (.int p5), .val (.int (4 : Int32)), .val (.long z14), .second, .val (.int m23_s0), .val (.int m39_s0), .val (.int m55_s0), .val (.int m72_s0), .val (.ref b5), .val (.ref b19), .val (.ref b113), .val (.ref rb131_b11)] [(.int (0 : Int32)), (.ref rb131_b11)])) rfl rfl (hb hby at_257) _ ?_
      show Steps p.tables e below (T131.setTop (mkF m 258 #[.val (.int p0), .val (.int p1), .val (.int p2), .val (.int p3), .val (.int p4), .val (.int p5), .val (.int (4 : Int32)), .val (.long z14), .second, .val (.int m23_s0), .val (.int m39_s0), .val (.int m55_s0), .val (.int m72_s0), .val (.ref b5), .val (.ref b19), .val (.ref b113), .val (.ref rb131_b11)] [(.int c234_m70_s0)])) _
      refine XS.aload X131.here hx rfl (hb hby at_258) rfl rfl ?_
      show Steps p.tables e below (T131.setTop (mkF m 260 #[.val (.int p0), .val (.int p1), .val (.int p2), .val (.int p3), .val (.int p4), .val (.int p5), .val (.int (4 : Int32)), .val (.long z14), .second, .val (.int m23_s0), .val (.int m39_s0), .val (.int m55_s0), .val (.int m72_s0), .val (.ref b5), .val (.ref b19), .val (.ref b113), .val (.ref rb131_b11)] [(.ref b5), (.int c234_m70_s0)])) _
      refine XS.iconst X131.here hx rfl (hb hby at_260) ?_
      show Steps p.tables e below (T131.setTop (mkF m 261 #[.val (.int p0), .val (.int p1), .val (.int p2), .val (.int p3), .val (.int p4), .val (.int p5), .val (.int (4 : Int32)), .val (.long z14), .second, .val (.int m23_s0), .val (.int m39_s0), .val (.int m55_s0), .val (.int m72_s0), .val (.ref b5), .val (.ref b19), .val (.ref b113), .val (.ref rb131_b11)] [(.int (0 : Int32)), (.ref b5), (.int c234_m70_s0)])) _
      refine X131.laload hx (j := (0 : Int32)) (v := (.long z88)) Ar136.1 (State.isArrayOf_alike hZ.alike Ar136.2.1) Ar136.2.2 in136 (Has.at Ha136 in136 rfl) (g := (mkF m 261 #[.val (.int p0), .val (.int p1), .val (.int p2), .val (.int p3), .val (.int p4), .val (.int p5), .val (.int (4 : Int32)), .val (.long z14), .second, .val (.int m23_s0), .val (.int m39_s0), .val (.int m55_s0), .val (.int m72_s0), .val (.ref b5), .val (.ref b19), .val (.ref b113), .val (.ref rb131_b11)] [(.int (0 : Int32)), (.ref b5), (.int c234_m70_s0)])) rfl rfl (hb hby at_261) _ ?_
      show Steps p.tables e below (T131.setTop (mkF m 262 #[.val (.int p0), .val (.int p1), .val (.int p2), .val (.int p3), .val (.int p4), .val (.int p5), .val (.int (4 : Int32)), .val (.long z14), .second, .val (.int m23_s0), .val (.int m39_s0), .val (.int m55_s0), .val (.int m72_s0), .val (.ref b5), .val (.ref b19), .val (.ref b113), .val (.ref rb131_b11)] [(.long z88), (.int c234_m70_s0)])) _
      refine XS.aload X131.here hx rfl (hb hby at_262) rfl rfl ?_
      show Steps p.tables e below (T131.setTop (mkF m 264 #[.val (.int p0), .val (.int p1), .val (.int p2), .val (.int p3), .val (.int p4), .val (.int p5), .val (.int (4 : Int32)), .val (.long z14), .second, .val (.int m23_s0), .val (.int m39_s0), .val (.int m55_s0), .val (.int m72_s0), .val (.ref b5), .val (.ref b19), .val (.ref b113), .val (.ref rb131_b11)] [(.ref b19), (.long z88), (.int c234_m70_s0)])) _
      refine XS.iconst X131.here hx rfl (hb hby at_264) ?_
      show Steps p.tables e below (T131.setTop (mkF m 265 #[.val (.int p0), .val (.int p1), .val (.int p2), .val (.int p3), .val (.int p4), .val (.int p5), .val (.int (4 : Int32)), .val (.long z14), .second, .val (.int m23_s0), .val (.int m39_s0), .val (.int m55_s0), .val (.int m72_s0), .val (.ref b5), .val (.ref b19), .val (.ref b113), .val (.ref rb131_b11)] [(.int (0 : Int32)), (.ref b19), (.long z88), (.int c234_m70_s0)])) _
      refine X131.baloadBooleans hx (j := (0 : Int32)) (v := (.int m23_s0)) Ar138.1 (State.isArrayOf_alike hZ.alike Ar138.2.1) Ar138.2.2 in138 (Has.at Ha138 in138 rfl) (g := (mkF m 265 #[.val (.int p0), .val (.int p1), .val (.int p2), .val (.int p3), .val (.int p4), .val (.int p5), .val (.int (4 : Int32)), .val (.long z14), .second, .val (.int m23_s0), .val (.int m39_s0), .val (.int m55_s0), .val (.int m72_s0), .val (.ref b5), .val (.ref b19), .val (.ref b113), .val (.ref rb131_b11)] [(.int (0 : Int32)), (.ref b19), (.long z88), (.int c234_m70_s0)])) rfl rfl (hb hby at_265) _ ?_
      show Steps p.tables e below (T131.setTop (mkF m 266 #[.val (.int p0), .val (.int p1), .val (.int p2), .val (.int p3), .val (.int p4), .val (.int p5), .val (.int (4 : Int32)), .val (.long z14), .second, .val (.int m23_s0), .val (.int m39_s0), .val (.int m55_s0), .val (.int m72_s0), .val (.ref b5), .val (.ref b19), .val (.ref b113), .val (.ref rb131_b11)] [(.int m23_s0), (.long z88), (.int c234_m70_s0)])) _
      refine XS.aload X131.here hx rfl (hb hby at_266) rfl rfl ?_
      show Steps p.tables e below (T131.setTop (mkF m 268 #[.val (.int p0), .val (.int p1), .val (.int p2), .val (.int p3), .val (.int p4), .val (.int p5), .val (.int (4 : Int32)), .val (.long z14), .second, .val (.int m23_s0), .val (.int m39_s0), .val (.int m55_s0), .val (.int m72_s0), .val (.ref b5), .val (.ref b19), .val (.ref b113), .val (.ref rb131_b11)] [(.ref b5), (.int m23_s0), (.long z88), (.int c234_m70_s0)])) _
      refine XS.aload X131.here hx rfl (hb hby at_268) rfl rfl ?_
      show Steps p.tables e below (T131.setTop (mkF m 270 #[.val (.int p0), .val (.int p1), .val (.int p2), .val (.int p3), .val (.int p4), .val (.int p5), .val (.int (4 : Int32)), .val (.long z14), .second, .val (.int m23_s0), .val (.int m39_s0), .val (.int m55_s0), .val (.int m72_s0), .val (.ref b5), .val (.ref b19), .val (.ref b113), .val (.ref rb131_b11)] [(.ref b19), (.ref b5), (.int m23_s0), (.long z88), (.int c234_m70_s0)])) _
      refine XS.iload X131.here hx rfl (hb hby at_270) rfl ?_
      show Steps p.tables e below (T131.setTop (mkF m 272 #[.val (.int p0), .val (.int p1), .val (.int p2), .val (.int p3), .val (.int p4), .val (.int p5), .val (.int (4 : Int32)), .val (.long z14), .second, .val (.int m23_s0), .val (.int m39_s0), .val (.int m55_s0), .val (.int m72_s0), .val (.ref b5), .val (.ref b19), .val (.ref b113), .val (.ref rb131_b11)] [(.int (4 : Int32)), (.ref b19), (.ref b5), (.int m23_s0), (.long z88), (.int c234_m70_s0)])) _
      refine XS.lload X131.here hx rfl (hb hby at_272) rfl ?_
      show Steps p.tables e below (T131.setTop (mkF m 274 #[.val (.int p0), .val (.int p1), .val (.int p2), .val (.int p3), .val (.int p4), .val (.int p5), .val (.int (4 : Int32)), .val (.long z14), .second, .val (.int m23_s0), .val (.int m39_s0), .val (.int m55_s0), .val (.int m72_s0), .val (.ref b5), .val (.ref b19), .val (.ref b113), .val (.ref rb131_b11)] [(.long z14), (.int (4 : Int32)), (.ref b19), (.ref b5), (.int m23_s0), (.long z88), (.int c234_m70_s0)])) _
      refine st139 _ ?_
      show Steps p.tables e below (T139.setTop (mkF m 277 #[.val (.int p0), .val (.int p1), .val (.int p2), .val (.int p3), .val (.int p4), .val (.int p5), .val (.int (4 : Int32)), .val (.long z14), .second, .val (.int m23_s0), .val (.int m39_s0), .val (.int m55_s0), .val (.int m72_s0), .val (.ref b5), .val (.ref b19), .val (.ref b113), .val (.ref rb131_b11)] [(.int c274_rv), (.int c234_m70_s0)])) _
      refine XS.icmpYes X139.here hx rfl (pc0 := 277) (pc' := 282) rfl (hb hby at_277) rfl (Jvm.Free.XT.ii_eq_t br277) (by decide) (by decide) ?_
      show Steps p.tables e below (T139.setTop (mkF m 282 #[.val (.int p0), .val (.int p1), .val (.int p2), .val (.int p3), .val (.int p4), .val (.int p5), .val (.int (4 : Int32)), .val (.long z14), .second, .val (.int m23_s0), .val (.int m39_s0), .val (.int m55_s0), .val (.int m72_s0), .val (.ref b5), .val (.ref b19), .val (.ref b113), .val (.ref rb131_b11)] [])) _
      refine XS.iload X139.here hx rfl (hb hby at_282) rfl ?_
      show Steps p.tables e below (T139.setTop (mkF m 284 #[.val (.int p0), .val (.int p1), .val (.int p2), .val (.int p3), .val (.int p4), .val (.int p5), .val (.int (4 : Int32)), .val (.long z14), .second, .val (.int m23_s0), .val (.int m39_s0), .val (.int m55_s0), .val (.int m72_s0), .val (.ref b5), .val (.ref b19), .val (.ref b113), .val (.ref rb131_b11)] [(.int (4 : Int32))])) _
      refine XS.iconst X139.here hx rfl (hb hby at_284) ?_
      show Steps p.tables e below (T139.setTop (mkF m 285 #[.val (.int p0), .val (.int p1), .val (.int p2), .val (.int p3), .val (.int p4), .val (.int p5), .val (.int (4 : Int32)), .val (.long z14), .second, .val (.int m23_s0), .val (.int m39_s0), .val (.int m55_s0), .val (.int m72_s0), .val (.ref b5), .val (.ref b19), .val (.ref b113), .val (.ref rb131_b11)] [(.int (1 : Int32)), (.int (4 : Int32))])) _
      refine XS.icmpNo X139.here hx rfl (hb hby at_285) rfl (Jvm.Free.XT.ii_le_f (by decide)) ?_
      show Steps p.tables e below (T139.setTop (mkF m 288 #[.val (.int p0), .val (.int p1), .val (.int p2), .val (.int p3), .val (.int p4), .val (.int p5), .val (.int (4 : Int32)), .val (.long z14), .second, .val (.int m23_s0), .val (.int m39_s0), .val (.int m55_s0), .val (.int m72_s0), .val (.ref b5), .val (.ref b19), .val (.ref b113), .val (.ref rb131_b11)] [])) _
      refine XS.aload X139.here hx rfl (hb hby at_288) rfl rfl ?_
      show Steps p.tables e below (T139.setTop (mkF m 290 #[.val (.int p0), .val (.int p1), .val (.int p2), .val (.int p3), .val (.int p4), .val (.int p5), .val (.int (4 : Int32)), .val (.long z14), .second, .val (.int m23_s0), .val (.int m39_s0), .val (.int m55_s0), .val (.int m72_s0), .val (.ref b5), .val (.ref b19), .val (.ref b113), .val (.ref rb131_b11)] [(.ref rb131_b11)])) _
      refine XS.iconst X139.here hx rfl (hb hby at_290) ?_
      show Steps p.tables e below (T139.setTop (mkF m 291 #[.val (.int p0), .val (.int p1), .val (.int p2), .val (.int p3), .val (.int p4), .val (.int p5), .val (.int (4 : Int32)), .val (.long z14), .second, .val (.int m23_s0), .val (.int m39_s0), .val (.int m55_s0), .val (.int m72_s0), .val (.ref b5), .val (.ref b19), .val (.ref b113), .val (.ref rb131_b11)] [(.int (1 : Int32)), (.ref rb131_b11)])) _
      refine X139.baloadBooleans hx (j := (1 : Int32)) (v := (.int c234_m70_s0_2)) (by rw [e139]; exact Ar140.1) (State.isArrayOf_alike hZ.alike Ar140.2.1) Ar140.2.2 in140 (Has.at Ha140 in140 rfl) (g := (mkF m 291 #[.val (.int p0), .val (.int p1), .val (.int p2), .val (.int p3), .val (.int p4), .val (.int p5), .val (.int (4 : Int32)), .val (.long z14), .second, .val (.int m23_s0), .val (.int m39_s0), .val (.int m55_s0), .val (.int m72_s0), .val (.ref b5), .val (.ref b19), .val (.ref b113), .val (.ref rb131_b11)] [(.int (1 : Int32)), (.ref rb131_b11)])) rfl rfl (hb hby at_291) _ ?_
      show Steps p.tables e below (T139.setTop (mkF m 292 #[.val (.int p0), .val (.int p1), .val (.int p2), .val (.int p3), .val (.int p4), .val (.int p5), .val (.int (4 : Int32)), .val (.long z14), .second, .val (.int m23_s0), .val (.int m39_s0), .val (.int m55_s0), .val (.int m72_s0), .val (.ref b5), .val (.ref b19), .val (.ref b113), .val (.ref rb131_b11)] [(.int c234_m70_s0_2)])) _
      refine XS.aload X139.here hx rfl (hb hby at_292) rfl rfl ?_
      show Steps p.tables e below (T139.setTop (mkF m 294 #[.val (.int p0), .val (.int p1), .val (.int p2), .val (.int p3), .val (.int p4), .val (.int p5), .val (.int (4 : Int32)), .val (.long z14), .second, .val (.int m23_s0), .val (.int m39_s0), .val (.int m55_s0), .val (.int m72_s0), .val (.ref b5), .val (.ref b19), .val (.ref b113), .val (.ref rb131_b11)] [(.ref b5), (.int c234_m70_s0_2)])) _
      refine XS.iconst X139.here hx rfl (hb hby at_294) ?_
      show Steps p.tables e below (T139.setTop (mkF m 295 #[.val (.int p0), .val (.int p1), .val (.int p2), .val (.int p3), .val (.int p4), .val (.int p5), .val (.int (4 : Int32)), .val (.long z14), .second, .val (.int m23_s0), .val (.int m39_s0), .val (.int m55_s0), .val (.int m72_s0), .val (.ref b5), .val (.ref b19), .val (.ref b113), .val (.ref rb131_b11)] [(.int (1 : Int32)), (.ref b5), (.int c234_m70_s0_2)])) _
      refine X139.laload hx (j := (1 : Int32)) (v := (.long z93)) (by rw [e139]; exact Ar141.1) (State.isArrayOf_alike hZ.alike Ar141.2.1) Ar141.2.2 in141 (Has.at Ha141 in141 rfl) (g := (mkF m 295 #[.val (.int p0), .val (.int p1), .val (.int p2), .val (.int p3), .val (.int p4), .val (.int p5), .val (.int (4 : Int32)), .val (.long z14), .second, .val (.int m23_s0), .val (.int m39_s0), .val (.int m55_s0), .val (.int m72_s0), .val (.ref b5), .val (.ref b19), .val (.ref b113), .val (.ref rb131_b11)] [(.int (1 : Int32)), (.ref b5), (.int c234_m70_s0_2)])) rfl rfl (hb hby at_295) _ ?_
      show Steps p.tables e below (T139.setTop (mkF m 296 #[.val (.int p0), .val (.int p1), .val (.int p2), .val (.int p3), .val (.int p4), .val (.int p5), .val (.int (4 : Int32)), .val (.long z14), .second, .val (.int m23_s0), .val (.int m39_s0), .val (.int m55_s0), .val (.int m72_s0), .val (.ref b5), .val (.ref b19), .val (.ref b113), .val (.ref rb131_b11)] [(.long z93), (.int c234_m70_s0_2)])) _
      refine XS.aload X139.here hx rfl (hb hby at_296) rfl rfl ?_
      show Steps p.tables e below (T139.setTop (mkF m 298 #[.val (.int p0), .val (.int p1), .val (.int p2), .val (.int p3), .val (.int p4), .val (.int p5), .val (.int (4 : Int32)), .val (.long z14), .second, .val (.int m23_s0), .val (.int m39_s0), .val (.int m55_s0), .val (.int m72_s0), .val (.ref b5), .val (.ref b19), .val (.ref b113), .val (.ref rb131_b11)] [(.ref b19), (.long z93), (.int c234_m70_s0_2)])) _
      refine XS.iconst X139.here hx rfl (hb hby at_298) ?_
      show Steps p.tables e below (T139.setTop (mkF m 299 #[.val (.int p0), .val (.int p1), .val (.int p2), .val (.int p3), .val (.int p4), .val (.int p5), .val (.int (4 : Int32)), .val (.long z14), .second, .val (.int m23_s0), .val (.int m39_s0), .val (.int m55_s0), .val (.int m72_s0), .val (.ref b5), .val (.ref b19), .val (.ref b113), .val (.ref rb131_b11)] [(.int (1 : Int32)), (.ref b19), (.long z93), (.int c234_m70_s0_2)])) _
      refine X139.baloadBooleans hx (j := (1 : Int32)) (v := (.int m39_s0)) (by rw [e139]; exact Ar142.1) (State.isArrayOf_alike hZ.alike Ar142.2.1) Ar142.2.2 in142 (Has.at Ha142 in142 rfl) (g := (mkF m 299 #[.val (.int p0), .val (.int p1), .val (.int p2), .val (.int p3), .val (.int p4), .val (.int p5), .val (.int (4 : Int32)), .val (.long z14), .second, .val (.int m23_s0), .val (.int m39_s0), .val (.int m55_s0), .val (.int m72_s0), .val (.ref b5), .val (.ref b19), .val (.ref b113), .val (.ref rb131_b11)] [(.int (1 : Int32)), (.ref b19), (.long z93), (.int c234_m70_s0_2)])) rfl rfl (hb hby at_299) _ ?_
      show Steps p.tables e below (T139.setTop (mkF m 300 #[.val (.int p0), .val (.int p1), .val (.int p2), .val (.int p3), .val (.int p4), .val (.int p5), .val (.int (4 : Int32)), .val (.long z14), .second, .val (.int m23_s0), .val (.int m39_s0), .val (.int m55_s0), .val (.int m72_s0), .val (.ref b5), .val (.ref b19), .val (.ref b113), .val (.ref rb131_b11)] [(.int m39_s0), (.long z93), (.int c234_m70_s0_2)])) _
      refine XS.aload X139.here hx rfl (hb hby at_300) rfl rfl ?_
      show Steps p.tables e below (T139.setTop (mkF m 302 #[.val (.int p0), .val (.int p1), .val (.int p2), .val (.int p3), .val (.int p4), .val (.int p5), .val (.int (4 : Int32)), .val (.long z14), .second, .val (.int m23_s0), .val (.int m39_s0), .val (.int m55_s0), .val (.int m72_s0), .val (.ref b5), .val (.ref b19), .val (.ref b113), .val (.ref rb131_b11)] [(.ref b5), (.int m39_s0), (.long z93), (.int c234_m70_s0_2)])) _
      refine XS.aload X139.here hx rfl (hb hby at_302) rfl rfl ?_
      show Steps p.tables e below (T139.setTop (mkF m 304 #[.val (.int p0), .val (.int p1), .val (.int p2), .val (.int p3), .val (.int p4), .val (.int p5), .val (.int (4 : Int32)), .val (.long z14), .second, .val (.int m23_s0), .val (.int m39_s0), .val (.int m55_s0), .val (.int m72_s0), .val (.ref b5), .val (.ref b19), .val (.ref b113), .val (.ref rb131_b11)] [(.ref b19), (.ref b5), (.int m39_s0), (.long z93), (.int c234_m70_s0_2)])) _
      refine XS.iload X139.here hx rfl (hb hby at_304) rfl ?_
      show Steps p.tables e below (T139.setTop (mkF m 306 #[.val (.int p0), .val (.int p1), .val (.int p2), .val (.int p3), .val (.int p4), .val (.int p5), .val (.int (4 : Int32)), .val (.long z14), .second, .val (.int m23_s0), .val (.int m39_s0), .val (.int m55_s0), .val (.int m72_s0), .val (.ref b5), .val (.ref b19), .val (.ref b113), .val (.ref rb131_b11)] [(.int (4 : Int32)), (.ref b19), (.ref b5), (.int m39_s0), (.long z93), (.int c234_m70_s0_2)])) _
      refine XS.lload X139.here hx rfl (hb hby at_306) rfl ?_
      show Steps p.tables e below (T139.setTop (mkF m 308 #[.val (.int p0), .val (.int p1), .val (.int p2), .val (.int p3), .val (.int p4), .val (.int p5), .val (.int (4 : Int32)), .val (.long z14), .second, .val (.int m23_s0), .val (.int m39_s0), .val (.int m55_s0), .val (.int m72_s0), .val (.ref b5), .val (.ref b19), .val (.ref b113), .val (.ref rb131_b11)] [(.long z14), (.int (4 : Int32)), (.ref b19), (.ref b5), (.int m39_s0), (.long z93), (.int c234_m70_s0_2)])) _
      refine st143 _ ?_
      show Steps p.tables e below (T143.setTop (mkF m 311 #[.val (.int p0), .val (.int p1), .val (.int p2), .val (.int p3), .val (.int p4), .val (.int p5), .val (.int (4 : Int32)), .val (.long z14), .second, .val (.int m23_s0), .val (.int m39_s0), .val (.int m55_s0), .val (.int m72_s0), .val (.ref b5), .val (.ref b19), .val (.ref b113), .val (.ref rb131_b11)] [(.int c308_rv), (.int c234_m70_s0_2)])) _
      refine XS.icmpYes X143.here hx rfl (pc0 := 311) (pc' := 316) rfl (hb hby at_311) rfl (Jvm.Free.XT.ii_eq_t br311) (by decide) (by decide) ?_
      show Steps p.tables e below (T143.setTop (mkF m 316 #[.val (.int p0), .val (.int p1), .val (.int p2), .val (.int p3), .val (.int p4), .val (.int p5), .val (.int (4 : Int32)), .val (.long z14), .second, .val (.int m23_s0), .val (.int m39_s0), .val (.int m55_s0), .val (.int m72_s0), .val (.ref b5), .val (.ref b19), .val (.ref b113), .val (.ref rb131_b11)] [])) _
      refine XS.iload X143.here hx rfl (hb hby at_316) rfl ?_
      show Steps p.tables e below (T143.setTop (mkF m 318 #[.val (.int p0), .val (.int p1), .val (.int p2), .val (.int p3), .val (.int p4), .val (.int p5), .val (.int (4 : Int32)), .val (.long z14), .second, .val (.int m23_s0), .val (.int m39_s0), .val (.int m55_s0), .val (.int m72_s0), .val (.ref b5), .val (.ref b19), .val (.ref b113), .val (.ref rb131_b11)] [(.int (4 : Int32))])) _
      refine XS.iconst X143.here hx rfl (hb hby at_318) ?_
      show Steps p.tables e below (T143.setTop (mkF m 319 #[.val (.int p0), .val (.int p1), .val (.int p2), .val (.int p3), .val (.int p4), .val (.int p5), .val (.int (4 : Int32)), .val (.long z14), .second, .val (.int m23_s0), .val (.int m39_s0), .val (.int m55_s0), .val (.int m72_s0), .val (.ref b5), .val (.ref b19), .val (.ref b113), .val (.ref rb131_b11)] [(.int (2 : Int32)), (.int (4 : Int32))])) _
      refine XS.icmpNo X143.here hx rfl (hb hby at_319) rfl (Jvm.Free.XT.ii_le_f (by decide)) ?_
      show Steps p.tables e below (T143.setTop (mkF m 322 #[.val (.int p0), .val (.int p1), .val (.int p2), .val (.int p3), .val (.int p4), .val (.int p5), .val (.int (4 : Int32)), .val (.long z14), .second, .val (.int m23_s0), .val (.int m39_s0), .val (.int m55_s0), .val (.int m72_s0), .val (.ref b5), .val (.ref b19), .val (.ref b113), .val (.ref rb131_b11)] [])) _
      refine XS.aload X143.here hx rfl (hb hby at_322) rfl rfl ?_
      show Steps p.tables e below (T143.setTop (mkF m 324 #[.val (.int p0), .val (.int p1), .val (.int p2), .val (.int p3), .val (.int p4), .val (.int p5), .val (.int (4 : Int32)), .val (.long z14), .second, .val (.int m23_s0), .val (.int m39_s0), .val (.int m55_s0), .val (.int m72_s0), .val (.ref b5), .val (.ref b19), .val (.ref b113), .val (.ref rb131_b11)] [(.ref rb131_b11)])) _
      refine XS.iconst X143.here hx rfl (hb hby at_324) ?_
      show Steps p.tables e below (T143.setTop (mkF m 325 #[.val (.int p0), .val (.int p1), .val (.int p2), .val (.int p3), .val (.int p4), .val (.int p5), .val (.int (4 : Int32)), .val (.long z14), .second, .val (.int m23_s0), .val (.int m39_s0), .val (.int m55_s0), .val (.int m72_s0), .val (.ref b5), .val (.ref b19), .val (.ref b113), .val (.ref rb131_b11)] [(.int (2 : Int32)), (.ref rb131_b11)])) _
      refine X143.baloadBooleans hx (j := (2 : Int32)) (v := (.int c234_m70_s0_3)) (by rw [e143]; exact Ar144.1) (State.isArrayOf_alike hZ.alike Ar144.2.1) Ar144.2.2 in144 (Has.at Ha144 in144 rfl) (g := (mkF m 325 #[.val (.int p0), .val (.int p1), .val (.int p2), .val (.int p3), .val (.int p4), .val (.int p5), .val (.int (4 : Int32)), .val (.long z14), .second, .val (.int m23_s0), .val (.int m39_s0), .val (.int m55_s0), .val (.int m72_s0), .val (.ref b5), .val (.ref b19), .val (.ref b113), .val (.ref rb131_b11)] [(.int (2 : Int32)), (.ref rb131_b11)])) rfl rfl (hb hby at_325) _ ?_
      show Steps p.tables e below (T143.setTop (mkF m 326 #[.val (.int p0), .val (.int p1), .val (.int p2), .val (.int p3), .val (.int p4), .val (.int p5), .val (.int (4 : Int32)), .val (.long z14), .second, .val (.int m23_s0), .val (.int m39_s0), .val (.int m55_s0), .val (.int m72_s0), .val (.ref b5), .val (.ref b19), .val (.ref b113), .val (.ref rb131_b11)] [(.int c234_m70_s0_3)])) _
      refine XS.aload X143.here hx rfl (hb hby at_326) rfl rfl ?_
      show Steps p.tables e below (T143.setTop (mkF m 328 #[.val (.int p0), .val (.int p1), .val (.int p2), .val (.int p3), .val (.int p4), .val (.int p5), .val (.int (4 : Int32)), .val (.long z14), .second, .val (.int m23_s0), .val (.int m39_s0), .val (.int m55_s0), .val (.int m72_s0), .val (.ref b5), .val (.ref b19), .val (.ref b113), .val (.ref rb131_b11)] [(.ref b5), (.int c234_m70_s0_3)])) _
      refine XS.iconst X143.here hx rfl (hb hby at_328) ?_
      show Steps p.tables e below (T143.setTop (mkF m 329 #[.val (.int p0), .val (.int p1), .val (.int p2), .val (.int p3), .val (.int p4), .val (.int p5), .val (.int (4 : Int32)), .val (.long z14), .second, .val (.int m23_s0), .val (.int m39_s0), .val (.int m55_s0), .val (.int m72_s0), .val (.ref b5), .val (.ref b19), .val (.ref b113), .val (.ref rb131_b11)] [(.int (2 : Int32)), (.ref b5), (.int c234_m70_s0_3)])) _
      refine X143.laload hx (j := (2 : Int32)) (v := (.long z98)) (by rw [e143]; exact Ar145.1) (State.isArrayOf_alike hZ.alike Ar145.2.1) Ar145.2.2 in145 (Has.at Ha145 in145 rfl) (g := (mkF m 329 #[.val (.int p0), .val (.int p1), .val (.int p2), .val (.int p3), .val (.int p4), .val (.int p5), .val (.int (4 : Int32)), .val (.long z14), .second, .val (.int m23_s0), .val (.int m39_s0), .val (.int m55_s0), .val (.int m72_s0), .val (.ref b5), .val (.ref b19), .val (.ref b113), .val (.ref rb131_b11)] [(.int (2 : Int32)), (.ref b5), (.int c234_m70_s0_3)])) rfl rfl (hb hby at_329) _ ?_
      show Steps p.tables e below (T143.setTop (mkF m 330 #[.val (.int p0), .val (.int p1), .val (.int p2), .val (.int p3), .val (.int p4), .val (.int p5), .val (.int (4 : Int32)), .val (.long z14), .second, .val (.int m23_s0), .val (.int m39_s0), .val (.int m55_s0), .val (.int m72_s0), .val (.ref b5), .val (.ref b19), .val (.ref b113), .val (.ref rb131_b11)] [(.long z98), (.int c234_m70_s0_3)])) _
      refine XS.aload X143.here hx rfl (hb hby at_330) rfl rfl ?_
      show Steps p.tables e below (T143.setTop (mkF m 332 #[.val (.int p0), .val (.int p1), .val (.int p2), .val (.int p3), .val (.int p4), .val (.int p5), .val (.int (4 : Int32)), .val (.long z14), .second, .val (.int m23_s0), .val (.int m39_s0), .val (.int m55_s0), .val (.int m72_s0), .val (.ref b5), .val (.ref b19), .val (.ref b113), .val (.ref rb131_b11)] [(.ref b19), (.long z98), (.int c234_m70_s0_3)])) _
      refine XS.iconst X143.here hx rfl (hb hby at_332) ?_
      show Steps p.tables e below (T143.setTop (mkF m 333 #[.val (.int p0), .val (.int p1), .val (.int p2), .val (.int p3), .val (.int p4), .val (.int p5), .val (.int (4 : Int32)), .val (.long z14), .second, .val (.int m23_s0), .val (.int m39_s0), .val (.int m55_s0), .val (.int m72_s0), .val (.ref b5), .val (.ref b19), .val (.ref b113), .val (.ref rb131_b11)] [(.int (2 : Int32)), (.ref b19), (.long z98), (.int c234_m70_s0_3)])) _
      refine X143.baloadBooleans hx (j := (2 : Int32)) (v := (.int m55_s0)) (by rw [e143]; exact Ar146.1) (State.isArrayOf_alike hZ.alike Ar146.2.1) Ar146.2.2 in146 (Has.at Ha146 in146 rfl) (g := (mkF m 333 #[.val (.int p0), .val (.int p1), .val (.int p2), .val (.int p3), .val (.int p4), .val (.int p5), .val (.int (4 : Int32)), .val (.long z14), .second, .val (.int m23_s0), .val (.int m39_s0), .val (.int m55_s0), .val (.int m72_s0), .val (.ref b5), .val (.ref b19), .val (.ref b113), .val (.ref rb131_b11)] [(.int (2 : Int32)), (.ref b19), (.long z98), (.int c234_m70_s0_3)])) rfl rfl (hb hby at_333) _ ?_
      show Steps p.tables e below (T143.setTop (mkF m 334 #[.val (.int p0), .val (.int p1), .val (.int p2), .val (.int p3), .val (.int p4), .val (.int p5), .val (.int (4 : Int32)), .val (.long z14), .second, .val (.int m23_s0), .val (.int m39_s0), .val (.int m55_s0), .val (.int m72_s0), .val (.ref b5), .val (.ref b19), .val (.ref b113), .val (.ref rb131_b11)] [(.int m55_s0), (.long z98), (.int c234_m70_s0_3)])) _
      refine XS.aload X143.here hx rfl (hb hby at_334) rfl rfl ?_
      show Steps p.tables e below (T143.setTop (mkF m 336 #[.val (.int p0), .val (.int p1), .val (.int p2), .val (.int p3), .val (.int p4), .val (.int p5), .val (.int (4 : Int32)), .val (.long z14), .second, .val (.int m23_s0), .val (.int m39_s0), .val (.int m55_s0), .val (.int m72_s0), .val (.ref b5), .val (.ref b19), .val (.ref b113), .val (.ref rb131_b11)] [(.ref b5), (.int m55_s0), (.long z98), (.int c234_m70_s0_3)])) _
      refine XS.aload X143.here hx rfl (hb hby at_336) rfl rfl ?_
      show Steps p.tables e below (T143.setTop (mkF m 338 #[.val (.int p0), .val (.int p1), .val (.int p2), .val (.int p3), .val (.int p4), .val (.int p5), .val (.int (4 : Int32)), .val (.long z14), .second, .val (.int m23_s0), .val (.int m39_s0), .val (.int m55_s0), .val (.int m72_s0), .val (.ref b5), .val (.ref b19), .val (.ref b113), .val (.ref rb131_b11)] [(.ref b19), (.ref b5), (.int m55_s0), (.long z98), (.int c234_m70_s0_3)])) _
      refine XS.iload X143.here hx rfl (hb hby at_338) rfl ?_
      show Steps p.tables e below (T143.setTop (mkF m 340 #[.val (.int p0), .val (.int p1), .val (.int p2), .val (.int p3), .val (.int p4), .val (.int p5), .val (.int (4 : Int32)), .val (.long z14), .second, .val (.int m23_s0), .val (.int m39_s0), .val (.int m55_s0), .val (.int m72_s0), .val (.ref b5), .val (.ref b19), .val (.ref b113), .val (.ref rb131_b11)] [(.int (4 : Int32)), (.ref b19), (.ref b5), (.int m55_s0), (.long z98), (.int c234_m70_s0_3)])) _
      refine XS.lload X143.here hx rfl (hb hby at_340) rfl ?_
      show Steps p.tables e below (T143.setTop (mkF m 342 #[.val (.int p0), .val (.int p1), .val (.int p2), .val (.int p3), .val (.int p4), .val (.int p5), .val (.int (4 : Int32)), .val (.long z14), .second, .val (.int m23_s0), .val (.int m39_s0), .val (.int m55_s0), .val (.int m72_s0), .val (.ref b5), .val (.ref b19), .val (.ref b113), .val (.ref rb131_b11)] [(.long z14), (.int (4 : Int32)), (.ref b19), (.ref b5), (.int m55_s0), (.long z98), (.int c234_m70_s0_3)])) _
      refine st147 _ ?_
      show Steps p.tables e below (T147.setTop (mkF m 345 #[.val (.int p0), .val (.int p1), .val (.int p2), .val (.int p3), .val (.int p4), .val (.int p5), .val (.int (4 : Int32)), .val (.long z14), .second, .val (.int m23_s0), .val (.int m39_s0), .val (.int m55_s0), .val (.int m72_s0), .val (.ref b5), .val (.ref b19), .val (.ref b113), .val (.ref rb131_b11)] [(.int c342_rv), (.int c234_m70_s0_3)])) _
      refine XS.icmpYes X147.here hx rfl (pc0 := 345) (pc' := 350) rfl (hb hby at_345) rfl (Jvm.Free.XT.ii_eq_t br345) (by decide) (by decide) ?_
      show Steps p.tables e below (T147.setTop (mkF m 350 #[.val (.int p0), .val (.int p1), .val (.int p2), .val (.int p3), .val (.int p4), .val (.int p5), .val (.int (4 : Int32)), .val (.long z14), .second, .val (.int m23_s0), .val (.int m39_s0), .val (.int m55_s0), .val (.int m72_s0), .val (.ref b5), .val (.ref b19), .val (.ref b113), .val (.ref rb131_b11)] [])) _
      refine XS.iload X147.here hx rfl (hb hby at_350) rfl ?_
      show Steps p.tables e below (T147.setTop (mkF m 352 #[.val (.int p0), .val (.int p1), .val (.int p2), .val (.int p3), .val (.int p4), .val (.int p5), .val (.int (4 : Int32)), .val (.long z14), .second, .val (.int m23_s0), .val (.int m39_s0), .val (.int m55_s0), .val (.int m72_s0), .val (.ref b5), .val (.ref b19), .val (.ref b113), .val (.ref rb131_b11)] [(.int (4 : Int32))])) _
      refine XS.iconst X147.here hx rfl (hb hby at_352) ?_
      show Steps p.tables e below (T147.setTop (mkF m 353 #[.val (.int p0), .val (.int p1), .val (.int p2), .val (.int p3), .val (.int p4), .val (.int p5), .val (.int (4 : Int32)), .val (.long z14), .second, .val (.int m23_s0), .val (.int m39_s0), .val (.int m55_s0), .val (.int m72_s0), .val (.ref b5), .val (.ref b19), .val (.ref b113), .val (.ref rb131_b11)] [(.int (3 : Int32)), (.int (4 : Int32))])) _
      refine XS.icmpNo X147.here hx rfl (hb hby at_353) rfl (Jvm.Free.XT.ii_le_f (by decide)) ?_
      show Steps p.tables e below (T147.setTop (mkF m 356 #[.val (.int p0), .val (.int p1), .val (.int p2), .val (.int p3), .val (.int p4), .val (.int p5), .val (.int (4 : Int32)), .val (.long z14), .second, .val (.int m23_s0), .val (.int m39_s0), .val (.int m55_s0), .val (.int m72_s0), .val (.ref b5), .val (.ref b19), .val (.ref b113), .val (.ref rb131_b11)] [])) _
      refine XS.aload X147.here hx rfl (hb hby at_356) rfl rfl ?_
      show Steps p.tables e below (T147.setTop (mkF m 358 #[.val (.int p0), .val (.int p1), .val (.int p2), .val (.int p3), .val (.int p4), .val (.int p5), .val (.int (4 : Int32)), .val (.long z14), .second, .val (.int m23_s0), .val (.int m39_s0), .val (.int m55_s0), .val (.int m72_s0), .val (.ref b5), .val (.ref b19), .val (.ref b113), .val (.ref rb131_b11)] [(.ref rb131_b11)])) _
      refine XS.iconst X147.here hx rfl (hb hby at_358) ?_
      show Steps p.tables e below (T147.setTop (mkF m 359 #[.val (.int p0), .val (.int p1), .val (.int p2), .val (.int p3), .val (.int p4), .val (.int p5), .val (.int (4 : Int32)), .val (.long z14), .second, .val (.int m23_s0), .val (.int m39_s0), .val (.int m55_s0), .val (.int m72_s0), .val (.ref b5), .val (.ref b19), .val (.ref b113), .val (.ref rb131_b11)] [(.int (3 : Int32)), (.ref rb131_b11)])) _
      refine X147.baloadBooleans hx (j := (3 : Int32)) (v := (.int c234_m70_s0_4)) (by rw [e147]; exact Ar148.1) (State.isArrayOf_alike hZ.alike Ar148.2.1) Ar148.2.2 in148 (Has.at Ha148 in148 rfl) (g := (mkF m 359 #[.val (.int p0), .val (.int p1), .val (.int p2), .val (.int p3), .val (.int p4), .val (.int p5), .val (.int (4 : Int32)), .val (.long z14), .second, .val (.int m23_s0), .val (.int m39_s0), .val (.int m55_s0), .val (.int m72_s0), .val (.ref b5), .val (.ref b19), .val (.ref b113), .val (.ref rb131_b11)] [(.int (3 : Int32)), (.ref rb131_b11)])) rfl rfl (hb hby at_359) _ ?_
      show Steps p.tables e below (T147.setTop (mkF m 360 #[.val (.int p0), .val (.int p1), .val (.int p2), .val (.int p3), .val (.int p4), .val (.int p5), .val (.int (4 : Int32)), .val (.long z14), .second, .val (.int m23_s0), .val (.int m39_s0), .val (.int m55_s0), .val (.int m72_s0), .val (.ref b5), .val (.ref b19), .val (.ref b113), .val (.ref rb131_b11)] [(.int c234_m70_s0_4)])) _
      refine XS.aload X147.here hx rfl (hb hby at_360) rfl rfl ?_
      show Steps p.tables e below (T147.setTop (mkF m 362 #[.val (.int p0), .val (.int p1), .val (.int p2), .val (.int p3), .val (.int p4), .val (.int p5), .val (.int (4 : Int32)), .val (.long z14), .second, .val (.int m23_s0), .val (.int m39_s0), .val (.int m55_s0), .val (.int m72_s0), .val (.ref b5), .val (.ref b19), .val (.ref b113), .val (.ref rb131_b11)] [(.ref b5), (.int c234_m70_s0_4)])) _
      refine XS.iconst X147.here hx rfl (hb hby at_362) ?_
      show Steps p.tables e below (T147.setTop (mkF m 363 #[.val (.int p0), .val (.int p1), .val (.int p2), .val (.int p3), .val (.int p4), .val (.int p5), .val (.int (4 : Int32)), .val (.long z14), .second, .val (.int m23_s0), .val (.int m39_s0), .val (.int m55_s0), .val (.int m72_s0), .val (.ref b5), .val (.ref b19), .val (.ref b113), .val (.ref rb131_b11)] [(.int (3 : Int32)), (.ref b5), (.int c234_m70_s0_4)])) _
      refine X147.laload hx (j := (3 : Int32)) (v := (.long z103)) (by rw [e147]; exact Ar149.1) (State.isArrayOf_alike hZ.alike Ar149.2.1) Ar149.2.2 in149 (Has.at Ha149 in149 rfl) (g := (mkF m 363 #[.val (.int p0), .val (.int p1), .val (.int p2), .val (.int p3), .val (.int p4), .val (.int p5), .val (.int (4 : Int32)), .val (.long z14), .second, .val (.int m23_s0), .val (.int m39_s0), .val (.int m55_s0), .val (.int m72_s0), .val (.ref b5), .val (.ref b19), .val (.ref b113), .val (.ref rb131_b11)] [(.int (3 : Int32)), (.ref b5), (.int c234_m70_s0_4)])) rfl rfl (hb hby at_363) _ ?_
      show Steps p.tables e below (T147.setTop (mkF m 364 #[.val (.int p0), .val (.int p1), .val (.int p2), .val (.int p3), .val (.int p4), .val (.int p5), .val (.int (4 : Int32)), .val (.long z14), .second, .val (.int m23_s0), .val (.int m39_s0), .val (.int m55_s0), .val (.int m72_s0), .val (.ref b5), .val (.ref b19), .val (.ref b113), .val (.ref rb131_b11)] [(.long z103), (.int c234_m70_s0_4)])) _
      refine XS.aload X147.here hx rfl (hb hby at_364) rfl rfl ?_
      show Steps p.tables e below (T147.setTop (mkF m 366 #[.val (.int p0), .val (.int p1), .val (.int p2), .val (.int p3), .val (.int p4), .val (.int p5), .val (.int (4 : Int32)), .val (.long z14), .second, .val (.int m23_s0), .val (.int m39_s0), .val (.int m55_s0), .val (.int m72_s0), .val (.ref b5), .val (.ref b19), .val (.ref b113), .val (.ref rb131_b11)] [(.ref b19), (.long z103), (.int c234_m70_s0_4)])) _
      refine XS.iconst X147.here hx rfl (hb hby at_366) ?_
      show Steps p.tables e below (T147.setTop (mkF m 367 #[.val (.int p0), .val (.int p1), .val (.int p2), .val (.int p3), .val (.int p4), .val (.int p5), .val (.int (4 : Int32)), .val (.long z14), .second, .val (.int m23_s0), .val (.int m39_s0), .val (.int m55_s0), .val (.int m72_s0), .val (.ref b5), .val (.ref b19), .val (.ref b113), .val (.ref rb131_b11)] [(.int (3 : Int32)), (.ref b19), (.long z103), (.int c234_m70_s0_4)])) _
      refine X147.baloadBooleans hx (j := (3 : Int32)) (v := (.int m72_s0)) (by rw [e147]; exact Ar150.1) (State.isArrayOf_alike hZ.alike Ar150.2.1) Ar150.2.2 in150 (Has.at Ha150 in150 rfl) (g := (mkF m 367 #[.val (.int p0), .val (.int p1), .val (.int p2), .val (.int p3), .val (.int p4), .val (.int p5), .val (.int (4 : Int32)), .val (.long z14), .second, .val (.int m23_s0), .val (.int m39_s0), .val (.int m55_s0), .val (.int m72_s0), .val (.ref b5), .val (.ref b19), .val (.ref b113), .val (.ref rb131_b11)] [(.int (3 : Int32)), (.ref b19), (.long z103), (.int c234_m70_s0_4)])) rfl rfl (hb hby at_367) _ ?_
      show Steps p.tables e below (T147.setTop (mkF m 368 #[.val (.int p0), .val (.int p1), .val (.int p2), .val (.int p3), .val (.int p4), .val (.int p5), .val (.int (4 : Int32)), .val (.long z14), .second, .val (.int m23_s0), .val (.int m39_s0), .val (.int m55_s0), .val (.int m72_s0), .val (.ref b5), .val (.ref b19), .val (.ref b113), .val (.ref rb131_b11)] [(.int m72_s0), (.long z103), (.int c234_m70_s0_4)])) _
      refine XS.aload X147.here hx rfl (hb hby at_368) rfl rfl ?_
      show Steps p.tables e below (T147.setTop (mkF m 370 #[.val (.int p0), .val (.int p1), .val (.int p2), .val (.int p3), .val (.int p4), .val (.int p5), .val (.int (4 : Int32)), .val (.long z14), .second, .val (.int m23_s0), .val (.int m39_s0), .val (.int m55_s0), .val (.int m72_s0), .val (.ref b5), .val (.ref b19), .val (.ref b113), .val (.ref rb131_b11)] [(.ref b5), (.int m72_s0), (.long z103), (.int c234_m70_s0_4)])) _
      refine XS.aload X147.here hx rfl (hb hby at_370) rfl rfl ?_
      show Steps p.tables e below (T147.setTop (mkF m 372 #[.val (.int p0), .val (.int p1), .val (.int p2), .val (.int p3), .val (.int p4), .val (.int p5), .val (.int (4 : Int32)), .val (.long z14), .second, .val (.int m23_s0), .val (.int m39_s0), .val (.int m55_s0), .val (.int m72_s0), .val (.ref b5), .val (.ref b19), .val (.ref b113), .val (.ref rb131_b11)] [(.ref b19), (.ref b5), (.int m72_s0), (.long z103), (.int c234_m70_s0_4)])) _
      refine XS.iload X147.here hx rfl (hb hby at_372) rfl ?_
      show Steps p.tables e below (T147.setTop (mkF m 374 #[.val (.int p0), .val (.int p1), .val (.int p2), .val (.int p3), .val (.int p4), .val (.int p5), .val (.int (4 : Int32)), .val (.long z14), .second, .val (.int m23_s0), .val (.int m39_s0), .val (.int m55_s0), .val (.int m72_s0), .val (.ref b5), .val (.ref b19), .val (.ref b113), .val (.ref rb131_b11)] [(.int (4 : Int32)), (.ref b19), (.ref b5), (.int m72_s0), (.long z103), (.int c234_m70_s0_4)])) _
      refine XS.lload X147.here hx rfl (hb hby at_374) rfl ?_
      show Steps p.tables e below (T147.setTop (mkF m 376 #[.val (.int p0), .val (.int p1), .val (.int p2), .val (.int p3), .val (.int p4), .val (.int p5), .val (.int (4 : Int32)), .val (.long z14), .second, .val (.int m23_s0), .val (.int m39_s0), .val (.int m55_s0), .val (.int m72_s0), .val (.ref b5), .val (.ref b19), .val (.ref b113), .val (.ref rb131_b11)] [(.long z14), (.int (4 : Int32)), (.ref b19), (.ref b5), (.int m72_s0), (.long z103), (.int c234_m70_s0_4)])) _
      refine st151 _ ?_
      show Steps p.tables e below (T151.setTop (mkF m 379 #[.val (.int p0), .val (.int p1), .val (.int p2), .val (.int p3), .val (.int p4), .val (.int p5), .val (.int (4 : Int32)), .val (.long z14), .second, .val (.int m23_s0), .val (.int m39_s0), .val (.int m55_s0), .val (.int m72_s0), .val (.ref b5), .val (.ref b19), .val (.ref b113), .val (.ref rb131_b11)] [(.int c376_rv), (.int c234_m70_s0_4)])) _
      refine XS.icmpYes X151.here hx rfl (pc0 := 379) (pc' := 384) rfl (hb hby at_379) rfl (Jvm.Free.XT.ii_eq_t br379) (by decide) (by decide) ?_
      show Steps p.tables e below (T151.setTop (mkF m 384 #[.val (.int p0), .val (.int p1), .val (.int p2), .val (.int p3), .val (.int p4), .val (.int p5), .val (.int (4 : Int32)), .val (.long z14), .second, .val (.int m23_s0), .val (.int m39_s0), .val (.int m55_s0), .val (.int m72_s0), .val (.ref b5), .val (.ref b19), .val (.ref b113), .val (.ref rb131_b11)] [])) _
      refine XS.iconst X151.here hx rfl (hb hby at_384) ?_
      exact k
    obtain ⟨fs, hr, hrun, hended, hW, hsame⟩ := X151.leave (v := some (.int (1 : Int32))) (fun h => by rw [Bd.returns] at h; cases h)
    refine ⟨_, _, c152 _ ?_, hrun, hended, _, _, rfl, ?_, ⟨_, rfl⟩, hW, hsame.mono (by decide) (by decide)⟩
    · show Steps p.tables e below (T151.setTop (mkF m 385 #[.val (.int p0), .val (.int p1), .val (.int p2), .val (.int p3), .val (.int p4), .val (.int p5), .val (.int (4 : Int32)), .val (.long z14), .second, .val (.int m23_s0), .val (.int m39_s0), .val (.int m55_s0), .val (.int m72_s0), .val (.ref b5), .val (.ref b19), .val (.ref b113), .val (.ref rb131_b11)] [(.int (1 : Int32))])) _
      exact retOut X151 hx Bd.returns rfl (Or.inl ⟨rfl, by simp, _, rfl⟩) (hb hby at_385) hr
    · show Q0 n0 _ T151.heap _
      rw [e151]
      exact ⟨rfl, by first | assumption | exact N0⟩
set_option maxRecDepth 65536 in
set_option maxHeartbeats 40000000 in
theorem comes_1 {Post : Tables → Env → Array Value → State → Outcome → State → Prop} (hpost : ∀ tb e args s v u, (limb_1_1.after args s (.returned v) u = true ∧ limb_1_2.after args s (.returned v) u = true ∧ True) → FrameEnd s (.returned v) u (Jvm.fieldLocs frame_1_writes args s ++ Jvm.arrayLocs frame_1_arrays args s ++ Jvm.staticLocs frame_1_statics s) 16 128 → Post tb e args s (.returned v) u) :
    ArmFor flags0 classFile x code maxLocals ret World_1 tables_1 room_1 Calls_1 rest_1 Pre_1 Post := by
  intro l hfl _ _ p e ha hc hk s m args below hf hA hF happ hP
  obtain ⟨hcalls, hrest, hpre⟩ := hP
  obtain ⟨-, -, -, hnamed, -, -, -, hat⟩ := (Spec.applies_iff hf).mp happ
  obtain ⟨hg, hn⟩ := and_e (Cond.before_iff.mp (show (Jvm.Cond.and given_1 narrow_1).before args s = true from hpre))
  obtain ⟨g1, g2⟩ := and_e hg
  obtain ⟨g3, g4⟩ := and_e g2
  obtain ⟨g5, g6⟩ := and_e g4
  obtain ⟨g7, g8⟩ := and_e g6
  obtain ⟨g9, g10⟩ := and_e g8
  obtain ⟨g11, g12⟩ := and_e g10
  obtain ⟨w0, w1, w2, w3, w4, w5, rfl⟩ : ∃ w0 w1 w2 w3 w4 w5 : Value, args = #[w0, w1, w2, w3, w4, w5] := by
    have hs : args.size = 6 := by simpa [Cond.value, given_1] using g1
    obtain ⟨L⟩ := args
    match L, hs with
    | [w0, w1, w2, w3, w4, w5], _ => exact ⟨w0, w1, w2, w3, w4, w5, rfl⟩
  have hw := fun d (hd : d ∈ tables_1) => atoms_spec (ws := Jvm.Cond.code x code maxLocals ret :: tables_1) hat d (List.mem_cons_of_mem _ hd)
  have hfit : Fit s := fun {y c} hc i hi => by
    obtain ⟨ha, rfl⟩ := Array.getElem?_eq_some_iff.mp hc
    have q := List.all_eq_true.mp ((Array.all_eq_true_iff_forall_mem.mp hF) _ (Array.getElem_mem ha)) i (List.mem_range.mpr hi)
    simpa [Array.getElem?_eq_getElem hi] using q
  obtain ⟨i0, ei0⟩ := is_v g3
  obtain rfl : w0 = (.int i0) := Option.some.inj ei0
  obtain ⟨i1, ei1⟩ := is_v g5
  obtain rfl : w1 = (.int i1) := Option.some.inj ei1
  obtain ⟨i2, ei2⟩ := is_v g7
  obtain rfl : w2 = (.int i2) := Option.some.inj ei2
  obtain ⟨i3, ei3⟩ := is_v g9
  obtain rfl : w3 = (.int i3) := Option.some.inj ei3
  obtain ⟨i4, ei4⟩ := is_v g11
  obtain rfl : w4 = (.int i4) := Option.some.inj ei4
  obtain ⟨i5, ei5⟩ := is_v g12
  obtain rfl : w5 = (.int i5) := Option.some.inj ei5
  obtain ⟨n, o, h1, h2, h3, _, L, rfl, ⟨rfl, N⟩, hq⟩ := rm0 l s _ hw tables_1 i0 i1 i2 i3 i4 i5  s.heap s.heap.size (Nat.le_refl _)  p e ha hc hk s m _ below hf ((Spec.applies_iff_loose hf).mp happ).1 ⟨rfl, State.Warmed39.refl s, rfl⟩ trivial
  refine ⟨n, _, h1, h2, h3, hpost _ _ _ _ _ _ ⟨Cond.after_iff.mpr rfl, Cond.after_iff.mpr (eq_i res_at (Term.int_eval (1)) rfl), trivial⟩ ⟨hq.1, hq.2.1, (hq.2.2.sift fun y hy => Or.inr (N y hy)).mono (by decide) (by decide)⟩⟩
theorem main_1_1 : Claimed_1_1 := comes_1 fun _ _ _ _ _ _ h hF => ⟨h.1, hF⟩
theorem main_1_2 : Claimed_1_2 := comes_1 fun _ _ _ _ _ _ h hF => ⟨h.2.1, hF⟩
end Jvm.Pilot.@@N@@
namespace Jvm.Pilot.@@N@@
open Jvm Jvm.ClassFile Sem Op Lib Jvm.Free Jvm.Stand Jvm.Pilot.@@N@@.Jvm.D
/-! MADE BY PROGRAM (witnessworld.py) out of the Statement's table words and the real class files: 16 classes; the members and pool entries that the words name. The judged class is class 1, her method 1. -/
namespace start1
open Jvm.ClassFile
def u (s : String) : CpInfo := .utf8 (stringToUtf16 s)
/-- a pool by its gaps: so many unusable entries, then the entry; so many at the end -/
def gap : Nat → List CpInfo → List CpInfo
  | 0, r => r
  | n + 1, r => .unusable :: gap n r
def poolList (es : List (Nat × CpInfo)) (last : Nat) : List CpInfo := es.foldr (fun e r => gap e.1 (e.2 :: r)) (gap last [])
def pool (es : List (Nat × CpInfo)) (last : Nat) : Array CpInfo := ⟨poolList es last⟩
def fileOf (pool : Array CpInfo) (this : Nat) (attrs : Array Attribute := #[]) (ms : Array MethodInfo := #[]) (fl : Nat := 33) (sup : Nat := 0) (ifs : Array Nat := #[]) (fds : Array FieldInfo := #[]) : ClassFile where
  minorVersion := 0
  majorVersion := 65
  constantPool := pool
  accessFlags := fl
  thisClass := this
  superClass := sup
  interfaces := ifs
  fields := fds
  methods := ms
  attributes := attrs
def plain (name : String) (sup : Option ClassId) : Class where
  name := name
  kind := .ordinary
  loader := none
  accessFlags := 33
  super := sup
  interfaces := #[]
  cf := none
  fields := #[]
  methods := #[]
  instanceTypes := #[]
  staticTypes := #[]
  resolved := #[]
  callSites := []
  init := .initialized
  statics := none
  mirror := none

def pool0 : Array CpInfo := pool [(5, u "<init>"), (0, u "()V"), (1, .class_ 10), (1, u "java/lang/Object")] 113

def k0m0 : Method := { name := "<init>", desc := "()V", sig := { parameters := [], returnType := none }, accessFlags := 1, code := none }
/-- java/lang/Object -/
def k0 : Class := { plain "java/lang/Object" none with
  accessFlags := 33
  interfaces := #[]
  cf := some (fileOf pool0 8 #[] #[{ accessFlags := 1, nameIndex := 5, descriptorIndex := 6, attributes := #[] }] 33 0 #[] #[])
  fields := #[]
  methods := #[k0m0]
  instanceTypes := #[]
  staticTypes := #[]
  resolved := Array.replicate 124 none
  statics := none }

def pool1 : Array CpInfo := pool [(2, .class_ 4), (1, u "java/lang/Object"), (0, u "<init>"), (0, u "()V"), (0, .integer 2147483647), (2, .double 18442240474082181120), (1, .methodref 13 14), (0, .class_ 15), (0, .nameAndType 16 17), (0, u "com/example/credal_choice/credalchoice/criteria/Choice"), (0, u "nearLargest"), (0, u "([DD)[Z"), (0, .methodref 19 20), (0, .class_ 21), (0, .nameAndType 22 23), (0, u "com/example/credal_choice/credalchoice/criteria/ChoiceNearLargestPinLaw"), (0, u "near"), (0, u "(JZ[J[ZIJ)Z"), (0, .methodref 19 25), (0, .nameAndType 26 27), (0, u "beats"), (0, u "(JZJZJ)Z"), (2, u "law"), (0, u "(IIIIII)Z")] 9

def k1m0 : Method := { name := "<init>", desc := "()V", sig := { parameters := [], returnType := none }, accessFlags := 1, code := none }
def k1c1 : Code := { maxStack := 9, maxLocals := 17, code := code, exceptionTable := #[], attributes := #[] }
def k1m1 : Method := { name := "law", desc := "(IIIIII)Z", sig := { parameters := [.int, .int, .int, .int, .int, .int], returnType := some .boolean }, accessFlags := 9, code := some k1c1 }
def k1c2 : Code := { maxStack := 4, maxLocals := 8, code := method_3_code, exceptionTable := #[], attributes := #[] }
def k1m2 : Method := { name := "beats", desc := "(JZJZJ)Z", sig := { parameters := [.long, .boolean, .long, .boolean, .long], returnType := some .boolean }, accessFlags := 10, code := some k1c2 }
def k1c3 : Code := { maxStack := 8, maxLocals := 8, code := method_4_code, exceptionTable := #[], attributes := #[] }
def k1m3 : Method := { name := "near", desc := "(JZ[J[ZIJ)Z", sig := { parameters := [.long, .boolean, (.array .long), (.array .boolean), .int, .long], returnType := some .boolean }, accessFlags := 10, code := some k1c3 }
/-- com/example/credal_choice/credalchoice/criteria/ChoiceNearLargestPinLaw -/
def k1 : Class := { plain "com/example/credal_choice/credalchoice/criteria/ChoiceNearLargestPinLaw" (some 0) with
  accessFlags := 49
  interfaces := #[]
  cf := some (fileOf pool1 19 #[] #[{ accessFlags := 1, nameIndex := 5, descriptorIndex := 6, attributes := #[] }, { accessFlags := 9, nameIndex := 30, descriptorIndex := 31, attributes := #[] }, { accessFlags := 10, nameIndex := 26, descriptorIndex := 27, attributes := #[] }, { accessFlags := 10, nameIndex := 22, descriptorIndex := 23, attributes := #[] }] 49 2 #[] #[])
  fields := #[]
  methods := #[k1m0, k1m1, k1m2, k1m3]
  instanceTypes := #[]
  staticTypes := #[]
  resolved := Array.replicate 41 none
  statics := none }

def pool2 : Array CpInfo := pool [(2, .class_ 4), (1, u "java/lang/Object"), (3, .class_ 10), (1, u "com/example/credal_choice/credalchoice/criteria/Choice"), (0, u "options"), (0, u "Ljava/util/List;"), (2, u "chosen"), (0, u "[Z"), (2, u "scores"), (0, u "[D"), (14, u "nearLargest"), (0, u "([DD)[Z"), (2, .double 18442240474082181120), (1, .methodref 42 43), (0, .class_ 44), (0, .nameAndType 45 46), (0, u "java/lang/Math"), (0, u "max"), (0, u "(DD)D")] 30

def k2c0 : Code := { maxStack := 8, maxLocals := 10, code := prog_5_method_6_code, exceptionTable := #[], attributes := #[] }
def k2m0 : Method := { name := "nearLargest", desc := "([DD)[Z", sig := { parameters := [(.array .double), .double], returnType := some (.array .boolean) }, accessFlags := 8, code := some k2c0 }
/-- com/example/credal_choice/credalchoice/criteria/Choice -/
def k2 : Class := { plain "com/example/credal_choice/credalchoice/criteria/Choice" (some 0) with
  accessFlags := 49
  interfaces := #[]
  cf := some (fileOf pool2 8 #[] #[{ accessFlags := 8, nameIndex := 35, descriptorIndex := 36, attributes := #[] }] 49 2 #[] #[{ accessFlags := 18, nameIndex := 11, descriptorIndex := 12, attributes := #[] }, { accessFlags := 18, nameIndex := 15, descriptorIndex := 16, attributes := #[] }, { accessFlags := 18, nameIndex := 19, descriptorIndex := 20, attributes := #[] }])
  fields := #[{ name := "options", type := (.object "java/util/List"), accessFlags := 18, slot := 0, constantValue := 0 }, { name := "chosen", type := (.array .boolean), accessFlags := 18, slot := 1, constantValue := 0 }, { name := "scores", type := (.array .double), accessFlags := 18, slot := 2, constantValue := 0 }]
  methods := #[k2m0]
  instanceTypes := #[(.object "java/util/List"), (.array .boolean), (.array .double)]
  staticTypes := #[]
  resolved := Array.replicate 77 none
  statics := none }

def pool3 : Array CpInfo := pool [(1, .class_ 2), (0, u "java/lang/Math"), (1, .class_ 6), (1, u "java/lang/Object"), (0, u "<init>"), (0, u "()V"), (43, u "(DD)D"), (45, .class_ 100), (1, u "java/lang/Math$RandomNumberGeneratorHolder"), (71, u "negativeZeroFloatBits"), (0, u "J"), (2, u "negativeZeroDoubleBits"), (21, u "max"), (46, u "$assertionsDisabled"), (0, u "Z"), (91, u "twoToTheDoubleScaleDown"), (0, u "D"), (4, u "twoToTheDoubleScaleUp"), (9, u "E"), (3, u "PI"), (2, u "TAU"), (2, u "DEGREES_TO_RADIANS"), (0, u "RADIANS_TO_DEGREES")] 94

def k3m0 : Method := { name := "<init>", desc := "()V", sig := { parameters := [], returnType := none }, accessFlags := 2, code := none }
def k3c1 : Code := { maxStack := 4, maxLocals := 4, code := jdk_29_method_68_code, exceptionTable := #[], attributes := #[] }
def k3m1 : Method := { name := "max", desc := "(DD)D", sig := { parameters := [.double, .double], returnType := some .double }, accessFlags := 9, code := some k3c1 }
/-- java/lang/Math -/
def k3 : Class := { plain "java/lang/Math" (some 0) with
  accessFlags := 49
  interfaces := #[]
  cf := some (fileOf pool3 1 #[.nestMembers #[98]] #[{ accessFlags := 2, nameIndex := 7, descriptorIndex := 8, attributes := #[] }, { accessFlags := 9, nameIndex := 198, descriptorIndex := 52, attributes := #[] }] 49 4 #[] #[{ accessFlags := 25, nameIndex := 354, descriptorIndex := 339, attributes := #[] }, { accessFlags := 25, nameIndex := 358, descriptorIndex := 339, attributes := #[] }, { accessFlags := 25, nameIndex := 361, descriptorIndex := 339, attributes := #[] }, { accessFlags := 26, nameIndex := 364, descriptorIndex := 339, attributes := #[] }, { accessFlags := 26, nameIndex := 365, descriptorIndex := 339, attributes := #[] }, { accessFlags := 26, nameIndex := 172, descriptorIndex := 173, attributes := #[] }, { accessFlags := 26, nameIndex := 176, descriptorIndex := 173, attributes := #[] }, { accessFlags := 8, nameIndex := 344, descriptorIndex := 339, attributes := #[] }, { accessFlags := 8, nameIndex := 338, descriptorIndex := 339, attributes := #[] }, { accessFlags := 4120, nameIndex := 245, descriptorIndex := 246, attributes := #[] }])
  fields := #[{ name := "E", type := .double, accessFlags := 25, slot := 0, constantValue := 0 }, { name := "PI", type := .double, accessFlags := 25, slot := 1, constantValue := 0 }, { name := "TAU", type := .double, accessFlags := 25, slot := 2, constantValue := 0 }, { name := "DEGREES_TO_RADIANS", type := .double, accessFlags := 26, slot := 3, constantValue := 0 }, { name := "RADIANS_TO_DEGREES", type := .double, accessFlags := 26, slot := 4, constantValue := 0 }, { name := "negativeZeroFloatBits", type := .long, accessFlags := 26, slot := 5, constantValue := 0 }, { name := "negativeZeroDoubleBits", type := .long, accessFlags := 26, slot := 6, constantValue := 0 }, { name := "twoToTheDoubleScaleUp", type := .double, accessFlags := 8, slot := 7, constantValue := 0 }, { name := "twoToTheDoubleScaleDown", type := .double, accessFlags := 8, slot := 8, constantValue := 0 }, { name := "$assertionsDisabled", type := .boolean, accessFlags := 4120, slot := 9, constantValue := 0 }]
  methods := #[k3m0, k3m1]
  instanceTypes := #[]
  staticTypes := #[.double, .double, .double, .double, .double, .long, .long, .double, .double, .boolean]
  resolved := Array.replicate 460 none
  statics := none }

def pool4 : Array CpInfo := pool [(1, u "java/lang/Cloneable"), (0, .class_ 1), (0, u "java/lang/Object"), (0, .class_ 3)] 3

/-- java/lang/Cloneable -/
def k4 : Class := { plain "java/lang/Cloneable" (some 0) with
  accessFlags := 1537
  interfaces := #[]
  cf := some (fileOf pool4 2 #[] #[] 1537 4 #[] #[])
  fields := #[]
  methods := #[]
  instanceTypes := #[]
  staticTypes := #[]
  resolved := Array.replicate 8 none
  statics := none }

def pool5 : Array CpInfo := pool [(1, u "java/io/Serializable"), (0, .class_ 1), (0, u "java/lang/Object"), (0, .class_ 3)] 3

/-- java/io/Serializable -/
def k5 : Class := { plain "java/io/Serializable" (some 0) with
  accessFlags := 1537
  interfaces := #[]
  cf := some (fileOf pool5 2 #[] #[] 1537 4 #[] #[])
  fields := #[]
  methods := #[]
  instanceTypes := #[]
  staticTypes := #[]
  resolved := Array.replicate 8 none
  statics := none }

/-- the primitive boolean -/
def k6 : Class := { plain "boolean" none with kind := .primitive 'Z', accessFlags := 0x411 }
/-- [Z -/
def k7 : Class := { plain "[Z" (some 0) with kind := .array 6 .boolean, interfaces := #[4, 5], accessFlags := 1041 }

/-- the primitive byte -/
def k8 : Class := { plain "byte" none with kind := .primitive 'B', accessFlags := 0x411 }
/-- [B -/
def k9 : Class := { plain "[B" (some 0) with kind := .array 8 .byte, interfaces := #[4, 5], accessFlags := 1041 }

/-- the primitive double -/
def k10 : Class := { plain "double" none with kind := .primitive 'D', accessFlags := 0x411 }
/-- [D -/
def k11 : Class := { plain "[D" (some 0) with kind := .array 10 .double, interfaces := #[4, 5], accessFlags := 1041 }

/-- the primitive int -/
def k12 : Class := { plain "int" none with kind := .primitive 'I', accessFlags := 0x411 }
/-- [I -/
def k13 : Class := { plain "[I" (some 0) with kind := .array 12 .int, interfaces := #[4, 5], accessFlags := 1041 }

/-- the primitive long -/
def k14 : Class := { plain "long" none with kind := .primitive 'J', accessFlags := 0x411 }
/-- [J -/
def k15 : Class := { plain "[J" (some 0) with kind := .array 14 .long, interfaces := #[4, 5], accessFlags := 1041 }

def heap : Heap := #[]
def classes : Array Class := #[k0, k1, k2, k3, k4, k5, k6, k7, k8, k9, k10, k11, k12, k13, k14, k15]
def interned : List (Array UInt16 × Addr) := []
def slotsUsed : Nat := 0
def theMethod : MethodId := ⟨1, 1⟩
def args0 : Array Value := #[.int 5, .int 5, .int 5, .int 5, .int 5, .int 5]
def aboutOver (below : List Frame) : State where
  vm := { classes := classes, interned := interned.toArray }
  heap := heap
  slotsUsed := slotsUsed
  threads := #[{ frames := .invoking theMethod args0 :: below }]
def below0 : List Frame := [.native { method := ⟨0, 0⟩, args := #[] }]
def about1 : State := aboutOver below0
def p0 : Program := .bare "" "" ""
def e0 : Env := launch0.env 0 0 0
theorem w_frames : about1.frames = Frame.invoking theMethod args0 :: below0 := rfl
set_option maxRecDepth 65536 in
theorem w_args : argsFit about1.vm theMethod args0 = true := by decide +kernel
set_option maxRecDepth 65536 in
theorem w_heap : heapFits about1 = true := by decide +kernel
set_option maxRecDepth 65536 in
theorem w_runnable : about1.curStatus? = some .runnable := by decide +kernel
set_option maxRecDepth 65536 in
theorem w_alone : about1.alone = true := by decide +kernel
set_option maxRecDepth 65536 in
theorem w_named : about1.methodNamed? x = some theMethod := by decide +kernel
set_option maxRecDepth 65536 in
theorem w_hears : about1.hears theMethod below0 = true := by decide +kernel
set_option maxRecDepth 65536 in
theorem w_ripe : about1.ripe theMethod args0 below0 = true := by decide +kernel
theorem w_running : about1.status = .running := rfl
set_option maxRecDepth 65536 in
theorem w_room : about1.hasRoom e0.platform room_1 = true :=
  launch0.hasRoom_least _ room_1 (by decide +kernel) (by decide +kernel) (by decide +kernel) (by decide +kernel) (by decide +kernel) (by decide +kernel)
theorem allAtoms_all (ts : List Jvm.Cond) (a : Array Jvm.Value) (st : Jvm.State) : (allAtoms ts).before a st = ts.all (fun c => c.before a st) := by
  induction ts with
  | nil => rfl
  | cons c t ih =>
    show (Jvm.Cond.and c (allAtoms t)).before a st = _
    rw [Jvm.Cond.before_and, ih, List.all_cons]
def words1 : List Jvm.Cond := Jvm.Cond.code x code maxLocals ret :: tables_1
/-- a 'code' word, met by the world's own term for the bytes: nothing is compared byte by byte -/
theorem code_word {y : MethodName} {bytes : ByteArray} {mx : Nat} {rt : Option FieldType} {a : Array Value} {s : State} {m : MethodId} {meth : Method} {c : Code} (h1 : s.methodNamed? y = some m) (h2 : s.vm.method? m = some meth) (h3 : meth.code = some c) (h4 : c.code = bytes)
    (h5 : (c.maxLocals == mx && c.exceptionTable.isEmpty && decide (c.maxStack ≤ mostOperands) && decide (meth.sig.returnType = rt) && !meth.locks && decide (parseMethodDescriptor y.desc = some meth.sig)) = true) : (Jvm.Cond.code y bytes mx rt).before a s = true := by
  simp only [Bool.and_eq_true, beq_iff_eq, Bool.not_eq_true', decide_eq_true_eq] at h5
  obtain ⟨⟨⟨⟨⟨g1, g2⟩, g3⟩, g4⟩, g5⟩, g6⟩ := h5
  simp [Cond.before, Cond.holds, Cond.value, h1, h2, h3, h4, g1, g2, g3, g4, g5, g6]
def isCode : Jvm.Cond → Bool
  | .code _ _ _ _ => true
  | _ => false
theorem all_split {L : List Jvm.Cond} {P : Jvm.Cond → Bool} (h1 : L.all (fun c => isCode c || P c) = true) (h2 : ∀ c ∈ L.filter isCode, P c = true) : L.all P = true := by
  refine List.all_eq_true.mpr fun c hc => ?_
  have h := List.all_eq_true.mp h1 c hc
  rcases Bool.eq_false_or_eq_true (isCode c) with hi | hi
  · exact h2 c (List.mem_filter.mpr ⟨hc, hi⟩)
  · simpa [hi] using h
set_option maxRecDepth 65536 in
theorem w_c0 : (Jvm.Cond.code x code maxLocals ret).before args0 about1 = true := code_word (m := ⟨1, 1⟩) (meth := k1m1) (c := k1c1) (by decide +kernel) rfl rfl rfl (by decide +kernel)
set_option maxRecDepth 65536 in
theorem w_c1 : (Jvm.Cond.code ({ cls := "com/example/credal_choice/credalchoice/criteria/Choice", name := "nearLargest", desc := "([DD)[Z" } : Jvm.MethodName) prog_5_method_6_code (10 : Nat) (Option.some (Jvm.ClassFile.FieldType.array Jvm.ClassFile.FieldType.boolean))).before args0 about1 = true := code_word (m := ⟨2, 0⟩) (meth := k2m0) (c := k2c0) (by decide +kernel) rfl rfl rfl (by decide +kernel)
set_option maxRecDepth 65536 in
theorem w_c2 : (Jvm.Cond.code ({ cls := "java/lang/Math", name := "max", desc := "(DD)D" } : Jvm.MethodName) jdk_29_method_68_code (4 : Nat) (Option.some Jvm.ClassFile.FieldType.double)).before args0 about1 = true := code_word (m := ⟨3, 1⟩) (meth := k3m1) (c := k3c1) (by decide +kernel) rfl rfl rfl (by decide +kernel)
set_option maxRecDepth 65536 in
theorem w_c3 : (Jvm.Cond.code ({ cls := "com/example/credal_choice/credalchoice/criteria/ChoiceNearLargestPinLaw", name := "near", desc := "(JZ[J[ZIJ)Z" } : Jvm.MethodName) method_4_code (8 : Nat) (Option.some Jvm.ClassFile.FieldType.boolean)).before args0 about1 = true := code_word (m := ⟨1, 3⟩) (meth := k1m3) (c := k1c3) (by decide +kernel) rfl rfl rfl (by decide +kernel)
set_option maxRecDepth 65536 in
theorem w_c4 : (Jvm.Cond.code ({ cls := "com/example/credal_choice/credalchoice/criteria/ChoiceNearLargestPinLaw", name := "beats", desc := "(JZJZJ)Z" } : Jvm.MethodName) method_3_code (8 : Nat) (Option.some Jvm.ClassFile.FieldType.boolean)).before args0 about1 = true := code_word (m := ⟨1, 2⟩) (meth := k1m2) (c := k1c2) (by decide +kernel) rfl rfl rfl (by decide +kernel)
def codes1 : List Jvm.Cond := [Jvm.Cond.code x code maxLocals ret, Jvm.Cond.code ({ cls := "com/example/credal_choice/credalchoice/criteria/Choice", name := "nearLargest", desc := "([DD)[Z" } : Jvm.MethodName) prog_5_method_6_code (10 : Nat) (Option.some (Jvm.ClassFile.FieldType.array Jvm.ClassFile.FieldType.boolean)), Jvm.Cond.code ({ cls := "java/lang/Math", name := "max", desc := "(DD)D" } : Jvm.MethodName) jdk_29_method_68_code (4 : Nat) (Option.some Jvm.ClassFile.FieldType.double), Jvm.Cond.code ({ cls := "com/example/credal_choice/credalchoice/criteria/ChoiceNearLargestPinLaw", name := "near", desc := "(JZ[J[ZIJ)Z" } : Jvm.MethodName) method_4_code (8 : Nat) (Option.some Jvm.ClassFile.FieldType.boolean), Jvm.Cond.code ({ cls := "com/example/credal_choice/credalchoice/criteria/ChoiceNearLargestPinLaw", name := "beats", desc := "(JZJZJ)Z" } : Jvm.MethodName) method_3_code (8 : Nat) (Option.some Jvm.ClassFile.FieldType.boolean)]
set_option maxRecDepth 65536 in
theorem codes_eq : words1.filter isCode = codes1 := rfl
theorem w_codes : ∀ c ∈ words1.filter isCode, c.before args0 about1 = true := by
  rw [codes_eq]
  intro c hc
  simp only [codes1, List.mem_cons, List.not_mem_nil, or_false] at hc
  rcases hc with rfl | rfl | rfl | rfl | rfl
  · exact w_c0
  · exact w_c1
  · exact w_c2
  · exact w_c3
  · exact w_c4
set_option maxRecDepth 65536 in
theorem w_t1 : words1.all (fun c => isCode c || c.before args0 about1) = true := by decide +kernel
theorem w_tables : (allAtoms (Jvm.Cond.code x code maxLocals ret :: tables_1)).before args0 about1 = true := by
  rw [allAtoms_all]
  show words1.all (fun c => c.before args0 about1) = true
  refine all_split ?_ w_codes
  rw [w_t1]
set_option maxRecDepth 65536 in
theorem w_case : (Jvm.Cond.and given_1 narrow_1).before args0 about1 = true := by decide +kernel
theorem w_applies : (headSpec (Jvm.Cond.code x code maxLocals ret :: tables_1) room_1).applies x e0.platform about1 = true :=
  (Spec.applies_iff w_frames).mpr ⟨w_running, w_runnable, w_alone, w_named, w_hears, w_ripe, w_room, w_tables⟩
theorem atStart : AtStart classFile x code maxLocals ret World_1 tables_1 room_1 Calls_1 rest_1 Pre_1 launch0 p0 e0 about1 theMethod args0 below0 :=
  ⟨lists_1, trivial, launch0.admits_env _ _ _, launch0.least_env, fairChoices_fair.cas, fairChoices_fair.clock, w_frames, w_args, w_heap, w_applies, trivial, trivial, w_case⟩
end start1
theorem witness_1 : WitnessClaimed_1 := ⟨start1.p0, start1.e0, start1.about1, start1.theMethod, start1.args0, start1.below0, start1.atStart⟩
end Jvm.Pilot.@@N@@
