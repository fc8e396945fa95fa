import JvmDerived
import JvmDerived.Pilot.@@N@@Statement
import JvmDerived.Pilot.@@N@@Code
set_option linter.unusedVariables false
set_option linter.unusedSimpArgs false
set_option maxHeartbeats 4000000
namespace Jvm.OwnK
open Sem ClassFile Op Lib Jvm.Free Jvm.Stand Jvm.LawKit Jvm.RoadKit
theorem iadd {tb : Tables} [Ours tb] {e : Env} {below : List Frame} {T target : State} {m : MethodId} {c : Code} {g : JFrame} (h : At T m c below) (hx : tb.exec = Jvm.exec) (hg : g.method = m) {x v : Int32} {y : Int32} {rest : List Value} (hd : decode c.code g.pc = .ok (.iadd, 1)) (hs : g.stack = .int y :: .int x :: rest) (hv : x + y = v)
    (hr : Steps tb e below (T.setTop { g with pc := g.pc + 1, stack := .int v :: rest }) target) : Steps tb e below (T.setTop g) target := by
  subst hv
  exact XS.iadd h hx hg hd hs hr
theorem isub {tb : Tables} [Ours tb] {e : Env} {below : List Frame} {T target : State} {m : MethodId} {c : Code} {g : JFrame} (h : At T m c below) (hx : tb.exec = Jvm.exec) (hg : g.method = m) {x v : Int32} {y : Int32} {rest : List Value} (hd : decode c.code g.pc = .ok (.isub, 1)) (hs : g.stack = .int y :: .int x :: rest) (hv : x - y = v)
    (hr : Steps tb e below (T.setTop { g with pc := g.pc + 1, stack := .int v :: rest }) target) : Steps tb e below (T.setTop g) target := by
  subst hv
  exact XS.isub h hx hg hd hs hr
theorem imul {tb : Tables} [Ours tb] {e : Env} {below : List Frame} {T target : State} {m : MethodId} {c : Code} {g : JFrame} (h : At T m c below) (hx : tb.exec = Jvm.exec) (hg : g.method = m) {x v : Int32} {y : Int32} {rest : List Value} (hd : decode c.code g.pc = .ok (.imul, 1)) (hs : g.stack = .int y :: .int x :: rest) (hv : x * y = v)
    (hr : Steps tb e below (T.setTop { g with pc := g.pc + 1, stack := .int v :: rest }) target) : Steps tb e below (T.setTop g) target := by
  subst hv
  exact XS.imul h hx hg hd hs hr
theorem iand {tb : Tables} [Ours tb] {e : Env} {below : List Frame} {T target : State} {m : MethodId} {c : Code} {g : JFrame} (h : At T m c below) (hx : tb.exec = Jvm.exec) (hg : g.method = m) {x v : Int32} {y : Int32} {rest : List Value} (hd : decode c.code g.pc = .ok (.iand, 1)) (hs : g.stack = .int y :: .int x :: rest) (hv : x &&& y = v)
    (hr : Steps tb e below (T.setTop { g with pc := g.pc + 1, stack := .int v :: rest }) target) : Steps tb e below (T.setTop g) target := by
  subst hv
  exact XS.iand h hx hg hd hs hr
theorem ior {tb : Tables} [Ours tb] {e : Env} {below : List Frame} {T target : State} {m : MethodId} {c : Code} {g : JFrame} (h : At T m c below) (hx : tb.exec = Jvm.exec) (hg : g.method = m) {x v : Int32} {y : Int32} {rest : List Value} (hd : decode c.code g.pc = .ok (.ior, 1)) (hs : g.stack = .int y :: .int x :: rest) (hv : x ||| y = v)
    (hr : Steps tb e below (T.setTop { g with pc := g.pc + 1, stack := .int v :: rest }) target) : Steps tb e below (T.setTop g) target := by
  subst hv
  exact XS.ior h hx hg hd hs hr
theorem ixor {tb : Tables} [Ours tb] {e : Env} {below : List Frame} {T target : State} {m : MethodId} {c : Code} {g : JFrame} (h : At T m c below) (hx : tb.exec = Jvm.exec) (hg : g.method = m) {x v : Int32} {y : Int32} {rest : List Value} (hd : decode c.code g.pc = .ok (.ixor, 1)) (hs : g.stack = .int y :: .int x :: rest) (hv : x ^^^ y = v)
    (hr : Steps tb e below (T.setTop { g with pc := g.pc + 1, stack := .int v :: rest }) target) : Steps tb e below (T.setTop g) target := by
  subst hv
  exact XS.ixor h hx hg hd hs hr
theorem ishl {tb : Tables} [Ours tb] {e : Env} {below : List Frame} {T target : State} {m : MethodId} {c : Code} {g : JFrame} (h : At T m c below) (hx : tb.exec = Jvm.exec) (hg : g.method = m) {x v : Int32} {y : Int32} {rest : List Value} (hd : decode c.code g.pc = .ok (.ishl, 1)) (hs : g.stack = .int y :: .int x :: rest) (hv : x <<< (y &&& 31) = v)
    (hr : Steps tb e below (T.setTop { g with pc := g.pc + 1, stack := .int v :: rest }) target) : Steps tb e below (T.setTop g) target := by
  subst hv
  exact XS.ishl h hx hg hd hs hr
theorem ishr {tb : Tables} [Ours tb] {e : Env} {below : List Frame} {T target : State} {m : MethodId} {c : Code} {g : JFrame} (h : At T m c below) (hx : tb.exec = Jvm.exec) (hg : g.method = m) {x v : Int32} {y : Int32} {rest : List Value} (hd : decode c.code g.pc = .ok (.ishr, 1)) (hs : g.stack = .int y :: .int x :: rest) (hv : x >>> (y &&& 31) = v)
    (hr : Steps tb e below (T.setTop { g with pc := g.pc + 1, stack := .int v :: rest }) target) : Steps tb e below (T.setTop g) target := by
  subst hv
  exact XS.ishr h hx hg hd hs hr
theorem iushr {tb : Tables} [Ours tb] {e : Env} {below : List Frame} {T target : State} {m : MethodId} {c : Code} {g : JFrame} (h : At T m c below) (hx : tb.exec = Jvm.exec) (hg : g.method = m) {x v : Int32} {y : Int32} {rest : List Value} (hd : decode c.code g.pc = .ok (.iushr, 1)) (hs : g.stack = .int y :: .int x :: rest) (hv : (x.toUInt32 >>> (y &&& 31).toUInt32).toInt32 = v)
    (hr : Steps tb e below (T.setTop { g with pc := g.pc + 1, stack := .int v :: rest }) target) : Steps tb e below (T.setTop g) target := by
  subst hv
  exact XS.iushr h hx hg hd hs hr
theorem idiv {tb : Tables} [Ours tb] {e : Env} {below : List Frame} {T target : State} {m : MethodId} {c : Code} {g : JFrame} (h : At T m c below) (hx : tb.exec = Jvm.exec) (hg : g.method = m) {x v : Int32} {y : Int32} {rest : List Value} (hd : decode c.code g.pc = .ok (.idiv, 1)) (hs : g.stack = .int y :: .int x :: rest) (hy : ¬ y = 0) (hv : x / y = v)
    (hr : Steps tb e below (T.setTop { g with pc := g.pc + 1, stack := .int v :: rest }) target) : Steps tb e below (T.setTop g) target := by
  subst hv
  exact XS.idiv h hx hg hd hs hy hr
theorem irem {tb : Tables} [Ours tb] {e : Env} {below : List Frame} {T target : State} {m : MethodId} {c : Code} {g : JFrame} (h : At T m c below) (hx : tb.exec = Jvm.exec) (hg : g.method = m) {x v : Int32} {y : Int32} {rest : List Value} (hd : decode c.code g.pc = .ok (.irem, 1)) (hs : g.stack = .int y :: .int x :: rest) (hy : ¬ y = 0) (hv : x % y = v)
    (hr : Steps tb e below (T.setTop { g with pc := g.pc + 1, stack := .int v :: rest }) target) : Steps tb e below (T.setTop g) target := by
  subst hv
  have q : x - x / y * y = x % y := irem_eq_mod x y
  exact XS.irem h hx hg hd hs hy (by rw [q]; exact hr)
theorem ladd {tb : Tables} [Ours tb] {e : Env} {below : List Frame} {T target : State} {m : MethodId} {c : Code} {g : JFrame} (h : At T m c below) (hx : tb.exec = Jvm.exec) (hg : g.method = m) {x v : Int64} {y : Int64} {rest : List Value} (hd : decode c.code g.pc = .ok (.ladd, 1)) (hs : g.stack = .long y :: .long x :: rest) (hv : x + y = v)
    (hr : Steps tb e below (T.setTop { g with pc := g.pc + 1, stack := .long v :: rest }) target) : Steps tb e below (T.setTop g) target := by
  subst hv
  exact XS.ladd h hx hg hd hs hr
theorem lsub {tb : Tables} [Ours tb] {e : Env} {below : List Frame} {T target : State} {m : MethodId} {c : Code} {g : JFrame} (h : At T m c below) (hx : tb.exec = Jvm.exec) (hg : g.method = m) {x v : Int64} {y : Int64} {rest : List Value} (hd : decode c.code g.pc = .ok (.lsub, 1)) (hs : g.stack = .long y :: .long x :: rest) (hv : x - y = v)
    (hr : Steps tb e below (T.setTop { g with pc := g.pc + 1, stack := .long v :: rest }) target) : Steps tb e below (T.setTop g) target := by
  subst hv
  exact XS.lsub h hx hg hd hs hr
theorem lmul {tb : Tables} [Ours tb] {e : Env} {below : List Frame} {T target : State} {m : MethodId} {c : Code} {g : JFrame} (h : At T m c below) (hx : tb.exec = Jvm.exec) (hg : g.method = m) {x v : Int64} {y : Int64} {rest : List Value} (hd : decode c.code g.pc = .ok (.lmul, 1)) (hs : g.stack = .long y :: .long x :: rest) (hv : x * y = v)
    (hr : Steps tb e below (T.setTop { g with pc := g.pc + 1, stack := .long v :: rest }) target) : Steps tb e below (T.setTop g) target := by
  subst hv
  exact XS.lmul h hx hg hd hs hr
theorem land {tb : Tables} [Ours tb] {e : Env} {below : List Frame} {T target : State} {m : MethodId} {c : Code} {g : JFrame} (h : At T m c below) (hx : tb.exec = Jvm.exec) (hg : g.method = m) {x v : Int64} {y : Int64} {rest : List Value} (hd : decode c.code g.pc = .ok (.land, 1)) (hs : g.stack = .long y :: .long x :: rest) (hv : x &&& y = v)
    (hr : Steps tb e below (T.setTop { g with pc := g.pc + 1, stack := .long v :: rest }) target) : Steps tb e below (T.setTop g) target := by
  subst hv
  exact XS.land h hx hg hd hs hr
theorem lor {tb : Tables} [Ours tb] {e : Env} {below : List Frame} {T target : State} {m : MethodId} {c : Code} {g : JFrame} (h : At T m c below) (hx : tb.exec = Jvm.exec) (hg : g.method = m) {x v : Int64} {y : Int64} {rest : List Value} (hd : decode c.code g.pc = .ok (.lor, 1)) (hs : g.stack = .long y :: .long x :: rest) (hv : x ||| y = v)
    (hr : Steps tb e below (T.setTop { g with pc := g.pc + 1, stack := .long v :: rest }) target) : Steps tb e below (T.setTop g) target := by
  subst hv
  exact XS.lor h hx hg hd hs hr
theorem lxor {tb : Tables} [Ours tb] {e : Env} {below : List Frame} {T target : State} {m : MethodId} {c : Code} {g : JFrame} (h : At T m c below) (hx : tb.exec = Jvm.exec) (hg : g.method = m) {x v : Int64} {y : Int64} {rest : List Value} (hd : decode c.code g.pc = .ok (.lxor, 1)) (hs : g.stack = .long y :: .long x :: rest) (hv : x ^^^ y = v)
    (hr : Steps tb e below (T.setTop { g with pc := g.pc + 1, stack := .long v :: rest }) target) : Steps tb e below (T.setTop g) target := by
  subst hv
  exact XS.lxor h hx hg hd hs hr
theorem lshl {tb : Tables} [Ours tb] {e : Env} {below : List Frame} {T target : State} {m : MethodId} {c : Code} {g : JFrame} (h : At T m c below) (hx : tb.exec = Jvm.exec) (hg : g.method = m) {x v : Int64} {y : Int32} {rest : List Value} (hd : decode c.code g.pc = .ok (.lshl, 1)) (hs : g.stack = .int y :: .long x :: rest) (hv : x <<< (y &&& 0x3f).toInt64 = v)
    (hr : Steps tb e below (T.setTop { g with pc := g.pc + 1, stack := .long v :: rest }) target) : Steps tb e below (T.setTop g) target := by
  subst hv
  exact XS.lshl h hx hg hd hs hr
theorem lshr {tb : Tables} [Ours tb] {e : Env} {below : List Frame} {T target : State} {m : MethodId} {c : Code} {g : JFrame} (h : At T m c below) (hx : tb.exec = Jvm.exec) (hg : g.method = m) {x v : Int64} {y : Int32} {rest : List Value} (hd : decode c.code g.pc = .ok (.lshr, 1)) (hs : g.stack = .int y :: .long x :: rest) (hv : x >>> (y &&& 0x3f).toInt64 = v)
    (hr : Steps tb e below (T.setTop { g with pc := g.pc + 1, stack := .long v :: rest }) target) : Steps tb e below (T.setTop g) target := by
  subst hv
  exact XS.lshr h hx hg hd hs hr
theorem lushr {tb : Tables} [Ours tb] {e : Env} {below : List Frame} {T target : State} {m : MethodId} {c : Code} {g : JFrame} (h : At T m c below) (hx : tb.exec = Jvm.exec) (hg : g.method = m) {x v : Int64} {y : Int32} {rest : List Value} (hd : decode c.code g.pc = .ok (.lushr, 1)) (hs : g.stack = .int y :: .long x :: rest) (hv : (x.toUInt64 >>> (y &&& 0x3f).toInt64.toUInt64).toInt64 = v)
    (hr : Steps tb e below (T.setTop { g with pc := g.pc + 1, stack := .long v :: rest }) target) : Steps tb e below (T.setTop g) target := by
  subst hv
  exact XS.lushr h hx hg hd hs hr
theorem ldiv {tb : Tables} [Ours tb] {e : Env} {below : List Frame} {T target : State} {m : MethodId} {c : Code} {g : JFrame} (h : At T m c below) (hx : tb.exec = Jvm.exec) (hg : g.method = m) {x v : Int64} {y : Int64} {rest : List Value} (hd : decode c.code g.pc = .ok (.ldiv, 1)) (hs : g.stack = .long y :: .long x :: rest) (hy : ¬ y = 0) (hv : x / y = v)
    (hr : Steps tb e below (T.setTop { g with pc := g.pc + 1, stack := .long v :: rest }) target) : Steps tb e below (T.setTop g) target := by
  subst hv
  exact XS.ldiv h hx hg hd hs hy hr
theorem lrem {tb : Tables} [Ours tb] {e : Env} {below : List Frame} {T target : State} {m : MethodId} {c : Code} {g : JFrame} (h : At T m c below) (hx : tb.exec = Jvm.exec) (hg : g.method = m) {x v : Int64} {y : Int64} {rest : List Value} (hd : decode c.code g.pc = .ok (.lrem, 1)) (hs : g.stack = .long y :: .long x :: rest) (hy : ¬ y = 0) (hv : x % y = v)
    (hr : Steps tb e below (T.setTop { g with pc := g.pc + 1, stack := .long v :: rest }) target) : Steps tb e below (T.setTop g) target := by
  subst hv
  have q : x - x / y * y = x % y := lrem_mod x y
  exact XS.lrem h hx hg hd hs hy (by rw [q]; exact hr)
theorem ineg {tb : Tables} [Ours tb] {e : Env} {below : List Frame} {T target : State} {m : MethodId} {c : Code} {g : JFrame} (h : At T m c below) (hx : tb.exec = Jvm.exec) (hg : g.method = m) {x : Int32} {v : Int32} {rest : List Value} (hd : decode c.code g.pc = .ok (.ineg, 1)) (hs : g.stack = .int x :: rest) (hv : -x = v)
    (hr : Steps tb e below (T.setTop { g with pc := g.pc + 1, stack := .int v :: rest }) target) : Steps tb e below (T.setTop g) target := by
  subst hv
  exact XS.ineg h hx hg hd hs hr
theorem lneg {tb : Tables} [Ours tb] {e : Env} {below : List Frame} {T target : State} {m : MethodId} {c : Code} {g : JFrame} (h : At T m c below) (hx : tb.exec = Jvm.exec) (hg : g.method = m) {x : Int64} {v : Int64} {rest : List Value} (hd : decode c.code g.pc = .ok (.lneg, 1)) (hs : g.stack = .long x :: rest) (hv : -x = v)
    (hr : Steps tb e below (T.setTop { g with pc := g.pc + 1, stack := .long v :: rest }) target) : Steps tb e below (T.setTop g) target := by
  subst hv
  exact XS.lneg h hx hg hd hs hr
theorem i2l {tb : Tables} [Ours tb] {e : Env} {below : List Frame} {T target : State} {m : MethodId} {c : Code} {g : JFrame} (h : At T m c below) (hx : tb.exec = Jvm.exec) (hg : g.method = m) {x : Int32} {v : Int64} {rest : List Value} (hd : decode c.code g.pc = .ok (.i2l, 1)) (hs : g.stack = .int x :: rest) (hv : x.toInt64 = v)
    (hr : Steps tb e below (T.setTop { g with pc := g.pc + 1, stack := .long v :: rest }) target) : Steps tb e below (T.setTop g) target := by
  subst hv
  exact XS.i2l h hx hg hd hs hr
theorem l2i {tb : Tables} [Ours tb] {e : Env} {below : List Frame} {T target : State} {m : MethodId} {c : Code} {g : JFrame} (h : At T m c below) (hx : tb.exec = Jvm.exec) (hg : g.method = m) {x : Int64} {v : Int32} {rest : List Value} (hd : decode c.code g.pc = .ok (.l2i, 1)) (hs : g.stack = .long x :: rest) (hv : x.toInt32 = v)
    (hr : Steps tb e below (T.setTop { g with pc := g.pc + 1, stack := .int v :: rest }) target) : Steps tb e below (T.setTop g) target := by
  subst hv
  exact XS.l2i h hx hg hd hs hr
theorem i2b {tb : Tables} [Ours tb] {e : Env} {below : List Frame} {T target : State} {m : MethodId} {c : Code} {g : JFrame} (h : At T m c below) (hx : tb.exec = Jvm.exec) (hg : g.method = m) {x : Int32} {v : Int32} {rest : List Value} (hd : decode c.code g.pc = .ok (.i2b, 1)) (hs : g.stack = .int x :: rest) (hv : x.toInt8.toInt32 = v)
    (hr : Steps tb e below (T.setTop { g with pc := g.pc + 1, stack := .int v :: rest }) target) : Steps tb e below (T.setTop g) target := by
  subst hv
  exact XS.i2b h hx hg hd hs hr
theorem i2s {tb : Tables} [Ours tb] {e : Env} {below : List Frame} {T target : State} {m : MethodId} {c : Code} {g : JFrame} (h : At T m c below) (hx : tb.exec = Jvm.exec) (hg : g.method = m) {x : Int32} {v : Int32} {rest : List Value} (hd : decode c.code g.pc = .ok (.i2s, 1)) (hs : g.stack = .int x :: rest) (hv : x.toInt16.toInt32 = v)
    (hr : Steps tb e below (T.setTop { g with pc := g.pc + 1, stack := .int v :: rest }) target) : Steps tb e below (T.setTop g) target := by
  subst hv
  exact XS.i2s h hx hg hd hs hr
theorem dadd {tb : Tables} [Ours tb] {e : Env} {below : List Frame} {T target : State} {m : MethodId} {c : Code} {g : JFrame} (h : At T m c below) (hx : tb.exec = Jvm.exec) (hg : g.method = m) {x y v : UInt64} {rest : List Value} (hd : decode c.code g.pc = .ok (.dadd, 1)) (hs : g.stack = .double y :: .double x :: rest) (hv : FP.dadd x y = v) (hn : Jvm.Free.Fl.NoNaN64 v)
    (hr : Steps tb e below (T.setTop { g with pc := g.pc + 1, stack := .double v :: rest }) target) : Steps tb e below (T.setTop g) target := by
  subst hv
  exact XS.daddS h hx hg hd hs hn rfl hr
theorem dsub {tb : Tables} [Ours tb] {e : Env} {below : List Frame} {T target : State} {m : MethodId} {c : Code} {g : JFrame} (h : At T m c below) (hx : tb.exec = Jvm.exec) (hg : g.method = m) {x y v : UInt64} {rest : List Value} (hd : decode c.code g.pc = .ok (.dsub, 1)) (hs : g.stack = .double y :: .double x :: rest) (hv : FP.dsub x y = v) (hn : Jvm.Free.Fl.NoNaN64 v)
    (hr : Steps tb e below (T.setTop { g with pc := g.pc + 1, stack := .double v :: rest }) target) : Steps tb e below (T.setTop g) target := by
  subst hv
  exact XS.dsubS h hx hg hd hs hn rfl hr
theorem dmul {tb : Tables} [Ours tb] {e : Env} {below : List Frame} {T target : State} {m : MethodId} {c : Code} {g : JFrame} (h : At T m c below) (hx : tb.exec = Jvm.exec) (hg : g.method = m) {x y v : UInt64} {rest : List Value} (hd : decode c.code g.pc = .ok (.dmul, 1)) (hs : g.stack = .double y :: .double x :: rest) (hv : FP.dmul x y = v) (hn : Jvm.Free.Fl.NoNaN64 v)
    (hr : Steps tb e below (T.setTop { g with pc := g.pc + 1, stack := .double v :: rest }) target) : Steps tb e below (T.setTop g) target := by
  subst hv
  exact XS.dmulS h hx hg hd hs hn rfl hr
theorem ddiv {tb : Tables} [Ours tb] {e : Env} {below : List Frame} {T target : State} {m : MethodId} {c : Code} {g : JFrame} (h : At T m c below) (hx : tb.exec = Jvm.exec) (hg : g.method = m) {x y v : UInt64} {rest : List Value} (hd : decode c.code g.pc = .ok (.ddiv, 1)) (hs : g.stack = .double y :: .double x :: rest) (hv : FP.ddiv x y = v) (hn : Jvm.Free.Fl.NoNaN64 v)
    (hr : Steps tb e below (T.setTop { g with pc := g.pc + 1, stack := .double v :: rest }) target) : Steps tb e below (T.setTop g) target := by
  subst hv
  exact XS.ddivS h hx hg hd hs hn rfl hr
theorem drem {tb : Tables} [Ours tb] {e : Env} {below : List Frame} {T target : State} {m : MethodId} {c : Code} {g : JFrame} (h : At T m c below) (hx : tb.exec = Jvm.exec) (hg : g.method = m) {x y v : UInt64} {rest : List Value} (hd : decode c.code g.pc = .ok (.drem, 1)) (hs : g.stack = .double y :: .double x :: rest) (hv : FP.drem x y = v) (hn : Jvm.Free.Fl.NoNaN64 v)
    (hr : Steps tb e below (T.setTop { g with pc := g.pc + 1, stack := .double v :: rest }) target) : Steps tb e below (T.setTop g) target := by
  subst hg
  subst hv
  obtain ⟨gm, gp, gl, gs, gk, ge, gr⟩ := g
  simp only at hs hd
  subst hs
  jvm_step h [h.top, hx, hd, Op.drem.at_number h.top hn]
  exact hr
theorem lcmp {tb : Tables} [Ours tb] {e : Env} {below : List Frame} {T target : State} {m : MethodId} {c : Code} {g : JFrame} (h : At T m c below) (hx : tb.exec = Jvm.exec) (hg : g.method = m) {x y : Int64} {v : Int32} {rest : List Value} (hd : decode c.code g.pc = .ok (.lcmp, 1)) (hs : g.stack = .long y :: .long x :: rest) (hv : lcmpW x y = v)
    (hr : Steps tb e below (T.setTop { g with pc := g.pc + 1, stack := .int v :: rest }) target) : Steps tb e below (T.setTop g) target := by
  subst hv
  exact XS.lcmp h hx hg hd hs hr
theorem iinc {tb : Tables} [Ours tb] {e : Env} {below : List Frame} {T target : State} {m : MethodId} {c : Code} {g : JFrame} (h : At T m c below) (hx : tb.exec = Jvm.exec) (hg : g.method = m) {k : Nat} {cst : Int} {x v : Int32} {l' : Array Slot} (hd : decode c.code g.pc = .ok (.iinc k cst, 3)) (hl : g.locals[k]? = some (.val (.int x))) (hv : x + Int32.ofInt cst = v) (hl' : storeLocals g.locals k (.int v) = some l')
    (hr : Steps tb e below (T.setTop { g with pc := g.pc + 3, locals := l' }) target) : Steps tb e below (T.setTop g) target := by
  subst hv
  exact XS.iinc h hx hg hd hl hl' hr
theorem dup2 {tb : Tables} [Ours tb] {e : Env} {below : List Frame} {T target : State} {m : MethodId} {c : Code} {g : JFrame} (h : At T m c below) (hx : tb.exec = Jvm.exec) (hg : g.method = m) {x y : Value} {rest : List Value} (hd : decode c.code g.pc = .ok (.dup2, 1)) (hs : g.stack = x :: y :: rest) (hc : x.category = 1) (hc' : y.category = 1)
    (hr : Steps tb e below (T.setTop { g with pc := g.pc + 1, stack := x :: y :: x :: y :: rest }) target) : Steps tb e below (T.setTop g) target := Jvm.Free.XT.dup2 h hx hg hd hs hc hc' hr
theorem dup2W {tb : Tables} [Ours tb] {e : Env} {below : List Frame} {T target : State} {m : MethodId} {c : Code} {g : JFrame} (h : At T m c below) (hx : tb.exec = Jvm.exec) (hg : g.method = m) {x : Value} {rest : List Value} (hd : decode c.code g.pc = .ok (.dup2, 1)) (hs : g.stack = x :: rest) (hc : x.category = 2)
    (hr : Steps tb e below (T.setTop { g with pc := g.pc + 1, stack := x :: x :: rest }) target) : Steps tb e below (T.setTop g) target := by
  subst hg
  jvm_step h [h.top, hx, hd, hs, hc]
  exact hr
theorem Sta_keep {Z : State} {h h' : Heap} {C n d : String} {w : Value} {ws : List Addr} (F : Sta Z h C n d w) (K : Keep h h' ws) (hn : ∀ x ∈ ws, ∀ cell : Cell, h[x]? = some cell → cell.vm.isStatics = false) : Sta Z h' C n d w := by
  obtain ⟨cf, i, k, f, st, cell, h1, h2, h3, h4, h5, h6, h7⟩ := F
  refine ⟨cf, i, k, f, st, cell, h1, h2, h3, h4, K.2.1 st cell h5 (fun q => ?_), h6, h7⟩
  rw [hn st q cell h5] at h6; cases h6
end Jvm.OwnK
namespace Jvm.OwnF
open Jvm.FP Jvm.FP.Core
/-! doubles as whole numbers of units of 2^-1074 -/
def V (a : UInt64) : Int := zval b64 (val64 a)
def BIG : Nat := 2 ^ 2000
/-- the rounding of n / d, in units -/
def rnd (n : Int) (d : Nat) : Int := zval b64 (roundRatio b64 (decide (n < 0)) n.natAbs d (-1074))
theorem zval_zero (s : Bool) (d : Nat) (e : Int) : zval b64 (roundRatio b64 s 0 d e) = 0 := by
  unfold roundRatio
  rw [if_pos rfl]
  show signed s (0 * 2 ^ (b64.qmin - b64.qmin).toNat) = 0
  rw [Nat.zero_mul, signed_zero]
theorem rnd_signed (s : Bool) (N d : Nat) : zval b64 (roundRatio b64 s N d (-1074)) = rnd (signed s N) d := by
  unfold rnd
  rw [natAbs_signed]
  by_cases h : N = 0
  · subst h; rw [zval_zero, zval_zero]
  · rw [signed_lt_zero s (by omega)]
theorem signed_natAbs (n : Int) : signed (decide (n < 0)) n.natAbs = n := by
  unfold signed
  by_cases h : n < 0 <;> simp [h] <;> omega
theorem bigV : Jvm.FP.Core.fits b64 (.fin false (2 ^ 52) 874) := by refine ⟨?_, ?_, ?_, ?_⟩ <;> decide
theorem bigZ : zmag b64 (.fin false (2 ^ 52) 874) = BIG := by
  show 2 ^ 52 * 2 ^ (874 - b64.qmin).toNat = 2 ^ 2000
  rw [qmin_b64, show (874 - (-1074) : Int).toNat = 1948 from rfl, ← Nat.pow_add]
theorem big_lt : BIG < b64.tails * 2 ^ (b64.exps - 2) := by
  rw [tails_b64, show b64.exps - 2 = 2046 by decide, ← Nat.pow_add]
  exact Nat.pow_lt_pow_right (by decide) (by decide)
theorem un0 (A : Nat) : inUnits A (-1074) (-1074) = A := by unfold inUnits; simp
theorem round_le_big {s : Bool} {A B : Nat} (hB : 0 < B) (h : A ≤ BIG * B) : zmag b64 (roundRatio b64 s A B (-1074)) ≤ BIG := by
  have := zmag_roundRatio_le good_b64 (s := s) (A := A) (B := B) (e := -1074) (e0 := -1074) hB bigV Datum.noConfusion (by rw [qmin_b64]; decide) (by decide) (by rw [bigZ, un0, qmin_b64]; simpa using h)
  rwa [bigZ] at this
theorem fin_round {s : Bool} {A B : Nat} (hB : 0 < B) (h : A ≤ BIG * B) : ∃ c q, roundRatio b64 s A B (-1074) = .fin s c q := by
  rcases roundRatio_cases b64 s A B (-1074) with h1 | h1
  · exact h1
  · exfalso
    have h2 := round_le_big (s := s) hB h
    rw [h1] at h2
    have h3 : zmag b64 (.inf s) = b64.tails * 2 ^ (b64.exps - 2) := rfl
    have := big_lt
    omega
theorem noNaN_fin {a : UInt64} (h : DFin a) : Jvm.Free.Fl.NoNaN64 a := by
  rw [Jvm.Free.Fl.val64_no]; obtain ⟨s, c, q, e⟩ := h; rw [e]; exact Datum.noConfusion
theorem V_dadd {a b : UInt64} (ha : DFin a) (hb : DFin b) (h : (V a + V b).natAbs ≤ BIG) : DFin (FP.dadd a b) ∧ V (FP.dadd a b) = rnd (V a + V b) 1 := by
  obtain ⟨s, c, q, ea⟩ := ha
  obtain ⟨t, d, r, eb⟩ := hb
  have fa : Jvm.FP.Core.fits b64 (.fin s c q) := ea ▸ val64_fits a
  have fb : Jvm.FP.Core.fits b64 (.fin t d r) := eb ▸ val64_fits b
  obtain ⟨sg, n, e, p1, p2, p3⟩ := sum_units fa fb
  rw [qmin_b64] at p2 p3
  have hv : val64 (FP.dadd a b) = roundRatio b64 sg (inUnits n e (-1074)) 1 (-1074) := by
    rw [show FP.dadd a b = Core.dadd a b from rfl, val64_dadd, ea, eb, p1]
    show roundRatio b64 sg n 1 e = _
    refine roundRatio_congr (by decide) (by decide) ?_
    rw [show (-1074 - e).toNat = 0 by omega]
    unfold inUnits; simp
  have hS : signed sg (inUnits n e (-1074)) = V a + V b := by unfold V; rw [ea, eb]; exact p3
  have hN : inUnits n e (-1074) = (V a + V b).natAbs := by rw [← hS, natAbs_signed]
  obtain ⟨c', q', hh⟩ := fin_round (s := sg) (A := inUnits n e (-1074)) (B := 1) (by decide) (by rw [Nat.mul_one, hN]; exact h)
  refine ⟨⟨sg, c', q', hv.trans hh⟩, ?_⟩
  show zval b64 (val64 (FP.dadd a b)) = _
  rw [hv, rnd_signed, hS]
theorem V_neg (a : UInt64) : V (Core.dneg a) = -V a := by unfold V; rw [Core.val64_dneg, zval_negate]
theorem fin_neg {a : UInt64} (h : DFin a) : DFin (Core.dneg a) := by
  obtain ⟨s, c, q, e⟩ := h
  exact ⟨!s, c, q, by rw [Core.val64_dneg, e]; rfl⟩
theorem V_dsub {a b : UInt64} (ha : DFin a) (hb : DFin b) (h : (V a - V b).natAbs ≤ BIG) : DFin (FP.dsub a b) ∧ V (FP.dsub a b) = rnd (V a - V b) 1 := by
  have e : FP.dsub a b = FP.dadd a (Core.dneg b) := dsub_eq a b
  rw [e]
  have := V_dadd ha (fin_neg hb) (by rw [V_neg]; exact h)
  rw [V_neg] at this
  exact this
theorem zmag_V (a : UInt64) : zmag b64 (val64 a) = (V a).natAbs := by unfold V zval; rw [natAbs_signed]
theorem V_dmul {a b : UInt64} (ha : DFin a) (hb : DFin b) (h : (V a * V b).natAbs ≤ BIG * one64) : DFin (FP.dmul a b) ∧ V (FP.dmul a b) = rnd (V a * V b) one64 := by
  have za := zmag_V a
  have zb := zmag_V b
  obtain ⟨s, c, q, ea⟩ := ha
  obtain ⟨t, d, r, eb⟩ := hb
  have fa : Jvm.FP.Core.fits b64 (.fin s c q) := ea ▸ val64_fits a
  have fb : Jvm.FP.Core.fits b64 (.fin t d r) := eb ▸ val64_fits b
  obtain ⟨p1, p2, p3⟩ := product_units fa fb
  rw [← ea, ← eb, za, zb, ← Int.natAbs_mul] at p3
  rw [qmin_b64] at p2 p3
  have hv : val64 (FP.dmul a b) = roundRatio b64 (s != t) (V a * V b).natAbs one64 (-1074) := by
    rw [show FP.dmul a b = Core.dmul a b from rfl, val64_dmul, ea, eb, p1]
    show roundRatio b64 (s != t) (c * d) 1 (q + r) = _
    refine roundRatio_congr (by decide) one64_pos ?_
    rw [← p3]
    unfold inUnits one64
    rw [Nat.mul_one, Nat.mul_assoc (c * d), Nat.mul_assoc (c * d), ← Nat.pow_add, ← Nat.pow_add]
    congr 2
    omega
  have hS : signed (s != t) (V a * V b).natAbs = V a * V b := by
    rw [Int.natAbs_mul, signed_xor, ← za, ← zb]
    unfold V zval
    rw [ea, eb]
    rfl
  obtain ⟨c', q', hh⟩ := fin_round (s := s != t) (A := (V a * V b).natAbs) (B := one64) one64_pos h
  refine ⟨⟨_, c', q', hv.trans hh⟩, ?_⟩
  show zval b64 (val64 (FP.dmul a b)) = _
  rw [hv, rnd_signed, hS]
theorem pw2 (c d x y : Nat) : c * (d * 2 ^ x) * 2 ^ y = c * d * 2 ^ (x + y) := by rw [Nat.pow_add]; ac_rfl
theorem pw3 (c d x y z : Nat) : c * 2 ^ x * 2 ^ y * d * 2 ^ z = c * d * 2 ^ (x + y + z) := by rw [Nat.pow_add, Nat.pow_add]; ac_rfl
theorem V_ddiv {a b : UInt64} (ha : DFin a) (hb : DFin b) (h0 : V b ≠ 0) (h : (V a).natAbs * one64 ≤ BIG * (V b).natAbs) : DFin (FP.ddiv a b) ∧ V (FP.ddiv a b) = rnd (V a * (one64 : Int) * (V b).sign) (V b).natAbs := by
  have za := zmag_V a
  have zb := zmag_V b
  have sb : (V b).sign = signed (sgn (val64 b)) 1 := by
    unfold V zval at h0 ⊢
    cases hsg : sgn (val64 b) <;> rw [hsg] at h0 <;> simp only [signed, if_true, Bool.false_eq_true, if_false] at h0 ⊢
    · exact Int.sign_eq_one_of_pos (by omega)
    · exact Int.sign_eq_neg_one_of_neg (by omega)
  obtain ⟨s, c, q, ea⟩ := ha
  obtain ⟨t, d, r, eb⟩ := hb
  have fa : Jvm.FP.Core.fits b64 (.fin s c q) := ea ▸ val64_fits a
  have fb : Jvm.FP.Core.fits b64 (.fin t d r) := eb ▸ val64_fits b
  have hq1 := fa.2.1
  have hr1 := fb.2.1
  rw [qmin_b64] at hq1 hr1
  have ma : (V a).natAbs = c * 2 ^ (q - (-1074)).toNat := by rw [← za, ea]; show inUnits c q b64.qmin = _; rw [qmin_b64]; rfl
  have mb : (V b).natAbs = d * 2 ^ (r - (-1074)).toNat := by rw [← zb, eb]; show inUnits d r b64.qmin = _; rw [qmin_b64]; rfl
  have hd0 : d ≠ 0 := by
    rintro rfl
    rw [Nat.zero_mul] at mb; omega
  have hBp : 0 < (V b).natAbs := by omega
  have hv : val64 (FP.ddiv a b) = roundRatio b64 (s != t) ((V a).natAbs * one64) (V b).natAbs (-1074) := by
    rw [show FP.ddiv a b = Core.ddiv a b from rfl, val64_ddiv, ea, eb]
    simp only [quotient, if_neg hd0]
    refine roundRatio_congr (by omega) hBp ?_
    rw [ma, mb]
    unfold one64
    rw [pw2, pw3]
    congr 2
    omega
  have hS : signed (s != t) ((V a).natAbs * one64) = V a * (one64 : Int) * (V b).sign := by
    rw [sb, eb]
    show _ = _ * signed t 1
    have : signed (s != t) ((V a).natAbs * one64 * 1) = signed s ((V a).natAbs * one64) * signed t 1 := signed_xor s t _ 1
    rw [Nat.mul_one] at this
    rw [this, signed_mul]
    congr 2
    rw [← za]
    unfold V zval
    rw [ea]
    rfl
  obtain ⟨c', q', hh⟩ := fin_round (s := s != t) (A := (V a).natAbs * one64) (B := (V b).natAbs) hBp h
  refine ⟨⟨_, c', q', hv.trans hh⟩, ?_⟩
  show zval b64 (val64 (FP.ddiv a b)) = _
  rw [hv, rnd_signed, hS]
theorem V_of_int {a : UInt64} {n : Int} (ha : val64 a = round b64 (ofInt n)) (h : n.natAbs ≤ 2 ^ 64) : DFin a ∧ V a = rnd (n * (one64 : Int)) 1 := by
  have hv : val64 a = roundRatio b64 (decide (n < 0)) (n.natAbs * one64) 1 (-1074) := by
    rw [ha]
    show roundRatio b64 (decide (n < 0)) n.natAbs 1 0 = _
    refine roundRatio_congr (by decide) (by decide) ?_
    unfold one64
    rw [show (0 - (-1074) : Int).toNat = 1074 from rfl, show (-1074 - 0 : Int).toNat = 0 from rfl]
    simp
  have hS : signed (decide (n < 0)) (n.natAbs * one64) = n * (one64 : Int) := by rw [signed_mul, signed_natAbs]
  have hB : n.natAbs * one64 ≤ BIG := by
    refine Nat.le_trans (Nat.mul_le_mul_right _ h) ?_
    unfold one64 BIG
    rw [← Nat.pow_add]
    exact Nat.pow_le_pow_right (by decide) (by decide)
  obtain ⟨c', q', hh⟩ := fin_round (s := decide (n < 0)) (A := n.natAbs * one64) (B := 1) (by decide) (by rw [Nat.mul_one]; exact hB)
  refine ⟨⟨_, c', q', hv.trans hh⟩, ?_⟩
  show zval b64 (val64 a) = _
  rw [hv, rnd_signed, hS]
theorem V_l2d (n : Int64) : DFin (FP.l2d n) ∧ V (FP.l2d n) = rnd (n.toInt * (one64 : Int)) 1 :=
  V_of_int (val64_l2d n) (Nat.le_trans (int64_abs n) (by decide))
theorem V_i2d (n : Int32) : DFin (FP.i2d n) ∧ V (FP.i2d n) = rnd (n.toInt * (one64 : Int)) 1 :=
  V_of_int (val64_i2d n) (Nat.le_trans (int32_abs n) (by decide))
theorem V_drem {a b : UInt64} (ha : DFin a) (hb : DFin b) (h0 : V b ≠ 0) : DFin (FP.drem a b) ∧ V (FP.drem a b) = (V a).tmod (V b) := by
  have za := zmag_V a
  have zb := zmag_V b
  obtain ⟨s, c, q, ea⟩ := ha
  obtain ⟨t, d, r, eb⟩ := hb
  have fa : Jvm.FP.Core.fits b64 (.fin s c q) := ea ▸ val64_fits a
  have fb : Jvm.FP.Core.fits b64 (.fin t d r) := eb ▸ val64_fits b
  have hd0 : d ≠ 0 := by
    rintro rfl
    rw [eb] at zb
    have : zmag b64 (.fin t 0 r) = 0 := Nat.zero_mul _
    omega
  obtain ⟨c', q', h1, h2⟩ := remainder_exact good_b64 fa fb hd0
  have hv : val64 (FP.drem a b) = .fin s c' q' := by rw [show FP.drem a b = Core.drem a b from rfl, val64_drem, ea, eb, h1]
  refine ⟨⟨_, _, _, hv⟩, ?_⟩
  have h3 : zmag b64 (.fin s c' q') = (V a).natAbs % (V b).natAbs := by rw [← za, ← zb, ea, eb]; exact h2
  have hVa : V a = signed s (V a).natAbs := by rw [← za]; unfold V zval; rw [ea]; rfl
  show zval b64 (val64 (FP.drem a b)) = _
  rw [hv]
  show signed s (zmag b64 (.fin s c' q')) = _
  rw [h3]
  have hb2 : ∀ x : Int, x.tmod (V b) = x.tmod ((V b).natAbs : Int) := by
    intro x
    rcases Int.natAbs_eq (V b) with e | e
    · rw [← e]
    · rw [e, Int.tmod_neg]; simp
  rw [hb2]
  generalize (V b).natAbs = B at *
  generalize (V a).natAbs = A at *
  rw [hVa]
  cases s <;> simp [signed] <;> exact (Int.tmod_eq_emod_of_nonneg (Int.natCast_nonneg A)).symm
theorem cmp_V {a b : UInt64} (ha : DFin a) (hb : DFin b) : FP.dcmp a b = some (compare (V a) (V b)) := by
  obtain ⟨s, c, q, ea⟩ := ha
  obtain ⟨t, d, r, eb⟩ := hb
  exact dcmp_zval (by rw [ea]; exact Datum.noConfusion) (by rw [eb]; exact Datum.noConfusion)
/-! the rounding -/
theorem rnd_congr {n n' : Int} {d d' : Nat} (hd : 0 < d) (hd' : 0 < d') (h : n * (d' : Int) = n' * (d : Int)) : rnd n d = rnd n' d' := by
  have hs : (n < 0) ↔ (n' < 0) := by
    have p1 : (0 : Int) < d := by omega
    have p2 : (0 : Int) < d' := by omega
    constructor
    · intro q
      have := Int.mul_neg_of_neg_of_pos q p2
      refine Int.lt_of_not_ge fun q' => ?_
      have := Int.mul_nonneg q' (Int.le_of_lt p1)
      omega
    · intro q
      have := Int.mul_neg_of_neg_of_pos q p1
      refine Int.lt_of_not_ge fun q' => ?_
      have := Int.mul_nonneg q' (Int.le_of_lt p2)
      omega
  have hm : n.natAbs * d' = n'.natAbs * d := by
    have := congrArg Int.natAbs h
    rwa [Int.natAbs_mul, Int.natAbs_mul, Int.natAbs_natCast, Int.natAbs_natCast] at this
  unfold rnd
  rw [show decide (n < 0) = decide (n' < 0) from decide_eq_decide.mpr hs]
  congr 1
  exact roundRatio_congr hd hd' (by simpa using hm)
/-- at most 53 binary digits -/
def Rep (r : Int) : Prop := ∃ (m : Int) (e : Nat), r = m * ((2 ^ e : Nat) : Int) ∧ m.natAbs < 2 ^ 53 ∧ e ≤ 2045
theorem rnd_exact {n : Int} {d : Nat} {r : Int} (hd : 0 < d) (h : n = r * (d : Int)) (hr : Rep r) : rnd n d = r := by
  rw [rnd_congr (n' := r) (d' := 1) hd (by decide) (by rw [h]; simp)]
  obtain ⟨m, e, rfl, hm, he⟩ := hr
  have hsg : ∀ k : Nat, signed (decide (m < 0)) (m.natAbs * k) = m * (k : Int) := fun k => by rw [signed_mul, signed_natAbs]
  have h1 : rnd (m * ((2 ^ e : Nat) : Int)) 1 = zval b64 (roundRatio b64 (decide (m < 0)) (m.natAbs * 2 ^ e) 1 (-1074)) := by rw [rnd_signed, hsg]
  rw [h1]
  obtain ⟨c', q', h2, h3⟩ := round_exact good_b64 (decide (m < 0)) (c := m.natAbs) (q := (e : Int) - 1074) hm (by rw [qmin_b64]; omega) (by rw [show b64.qmax = 971 by decide]; omega)
  have h4 : roundRatio b64 (decide (m < 0)) (m.natAbs * 2 ^ e) 1 (-1074) = roundRatio b64 (decide (m < 0)) m.natAbs 1 ((e : Int) - 1074) := by
    refine roundRatio_congr (by decide) (by decide) ?_
    rw [show (-1074 - ((e : Int) - 1074)).toNat = 0 by omega, show ((e : Int) - 1074 - -1074).toNat = e by omega]
    simp
  rw [h4]
  have h5 : roundRatio b64 (decide (m < 0)) m.natAbs 1 ((e : Int) - 1074) = .fin (decide (m < 0)) c' q' := h2
  rw [h5]
  show signed _ (inUnits c' q' b64.qmin) = _
  rw [h3, ← hsg]
  unfold inUnits
  rw [qmin_b64, show ((e : Int) - 1074 - -1074).toNat = e by omega]
  rfl
theorem rep_V {a : UInt64} (ha : DFin a) : Rep (V a) := by
  obtain ⟨s, c, q, ea⟩ := ha
  have fa : Jvm.FP.Core.fits b64 (.fin s c q) := ea ▸ val64_fits a
  obtain ⟨h1, h2, h3, -⟩ := fa
  rw [qmin_b64] at h2
  rw [show b64.qmax = 971 by decide] at h3
  refine ⟨signed s c, (q - (-1074)).toNat, ?_, by rw [natAbs_signed]; exact h1, by omega⟩
  unfold V zval
  rw [ea]
  show signed s (c * 2 ^ (q - b64.qmin).toNat) = _
  rw [signed_mul, qmin_b64]
theorem V_le {a : UInt64} : (V a).natAbs ≤ (V a).natAbs := Nat.le_refl _
end Jvm.OwnF
namespace Jvm.OwnF
open Jvm.FP Jvm.FP.Core
/-! exact values: a is n / 2^k -/
def R53 (n : Int) : Prop := ∃ (m : Int) (e : Nat), n = m * ((2 ^ e : Nat) : Int) ∧ m.natAbs ≤ 2 ^ 53 ∧ e ≤ 800
def DV (n : Int) (k : Nat) (a : UInt64) : Prop := DFin a ∧ k ≤ 1074 ∧ V a = n * ((2 ^ (1074 - k) : Nat) : Int)
theorem r53 {n : Int} (h : n.natAbs ≤ 2 ^ 53) : R53 n := ⟨n, 0, by simp, h, by decide⟩
theorem rep_of {m : Int} {e : Nat} (hm : m.natAbs ≤ 2 ^ 53) (he : e ≤ 1900) : Rep (m * ((2 ^ e : Nat) : Int)) := by
  by_cases h : m.natAbs < 2 ^ 53
  · exact ⟨m, e, rfl, h, by omega⟩
  · refine ⟨m.sign, e + 53, ?_, ?_, by omega⟩
    · have h1 : m.natAbs = 2 ^ 53 := by omega
      have h2 : m = m.sign * (m.natAbs : Int) := (Int.sign_mul_natAbs m).symm
      conv => lhs; rw [h2, h1]
      rw [Nat.pow_add, Int.natCast_mul, Int.mul_assoc]
      congr 1
      rw [Int.mul_comm]
    · have : m.sign.natAbs ≤ 1 := by
        rcases Int.lt_trichotomy m 0 with q | q | q
        · rw [Int.sign_eq_neg_one_of_neg q]; decide
        · rw [q]; decide
        · rw [Int.sign_eq_one_of_pos q]; decide
      omega
theorem rep_R {n : Int} (h : R53 n) {k : Nat} (hk : k ≤ 1074) : Rep (n * ((2 ^ k : Nat) : Int)) := by
  obtain ⟨m, e, rfl, hm, he⟩ := h
  rw [Int.mul_assoc, ← Int.natCast_mul, ← Nat.pow_add]
  exact rep_of hm (by omega)
theorem big_R {n : Int} (h : R53 n) {k : Nat} (hk : k ≤ 1074) : (n * ((2 ^ k : Nat) : Int)).natAbs ≤ BIG := by
  obtain ⟨m, e, rfl, hm, he⟩ := h
  rw [Int.natAbs_mul, Int.natAbs_mul, Int.natAbs_natCast, Int.natAbs_natCast, Nat.mul_assoc, ← Nat.pow_add]
  refine Nat.le_trans (Nat.mul_le_mul_right _ hm) ?_
  unfold BIG
  rw [← Nat.pow_add]
  exact Nat.pow_le_pow_right (by decide) (by omega)
theorem DV.fin {n : Int} {k : Nat} {a : UInt64} (h : DV n k a) : DFin a := h.1
theorem DV.nn {n : Int} {k : Nat} {a : UInt64} (h : DV n k a) : Jvm.Free.Fl.NoNaN64 a := noNaN_fin h.1
theorem DV.of_eq {n m : Int} {k : Nat} {a : UInt64} (h : DV n k a) (e : n = m) : DV m k a := e ▸ h
theorem DV.up {n : Int} {k : Nat} {a : UInt64} (h : DV n k a) (j : Nat) (hj : k + j ≤ 1074) : DV (n * ((2 ^ j : Nat) : Int)) (k + j) a := by
  refine ⟨h.1, hj, ?_⟩
  rw [h.2.2, Int.mul_assoc, ← Int.natCast_mul, ← Nat.pow_add]
  congr 4
  omega
theorem DV.down {n : Int} {k j : Nat} {a : UInt64} (h : DV (n * ((2 ^ j : Nat) : Int)) (k + j) a) : DV n k a := by
  refine ⟨h.1, by have := h.2.1; omega, ?_⟩
  rw [h.2.2, Int.mul_assoc, ← Int.natCast_mul, ← Nat.pow_add]
  congr 4
  have := h.2.1; omega
theorem DV_of_V {n : Int} {k : Nat} {a : UInt64} (hf : DFin a) (hk : k ≤ 1074) (hn : R53 n) (h : V a = rnd (n * ((2 ^ (1074 - k) : Nat) : Int)) 1) : DV n k a :=
  ⟨hf, hk, by rw [h]; exact rnd_exact (by decide) (by simp) (rep_R hn (by omega))⟩
theorem DV_add {n m : Int} {k : Nat} {a b : UInt64} (ha : DV n k a) (hb : DV m k b) (h : R53 (n + m)) : DV (n + m) k (FP.dadd a b) := by
  have e : V a + V b = (n + m) * ((2 ^ (1074 - k) : Nat) : Int) := by rw [ha.2.2, hb.2.2, Int.add_mul]
  obtain ⟨h1, h2⟩ := V_dadd ha.1 hb.1 (by rw [e]; exact big_R h (by omega))
  exact DV_of_V h1 ha.2.1 h (by rw [h2, e])
theorem DV_sub {n m : Int} {k : Nat} {a b : UInt64} (ha : DV n k a) (hb : DV m k b) (h : R53 (n - m)) : DV (n - m) k (FP.dsub a b) := by
  have e : V a - V b = (n - m) * ((2 ^ (1074 - k) : Nat) : Int) := by rw [ha.2.2, hb.2.2, Int.sub_mul]
  obtain ⟨h1, h2⟩ := V_dsub ha.1 hb.1 (by rw [e]; exact big_R h (by omega))
  exact DV_of_V h1 ha.2.1 h (by rw [h2, e])
theorem DV_mul {n m : Int} {k j : Nat} {a b : UInt64} (ha : DV n k a) (hb : DV m j b) (hkj : k + j ≤ 1074) (h : R53 (n * m)) : DV (n * m) (k + j) (FP.dmul a b) := by
  have e : V a * V b = (n * m) * ((2 ^ (1074 - (k + j)) : Nat) : Int) * (one64 : Int) := by
    rw [ha.2.2, hb.2.2]
    have : ((2 ^ (1074 - (k + j)) : Nat) : Int) * (one64 : Int) = ((2 ^ (1074 - k) : Nat) : Int) * ((2 ^ (1074 - j) : Nat) : Int) := by
      rw [← Int.natCast_mul, ← Int.natCast_mul]
      unfold one64
      rw [← Nat.pow_add, ← Nat.pow_add]
      congr 2
      have := ha.2.1; have := hb.2.1; omega
    rw [Int.mul_assoc (n * m), this]
    ac_rfl
  obtain ⟨h1, h2⟩ := V_dmul ha.1 hb.1 (by
    rw [e, Int.natAbs_mul, Int.natAbs_natCast]
    exact Nat.mul_le_mul_right _ (big_R h (by omega)))
  refine ⟨h1, hkj, ?_⟩
  rw [h2]
  exact rnd_exact one64_pos e (rep_R h (by omega))
theorem divalg {n c m P Q X U I J : Int} (h : n * P = c * m * Q) (e2 : X * Q = U) (e3 : I * J * P = U * U) : n * X * U * (Q * P) = c * I * (m * J) * (Q * P) := by
  have l : n * X * U * (Q * P) = (n * P) * (X * Q) * U := by ac_rfl
  have r : c * I * (m * J) * (Q * P) = c * m * Q * (I * J * P) := by ac_rfl
  rw [l, r, h, e2, e3, Int.mul_assoc (c * m * Q)]
theorem DV_div {n m c : Int} {k j i : Nat} {a b : UInt64} (ha : DV n k a) (hb : DV m j b) (hi : i ≤ 1074) (hm : m ≠ 0) (hc : R53 c) (h : n * ((2 ^ (j + i) : Nat) : Int) = c * m * ((2 ^ k : Nat) : Int)) : DV c i (FP.ddiv a b) := by
  have hb0 : V b ≠ 0 := by
    rw [hb.2.2]
    intro q
    rcases Int.mul_eq_zero.mp q with q | q
    · exact hm q
    · have := Nat.two_pow_pos (1074 - j); omega
  have hk := ha.2.1
  have hj := hb.2.1
  -- V a * U = (c * 2^(1074 - i)) * V b
  have e : V a * (one64 : Int) = c * ((2 ^ (1074 - i) : Nat) : Int) * V b := by
    have pp : ((2 ^ (k + j + i) : Nat) : Int) ≠ 0 := by have := Nat.two_pow_pos (k + j + i); omega
    refine Int.eq_of_mul_eq_mul_right pp ?_
    rw [ha.2.2, hb.2.2]
    have e1 : ((2 ^ (k + j + i) : Nat) : Int) = ((2 ^ k : Nat) : Int) * ((2 ^ (j + i) : Nat) : Int) := by rw [← Int.natCast_mul, ← Nat.pow_add, Nat.add_assoc]
    have e2 : ((2 ^ (1074 - k) : Nat) : Int) * ((2 ^ k : Nat) : Int) = (one64 : Int) := by rw [← Int.natCast_mul, ← Nat.pow_add, Nat.sub_add_cancel hk]; rfl
    have e3 : ((2 ^ (1074 - i) : Nat) : Int) * ((2 ^ (1074 - j) : Nat) : Int) * ((2 ^ (j + i) : Nat) : Int) = (one64 : Int) * (one64 : Int) := by
      rw [← Int.natCast_mul, ← Int.natCast_mul, ← Int.natCast_mul]
      unfold one64
      rw [← Nat.pow_add, ← Nat.pow_add, ← Nat.pow_add]
      congr 2
      omega
    rw [e1]
    exact divalg h e2 e3
  have ea : (V a).natAbs * one64 = (c * ((2 ^ (1074 - i) : Nat) : Int)).natAbs * (V b).natAbs := by
    have := congrArg Int.natAbs e
    rwa [Int.natAbs_mul, Int.natAbs_mul, Int.natAbs_natCast] at this
  obtain ⟨h1, h2⟩ := V_ddiv ha.1 hb.1 hb0 (by rw [ea]; exact Nat.mul_le_mul_right _ (big_R hc (by omega)))
  refine ⟨h1, hi, ?_⟩
  rw [h2]
  refine rnd_exact (by omega) ?_ (rep_R hc (by omega))
  rw [e, Int.mul_assoc, Int.mul_sign_self]
theorem DV_l2d {n : Int64} (h : R53 n.toInt) : DV n.toInt 0 (FP.l2d n) := by
  obtain ⟨h1, h2⟩ := V_l2d n
  exact DV_of_V h1 (by decide) h h2
theorem DV_i2d (n : Int32) : DV n.toInt 0 (FP.i2d n) := by
  obtain ⟨h1, h2⟩ := V_i2d n
  exact DV_of_V h1 (by decide) (r53 (Nat.le_trans (int32_abs n) (by decide))) h2
theorem DV_const {a : UInt64} {n : Int} {k : Nat} (h1 : a.toNat % 2 ^ 63 < 9218868437227405312) (hk : k ≤ 1074) (h2 : V a = n * ((2 ^ (1074 - k) : Nat) : Int)) : DV n k a := ⟨(fin_bits a).mpr h1, hk, h2⟩
theorem DV_0 : DV 0 0 FP.dconst0 := DV_const (by decide) (by decide) (by decide +kernel)
theorem DV_1 : DV 1 0 FP.dconst1 := DV_const (by decide) (by decide) (by decide +kernel)
theorem DV_z : DV 0 0 (0 : UInt64) := DV_const (by decide) (by decide) (by decide +kernel)
theorem cmpv_V {a b : UInt64} (ha : DFin a) (hb : DFin b) (o : ClassFile.CmpOp) : (V a < V b → Op.cmpValue (FP.dcmp a b) o = -1) ∧ (V a = V b → Op.cmpValue (FP.dcmp a b) o = 0) ∧ (V b < V a → Op.cmpValue (FP.dcmp a b) o = 1) := by
  rw [cmp_V ha hb]
  refine ⟨fun h => ?_, fun h => ?_, fun h => ?_⟩
  · rw [(compare_lt_iff _ _).mpr h]; rfl
  · rw [(compare_eq_iff _ _).mpr h]; rfl
  · rw [(compare_gt_iff _ _).mpr h]; rfl
theorem DV_le {n m : Int} {k : Nat} {a b : UInt64} (ha : DV n k a) (hb : DV m k b) : (V a < V b ↔ n < m) ∧ (V a = V b ↔ n = m) := by
  rw [ha.2.2, hb.2.2]
  have hp : (0 : Int) < ((2 ^ (1074 - k) : Nat) : Int) := by have := Nat.two_pow_pos (1074 - k); omega
  exact ⟨Int.mul_lt_mul_right hp, ⟨fun q => Int.eq_of_mul_eq_mul_right (by omega) q, fun q => by rw [q]⟩⟩
theorem DV_cmp {n m : Int} {k : Nat} {a b : UInt64} (ha : DV n k a) (hb : DV m k b) (o : ClassFile.CmpOp) : (n < m → Op.cmpValue (FP.dcmp a b) o = -1) ∧ (n = m → Op.cmpValue (FP.dcmp a b) o = 0) ∧ (m < n → Op.cmpValue (FP.dcmp a b) o = 1) := by
  obtain ⟨h1, h2, h3⟩ := cmpv_V ha.1 hb.1 o
  exact ⟨fun q => h1 ((DV_le ha hb).1.mpr q), fun q => h2 ((DV_le ha hb).2.mpr q), fun q => h3 ((DV_le hb ha).1.mpr q)⟩
theorem DV_eq0 {n : Int} {k : Nat} {a b : UInt64} (ha : DV n k a) (hb : DV n k b) (o : ClassFile.CmpOp) : Op.cmpValue (FP.dcmp a b) o = 0 := (DV_cmp ha hb o).2.1 rfl
theorem DV_d2l {n : Int} {a : UInt64} (h : DV n 0 a) (h1 : -9223372036854775808 ≤ n) (h2 : n < 9223372036854775808) : (FP.d2l a).toInt = n := by
  obtain ⟨hf, -, hv⟩ := h
  have hn : val64 a ≠ .nan := by obtain ⟨s, c, q, e⟩ := hf; rw [e]; exact Datum.noConfusion
  rw [show FP.d2l a = Core.d2l a from rfl, d2l_val hn, zmag_V]
  have hs : signed (sgn (val64 a)) (V a).natAbs = V a := by rw [← zmag_V]; rfl
  have ho : (1074 - 0 : Nat) = 1074 := rfl
  rw [ho, show (2 ^ 1074 : Nat) = one64 from rfl] at hv
  have hm : (V a).natAbs = n.natAbs * one64 := by rw [hv, Int.natAbs_mul, Int.natAbs_natCast]
  have hd : (V a).natAbs / one64 = n.natAbs := by rw [hm, Nat.mul_div_cancel _ one64_pos]
  rw [hd]
  have hsn : signed (sgn (val64 a)) n.natAbs = n := by
    rw [hm, signed_mul, hv] at hs
    exact Int.eq_of_mul_eq_mul_right (by have := one64_pos; omega) hs
  rw [hsn]
  omega
end Jvm.OwnF
namespace Jvm.OwnF
open Jvm.RoadKit
/-! ints and longs as whole numbers -/
theorem mul_bd {a b : Int} {A B : Nat} (ha : a.natAbs ≤ A) (hb : b.natAbs ≤ B) : (a * b).natAbs ≤ A * B := by rw [Int.natAbs_mul]; exact Nat.mul_le_mul ha hb
theorem iadd_v {x y z : Int32} (h : x + y = z) (hb : (x.toInt + y.toInt).natAbs < 2147483648) : z.toInt = x.toInt + y.toInt := by rw [← h, Int32.toInt_add]; exact Int.bmod_eq_of_le (by omega) (by omega)
theorem isub_v {x y z : Int32} (h : x - y = z) (hb : (x.toInt - y.toInt).natAbs < 2147483648) : z.toInt = x.toInt - y.toInt := by rw [← h, Int32.toInt_sub]; exact Int.bmod_eq_of_le (by omega) (by omega)
theorem imul_v {x y z : Int32} (h : x * y = z) (hb : (x.toInt * y.toInt).natAbs < 2147483648) : z.toInt = x.toInt * y.toInt := by rw [← h, Int32.toInt_mul]; exact Int.bmod_eq_of_le (by omega) (by omega)
theorem ladd_v {x y z : Int64} (h : x + y = z) (hb : (x.toInt + y.toInt).natAbs < 9223372036854775808) : z.toInt = x.toInt + y.toInt := by rw [← h, Int64.toInt_add]; exact Int.bmod_eq_of_le (by omega) (by omega)
theorem lsub_v {x y z : Int64} (h : x - y = z) (hb : (x.toInt - y.toInt).natAbs < 9223372036854775808) : z.toInt = x.toInt - y.toInt := by rw [← h, Int64.toInt_sub]; exact Int.bmod_eq_of_le (by omega) (by omega)
theorem lmul_v {x y z : Int64} (h : x * y = z) (hb : (x.toInt * y.toInt).natAbs < 9223372036854775808) : z.toInt = x.toInt * y.toInt := by rw [← h, Int64.toInt_mul]; exact Int.bmod_eq_of_le (by omega) (by omega)
theorem i2l_v {x : Int32} {z : Int64} (h : x.toInt64 = z) : z.toInt = x.toInt := by rw [← h]; exact c_i2l x
theorem l2i_v {x : Int64} {z : Int32} (h : x.toInt32 = z) (hb : -2147483648 ≤ x.toInt ∧ x.toInt < 2147483648) : z.toInt = x.toInt := by
  rw [← h]; have h1 := c_l2i x; have h2 := rng32 x.toInt32; omega
theorem rng32b (x : Int32) : x.toInt.natAbs ≤ 2147483648 := by have := rng32 x; omega
theorem rng64b (x : Int64) : x.toInt.natAbs ≤ 9223372036854775808 := by have := rng64 x; omega
theorem ishr16 {p z : Int32} (h : p >>> ((16 : Int32) &&& 31) = z) : z.toInt = p.toInt / 65536 := by
  rw [← h, c_ishr p 16 16 (by decide)]; rfl
theorem i2s_b {x z : Int32} (h : x.toInt16.toInt32 = z) : -32768 ≤ z.toInt ∧ z.toInt < 32768 := by rw [← h]; exact (c_i2s x).2
/-- x % y, y > 0, x ≥ 0 -/
theorem irem_v {x y z : Int32} (h : x % y = z) (hx : 0 ≤ x.toInt) : z.toInt = x.toInt % y.toInt := by rw [← h, Int32.toInt_mod]; exact Int.tmod_eq_emod_of_nonneg hx
theorem lrem_v {x y z : Int64} (h : x % y = z) (hx : 0 ≤ x.toInt) : z.toInt = x.toInt % y.toInt := by rw [← h, Int64.toInt_mod]; exact Int.tmod_eq_emod_of_nonneg hx
theorem mask31 {x z : Int32} (h : x &&& (2147483647 : Int32) = z) : 0 ≤ z.toInt ∧ z.toInt < 2147483648 := by
  rw [← h, c_mask x 2147483647 31 (by decide) (by decide)]
  have e : ((2 ^ 31 : Nat) : Int) = 2147483648 := by decide
  rw [e]; omega
/-- x << q, q < 64, no overflow -/
theorem lshl_v {x z : Int64} {q : Int32} (h : x <<< (q &&& 0x3f).toInt64 = z) {k : Nat} (hq : q.toInt = (k : Int)) (hk : k < 64) (hb : (x.toInt * ((2 ^ k : Nat) : Int)).natAbs < 9223372036854775808) : z.toInt = x.toInt * ((2 ^ k : Nat) : Int) := by
  have hn : q.toBitVec.toNat % 64 = k := by
    have e : q.toBitVec.toNat = k := by
      have h1 : q.toBitVec.toInt = (k : Int) := hq
      have h2 := BitVec.toInt_eq_toNat_bmod q.toBitVec
      rw [h1] at h2
      have h3 := q.toBitVec.isLt
      have h4 := Int.bmod_emod (x := (q.toBitVec.toNat : Int)) (m := 2 ^ 32)
      omega
    omega
  have := c_lshl x q k hn
  rw [h] at this
  have r := rng64 z
  omega
end Jvm.OwnF
namespace Jvm.OwnF
open Jvm.RoadKit
theorem nat32 {q : Int32} {k : Nat} (hq : q.toInt = (k : Int)) : q.toBitVec.toNat = k := by
  have h1 : q.toBitVec.toInt = (k : Int) := hq
  have h2 := BitVec.toInt_eq_toNat_bmod q.toBitVec
  rw [h1] at h2
  have h3 := q.toBitVec.isLt
  have h5 := rng32 q
  have h4 := Int.bmod_emod (x := (q.toBitVec.toNat : Int)) (m := 2 ^ 32)
  omega
theorem ishl_v {x z q : Int32} (h : x <<< (q &&& 31) = z) {k : Nat} (hq : q.toInt = (k : Int)) (hk : k < 32) (hb : (x.toInt * ((2 ^ k : Nat) : Int)).natAbs < 2147483648) : z.toInt = x.toInt * ((2 ^ k : Nat) : Int) := by
  have hn : q.toBitVec.toNat % 32 = k := by rw [nat32 hq]; omega
  have := c_ishl x q k hn
  rw [h] at this
  have r := rng32 z
  omega
theorem ishl_1 {z q : Int32} (h : (1 : Int32) <<< (q &&& 31) = z) {k : Nat} (hq : q.toInt = (k : Int)) (hk : k < 31) : z.toInt = ((2 ^ k : Nat) : Int) := by
  have p : 2 ^ k ≤ 2 ^ 30 := Nat.pow_le_pow_right (by decide) (by omega)
  have := ishl_v h hq (by omega) (by rw [show (1 : Int32).toInt = 1 by decide, Int.one_mul, Int.natAbs_natCast]; omega)
  rw [show (1 : Int32).toInt = 1 by decide, Int.one_mul] at this
  exact this
end Jvm.OwnF
namespace Jvm.Pilot.@@N@@
open Jvm Jvm.ClassFile Sem Op Lib Jvm.Free Jvm.Stand Jvm.LawKit Jvm.RoadKit Bundle Jvm.Pilot.@@N@@.Jvm.D
theorem and3 (x : Int32) : x &&& (3 : Int32) = 0 ∨ x &&& (3 : Int32) = 1 ∨ x &&& (3 : Int32) = 2 ∨ x &&& (3 : Int32) = 3 := by
  have h := Jvm.RoadKit.c_mask x 3 2 (by decide) (by decide)
  rw [show ((2 ^ 2 : Nat) : Int) = 4 by decide] at h
  have h0 : (x &&& (3 : Int32)).toInt = 0 ∨ (x &&& (3 : Int32)).toInt = 1 ∨ (x &&& (3 : Int32)).toInt = 2 ∨ (x &&& (3 : Int32)).toInt = 3 := by omega
  rcases h0 with h | h | h | h
  · exact Or.inl (Int32.toInt_inj.mp h)
  · exact Or.inr (Or.inl (Int32.toInt_inj.mp h))
  · exact Or.inr (Or.inr (Or.inl (Int32.toInt_inj.mp h)))
  · exact Or.inr (Or.inr (Or.inr (Int32.toInt_inj.mp h)))
theorem vv {x i w a b d : Int32} {e : UInt64} (h1 : (16 : Int32) * w = a) (h2 : x + a = b) (h3 : b + i = d) (h4 : FP.i2d d = e) : e = FP.i2d (x + 16 * w + i) := by subst h1 h2 h3 h4; rfl
open Jvm.OwnF in
theorem nnAdd {x y : Int32} {a b s : UInt64} (ha : a = FP.i2d x) (hb : b = FP.i2d y) (h : FP.dadd a b = s) : Jvm.Free.Fl.NoNaN64 s := by
  have rx := rng32b x; have ry := rng32b y
  rw [← h, ha, hb]
  exact (DV_add (DV_i2d x) (DV_i2d y) (r53 (by omega))).nn
open Jvm.OwnF in
theorem same {a b : UInt64} {w : Int32} {x : Int32} (ha : a = FP.i2d x) (hb : b = FP.i2d x) (h : cmpValue (FP.dcmp a b) .l = w) : w = 0 := by
  rw [← h, ha, hb]; exact dcmpV_self (DV_i2d x).nn _
open Jvm.OwnF in
theorem sums {a b s t : UInt64} {a' b' : UInt64} {w x y : Int32} (ha : a = FP.i2d x) (hb : b = FP.i2d y) (ha' : a' = FP.i2d x) (hb' : b' = FP.i2d y) (hs : FP.dadd a b = s) (ht : FP.dadd a' b' = t) (h : cmpValue (FP.dcmp s t) .l = w) : w = 0 := by
  have n := nnAdd ha hb hs
  have e : t = s := by rw [← hs, ← ht, ha, hb, ha', hb']
  rw [← h, e]; exact dcmpV_self n _
theorem d7_0 : decode method_3_code 0 = .ok (.iload_n 0, 1) := by decide +kernel
theorem d7_1 : decode method_3_code 1 = .ok (.bipush 16, 2) := by decide +kernel
theorem d7_3 : decode method_3_code 3 = .ok (.iload_n 1, 1) := by decide +kernel
theorem d7_4 : decode method_3_code 4 = .ok (.imul, 1) := by decide +kernel
theorem d7_5 : decode method_3_code 5 = .ok (.iadd, 1) := by decide +kernel
theorem d7_6 : decode method_3_code 6 = .ok (.iload_n 2, 1) := by decide +kernel
theorem d7_7 : decode method_3_code 7 = .ok (.iadd, 1) := by decide +kernel
theorem d7_8 : decode method_3_code 8 = .ok (.i2d, 1) := by decide +kernel
theorem d7_9 : decode method_3_code 9 = .ok (.dreturn, 1) := by decide +kernel
theorem pn_0 : plainName "com/example/lumenstand/lumenstand/light/InterceptionAddPinLaw" = true := by first | (simp [plainName, overriddenIn]; done) | decide +kernel
theorem ef_rm7 (m : MethodId) (p0 : Int32) (p1 : Int32) (p2 : Int32) : entryFrame m #[(.int p0), (.int p1), (.int p2)] 3 = mkF m 0 #[.val (.int p0), .val (.int p1), .val (.int p2)] [] := by first | (simp [entryFrame, mkF, argsToLocals, Value.category]; done) | rfl
theorem d1_0 : decode prog_14_method_1_code 0 = .ok (.aload_n 0, 1) := by decide +kernel
theorem d1_1 : decode prog_14_method_1_code 1 = .ok (.invokespecial 1, 3) := by decide +kernel
theorem d1_4 : decode prog_14_method_1_code 4 = .ok (.aload_n 0, 1) := by decide +kernel
theorem d1_5 : decode prog_14_method_1_code 5 = .ok (.iload_n 1, 1) := by decide +kernel
theorem d1_6 : decode prog_14_method_1_code 6 = .ok (.newarray .double, 2) := by decide +kernel
theorem d1_8 : decode prog_14_method_1_code 8 = .ok (.putfield 7, 3) := by decide +kernel
theorem d1_11 : decode prog_14_method_1_code 11 = .ok (.aload_n 0, 1) := by decide +kernel
theorem d1_12 : decode prog_14_method_1_code 12 = .ok (.iload_n 1, 1) := by decide +kernel
theorem d1_13 : decode prog_14_method_1_code 13 = .ok (.newarray .double, 2) := by decide +kernel
theorem d1_15 : decode prog_14_method_1_code 15 = .ok (.putfield 13, 3) := by decide +kernel
theorem d1_18 : decode prog_14_method_1_code 18 = .ok (.aload_n 0, 1) := by decide +kernel
theorem d1_19 : decode prog_14_method_1_code 19 = .ok (.iload_n 1, 1) := by decide +kernel
theorem d1_20 : decode prog_14_method_1_code 20 = .ok (.newarray .double, 2) := by decide +kernel
theorem d1_22 : decode prog_14_method_1_code 22 = .ok (.putfield 16, 3) := by decide +kernel
theorem d1_25 : decode prog_14_method_1_code 25 = .ok (.aload_n 0, 1) := by decide +kernel
theorem d1_26 : decode prog_14_method_1_code 26 = .ok (.iload_n 1, 1) := by decide +kernel
theorem d1_27 : decode prog_14_method_1_code 27 = .ok (.newarray .double, 2) := by decide +kernel
theorem d1_29 : decode prog_14_method_1_code 29 = .ok (.putfield 19, 3) := by decide +kernel
theorem d1_32 : decode prog_14_method_1_code 32 = .ok (.return_, 1) := by decide +kernel
theorem pn_1 : plainName "com/example/lumenstand/lumenstand/light/Interception" = true := by first | (simp [plainName, overriddenIn]; done) | decide +kernel
theorem ef_rm1_0 (m : MethodId) (o0 : Addr) : entryFrame m #[(.ref o0), (.int (0 : Int32))] 2 = mkF m 0 #[.val (.ref o0), .val (.int (0 : Int32))] [] := by first | (simp [entryFrame, mkF, argsToLocals, Value.category]; done) | rfl
theorem ef_rm1_1 (m : MethodId) (o0 : Addr) : entryFrame m #[(.ref o0), (.int (1 : Int32))] 2 = mkF m 0 #[.val (.ref o0), .val (.int (1 : Int32))] [] := by first | (simp [entryFrame, mkF, argsToLocals, Value.category]; done) | rfl
theorem ef_rm1_2 (m : MethodId) (o0 : Addr) : entryFrame m #[(.ref o0), (.int (2 : Int32))] 2 = mkF m 0 #[.val (.ref o0), .val (.int (2 : Int32))] [] := by first | (simp [entryFrame, mkF, argsToLocals, Value.category]; done) | rfl
theorem ef_rm1_3 (m : MethodId) (o0 : Addr) : entryFrame m #[(.ref o0), (.int (3 : Int32))] 2 = mkF m 0 #[.val (.ref o0), .val (.int (3 : Int32))] [] := by first | (simp [entryFrame, mkF, argsToLocals, Value.category]; done) | rfl
theorem d3_0 : decode method_4_code 0 = .ok (.aload_n 0, 1) := by decide +kernel
theorem d3_1 : decode method_4_code 1 = .ok (.arraylength, 1) := by decide +kernel
theorem d3_2 : decode method_4_code 2 = .ok (.ifCond .le 12, 3) := by decide +kernel
theorem d3_14 : decode method_4_code 14 = .ok (.aload_n 0, 1) := by decide +kernel
theorem d3_15 : decode method_4_code 15 = .ok (.arraylength, 1) := by decide +kernel
theorem d3_16 : decode method_4_code 16 = .ok (.iconst 1, 1) := by decide +kernel
theorem d3_17 : decode method_4_code 17 = .ok (.if_icmp .le 12, 3) := by decide +kernel
theorem d3_29 : decode method_4_code 29 = .ok (.aload_n 0, 1) := by decide +kernel
theorem d3_30 : decode method_4_code 30 = .ok (.arraylength, 1) := by decide +kernel
theorem d3_31 : decode method_4_code 31 = .ok (.iconst 2, 1) := by decide +kernel
theorem d3_32 : decode method_4_code 32 = .ok (.if_icmp .le 12, 3) := by decide +kernel
theorem d3_44 : decode method_4_code 44 = .ok (.return_, 1) := by decide +kernel
theorem ef_rm3_0 (m : MethodId) (o0 : Addr) (p1 : Int32) (p2 : Int32) : entryFrame m #[(.ref o0), (.int p1), (.int p2)] 3 = mkF m 0 #[.val (.ref o0), .val (.int p1), .val (.int p2)] [] := by first | (simp [entryFrame, mkF, argsToLocals, Value.category]; done) | rfl
theorem d3_5 : decode method_4_code 5 = .ok (.aload_n 0, 1) := by decide +kernel
theorem d3_6 : decode method_4_code 6 = .ok (.iconst 0, 1) := by decide +kernel
theorem d3_7 : decode method_4_code 7 = .ok (.iload_n 2, 1) := by decide +kernel
theorem d3_8 : decode method_4_code 8 = .ok (.iload_n 1, 1) := by decide +kernel
theorem d3_9 : decode method_4_code 9 = .ok (.iconst 0, 1) := by decide +kernel
theorem d3_10 : decode method_4_code 10 = .ok (.invokestatic 43, 3) := by decide +kernel
theorem pd_0 : parseMethodDescriptor "(III)D" = some ⟨[.int, .int, .int], some .double⟩ := by decide +kernel
theorem d3_13 : decode method_4_code 13 = .ok (.dastore, 1) := by decide +kernel
theorem ef_rm3_1 (m : MethodId) (o0 : Addr) (p1 : Int32) (p2 : Int32) : entryFrame m #[(.ref o0), (.int p1), (.int p2)] 3 = mkF m 0 #[.val (.ref o0), .val (.int p1), .val (.int p2)] [] := by first | (simp [entryFrame, mkF, argsToLocals, Value.category]; done) | rfl
theorem d3_20 : decode method_4_code 20 = .ok (.aload_n 0, 1) := by decide +kernel
theorem d3_21 : decode method_4_code 21 = .ok (.iconst 1, 1) := by decide +kernel
theorem d3_22 : decode method_4_code 22 = .ok (.iload_n 2, 1) := by decide +kernel
theorem d3_23 : decode method_4_code 23 = .ok (.iload_n 1, 1) := by decide +kernel
theorem d3_24 : decode method_4_code 24 = .ok (.iconst 1, 1) := by decide +kernel
theorem d3_25 : decode method_4_code 25 = .ok (.invokestatic 43, 3) := by decide +kernel
theorem d3_28 : decode method_4_code 28 = .ok (.dastore, 1) := by decide +kernel
theorem ef_rm3_2 (m : MethodId) (o0 : Addr) (p1 : Int32) (p2 : Int32) : entryFrame m #[(.ref o0), (.int p1), (.int p2)] 3 = mkF m 0 #[.val (.ref o0), .val (.int p1), .val (.int p2)] [] := by first | (simp [entryFrame, mkF, argsToLocals, Value.category]; done) | rfl
theorem d3_35 : decode method_4_code 35 = .ok (.aload_n 0, 1) := by decide +kernel
theorem d3_36 : decode method_4_code 36 = .ok (.iconst 2, 1) := by decide +kernel
theorem d3_37 : decode method_4_code 37 = .ok (.iload_n 2, 1) := by decide +kernel
theorem d3_38 : decode method_4_code 38 = .ok (.iload_n 1, 1) := by decide +kernel
theorem d3_39 : decode method_4_code 39 = .ok (.iconst 2, 1) := by decide +kernel
theorem d3_40 : decode method_4_code 40 = .ok (.invokestatic 43, 3) := by decide +kernel
theorem d3_43 : decode method_4_code 43 = .ok (.dastore, 1) := by decide +kernel
theorem ef_rm3_3 (m : MethodId) (o0 : Addr) (p1 : Int32) (p2 : Int32) : entryFrame m #[(.ref o0), (.int p1), (.int p2)] 3 = mkF m 0 #[.val (.ref o0), .val (.int p1), .val (.int p2)] [] := by first | (simp [entryFrame, mkF, argsToLocals, Value.category]; done) | rfl
theorem d4_0 : decode prog_14_method_2_code 0 = .ok (.iconst 0, 1) := by decide +kernel
theorem d4_1 : decode prog_14_method_2_code 1 = .ok (.istore_n 2, 1) := by decide +kernel
theorem d4_2 : decode prog_14_method_2_code 2 = .ok (.iload_n 2, 1) := by decide +kernel
theorem d4_3 : decode prog_14_method_2_code 3 = .ok (.aload_n 0, 1) := by decide +kernel
theorem d4_4 : decode prog_14_method_2_code 4 = .ok (.getfield 7, 3) := by decide +kernel
theorem d4_7 : decode prog_14_method_2_code 7 = .ok (.arraylength, 1) := by decide +kernel
theorem d4_8 : decode prog_14_method_2_code 8 = .ok (.if_icmp .ge 69, 3) := by decide +kernel
theorem d4_77 : decode prog_14_method_2_code 77 = .ok (.return_, 1) := by decide +kernel
theorem ef_rm4_0 (m : MethodId) (o0 : Addr) (o1 : Addr) : entryFrame m #[(.ref o0), (.ref o1)] 3 = mkF m 0 #[.val (.ref o0), .val (.ref o1), .unset] [] := by first | (simp [entryFrame, mkF, argsToLocals, Value.category]; done) | rfl
theorem d4_11 : decode prog_14_method_2_code 11 = .ok (.aload_n 0, 1) := by decide +kernel
theorem d4_12 : decode prog_14_method_2_code 12 = .ok (.getfield 7, 3) := by decide +kernel
theorem d4_15 : decode prog_14_method_2_code 15 = .ok (.iload_n 2, 1) := by decide +kernel
theorem d4_16 : decode prog_14_method_2_code 16 = .ok (.dup2, 1) := by decide +kernel
theorem d4_17 : decode prog_14_method_2_code 17 = .ok (.daload, 1) := by decide +kernel
theorem d4_18 : decode prog_14_method_2_code 18 = .ok (.aload_n 1, 1) := by decide +kernel
theorem d4_19 : decode prog_14_method_2_code 19 = .ok (.getfield 7, 3) := by decide +kernel
theorem d4_22 : decode prog_14_method_2_code 22 = .ok (.iload_n 2, 1) := by decide +kernel
theorem d4_23 : decode prog_14_method_2_code 23 = .ok (.daload, 1) := by decide +kernel
theorem d4_24 : decode prog_14_method_2_code 24 = .ok (.dadd, 1) := by decide +kernel
theorem d4_25 : decode prog_14_method_2_code 25 = .ok (.dastore, 1) := by decide +kernel
theorem d4_26 : decode prog_14_method_2_code 26 = .ok (.aload_n 0, 1) := by decide +kernel
theorem d4_27 : decode prog_14_method_2_code 27 = .ok (.getfield 13, 3) := by decide +kernel
theorem d4_30 : decode prog_14_method_2_code 30 = .ok (.iload_n 2, 1) := by decide +kernel
theorem d4_31 : decode prog_14_method_2_code 31 = .ok (.dup2, 1) := by decide +kernel
theorem d4_32 : decode prog_14_method_2_code 32 = .ok (.daload, 1) := by decide +kernel
theorem d4_33 : decode prog_14_method_2_code 33 = .ok (.aload_n 1, 1) := by decide +kernel
theorem d4_34 : decode prog_14_method_2_code 34 = .ok (.getfield 13, 3) := by decide +kernel
theorem d4_37 : decode prog_14_method_2_code 37 = .ok (.iload_n 2, 1) := by decide +kernel
theorem d4_38 : decode prog_14_method_2_code 38 = .ok (.daload, 1) := by decide +kernel
theorem d4_39 : decode prog_14_method_2_code 39 = .ok (.dadd, 1) := by decide +kernel
theorem d4_40 : decode prog_14_method_2_code 40 = .ok (.dastore, 1) := by decide +kernel
theorem d4_41 : decode prog_14_method_2_code 41 = .ok (.aload_n 0, 1) := by decide +kernel
theorem d4_42 : decode prog_14_method_2_code 42 = .ok (.getfield 16, 3) := by decide +kernel
theorem d4_45 : decode prog_14_method_2_code 45 = .ok (.iload_n 2, 1) := by decide +kernel
theorem d4_46 : decode prog_14_method_2_code 46 = .ok (.dup2, 1) := by decide +kernel
theorem d4_47 : decode prog_14_method_2_code 47 = .ok (.daload, 1) := by decide +kernel
theorem d4_48 : decode prog_14_method_2_code 48 = .ok (.aload_n 1, 1) := by decide +kernel
theorem d4_49 : decode prog_14_method_2_code 49 = .ok (.getfield 16, 3) := by decide +kernel
theorem d4_52 : decode prog_14_method_2_code 52 = .ok (.iload_n 2, 1) := by decide +kernel
theorem d4_53 : decode prog_14_method_2_code 53 = .ok (.daload, 1) := by decide +kernel
theorem d4_54 : decode prog_14_method_2_code 54 = .ok (.dadd, 1) := by decide +kernel
theorem d4_55 : decode prog_14_method_2_code 55 = .ok (.dastore, 1) := by decide +kernel
theorem d4_56 : decode prog_14_method_2_code 56 = .ok (.aload_n 0, 1) := by decide +kernel
theorem d4_57 : decode prog_14_method_2_code 57 = .ok (.getfield 19, 3) := by decide +kernel
theorem d4_60 : decode prog_14_method_2_code 60 = .ok (.iload_n 2, 1) := by decide +kernel
theorem d4_61 : decode prog_14_method_2_code 61 = .ok (.dup2, 1) := by decide +kernel
theorem d4_62 : decode prog_14_method_2_code 62 = .ok (.daload, 1) := by decide +kernel
theorem d4_63 : decode prog_14_method_2_code 63 = .ok (.aload_n 1, 1) := by decide +kernel
theorem d4_64 : decode prog_14_method_2_code 64 = .ok (.getfield 19, 3) := by decide +kernel
theorem d4_67 : decode prog_14_method_2_code 67 = .ok (.iload_n 2, 1) := by decide +kernel
theorem d4_68 : decode prog_14_method_2_code 68 = .ok (.daload, 1) := by decide +kernel
theorem d4_69 : decode prog_14_method_2_code 69 = .ok (.dadd, 1) := by decide +kernel
theorem d4_70 : decode prog_14_method_2_code 70 = .ok (.dastore, 1) := by decide +kernel
theorem d4_71 : decode prog_14_method_2_code 71 = .ok (.iinc 2 1, 3) := by decide +kernel
theorem d4_74 : decode prog_14_method_2_code 74 = .ok (.goto (-72), 3) := by decide +kernel
theorem ef_rm4_1 (m : MethodId) (o0 : Addr) (o1 : Addr) : entryFrame m #[(.ref o0), (.ref o1)] 3 = mkF m 0 #[.val (.ref o0), .val (.ref o1), .unset] [] := by first | (simp [entryFrame, mkF, argsToLocals, Value.category]; done) | rfl
theorem ef_rm4_2 (m : MethodId) (o0 : Addr) (o1 : Addr) : entryFrame m #[(.ref o0), (.ref o1)] 3 = mkF m 0 #[.val (.ref o0), .val (.ref o1), .unset] [] := by first | (simp [entryFrame, mkF, argsToLocals, Value.category]; done) | rfl
theorem ef_rm4_3 (m : MethodId) (o0 : Addr) (o1 : Addr) : entryFrame m #[(.ref o0), (.ref o1)] 3 = mkF m 0 #[.val (.ref o0), .val (.ref o1), .unset] [] := by first | (simp [entryFrame, mkF, argsToLocals, Value.category]; done) | rfl
theorem d5_0 : decode method_5_code 0 = .ok (.aload_n 0, 1) := by decide +kernel
theorem d5_1 : decode method_5_code 1 = .ok (.arraylength, 1) := by decide +kernel
theorem d5_2 : decode method_5_code 2 = .ok (.iload_n 1, 1) := by decide +kernel
theorem d5_3 : decode method_5_code 3 = .ok (.if_icmp .ne 85, 3) := by decide +kernel
theorem d5_6 : decode method_5_code 6 = .ok (.iload_n 1, 1) := by decide +kernel
theorem d5_7 : decode method_5_code 7 = .ok (.iconst 1, 1) := by decide +kernel
theorem d5_8 : decode method_5_code 8 = .ok (.if_icmp .lt 24, 3) := by decide +kernel
theorem d5_32 : decode method_5_code 32 = .ok (.iload_n 1, 1) := by decide +kernel
theorem d5_33 : decode method_5_code 33 = .ok (.iconst 2, 1) := by decide +kernel
theorem d5_34 : decode method_5_code 34 = .ok (.if_icmp .lt 24, 3) := by decide +kernel
theorem d5_58 : decode method_5_code 58 = .ok (.iload_n 1, 1) := by decide +kernel
theorem d5_59 : decode method_5_code 59 = .ok (.iconst 3, 1) := by decide +kernel
theorem d5_60 : decode method_5_code 60 = .ok (.if_icmp .lt 24, 3) := by decide +kernel
theorem d5_84 : decode method_5_code 84 = .ok (.iconst 1, 1) := by decide +kernel
theorem d5_85 : decode method_5_code 85 = .ok (.goto 4, 3) := by decide +kernel
theorem d5_89 : decode method_5_code 89 = .ok (.ireturn, 1) := by decide +kernel
theorem ef_rm5_0 (m : MethodId) (o0 : Addr) (p2 : Int32) (p3 : Int32) (p4 : Int32) : entryFrame m #[(.ref o0), (.int (0 : Int32)), (.int p2), (.int p3), (.int p4)] 5 = mkF m 0 #[.val (.ref o0), .val (.int (0 : Int32)), .val (.int p2), .val (.int p3), .val (.int p4)] [] := by first | (simp [entryFrame, mkF, argsToLocals, Value.category]; done) | rfl
theorem d6_0 : decode method_6_code 0 = .ok (.aload_n 0, 1) := by decide +kernel
theorem d6_1 : decode method_6_code 1 = .ok (.arraylength, 1) := by decide +kernel
theorem d6_2 : decode method_6_code 2 = .ok (.iload_n 1, 1) := by decide +kernel
theorem d6_3 : decode method_6_code 3 = .ok (.if_icmp .ne 61, 3) := by decide +kernel
theorem d6_6 : decode method_6_code 6 = .ok (.iload_n 1, 1) := by decide +kernel
theorem d6_7 : decode method_6_code 7 = .ok (.iconst 1, 1) := by decide +kernel
theorem d6_8 : decode method_6_code 8 = .ok (.if_icmp .lt 16, 3) := by decide +kernel
theorem d6_24 : decode method_6_code 24 = .ok (.iload_n 1, 1) := by decide +kernel
theorem d6_25 : decode method_6_code 25 = .ok (.iconst 2, 1) := by decide +kernel
theorem d6_26 : decode method_6_code 26 = .ok (.if_icmp .lt 16, 3) := by decide +kernel
theorem d6_42 : decode method_6_code 42 = .ok (.iload_n 1, 1) := by decide +kernel
theorem d6_43 : decode method_6_code 43 = .ok (.iconst 3, 1) := by decide +kernel
theorem d6_44 : decode method_6_code 44 = .ok (.if_icmp .lt 16, 3) := by decide +kernel
theorem d6_60 : decode method_6_code 60 = .ok (.iconst 1, 1) := by decide +kernel
theorem d6_61 : decode method_6_code 61 = .ok (.goto 4, 3) := by decide +kernel
theorem d6_65 : decode method_6_code 65 = .ok (.ireturn, 1) := by decide +kernel
theorem ef_rm6_0 (m : MethodId) (o0 : Addr) (p2 : Int32) (p3 : Int32) : entryFrame m #[(.ref o0), (.int (0 : Int32)), (.int p2), (.int p3)] 4 = mkF m 0 #[.val (.ref o0), .val (.int (0 : Int32)), .val (.int p2), .val (.int p3)] [] := by first | (simp [entryFrame, mkF, argsToLocals, Value.category]; done) | rfl
theorem d5_11 : decode method_5_code 11 = .ok (.aload_n 0, 1) := by decide +kernel
theorem d5_12 : decode method_5_code 12 = .ok (.iconst 0, 1) := by decide +kernel
theorem d5_13 : decode method_5_code 13 = .ok (.daload, 1) := by decide +kernel
theorem d5_14 : decode method_5_code 14 = .ok (.iload_n 3, 1) := by decide +kernel
theorem d5_15 : decode method_5_code 15 = .ok (.iload_n 2, 1) := by decide +kernel
theorem d5_16 : decode method_5_code 16 = .ok (.iconst 0, 1) := by decide +kernel
theorem d5_17 : decode method_5_code 17 = .ok (.invokestatic 43, 3) := by decide +kernel
theorem d5_20 : decode method_5_code 20 = .ok (.iload 4, 2) := by decide +kernel
theorem d5_22 : decode method_5_code 22 = .ok (.iload_n 2, 1) := by decide +kernel
theorem d5_23 : decode method_5_code 23 = .ok (.iconst 0, 1) := by decide +kernel
theorem d5_24 : decode method_5_code 24 = .ok (.invokestatic 43, 3) := by decide +kernel
theorem d5_27 : decode method_5_code 27 = .ok (.dadd, 1) := by decide +kernel
theorem d5_28 : decode method_5_code 28 = .ok (.dcmp .l, 1) := by decide +kernel
theorem d5_29 : decode method_5_code 29 = .ok (.ifCond .ne 59, 3) := by decide +kernel
theorem ef_rm5_1 (m : MethodId) (o0 : Addr) (p2 : Int32) (p3 : Int32) (p4 : Int32) : entryFrame m #[(.ref o0), (.int (1 : Int32)), (.int p2), (.int p3), (.int p4)] 5 = mkF m 0 #[.val (.ref o0), .val (.int (1 : Int32)), .val (.int p2), .val (.int p3), .val (.int p4)] [] := by first | (simp [entryFrame, mkF, argsToLocals, Value.category]; done) | rfl
theorem d6_11 : decode method_6_code 11 = .ok (.aload_n 0, 1) := by decide +kernel
theorem d6_12 : decode method_6_code 12 = .ok (.iconst 0, 1) := by decide +kernel
theorem d6_13 : decode method_6_code 13 = .ok (.daload, 1) := by decide +kernel
theorem d6_14 : decode method_6_code 14 = .ok (.iload_n 3, 1) := by decide +kernel
theorem d6_15 : decode method_6_code 15 = .ok (.iload_n 2, 1) := by decide +kernel
theorem d6_16 : decode method_6_code 16 = .ok (.iconst 0, 1) := by decide +kernel
theorem d6_17 : decode method_6_code 17 = .ok (.invokestatic 43, 3) := by decide +kernel
theorem d6_20 : decode method_6_code 20 = .ok (.dcmp .l, 1) := by decide +kernel
theorem d6_21 : decode method_6_code 21 = .ok (.ifCond .ne 43, 3) := by decide +kernel
theorem ef_rm6_1 (m : MethodId) (o0 : Addr) (p2 : Int32) (p3 : Int32) : entryFrame m #[(.ref o0), (.int (1 : Int32)), (.int p2), (.int p3)] 4 = mkF m 0 #[.val (.ref o0), .val (.int (1 : Int32)), .val (.int p2), .val (.int p3)] [] := by first | (simp [entryFrame, mkF, argsToLocals, Value.category]; done) | rfl
theorem d5_37 : decode method_5_code 37 = .ok (.aload_n 0, 1) := by decide +kernel
theorem d5_38 : decode method_5_code 38 = .ok (.iconst 1, 1) := by decide +kernel
theorem d5_39 : decode method_5_code 39 = .ok (.daload, 1) := by decide +kernel
theorem d5_40 : decode method_5_code 40 = .ok (.iload_n 3, 1) := by decide +kernel
theorem d5_41 : decode method_5_code 41 = .ok (.iload_n 2, 1) := by decide +kernel
theorem d5_42 : decode method_5_code 42 = .ok (.iconst 1, 1) := by decide +kernel
theorem d5_43 : decode method_5_code 43 = .ok (.invokestatic 43, 3) := by decide +kernel
theorem d5_46 : decode method_5_code 46 = .ok (.iload 4, 2) := by decide +kernel
theorem d5_48 : decode method_5_code 48 = .ok (.iload_n 2, 1) := by decide +kernel
theorem d5_49 : decode method_5_code 49 = .ok (.iconst 1, 1) := by decide +kernel
theorem d5_50 : decode method_5_code 50 = .ok (.invokestatic 43, 3) := by decide +kernel
theorem d5_53 : decode method_5_code 53 = .ok (.dadd, 1) := by decide +kernel
theorem d5_54 : decode method_5_code 54 = .ok (.dcmp .l, 1) := by decide +kernel
theorem d5_55 : decode method_5_code 55 = .ok (.ifCond .ne 33, 3) := by decide +kernel
theorem ef_rm5_2 (m : MethodId) (o0 : Addr) (p2 : Int32) (p3 : Int32) (p4 : Int32) : entryFrame m #[(.ref o0), (.int (2 : Int32)), (.int p2), (.int p3), (.int p4)] 5 = mkF m 0 #[.val (.ref o0), .val (.int (2 : Int32)), .val (.int p2), .val (.int p3), .val (.int p4)] [] := by first | (simp [entryFrame, mkF, argsToLocals, Value.category]; done) | rfl
theorem d6_29 : decode method_6_code 29 = .ok (.aload_n 0, 1) := by decide +kernel
theorem d6_30 : decode method_6_code 30 = .ok (.iconst 1, 1) := by decide +kernel
theorem d6_31 : decode method_6_code 31 = .ok (.daload, 1) := by decide +kernel
theorem d6_32 : decode method_6_code 32 = .ok (.iload_n 3, 1) := by decide +kernel
theorem d6_33 : decode method_6_code 33 = .ok (.iload_n 2, 1) := by decide +kernel
theorem d6_34 : decode method_6_code 34 = .ok (.iconst 1, 1) := by decide +kernel
theorem d6_35 : decode method_6_code 35 = .ok (.invokestatic 43, 3) := by decide +kernel
theorem d6_38 : decode method_6_code 38 = .ok (.dcmp .l, 1) := by decide +kernel
theorem d6_39 : decode method_6_code 39 = .ok (.ifCond .ne 25, 3) := by decide +kernel
theorem ef_rm6_2 (m : MethodId) (o0 : Addr) (p2 : Int32) (p3 : Int32) : entryFrame m #[(.ref o0), (.int (2 : Int32)), (.int p2), (.int p3)] 4 = mkF m 0 #[.val (.ref o0), .val (.int (2 : Int32)), .val (.int p2), .val (.int p3)] [] := by first | (simp [entryFrame, mkF, argsToLocals, Value.category]; done) | rfl
theorem d5_63 : decode method_5_code 63 = .ok (.aload_n 0, 1) := by decide +kernel
theorem d5_64 : decode method_5_code 64 = .ok (.iconst 2, 1) := by decide +kernel
theorem d5_65 : decode method_5_code 65 = .ok (.daload, 1) := by decide +kernel
theorem d5_66 : decode method_5_code 66 = .ok (.iload_n 3, 1) := by decide +kernel
theorem d5_67 : decode method_5_code 67 = .ok (.iload_n 2, 1) := by decide +kernel
theorem d5_68 : decode method_5_code 68 = .ok (.iconst 2, 1) := by decide +kernel
theorem d5_69 : decode method_5_code 69 = .ok (.invokestatic 43, 3) := by decide +kernel
theorem d5_72 : decode method_5_code 72 = .ok (.iload 4, 2) := by decide +kernel
theorem d5_74 : decode method_5_code 74 = .ok (.iload_n 2, 1) := by decide +kernel
theorem d5_75 : decode method_5_code 75 = .ok (.iconst 2, 1) := by decide +kernel
theorem d5_76 : decode method_5_code 76 = .ok (.invokestatic 43, 3) := by decide +kernel
theorem d5_79 : decode method_5_code 79 = .ok (.dadd, 1) := by decide +kernel
theorem d5_80 : decode method_5_code 80 = .ok (.dcmp .l, 1) := by decide +kernel
theorem d5_81 : decode method_5_code 81 = .ok (.ifCond .ne 7, 3) := by decide +kernel
theorem ef_rm5_3 (m : MethodId) (o0 : Addr) (p2 : Int32) (p3 : Int32) (p4 : Int32) : entryFrame m #[(.ref o0), (.int (3 : Int32)), (.int p2), (.int p3), (.int p4)] 5 = mkF m 0 #[.val (.ref o0), .val (.int (3 : Int32)), .val (.int p2), .val (.int p3), .val (.int p4)] [] := by first | (simp [entryFrame, mkF, argsToLocals, Value.category]; done) | rfl
theorem d6_47 : decode method_6_code 47 = .ok (.aload_n 0, 1) := by decide +kernel
theorem d6_48 : decode method_6_code 48 = .ok (.iconst 2, 1) := by decide +kernel
theorem d6_49 : decode method_6_code 49 = .ok (.daload, 1) := by decide +kernel
theorem d6_50 : decode method_6_code 50 = .ok (.iload_n 3, 1) := by decide +kernel
theorem d6_51 : decode method_6_code 51 = .ok (.iload_n 2, 1) := by decide +kernel
theorem d6_52 : decode method_6_code 52 = .ok (.iconst 2, 1) := by decide +kernel
theorem d6_53 : decode method_6_code 53 = .ok (.invokestatic 43, 3) := by decide +kernel
theorem d6_56 : decode method_6_code 56 = .ok (.dcmp .l, 1) := by decide +kernel
theorem d6_57 : decode method_6_code 57 = .ok (.ifCond .ne 7, 3) := by decide +kernel
theorem ef_rm6_3 (m : MethodId) (o0 : Addr) (p2 : Int32) (p3 : Int32) : entryFrame m #[(.ref o0), (.int (3 : Int32)), (.int p2), (.int p3)] 4 = mkF m 0 #[.val (.ref o0), .val (.int (3 : Int32)), .val (.int p2), .val (.int p3)] [] := by first | (simp [entryFrame, mkF, argsToLocals, Value.category]; done) | rfl
theorem pd_1 : parseMethodDescriptor "(I)V" = some ⟨[.int], none⟩ := by decide +kernel
theorem pd_2 : parseMethodDescriptor "([DII)V" = some ⟨[(.array .double), .int, .int], none⟩ := by decide +kernel
theorem pd_3 : parseMethodDescriptor "(Lcom/example/lumenstand/lumenstand/light/Interception;)V" = some ⟨[(.object "com/example/lumenstand/lumenstand/light/Interception")], none⟩ := by decide +kernel
theorem pd_4 : parseMethodDescriptor "([DIIII)Z" = some ⟨[(.array .double), .int, .int, .int, .int], some .boolean⟩ := by decide +kernel
theorem pd_5 : parseMethodDescriptor "([DIII)Z" = some ⟨[(.array .double), .int, .int, .int], some .boolean⟩ := by decide +kernel
theorem ef_rm0 (m : MethodId) (p0 : Int32) (p1 : Int32) (p2 : Int32) : entryFrame m #[(.int p0), (.int p1), (.int p2)] maxLocals = mkF m 0 #[.val (.int p0), .val (.int p1), .val (.int p2), .unset, .unset, .unset] [] := by first | (simp [entryFrame, mkF, argsToLocals, Value.category, maxLocals]; done) | rfl
def Q7 (Z : State) (p0 : Int32) (p1 : Int32) (p2 : Int32) (z4 : Int32) (z5 : Int32) (z7 : Int32) (z8 : UInt64) (h0 : Heap) (n0 : Nat) (v : Option Value) (h : Heap) (L : List Loc) : Prop := v = some (.double z8) ∧ Fr n0 L ∧ h = h0
set_option maxRecDepth 65536 in
set_option maxHeartbeats 40000000 in
theorem rm7 (l : Launch) (Z : State) (a0 : Array Value) (hw : ∀ d ∈ tables_1, d.before a0 Z = true) (ws : List Jvm.Cond) (p0 : Int32) (p1 : Int32) (p2 : Int32) (z4 : Int32) (z5 : Int32) (z7 : Int32) (z8 : UInt64) (h0 : Heap) (n0 : Nat) (Z0 : n0 ≤ h0.size) (hz4 : (16 : Int32) * p1 = z4) (hz5 : p0 + z4 = z5) (hz7 : z5 + p2 = z7) (hz8 : FP.i2d z7 = z8) :
    MetFree l (⟨"com/example/lumenstand/lumenstand/light/InterceptionAddPinLaw", "v", "(III)D"⟩ : MethodName) (head1 (Jvm.Cond.code (⟨"com/example/lumenstand/lumenstand/light/InterceptionAddPinLaw", "v", "(III)D"⟩ : MethodName) method_3_code 3 (some .double) :: ws) ({ frames := 0, cells := 0, slots := 0, locals := 0 } : Room)) (fun a U => a = #[(.int p0), (.int p1), (.int p2)] ∧ Z.Warmed39 U.vm ∧ U.heap = h0) (fun _ _ _ _ _ => True) (fun _ U o U' => ∃ v L, o = .returned v ∧ Q7 Z p0 p1 p2 z4 z5 z7 z8 h0 n0 v U'.heap L ∧ FrameEnd U o U' L ({ frames := 0, cells := 0, slots := 0, locals := 0 } : Room).cells ({ frames := 0, cells := 0, slots := 0, locals := 0 } : Room).slots) := by
  refine MetFree.of_bodySF (plainFor_of_name pn_0) hisR ?_
  intro p e s m args below meth c s₁ Bd hml0 hP hK
  obtain ⟨rfl, hZ, hh⟩ := hP
  have hx := Bd.exec
  have hby := Bd.bytes
  have hml : c.maxLocals = 3 := hml0
  have hown : s.vm.findClass "com/example/lumenstand/lumenstand/light/InterceptionAddPinLaw" = some m.cls := findClass_of_methodNamed Bd.named
  have hnm := (name_of_methodNamed Bd.named Bd.method).1
  have X0 : Stand p l e ({ frames := 0, cells := 0, slots := 0, locals := 0 } : Room) s m #[(.int p0), (.int p1), (.int p2)] below meth c s₁ [] 0 0 := Stand.of_body Bd
  have e0 : s₁.heap = h0 := by rw [← hh, Bd.state]; rfl
  have N0 := Fr.nil n0
  have c0 : ∀ t, Steps p.tables e below (s₁.setTop (mkF m 0 #[.val (.int p0), .val (.int p1), .val (.int p2)] [])) t → Steps p.tables e below (s₁.setTop (entryFrame m #[(.int p0), (.int p1), (.int p2)] 3)) t := fun t k => castTop (ef_rm7 m p0 p1 p2) k
  have c1 : ∀ t, Steps p.tables e below (s₁.setTop (mkF m 9 #[.val (.int p0), .val (.int p1), .val (.int p2)] [(.double z8)])) t → Steps p.tables e below (s₁.setTop (entryFrame m #[(.int p0), (.int p1), (.int p2)] 3)) t := by
    intro t k
    refine c0 t ?_
    show Steps p.tables e below (s₁.setTop (mkF m 0 #[.val (.int p0), .val (.int p1), .val (.int p2)] [])) _
    refine XS.iloadN X0.here hx rfl (hb hby d7_0) rfl ?_
    show Steps p.tables e below (s₁.setTop (mkF m 1 #[.val (.int p0), .val (.int p1), .val (.int p2)] [(.int p0)])) _
    refine XS.bipush X0.here hx rfl (hb hby d7_1) ?_
    show Steps p.tables e below (s₁.setTop (mkF m 3 #[.val (.int p0), .val (.int p1), .val (.int p2)] [(.int (16 : Int32)), (.int p0)])) _
    refine XS.iloadN X0.here hx rfl (hb hby d7_3) rfl ?_
    show Steps p.tables e below (s₁.setTop (mkF m 4 #[.val (.int p0), .val (.int p1), .val (.int p2)] [(.int p1), (.int (16 : Int32)), (.int p0)])) _
    refine Jvm.OwnK.imul X0.here hx rfl (hb hby d7_4) rfl hz4 ?_
    show Steps p.tables e below (s₁.setTop (mkF m 5 #[.val (.int p0), .val (.int p1), .val (.int p2)] [(.int z4), (.int p0)])) _
    refine Jvm.OwnK.iadd X0.here hx rfl (hb hby d7_5) rfl hz5 ?_
    show Steps p.tables e below (s₁.setTop (mkF m 6 #[.val (.int p0), .val (.int p1), .val (.int p2)] [(.int z5)])) _
    refine XS.iloadN X0.here hx rfl (hb hby d7_6) rfl ?_
    show Steps p.tables e below (s₁.setTop (mkF m 7 #[.val (.int p0), .val (.int p1), .val (.int p2)] [(.int p2), (.int z5)])) _
    refine Jvm.OwnK.iadd X0.here hx rfl (hb hby d7_7) rfl hz7 ?_
    show Steps p.tables e below (s₁.setTop (mkF m 8 #[.val (.int p0), .val (.int p1), .val (.int p2)] [(.int z7)])) _
    refine XS.i2dS X0.here hx rfl (hb hby d7_8) rfl hz8 ?_
    exact k
  obtain ⟨fs, hr, hrun, hended, hW, hsame⟩ := X0.leave (v := some (.double z8)) (fun h => by rw [Bd.returns] at h; cases h)
  refine ⟨_, _, c1 _ ?_, hrun, hended, _, _, rfl, ?_, ⟨_, rfl⟩, hW, hsame.mono (by decide) (by decide)⟩
  · show Steps p.tables e below (s₁.setTop (mkF m 9 #[.val (.int p0), .val (.int p1), .val (.int p2)] [(.double z8)])) _
    exact retOut X0 hx Bd.returns rfl (Or.inr (Or.inr (Or.inl ⟨rfl, rfl, _, rfl⟩))) (hb hby d7_9) hr
  · show Q7 Z p0 p1 p2 z4 z5 z7 z8 h0 n0 _ s₁.heap _
    rw [e0]
    exact ⟨rfl, N0, rfl⟩
def Q1_0 (Z : State) (o0 : Addr) (u_direct_o0 : Value) (u_diffuse_o0 : Value) (u_potential_o0 : Value) (u_trunk_o0 : Value)  (h0 : Heap) (n0 : Nat) (v : Option Value) (h : Heap) (L : List Loc) : Prop := ∃ b2 : Addr, ∃ b8 : Addr, ∃ b14 : Addr, ∃ b20 : Addr, ∃ k2 : ClassId, ∃ k8 : ClassId, ∃ k14 : ClassId, ∃ k20 : ClassId, v = none ∧ Fr n0 L ∧ h0.size ≤ b2 ∧ h0.size ≤ b8 ∧ h0.size ≤ b14 ∧ h0.size ≤ b20 ∧ Keep h0 h [o0] ∧ Exa Z h o0 "com/example/lumenstand/lumenstand/light/Interception" ∧ Fld Z h o0 "com/example/lumenstand/lumenstand/light/Interception" "direct" "[D" (.ref b2) ∧ Fld Z h o0 "com/example/lumenstand/lumenstand/light/Interception" "diffuse" "[D" (.ref b8) ∧ Fld Z h o0 "com/example/lumenstand/lumenstand/light/Interception" "potential" "[D" (.ref b14) ∧ Fld Z h o0 "com/example/lumenstand/lumenstand/light/Interception" "trunk" "[D" (.ref b20) ∧ Arv Z h b2 k2 .double (0 : Int32) [] (.double (0 : UInt64)) ∧ Arv Z h b8 k8 .double (0 : Int32) [] (.double (0 : UInt64)) ∧ Arv Z h b14 k14 .double (0 : Int32) [] (.double (0 : UInt64)) ∧ Arv Z h b20 k20 .double (0 : Int32) [] (.double (0 : UInt64)) ∧ b2 ≠ b8 ∧ b2 ≠ b14 ∧ b2 ≠ b20 ∧ b8 ≠ b14 ∧ b8 ≠ b20 ∧ b14 ≠ b20
set_option maxRecDepth 65536 in
set_option maxHeartbeats 40000000 in
theorem rm1_0 (l : Launch) (Z : State) (a0 : Array Value) (hw : ∀ d ∈ tables_1, d.before a0 Z = true) (ws : List Jvm.Cond) (o0 : Addr) (u_direct_o0 : Value) (u_diffuse_o0 : Value) (u_potential_o0 : Value) (u_trunk_o0 : Value)  (h0 : Heap) (n0 : Nat) (Z0 : n0 ≤ h0.size) (E_o0 : Exa Z h0 o0 "com/example/lumenstand/lumenstand/light/Interception") (F_direct_o0 : Fld Z h0 o0 "com/example/lumenstand/lumenstand/light/Interception" "direct" "[D" u_direct_o0) (g_o0 : n0 ≤ o0) (F_diffuse_o0 : Fld Z h0 o0 "com/example/lumenstand/lumenstand/light/Interception" "diffuse" "[D" u_diffuse_o0) (F_potential_o0 : Fld Z h0 o0 "com/example/lumenstand/lumenstand/light/Interception" "potential" "[D" u_potential_o0) (F_trunk_o0 : Fld Z h0 o0 "com/example/lumenstand/lumenstand/light/Interception" "trunk" "[D" u_trunk_o0) :
    MetFree l (⟨"com/example/lumenstand/lumenstand/light/Interception", "<init>", "(I)V"⟩ : MethodName) (head1 (Jvm.Cond.code (⟨"com/example/lumenstand/lumenstand/light/Interception", "<init>", "(I)V"⟩ : MethodName) prog_14_method_1_code 2 none :: ws) ({ frames := 1, cells := 4, slots := 0, locals := 12 } : Room)) (fun a U => a = #[(.ref o0), (.int (0 : Int32))] ∧ Z.Warmed39 U.vm ∧ U.heap = h0) (fun _ _ _ _ _ => True) (fun _ U o U' => ∃ v L, o = .returned v ∧ Q1_0 Z o0 u_direct_o0 u_diffuse_o0 u_potential_o0 u_trunk_o0  h0 n0 v U'.heap L ∧ FrameEnd U o U' L ({ frames := 1, cells := 4, slots := 0, locals := 12 } : Room).cells ({ frames := 1, cells := 4, slots := 0, locals := 12 } : Room).slots) := by
  refine MetFree.of_bodySF (plainFor_of_name pn_1) hisR ?_
  intro p e s m args below meth c s₁ Bd hml0 hP hK
  obtain ⟨rfl, hZ, hh⟩ := hP
  have hx := Bd.exec
  have hby := Bd.bytes
  have hml : c.maxLocals = 2 := hml0
  have hown : s.vm.findClass "com/example/lumenstand/lumenstand/light/Interception" = some m.cls := findClass_of_methodNamed Bd.named
  have hnm := (name_of_methodNamed Bd.named Bd.method).1
  have X0 : Stand p l e ({ frames := 1, cells := 4, slots := 0, locals := 12 } : Room) s m #[(.ref o0), (.int (0 : Int32))] below meth c s₁ [] 0 0 := Stand.of_body Bd
  have e0 : s₁.heap = h0 := by rw [← hh, Bd.state]; rfl
  have N0 := Fr.nil n0
  have c0 : ∀ t, Steps p.tables e below (s₁.setTop (mkF m 0 #[.val (.ref o0), .val (.int (0 : Int32))] [])) t → Steps p.tables e below (s₁.setTop (entryFrame m #[(.ref o0), (.int (0 : Int32))] 2)) t := fun t k => castTop (ef_rm1_0 m o0) k
  obtain ⟨T1, X1, e1, st1⟩ := initO X0 hx hZ hown (hw _ (List.mem_of_getElem? (i := 6) rfl)) (hw _ (List.mem_of_getElem? (i := 7) rfl)) (hw _ (List.mem_of_getElem? (i := 8) rfl)) e0 (g := (mkF m 1 #[.val (.ref o0), .val (.int (0 : Int32))] [(.ref o0)])) rfl (by rw [hml]; rfl) rfl (hb hby d1_1) (by decide) (W := 0) (by show 2 * 0 + _ ≤ _; exact Nat.le_of_eq rfl) (by decide)
  obtain ⟨T2, h2, k2, X2, e2, E2, A2, st2⟩ := newP X1 hx hZ (hw _ (List.mem_of_getElem? (i := 9) rfl)) e1 (g := (mkF m 6 #[.val (.ref o0), .val (.int (0 : Int32))] [(.int (0 : Int32)), (.ref o0)])) rfl (hb hby d1_6) rfl (by decide) (cap := 0) (by decide) (by decide) (by decide) (by decide)
  obtain ⟨b2, g2⟩ : ∃ z, z = h0.size := ⟨_, rfl⟩
  rw [← g2] at A2 st2
  have gn2 : n0 ≤ b2 := Nat.le_trans Z0 (Nat.le_of_eq g2.symm)
  have gz2 : h0.size ≤ b2 := Nat.le_trans ((Keep.refl h0 [o0])).1 (Nat.le_of_eq g2.symm)
  have K3 : Keep h0 h2 [o0] := (Keep.refl h0 [o0]).ext E2
  have V2 : Arv Z h2 b2 k2 .double (0 : Int32) [] (.double (0 : UInt64)) := (Arv.new A2 (by decide)).pad (pad_rep [] (.double (0 : UInt64)) 0)
  have f4 := (E_o0.ext E2)
  have f5 := (F_direct_o0.ext E2)
  obtain ⟨T6, h6, X6, e6, W6, st6⟩ := putF X2 hx hZ hown (host := "") (Or.inl (hw _ (List.mem_of_getElem? (i := 10) rfl))) Via.refl e2 f5 f4 (Or.inr ⟨(hw _ (List.mem_of_getElem? (i := 11) rfl)), rfl, hnm⟩) (hw _ (List.mem_of_getElem? (i := 1) rfl)) (ty := (.array .double)) (by decide) rfl rfl (g := (mkF m 8 #[.val (.ref o0), .val (.int (0 : Int32))] [(.ref b2), (.ref o0)])) rfl rfl (hb hby d1_8)
  have N6 := Fr.snoc X6 N0 g_o0
  have K7 : Keep h0 h6 [o0] := K3.wr W6 (Or.inl (by simp))
  have F6w := f5.same W6
  obtain ⟨T8, h8, k8, X8, e8, E8, A8, st8⟩ := newP X6 hx hZ (hw _ (List.mem_of_getElem? (i := 9) rfl)) e6 (g := (mkF m 13 #[.val (.ref o0), .val (.int (0 : Int32))] [(.int (0 : Int32)), (.ref o0)])) rfl (hb hby d1_13) rfl (by decide) (cap := 0) (by decide) (by decide) (by decide) (by decide)
  obtain ⟨b8, g8⟩ : ∃ z, z = h6.size := ⟨_, rfl⟩
  rw [← g8] at A8 st8
  have gn8 : n0 ≤ b8 := Nat.le_trans (Nat.le_trans (Nat.le_trans Z0 E2.1) (Keep.of_wr W6).1) (Nat.le_of_eq g8.symm)
  have gz8 : h0.size ≤ b8 := Nat.le_trans (K7).1 (Nat.le_of_eq g8.symm)
  have K9 : Keep h0 h8 [o0] := K7.ext E8
  have V8 : Arv Z h8 b8 k8 .double (0 : Int32) [] (.double (0 : UInt64)) := (Arv.new A8 (by decide)).pad (pad_rep [] (.double (0 : UInt64)) 0)
  have f10 := ((f4.wr W6).ext E8)
  have f11 := (((F_diffuse_o0.ext E2).other W6 (Or.inr (slot_ne (Or.inr (hw _ (List.mem_of_getElem? (i := 13) rfl))) (Or.inr (hw _ (List.mem_of_getElem? (i := 11) rfl))) (by decide) (t := (.array .double)) (t' := (.array .double)) (by decide) (by decide)))).ext E8)
  obtain ⟨T12, h12, X12, e12, W12, st12⟩ := putF X8 hx hZ hown (host := "") (Or.inl (hw _ (List.mem_of_getElem? (i := 12) rfl))) Via.refl e8 f11 f10 (Or.inr ⟨(hw _ (List.mem_of_getElem? (i := 13) rfl)), rfl, hnm⟩) (hw _ (List.mem_of_getElem? (i := 1) rfl)) (ty := (.array .double)) (by decide) rfl rfl (g := (mkF m 15 #[.val (.ref o0), .val (.int (0 : Int32))] [(.ref b8), (.ref o0)])) rfl rfl (hb hby d1_15)
  have N12 := Fr.snoc X12 N6 g_o0
  have K13 : Keep h0 h12 [o0] := K9.wr W12 (Or.inl (by simp))
  have F12w := f11.same W12
  obtain ⟨T14, h14, k14, X14, e14, E14, A14, st14⟩ := newP X12 hx hZ (hw _ (List.mem_of_getElem? (i := 9) rfl)) e12 (g := (mkF m 20 #[.val (.ref o0), .val (.int (0 : Int32))] [(.int (0 : Int32)), (.ref o0)])) rfl (hb hby d1_20) rfl (by decide) (cap := 0) (by decide) (by decide) (by decide) (by decide)
  obtain ⟨b14, g14⟩ : ∃ z, z = h12.size := ⟨_, rfl⟩
  rw [← g14] at A14 st14
  have gn14 : n0 ≤ b14 := Nat.le_trans (Nat.le_trans (Nat.le_trans (Nat.le_trans (Nat.le_trans Z0 E2.1) (Keep.of_wr W6).1) E8.1) (Keep.of_wr W12).1) (Nat.le_of_eq g14.symm)
  have gz14 : h0.size ≤ b14 := Nat.le_trans (K13).1 (Nat.le_of_eq g14.symm)
  have K15 : Keep h0 h14 [o0] := K13.ext E14
  have V14 : Arv Z h14 b14 k14 .double (0 : Int32) [] (.double (0 : UInt64)) := (Arv.new A14 (by decide)).pad (pad_rep [] (.double (0 : UInt64)) 0)
  have f16 := ((f10.wr W12).ext E14)
  have f17 := (((((F_potential_o0.ext E2).other W6 (Or.inr (slot_ne (Or.inr (hw _ (List.mem_of_getElem? (i := 15) rfl))) (Or.inr (hw _ (List.mem_of_getElem? (i := 11) rfl))) (by decide) (t := (.array .double)) (t' := (.array .double)) (by decide) (by decide)))).ext E8).other W12 (Or.inr (slot_ne (Or.inr (hw _ (List.mem_of_getElem? (i := 15) rfl))) (Or.inr (hw _ (List.mem_of_getElem? (i := 13) rfl))) (by decide) (t := (.array .double)) (t' := (.array .double)) (by decide) (by decide)))).ext E14)
  obtain ⟨T18, h18, X18, e18, W18, st18⟩ := putF X14 hx hZ hown (host := "") (Or.inl (hw _ (List.mem_of_getElem? (i := 14) rfl))) Via.refl e14 f17 f16 (Or.inr ⟨(hw _ (List.mem_of_getElem? (i := 15) rfl)), rfl, hnm⟩) (hw _ (List.mem_of_getElem? (i := 1) rfl)) (ty := (.array .double)) (by decide) rfl rfl (g := (mkF m 22 #[.val (.ref o0), .val (.int (0 : Int32))] [(.ref b14), (.ref o0)])) rfl rfl (hb hby d1_22)
  have N18 := Fr.snoc X18 N12 g_o0
  have K19 : Keep h0 h18 [o0] := K15.wr W18 (Or.inl (by simp))
  have F18w := f17.same W18
  obtain ⟨T20, h20, k20, X20, e20, E20, A20, st20⟩ := newP X18 hx hZ (hw _ (List.mem_of_getElem? (i := 9) rfl)) e18 (g := (mkF m 27 #[.val (.ref o0), .val (.int (0 : Int32))] [(.int (0 : Int32)), (.ref o0)])) rfl (hb hby d1_27) rfl (by decide) (cap := 0) (by decide) (by decide) (by decide) (by decide)
  obtain ⟨b20, g20⟩ : ∃ z, z = h18.size := ⟨_, rfl⟩
  rw [← g20] at A20 st20
  have gn20 : n0 ≤ b20 := Nat.le_trans (Nat.le_trans (Nat.le_trans (Nat.le_trans (Nat.le_trans (Nat.le_trans (Nat.le_trans Z0 E2.1) (Keep.of_wr W6).1) E8.1) (Keep.of_wr W12).1) E14.1) (Keep.of_wr W18).1) (Nat.le_of_eq g20.symm)
  have gz20 : h0.size ≤ b20 := Nat.le_trans (K19).1 (Nat.le_of_eq g20.symm)
  have K21 : Keep h0 h20 [o0] := K19.ext E20
  have V20 : Arv Z h20 b20 k20 .double (0 : Int32) [] (.double (0 : UInt64)) := (Arv.new A20 (by decide)).pad (pad_rep [] (.double (0 : UInt64)) 0)
  have f22 := ((f16.wr W18).ext E20)
  have f23 := (((((((F_trunk_o0.ext E2).other W6 (Or.inr (slot_ne (Or.inr (hw _ (List.mem_of_getElem? (i := 17) rfl))) (Or.inr (hw _ (List.mem_of_getElem? (i := 11) rfl))) (by decide) (t := (.array .double)) (t' := (.array .double)) (by decide) (by decide)))).ext E8).other W12 (Or.inr (slot_ne (Or.inr (hw _ (List.mem_of_getElem? (i := 17) rfl))) (Or.inr (hw _ (List.mem_of_getElem? (i := 13) rfl))) (by decide) (t := (.array .double)) (t' := (.array .double)) (by decide) (by decide)))).ext E14).other W18 (Or.inr (slot_ne (Or.inr (hw _ (List.mem_of_getElem? (i := 17) rfl))) (Or.inr (hw _ (List.mem_of_getElem? (i := 15) rfl))) (by decide) (t := (.array .double)) (t' := (.array .double)) (by decide) (by decide)))).ext E20)
  obtain ⟨T24, h24, X24, e24, W24, st24⟩ := putF X20 hx hZ hown (host := "") (Or.inl (hw _ (List.mem_of_getElem? (i := 16) rfl))) Via.refl e20 f23 f22 (Or.inr ⟨(hw _ (List.mem_of_getElem? (i := 17) rfl)), rfl, hnm⟩) (hw _ (List.mem_of_getElem? (i := 1) rfl)) (ty := (.array .double)) (by decide) rfl rfl (g := (mkF m 29 #[.val (.ref o0), .val (.int (0 : Int32))] [(.ref b20), (.ref o0)])) rfl rfl (hb hby d1_29)
  have N24 := Fr.snoc X24 N18 g_o0
  have K25 : Keep h0 h24 [o0] := K21.wr W24 (Or.inl (by simp))
  have F24w := f23.same W24
  have c26 : ∀ t, Steps p.tables e below (T24.setTop (mkF m 32 #[.val (.ref o0), .val (.int (0 : Int32))] [])) t → Steps p.tables e below (s₁.setTop (entryFrame m #[(.ref o0), (.int (0 : Int32))] 2)) t := by
    intro t k
    refine c0 t ?_
    show Steps p.tables e below (s₁.setTop (mkF m 0 #[.val (.ref o0), .val (.int (0 : Int32))] [])) _
    refine XS.aloadN X0.here hx rfl (hb hby d1_0) rfl rfl ?_
    show Steps p.tables e below (s₁.setTop (mkF m 1 #[.val (.ref o0), .val (.int (0 : Int32))] [(.ref o0)])) _
    refine st1 _ ?_
    show Steps p.tables e below (T1.setTop (mkF m 4 #[.val (.ref o0), .val (.int (0 : Int32))] [])) _
    refine XS.aloadN X1.here hx rfl (hb hby d1_4) rfl rfl ?_
    show Steps p.tables e below (T1.setTop (mkF m 5 #[.val (.ref o0), .val (.int (0 : Int32))] [(.ref o0)])) _
    refine XS.iloadN X1.here hx rfl (hb hby d1_5) rfl ?_
    show Steps p.tables e below (T1.setTop (mkF m 6 #[.val (.ref o0), .val (.int (0 : Int32))] [(.int (0 : Int32)), (.ref o0)])) _
    refine st2 _ ?_
    show Steps p.tables e below (T2.setTop (mkF m 8 #[.val (.ref o0), .val (.int (0 : Int32))] [(.ref b2), (.ref o0)])) _
    refine st6 _ ?_
    show Steps p.tables e below (T6.setTop (mkF m 11 #[.val (.ref o0), .val (.int (0 : Int32))] [])) _
    refine XS.aloadN X6.here hx rfl (hb hby d1_11) rfl rfl ?_
    show Steps p.tables e below (T6.setTop (mkF m 12 #[.val (.ref o0), .val (.int (0 : Int32))] [(.ref o0)])) _
    refine XS.iloadN X6.here hx rfl (hb hby d1_12) rfl ?_
    show Steps p.tables e below (T6.setTop (mkF m 13 #[.val (.ref o0), .val (.int (0 : Int32))] [(.int (0 : Int32)), (.ref o0)])) _
    refine st8 _ ?_
    show Steps p.tables e below (T8.setTop (mkF m 15 #[.val (.ref o0), .val (.int (0 : Int32))] [(.ref b8), (.ref o0)])) _
    refine st12 _ ?_
    show Steps p.tables e below (T12.setTop (mkF m 18 #[.val (.ref o0), .val (.int (0 : Int32))] [])) _
    refine XS.aloadN X12.here hx rfl (hb hby d1_18) rfl rfl ?_
    show Steps p.tables e below (T12.setTop (mkF m 19 #[.val (.ref o0), .val (.int (0 : Int32))] [(.ref o0)])) _
    refine XS.iloadN X12.here hx rfl (hb hby d1_19) rfl ?_
    show Steps p.tables e below (T12.setTop (mkF m 20 #[.val (.ref o0), .val (.int (0 : Int32))] [(.int (0 : Int32)), (.ref o0)])) _
    refine st14 _ ?_
    show Steps p.tables e below (T14.setTop (mkF m 22 #[.val (.ref o0), .val (.int (0 : Int32))] [(.ref b14), (.ref o0)])) _
    refine st18 _ ?_
    show Steps p.tables e below (T18.setTop (mkF m 25 #[.val (.ref o0), .val (.int (0 : Int32))] [])) _
    refine XS.aloadN X18.here hx rfl (hb hby d1_25) rfl rfl ?_
    show Steps p.tables e below (T18.setTop (mkF m 26 #[.val (.ref o0), .val (.int (0 : Int32))] [(.ref o0)])) _
    refine XS.iloadN X18.here hx rfl (hb hby d1_26) rfl ?_
    show Steps p.tables e below (T18.setTop (mkF m 27 #[.val (.ref o0), .val (.int (0 : Int32))] [(.int (0 : Int32)), (.ref o0)])) _
    refine st20 _ ?_
    show Steps p.tables e below (T20.setTop (mkF m 29 #[.val (.ref o0), .val (.int (0 : Int32))] [(.ref b20), (.ref o0)])) _
    refine st24 _ ?_
    exact k
  obtain ⟨fs, hr, hrun, hended, hW, hsame⟩ := X24.leave (v := none) (fun _ => rfl)
  refine ⟨_, _, c26 _ ?_, hrun, hended, _, _, rfl, ?_, ⟨_, rfl⟩, hW, hsame.mono (by decide) (by decide)⟩
  · show Steps p.tables e below (T24.setTop (mkF m 32 #[.val (.ref o0), .val (.int (0 : Int32))] [])) _
    exact X24.returnOut hx Bd.returns (hb hby d1_32) hr
  · show Q1_0 Z o0 u_direct_o0 u_diffuse_o0 u_potential_o0 u_trunk_o0  h0 n0 _ T24.heap _
    rw [e24]
    exact ⟨b2, b8, b14, b20, k2, k8, k14, k20, rfl, N24, gz2, gz8, gz14, gz20, K25, (f22.wr W24), ((((((F6w.ext E8).other W12 (Or.inr (slot_ne (Or.inr (hw _ (List.mem_of_getElem? (i := 11) rfl))) (Or.inr (hw _ (List.mem_of_getElem? (i := 13) rfl))) (by decide) (t := (.array .double)) (t' := (.array .double)) (by decide) (by decide)))).ext E14).other W18 (Or.inr (slot_ne (Or.inr (hw _ (List.mem_of_getElem? (i := 11) rfl))) (Or.inr (hw _ (List.mem_of_getElem? (i := 15) rfl))) (by decide) (t := (.array .double)) (t' := (.array .double)) (by decide) (by decide)))).ext E20).other W24 (Or.inr (slot_ne (Or.inr (hw _ (List.mem_of_getElem? (i := 11) rfl))) (Or.inr (hw _ (List.mem_of_getElem? (i := 17) rfl))) (by decide) (t := (.array .double)) (t' := (.array .double)) (by decide) (by decide)))), ((((F12w.ext E14).other W18 (Or.inr (slot_ne (Or.inr (hw _ (List.mem_of_getElem? (i := 13) rfl))) (Or.inr (hw _ (List.mem_of_getElem? (i := 15) rfl))) (by decide) (t := (.array .double)) (t' := (.array .double)) (by decide) (by decide)))).ext E20).other W24 (Or.inr (slot_ne (Or.inr (hw _ (List.mem_of_getElem? (i := 13) rfl))) (Or.inr (hw _ (List.mem_of_getElem? (i := 17) rfl))) (by decide) (t := (.array .double)) (t' := (.array .double)) (by decide) (by decide)))), ((F18w.ext E20).other W24 (Or.inr (slot_ne (Or.inr (hw _ (List.mem_of_getElem? (i := 15) rfl))) (Or.inr (hw _ (List.mem_of_getElem? (i := 17) rfl))) (by decide) (t := (.array .double)) (t' := (.array .double)) (by decide) (by decide)))), F24w, (((((((V2.other W6 (Ne.symm (Nat.ne_of_lt (Nat.lt_of_lt_of_le (E_o0).lt (Nat.le_of_eq g2.symm))))).ext E8).other W12 (Ne.symm (Nat.ne_of_lt (Nat.lt_of_lt_of_le (E_o0).lt (Nat.le_of_eq g2.symm))))).ext E14).other W18 (Ne.symm (Nat.ne_of_lt (Nat.lt_of_lt_of_le (E_o0).lt (Nat.le_of_eq g2.symm))))).ext E20).other W24 (Ne.symm (Nat.ne_of_lt (Nat.lt_of_lt_of_le (E_o0).lt (Nat.le_of_eq g2.symm))))), (((((V8.other W12 (Ne.symm (Nat.ne_of_lt (Nat.lt_of_lt_of_le (F6w).lt (Nat.le_of_eq g8.symm))))).ext E14).other W18 (Ne.symm (Nat.ne_of_lt (Nat.lt_of_lt_of_le (F6w).lt (Nat.le_of_eq g8.symm))))).ext E20).other W24 (Ne.symm (Nat.ne_of_lt (Nat.lt_of_lt_of_le (F6w).lt (Nat.le_of_eq g8.symm))))), (((V14.other W18 (Ne.symm (Nat.ne_of_lt (Nat.lt_of_lt_of_le (((F6w.ext E8).other W12 (Or.inr (slot_ne (Or.inr (hw _ (List.mem_of_getElem? (i := 11) rfl))) (Or.inr (hw _ (List.mem_of_getElem? (i := 13) rfl))) (by decide) (t := (.array .double)) (t' := (.array .double)) (by decide) (by decide))))).lt (Nat.le_of_eq g14.symm))))).ext E20).other W24 (Ne.symm (Nat.ne_of_lt (Nat.lt_of_lt_of_le (((F6w.ext E8).other W12 (Or.inr (slot_ne (Or.inr (hw _ (List.mem_of_getElem? (i := 11) rfl))) (Or.inr (hw _ (List.mem_of_getElem? (i := 13) rfl))) (by decide) (t := (.array .double)) (t' := (.array .double)) (by decide) (by decide))))).lt (Nat.le_of_eq g14.symm))))), (V20.other W24 (Ne.symm (Nat.ne_of_lt (Nat.lt_of_lt_of_le (((((F6w.ext E8).other W12 (Or.inr (slot_ne (Or.inr (hw _ (List.mem_of_getElem? (i := 11) rfl))) (Or.inr (hw _ (List.mem_of_getElem? (i := 13) rfl))) (by decide) (t := (.array .double)) (t' := (.array .double)) (by decide) (by decide)))).ext E14).other W18 (Or.inr (slot_ne (Or.inr (hw _ (List.mem_of_getElem? (i := 11) rfl))) (Or.inr (hw _ (List.mem_of_getElem? (i := 15) rfl))) (by decide) (t := (.array .double)) (t' := (.array .double)) (by decide) (by decide))))).lt (Nat.le_of_eq g20.symm))))), (Nat.ne_of_lt (Nat.lt_of_lt_of_le ((V2.other W6 (Ne.symm (Nat.ne_of_lt (Nat.lt_of_lt_of_le (E_o0).lt (Nat.le_of_eq g2.symm)))))).lt (Nat.le_of_eq g8.symm))), (Nat.ne_of_lt (Nat.lt_of_lt_of_le ((((V2.other W6 (Ne.symm (Nat.ne_of_lt (Nat.lt_of_lt_of_le (E_o0).lt (Nat.le_of_eq g2.symm))))).ext E8).other W12 (Ne.symm (Nat.ne_of_lt (Nat.lt_of_lt_of_le (E_o0).lt (Nat.le_of_eq g2.symm)))))).lt (Nat.le_of_eq g14.symm))), (Nat.ne_of_lt (Nat.lt_of_lt_of_le ((((((V2.other W6 (Ne.symm (Nat.ne_of_lt (Nat.lt_of_lt_of_le (E_o0).lt (Nat.le_of_eq g2.symm))))).ext E8).other W12 (Ne.symm (Nat.ne_of_lt (Nat.lt_of_lt_of_le (E_o0).lt (Nat.le_of_eq g2.symm))))).ext E14).other W18 (Ne.symm (Nat.ne_of_lt (Nat.lt_of_lt_of_le (E_o0).lt (Nat.le_of_eq g2.symm)))))).lt (Nat.le_of_eq g20.symm))), (Nat.ne_of_lt (Nat.lt_of_lt_of_le ((V8.other W12 (Ne.symm (Nat.ne_of_lt (Nat.lt_of_lt_of_le (F6w).lt (Nat.le_of_eq g8.symm)))))).lt (Nat.le_of_eq g14.symm))), (Nat.ne_of_lt (Nat.lt_of_lt_of_le ((((V8.other W12 (Ne.symm (Nat.ne_of_lt (Nat.lt_of_lt_of_le (F6w).lt (Nat.le_of_eq g8.symm))))).ext E14).other W18 (Ne.symm (Nat.ne_of_lt (Nat.lt_of_lt_of_le (F6w).lt (Nat.le_of_eq g8.symm)))))).lt (Nat.le_of_eq g20.symm))), (Nat.ne_of_lt (Nat.lt_of_lt_of_le ((V14.other W18 (Ne.symm (Nat.ne_of_lt (Nat.lt_of_lt_of_le (((F6w.ext E8).other W12 (Or.inr (slot_ne (Or.inr (hw _ (List.mem_of_getElem? (i := 11) rfl))) (Or.inr (hw _ (List.mem_of_getElem? (i := 13) rfl))) (by decide) (t := (.array .double)) (t' := (.array .double)) (by decide) (by decide))))).lt (Nat.le_of_eq g14.symm)))))).lt (Nat.le_of_eq g20.symm)))⟩
def Q1_1 (Z : State) (o0 : Addr) (u_direct_o0 : Value) (u_diffuse_o0 : Value) (u_potential_o0 : Value) (u_trunk_o0 : Value)  (h0 : Heap) (n0 : Nat) (v : Option Value) (h : Heap) (L : List Loc) : Prop := ∃ b2 : Addr, ∃ b8 : Addr, ∃ b14 : Addr, ∃ b20 : Addr, ∃ k2 : ClassId, ∃ k8 : ClassId, ∃ k14 : ClassId, ∃ k20 : ClassId, v = none ∧ Fr n0 L ∧ h0.size ≤ b2 ∧ h0.size ≤ b8 ∧ h0.size ≤ b14 ∧ h0.size ≤ b20 ∧ Keep h0 h [o0] ∧ Exa Z h o0 "com/example/lumenstand/lumenstand/light/Interception" ∧ Fld Z h o0 "com/example/lumenstand/lumenstand/light/Interception" "direct" "[D" (.ref b2) ∧ Fld Z h o0 "com/example/lumenstand/lumenstand/light/Interception" "diffuse" "[D" (.ref b8) ∧ Fld Z h o0 "com/example/lumenstand/lumenstand/light/Interception" "potential" "[D" (.ref b14) ∧ Fld Z h o0 "com/example/lumenstand/lumenstand/light/Interception" "trunk" "[D" (.ref b20) ∧ Arv Z h b2 k2 .double (1 : Int32) [(.double (0 : UInt64))] (.double (0 : UInt64)) ∧ Arv Z h b8 k8 .double (1 : Int32) [(.double (0 : UInt64))] (.double (0 : UInt64)) ∧ Arv Z h b14 k14 .double (1 : Int32) [(.double (0 : UInt64))] (.double (0 : UInt64)) ∧ Arv Z h b20 k20 .double (1 : Int32) [(.double (0 : UInt64))] (.double (0 : UInt64)) ∧ b2 ≠ b8 ∧ b2 ≠ b14 ∧ b2 ≠ b20 ∧ b8 ≠ b14 ∧ b8 ≠ b20 ∧ b14 ≠ b20
set_option maxRecDepth 65536 in
set_option maxHeartbeats 40000000 in
theorem rm1_1 (l : Launch) (Z : State) (a0 : Array Value) (hw : ∀ d ∈ tables_1, d.before a0 Z = true) (ws : List Jvm.Cond) (o0 : Addr) (u_direct_o0 : Value) (u_diffuse_o0 : Value) (u_potential_o0 : Value) (u_trunk_o0 : Value)  (h0 : Heap) (n0 : Nat) (Z0 : n0 ≤ h0.size) (E_o0 : Exa Z h0 o0 "com/example/lumenstand/lumenstand/light/Interception") (F_direct_o0 : Fld Z h0 o0 "com/example/lumenstand/lumenstand/light/Interception" "direct" "[D" u_direct_o0) (g_o0 : n0 ≤ o0) (F_diffuse_o0 : Fld Z h0 o0 "com/example/lumenstand/lumenstand/light/Interception" "diffuse" "[D" u_diffuse_o0) (F_potential_o0 : Fld Z h0 o0 "com/example/lumenstand/lumenstand/light/Interception" "potential" "[D" u_potential_o0) (F_trunk_o0 : Fld Z h0 o0 "com/example/lumenstand/lumenstand/light/Interception" "trunk" "[D" u_trunk_o0) :
    MetFree l (⟨"com/example/lumenstand/lumenstand/light/Interception", "<init>", "(I)V"⟩ : MethodName) (head1 (Jvm.Cond.code (⟨"com/example/lumenstand/lumenstand/light/Interception", "<init>", "(I)V"⟩ : MethodName) prog_14_method_1_code 2 none :: ws) ({ frames := 1, cells := 4, slots := 4, locals := 12 } : Room)) (fun a U => a = #[(.ref o0), (.int (1 : Int32))] ∧ Z.Warmed39 U.vm ∧ U.heap = h0) (fun _ _ _ _ _ => True) (fun _ U o U' => ∃ v L, o = .returned v ∧ Q1_1 Z o0 u_direct_o0 u_diffuse_o0 u_potential_o0 u_trunk_o0  h0 n0 v U'.heap L ∧ FrameEnd U o U' L ({ frames := 1, cells := 4, slots := 4, locals := 12 } : Room).cells ({ frames := 1, cells := 4, slots := 4, locals := 12 } : Room).slots) := by
  refine MetFree.of_bodySF (plainFor_of_name pn_1) hisR ?_
  intro p e s m args below meth c s₁ Bd hml0 hP hK
  obtain ⟨rfl, hZ, hh⟩ := hP
  have hx := Bd.exec
  have hby := Bd.bytes
  have hml : c.maxLocals = 2 := hml0
  have hown : s.vm.findClass "com/example/lumenstand/lumenstand/light/Interception" = some m.cls := findClass_of_methodNamed Bd.named
  have hnm := (name_of_methodNamed Bd.named Bd.method).1
  have X0 : Stand p l e ({ frames := 1, cells := 4, slots := 4, locals := 12 } : Room) s m #[(.ref o0), (.int (1 : Int32))] below meth c s₁ [] 0 0 := Stand.of_body Bd
  have e0 : s₁.heap = h0 := by rw [← hh, Bd.state]; rfl
  have N0 := Fr.nil n0
  have c0 : ∀ t, Steps p.tables e below (s₁.setTop (mkF m 0 #[.val (.ref o0), .val (.int (1 : Int32))] [])) t → Steps p.tables e below (s₁.setTop (entryFrame m #[(.ref o0), (.int (1 : Int32))] 2)) t := fun t k => castTop (ef_rm1_1 m o0) k
  obtain ⟨T1, X1, e1, st1⟩ := initO X0 hx hZ hown (hw _ (List.mem_of_getElem? (i := 6) rfl)) (hw _ (List.mem_of_getElem? (i := 7) rfl)) (hw _ (List.mem_of_getElem? (i := 8) rfl)) e0 (g := (mkF m 1 #[.val (.ref o0), .val (.int (1 : Int32))] [(.ref o0)])) rfl (by rw [hml]; rfl) rfl (hb hby d1_1) (by decide) (W := 0) (by show 2 * 0 + _ ≤ _; exact Nat.le_of_eq rfl) (by decide)
  obtain ⟨T2, h2, k2, X2, e2, E2, A2, st2⟩ := newP X1 hx hZ (hw _ (List.mem_of_getElem? (i := 9) rfl)) e1 (g := (mkF m 6 #[.val (.ref o0), .val (.int (1 : Int32))] [(.int (1 : Int32)), (.ref o0)])) rfl (hb hby d1_6) rfl (by decide) (cap := 1) (by decide) (by decide) (by decide) (by decide)
  obtain ⟨b2, g2⟩ : ∃ z, z = h0.size := ⟨_, rfl⟩
  rw [← g2] at A2 st2
  have gn2 : n0 ≤ b2 := Nat.le_trans Z0 (Nat.le_of_eq g2.symm)
  have gz2 : h0.size ≤ b2 := Nat.le_trans ((Keep.refl h0 [o0])).1 (Nat.le_of_eq g2.symm)
  have K3 : Keep h0 h2 [o0] := (Keep.refl h0 [o0]).ext E2
  have V2 : Arv Z h2 b2 k2 .double (1 : Int32) [(.double (0 : UInt64))] (.double (0 : UInt64)) := (Arv.new A2 (by decide)).pad (pad_rep [] (.double (0 : UInt64)) 1)
  have f4 := (E_o0.ext E2)
  have f5 := (F_direct_o0.ext E2)
  obtain ⟨T6, h6, X6, e6, W6, st6⟩ := putF X2 hx hZ hown (host := "") (Or.inl (hw _ (List.mem_of_getElem? (i := 10) rfl))) Via.refl e2 f5 f4 (Or.inr ⟨(hw _ (List.mem_of_getElem? (i := 11) rfl)), rfl, hnm⟩) (hw _ (List.mem_of_getElem? (i := 1) rfl)) (ty := (.array .double)) (by decide) rfl rfl (g := (mkF m 8 #[.val (.ref o0), .val (.int (1 : Int32))] [(.ref b2), (.ref o0)])) rfl rfl (hb hby d1_8)
  have N6 := Fr.snoc X6 N0 g_o0
  have K7 : Keep h0 h6 [o0] := K3.wr W6 (Or.inl (by simp))
  have F6w := f5.same W6
  obtain ⟨T8, h8, k8, X8, e8, E8, A8, st8⟩ := newP X6 hx hZ (hw _ (List.mem_of_getElem? (i := 9) rfl)) e6 (g := (mkF m 13 #[.val (.ref o0), .val (.int (1 : Int32))] [(.int (1 : Int32)), (.ref o0)])) rfl (hb hby d1_13) rfl (by decide) (cap := 1) (by decide) (by decide) (by decide) (by decide)
  obtain ⟨b8, g8⟩ : ∃ z, z = h6.size := ⟨_, rfl⟩
  rw [← g8] at A8 st8
  have gn8 : n0 ≤ b8 := Nat.le_trans (Nat.le_trans (Nat.le_trans Z0 E2.1) (Keep.of_wr W6).1) (Nat.le_of_eq g8.symm)
  have gz8 : h0.size ≤ b8 := Nat.le_trans (K7).1 (Nat.le_of_eq g8.symm)
  have K9 : Keep h0 h8 [o0] := K7.ext E8
  have V8 : Arv Z h8 b8 k8 .double (1 : Int32) [(.double (0 : UInt64))] (.double (0 : UInt64)) := (Arv.new A8 (by decide)).pad (pad_rep [] (.double (0 : UInt64)) 1)
  have f10 := ((f4.wr W6).ext E8)
  have f11 := (((F_diffuse_o0.ext E2).other W6 (Or.inr (slot_ne (Or.inr (hw _ (List.mem_of_getElem? (i := 13) rfl))) (Or.inr (hw _ (List.mem_of_getElem? (i := 11) rfl))) (by decide) (t := (.array .double)) (t' := (.array .double)) (by decide) (by decide)))).ext E8)
  obtain ⟨T12, h12, X12, e12, W12, st12⟩ := putF X8 hx hZ hown (host := "") (Or.inl (hw _ (List.mem_of_getElem? (i := 12) rfl))) Via.refl e8 f11 f10 (Or.inr ⟨(hw _ (List.mem_of_getElem? (i := 13) rfl)), rfl, hnm⟩) (hw _ (List.mem_of_getElem? (i := 1) rfl)) (ty := (.array .double)) (by decide) rfl rfl (g := (mkF m 15 #[.val (.ref o0), .val (.int (1 : Int32))] [(.ref b8), (.ref o0)])) rfl rfl (hb hby d1_15)
  have N12 := Fr.snoc X12 N6 g_o0
  have K13 : Keep h0 h12 [o0] := K9.wr W12 (Or.inl (by simp))
  have F12w := f11.same W12
  obtain ⟨T14, h14, k14, X14, e14, E14, A14, st14⟩ := newP X12 hx hZ (hw _ (List.mem_of_getElem? (i := 9) rfl)) e12 (g := (mkF m 20 #[.val (.ref o0), .val (.int (1 : Int32))] [(.int (1 : Int32)), (.ref o0)])) rfl (hb hby d1_20) rfl (by decide) (cap := 1) (by decide) (by decide) (by decide) (by decide)
  obtain ⟨b14, g14⟩ : ∃ z, z = h12.size := ⟨_, rfl⟩
  rw [← g14] at A14 st14
  have gn14 : n0 ≤ b14 := Nat.le_trans (Nat.le_trans (Nat.le_trans (Nat.le_trans (Nat.le_trans Z0 E2.1) (Keep.of_wr W6).1) E8.1) (Keep.of_wr W12).1) (Nat.le_of_eq g14.symm)
  have gz14 : h0.size ≤ b14 := Nat.le_trans (K13).1 (Nat.le_of_eq g14.symm)
  have K15 : Keep h0 h14 [o0] := K13.ext E14
  have V14 : Arv Z h14 b14 k14 .double (1 : Int32) [(.double (0 : UInt64))] (.double (0 : UInt64)) := (Arv.new A14 (by decide)).pad (pad_rep [] (.double (0 : UInt64)) 1)
  have f16 := ((f10.wr W12).ext E14)
  have f17 := (((((F_potential_o0.ext E2).other W6 (Or.inr (slot_ne (Or.inr (hw _ (List.mem_of_getElem? (i := 15) rfl))) (Or.inr (hw _ (List.mem_of_getElem? (i := 11) rfl))) (by decide) (t := (.array .double)) (t' := (.array .double)) (by decide) (by decide)))).ext E8).other W12 (Or.inr (slot_ne (Or.inr (hw _ (List.mem_of_getElem? (i := 15) rfl))) (Or.inr (hw _ (List.mem_of_getElem? (i := 13) rfl))) (by decide) (t := (.array .double)) (t' := (.array .double)) (by decide) (by decide)))).ext E14)
  obtain ⟨T18, h18, X18, e18, W18, st18⟩ := putF X14 hx hZ hown (host := "") (Or.inl (hw _ (List.mem_of_getElem? (i := 14) rfl))) Via.refl e14 f17 f16 (Or.inr ⟨(hw _ (List.mem_of_getElem? (i := 15) rfl)), rfl, hnm⟩) (hw _ (List.mem_of_getElem? (i := 1) rfl)) (ty := (.array .double)) (by decide) rfl rfl (g := (mkF m 22 #[.val (.ref o0), .val (.int (1 : Int32))] [(.ref b14), (.ref o0)])) rfl rfl (hb hby d1_22)
  have N18 := Fr.snoc X18 N12 g_o0
  have K19 : Keep h0 h18 [o0] := K15.wr W18 (Or.inl (by simp))
  have F18w := f17.same W18
  obtain ⟨T20, h20, k20, X20, e20, E20, A20, st20⟩ := newP X18 hx hZ (hw _ (List.mem_of_getElem? (i := 9) rfl)) e18 (g := (mkF m 27 #[.val (.ref o0), .val (.int (1 : Int32))] [(.int (1 : Int32)), (.ref o0)])) rfl (hb hby d1_27) rfl (by decide) (cap := 1) (by decide) (by decide) (by decide) (by decide)
  obtain ⟨b20, g20⟩ : ∃ z, z = h18.size := ⟨_, rfl⟩
  rw [← g20] at A20 st20
  have gn20 : n0 ≤ b20 := Nat.le_trans (Nat.le_trans (Nat.le_trans (Nat.le_trans (Nat.le_trans (Nat.le_trans (Nat.le_trans Z0 E2.1) (Keep.of_wr W6).1) E8.1) (Keep.of_wr W12).1) E14.1) (Keep.of_wr W18).1) (Nat.le_of_eq g20.symm)
  have gz20 : h0.size ≤ b20 := Nat.le_trans (K19).1 (Nat.le_of_eq g20.symm)
  have K21 : Keep h0 h20 [o0] := K19.ext E20
  have V20 : Arv Z h20 b20 k20 .double (1 : Int32) [(.double (0 : UInt64))] (.double (0 : UInt64)) := (Arv.new A20 (by decide)).pad (pad_rep [] (.double (0 : UInt64)) 1)
  have f22 := ((f16.wr W18).ext E20)
  have f23 := (((((((F_trunk_o0.ext E2).other W6 (Or.inr (slot_ne (Or.inr (hw _ (List.mem_of_getElem? (i := 17) rfl))) (Or.inr (hw _ (List.mem_of_getElem? (i := 11) rfl))) (by decide) (t := (.array .double)) (t' := (.array .double)) (by decide) (by decide)))).ext E8).other W12 (Or.inr (slot_ne (Or.inr (hw _ (List.mem_of_getElem? (i := 17) rfl))) (Or.inr (hw _ (List.mem_of_getElem? (i := 13) rfl))) (by decide) (t := (.array .double)) (t' := (.array .double)) (by decide) (by decide)))).ext E14).other W18 (Or.inr (slot_ne (Or.inr (hw _ (List.mem_of_getElem? (i := 17) rfl))) (Or.inr (hw _ (List.mem_of_getElem? (i := 15) rfl))) (by decide) (t := (.array .double)) (t' := (.array .double)) (by decide) (by decide)))).ext E20)
  obtain ⟨T24, h24, X24, e24, W24, st24⟩ := putF X20 hx hZ hown (host := "") (Or.inl (hw _ (List.mem_of_getElem? (i := 16) rfl))) Via.refl e20 f23 f22 (Or.inr ⟨(hw _ (List.mem_of_getElem? (i := 17) rfl)), rfl, hnm⟩) (hw _ (List.mem_of_getElem? (i := 1) rfl)) (ty := (.array .double)) (by decide) rfl rfl (g := (mkF m 29 #[.val (.ref o0), .val (.int (1 : Int32))] [(.ref b20), (.ref o0)])) rfl rfl (hb hby d1_29)
  have N24 := Fr.snoc X24 N18 g_o0
  have K25 : Keep h0 h24 [o0] := K21.wr W24 (Or.inl (by simp))
  have F24w := f23.same W24
  have c26 : ∀ t, Steps p.tables e below (T24.setTop (mkF m 32 #[.val (.ref o0), .val (.int (1 : Int32))] [])) t → Steps p.tables e below (s₁.setTop (entryFrame m #[(.ref o0), (.int (1 : Int32))] 2)) t := by
    intro t k
    refine c0 t ?_
    show Steps p.tables e below (s₁.setTop (mkF m 0 #[.val (.ref o0), .val (.int (1 : Int32))] [])) _
    refine XS.aloadN X0.here hx rfl (hb hby d1_0) rfl rfl ?_
    show Steps p.tables e below (s₁.setTop (mkF m 1 #[.val (.ref o0), .val (.int (1 : Int32))] [(.ref o0)])) _
    refine st1 _ ?_
    show Steps p.tables e below (T1.setTop (mkF m 4 #[.val (.ref o0), .val (.int (1 : Int32))] [])) _
    refine XS.aloadN X1.here hx rfl (hb hby d1_4) rfl rfl ?_
    show Steps p.tables e below (T1.setTop (mkF m 5 #[.val (.ref o0), .val (.int (1 : Int32))] [(.ref o0)])) _
    refine XS.iloadN X1.here hx rfl (hb hby d1_5) rfl ?_
    show Steps p.tables e below (T1.setTop (mkF m 6 #[.val (.ref o0), .val (.int (1 : Int32))] [(.int (1 : Int32)), (.ref o0)])) _
    refine st2 _ ?_
    show Steps p.tables e below (T2.setTop (mkF m 8 #[.val (.ref o0), .val (.int (1 : Int32))] [(.ref b2), (.ref o0)])) _
    refine st6 _ ?_
    show Steps p.tables e below (T6.setTop (mkF m 11 #[.val (.ref o0), .val (.int (1 : Int32))] [])) _
    refine XS.aloadN X6.here hx rfl (hb hby d1_11) rfl rfl ?_
    show Steps p.tables e below (T6.setTop (mkF m 12 #[.val (.ref o0), .val (.int (1 : Int32))] [(.ref o0)])) _
    refine XS.iloadN X6.here hx rfl (hb hby d1_12) rfl ?_
    show Steps p.tables e below (T6.setTop (mkF m 13 #[.val (.ref o0), .val (.int (1 : Int32))] [(.int (1 : Int32)), (.ref o0)])) _
    refine st8 _ ?_
    show Steps p.tables e below (T8.setTop (mkF m 15 #[.val (.ref o0), .val (.int (1 : Int32))] [(.ref b8), (.ref o0)])) _
    refine st12 _ ?_
    show Steps p.tables e below (T12.setTop (mkF m 18 #[.val (.ref o0), .val (.int (1 : Int32))] [])) _
    refine XS.aloadN X12.here hx rfl (hb hby d1_18) rfl rfl ?_
    show Steps p.tables e below (T12.setTop (mkF m 19 #[.val (.ref o0), .val (.int (1 : Int32))] [(.ref o0)])) _
    refine XS.iloadN X12.here hx rfl (hb hby d1_19) rfl ?_
    show Steps p.tables e below (T12.setTop (mkF m 20 #[.val (.ref o0), .val (.int (1 : Int32))] [(.int (1 : Int32)), (.ref o0)])) _
    refine st14 _ ?_
    show Steps p.tables e below (T14.setTop (mkF m 22 #[.val (.ref o0), .val (.int (1 : Int32))] [(.ref b14), (.ref o0)])) _
    refine st18 _ ?_
    show Steps p.tables e below (T18.setTop (mkF m 25 #[.val (.ref o0), .val (.int (1 : Int32))] [])) _
    refine XS.aloadN X18.here hx rfl (hb hby d1_25) rfl rfl ?_
    show Steps p.tables e below (T18.setTop (mkF m 26 #[.val (.ref o0), .val (.int (1 : Int32))] [(.ref o0)])) _
    refine XS.iloadN X18.here hx rfl (hb hby d1_26) rfl ?_
    show Steps p.tables e below (T18.setTop (mkF m 27 #[.val (.ref o0), .val (.int (1 : Int32))] [(.int (1 : Int32)), (.ref o0)])) _
    refine st20 _ ?_
    show Steps p.tables e below (T20.setTop (mkF m 29 #[.val (.ref o0), .val (.int (1 : Int32))] [(.ref b20), (.ref o0)])) _
    refine st24 _ ?_
    exact k
  obtain ⟨fs, hr, hrun, hended, hW, hsame⟩ := X24.leave (v := none) (fun _ => rfl)
  refine ⟨_, _, c26 _ ?_, hrun, hended, _, _, rfl, ?_, ⟨_, rfl⟩, hW, hsame.mono (by decide) (by decide)⟩
  · show Steps p.tables e below (T24.setTop (mkF m 32 #[.val (.ref o0), .val (.int (1 : Int32))] [])) _
    exact X24.returnOut hx Bd.returns (hb hby d1_32) hr
  · show Q1_1 Z o0 u_direct_o0 u_diffuse_o0 u_potential_o0 u_trunk_o0  h0 n0 _ T24.heap _
    rw [e24]
    exact ⟨b2, b8, b14, b20, k2, k8, k14, k20, rfl, N24, gz2, gz8, gz14, gz20, K25, (f22.wr W24), ((((((F6w.ext E8).other W12 (Or.inr (slot_ne (Or.inr (hw _ (List.mem_of_getElem? (i := 11) rfl))) (Or.inr (hw _ (List.mem_of_getElem? (i := 13) rfl))) (by decide) (t := (.array .double)) (t' := (.array .double)) (by decide) (by decide)))).ext E14).other W18 (Or.inr (slot_ne (Or.inr (hw _ (List.mem_of_getElem? (i := 11) rfl))) (Or.inr (hw _ (List.mem_of_getElem? (i := 15) rfl))) (by decide) (t := (.array .double)) (t' := (.array .double)) (by decide) (by decide)))).ext E20).other W24 (Or.inr (slot_ne (Or.inr (hw _ (List.mem_of_getElem? (i := 11) rfl))) (Or.inr (hw _ (List.mem_of_getElem? (i := 17) rfl))) (by decide) (t := (.array .double)) (t' := (.array .double)) (by decide) (by decide)))), ((((F12w.ext E14).other W18 (Or.inr (slot_ne (Or.inr (hw _ (List.mem_of_getElem? (i := 13) rfl))) (Or.inr (hw _ (List.mem_of_getElem? (i := 15) rfl))) (by decide) (t := (.array .double)) (t' := (.array .double)) (by decide) (by decide)))).ext E20).other W24 (Or.inr (slot_ne (Or.inr (hw _ (List.mem_of_getElem? (i := 13) rfl))) (Or.inr (hw _ (List.mem_of_getElem? (i := 17) rfl))) (by decide) (t := (.array .double)) (t' := (.array .double)) (by decide) (by decide)))), ((F18w.ext E20).other W24 (Or.inr (slot_ne (Or.inr (hw _ (List.mem_of_getElem? (i := 15) rfl))) (Or.inr (hw _ (List.mem_of_getElem? (i := 17) rfl))) (by decide) (t := (.array .double)) (t' := (.array .double)) (by decide) (by decide)))), F24w, (((((((V2.other W6 (Ne.symm (Nat.ne_of_lt (Nat.lt_of_lt_of_le (E_o0).lt (Nat.le_of_eq g2.symm))))).ext E8).other W12 (Ne.symm (Nat.ne_of_lt (Nat.lt_of_lt_of_le (E_o0).lt (Nat.le_of_eq g2.symm))))).ext E14).other W18 (Ne.symm (Nat.ne_of_lt (Nat.lt_of_lt_of_le (E_o0).lt (Nat.le_of_eq g2.symm))))).ext E20).other W24 (Ne.symm (Nat.ne_of_lt (Nat.lt_of_lt_of_le (E_o0).lt (Nat.le_of_eq g2.symm))))), (((((V8.other W12 (Ne.symm (Nat.ne_of_lt (Nat.lt_of_lt_of_le (F6w).lt (Nat.le_of_eq g8.symm))))).ext E14).other W18 (Ne.symm (Nat.ne_of_lt (Nat.lt_of_lt_of_le (F6w).lt (Nat.le_of_eq g8.symm))))).ext E20).other W24 (Ne.symm (Nat.ne_of_lt (Nat.lt_of_lt_of_le (F6w).lt (Nat.le_of_eq g8.symm))))), (((V14.other W18 (Ne.symm (Nat.ne_of_lt (Nat.lt_of_lt_of_le (((F6w.ext E8).other W12 (Or.inr (slot_ne (Or.inr (hw _ (List.mem_of_getElem? (i := 11) rfl))) (Or.inr (hw _ (List.mem_of_getElem? (i := 13) rfl))) (by decide) (t := (.array .double)) (t' := (.array .double)) (by decide) (by decide))))).lt (Nat.le_of_eq g14.symm))))).ext E20).other W24 (Ne.symm (Nat.ne_of_lt (Nat.lt_of_lt_of_le (((F6w.ext E8).other W12 (Or.inr (slot_ne (Or.inr (hw _ (List.mem_of_getElem? (i := 11) rfl))) (Or.inr (hw _ (List.mem_of_getElem? (i := 13) rfl))) (by decide) (t := (.array .double)) (t' := (.array .double)) (by decide) (by decide))))).lt (Nat.le_of_eq g14.symm))))), (V20.other W24 (Ne.symm (Nat.ne_of_lt (Nat.lt_of_lt_of_le (((((F6w.ext E8).other W12 (Or.inr (slot_ne (Or.inr (hw _ (List.mem_of_getElem? (i := 11) rfl))) (Or.inr (hw _ (List.mem_of_getElem? (i := 13) rfl))) (by decide) (t := (.array .double)) (t' := (.array .double)) (by decide) (by decide)))).ext E14).other W18 (Or.inr (slot_ne (Or.inr (hw _ (List.mem_of_getElem? (i := 11) rfl))) (Or.inr (hw _ (List.mem_of_getElem? (i := 15) rfl))) (by decide) (t := (.array .double)) (t' := (.array .double)) (by decide) (by decide))))).lt (Nat.le_of_eq g20.symm))))), (Nat.ne_of_lt (Nat.lt_of_lt_of_le ((V2.other W6 (Ne.symm (Nat.ne_of_lt (Nat.lt_of_lt_of_le (E_o0).lt (Nat.le_of_eq g2.symm)))))).lt (Nat.le_of_eq g8.symm))), (Nat.ne_of_lt (Nat.lt_of_lt_of_le ((((V2.other W6 (Ne.symm (Nat.ne_of_lt (Nat.lt_of_lt_of_le (E_o0).lt (Nat.le_of_eq g2.symm))))).ext E8).other W12 (Ne.symm (Nat.ne_of_lt (Nat.lt_of_lt_of_le (E_o0).lt (Nat.le_of_eq g2.symm)))))).lt (Nat.le_of_eq g14.symm))), (Nat.ne_of_lt (Nat.lt_of_lt_of_le ((((((V2.other W6 (Ne.symm (Nat.ne_of_lt (Nat.lt_of_lt_of_le (E_o0).lt (Nat.le_of_eq g2.symm))))).ext E8).other W12 (Ne.symm (Nat.ne_of_lt (Nat.lt_of_lt_of_le (E_o0).lt (Nat.le_of_eq g2.symm))))).ext E14).other W18 (Ne.symm (Nat.ne_of_lt (Nat.lt_of_lt_of_le (E_o0).lt (Nat.le_of_eq g2.symm)))))).lt (Nat.le_of_eq g20.symm))), (Nat.ne_of_lt (Nat.lt_of_lt_of_le ((V8.other W12 (Ne.symm (Nat.ne_of_lt (Nat.lt_of_lt_of_le (F6w).lt (Nat.le_of_eq g8.symm)))))).lt (Nat.le_of_eq g14.symm))), (Nat.ne_of_lt (Nat.lt_of_lt_of_le ((((V8.other W12 (Ne.symm (Nat.ne_of_lt (Nat.lt_of_lt_of_le (F6w).lt (Nat.le_of_eq g8.symm))))).ext E14).other W18 (Ne.symm (Nat.ne_of_lt (Nat.lt_of_lt_of_le (F6w).lt (Nat.le_of_eq g8.symm)))))).lt (Nat.le_of_eq g20.symm))), (Nat.ne_of_lt (Nat.lt_of_lt_of_le ((V14.other W18 (Ne.symm (Nat.ne_of_lt (Nat.lt_of_lt_of_le (((F6w.ext E8).other W12 (Or.inr (slot_ne (Or.inr (hw _ (List.mem_of_getElem? (i := 11) rfl))) (Or.inr (hw _ (List.mem_of_getElem? (i := 13) rfl))) (by decide) (t := (.array .double)) (t' := (.array .double)) (by decide) (by decide))))).lt (Nat.le_of_eq g14.symm)))))).lt (Nat.le_of_eq g20.symm)))⟩
def Q1_2 (Z : State) (o0 : Addr) (u_direct_o0 : Value) (u_diffuse_o0 : Value) (u_potential_o0 : Value) (u_trunk_o0 : Value)  (h0 : Heap) (n0 : Nat) (v : Option Value) (h : Heap) (L : List Loc) : Prop := ∃ b2 : Addr, ∃ b8 : Addr, ∃ b14 : Addr, ∃ b20 : Addr, ∃ k2 : ClassId, ∃ k8 : ClassId, ∃ k14 : ClassId, ∃ k20 : ClassId, v = none ∧ Fr n0 L ∧ h0.size ≤ b2 ∧ h0.size ≤ b8 ∧ h0.size ≤ b14 ∧ h0.size ≤ b20 ∧ Keep h0 h [o0] ∧ Exa Z h o0 "com/example/lumenstand/lumenstand/light/Interception" ∧ Fld Z h o0 "com/example/lumenstand/lumenstand/light/Interception" "direct" "[D" (.ref b2) ∧ Fld Z h o0 "com/example/lumenstand/lumenstand/light/Interception" "diffuse" "[D" (.ref b8) ∧ Fld Z h o0 "com/example/lumenstand/lumenstand/light/Interception" "potential" "[D" (.ref b14) ∧ Fld Z h o0 "com/example/lumenstand/lumenstand/light/Interception" "trunk" "[D" (.ref b20) ∧ Arv Z h b2 k2 .double (2 : Int32) [(.double (0 : UInt64)), (.double (0 : UInt64))] (.double (0 : UInt64)) ∧ Arv Z h b8 k8 .double (2 : Int32) [(.double (0 : UInt64)), (.double (0 : UInt64))] (.double (0 : UInt64)) ∧ Arv Z h b14 k14 .double (2 : Int32) [(.double (0 : UInt64)), (.double (0 : UInt64))] (.double (0 : UInt64)) ∧ Arv Z h b20 k20 .double (2 : Int32) [(.double (0 : UInt64)), (.double (0 : UInt64))] (.double (0 : UInt64)) ∧ b2 ≠ b8 ∧ b2 ≠ b14 ∧ b2 ≠ b20 ∧ b8 ≠ b14 ∧ b8 ≠ b20 ∧ b14 ≠ b20
set_option maxRecDepth 65536 in
set_option maxHeartbeats 40000000 in
theorem rm1_2 (l : Launch) (Z : State) (a0 : Array Value) (hw : ∀ d ∈ tables_1, d.before a0 Z = true) (ws : List Jvm.Cond) (o0 : Addr) (u_direct_o0 : Value) (u_diffuse_o0 : Value) (u_potential_o0 : Value) (u_trunk_o0 : Value)  (h0 : Heap) (n0 : Nat) (Z0 : n0 ≤ h0.size) (E_o0 : Exa Z h0 o0 "com/example/lumenstand/lumenstand/light/Interception") (F_direct_o0 : Fld Z h0 o0 "com/example/lumenstand/lumenstand/light/Interception" "direct" "[D" u_direct_o0) (g_o0 : n0 ≤ o0) (F_diffuse_o0 : Fld Z h0 o0 "com/example/lumenstand/lumenstand/light/Interception" "diffuse" "[D" u_diffuse_o0) (F_potential_o0 : Fld Z h0 o0 "com/example/lumenstand/lumenstand/light/Interception" "potential" "[D" u_potential_o0) (F_trunk_o0 : Fld Z h0 o0 "com/example/lumenstand/lumenstand/light/Interception" "trunk" "[D" u_trunk_o0) :
    MetFree l (⟨"com/example/lumenstand/lumenstand/light/Interception", "<init>", "(I)V"⟩ : MethodName) (head1 (Jvm.Cond.code (⟨"com/example/lumenstand/lumenstand/light/Interception", "<init>", "(I)V"⟩ : MethodName) prog_14_method_1_code 2 none :: ws) ({ frames := 1, cells := 4, slots := 8, locals := 12 } : Room)) (fun a U => a = #[(.ref o0), (.int (2 : Int32))] ∧ Z.Warmed39 U.vm ∧ U.heap = h0) (fun _ _ _ _ _ => True) (fun _ U o U' => ∃ v L, o = .returned v ∧ Q1_2 Z o0 u_direct_o0 u_diffuse_o0 u_potential_o0 u_trunk_o0  h0 n0 v U'.heap L ∧ FrameEnd U o U' L ({ frames := 1, cells := 4, slots := 8, locals := 12 } : Room).cells ({ frames := 1, cells := 4, slots := 8, locals := 12 } : Room).slots) := by
  refine MetFree.of_bodySF (plainFor_of_name pn_1) hisR ?_
  intro p e s m args below meth c s₁ Bd hml0 hP hK
  obtain ⟨rfl, hZ, hh⟩ := hP
  have hx := Bd.exec
  have hby := Bd.bytes
  have hml : c.maxLocals = 2 := hml0
  have hown : s.vm.findClass "com/example/lumenstand/lumenstand/light/Interception" = some m.cls := findClass_of_methodNamed Bd.named
  have hnm := (name_of_methodNamed Bd.named Bd.method).1
  have X0 : Stand p l e ({ frames := 1, cells := 4, slots := 8, locals := 12 } : Room) s m #[(.ref o0), (.int (2 : Int32))] below meth c s₁ [] 0 0 := Stand.of_body Bd
  have e0 : s₁.heap = h0 := by rw [← hh, Bd.state]; rfl
  have N0 := Fr.nil n0
  have c0 : ∀ t, Steps p.tables e below (s₁.setTop (mkF m 0 #[.val (.ref o0), .val (.int (2 : Int32))] [])) t → Steps p.tables e below (s₁.setTop (entryFrame m #[(.ref o0), (.int (2 : Int32))] 2)) t := fun t k => castTop (ef_rm1_2 m o0) k
  obtain ⟨T1, X1, e1, st1⟩ := initO X0 hx hZ hown (hw _ (List.mem_of_getElem? (i := 6) rfl)) (hw _ (List.mem_of_getElem? (i := 7) rfl)) (hw _ (List.mem_of_getElem? (i := 8) rfl)) e0 (g := (mkF m 1 #[.val (.ref o0), .val (.int (2 : Int32))] [(.ref o0)])) rfl (by rw [hml]; rfl) rfl (hb hby d1_1) (by decide) (W := 0) (by show 2 * 0 + _ ≤ _; exact Nat.le_of_eq rfl) (by decide)
  obtain ⟨T2, h2, k2, X2, e2, E2, A2, st2⟩ := newP X1 hx hZ (hw _ (List.mem_of_getElem? (i := 9) rfl)) e1 (g := (mkF m 6 #[.val (.ref o0), .val (.int (2 : Int32))] [(.int (2 : Int32)), (.ref o0)])) rfl (hb hby d1_6) rfl (by decide) (cap := 2) (by decide) (by decide) (by decide) (by decide)
  obtain ⟨b2, g2⟩ : ∃ z, z = h0.size := ⟨_, rfl⟩
  rw [← g2] at A2 st2
  have gn2 : n0 ≤ b2 := Nat.le_trans Z0 (Nat.le_of_eq g2.symm)
  have gz2 : h0.size ≤ b2 := Nat.le_trans ((Keep.refl h0 [o0])).1 (Nat.le_of_eq g2.symm)
  have K3 : Keep h0 h2 [o0] := (Keep.refl h0 [o0]).ext E2
  have V2 : Arv Z h2 b2 k2 .double (2 : Int32) [(.double (0 : UInt64)), (.double (0 : UInt64))] (.double (0 : UInt64)) := (Arv.new A2 (by decide)).pad (pad_rep [] (.double (0 : UInt64)) 2)
  have f4 := (E_o0.ext E2)
  have f5 := (F_direct_o0.ext E2)
  obtain ⟨T6, h6, X6, e6, W6, st6⟩ := putF X2 hx hZ hown (host := "") (Or.inl (hw _ (List.mem_of_getElem? (i := 10) rfl))) Via.refl e2 f5 f4 (Or.inr ⟨(hw _ (List.mem_of_getElem? (i := 11) rfl)), rfl, hnm⟩) (hw _ (List.mem_of_getElem? (i := 1) rfl)) (ty := (.array .double)) (by decide) rfl rfl (g := (mkF m 8 #[.val (.ref o0), .val (.int (2 : Int32))] [(.ref b2), (.ref o0)])) rfl rfl (hb hby d1_8)
  have N6 := Fr.snoc X6 N0 g_o0
  have K7 : Keep h0 h6 [o0] := K3.wr W6 (Or.inl (by simp))
  have F6w := f5.same W6
  obtain ⟨T8, h8, k8, X8, e8, E8, A8, st8⟩ := newP X6 hx hZ (hw _ (List.mem_of_getElem? (i := 9) rfl)) e6 (g := (mkF m 13 #[.val (.ref o0), .val (.int (2 : Int32))] [(.int (2 : Int32)), (.ref o0)])) rfl (hb hby d1_13) rfl (by decide) (cap := 2) (by decide) (by decide) (by decide) (by decide)
  obtain ⟨b8, g8⟩ : ∃ z, z = h6.size := ⟨_, rfl⟩
  rw [← g8] at A8 st8
  have gn8 : n0 ≤ b8 := Nat.le_trans (Nat.le_trans (Nat.le_trans Z0 E2.1) (Keep.of_wr W6).1) (Nat.le_of_eq g8.symm)
  have gz8 : h0.size ≤ b8 := Nat.le_trans (K7).1 (Nat.le_of_eq g8.symm)
  have K9 : Keep h0 h8 [o0] := K7.ext E8
  have V8 : Arv Z h8 b8 k8 .double (2 : Int32) [(.double (0 : UInt64)), (.double (0 : UInt64))] (.double (0 : UInt64)) := (Arv.new A8 (by decide)).pad (pad_rep [] (.double (0 : UInt64)) 2)
  have f10 := ((f4.wr W6).ext E8)
  have f11 := (((F_diffuse_o0.ext E2).other W6 (Or.inr (slot_ne (Or.inr (hw _ (List.mem_of_getElem? (i := 13) rfl))) (Or.inr (hw _ (List.mem_of_getElem? (i := 11) rfl))) (by decide) (t := (.array .double)) (t' := (.array .double)) (by decide) (by decide)))).ext E8)
  obtain ⟨T12, h12, X12, e12, W12, st12⟩ := putF X8 hx hZ hown (host := "") (Or.inl (hw _ (List.mem_of_getElem? (i := 12) rfl))) Via.refl e8 f11 f10 (Or.inr ⟨(hw _ (List.mem_of_getElem? (i := 13) rfl)), rfl, hnm⟩) (hw _ (List.mem_of_getElem? (i := 1) rfl)) (ty := (.array .double)) (by decide) rfl rfl (g := (mkF m 15 #[.val (.ref o0), .val (.int (2 : Int32))] [(.ref b8), (.ref o0)])) rfl rfl (hb hby d1_15)
  have N12 := Fr.snoc X12 N6 g_o0
  have K13 : Keep h0 h12 [o0] := K9.wr W12 (Or.inl (by simp))
  have F12w := f11.same W12
  obtain ⟨T14, h14, k14, X14, e14, E14, A14, st14⟩ := newP X12 hx hZ (hw _ (List.mem_of_getElem? (i := 9) rfl)) e12 (g := (mkF m 20 #[.val (.ref o0), .val (.int (2 : Int32))] [(.int (2 : Int32)), (.ref o0)])) rfl (hb hby d1_20) rfl (by decide) (cap := 2) (by decide) (by decide) (by decide) (by decide)
  obtain ⟨b14, g14⟩ : ∃ z, z = h12.size := ⟨_, rfl⟩
  rw [← g14] at A14 st14
  have gn14 : n0 ≤ b14 := Nat.le_trans (Nat.le_trans (Nat.le_trans (Nat.le_trans (Nat.le_trans Z0 E2.1) (Keep.of_wr W6).1) E8.1) (Keep.of_wr W12).1) (Nat.le_of_eq g14.symm)
  have gz14 : h0.size ≤ b14 := Nat.le_trans (K13).1 (Nat.le_of_eq g14.symm)
  have K15 : Keep h0 h14 [o0] := K13.ext E14
  have V14 : Arv Z h14 b14 k14 .double (2 : Int32) [(.double (0 : UInt64)), (.double (0 : UInt64))] (.double (0 : UInt64)) := (Arv.new A14 (by decide)).pad (pad_rep [] (.double (0 : UInt64)) 2)
  have f16 := ((f10.wr W12).ext E14)
  have f17 := (((((F_potential_o0.ext E2).other W6 (Or.inr (slot_ne (Or.inr (hw _ (List.mem_of_getElem? (i := 15) rfl))) (Or.inr (hw _ (List.mem_of_getElem? (i := 11) rfl))) (by decide) (t := (.array .double)) (t' := (.array .double)) (by decide) (by decide)))).ext E8).other W12 (Or.inr (slot_ne (Or.inr (hw _ (List.mem_of_getElem? (i := 15) rfl))) (Or.inr (hw _ (List.mem_of_getElem? (i := 13) rfl))) (by decide) (t := (.array .double)) (t' := (.array .double)) (by decide) (by decide)))).ext E14)
  obtain ⟨T18, h18, X18, e18, W18, st18⟩ := putF X14 hx hZ hown (host := "") (Or.inl (hw _ (List.mem_of_getElem? (i := 14) rfl))) Via.refl e14 f17 f16 (Or.inr ⟨(hw _ (List.mem_of_getElem? (i := 15) rfl)), rfl, hnm⟩) (hw _ (List.mem_of_getElem? (i := 1) rfl)) (ty := (.array .double)) (by decide) rfl rfl (g := (mkF m 22 #[.val (.ref o0), .val (.int (2 : Int32))] [(.ref b14), (.ref o0)])) rfl rfl (hb hby d1_22)
  have N18 := Fr.snoc X18 N12 g_o0
  have K19 : Keep h0 h18 [o0] := K15.wr W18 (Or.inl (by simp))
  have F18w := f17.same W18
  obtain ⟨T20, h20, k20, X20, e20, E20, A20, st20⟩ := newP X18 hx hZ (hw _ (List.mem_of_getElem? (i := 9) rfl)) e18 (g := (mkF m 27 #[.val (.ref o0), .val (.int (2 : Int32))] [(.int (2 : Int32)), (.ref o0)])) rfl (hb hby d1_27) rfl (by decide) (cap := 2) (by decide) (by decide) (by decide) (by decide)
  obtain ⟨b20, g20⟩ : ∃ z, z = h18.size := ⟨_, rfl⟩
  rw [← g20] at A20 st20
  have gn20 : n0 ≤ b20 := Nat.le_trans (Nat.le_trans (Nat.le_trans (Nat.le_trans (Nat.le_trans (Nat.le_trans (Nat.le_trans Z0 E2.1) (Keep.of_wr W6).1) E8.1) (Keep.of_wr W12).1) E14.1) (Keep.of_wr W18).1) (Nat.le_of_eq g20.symm)
  have gz20 : h0.size ≤ b20 := Nat.le_trans (K19).1 (Nat.le_of_eq g20.symm)
  have K21 : Keep h0 h20 [o0] := K19.ext E20
  have V20 : Arv Z h20 b20 k20 .double (2 : Int32) [(.double (0 : UInt64)), (.double (0 : UInt64))] (.double (0 : UInt64)) := (Arv.new A20 (by decide)).pad (pad_rep [] (.double (0 : UInt64)) 2)
  have f22 := ((f16.wr W18).ext E20)
  have f23 := (((((((F_trunk_o0.ext E2).other W6 (Or.inr (slot_ne (Or.inr (hw _ (List.mem_of_getElem? (i := 17) rfl))) (Or.inr (hw _ (List.mem_of_getElem? (i := 11) rfl))) (by decide) (t := (.array .double)) (t' := (.array .double)) (by decide) (by decide)))).ext E8).other W12 (Or.inr (slot_ne (Or.inr (hw _ (List.mem_of_getElem? (i := 17) rfl))) (Or.inr (hw _ (List.mem_of_getElem? (i := 13) rfl))) (by decide) (t := (.array .double)) (t' := (.array .double)) (by decide) (by decide)))).ext E14).other W18 (Or.inr (slot_ne (Or.inr (hw _ (List.mem_of_getElem? (i := 17) rfl))) (Or.inr (hw _ (List.mem_of_getElem? (i := 15) rfl))) (by decide) (t := (.array .double)) (t' := (.array .double)) (by decide) (by decide)))).ext E20)
  obtain ⟨T24, h24, X24, e24, W24, st24⟩ := putF X20 hx hZ hown (host := "") (Or.inl (hw _ (List.mem_of_getElem? (i := 16) rfl))) Via.refl e20 f23 f22 (Or.inr ⟨(hw _ (List.mem_of_getElem? (i := 17) rfl)), rfl, hnm⟩) (hw _ (List.mem_of_getElem? (i := 1) rfl)) (ty := (.array .double)) (by decide) rfl rfl (g := (mkF m 29 #[.val (.ref o0), .val (.int (2 : Int32))] [(.ref b20), (.ref o0)])) rfl rfl (hb hby d1_29)
  have N24 := Fr.snoc X24 N18 g_o0
  have K25 : Keep h0 h24 [o0] := K21.wr W24 (Or.inl (by simp))
  have F24w := f23.same W24
  have c26 : ∀ t, Steps p.tables e below (T24.setTop (mkF m 32 #[.val (.ref o0), .val (.int (2 : Int32))] [])) t → Steps p.tables e below (s₁.setTop (entryFrame m #[(.ref o0), (.int (2 : Int32))] 2)) t := by
    intro t k
    refine c0 t ?_
    show Steps p.tables e below (s₁.setTop (mkF m 0 #[.val (.ref o0), .val (.int (2 : Int32))] [])) _
    refine XS.aloadN X0.here hx rfl (hb hby d1_0) rfl rfl ?_
    show Steps p.tables e below (s₁.setTop (mkF m 1 #[.val (.ref o0), .val (.int (2 : Int32))] [(.ref o0)])) _
    refine st1 _ ?_
    show Steps p.tables e below (T1.setTop (mkF m 4 #[.val (.ref o0), .val (.int (2 : Int32))] [])) _
    refine XS.aloadN X1.here hx rfl (hb hby d1_4) rfl rfl ?_
    show Steps p.tables e below (T1.setTop (mkF m 5 #[.val (.ref o0), .val (.int (2 : Int32))] [(.ref o0)])) _
    refine XS.iloadN X1.here hx rfl (hb hby d1_5) rfl ?_
    show Steps p.tables e below (T1.setTop (mkF m 6 #[.val (.ref o0), .val (.int (2 : Int32))] [(.int (2 : Int32)), (.ref o0)])) _
    refine st2 _ ?_
    show Steps p.tables e below (T2.setTop (mkF m 8 #[.val (.ref o0), .val (.int (2 : Int32))] [(.ref b2), (.ref o0)])) _
    refine st6 _ ?_
    show Steps p.tables e below (T6.setTop (mkF m 11 #[.val (.ref o0), .val (.int (2 : Int32))] [])) _
    refine XS.aloadN X6.here hx rfl (hb hby d1_11) rfl rfl ?_
    show Steps p.tables e below (T6.setTop (mkF m 12 #[.val (.ref o0), .val (.int (2 : Int32))] [(.ref o0)])) _
    refine XS.iloadN X6.here hx rfl (hb hby d1_12) rfl ?_
    show Steps p.tables e below (T6.setTop (mkF m 13 #[.val (.ref o0), .val (.int (2 : Int32))] [(.int (2 : Int32)), (.ref o0)])) _
    refine st8 _ ?_
    show Steps p.tables e below (T8.setTop (mkF m 15 #[.val (.ref o0), .val (.int (2 : Int32))] [(.ref b8), (.ref o0)])) _
    refine st12 _ ?_
    show Steps p.tables e below (T12.setTop (mkF m 18 #[.val (.ref o0), .val (.int (2 : Int32))] [])) _
    refine XS.aloadN X12.here hx rfl (hb hby d1_18) rfl rfl ?_
    show Steps p.tables e below (T12.setTop (mkF m 19 #[.val (.ref o0), .val (.int (2 : Int32))] [(.ref o0)])) _
    refine XS.iloadN X12.here hx rfl (hb hby d1_19) rfl ?_
    show Steps p.tables e below (T12.setTop (mkF m 20 #[.val (.ref o0), .val (.int (2 : Int32))] [(.int (2 : Int32)), (.ref o0)])) _
    refine st14 _ ?_
    show Steps p.tables e below (T14.setTop (mkF m 22 #[.val (.ref o0), .val (.int (2 : Int32))] [(.ref b14), (.ref o0)])) _
    refine st18 _ ?_
    show Steps p.tables e below (T18.setTop (mkF m 25 #[.val (.ref o0), .val (.int (2 : Int32))] [])) _
    refine XS.aloadN X18.here hx rfl (hb hby d1_25) rfl rfl ?_
    show Steps p.tables e below (T18.setTop (mkF m 26 #[.val (.ref o0), .val (.int (2 : Int32))] [(.ref o0)])) _
    refine XS.iloadN X18.here hx rfl (hb hby d1_26) rfl ?_
    show Steps p.tables e below (T18.setTop (mkF m 27 #[.val (.ref o0), .val (.int (2 : Int32))] [(.int (2 : Int32)), (.ref o0)])) _
    refine st20 _ ?_
    show Steps p.tables e below (T20.setTop (mkF m 29 #[.val (.ref o0), .val (.int (2 : Int32))] [(.ref b20), (.ref o0)])) _
    refine st24 _ ?_
    exact k
  obtain ⟨fs, hr, hrun, hended, hW, hsame⟩ := X24.leave (v := none) (fun _ => rfl)
  refine ⟨_, _, c26 _ ?_, hrun, hended, _, _, rfl, ?_, ⟨_, rfl⟩, hW, hsame.mono (by decide) (by decide)⟩
  · show Steps p.tables e below (T24.setTop (mkF m 32 #[.val (.ref o0), .val (.int (2 : Int32))] [])) _
    exact X24.returnOut hx Bd.returns (hb hby d1_32) hr
  · show Q1_2 Z o0 u_direct_o0 u_diffuse_o0 u_potential_o0 u_trunk_o0  h0 n0 _ T24.heap _
    rw [e24]
    exact ⟨b2, b8, b14, b20, k2, k8, k14, k20, rfl, N24, gz2, gz8, gz14, gz20, K25, (f22.wr W24), ((((((F6w.ext E8).other W12 (Or.inr (slot_ne (Or.inr (hw _ (List.mem_of_getElem? (i := 11) rfl))) (Or.inr (hw _ (List.mem_of_getElem? (i := 13) rfl))) (by decide) (t := (.array .double)) (t' := (.array .double)) (by decide) (by decide)))).ext E14).other W18 (Or.inr (slot_ne (Or.inr (hw _ (List.mem_of_getElem? (i := 11) rfl))) (Or.inr (hw _ (List.mem_of_getElem? (i := 15) rfl))) (by decide) (t := (.array .double)) (t' := (.array .double)) (by decide) (by decide)))).ext E20).other W24 (Or.inr (slot_ne (Or.inr (hw _ (List.mem_of_getElem? (i := 11) rfl))) (Or.inr (hw _ (List.mem_of_getElem? (i := 17) rfl))) (by decide) (t := (.array .double)) (t' := (.array .double)) (by decide) (by decide)))), ((((F12w.ext E14).other W18 (Or.inr (slot_ne (Or.inr (hw _ (List.mem_of_getElem? (i := 13) rfl))) (Or.inr (hw _ (List.mem_of_getElem? (i := 15) rfl))) (by decide) (t := (.array .double)) (t' := (.array .double)) (by decide) (by decide)))).ext E20).other W24 (Or.inr (slot_ne (Or.inr (hw _ (List.mem_of_getElem? (i := 13) rfl))) (Or.inr (hw _ (List.mem_of_getElem? (i := 17) rfl))) (by decide) (t := (.array .double)) (t' := (.array .double)) (by decide) (by decide)))), ((F18w.ext E20).other W24 (Or.inr (slot_ne (Or.inr (hw _ (List.mem_of_getElem? (i := 15) rfl))) (Or.inr (hw _ (List.mem_of_getElem? (i := 17) rfl))) (by decide) (t := (.array .double)) (t' := (.array .double)) (by decide) (by decide)))), F24w, (((((((V2.other W6 (Ne.symm (Nat.ne_of_lt (Nat.lt_of_lt_of_le (E_o0).lt (Nat.le_of_eq g2.symm))))).ext E8).other W12 (Ne.symm (Nat.ne_of_lt (Nat.lt_of_lt_of_le (E_o0).lt (Nat.le_of_eq g2.symm))))).ext E14).other W18 (Ne.symm (Nat.ne_of_lt (Nat.lt_of_lt_of_le (E_o0).lt (Nat.le_of_eq g2.symm))))).ext E20).other W24 (Ne.symm (Nat.ne_of_lt (Nat.lt_of_lt_of_le (E_o0).lt (Nat.le_of_eq g2.symm))))), (((((V8.other W12 (Ne.symm (Nat.ne_of_lt (Nat.lt_of_lt_of_le (F6w).lt (Nat.le_of_eq g8.symm))))).ext E14).other W18 (Ne.symm (Nat.ne_of_lt (Nat.lt_of_lt_of_le (F6w).lt (Nat.le_of_eq g8.symm))))).ext E20).other W24 (Ne.symm (Nat.ne_of_lt (Nat.lt_of_lt_of_le (F6w).lt (Nat.le_of_eq g8.symm))))), (((V14.other W18 (Ne.symm (Nat.ne_of_lt (Nat.lt_of_lt_of_le (((F6w.ext E8).other W12 (Or.inr (slot_ne (Or.inr (hw _ (List.mem_of_getElem? (i := 11) rfl))) (Or.inr (hw _ (List.mem_of_getElem? (i := 13) rfl))) (by decide) (t := (.array .double)) (t' := (.array .double)) (by decide) (by decide))))).lt (Nat.le_of_eq g14.symm))))).ext E20).other W24 (Ne.symm (Nat.ne_of_lt (Nat.lt_of_lt_of_le (((F6w.ext E8).other W12 (Or.inr (slot_ne (Or.inr (hw _ (List.mem_of_getElem? (i := 11) rfl))) (Or.inr (hw _ (List.mem_of_getElem? (i := 13) rfl))) (by decide) (t := (.array .double)) (t' := (.array .double)) (by decide) (by decide))))).lt (Nat.le_of_eq g14.symm))))), (V20.other W24 (Ne.symm (Nat.ne_of_lt (Nat.lt_of_lt_of_le (((((F6w.ext E8).other W12 (Or.inr (slot_ne (Or.inr (hw _ (List.mem_of_getElem? (i := 11) rfl))) (Or.inr (hw _ (List.mem_of_getElem? (i := 13) rfl))) (by decide) (t := (.array .double)) (t' := (.array .double)) (by decide) (by decide)))).ext E14).other W18 (Or.inr (slot_ne (Or.inr (hw _ (List.mem_of_getElem? (i := 11) rfl))) (Or.inr (hw _ (List.mem_of_getElem? (i := 15) rfl))) (by decide) (t := (.array .double)) (t' := (.array .double)) (by decide) (by decide))))).lt (Nat.le_of_eq g20.symm))))), (Nat.ne_of_lt (Nat.lt_of_lt_of_le ((V2.other W6 (Ne.symm (Nat.ne_of_lt (Nat.lt_of_lt_of_le (E_o0).lt (Nat.le_of_eq g2.symm)))))).lt (Nat.le_of_eq g8.symm))), (Nat.ne_of_lt (Nat.lt_of_lt_of_le ((((V2.other W6 (Ne.symm (Nat.ne_of_lt (Nat.lt_of_lt_of_le (E_o0).lt (Nat.le_of_eq g2.symm))))).ext E8).other W12 (Ne.symm (Nat.ne_of_lt (Nat.lt_of_lt_of_le (E_o0).lt (Nat.le_of_eq g2.symm)))))).lt (Nat.le_of_eq g14.symm))), (Nat.ne_of_lt (Nat.lt_of_lt_of_le ((((((V2.other W6 (Ne.symm (Nat.ne_of_lt (Nat.lt_of_lt_of_le (E_o0).lt (Nat.le_of_eq g2.symm))))).ext E8).other W12 (Ne.symm (Nat.ne_of_lt (Nat.lt_of_lt_of_le (E_o0).lt (Nat.le_of_eq g2.symm))))).ext E14).other W18 (Ne.symm (Nat.ne_of_lt (Nat.lt_of_lt_of_le (E_o0).lt (Nat.le_of_eq g2.symm)))))).lt (Nat.le_of_eq g20.symm))), (Nat.ne_of_lt (Nat.lt_of_lt_of_le ((V8.other W12 (Ne.symm (Nat.ne_of_lt (Nat.lt_of_lt_of_le (F6w).lt (Nat.le_of_eq g8.symm)))))).lt (Nat.le_of_eq g14.symm))), (Nat.ne_of_lt (Nat.lt_of_lt_of_le ((((V8.other W12 (Ne.symm (Nat.ne_of_lt (Nat.lt_of_lt_of_le (F6w).lt (Nat.le_of_eq g8.symm))))).ext E14).other W18 (Ne.symm (Nat.ne_of_lt (Nat.lt_of_lt_of_le (F6w).lt (Nat.le_of_eq g8.symm)))))).lt (Nat.le_of_eq g20.symm))), (Nat.ne_of_lt (Nat.lt_of_lt_of_le ((V14.other W18 (Ne.symm (Nat.ne_of_lt (Nat.lt_of_lt_of_le (((F6w.ext E8).other W12 (Or.inr (slot_ne (Or.inr (hw _ (List.mem_of_getElem? (i := 11) rfl))) (Or.inr (hw _ (List.mem_of_getElem? (i := 13) rfl))) (by decide) (t := (.array .double)) (t' := (.array .double)) (by decide) (by decide))))).lt (Nat.le_of_eq g14.symm)))))).lt (Nat.le_of_eq g20.symm)))⟩
def Q1_3 (Z : State) (o0 : Addr) (u_direct_o0 : Value) (u_diffuse_o0 : Value) (u_potential_o0 : Value) (u_trunk_o0 : Value)  (h0 : Heap) (n0 : Nat) (v : Option Value) (h : Heap) (L : List Loc) : Prop := ∃ b2 : Addr, ∃ b8 : Addr, ∃ b14 : Addr, ∃ b20 : Addr, ∃ k2 : ClassId, ∃ k8 : ClassId, ∃ k14 : ClassId, ∃ k20 : ClassId, v = none ∧ Fr n0 L ∧ h0.size ≤ b2 ∧ h0.size ≤ b8 ∧ h0.size ≤ b14 ∧ h0.size ≤ b20 ∧ Keep h0 h [o0] ∧ Exa Z h o0 "com/example/lumenstand/lumenstand/light/Interception" ∧ Fld Z h o0 "com/example/lumenstand/lumenstand/light/Interception" "direct" "[D" (.ref b2) ∧ Fld Z h o0 "com/example/lumenstand/lumenstand/light/Interception" "diffuse" "[D" (.ref b8) ∧ Fld Z h o0 "com/example/lumenstand/lumenstand/light/Interception" "potential" "[D" (.ref b14) ∧ Fld Z h o0 "com/example/lumenstand/lumenstand/light/Interception" "trunk" "[D" (.ref b20) ∧ Arv Z h b2 k2 .double (3 : Int32) [(.double (0 : UInt64)), (.double (0 : UInt64)), (.double (0 : UInt64))] (.double (0 : UInt64)) ∧ Arv Z h b8 k8 .double (3 : Int32) [(.double (0 : UInt64)), (.double (0 : UInt64)), (.double (0 : UInt64))] (.double (0 : UInt64)) ∧ Arv Z h b14 k14 .double (3 : Int32) [(.double (0 : UInt64)), (.double (0 : UInt64)), (.double (0 : UInt64))] (.double (0 : UInt64)) ∧ Arv Z h b20 k20 .double (3 : Int32) [(.double (0 : UInt64)), (.double (0 : UInt64)), (.double (0 : UInt64))] (.double (0 : UInt64)) ∧ b2 ≠ b8 ∧ b2 ≠ b14 ∧ b2 ≠ b20 ∧ b8 ≠ b14 ∧ b8 ≠ b20 ∧ b14 ≠ b20
set_option maxRecDepth 65536 in
set_option maxHeartbeats 40000000 in
theorem rm1_3 (l : Launch) (Z : State) (a0 : Array Value) (hw : ∀ d ∈ tables_1, d.before a0 Z = true) (ws : List Jvm.Cond) (o0 : Addr) (u_direct_o0 : Value) (u_diffuse_o0 : Value) (u_potential_o0 : Value) (u_trunk_o0 : Value)  (h0 : Heap) (n0 : Nat) (Z0 : n0 ≤ h0.size) (E_o0 : Exa Z h0 o0 "com/example/lumenstand/lumenstand/light/Interception") (F_direct_o0 : Fld Z h0 o0 "com/example/lumenstand/lumenstand/light/Interception" "direct" "[D" u_direct_o0) (g_o0 : n0 ≤ o0) (F_diffuse_o0 : Fld Z h0 o0 "com/example/lumenstand/lumenstand/light/Interception" "diffuse" "[D" u_diffuse_o0) (F_potential_o0 : Fld Z h0 o0 "com/example/lumenstand/lumenstand/light/Interception" "potential" "[D" u_potential_o0) (F_trunk_o0 : Fld Z h0 o0 "com/example/lumenstand/lumenstand/light/Interception" "trunk" "[D" u_trunk_o0) :
    MetFree l (⟨"com/example/lumenstand/lumenstand/light/Interception", "<init>", "(I)V"⟩ : MethodName) (head1 (Jvm.Cond.code (⟨"com/example/lumenstand/lumenstand/light/Interception", "<init>", "(I)V"⟩ : MethodName) prog_14_method_1_code 2 none :: ws) ({ frames := 1, cells := 4, slots := 12, locals := 12 } : Room)) (fun a U => a = #[(.ref o0), (.int (3 : Int32))] ∧ Z.Warmed39 U.vm ∧ U.heap = h0) (fun _ _ _ _ _ => True) (fun _ U o U' => ∃ v L, o = .returned v ∧ Q1_3 Z o0 u_direct_o0 u_diffuse_o0 u_potential_o0 u_trunk_o0  h0 n0 v U'.heap L ∧ FrameEnd U o U' L ({ frames := 1, cells := 4, slots := 12, locals := 12 } : Room).cells ({ frames := 1, cells := 4, slots := 12, locals := 12 } : Room).slots) := by
  refine MetFree.of_bodySF (plainFor_of_name pn_1) hisR ?_
  intro p e s m args below meth c s₁ Bd hml0 hP hK
  obtain ⟨rfl, hZ, hh⟩ := hP
  have hx := Bd.exec
  have hby := Bd.bytes
  have hml : c.maxLocals = 2 := hml0
  have hown : s.vm.findClass "com/example/lumenstand/lumenstand/light/Interception" = some m.cls := findClass_of_methodNamed Bd.named
  have hnm := (name_of_methodNamed Bd.named Bd.method).1
  have X0 : Stand p l e ({ frames := 1, cells := 4, slots := 12, locals := 12 } : Room) s m #[(.ref o0), (.int (3 : Int32))] below meth c s₁ [] 0 0 := Stand.of_body Bd
  have e0 : s₁.heap = h0 := by rw [← hh, Bd.state]; rfl
  have N0 := Fr.nil n0
  have c0 : ∀ t, Steps p.tables e below (s₁.setTop (mkF m 0 #[.val (.ref o0), .val (.int (3 : Int32))] [])) t → Steps p.tables e below (s₁.setTop (entryFrame m #[(.ref o0), (.int (3 : Int32))] 2)) t := fun t k => castTop (ef_rm1_3 m o0) k
  obtain ⟨T1, X1, e1, st1⟩ := initO X0 hx hZ hown (hw _ (List.mem_of_getElem? (i := 6) rfl)) (hw _ (List.mem_of_getElem? (i := 7) rfl)) (hw _ (List.mem_of_getElem? (i := 8) rfl)) e0 (g := (mkF m 1 #[.val (.ref o0), .val (.int (3 : Int32))] [(.ref o0)])) rfl (by rw [hml]; rfl) rfl (hb hby d1_1) (by decide) (W := 0) (by show 2 * 0 + _ ≤ _; exact Nat.le_of_eq rfl) (by decide)
  obtain ⟨T2, h2, k2, X2, e2, E2, A2, st2⟩ := newP X1 hx hZ (hw _ (List.mem_of_getElem? (i := 9) rfl)) e1 (g := (mkF m 6 #[.val (.ref o0), .val (.int (3 : Int32))] [(.int (3 : Int32)), (.ref o0)])) rfl (hb hby d1_6) rfl (by decide) (cap := 3) (by decide) (by decide) (by decide) (by decide)
  obtain ⟨b2, g2⟩ : ∃ z, z = h0.size := ⟨_, rfl⟩
  rw [← g2] at A2 st2
  have gn2 : n0 ≤ b2 := Nat.le_trans Z0 (Nat.le_of_eq g2.symm)
  have gz2 : h0.size ≤ b2 := Nat.le_trans ((Keep.refl h0 [o0])).1 (Nat.le_of_eq g2.symm)
  have K3 : Keep h0 h2 [o0] := (Keep.refl h0 [o0]).ext E2
  have V2 : Arv Z h2 b2 k2 .double (3 : Int32) [(.double (0 : UInt64)), (.double (0 : UInt64)), (.double (0 : UInt64))] (.double (0 : UInt64)) := (Arv.new A2 (by decide)).pad (pad_rep [] (.double (0 : UInt64)) 3)
  have f4 := (E_o0.ext E2)
  have f5 := (F_direct_o0.ext E2)
  obtain ⟨T6, h6, X6, e6, W6, st6⟩ := putF X2 hx hZ hown (host := "") (Or.inl (hw _ (List.mem_of_getElem? (i := 10) rfl))) Via.refl e2 f5 f4 (Or.inr ⟨(hw _ (List.mem_of_getElem? (i := 11) rfl)), rfl, hnm⟩) (hw _ (List.mem_of_getElem? (i := 1) rfl)) (ty := (.array .double)) (by decide) rfl rfl (g := (mkF m 8 #[.val (.ref o0), .val (.int (3 : Int32))] [(.ref b2), (.ref o0)])) rfl rfl (hb hby d1_8)
  have N6 := Fr.snoc X6 N0 g_o0
  have K7 : Keep h0 h6 [o0] := K3.wr W6 (Or.inl (by simp))
  have F6w := f5.same W6
  obtain ⟨T8, h8, k8, X8, e8, E8, A8, st8⟩ := newP X6 hx hZ (hw _ (List.mem_of_getElem? (i := 9) rfl)) e6 (g := (mkF m 13 #[.val (.ref o0), .val (.int (3 : Int32))] [(.int (3 : Int32)), (.ref o0)])) rfl (hb hby d1_13) rfl (by decide) (cap := 3) (by decide) (by decide) (by decide) (by decide)
  obtain ⟨b8, g8⟩ : ∃ z, z = h6.size := ⟨_, rfl⟩
  rw [← g8] at A8 st8
  have gn8 : n0 ≤ b8 := Nat.le_trans (Nat.le_trans (Nat.le_trans Z0 E2.1) (Keep.of_wr W6).1) (Nat.le_of_eq g8.symm)
  have gz8 : h0.size ≤ b8 := Nat.le_trans (K7).1 (Nat.le_of_eq g8.symm)
  have K9 : Keep h0 h8 [o0] := K7.ext E8
  have V8 : Arv Z h8 b8 k8 .double (3 : Int32) [(.double (0 : UInt64)), (.double (0 : UInt64)), (.double (0 : UInt64))] (.double (0 : UInt64)) := (Arv.new A8 (by decide)).pad (pad_rep [] (.double (0 : UInt64)) 3)
  have f10 := ((f4.wr W6).ext E8)
  have f11 := (((F_diffuse_o0.ext E2).other W6 (Or.inr (slot_ne (Or.inr (hw _ (List.mem_of_getElem? (i := 13) rfl))) (Or.inr (hw _ (List.mem_of_getElem? (i := 11) rfl))) (by decide) (t := (.array .double)) (t' := (.array .double)) (by decide) (by decide)))).ext E8)
  obtain ⟨T12, h12, X12, e12, W12, st12⟩ := putF X8 hx hZ hown (host := "") (Or.inl (hw _ (List.mem_of_getElem? (i := 12) rfl))) Via.refl e8 f11 f10 (Or.inr ⟨(hw _ (List.mem_of_getElem? (i := 13) rfl)), rfl, hnm⟩) (hw _ (List.mem_of_getElem? (i := 1) rfl)) (ty := (.array .double)) (by decide) rfl rfl (g := (mkF m 15 #[.val (.ref o0), .val (.int (3 : Int32))] [(.ref b8), (.ref o0)])) rfl rfl (hb hby d1_15)
  have N12 := Fr.snoc X12 N6 g_o0
  have K13 : Keep h0 h12 [o0] := K9.wr W12 (Or.inl (by simp))
  have F12w := f11.same W12
  obtain ⟨T14, h14, k14, X14, e14, E14, A14, st14⟩ := newP X12 hx hZ (hw _ (List.mem_of_getElem? (i := 9) rfl)) e12 (g := (mkF m 20 #[.val (.ref o0), .val (.int (3 : Int32))] [(.int (3 : Int32)), (.ref o0)])) rfl (hb hby d1_20) rfl (by decide) (cap := 3) (by decide) (by decide) (by decide) (by decide)
  obtain ⟨b14, g14⟩ : ∃ z, z = h12.size := ⟨_, rfl⟩
  rw [← g14] at A14 st14
  have gn14 : n0 ≤ b14 := Nat.le_trans (Nat.le_trans (Nat.le_trans (Nat.le_trans (Nat.le_trans Z0 E2.1) (Keep.of_wr W6).1) E8.1) (Keep.of_wr W12).1) (Nat.le_of_eq g14.symm)
  have gz14 : h0.size ≤ b14 := Nat.le_trans (K13).1 (Nat.le_of_eq g14.symm)
  have K15 : Keep h0 h14 [o0] := K13.ext E14
  have V14 : Arv Z h14 b14 k14 .double (3 : Int32) [(.double (0 : UInt64)), (.double (0 : UInt64)), (.double (0 : UInt64))] (.double (0 : UInt64)) := (Arv.new A14 (by decide)).pad (pad_rep [] (.double (0 : UInt64)) 3)
  have f16 := ((f10.wr W12).ext E14)
  have f17 := (((((F_potential_o0.ext E2).other W6 (Or.inr (slot_ne (Or.inr (hw _ (List.mem_of_getElem? (i := 15) rfl))) (Or.inr (hw _ (List.mem_of_getElem? (i := 11) rfl))) (by decide) (t := (.array .double)) (t' := (.array .double)) (by decide) (by decide)))).ext E8).other W12 (Or.inr (slot_ne (Or.inr (hw _ (List.mem_of_getElem? (i := 15) rfl))) (Or.inr (hw _ (List.mem_of_getElem? (i := 13) rfl))) (by decide) (t := (.array .double)) (t' := (.array .double)) (by decide) (by decide)))).ext E14)
  obtain ⟨T18, h18, X18, e18, W18, st18⟩ := putF X14 hx hZ hown (host := "") (Or.inl (hw _ (List.mem_of_getElem? (i := 14) rfl))) Via.refl e14 f17 f16 (Or.inr ⟨(hw _ (List.mem_of_getElem? (i := 15) rfl)), rfl, hnm⟩) (hw _ (List.mem_of_getElem? (i := 1) rfl)) (ty := (.array .double)) (by decide) rfl rfl (g := (mkF m 22 #[.val (.ref o0), .val (.int (3 : Int32))] [(.ref b14), (.ref o0)])) rfl rfl (hb hby d1_22)
  have N18 := Fr.snoc X18 N12 g_o0
  have K19 : Keep h0 h18 [o0] := K15.wr W18 (Or.inl (by simp))
  have F18w := f17.same W18
  obtain ⟨T20, h20, k20, X20, e20, E20, A20, st20⟩ := newP X18 hx hZ (hw _ (List.mem_of_getElem? (i := 9) rfl)) e18 (g := (mkF m 27 #[.val (.ref o0), .val (.int (3 : Int32))] [(.int (3 : Int32)), (.ref o0)])) rfl (hb hby d1_27) rfl (by decide) (cap := 3) (by decide) (by decide) (by decide) (by decide)
  obtain ⟨b20, g20⟩ : ∃ z, z = h18.size := ⟨_, rfl⟩
  rw [← g20] at A20 st20
  have gn20 : n0 ≤ b20 := Nat.le_trans (Nat.le_trans (Nat.le_trans (Nat.le_trans (Nat.le_trans (Nat.le_trans (Nat.le_trans Z0 E2.1) (Keep.of_wr W6).1) E8.1) (Keep.of_wr W12).1) E14.1) (Keep.of_wr W18).1) (Nat.le_of_eq g20.symm)
  have gz20 : h0.size ≤ b20 := Nat.le_trans (K19).1 (Nat.le_of_eq g20.symm)
  have K21 : Keep h0 h20 [o0] := K19.ext E20
  have V20 : Arv Z h20 b20 k20 .double (3 : Int32) [(.double (0 : UInt64)), (.double (0 : UInt64)), (.double (0 : UInt64))] (.double (0 : UInt64)) := (Arv.new A20 (by decide)).pad (pad_rep [] (.double (0 : UInt64)) 3)
  have f22 := ((f16.wr W18).ext E20)
  have f23 := (((((((F_trunk_o0.ext E2).other W6 (Or.inr (slot_ne (Or.inr (hw _ (List.mem_of_getElem? (i := 17) rfl))) (Or.inr (hw _ (List.mem_of_getElem? (i := 11) rfl))) (by decide) (t := (.array .double)) (t' := (.array .double)) (by decide) (by decide)))).ext E8).other W12 (Or.inr (slot_ne (Or.inr (hw _ (List.mem_of_getElem? (i := 17) rfl))) (Or.inr (hw _ (List.mem_of_getElem? (i := 13) rfl))) (by decide) (t := (.array .double)) (t' := (.array .double)) (by decide) (by decide)))).ext E14).other W18 (Or.inr (slot_ne (Or.inr (hw _ (List.mem_of_getElem? (i := 17) rfl))) (Or.inr (hw _ (List.mem_of_getElem? (i := 15) rfl))) (by decide) (t := (.array .double)) (t' := (.array .double)) (by decide) (by decide)))).ext E20)
  obtain ⟨T24, h24, X24, e24, W24, st24⟩ := putF X20 hx hZ hown (host := "") (Or.inl (hw _ (List.mem_of_getElem? (i := 16) rfl))) Via.refl e20 f23 f22 (Or.inr ⟨(hw _ (List.mem_of_getElem? (i := 17) rfl)), rfl, hnm⟩) (hw _ (List.mem_of_getElem? (i := 1) rfl)) (ty := (.array .double)) (by decide) rfl rfl (g := (mkF m 29 #[.val (.ref o0), .val (.int (3 : Int32))] [(.ref b20), (.ref o0)])) rfl rfl (hb hby d1_29)
  have N24 := Fr.snoc X24 N18 g_o0
  have K25 : Keep h0 h24 [o0] := K21.wr W24 (Or.inl (by simp))
  have F24w := f23.same W24
  have c26 : ∀ t, Steps p.tables e below (T24.setTop (mkF m 32 #[.val (.ref o0), .val (.int (3 : Int32))] [])) t → Steps p.tables e below (s₁.setTop (entryFrame m #[(.ref o0), (.int (3 : Int32))] 2)) t := by
    intro t k
    refine c0 t ?_
    show Steps p.tables e below (s₁.setTop (mkF m 0 #[.val (.ref o0), .val (.int (3 : Int32))] [])) _
    refine XS.aloadN X0.here hx rfl (hb hby d1_0) rfl rfl ?_
    show Steps p.tables e below (s₁.setTop (mkF m 1 #[.val (.ref o0), .val (.int (3 : Int32))] [(.ref o0)])) _
    refine st1 _ ?_
    show Steps p.tables e below (T1.setTop (mkF m 4 #[.val (.ref o0), .val (.int (3 : Int32))] [])) _
    refine XS.aloadN X1.here hx rfl (hb hby d1_4) rfl rfl ?_
    show Steps p.tables e below (T1.setTop (mkF m 5 #[.val (.ref o0), .val (.int (3 : Int32))] [(.ref o0)])) _
    refine XS.iloadN X1.here hx rfl (hb hby d1_5) rfl ?_
    show Steps p.tables e below (T1.setTop (mkF m 6 #[.val (.ref o0), .val (.int (3 : Int32))] [(.int (3 : Int32)), (.ref o0)])) _
    refine st2 _ ?_
    show Steps p.tables e below (T2.setTop (mkF m 8 #[.val (.ref o0), .val (.int (3 : Int32))] [(.ref b2), (.ref o0)])) _
    refine st6 _ ?_
    show Steps p.tables e below (T6.setTop (mkF m 11 #[.val (.ref o0), .val (.int (3 : Int32))] [])) _
    refine XS.aloadN X6.here hx rfl (hb hby d1_11) rfl rfl ?_
    show Steps p.tables e below (T6.setTop (mkF m 12 #[.val (.ref o0), .val (.int (3 : Int32))] [(.ref o0)])) _
    refine XS.iloadN X6.here hx rfl (hb hby d1_12) rfl ?_
    show Steps p.tables e below (T6.setTop (mkF m 13 #[.val (.ref o0), .val (.int (3 : Int32))] [(.int (3 : Int32)), (.ref o0)])) _
    refine st8 _ ?_
    show Steps p.tables e below (T8.setTop (mkF m 15 #[.val (.ref o0), .val (.int (3 : Int32))] [(.ref b8), (.ref o0)])) _
    refine st12 _ ?_
    show Steps p.tables e below (T12.setTop (mkF m 18 #[.val (.ref o0), .val (.int (3 : Int32))] [])) _
    refine XS.aloadN X12.here hx rfl (hb hby d1_18) rfl rfl ?_
    show Steps p.tables e below (T12.setTop (mkF m 19 #[.val (.ref o0), .val (.int (3 : Int32))] [(.ref o0)])) _
    refine XS.iloadN X12.here hx rfl (hb hby d1_19) rfl ?_
    show Steps p.tables e below (T12.setTop (mkF m 20 #[.val (.ref o0), .val (.int (3 : Int32))] [(.int (3 : Int32)), (.ref o0)])) _
    refine st14 _ ?_
    show Steps p.tables e below (T14.setTop (mkF m 22 #[.val (.ref o0), .val (.int (3 : Int32))] [(.ref b14), (.ref o0)])) _
    refine st18 _ ?_
    show Steps p.tables e below (T18.setTop (mkF m 25 #[.val (.ref o0), .val (.int (3 : Int32))] [])) _
    refine XS.aloadN X18.here hx rfl (hb hby d1_25) rfl rfl ?_
    show Steps p.tables e below (T18.setTop (mkF m 26 #[.val (.ref o0), .val (.int (3 : Int32))] [(.ref o0)])) _
    refine XS.iloadN X18.here hx rfl (hb hby d1_26) rfl ?_
    show Steps p.tables e below (T18.setTop (mkF m 27 #[.val (.ref o0), .val (.int (3 : Int32))] [(.int (3 : Int32)), (.ref o0)])) _
    refine st20 _ ?_
    show Steps p.tables e below (T20.setTop (mkF m 29 #[.val (.ref o0), .val (.int (3 : Int32))] [(.ref b20), (.ref o0)])) _
    refine st24 _ ?_
    exact k
  obtain ⟨fs, hr, hrun, hended, hW, hsame⟩ := X24.leave (v := none) (fun _ => rfl)
  refine ⟨_, _, c26 _ ?_, hrun, hended, _, _, rfl, ?_, ⟨_, rfl⟩, hW, hsame.mono (by decide) (by decide)⟩
  · show Steps p.tables e below (T24.setTop (mkF m 32 #[.val (.ref o0), .val (.int (3 : Int32))] [])) _
    exact X24.returnOut hx Bd.returns (hb hby d1_32) hr
  · show Q1_3 Z o0 u_direct_o0 u_diffuse_o0 u_potential_o0 u_trunk_o0  h0 n0 _ T24.heap _
    rw [e24]
    exact ⟨b2, b8, b14, b20, k2, k8, k14, k20, rfl, N24, gz2, gz8, gz14, gz20, K25, (f22.wr W24), ((((((F6w.ext E8).other W12 (Or.inr (slot_ne (Or.inr (hw _ (List.mem_of_getElem? (i := 11) rfl))) (Or.inr (hw _ (List.mem_of_getElem? (i := 13) rfl))) (by decide) (t := (.array .double)) (t' := (.array .double)) (by decide) (by decide)))).ext E14).other W18 (Or.inr (slot_ne (Or.inr (hw _ (List.mem_of_getElem? (i := 11) rfl))) (Or.inr (hw _ (List.mem_of_getElem? (i := 15) rfl))) (by decide) (t := (.array .double)) (t' := (.array .double)) (by decide) (by decide)))).ext E20).other W24 (Or.inr (slot_ne (Or.inr (hw _ (List.mem_of_getElem? (i := 11) rfl))) (Or.inr (hw _ (List.mem_of_getElem? (i := 17) rfl))) (by decide) (t := (.array .double)) (t' := (.array .double)) (by decide) (by decide)))), ((((F12w.ext E14).other W18 (Or.inr (slot_ne (Or.inr (hw _ (List.mem_of_getElem? (i := 13) rfl))) (Or.inr (hw _ (List.mem_of_getElem? (i := 15) rfl))) (by decide) (t := (.array .double)) (t' := (.array .double)) (by decide) (by decide)))).ext E20).other W24 (Or.inr (slot_ne (Or.inr (hw _ (List.mem_of_getElem? (i := 13) rfl))) (Or.inr (hw _ (List.mem_of_getElem? (i := 17) rfl))) (by decide) (t := (.array .double)) (t' := (.array .double)) (by decide) (by decide)))), ((F18w.ext E20).other W24 (Or.inr (slot_ne (Or.inr (hw _ (List.mem_of_getElem? (i := 15) rfl))) (Or.inr (hw _ (List.mem_of_getElem? (i := 17) rfl))) (by decide) (t := (.array .double)) (t' := (.array .double)) (by decide) (by decide)))), F24w, (((((((V2.other W6 (Ne.symm (Nat.ne_of_lt (Nat.lt_of_lt_of_le (E_o0).lt (Nat.le_of_eq g2.symm))))).ext E8).other W12 (Ne.symm (Nat.ne_of_lt (Nat.lt_of_lt_of_le (E_o0).lt (Nat.le_of_eq g2.symm))))).ext E14).other W18 (Ne.symm (Nat.ne_of_lt (Nat.lt_of_lt_of_le (E_o0).lt (Nat.le_of_eq g2.symm))))).ext E20).other W24 (Ne.symm (Nat.ne_of_lt (Nat.lt_of_lt_of_le (E_o0).lt (Nat.le_of_eq g2.symm))))), (((((V8.other W12 (Ne.symm (Nat.ne_of_lt (Nat.lt_of_lt_of_le (F6w).lt (Nat.le_of_eq g8.symm))))).ext E14).other W18 (Ne.symm (Nat.ne_of_lt (Nat.lt_of_lt_of_le (F6w).lt (Nat.le_of_eq g8.symm))))).ext E20).other W24 (Ne.symm (Nat.ne_of_lt (Nat.lt_of_lt_of_le (F6w).lt (Nat.le_of_eq g8.symm))))), (((V14.other W18 (Ne.symm (Nat.ne_of_lt (Nat.lt_of_lt_of_le (((F6w.ext E8).other W12 (Or.inr (slot_ne (Or.inr (hw _ (List.mem_of_getElem? (i := 11) rfl))) (Or.inr (hw _ (List.mem_of_getElem? (i := 13) rfl))) (by decide) (t := (.array .double)) (t' := (.array .double)) (by decide) (by decide))))).lt (Nat.le_of_eq g14.symm))))).ext E20).other W24 (Ne.symm (Nat.ne_of_lt (Nat.lt_of_lt_of_le (((F6w.ext E8).other W12 (Or.inr (slot_ne (Or.inr (hw _ (List.mem_of_getElem? (i := 11) rfl))) (Or.inr (hw _ (List.mem_of_getElem? (i := 13) rfl))) (by decide) (t := (.array .double)) (t' := (.array .double)) (by decide) (by decide))))).lt (Nat.le_of_eq g14.symm))))), (V20.other W24 (Ne.symm (Nat.ne_of_lt (Nat.lt_of_lt_of_le (((((F6w.ext E8).other W12 (Or.inr (slot_ne (Or.inr (hw _ (List.mem_of_getElem? (i := 11) rfl))) (Or.inr (hw _ (List.mem_of_getElem? (i := 13) rfl))) (by decide) (t := (.array .double)) (t' := (.array .double)) (by decide) (by decide)))).ext E14).other W18 (Or.inr (slot_ne (Or.inr (hw _ (List.mem_of_getElem? (i := 11) rfl))) (Or.inr (hw _ (List.mem_of_getElem? (i := 15) rfl))) (by decide) (t := (.array .double)) (t' := (.array .double)) (by decide) (by decide))))).lt (Nat.le_of_eq g20.symm))))), (Nat.ne_of_lt (Nat.lt_of_lt_of_le ((V2.other W6 (Ne.symm (Nat.ne_of_lt (Nat.lt_of_lt_of_le (E_o0).lt (Nat.le_of_eq g2.symm)))))).lt (Nat.le_of_eq g8.symm))), (Nat.ne_of_lt (Nat.lt_of_lt_of_le ((((V2.other W6 (Ne.symm (Nat.ne_of_lt (Nat.lt_of_lt_of_le (E_o0).lt (Nat.le_of_eq g2.symm))))).ext E8).other W12 (Ne.symm (Nat.ne_of_lt (Nat.lt_of_lt_of_le (E_o0).lt (Nat.le_of_eq g2.symm)))))).lt (Nat.le_of_eq g14.symm))), (Nat.ne_of_lt (Nat.lt_of_lt_of_le ((((((V2.other W6 (Ne.symm (Nat.ne_of_lt (Nat.lt_of_lt_of_le (E_o0).lt (Nat.le_of_eq g2.symm))))).ext E8).other W12 (Ne.symm (Nat.ne_of_lt (Nat.lt_of_lt_of_le (E_o0).lt (Nat.le_of_eq g2.symm))))).ext E14).other W18 (Ne.symm (Nat.ne_of_lt (Nat.lt_of_lt_of_le (E_o0).lt (Nat.le_of_eq g2.symm)))))).lt (Nat.le_of_eq g20.symm))), (Nat.ne_of_lt (Nat.lt_of_lt_of_le ((V8.other W12 (Ne.symm (Nat.ne_of_lt (Nat.lt_of_lt_of_le (F6w).lt (Nat.le_of_eq g8.symm)))))).lt (Nat.le_of_eq g14.symm))), (Nat.ne_of_lt (Nat.lt_of_lt_of_le ((((V8.other W12 (Ne.symm (Nat.ne_of_lt (Nat.lt_of_lt_of_le (F6w).lt (Nat.le_of_eq g8.symm))))).ext E14).other W18 (Ne.symm (Nat.ne_of_lt (Nat.lt_of_lt_of_le (F6w).lt (Nat.le_of_eq g8.symm)))))).lt (Nat.le_of_eq g20.symm))), (Nat.ne_of_lt (Nat.lt_of_lt_of_le ((V14.other W18 (Ne.symm (Nat.ne_of_lt (Nat.lt_of_lt_of_le (((F6w.ext E8).other W12 (Or.inr (slot_ne (Or.inr (hw _ (List.mem_of_getElem? (i := 11) rfl))) (Or.inr (hw _ (List.mem_of_getElem? (i := 13) rfl))) (by decide) (t := (.array .double)) (t' := (.array .double)) (by decide) (by decide))))).lt (Nat.le_of_eq g14.symm)))))).lt (Nat.le_of_eq g20.symm)))⟩
def Q3_0 (Z : State) (o0 : Addr) (p1 : Int32) (p2 : Int32) (k_o0 : ClassId)  (h0 : Heap) (n0 : Nat) (v : Option Value) (h : Heap) (L : List Loc) : Prop := v = none ∧ Fr n0 L ∧ h = h0
set_option maxRecDepth 65536 in
set_option maxHeartbeats 40000000 in
theorem rm3_0 (l : Launch) (Z : State) (a0 : Array Value) (hw : ∀ d ∈ tables_1, d.before a0 Z = true) (ws : List Jvm.Cond) (o0 : Addr) (p1 : Int32) (p2 : Int32) (k_o0 : ClassId)  (h0 : Heap) (n0 : Nat) (Z0 : n0 ≤ h0.size) (V_o0 : Arv Z h0 o0 k_o0 .double (0 : Int32) [] (.double (0 : UInt64))) :
    MetFree l (⟨"com/example/lumenstand/lumenstand/light/InterceptionAddPinLaw", "put", "([DII)V"⟩ : MethodName) (head1 (Jvm.Cond.code (⟨"com/example/lumenstand/lumenstand/light/InterceptionAddPinLaw", "put", "([DII)V"⟩ : MethodName) method_4_code 3 none :: ws) ({ frames := 0, cells := 0, slots := 0, locals := 0 } : Room)) (fun a U => a = #[(.ref o0), (.int p1), (.int p2)] ∧ Z.Warmed39 U.vm ∧ U.heap = h0) (fun _ _ _ _ _ => True) (fun _ U o U' => ∃ v L, o = .returned v ∧ Q3_0 Z o0 p1 p2 k_o0  h0 n0 v U'.heap L ∧ FrameEnd U o U' L ({ frames := 0, cells := 0, slots := 0, locals := 0 } : Room).cells ({ frames := 0, cells := 0, slots := 0, locals := 0 } : Room).slots) := by
  refine MetFree.of_bodySF (plainFor_of_name pn_0) hisR ?_
  intro p e s m args below meth c s₁ Bd hml0 hP hK
  obtain ⟨rfl, hZ, hh⟩ := hP
  have hx := Bd.exec
  have hby := Bd.bytes
  have hml : c.maxLocals = 3 := hml0
  have hown : s.vm.findClass "com/example/lumenstand/lumenstand/light/InterceptionAddPinLaw" = some m.cls := findClass_of_methodNamed Bd.named
  have hnm := (name_of_methodNamed Bd.named Bd.method).1
  have X0 : Stand p l e ({ frames := 0, cells := 0, slots := 0, locals := 0 } : Room) s m #[(.ref o0), (.int p1), (.int p2)] below meth c s₁ [] 0 0 := Stand.of_body Bd
  have e0 : s₁.heap = h0 := by rw [← hh, Bd.state]; rfl
  have N0 := Fr.nil n0
  have c0 : ∀ t, Steps p.tables e below (s₁.setTop (mkF m 0 #[.val (.ref o0), .val (.int p1), .val (.int p2)] [])) t → Steps p.tables e below (s₁.setTop (entryFrame m #[(.ref o0), (.int p1), (.int p2)] 3)) t := fun t k => castTop (ef_rm3_0 m o0 p1 p2) k
  obtain ⟨cl1, Ar1, -, S1, Nn1, -, -⟩ := id V_o0
  obtain ⟨cl2, Ar2, -, S2, Nn2, -, -⟩ := id V_o0
  obtain ⟨cl3, Ar3, -, S3, Nn3, -, -⟩ := id V_o0
  have c4 : ∀ t, Steps p.tables e below (s₁.setTop (mkF m 44 #[.val (.ref o0), .val (.int p1), .val (.int p2)] [])) t → Steps p.tables e below (s₁.setTop (entryFrame m #[(.ref o0), (.int p1), (.int p2)] 3)) t := by
    intro t k
    refine c0 t ?_
    show Steps p.tables e below (s₁.setTop (mkF m 0 #[.val (.ref o0), .val (.int p1), .val (.int p2)] [])) _
    refine XS.aloadN X0.here hx rfl (hb hby d3_0) rfl rfl ?_
    show Steps p.tables e below (s₁.setTop (mkF m 1 #[.val (.ref o0), .val (.int p1), .val (.int p2)] [(.ref o0)])) _
    refine X0.arraylength hx (by rw [e0]; exact Ar1.1) (State.isArrayOf_alike hZ.alike Ar1.2.1) (g := (mkF m 1 #[.val (.ref o0), .val (.int p1), .val (.int p2)] [(.ref o0)])) rfl rfl (hb hby d3_1) _ ?_
    rw [len_of S1 Nn1]
    show Steps p.tables e below (s₁.setTop (mkF m 2 #[.val (.ref o0), .val (.int p1), .val (.int p2)] [(.int (0 : Int32))])) _
    refine XS.ifYes X0.here hx rfl (pc0 := 2) (pc' := 14) rfl (hb hby d3_2) rfl (Jvm.Free.XT.i0_le_t (by decide)) (by decide) (by decide) ?_
    show Steps p.tables e below (s₁.setTop (mkF m 14 #[.val (.ref o0), .val (.int p1), .val (.int p2)] [])) _
    refine XS.aloadN X0.here hx rfl (hb hby d3_14) rfl rfl ?_
    show Steps p.tables e below (s₁.setTop (mkF m 15 #[.val (.ref o0), .val (.int p1), .val (.int p2)] [(.ref o0)])) _
    refine X0.arraylength hx (by rw [e0]; exact Ar2.1) (State.isArrayOf_alike hZ.alike Ar2.2.1) (g := (mkF m 15 #[.val (.ref o0), .val (.int p1), .val (.int p2)] [(.ref o0)])) rfl rfl (hb hby d3_15) _ ?_
    rw [len_of S2 Nn2]
    show Steps p.tables e below (s₁.setTop (mkF m 16 #[.val (.ref o0), .val (.int p1), .val (.int p2)] [(.int (0 : Int32))])) _
    refine XS.iconst X0.here hx rfl (hb hby d3_16) ?_
    show Steps p.tables e below (s₁.setTop (mkF m 17 #[.val (.ref o0), .val (.int p1), .val (.int p2)] [(.int (1 : Int32)), (.int (0 : Int32))])) _
    refine XS.icmpYes X0.here hx rfl (pc0 := 17) (pc' := 29) rfl (hb hby d3_17) rfl (Jvm.Free.XT.ii_le_t (by decide)) (by decide) (by decide) ?_
    show Steps p.tables e below (s₁.setTop (mkF m 29 #[.val (.ref o0), .val (.int p1), .val (.int p2)] [])) _
    refine XS.aloadN X0.here hx rfl (hb hby d3_29) rfl rfl ?_
    show Steps p.tables e below (s₁.setTop (mkF m 30 #[.val (.ref o0), .val (.int p1), .val (.int p2)] [(.ref o0)])) _
    refine X0.arraylength hx (by rw [e0]; exact Ar3.1) (State.isArrayOf_alike hZ.alike Ar3.2.1) (g := (mkF m 30 #[.val (.ref o0), .val (.int p1), .val (.int p2)] [(.ref o0)])) rfl rfl (hb hby d3_30) _ ?_
    rw [len_of S3 Nn3]
    show Steps p.tables e below (s₁.setTop (mkF m 31 #[.val (.ref o0), .val (.int p1), .val (.int p2)] [(.int (0 : Int32))])) _
    refine XS.iconst X0.here hx rfl (hb hby d3_31) ?_
    show Steps p.tables e below (s₁.setTop (mkF m 32 #[.val (.ref o0), .val (.int p1), .val (.int p2)] [(.int (2 : Int32)), (.int (0 : Int32))])) _
    refine XS.icmpYes X0.here hx rfl (pc0 := 32) (pc' := 44) rfl (hb hby d3_32) rfl (Jvm.Free.XT.ii_le_t (by decide)) (by decide) (by decide) ?_
    exact k
  obtain ⟨fs, hr, hrun, hended, hW, hsame⟩ := X0.leave (v := none) (fun _ => rfl)
  refine ⟨_, _, c4 _ ?_, hrun, hended, _, _, rfl, ?_, ⟨_, rfl⟩, hW, hsame.mono (by decide) (by decide)⟩
  · show Steps p.tables e below (s₁.setTop (mkF m 44 #[.val (.ref o0), .val (.int p1), .val (.int p2)] [])) _
    exact X0.returnOut hx Bd.returns (hb hby d3_44) hr
  · show Q3_0 Z o0 p1 p2 k_o0  h0 n0 _ s₁.heap _
    rw [e0]
    exact ⟨rfl, N0, rfl⟩
def Q3_1 (Z : State) (o0 : Addr) (p1 : Int32) (p2 : Int32) (k_o0 : ClassId) (y0 : UInt64) (c10_z4 : Int32) (c10_z5 : Int32) (c10_z7 : Int32) (c10_z8 : UInt64) (h0 : Heap) (n0 : Nat) (v : Option Value) (h : Heap) (L : List Loc) : Prop := v = none ∧ Fr n0 L ∧ Keep h0 h [o0] ∧ Arv Z h o0 k_o0 .double (1 : Int32) [(.double c10_z8)] (.double (0 : UInt64))
set_option maxRecDepth 65536 in
set_option maxHeartbeats 40000000 in
theorem rm3_1 (l : Launch) (Z : State) (a0 : Array Value) (hw : ∀ d ∈ tables_1, d.before a0 Z = true) (ws : List Jvm.Cond) (o0 : Addr) (p1 : Int32) (p2 : Int32) (k_o0 : ClassId) (y0 : UInt64) (c10_z4 : Int32) (c10_z5 : Int32) (c10_z7 : Int32) (c10_z8 : UInt64) (h0 : Heap) (n0 : Nat) (Z0 : n0 ≤ h0.size) (V_o0 : Arv Z h0 o0 k_o0 .double (1 : Int32) [(.double y0)] (.double (0 : UInt64))) (g_o0 : n0 ≤ o0) (hc10_z4 : (16 : Int32) * p1 = c10_z4) (hc10_z5 : p2 + c10_z4 = c10_z5) (hc10_z7 : c10_z5 + (0 : Int32) = c10_z7) (hc10_z8 : FP.i2d c10_z7 = c10_z8) :
    MetFree l (⟨"com/example/lumenstand/lumenstand/light/InterceptionAddPinLaw", "put", "([DII)V"⟩ : MethodName) (head1 (Jvm.Cond.code (⟨"com/example/lumenstand/lumenstand/light/InterceptionAddPinLaw", "put", "([DII)V"⟩ : MethodName) method_4_code 3 none :: ws) ({ frames := 1, cells := 0, slots := 0, locals := 16 } : Room)) (fun a U => a = #[(.ref o0), (.int p1), (.int p2)] ∧ Z.Warmed39 U.vm ∧ U.heap = h0) (fun _ _ _ _ _ => True) (fun _ U o U' => ∃ v L, o = .returned v ∧ Q3_1 Z o0 p1 p2 k_o0 y0 c10_z4 c10_z5 c10_z7 c10_z8 h0 n0 v U'.heap L ∧ FrameEnd U o U' L ({ frames := 1, cells := 0, slots := 0, locals := 16 } : Room).cells ({ frames := 1, cells := 0, slots := 0, locals := 16 } : Room).slots) := by
  refine MetFree.of_bodySF (plainFor_of_name pn_0) hisR ?_
  intro p e s m args below meth c s₁ Bd hml0 hP hK
  obtain ⟨rfl, hZ, hh⟩ := hP
  have hx := Bd.exec
  have hby := Bd.bytes
  have hml : c.maxLocals = 3 := hml0
  have hown : s.vm.findClass "com/example/lumenstand/lumenstand/light/InterceptionAddPinLaw" = some m.cls := findClass_of_methodNamed Bd.named
  have hnm := (name_of_methodNamed Bd.named Bd.method).1
  have X0 : Stand p l e ({ frames := 1, cells := 0, slots := 0, locals := 16 } : Room) s m #[(.ref o0), (.int p1), (.int p2)] below meth c s₁ [] 0 0 := Stand.of_body Bd
  have e0 : s₁.heap = h0 := by rw [← hh, Bd.state]; rfl
  have N0 := Fr.nil n0
  have c0 : ∀ t, Steps p.tables e below (s₁.setTop (mkF m 0 #[.val (.ref o0), .val (.int p1), .val (.int p2)] [])) t → Steps p.tables e below (s₁.setTop (entryFrame m #[(.ref o0), (.int p1), (.int p2)] 3)) t := fun t k => castTop (ef_rm3_1 m o0 p1 p2) k
  obtain ⟨cl1, Ar1, -, S1, Nn1, -, -⟩ := id V_o0
  obtain ⟨_, _, ⟨T2, L2, k2, n2⟩, -, X2, ⟨Lc2, hQ2, ql2, qy2, qz2⟩, st2⟩ := Jvm.LawKit.callS X0 hx (y := (⟨"com/example/lumenstand/lumenstand/light/InterceptionAddPinLaw", "v", "(III)D"⟩ : MethodName)) hown (mvT hZ (hw _ (List.mem_of_getElem? (i := 37) rfl))) (mvT hZ (hw _ (List.mem_of_getElem? (i := 38) rfl))) (mvT hZ (hw _ (List.mem_of_getElem? (i := 21) rfl))) (mvT hZ (hw _ (List.mem_of_getElem? (i := 39) rfl))) (by decide) (backOf (W := 2) (rm7 l Z a0 hw [] p2 p1 (0 : Int32) c10_z4 c10_z5 c10_z7 c10_z8 h0 n0 Z0 hc10_z4 hc10_z5 hc10_z7 hc10_z8) hZ (hw _ (List.mem_of_getElem? (i := 39) rfl)) (hw _ (List.mem_of_getElem? (i := 21) rfl)) (by decide) (by decide)) (g := (mkF m 10 #[.val (.ref o0), .val (.int p1), .val (.int p2)] [(.int (0 : Int32)), (.int p1), (.int p2), (.int (0 : Int32)), (.ref o0)])) rfl (by rw [hml]; rfl) (argsL := [(.int p2), (.int p1), (.int (0 : Int32))]) (rest := [(.int (0 : Int32)), (.ref o0)]) (lenOf pd_0 rfl) rfl (by show 2 * 0 + _ ≤ _; exact Nat.le_of_eq rfl) (hb hby d3_10) (fun _ _ => ⟨rfl, e0, (by decide : 0 + 0 ≤ _), (by decide : 0 + 0 ≤ _)⟩)
  dsimp only [Pt.U, Pt.locs, Pt.cells, Pt.slots] at X2 ql2 qy2 qz2 st2 hQ2
  subst ql2 qy2 qz2
  obtain ⟨rfl, N2q, e2⟩ := hQ2
  have N2 := Fr.app N0 N2q
  obtain ⟨cl3, Ar3, q3, S3, Nn3, Ha3, G3⟩ := id V_o0
  have in3 : ¬ ((0 : Int32) < 0 ∨ cl3.slots.size ≤ ((0 : Int32)).toNatClampNeg) := inb_of S3 ⟨by decide, by decide⟩
  obtain ⟨T4, h4, X4, e4, W4, st4⟩ := stD X2 hx hZ e2 Ar3 (j := (0 : Int32)) in3 (g := (mkF m 13 #[.val (.ref o0), .val (.int p1), .val (.int p2)] [(.double c10_z8), (.int (0 : Int32)), (.ref o0)])) rfl rfl (hb hby d3_13)
  have N4 := Fr.snoc X4 N2 g_o0
  have K5 : Keep h0 h4 [o0] := (Keep.refl h0 [o0]).wr W4 (Or.inl (by simp))
  have V4 : Arv Z h4 o0 k_o0 .double (1 : Int32) [(.double c10_z8)] (.double (0 : UInt64)) := Arv.set Ar3 q3 S3 Nn3 Ha3 G3 rfl W4 0 rfl (show (0 : Nat) < 1 by decide)
  obtain ⟨cl6, Ar6, -, S6, Nn6, -, -⟩ := id V4
  obtain ⟨cl7, Ar7, -, S7, Nn7, -, -⟩ := id V4
  have c8 : ∀ t, Steps p.tables e below (T4.setTop (mkF m 44 #[.val (.ref o0), .val (.int p1), .val (.int p2)] [])) t → Steps p.tables e below (s₁.setTop (entryFrame m #[(.ref o0), (.int p1), (.int p2)] 3)) t := by
    intro t k
    refine c0 t ?_
    show Steps p.tables e below (s₁.setTop (mkF m 0 #[.val (.ref o0), .val (.int p1), .val (.int p2)] [])) _
    refine XS.aloadN X0.here hx rfl (hb hby d3_0) rfl rfl ?_
    show Steps p.tables e below (s₁.setTop (mkF m 1 #[.val (.ref o0), .val (.int p1), .val (.int p2)] [(.ref o0)])) _
    refine X0.arraylength hx (by rw [e0]; exact Ar1.1) (State.isArrayOf_alike hZ.alike Ar1.2.1) (g := (mkF m 1 #[.val (.ref o0), .val (.int p1), .val (.int p2)] [(.ref o0)])) rfl rfl (hb hby d3_1) _ ?_
    rw [len_of S1 Nn1]
    show Steps p.tables e below (s₁.setTop (mkF m 2 #[.val (.ref o0), .val (.int p1), .val (.int p2)] [(.int (1 : Int32))])) _
    refine XS.ifNo X0.here hx rfl (hb hby d3_2) rfl (Jvm.Free.XT.i0_le_f (by decide)) ?_
    show Steps p.tables e below (s₁.setTop (mkF m 5 #[.val (.ref o0), .val (.int p1), .val (.int p2)] [])) _
    refine XS.aloadN X0.here hx rfl (hb hby d3_5) rfl rfl ?_
    show Steps p.tables e below (s₁.setTop (mkF m 6 #[.val (.ref o0), .val (.int p1), .val (.int p2)] [(.ref o0)])) _
    refine XS.iconst X0.here hx rfl (hb hby d3_6) ?_
    show Steps p.tables e below (s₁.setTop (mkF m 7 #[.val (.ref o0), .val (.int p1), .val (.int p2)] [(.int (0 : Int32)), (.ref o0)])) _
    refine XS.iloadN X0.here hx rfl (hb hby d3_7) rfl ?_
    show Steps p.tables e below (s₁.setTop (mkF m 8 #[.val (.ref o0), .val (.int p1), .val (.int p2)] [(.int p2), (.int (0 : Int32)), (.ref o0)])) _
    refine XS.iloadN X0.here hx rfl (hb hby d3_8) rfl ?_
    show Steps p.tables e below (s₁.setTop (mkF m 9 #[.val (.ref o0), .val (.int p1), .val (.int p2)] [(.int p1), (.int p2), (.int (0 : Int32)), (.ref o0)])) _
    refine XS.iconst X0.here hx rfl (hb hby d3_9) ?_
    show Steps p.tables e below (s₁.setTop (mkF m 10 #[.val (.ref o0), .val (.int p1), .val (.int p2)] [(.int (0 : Int32)), (.int p1), (.int p2), (.int (0 : Int32)), (.ref o0)])) _
    refine st2 _ ?_
    show Steps p.tables e below (T2.setTop (mkF m 13 #[.val (.ref o0), .val (.int p1), .val (.int p2)] [(.double c10_z8), (.int (0 : Int32)), (.ref o0)])) _
    refine st4 _ ?_
    show Steps p.tables e below (T4.setTop (mkF m 14 #[.val (.ref o0), .val (.int p1), .val (.int p2)] [])) _
    refine XS.aloadN X4.here hx rfl (hb hby d3_14) rfl rfl ?_
    show Steps p.tables e below (T4.setTop (mkF m 15 #[.val (.ref o0), .val (.int p1), .val (.int p2)] [(.ref o0)])) _
    refine X4.arraylength hx (by rw [e4]; exact Ar6.1) (State.isArrayOf_alike hZ.alike Ar6.2.1) (g := (mkF m 15 #[.val (.ref o0), .val (.int p1), .val (.int p2)] [(.ref o0)])) rfl rfl (hb hby d3_15) _ ?_
    rw [len_of S6 Nn6]
    show Steps p.tables e below (T4.setTop (mkF m 16 #[.val (.ref o0), .val (.int p1), .val (.int p2)] [(.int (1 : Int32))])) _
    refine XS.iconst X4.here hx rfl (hb hby d3_16) ?_
    show Steps p.tables e below (T4.setTop (mkF m 17 #[.val (.ref o0), .val (.int p1), .val (.int p2)] [(.int (1 : Int32)), (.int (1 : Int32))])) _
    refine XS.icmpYes X4.here hx rfl (pc0 := 17) (pc' := 29) rfl (hb hby d3_17) rfl (Jvm.Free.XT.ii_le_t (by decide)) (by decide) (by decide) ?_
    show Steps p.tables e below (T4.setTop (mkF m 29 #[.val (.ref o0), .val (.int p1), .val (.int p2)] [])) _
    refine XS.aloadN X4.here hx rfl (hb hby d3_29) rfl rfl ?_
    show Steps p.tables e below (T4.setTop (mkF m 30 #[.val (.ref o0), .val (.int p1), .val (.int p2)] [(.ref o0)])) _
    refine X4.arraylength hx (by rw [e4]; exact Ar7.1) (State.isArrayOf_alike hZ.alike Ar7.2.1) (g := (mkF m 30 #[.val (.ref o0), .val (.int p1), .val (.int p2)] [(.ref o0)])) rfl rfl (hb hby d3_30) _ ?_
    rw [len_of S7 Nn7]
    show Steps p.tables e below (T4.setTop (mkF m 31 #[.val (.ref o0), .val (.int p1), .val (.int p2)] [(.int (1 : Int32))])) _
    refine XS.iconst X4.here hx rfl (hb hby d3_31) ?_
    show Steps p.tables e below (T4.setTop (mkF m 32 #[.val (.ref o0), .val (.int p1), .val (.int p2)] [(.int (2 : Int32)), (.int (1 : Int32))])) _
    refine XS.icmpYes X4.here hx rfl (pc0 := 32) (pc' := 44) rfl (hb hby d3_32) rfl (Jvm.Free.XT.ii_le_t (by decide)) (by decide) (by decide) ?_
    exact k
  obtain ⟨fs, hr, hrun, hended, hW, hsame⟩ := X4.leave (v := none) (fun _ => rfl)
  refine ⟨_, _, c8 _ ?_, hrun, hended, _, _, rfl, ?_, ⟨_, rfl⟩, hW, hsame.mono (by decide) (by decide)⟩
  · show Steps p.tables e below (T4.setTop (mkF m 44 #[.val (.ref o0), .val (.int p1), .val (.int p2)] [])) _
    exact X4.returnOut hx Bd.returns (hb hby d3_44) hr
  · show Q3_1 Z o0 p1 p2 k_o0 y0 c10_z4 c10_z5 c10_z7 c10_z8 h0 n0 _ T4.heap _
    rw [e4]
    exact ⟨rfl, N4, K5, V4⟩
def Q3_2 (Z : State) (o0 : Addr) (p1 : Int32) (p2 : Int32) (k_o0 : ClassId) (y0 : UInt64) (y1 : UInt64) (c10_z4 : Int32) (c10_z5 : Int32) (c10_z7 : Int32) (c10_z8 : UInt64) (c25_z4 : Int32) (c25_z5 : Int32) (c25_z7 : Int32) (c25_z8 : UInt64) (h0 : Heap) (n0 : Nat) (v : Option Value) (h : Heap) (L : List Loc) : Prop := v = none ∧ Fr n0 L ∧ Keep h0 h [o0] ∧ Arv Z h o0 k_o0 .double (2 : Int32) [(.double c10_z8), (.double c25_z8)] (.double (0 : UInt64))
set_option maxRecDepth 65536 in
set_option maxHeartbeats 40000000 in
theorem rm3_2 (l : Launch) (Z : State) (a0 : Array Value) (hw : ∀ d ∈ tables_1, d.before a0 Z = true) (ws : List Jvm.Cond) (o0 : Addr) (p1 : Int32) (p2 : Int32) (k_o0 : ClassId) (y0 : UInt64) (y1 : UInt64) (c10_z4 : Int32) (c10_z5 : Int32) (c10_z7 : Int32) (c10_z8 : UInt64) (c25_z4 : Int32) (c25_z5 : Int32) (c25_z7 : Int32) (c25_z8 : UInt64) (h0 : Heap) (n0 : Nat) (Z0 : n0 ≤ h0.size) (V_o0 : Arv Z h0 o0 k_o0 .double (2 : Int32) [(.double y0), (.double y1)] (.double (0 : UInt64))) (g_o0 : n0 ≤ o0) (hc10_z4 : (16 : Int32) * p1 = c10_z4) (hc10_z5 : p2 + c10_z4 = c10_z5) (hc10_z7 : c10_z5 + (0 : Int32) = c10_z7) (hc10_z8 : FP.i2d c10_z7 = c10_z8) (hc25_z4 : (16 : Int32) * p1 = c25_z4) (hc25_z5 : p2 + c25_z4 = c25_z5) (hc25_z7 : c25_z5 + (1 : Int32) = c25_z7) (hc25_z8 : FP.i2d c25_z7 = c25_z8) :
    MetFree l (⟨"com/example/lumenstand/lumenstand/light/InterceptionAddPinLaw", "put", "([DII)V"⟩ : MethodName) (head1 (Jvm.Cond.code (⟨"com/example/lumenstand/lumenstand/light/InterceptionAddPinLaw", "put", "([DII)V"⟩ : MethodName) method_4_code 3 none :: ws) ({ frames := 1, cells := 0, slots := 0, locals := 16 } : Room)) (fun a U => a = #[(.ref o0), (.int p1), (.int p2)] ∧ Z.Warmed39 U.vm ∧ U.heap = h0) (fun _ _ _ _ _ => True) (fun _ U o U' => ∃ v L, o = .returned v ∧ Q3_2 Z o0 p1 p2 k_o0 y0 y1 c10_z4 c10_z5 c10_z7 c10_z8 c25_z4 c25_z5 c25_z7 c25_z8 h0 n0 v U'.heap L ∧ FrameEnd U o U' L ({ frames := 1, cells := 0, slots := 0, locals := 16 } : Room).cells ({ frames := 1, cells := 0, slots := 0, locals := 16 } : Room).slots) := by
  refine MetFree.of_bodySF (plainFor_of_name pn_0) hisR ?_
  intro p e s m args below meth c s₁ Bd hml0 hP hK
  obtain ⟨rfl, hZ, hh⟩ := hP
  have hx := Bd.exec
  have hby := Bd.bytes
  have hml : c.maxLocals = 3 := hml0
  have hown : s.vm.findClass "com/example/lumenstand/lumenstand/light/InterceptionAddPinLaw" = some m.cls := findClass_of_methodNamed Bd.named
  have hnm := (name_of_methodNamed Bd.named Bd.method).1
  have X0 : Stand p l e ({ frames := 1, cells := 0, slots := 0, locals := 16 } : Room) s m #[(.ref o0), (.int p1), (.int p2)] below meth c s₁ [] 0 0 := Stand.of_body Bd
  have e0 : s₁.heap = h0 := by rw [← hh, Bd.state]; rfl
  have N0 := Fr.nil n0
  have c0 : ∀ t, Steps p.tables e below (s₁.setTop (mkF m 0 #[.val (.ref o0), .val (.int p1), .val (.int p2)] [])) t → Steps p.tables e below (s₁.setTop (entryFrame m #[(.ref o0), (.int p1), (.int p2)] 3)) t := fun t k => castTop (ef_rm3_2 m o0 p1 p2) k
  obtain ⟨cl1, Ar1, -, S1, Nn1, -, -⟩ := id V_o0
  obtain ⟨_, _, ⟨T2, L2, k2, n2⟩, -, X2, ⟨Lc2, hQ2, ql2, qy2, qz2⟩, st2⟩ := Jvm.LawKit.callS X0 hx (y := (⟨"com/example/lumenstand/lumenstand/light/InterceptionAddPinLaw", "v", "(III)D"⟩ : MethodName)) hown (mvT hZ (hw _ (List.mem_of_getElem? (i := 37) rfl))) (mvT hZ (hw _ (List.mem_of_getElem? (i := 38) rfl))) (mvT hZ (hw _ (List.mem_of_getElem? (i := 21) rfl))) (mvT hZ (hw _ (List.mem_of_getElem? (i := 39) rfl))) (by decide) (backOf (W := 2) (rm7 l Z a0 hw [] p2 p1 (0 : Int32) c10_z4 c10_z5 c10_z7 c10_z8 h0 n0 Z0 hc10_z4 hc10_z5 hc10_z7 hc10_z8) hZ (hw _ (List.mem_of_getElem? (i := 39) rfl)) (hw _ (List.mem_of_getElem? (i := 21) rfl)) (by decide) (by decide)) (g := (mkF m 10 #[.val (.ref o0), .val (.int p1), .val (.int p2)] [(.int (0 : Int32)), (.int p1), (.int p2), (.int (0 : Int32)), (.ref o0)])) rfl (by rw [hml]; rfl) (argsL := [(.int p2), (.int p1), (.int (0 : Int32))]) (rest := [(.int (0 : Int32)), (.ref o0)]) (lenOf pd_0 rfl) rfl (by show 2 * 0 + _ ≤ _; exact Nat.le_of_eq rfl) (hb hby d3_10) (fun _ _ => ⟨rfl, e0, (by decide : 0 + 0 ≤ _), (by decide : 0 + 0 ≤ _)⟩)
  dsimp only [Pt.U, Pt.locs, Pt.cells, Pt.slots] at X2 ql2 qy2 qz2 st2 hQ2
  subst ql2 qy2 qz2
  obtain ⟨rfl, N2q, e2⟩ := hQ2
  have N2 := Fr.app N0 N2q
  obtain ⟨cl3, Ar3, q3, S3, Nn3, Ha3, G3⟩ := id V_o0
  have in3 : ¬ ((0 : Int32) < 0 ∨ cl3.slots.size ≤ ((0 : Int32)).toNatClampNeg) := inb_of S3 ⟨by decide, by decide⟩
  obtain ⟨T4, h4, X4, e4, W4, st4⟩ := stD X2 hx hZ e2 Ar3 (j := (0 : Int32)) in3 (g := (mkF m 13 #[.val (.ref o0), .val (.int p1), .val (.int p2)] [(.double c10_z8), (.int (0 : Int32)), (.ref o0)])) rfl rfl (hb hby d3_13)
  have N4 := Fr.snoc X4 N2 g_o0
  have K5 : Keep h0 h4 [o0] := (Keep.refl h0 [o0]).wr W4 (Or.inl (by simp))
  have V4 : Arv Z h4 o0 k_o0 .double (2 : Int32) [(.double c10_z8), (.double y1)] (.double (0 : UInt64)) := Arv.set Ar3 q3 S3 Nn3 Ha3 G3 rfl W4 0 rfl (show (0 : Nat) < 2 by decide)
  obtain ⟨cl6, Ar6, -, S6, Nn6, -, -⟩ := id V4
  obtain ⟨_, _, ⟨T7, L7, k7, n7⟩, -, X7, ⟨Lc7, hQ7, ql7, qy7, qz7⟩, st7⟩ := Jvm.LawKit.callS X4 hx (y := (⟨"com/example/lumenstand/lumenstand/light/InterceptionAddPinLaw", "v", "(III)D"⟩ : MethodName)) hown (mvT hZ (hw _ (List.mem_of_getElem? (i := 37) rfl))) (mvT hZ (hw _ (List.mem_of_getElem? (i := 38) rfl))) (mvT hZ (hw _ (List.mem_of_getElem? (i := 21) rfl))) (mvT hZ (hw _ (List.mem_of_getElem? (i := 39) rfl))) (by decide) (backOf (W := 2) (rm7 l Z a0 hw [] p2 p1 (1 : Int32) c25_z4 c25_z5 c25_z7 c25_z8 h4 n0 (Nat.le_trans Z0 (Keep.of_wr W4).1) hc25_z4 hc25_z5 hc25_z7 hc25_z8) hZ (hw _ (List.mem_of_getElem? (i := 39) rfl)) (hw _ (List.mem_of_getElem? (i := 21) rfl)) (by decide) (by decide)) (g := (mkF m 25 #[.val (.ref o0), .val (.int p1), .val (.int p2)] [(.int (1 : Int32)), (.int p1), (.int p2), (.int (1 : Int32)), (.ref o0)])) rfl (by rw [hml]; rfl) (argsL := [(.int p2), (.int p1), (.int (1 : Int32))]) (rest := [(.int (1 : Int32)), (.ref o0)]) (lenOf pd_0 rfl) rfl (by show 2 * 0 + _ ≤ _; exact Nat.le_of_eq rfl) (hb hby d3_25) (fun _ _ => ⟨rfl, e4, (by decide : 0 + 0 ≤ _), (by decide : 0 + 0 ≤ _)⟩)
  dsimp only [Pt.U, Pt.locs, Pt.cells, Pt.slots] at X7 ql7 qy7 qz7 st7 hQ7
  subst ql7 qy7 qz7
  obtain ⟨rfl, N7q, e7⟩ := hQ7
  have N7 := Fr.app N4 N7q
  obtain ⟨cl8, Ar8, q8, S8, Nn8, Ha8, G8⟩ := id V4
  have in8 : ¬ ((1 : Int32) < 0 ∨ cl8.slots.size ≤ ((1 : Int32)).toNatClampNeg) := inb_of S8 ⟨by decide, by decide⟩
  obtain ⟨T9, h9, X9, e9, W9, st9⟩ := stD X7 hx hZ e7 Ar8 (j := (1 : Int32)) in8 (g := (mkF m 28 #[.val (.ref o0), .val (.int p1), .val (.int p2)] [(.double c25_z8), (.int (1 : Int32)), (.ref o0)])) rfl rfl (hb hby d3_28)
  have N9 := Fr.snoc X9 N7 g_o0
  have K10 : Keep h0 h9 [o0] := K5.wr W9 (Or.inl (by simp))
  have V9 : Arv Z h9 o0 k_o0 .double (2 : Int32) [(.double c10_z8), (.double c25_z8)] (.double (0 : UInt64)) := Arv.set Ar8 q8 S8 Nn8 Ha8 G8 rfl W9 1 rfl (show (1 : Nat) < 2 by decide)
  obtain ⟨cl11, Ar11, -, S11, Nn11, -, -⟩ := id V9
  have c12 : ∀ t, Steps p.tables e below (T9.setTop (mkF m 44 #[.val (.ref o0), .val (.int p1), .val (.int p2)] [])) t → Steps p.tables e below (s₁.setTop (entryFrame m #[(.ref o0), (.int p1), (.int p2)] 3)) t := by
    intro t k
    refine c0 t ?_
    show Steps p.tables e below (s₁.setTop (mkF m 0 #[.val (.ref o0), .val (.int p1), .val (.int p2)] [])) _
    refine XS.aloadN X0.here hx rfl (hb hby d3_0) rfl rfl ?_
    show Steps p.tables e below (s₁.setTop (mkF m 1 #[.val (.ref o0), .val (.int p1), .val (.int p2)] [(.ref o0)])) _
    refine X0.arraylength hx (by rw [e0]; exact Ar1.1) (State.isArrayOf_alike hZ.alike Ar1.2.1) (g := (mkF m 1 #[.val (.ref o0), .val (.int p1), .val (.int p2)] [(.ref o0)])) rfl rfl (hb hby d3_1) _ ?_
    rw [len_of S1 Nn1]
    show Steps p.tables e below (s₁.setTop (mkF m 2 #[.val (.ref o0), .val (.int p1), .val (.int p2)] [(.int (2 : Int32))])) _
    refine XS.ifNo X0.here hx rfl (hb hby d3_2) rfl (Jvm.Free.XT.i0_le_f (by decide)) ?_
    show Steps p.tables e below (s₁.setTop (mkF m 5 #[.val (.ref o0), .val (.int p1), .val (.int p2)] [])) _
    refine XS.aloadN X0.here hx rfl (hb hby d3_5) rfl rfl ?_
    show Steps p.tables e below (s₁.setTop (mkF m 6 #[.val (.ref o0), .val (.int p1), .val (.int p2)] [(.ref o0)])) _
    refine XS.iconst X0.here hx rfl (hb hby d3_6) ?_
    show Steps p.tables e below (s₁.setTop (mkF m 7 #[.val (.ref o0), .val (.int p1), .val (.int p2)] [(.int (0 : Int32)), (.ref o0)])) _
    refine XS.iloadN X0.here hx rfl (hb hby d3_7) rfl ?_
    show Steps p.tables e below (s₁.setTop (mkF m 8 #[.val (.ref o0), .val (.int p1), .val (.int p2)] [(.int p2), (.int (0 : Int32)), (.ref o0)])) _
    refine XS.iloadN X0.here hx rfl (hb hby d3_8) rfl ?_
    show Steps p.tables e below (s₁.setTop (mkF m 9 #[.val (.ref o0), .val (.int p1), .val (.int p2)] [(.int p1), (.int p2), (.int (0 : Int32)), (.ref o0)])) _
    refine XS.iconst X0.here hx rfl (hb hby d3_9) ?_
    show Steps p.tables e below (s₁.setTop (mkF m 10 #[.val (.ref o0), .val (.int p1), .val (.int p2)] [(.int (0 : Int32)), (.int p1), (.int p2), (.int (0 : Int32)), (.ref o0)])) _
    refine st2 _ ?_
    show Steps p.tables e below (T2.setTop (mkF m 13 #[.val (.ref o0), .val (.int p1), .val (.int p2)] [(.double c10_z8), (.int (0 : Int32)), (.ref o0)])) _
    refine st4 _ ?_
    show Steps p.tables e below (T4.setTop (mkF m 14 #[.val (.ref o0), .val (.int p1), .val (.int p2)] [])) _
    refine XS.aloadN X4.here hx rfl (hb hby d3_14) rfl rfl ?_
    show Steps p.tables e below (T4.setTop (mkF m 15 #[.val (.ref o0), .val (.int p1), .val (.int p2)] [(.ref o0)])) _
    refine X4.arraylength hx (by rw [e4]; exact Ar6.1) (State.isArrayOf_alike hZ.alike Ar6.2.1) (g := (mkF m 15 #[.val (.ref o0), .val (.int p1), .val (.int p2)] [(.ref o0)])) rfl rfl (hb hby d3_15) _ ?_
    rw [len_of S6 Nn6]
    show Steps p.tables e below (T4.setTop (mkF m 16 #[.val (.ref o0), .val (.int p1), .val (.int p2)] [(.int (2 : Int32))])) _
    refine XS.iconst X4.here hx rfl (hb hby d3_16) ?_
    show Steps p.tables e below (T4.setTop (mkF m 17 #[.val (.ref o0), .val (.int p1), .val (.int p2)] [(.int (1 : Int32)), (.int (2 : Int32))])) _
    refine XS.icmpNo X4.here hx rfl (hb hby d3_17) rfl (Jvm.Free.XT.ii_le_f (by decide)) ?_
    show Steps p.tables e below (T4.setTop (mkF m 20 #[.val (.ref o0), .val (.int p1), .val (.int p2)] [])) _
    refine XS.aloadN X4.here hx rfl (hb hby d3_20) rfl rfl ?_
    show Steps p.tables e below (T4.setTop (mkF m 21 #[.val (.ref o0), .val (.int p1), .val (.int p2)] [(.ref o0)])) _
    refine XS.iconst X4.here hx rfl (hb hby d3_21) ?_
    show Steps p.tables e below (T4.setTop (mkF m 22 #[.val (.ref o0), .val (.int p1), .val (.int p2)] [(.int (1 : Int32)), (.ref o0)])) _
    refine XS.iloadN X4.here hx rfl (hb hby d3_22) rfl ?_
    show Steps p.tables e below (T4.setTop (mkF m 23 #[.val (.ref o0), .val (.int p1), .val (.int p2)] [(.int p2), (.int (1 : Int32)), (.ref o0)])) _
    refine XS.iloadN X4.here hx rfl (hb hby d3_23) rfl ?_
    show Steps p.tables e below (T4.setTop (mkF m 24 #[.val (.ref o0), .val (.int p1), .val (.int p2)] [(.int p1), (.int p2), (.int (1 : Int32)), (.ref o0)])) _
    refine XS.iconst X4.here hx rfl (hb hby d3_24) ?_
    show Steps p.tables e below (T4.setTop (mkF m 25 #[.val (.ref o0), .val (.int p1), .val (.int p2)] [(.int (1 : Int32)), (.int p1), (.int p2), (.int (1 : Int32)), (.ref o0)])) _
    refine st7 _ ?_
    show Steps p.tables e below (T7.setTop (mkF m 28 #[.val (.ref o0), .val (.int p1), .val (.int p2)] [(.double c25_z8), (.int (1 : Int32)), (.ref o0)])) _
    refine st9 _ ?_
    show Steps p.tables e below (T9.setTop (mkF m 29 #[.val (.ref o0), .val (.int p1), .val (.int p2)] [])) _
    refine XS.aloadN X9.here hx rfl (hb hby d3_29) rfl rfl ?_
    show Steps p.tables e below (T9.setTop (mkF m 30 #[.val (.ref o0), .val (.int p1), .val (.int p2)] [(.ref o0)])) _
    refine X9.arraylength hx (by rw [e9]; exact Ar11.1) (State.isArrayOf_alike hZ.alike Ar11.2.1) (g := (mkF m 30 #[.val (.ref o0), .val (.int p1), .val (.int p2)] [(.ref o0)])) rfl rfl (hb hby d3_30) _ ?_
    rw [len_of S11 Nn11]
    show Steps p.tables e below (T9.setTop (mkF m 31 #[.val (.ref o0), .val (.int p1), .val (.int p2)] [(.int (2 : Int32))])) _
    refine XS.iconst X9.here hx rfl (hb hby d3_31) ?_
    show Steps p.tables e below (T9.setTop (mkF m 32 #[.val (.ref o0), .val (.int p1), .val (.int p2)] [(.int (2 : Int32)), (.int (2 : Int32))])) _
    refine XS.icmpYes X9.here hx rfl (pc0 := 32) (pc' := 44) rfl (hb hby d3_32) rfl (Jvm.Free.XT.ii_le_t (by decide)) (by decide) (by decide) ?_
    exact k
  obtain ⟨fs, hr, hrun, hended, hW, hsame⟩ := X9.leave (v := none) (fun _ => rfl)
  refine ⟨_, _, c12 _ ?_, hrun, hended, _, _, rfl, ?_, ⟨_, rfl⟩, hW, hsame.mono (by decide) (by decide)⟩
  · show Steps p.tables e below (T9.setTop (mkF m 44 #[.val (.ref o0), .val (.int p1), .val (.int p2)] [])) _
    exact X9.returnOut hx Bd.returns (hb hby d3_44) hr
  · show Q3_2 Z o0 p1 p2 k_o0 y0 y1 c10_z4 c10_z5 c10_z7 c10_z8 c25_z4 c25_z5 c25_z7 c25_z8 h0 n0 _ T9.heap _
    rw [e9]
    exact ⟨rfl, N9, K10, V9⟩
def Q3_3 (Z : State) (o0 : Addr) (p1 : Int32) (p2 : Int32) (k_o0 : ClassId) (y0 : UInt64) (y1 : UInt64) (y2 : UInt64) (c10_z4 : Int32) (c10_z5 : Int32) (c10_z7 : Int32) (c10_z8 : UInt64) (c25_z4 : Int32) (c25_z5 : Int32) (c25_z7 : Int32) (c25_z8 : UInt64) (c40_z4 : Int32) (c40_z5 : Int32) (c40_z7 : Int32) (c40_z8 : UInt64) (h0 : Heap) (n0 : Nat) (v : Option Value) (h : Heap) (L : List Loc) : Prop := v = none ∧ Fr n0 L ∧ Keep h0 h [o0] ∧ Arv Z h o0 k_o0 .double (3 : Int32) [(.double c10_z8), (.double c25_z8), (.double c40_z8)] (.double (0 : UInt64))
set_option maxRecDepth 65536 in
set_option maxHeartbeats 40000000 in
theorem rm3_3 (l : Launch) (Z : State) (a0 : Array Value) (hw : ∀ d ∈ tables_1, d.before a0 Z = true) (ws : List Jvm.Cond) (o0 : Addr) (p1 : Int32) (p2 : Int32) (k_o0 : ClassId) (y0 : UInt64) (y1 : UInt64) (y2 : UInt64) (c10_z4 : Int32) (c10_z5 : Int32) (c10_z7 : Int32) (c10_z8 : UInt64) (c25_z4 : Int32) (c25_z5 : Int32) (c25_z7 : Int32) (c25_z8 : UInt64) (c40_z4 : Int32) (c40_z5 : Int32) (c40_z7 : Int32) (c40_z8 : UInt64) (h0 : Heap) (n0 : Nat) (Z0 : n0 ≤ h0.size) (V_o0 : Arv Z h0 o0 k_o0 .double (3 : Int32) [(.double y0), (.double y1), (.double y2)] (.double (0 : UInt64))) (g_o0 : n0 ≤ o0) (hc10_z4 : (16 : Int32) * p1 = c10_z4) (hc10_z5 : p2 + c10_z4 = c10_z5) (hc10_z7 : c10_z5 + (0 : Int32) = c10_z7) (hc10_z8 : FP.i2d c10_z7 = c10_z8) (hc25_z4 : (16 : Int32) * p1 = c25_z4) (hc25_z5 : p2 + c25_z4 = c25_z5) (hc25_z7 : c25_z5 + (1 : Int32) = c25_z7) (hc25_z8 : FP.i2d c25_z7 = c25_z8) (hc40_z4 : (16 : Int32) * p1 = c40_z4) (hc40_z5 : p2 + c40_z4 = c40_z5) (hc40_z7 : c40_z5 + (2 : Int32) = c40_z7) (hc40_z8 : FP.i2d c40_z7 = c40_z8) :
    MetFree l (⟨"com/example/lumenstand/lumenstand/light/InterceptionAddPinLaw", "put", "([DII)V"⟩ : MethodName) (head1 (Jvm.Cond.code (⟨"com/example/lumenstand/lumenstand/light/InterceptionAddPinLaw", "put", "([DII)V"⟩ : MethodName) method_4_code 3 none :: ws) ({ frames := 1, cells := 0, slots := 0, locals := 16 } : Room)) (fun a U => a = #[(.ref o0), (.int p1), (.int p2)] ∧ Z.Warmed39 U.vm ∧ U.heap = h0) (fun _ _ _ _ _ => True) (fun _ U o U' => ∃ v L, o = .returned v ∧ Q3_3 Z o0 p1 p2 k_o0 y0 y1 y2 c10_z4 c10_z5 c10_z7 c10_z8 c25_z4 c25_z5 c25_z7 c25_z8 c40_z4 c40_z5 c40_z7 c40_z8 h0 n0 v U'.heap L ∧ FrameEnd U o U' L ({ frames := 1, cells := 0, slots := 0, locals := 16 } : Room).cells ({ frames := 1, cells := 0, slots := 0, locals := 16 } : Room).slots) := by
  refine MetFree.of_bodySF (plainFor_of_name pn_0) hisR ?_
  intro p e s m args below meth c s₁ Bd hml0 hP hK
  obtain ⟨rfl, hZ, hh⟩ := hP
  have hx := Bd.exec
  have hby := Bd.bytes
  have hml : c.maxLocals = 3 := hml0
  have hown : s.vm.findClass "com/example/lumenstand/lumenstand/light/InterceptionAddPinLaw" = some m.cls := findClass_of_methodNamed Bd.named
  have hnm := (name_of_methodNamed Bd.named Bd.method).1
  have X0 : Stand p l e ({ frames := 1, cells := 0, slots := 0, locals := 16 } : Room) s m #[(.ref o0), (.int p1), (.int p2)] below meth c s₁ [] 0 0 := Stand.of_body Bd
  have e0 : s₁.heap = h0 := by rw [← hh, Bd.state]; rfl
  have N0 := Fr.nil n0
  have c0 : ∀ t, Steps p.tables e below (s₁.setTop (mkF m 0 #[.val (.ref o0), .val (.int p1), .val (.int p2)] [])) t → Steps p.tables e below (s₁.setTop (entryFrame m #[(.ref o0), (.int p1), (.int p2)] 3)) t := fun t k => castTop (ef_rm3_3 m o0 p1 p2) k
  obtain ⟨cl1, Ar1, -, S1, Nn1, -, -⟩ := id V_o0
  obtain ⟨_, _, ⟨T2, L2, k2, n2⟩, -, X2, ⟨Lc2, hQ2, ql2, qy2, qz2⟩, st2⟩ := Jvm.LawKit.callS X0 hx (y := (⟨"com/example/lumenstand/lumenstand/light/InterceptionAddPinLaw", "v", "(III)D"⟩ : MethodName)) hown (mvT hZ (hw _ (List.mem_of_getElem? (i := 37) rfl))) (mvT hZ (hw _ (List.mem_of_getElem? (i := 38) rfl))) (mvT hZ (hw _ (List.mem_of_getElem? (i := 21) rfl))) (mvT hZ (hw _ (List.mem_of_getElem? (i := 39) rfl))) (by decide) (backOf (W := 2) (rm7 l Z a0 hw [] p2 p1 (0 : Int32) c10_z4 c10_z5 c10_z7 c10_z8 h0 n0 Z0 hc10_z4 hc10_z5 hc10_z7 hc10_z8) hZ (hw _ (List.mem_of_getElem? (i := 39) rfl)) (hw _ (List.mem_of_getElem? (i := 21) rfl)) (by decide) (by decide)) (g := (mkF m 10 #[.val (.ref o0), .val (.int p1), .val (.int p2)] [(.int (0 : Int32)), (.int p1), (.int p2), (.int (0 : Int32)), (.ref o0)])) rfl (by rw [hml]; rfl) (argsL := [(.int p2), (.int p1), (.int (0 : Int32))]) (rest := [(.int (0 : Int32)), (.ref o0)]) (lenOf pd_0 rfl) rfl (by show 2 * 0 + _ ≤ _; exact Nat.le_of_eq rfl) (hb hby d3_10) (fun _ _ => ⟨rfl, e0, (by decide : 0 + 0 ≤ _), (by decide : 0 + 0 ≤ _)⟩)
  dsimp only [Pt.U, Pt.locs, Pt.cells, Pt.slots] at X2 ql2 qy2 qz2 st2 hQ2
  subst ql2 qy2 qz2
  obtain ⟨rfl, N2q, e2⟩ := hQ2
  have N2 := Fr.app N0 N2q
  obtain ⟨cl3, Ar3, q3, S3, Nn3, Ha3, G3⟩ := id V_o0
  have in3 : ¬ ((0 : Int32) < 0 ∨ cl3.slots.size ≤ ((0 : Int32)).toNatClampNeg) := inb_of S3 ⟨by decide, by decide⟩
  obtain ⟨T4, h4, X4, e4, W4, st4⟩ := stD X2 hx hZ e2 Ar3 (j := (0 : Int32)) in3 (g := (mkF m 13 #[.val (.ref o0), .val (.int p1), .val (.int p2)] [(.double c10_z8), (.int (0 : Int32)), (.ref o0)])) rfl rfl (hb hby d3_13)
  have N4 := Fr.snoc X4 N2 g_o0
  have K5 : Keep h0 h4 [o0] := (Keep.refl h0 [o0]).wr W4 (Or.inl (by simp))
  have V4 : Arv Z h4 o0 k_o0 .double (3 : Int32) [(.double c10_z8), (.double y1), (.double y2)] (.double (0 : UInt64)) := Arv.set Ar3 q3 S3 Nn3 Ha3 G3 rfl W4 0 rfl (show (0 : Nat) < 3 by decide)
  obtain ⟨cl6, Ar6, -, S6, Nn6, -, -⟩ := id V4
  obtain ⟨_, _, ⟨T7, L7, k7, n7⟩, -, X7, ⟨Lc7, hQ7, ql7, qy7, qz7⟩, st7⟩ := Jvm.LawKit.callS X4 hx (y := (⟨"com/example/lumenstand/lumenstand/light/InterceptionAddPinLaw", "v", "(III)D"⟩ : MethodName)) hown (mvT hZ (hw _ (List.mem_of_getElem? (i := 37) rfl))) (mvT hZ (hw _ (List.mem_of_getElem? (i := 38) rfl))) (mvT hZ (hw _ (List.mem_of_getElem? (i := 21) rfl))) (mvT hZ (hw _ (List.mem_of_getElem? (i := 39) rfl))) (by decide) (backOf (W := 2) (rm7 l Z a0 hw [] p2 p1 (1 : Int32) c25_z4 c25_z5 c25_z7 c25_z8 h4 n0 (Nat.le_trans Z0 (Keep.of_wr W4).1) hc25_z4 hc25_z5 hc25_z7 hc25_z8) hZ (hw _ (List.mem_of_getElem? (i := 39) rfl)) (hw _ (List.mem_of_getElem? (i := 21) rfl)) (by decide) (by decide)) (g := (mkF m 25 #[.val (.ref o0), .val (.int p1), .val (.int p2)] [(.int (1 : Int32)), (.int p1), (.int p2), (.int (1 : Int32)), (.ref o0)])) rfl (by rw [hml]; rfl) (argsL := [(.int p2), (.int p1), (.int (1 : Int32))]) (rest := [(.int (1 : Int32)), (.ref o0)]) (lenOf pd_0 rfl) rfl (by show 2 * 0 + _ ≤ _; exact Nat.le_of_eq rfl) (hb hby d3_25) (fun _ _ => ⟨rfl, e4, (by decide : 0 + 0 ≤ _), (by decide : 0 + 0 ≤ _)⟩)
  dsimp only [Pt.U, Pt.locs, Pt.cells, Pt.slots] at X7 ql7 qy7 qz7 st7 hQ7
  subst ql7 qy7 qz7
  obtain ⟨rfl, N7q, e7⟩ := hQ7
  have N7 := Fr.app N4 N7q
  obtain ⟨cl8, Ar8, q8, S8, Nn8, Ha8, G8⟩ := id V4
  have in8 : ¬ ((1 : Int32) < 0 ∨ cl8.slots.size ≤ ((1 : Int32)).toNatClampNeg) := inb_of S8 ⟨by decide, by decide⟩
  obtain ⟨T9, h9, X9, e9, W9, st9⟩ := stD X7 hx hZ e7 Ar8 (j := (1 : Int32)) in8 (g := (mkF m 28 #[.val (.ref o0), .val (.int p1), .val (.int p2)] [(.double c25_z8), (.int (1 : Int32)), (.ref o0)])) rfl rfl (hb hby d3_28)
  have N9 := Fr.snoc X9 N7 g_o0
  have K10 : Keep h0 h9 [o0] := K5.wr W9 (Or.inl (by simp))
  have V9 : Arv Z h9 o0 k_o0 .double (3 : Int32) [(.double c10_z8), (.double c25_z8), (.double y2)] (.double (0 : UInt64)) := Arv.set Ar8 q8 S8 Nn8 Ha8 G8 rfl W9 1 rfl (show (1 : Nat) < 3 by decide)
  obtain ⟨cl11, Ar11, -, S11, Nn11, -, -⟩ := id V9
  obtain ⟨_, _, ⟨T12, L12, k12, n12⟩, -, X12, ⟨Lc12, hQ12, ql12, qy12, qz12⟩, st12⟩ := Jvm.LawKit.callS X9 hx (y := (⟨"com/example/lumenstand/lumenstand/light/InterceptionAddPinLaw", "v", "(III)D"⟩ : MethodName)) hown (mvT hZ (hw _ (List.mem_of_getElem? (i := 37) rfl))) (mvT hZ (hw _ (List.mem_of_getElem? (i := 38) rfl))) (mvT hZ (hw _ (List.mem_of_getElem? (i := 21) rfl))) (mvT hZ (hw _ (List.mem_of_getElem? (i := 39) rfl))) (by decide) (backOf (W := 2) (rm7 l Z a0 hw [] p2 p1 (2 : Int32) c40_z4 c40_z5 c40_z7 c40_z8 h9 n0 (Nat.le_trans (Nat.le_trans Z0 (Keep.of_wr W4).1) (Keep.of_wr W9).1) hc40_z4 hc40_z5 hc40_z7 hc40_z8) hZ (hw _ (List.mem_of_getElem? (i := 39) rfl)) (hw _ (List.mem_of_getElem? (i := 21) rfl)) (by decide) (by decide)) (g := (mkF m 40 #[.val (.ref o0), .val (.int p1), .val (.int p2)] [(.int (2 : Int32)), (.int p1), (.int p2), (.int (2 : Int32)), (.ref o0)])) rfl (by rw [hml]; rfl) (argsL := [(.int p2), (.int p1), (.int (2 : Int32))]) (rest := [(.int (2 : Int32)), (.ref o0)]) (lenOf pd_0 rfl) rfl (by show 2 * 0 + _ ≤ _; exact Nat.le_of_eq rfl) (hb hby d3_40) (fun _ _ => ⟨rfl, e9, (by decide : 0 + 0 ≤ _), (by decide : 0 + 0 ≤ _)⟩)
  dsimp only [Pt.U, Pt.locs, Pt.cells, Pt.slots] at X12 ql12 qy12 qz12 st12 hQ12
  subst ql12 qy12 qz12
  obtain ⟨rfl, N12q, e12⟩ := hQ12
  have N12 := Fr.app N9 N12q
  obtain ⟨cl13, Ar13, q13, S13, Nn13, Ha13, G13⟩ := id V9
  have in13 : ¬ ((2 : Int32) < 0 ∨ cl13.slots.size ≤ ((2 : Int32)).toNatClampNeg) := inb_of S13 ⟨by decide, by decide⟩
  obtain ⟨T14, h14, X14, e14, W14, st14⟩ := stD X12 hx hZ e12 Ar13 (j := (2 : Int32)) in13 (g := (mkF m 43 #[.val (.ref o0), .val (.int p1), .val (.int p2)] [(.double c40_z8), (.int (2 : Int32)), (.ref o0)])) rfl rfl (hb hby d3_43)
  have N14 := Fr.snoc X14 N12 g_o0
  have K15 : Keep h0 h14 [o0] := K10.wr W14 (Or.inl (by simp))
  have V14 : Arv Z h14 o0 k_o0 .double (3 : Int32) [(.double c10_z8), (.double c25_z8), (.double c40_z8)] (.double (0 : UInt64)) := Arv.set Ar13 q13 S13 Nn13 Ha13 G13 rfl W14 2 rfl (show (2 : Nat) < 3 by decide)
  have c16 : ∀ t, Steps p.tables e below (T14.setTop (mkF m 44 #[.val (.ref o0), .val (.int p1), .val (.int p2)] [])) t → Steps p.tables e below (s₁.setTop (entryFrame m #[(.ref o0), (.int p1), (.int p2)] 3)) t := by
    intro t k
    refine c0 t ?_
    show Steps p.tables e below (s₁.setTop (mkF m 0 #[.val (.ref o0), .val (.int p1), .val (.int p2)] [])) _
    refine XS.aloadN X0.here hx rfl (hb hby d3_0) rfl rfl ?_
    show Steps p.tables e below (s₁.setTop (mkF m 1 #[.val (.ref o0), .val (.int p1), .val (.int p2)] [(.ref o0)])) _
    refine X0.arraylength hx (by rw [e0]; exact Ar1.1) (State.isArrayOf_alike hZ.alike Ar1.2.1) (g := (mkF m 1 #[.val (.ref o0), .val (.int p1), .val (.int p2)] [(.ref o0)])) rfl rfl (hb hby d3_1) _ ?_
    rw [len_of S1 Nn1]
    show Steps p.tables e below (s₁.setTop (mkF m 2 #[.val (.ref o0), .val (.int p1), .val (.int p2)] [(.int (3 : Int32))])) _
    refine XS.ifNo X0.here hx rfl (hb hby d3_2) rfl (Jvm.Free.XT.i0_le_f (by decide)) ?_
    show Steps p.tables e below (s₁.setTop (mkF m 5 #[.val (.ref o0), .val (.int p1), .val (.int p2)] [])) _
    refine XS.aloadN X0.here hx rfl (hb hby d3_5) rfl rfl ?_
    show Steps p.tables e below (s₁.setTop (mkF m 6 #[.val (.ref o0), .val (.int p1), .val (.int p2)] [(.ref o0)])) _
    refine XS.iconst X0.here hx rfl (hb hby d3_6) ?_
    show Steps p.tables e below (s₁.setTop (mkF m 7 #[.val (.ref o0), .val (.int p1), .val (.int p2)] [(.int (0 : Int32)), (.ref o0)])) _
    refine XS.iloadN X0.here hx rfl (hb hby d3_7) rfl ?_
    show Steps p.tables e below (s₁.setTop (mkF m 8 #[.val (.ref o0), .val (.int p1), .val (.int p2)] [(.int p2), (.int (0 : Int32)), (.ref o0)])) _
    refine XS.iloadN X0.here hx rfl (hb hby d3_8) rfl ?_
    show Steps p.tables e below (s₁.setTop (mkF m 9 #[.val (.ref o0), .val (.int p1), .val (.int p2)] [(.int p1), (.int p2), (.int (0 : Int32)), (.ref o0)])) _
    refine XS.iconst X0.here hx rfl (hb hby d3_9) ?_
    show Steps p.tables e below (s₁.setTop (mkF m 10 #[.val (.ref o0), .val (.int p1), .val (.int p2)] [(.int (0 : Int32)), (.int p1), (.int p2), (.int (0 : Int32)), (.ref o0)])) _
    refine st2 _ ?_
    show Steps p.tables e below (T2.setTop (mkF m 13 #[.val (.ref o0), .val (.int p1), .val (.int p2)] [(.double c10_z8), (.int (0 : Int32)), (.ref o0)])) _
    refine st4 _ ?_
    show Steps p.tables e below (T4.setTop (mkF m 14 #[.val (.ref o0), .val (.int p1), .val (.int p2)] [])) _
    refine XS.aloadN X4.here hx rfl (hb hby d3_14) rfl rfl ?_
    show Steps p.tables e below (T4.setTop (mkF m 15 #[.val (.ref o0), .val (.int p1), .val (.int p2)] [(.ref o0)])) _
    refine X4.arraylength hx (by rw [e4]; exact Ar6.1) (State.isArrayOf_alike hZ.alike Ar6.2.1) (g := (mkF m 15 #[.val (.ref o0), .val (.int p1), .val (.int p2)] [(.ref o0)])) rfl rfl (hb hby d3_15) _ ?_
    rw [len_of S6 Nn6]
    show Steps p.tables e below (T4.setTop (mkF m 16 #[.val (.ref o0), .val (.int p1), .val (.int p2)] [(.int (3 : Int32))])) _
    refine XS.iconst X4.here hx rfl (hb hby d3_16) ?_
    show Steps p.tables e below (T4.setTop (mkF m 17 #[.val (.ref o0), .val (.int p1), .val (.int p2)] [(.int (1 : Int32)), (.int (3 : Int32))])) _
    refine XS.icmpNo X4.here hx rfl (hb hby d3_17) rfl (Jvm.Free.XT.ii_le_f (by decide)) ?_
    show Steps p.tables e below (T4.setTop (mkF m 20 #[.val (.ref o0), .val (.int p1), .val (.int p2)] [])) _
    refine XS.aloadN X4.here hx rfl (hb hby d3_20) rfl rfl ?_
    show Steps p.tables e below (T4.setTop (mkF m 21 #[.val (.ref o0), .val (.int p1), .val (.int p2)] [(.ref o0)])) _
    refine XS.iconst X4.here hx rfl (hb hby d3_21) ?_
    show Steps p.tables e below (T4.setTop (mkF m 22 #[.val (.ref o0), .val (.int p1), .val (.int p2)] [(.int (1 : Int32)), (.ref o0)])) _
    refine XS.iloadN X4.here hx rfl (hb hby d3_22) rfl ?_
    show Steps p.tables e below (T4.setTop (mkF m 23 #[.val (.ref o0), .val (.int p1), .val (.int p2)] [(.int p2), (.int (1 : Int32)), (.ref o0)])) _
    refine XS.iloadN X4.here hx rfl (hb hby d3_23) rfl ?_
    show Steps p.tables e below (T4.setTop (mkF m 24 #[.val (.ref o0), .val (.int p1), .val (.int p2)] [(.int p1), (.int p2), (.int (1 : Int32)), (.ref o0)])) _
    refine XS.iconst X4.here hx rfl (hb hby d3_24) ?_
    show Steps p.tables e below (T4.setTop (mkF m 25 #[.val (.ref o0), .val (.int p1), .val (.int p2)] [(.int (1 : Int32)), (.int p1), (.int p2), (.int (1 : Int32)), (.ref o0)])) _
    refine st7 _ ?_
    show Steps p.tables e below (T7.setTop (mkF m 28 #[.val (.ref o0), .val (.int p1), .val (.int p2)] [(.double c25_z8), (.int (1 : Int32)), (.ref o0)])) _
    refine st9 _ ?_
    show Steps p.tables e below (T9.setTop (mkF m 29 #[.val (.ref o0), .val (.int p1), .val (.int p2)] [])) _
    refine XS.aloadN X9.here hx rfl (hb hby d3_29) rfl rfl ?_
    show Steps p.tables e below (T9.setTop (mkF m 30 #[.val (.ref o0), .val (.int p1), .val (.int p2)] [(.ref o0)])) _
    refine X9.arraylength hx (by rw [e9]; exact Ar11.1) (State.isArrayOf_alike hZ.alike Ar11.2.1) (g := (mkF m 30 #[.val (.ref o0), .val (.int p1), .val (.int p2)] [(.ref o0)])) rfl rfl (hb hby d3_30) _ ?_
    rw [len_of S11 Nn11]
    show Steps p.tables e below (T9.setTop (mkF m 31 #[.val (.ref o0), .val (.int p1), .val (.int p2)] [(.int (3 : Int32))])) _
    refine XS.iconst X9.here hx rfl (hb hby d3_31) ?_
    show Steps p.tables e below (T9.setTop (mkF m 32 #[.val (.ref o0), .val (.int p1), .val (.int p2)] [(.int (2 : Int32)), (.int (3 : Int32))])) _
    refine XS.icmpNo X9.here hx rfl (hb hby d3_32) rfl (Jvm.Free.XT.ii_le_f (by decide)) ?_
    show Steps p.tables e below (T9.setTop (mkF m 35 #[.val (.ref o0), .val (.int p1), .val (.int p2)] [])) _
    refine XS.aloadN X9.here hx rfl (hb hby d3_35) rfl rfl ?_
    show Steps p.tables e below (T9.setTop (mkF m 36 #[.val (.ref o0), .val (.int p1), .val (.int p2)] [(.ref o0)])) _
    refine XS.iconst X9.here hx rfl (hb hby d3_36) ?_
    show Steps p.tables e below (T9.setTop (mkF m 37 #[.val (.ref o0), .val (.int p1), .val (.int p2)] [(.int (2 : Int32)), (.ref o0)])) _
    refine XS.iloadN X9.here hx rfl (hb hby d3_37) rfl ?_
    show Steps p.tables e below (T9.setTop (mkF m 38 #[.val (.ref o0), .val (.int p1), .val (.int p2)] [(.int p2), (.int (2 : Int32)), (.ref o0)])) _
    refine XS.iloadN X9.here hx rfl (hb hby d3_38) rfl ?_
    show Steps p.tables e below (T9.setTop (mkF m 39 #[.val (.ref o0), .val (.int p1), .val (.int p2)] [(.int p1), (.int p2), (.int (2 : Int32)), (.ref o0)])) _
    refine XS.iconst X9.here hx rfl (hb hby d3_39) ?_
    show Steps p.tables e below (T9.setTop (mkF m 40 #[.val (.ref o0), .val (.int p1), .val (.int p2)] [(.int (2 : Int32)), (.int p1), (.int p2), (.int (2 : Int32)), (.ref o0)])) _
    refine st12 _ ?_
    show Steps p.tables e below (T12.setTop (mkF m 43 #[.val (.ref o0), .val (.int p1), .val (.int p2)] [(.double c40_z8), (.int (2 : Int32)), (.ref o0)])) _
    refine st14 _ ?_
    exact k
  obtain ⟨fs, hr, hrun, hended, hW, hsame⟩ := X14.leave (v := none) (fun _ => rfl)
  refine ⟨_, _, c16 _ ?_, hrun, hended, _, _, rfl, ?_, ⟨_, rfl⟩, hW, hsame.mono (by decide) (by decide)⟩
  · show Steps p.tables e below (T14.setTop (mkF m 44 #[.val (.ref o0), .val (.int p1), .val (.int p2)] [])) _
    exact X14.returnOut hx Bd.returns (hb hby d3_44) hr
  · show Q3_3 Z o0 p1 p2 k_o0 y0 y1 y2 c10_z4 c10_z5 c10_z7 c10_z8 c25_z4 c25_z5 c25_z7 c25_z8 c40_z4 c40_z5 c40_z7 c40_z8 h0 n0 _ T14.heap _
    rw [e14]
    exact ⟨rfl, N14, K15, V14⟩
def Q4_0 (Z : State) (o0 : Addr) (o1 : Addr) (k_w_direct_o0 : ClassId) (w_direct_o0 : Addr)  (h0 : Heap) (n0 : Nat) (v : Option Value) (h : Heap) (L : List Loc) : Prop := v = none ∧ Fr n0 L ∧ h = h0
set_option maxRecDepth 65536 in
set_option maxHeartbeats 40000000 in
theorem rm4_0 (l : Launch) (Z : State) (a0 : Array Value) (hw : ∀ d ∈ tables_1, d.before a0 Z = true) (ws : List Jvm.Cond) (o0 : Addr) (o1 : Addr) (k_w_direct_o0 : ClassId) (w_direct_o0 : Addr)  (h0 : Heap) (n0 : Nat) (Z0 : n0 ≤ h0.size) (V_w_direct_o0 : Arv Z h0 w_direct_o0 k_w_direct_o0 .double (0 : Int32) [] (.double (0 : UInt64))) (F_direct_o0 : Fld Z h0 o0 "com/example/lumenstand/lumenstand/light/Interception" "direct" "[D" (.ref w_direct_o0)) :
    MetFree l (⟨"com/example/lumenstand/lumenstand/light/Interception", "add", "(Lcom/example/lumenstand/lumenstand/light/Interception;)V"⟩ : MethodName) (head1 (Jvm.Cond.code (⟨"com/example/lumenstand/lumenstand/light/Interception", "add", "(Lcom/example/lumenstand/lumenstand/light/Interception;)V"⟩ : MethodName) prog_14_method_2_code 3 none :: ws) ({ frames := 0, cells := 0, slots := 0, locals := 0 } : Room)) (fun a U => a = #[(.ref o0), (.ref o1)] ∧ Z.Warmed39 U.vm ∧ U.heap = h0) (fun _ _ _ _ _ => True) (fun _ U o U' => ∃ v L, o = .returned v ∧ Q4_0 Z o0 o1 k_w_direct_o0 w_direct_o0  h0 n0 v U'.heap L ∧ FrameEnd U o U' L ({ frames := 0, cells := 0, slots := 0, locals := 0 } : Room).cells ({ frames := 0, cells := 0, slots := 0, locals := 0 } : Room).slots) := by
  refine MetFree.of_bodySF (plainFor_of_name pn_1) hisR ?_
  intro p e s m args below meth c s₁ Bd hml0 hP hK
  obtain ⟨rfl, hZ, hh⟩ := hP
  have hx := Bd.exec
  have hby := Bd.bytes
  have hml : c.maxLocals = 3 := hml0
  have hown : s.vm.findClass "com/example/lumenstand/lumenstand/light/Interception" = some m.cls := findClass_of_methodNamed Bd.named
  have hnm := (name_of_methodNamed Bd.named Bd.method).1
  have X0 : Stand p l e ({ frames := 0, cells := 0, slots := 0, locals := 0 } : Room) s m #[(.ref o0), (.ref o1)] below meth c s₁ [] 0 0 := Stand.of_body Bd
  have e0 : s₁.heap = h0 := by rw [← hh, Bd.state]; rfl
  have N0 := Fr.nil n0
  have c0 : ∀ t, Steps p.tables e below (s₁.setTop (mkF m 0 #[.val (.ref o0), .val (.ref o1), .unset] [])) t → Steps p.tables e below (s₁.setTop (entryFrame m #[(.ref o0), (.ref o1)] 3)) t := fun t k => castTop (ef_rm4_0 m o0 o1) k
  obtain ⟨T1, X1, e1, st1⟩ := getF X0 hx hZ hown (host := "") (Or.inl (hw _ (List.mem_of_getElem? (i := 10) rfl))) Via.refl e0 F_direct_o0 (g := (mkF m 4 #[.val (.ref o0), .val (.ref o1), .val (.int (0 : Int32))] [(.ref o0), (.int (0 : Int32))])) rfl rfl (hb hby d4_4)
  obtain ⟨cl2, Ar2, -, S2, Nn2, -, -⟩ := id V_w_direct_o0
  have c3 : ∀ t, Steps p.tables e below (T1.setTop (mkF m 77 #[.val (.ref o0), .val (.ref o1), .val (.int (0 : Int32))] [])) t → Steps p.tables e below (s₁.setTop (entryFrame m #[(.ref o0), (.ref o1)] 3)) t := by
    intro t k
    refine c0 t ?_
    show Steps p.tables e below (s₁.setTop (mkF m 0 #[.val (.ref o0), .val (.ref o1), .unset] [])) _
    refine XS.iconst X0.here hx rfl (hb hby d4_0) ?_
    show Steps p.tables e below (s₁.setTop (mkF m 1 #[.val (.ref o0), .val (.ref o1), .unset] [(.int (0 : Int32))])) _
    refine XS.istoreN X0.here hx rfl (hb hby d4_1) rfl (l' := #[.val (.ref o0), .val (.ref o1), .val (.int (0 : Int32))]) rfl ?_
    show Steps p.tables e below (s₁.setTop (mkF m 2 #[.val (.ref o0), .val (.ref o1), .val (.int (0 : Int32))] [])) _
    refine XS.iloadN X0.here hx rfl (hb hby d4_2) rfl ?_
    show Steps p.tables e below (s₁.setTop (mkF m 3 #[.val (.ref o0), .val (.ref o1), .val (.int (0 : Int32))] [(.int (0 : Int32))])) _
    refine XS.aloadN X0.here hx rfl (hb hby d4_3) rfl rfl ?_
    show Steps p.tables e below (s₁.setTop (mkF m 4 #[.val (.ref o0), .val (.ref o1), .val (.int (0 : Int32))] [(.ref o0), (.int (0 : Int32))])) _
    refine st1 _ ?_
    show Steps p.tables e below (T1.setTop (mkF m 7 #[.val (.ref o0), .val (.ref o1), .val (.int (0 : Int32))] [(.ref w_direct_o0), (.int (0 : Int32))])) _
    refine X1.arraylength hx (by rw [e1]; exact Ar2.1) (State.isArrayOf_alike hZ.alike Ar2.2.1) (g := (mkF m 7 #[.val (.ref o0), .val (.ref o1), .val (.int (0 : Int32))] [(.ref w_direct_o0), (.int (0 : Int32))])) rfl rfl (hb hby d4_7) _ ?_
    rw [len_of S2 Nn2]
    show Steps p.tables e below (T1.setTop (mkF m 8 #[.val (.ref o0), .val (.ref o1), .val (.int (0 : Int32))] [(.int (0 : Int32)), (.int (0 : Int32))])) _
    refine XS.icmpYes X1.here hx rfl (pc0 := 8) (pc' := 77) rfl (hb hby d4_8) rfl (Jvm.Free.XT.ii_ge_t (by decide)) (by decide) (by decide) ?_
    exact k
  obtain ⟨fs, hr, hrun, hended, hW, hsame⟩ := X1.leave (v := none) (fun _ => rfl)
  refine ⟨_, _, c3 _ ?_, hrun, hended, _, _, rfl, ?_, ⟨_, rfl⟩, hW, hsame.mono (by decide) (by decide)⟩
  · show Steps p.tables e below (T1.setTop (mkF m 77 #[.val (.ref o0), .val (.ref o1), .val (.int (0 : Int32))] [])) _
    exact X1.returnOut hx Bd.returns (hb hby d4_77) hr
  · show Q4_0 Z o0 o1 k_w_direct_o0 w_direct_o0  h0 n0 _ T1.heap _
    rw [e1]
    exact ⟨rfl, N0, rfl⟩
def Q4_1 (Z : State) (o0 : Addr) (o1 : Addr) (k_w_direct_o0 : ClassId) (y0_0 : UInt64) (k_w_direct_o1 : ClassId) (x0_0 : UInt64) (k_w_diffuse_o0 : ClassId) (y1_0 : UInt64) (k_w_diffuse_o1 : ClassId) (x1_0 : UInt64) (k_w_potential_o0 : ClassId) (y2_0 : UInt64) (k_w_potential_o1 : ClassId) (x2_0 : UInt64) (k_w_trunk_o0 : ClassId) (y3_0 : UInt64) (k_w_trunk_o1 : ClassId) (x3_0 : UInt64) (w_direct_o0 : Addr) (w_direct_o1 : Addr) (w_diffuse_o0 : Addr) (w_diffuse_o1 : Addr) (w_potential_o0 : Addr) (w_potential_o1 : Addr) (w_trunk_o0 : Addr) (w_trunk_o1 : Addr) (z24 : UInt64) (z39 : UInt64) (z54 : UInt64) (z69 : UInt64) (h0 : Heap) (n0 : Nat) (v : Option Value) (h : Heap) (L : List Loc) : Prop := v = none ∧ Fr n0 L ∧ Keep h0 h [w_direct_o0, w_diffuse_o0, w_potential_o0, w_trunk_o0] ∧ Arv Z h w_direct_o0 k_w_direct_o0 .double (1 : Int32) [(.double z24)] (.double (0 : UInt64)) ∧ Arv Z h w_diffuse_o0 k_w_diffuse_o0 .double (1 : Int32) [(.double z39)] (.double (0 : UInt64)) ∧ Arv Z h w_potential_o0 k_w_potential_o0 .double (1 : Int32) [(.double z54)] (.double (0 : UInt64)) ∧ Arv Z h w_trunk_o0 k_w_trunk_o0 .double (1 : Int32) [(.double z69)] (.double (0 : UInt64))
set_option maxRecDepth 65536 in
set_option maxHeartbeats 40000000 in
theorem rm4_1 (l : Launch) (Z : State) (a0 : Array Value) (hw : ∀ d ∈ tables_1, d.before a0 Z = true) (ws : List Jvm.Cond) (o0 : Addr) (o1 : Addr) (k_w_direct_o0 : ClassId) (y0_0 : UInt64) (k_w_direct_o1 : ClassId) (x0_0 : UInt64) (k_w_diffuse_o0 : ClassId) (y1_0 : UInt64) (k_w_diffuse_o1 : ClassId) (x1_0 : UInt64) (k_w_potential_o0 : ClassId) (y2_0 : UInt64) (k_w_potential_o1 : ClassId) (x2_0 : UInt64) (k_w_trunk_o0 : ClassId) (y3_0 : UInt64) (k_w_trunk_o1 : ClassId) (x3_0 : UInt64) (w_direct_o0 : Addr) (w_direct_o1 : Addr) (w_diffuse_o0 : Addr) (w_diffuse_o1 : Addr) (w_potential_o0 : Addr) (w_potential_o1 : Addr) (w_trunk_o0 : Addr) (w_trunk_o1 : Addr) (z24 : UInt64) (z39 : UInt64) (z54 : UInt64) (z69 : UInt64) (h0 : Heap) (n0 : Nat) (Z0 : n0 ≤ h0.size) (V_w_direct_o0 : Arv Z h0 w_direct_o0 k_w_direct_o0 .double (1 : Int32) [(.double y0_0)] (.double (0 : UInt64))) (V_w_direct_o1 : Arv Z h0 w_direct_o1 k_w_direct_o1 .double (1 : Int32) [(.double x0_0)] (.double (0 : UInt64))) (V_w_diffuse_o0 : Arv Z h0 w_diffuse_o0 k_w_diffuse_o0 .double (1 : Int32) [(.double y1_0)] (.double (0 : UInt64))) (V_w_diffuse_o1 : Arv Z h0 w_diffuse_o1 k_w_diffuse_o1 .double (1 : Int32) [(.double x1_0)] (.double (0 : UInt64))) (V_w_potential_o0 : Arv Z h0 w_potential_o0 k_w_potential_o0 .double (1 : Int32) [(.double y2_0)] (.double (0 : UInt64))) (V_w_potential_o1 : Arv Z h0 w_potential_o1 k_w_potential_o1 .double (1 : Int32) [(.double x2_0)] (.double (0 : UInt64))) (V_w_trunk_o0 : Arv Z h0 w_trunk_o0 k_w_trunk_o0 .double (1 : Int32) [(.double y3_0)] (.double (0 : UInt64))) (V_w_trunk_o1 : Arv Z h0 w_trunk_o1 k_w_trunk_o1 .double (1 : Int32) [(.double x3_0)] (.double (0 : UInt64))) (ne_o0_w_direct_o0 : o0 ≠ w_direct_o0) (ne_o1_w_direct_o0 : o1 ≠ w_direct_o0) (ne_o0_w_diffuse_o0 : o0 ≠ w_diffuse_o0) (ne_o1_w_diffuse_o0 : o1 ≠ w_diffuse_o0) (ne_o0_w_potential_o0 : o0 ≠ w_potential_o0) (ne_o1_w_potential_o0 : o1 ≠ w_potential_o0) (ne_o0_w_trunk_o0 : o0 ≠ w_trunk_o0) (ne_o1_w_trunk_o0 : o1 ≠ w_trunk_o0) (ne_w_direct_o0_w_diffuse_o0 : w_direct_o0 ≠ w_diffuse_o0) (ne_w_direct_o0_w_potential_o0 : w_direct_o0 ≠ w_potential_o0) (ne_w_direct_o0_w_trunk_o0 : w_direct_o0 ≠ w_trunk_o0) (ne_w_diffuse_o0_w_potential_o0 : w_diffuse_o0 ≠ w_potential_o0) (ne_w_diffuse_o0_w_trunk_o0 : w_diffuse_o0 ≠ w_trunk_o0) (ne_w_potential_o0_w_trunk_o0 : w_potential_o0 ≠ w_trunk_o0) (ne_w_direct_o0_w_direct_o1 : w_direct_o0 ≠ w_direct_o1) (ne_w_direct_o0_w_diffuse_o1 : w_direct_o0 ≠ w_diffuse_o1) (ne_w_direct_o0_w_potential_o1 : w_direct_o0 ≠ w_potential_o1) (ne_w_direct_o0_w_trunk_o1 : w_direct_o0 ≠ w_trunk_o1) (ne_w_diffuse_o0_w_direct_o1 : w_diffuse_o0 ≠ w_direct_o1) (ne_w_diffuse_o0_w_diffuse_o1 : w_diffuse_o0 ≠ w_diffuse_o1) (ne_w_diffuse_o0_w_potential_o1 : w_diffuse_o0 ≠ w_potential_o1) (ne_w_diffuse_o0_w_trunk_o1 : w_diffuse_o0 ≠ w_trunk_o1) (ne_w_potential_o0_w_direct_o1 : w_potential_o0 ≠ w_direct_o1) (ne_w_potential_o0_w_diffuse_o1 : w_potential_o0 ≠ w_diffuse_o1) (ne_w_potential_o0_w_potential_o1 : w_potential_o0 ≠ w_potential_o1) (ne_w_potential_o0_w_trunk_o1 : w_potential_o0 ≠ w_trunk_o1) (ne_w_trunk_o0_w_direct_o1 : w_trunk_o0 ≠ w_direct_o1) (ne_w_trunk_o0_w_diffuse_o1 : w_trunk_o0 ≠ w_diffuse_o1) (ne_w_trunk_o0_w_potential_o1 : w_trunk_o0 ≠ w_potential_o1) (ne_w_trunk_o0_w_trunk_o1 : w_trunk_o0 ≠ w_trunk_o1) (g_w_direct_o0 : n0 ≤ w_direct_o0) (g_w_diffuse_o0 : n0 ≤ w_diffuse_o0) (g_w_potential_o0 : n0 ≤ w_potential_o0) (g_w_trunk_o0 : n0 ≤ w_trunk_o0) (F_direct_o0 : Fld Z h0 o0 "com/example/lumenstand/lumenstand/light/Interception" "direct" "[D" (.ref w_direct_o0)) (F_direct_o1 : Fld Z h0 o1 "com/example/lumenstand/lumenstand/light/Interception" "direct" "[D" (.ref w_direct_o1)) (F_diffuse_o0 : Fld Z h0 o0 "com/example/lumenstand/lumenstand/light/Interception" "diffuse" "[D" (.ref w_diffuse_o0)) (F_diffuse_o1 : Fld Z h0 o1 "com/example/lumenstand/lumenstand/light/Interception" "diffuse" "[D" (.ref w_diffuse_o1)) (F_potential_o0 : Fld Z h0 o0 "com/example/lumenstand/lumenstand/light/Interception" "potential" "[D" (.ref w_potential_o0)) (F_potential_o1 : Fld Z h0 o1 "com/example/lumenstand/lumenstand/light/Interception" "potential" "[D" (.ref w_potential_o1)) (F_trunk_o0 : Fld Z h0 o0 "com/example/lumenstand/lumenstand/light/Interception" "trunk" "[D" (.ref w_trunk_o0)) (F_trunk_o1 : Fld Z h0 o1 "com/example/lumenstand/lumenstand/light/Interception" "trunk" "[D" (.ref w_trunk_o1)) (hz24 : FP.dadd y0_0 x0_0 = z24) (hz39 : FP.dadd y1_0 x1_0 = z39) (hz54 : FP.dadd y2_0 x2_0 = z54) (hz69 : FP.dadd y3_0 x3_0 = z69) (nn24 : Jvm.Free.Fl.NoNaN64 z24) (nn39 : Jvm.Free.Fl.NoNaN64 z39) (nn54 : Jvm.Free.Fl.NoNaN64 z54) (nn69 : Jvm.Free.Fl.NoNaN64 z69) :
    MetFree l (⟨"com/example/lumenstand/lumenstand/light/Interception", "add", "(Lcom/example/lumenstand/lumenstand/light/Interception;)V"⟩ : MethodName) (head1 (Jvm.Cond.code (⟨"com/example/lumenstand/lumenstand/light/Interception", "add", "(Lcom/example/lumenstand/lumenstand/light/Interception;)V"⟩ : MethodName) prog_14_method_2_code 3 none :: ws) ({ frames := 0, cells := 0, slots := 0, locals := 0 } : Room)) (fun a U => a = #[(.ref o0), (.ref o1)] ∧ Z.Warmed39 U.vm ∧ U.heap = h0) (fun _ _ _ _ _ => True) (fun _ U o U' => ∃ v L, o = .returned v ∧ Q4_1 Z o0 o1 k_w_direct_o0 y0_0 k_w_direct_o1 x0_0 k_w_diffuse_o0 y1_0 k_w_diffuse_o1 x1_0 k_w_potential_o0 y2_0 k_w_potential_o1 x2_0 k_w_trunk_o0 y3_0 k_w_trunk_o1 x3_0 w_direct_o0 w_direct_o1 w_diffuse_o0 w_diffuse_o1 w_potential_o0 w_potential_o1 w_trunk_o0 w_trunk_o1 z24 z39 z54 z69 h0 n0 v U'.heap L ∧ FrameEnd U o U' L ({ frames := 0, cells := 0, slots := 0, locals := 0 } : Room).cells ({ frames := 0, cells := 0, slots := 0, locals := 0 } : Room).slots) := by
  refine MetFree.of_bodySF (plainFor_of_name pn_1) hisR ?_
  intro p e s m args below meth c s₁ Bd hml0 hP hK
  obtain ⟨rfl, hZ, hh⟩ := hP
  have hx := Bd.exec
  have hby := Bd.bytes
  have hml : c.maxLocals = 3 := hml0
  have hown : s.vm.findClass "com/example/lumenstand/lumenstand/light/Interception" = some m.cls := findClass_of_methodNamed Bd.named
  have hnm := (name_of_methodNamed Bd.named Bd.method).1
  have X0 : Stand p l e ({ frames := 0, cells := 0, slots := 0, locals := 0 } : Room) s m #[(.ref o0), (.ref o1)] below meth c s₁ [] 0 0 := Stand.of_body Bd
  have e0 : s₁.heap = h0 := by rw [← hh, Bd.state]; rfl
  have N0 := Fr.nil n0
  have c0 : ∀ t, Steps p.tables e below (s₁.setTop (mkF m 0 #[.val (.ref o0), .val (.ref o1), .unset] [])) t → Steps p.tables e below (s₁.setTop (entryFrame m #[(.ref o0), (.ref o1)] 3)) t := fun t k => castTop (ef_rm4_1 m o0 o1) k
  obtain ⟨T1, X1, e1, st1⟩ := getF X0 hx hZ hown (host := "") (Or.inl (hw _ (List.mem_of_getElem? (i := 10) rfl))) Via.refl e0 F_direct_o0 (g := (mkF m 4 #[.val (.ref o0), .val (.ref o1), .val (.int (0 : Int32))] [(.ref o0), (.int (0 : Int32))])) rfl rfl (hb hby d4_4)
  obtain ⟨cl2, Ar2, -, S2, Nn2, -, -⟩ := id V_w_direct_o0
  obtain ⟨T3, X3, e3, st3⟩ := getF X1 hx hZ hown (host := "") (Or.inl (hw _ (List.mem_of_getElem? (i := 10) rfl))) Via.refl e1 F_direct_o0 (g := (mkF m 12 #[.val (.ref o0), .val (.ref o1), .val (.int (0 : Int32))] [(.ref o0)])) rfl rfl (hb hby d4_12)
  obtain ⟨cl4, Ar4, -, S4, -, Ha4, -⟩ := id V_w_direct_o0
  have in4 : ¬ ((0 : Int32) < 0 ∨ cl4.slots.size ≤ ((0 : Int32)).toNatClampNeg) := inb_of S4 ⟨by decide, by decide⟩
  obtain ⟨T5, X5, e5, st5⟩ := getF X3 hx hZ hown (host := "") (Or.inl (hw _ (List.mem_of_getElem? (i := 10) rfl))) Via.refl e3 F_direct_o1 (g := (mkF m 19 #[.val (.ref o0), .val (.ref o1), .val (.int (0 : Int32))] [(.ref o1), (.double y0_0), (.int (0 : Int32)), (.ref w_direct_o0)])) rfl rfl (hb hby d4_19)
  obtain ⟨cl6, Ar6, -, S6, -, Ha6, -⟩ := id V_w_direct_o1
  have in6 : ¬ ((0 : Int32) < 0 ∨ cl6.slots.size ≤ ((0 : Int32)).toNatClampNeg) := inb_of S6 ⟨by decide, by decide⟩
  obtain ⟨cl7, Ar7, q7, S7, Nn7, Ha7, G7⟩ := id V_w_direct_o0
  have in7 : ¬ ((0 : Int32) < 0 ∨ cl7.slots.size ≤ ((0 : Int32)).toNatClampNeg) := inb_of S7 ⟨by decide, by decide⟩
  obtain ⟨T8, h8, X8, e8, W8, st8⟩ := stD X5 hx hZ e5 Ar7 (j := (0 : Int32)) in7 (g := (mkF m 25 #[.val (.ref o0), .val (.ref o1), .val (.int (0 : Int32))] [(.double z24), (.int (0 : Int32)), (.ref w_direct_o0)])) rfl rfl (hb hby d4_25)
  have N8 := Fr.snoc X8 N0 g_w_direct_o0
  have K9 : Keep h0 h8 [w_direct_o0, w_diffuse_o0, w_potential_o0, w_trunk_o0] := (Keep.refl h0 [w_direct_o0, w_diffuse_o0, w_potential_o0, w_trunk_o0]).wr W8 (Or.inl (by simp))
  have V8 : Arv Z h8 w_direct_o0 k_w_direct_o0 .double (1 : Int32) [(.double z24)] (.double (0 : UInt64)) := Arv.set Ar7 q7 S7 Nn7 Ha7 G7 rfl W8 0 rfl (show (0 : Nat) < 1 by decide)
  have f10 := (F_diffuse_o0.other W8 (Or.inl ne_o0_w_direct_o0))
  obtain ⟨T11, X11, e11, st11⟩ := getF X8 hx hZ hown (host := "") (Or.inl (hw _ (List.mem_of_getElem? (i := 12) rfl))) Via.refl e8 f10 (g := (mkF m 27 #[.val (.ref o0), .val (.ref o1), .val (.int (0 : Int32))] [(.ref o0)])) rfl rfl (hb hby d4_27)
  have f12 := (V_w_diffuse_o0.other W8 (Ne.symm ne_w_direct_o0_w_diffuse_o0))
  obtain ⟨cl13, Ar13, -, S13, -, Ha13, -⟩ := id f12
  have in13 : ¬ ((0 : Int32) < 0 ∨ cl13.slots.size ≤ ((0 : Int32)).toNatClampNeg) := inb_of S13 ⟨by decide, by decide⟩
  have f14 := (F_diffuse_o1.other W8 (Or.inl ne_o1_w_direct_o0))
  obtain ⟨T15, X15, e15, st15⟩ := getF X11 hx hZ hown (host := "") (Or.inl (hw _ (List.mem_of_getElem? (i := 12) rfl))) Via.refl e11 f14 (g := (mkF m 34 #[.val (.ref o0), .val (.ref o1), .val (.int (0 : Int32))] [(.ref o1), (.double y1_0), (.int (0 : Int32)), (.ref w_diffuse_o0)])) rfl rfl (hb hby d4_34)
  have f16 := (V_w_diffuse_o1.other W8 (Ne.symm ne_w_direct_o0_w_diffuse_o1))
  obtain ⟨cl17, Ar17, -, S17, -, Ha17, -⟩ := id f16
  have in17 : ¬ ((0 : Int32) < 0 ∨ cl17.slots.size ≤ ((0 : Int32)).toNatClampNeg) := inb_of S17 ⟨by decide, by decide⟩
  obtain ⟨cl18, Ar18, q18, S18, Nn18, Ha18, G18⟩ := id f12
  have in18 : ¬ ((0 : Int32) < 0 ∨ cl18.slots.size ≤ ((0 : Int32)).toNatClampNeg) := inb_of S18 ⟨by decide, by decide⟩
  obtain ⟨T19, h19, X19, e19, W19, st19⟩ := stD X15 hx hZ e15 Ar18 (j := (0 : Int32)) in18 (g := (mkF m 40 #[.val (.ref o0), .val (.ref o1), .val (.int (0 : Int32))] [(.double z39), (.int (0 : Int32)), (.ref w_diffuse_o0)])) rfl rfl (hb hby d4_40)
  have N19 := Fr.snoc X19 N8 g_w_diffuse_o0
  have K20 : Keep h0 h19 [w_direct_o0, w_diffuse_o0, w_potential_o0, w_trunk_o0] := K9.wr W19 (Or.inl (by simp))
  have V19 : Arv Z h19 w_diffuse_o0 k_w_diffuse_o0 .double (1 : Int32) [(.double z39)] (.double (0 : UInt64)) := Arv.set Ar18 q18 S18 Nn18 Ha18 G18 rfl W19 0 rfl (show (0 : Nat) < 1 by decide)
  have f21 := ((F_potential_o0.other W8 (Or.inl ne_o0_w_direct_o0)).other W19 (Or.inl ne_o0_w_diffuse_o0))
  obtain ⟨T22, X22, e22, st22⟩ := getF X19 hx hZ hown (host := "") (Or.inl (hw _ (List.mem_of_getElem? (i := 14) rfl))) Via.refl e19 f21 (g := (mkF m 42 #[.val (.ref o0), .val (.ref o1), .val (.int (0 : Int32))] [(.ref o0)])) rfl rfl (hb hby d4_42)
  have f23 := ((V_w_potential_o0.other W8 (Ne.symm ne_w_direct_o0_w_potential_o0)).other W19 (Ne.symm ne_w_diffuse_o0_w_potential_o0))
  obtain ⟨cl24, Ar24, -, S24, -, Ha24, -⟩ := id f23
  have in24 : ¬ ((0 : Int32) < 0 ∨ cl24.slots.size ≤ ((0 : Int32)).toNatClampNeg) := inb_of S24 ⟨by decide, by decide⟩
  have f25 := ((F_potential_o1.other W8 (Or.inl ne_o1_w_direct_o0)).other W19 (Or.inl ne_o1_w_diffuse_o0))
  obtain ⟨T26, X26, e26, st26⟩ := getF X22 hx hZ hown (host := "") (Or.inl (hw _ (List.mem_of_getElem? (i := 14) rfl))) Via.refl e22 f25 (g := (mkF m 49 #[.val (.ref o0), .val (.ref o1), .val (.int (0 : Int32))] [(.ref o1), (.double y2_0), (.int (0 : Int32)), (.ref w_potential_o0)])) rfl rfl (hb hby d4_49)
  have f27 := ((V_w_potential_o1.other W8 (Ne.symm ne_w_direct_o0_w_potential_o1)).other W19 (Ne.symm ne_w_diffuse_o0_w_potential_o1))
  obtain ⟨cl28, Ar28, -, S28, -, Ha28, -⟩ := id f27
  have in28 : ¬ ((0 : Int32) < 0 ∨ cl28.slots.size ≤ ((0 : Int32)).toNatClampNeg) := inb_of S28 ⟨by decide, by decide⟩
  obtain ⟨cl29, Ar29, q29, S29, Nn29, Ha29, G29⟩ := id f23
  have in29 : ¬ ((0 : Int32) < 0 ∨ cl29.slots.size ≤ ((0 : Int32)).toNatClampNeg) := inb_of S29 ⟨by decide, by decide⟩
  obtain ⟨T30, h30, X30, e30, W30, st30⟩ := stD X26 hx hZ e26 Ar29 (j := (0 : Int32)) in29 (g := (mkF m 55 #[.val (.ref o0), .val (.ref o1), .val (.int (0 : Int32))] [(.double z54), (.int (0 : Int32)), (.ref w_potential_o0)])) rfl rfl (hb hby d4_55)
  have N30 := Fr.snoc X30 N19 g_w_potential_o0
  have K31 : Keep h0 h30 [w_direct_o0, w_diffuse_o0, w_potential_o0, w_trunk_o0] := K20.wr W30 (Or.inl (by simp))
  have V30 : Arv Z h30 w_potential_o0 k_w_potential_o0 .double (1 : Int32) [(.double z54)] (.double (0 : UInt64)) := Arv.set Ar29 q29 S29 Nn29 Ha29 G29 rfl W30 0 rfl (show (0 : Nat) < 1 by decide)
  have f32 := (((F_trunk_o0.other W8 (Or.inl ne_o0_w_direct_o0)).other W19 (Or.inl ne_o0_w_diffuse_o0)).other W30 (Or.inl ne_o0_w_potential_o0))
  obtain ⟨T33, X33, e33, st33⟩ := getF X30 hx hZ hown (host := "") (Or.inl (hw _ (List.mem_of_getElem? (i := 16) rfl))) Via.refl e30 f32 (g := (mkF m 57 #[.val (.ref o0), .val (.ref o1), .val (.int (0 : Int32))] [(.ref o0)])) rfl rfl (hb hby d4_57)
  have f34 := (((V_w_trunk_o0.other W8 (Ne.symm ne_w_direct_o0_w_trunk_o0)).other W19 (Ne.symm ne_w_diffuse_o0_w_trunk_o0)).other W30 (Ne.symm ne_w_potential_o0_w_trunk_o0))
  obtain ⟨cl35, Ar35, -, S35, -, Ha35, -⟩ := id f34
  have in35 : ¬ ((0 : Int32) < 0 ∨ cl35.slots.size ≤ ((0 : Int32)).toNatClampNeg) := inb_of S35 ⟨by decide, by decide⟩
  have f36 := (((F_trunk_o1.other W8 (Or.inl ne_o1_w_direct_o0)).other W19 (Or.inl ne_o1_w_diffuse_o0)).other W30 (Or.inl ne_o1_w_potential_o0))
  obtain ⟨T37, X37, e37, st37⟩ := getF X33 hx hZ hown (host := "") (Or.inl (hw _ (List.mem_of_getElem? (i := 16) rfl))) Via.refl e33 f36 (g := (mkF m 64 #[.val (.ref o0), .val (.ref o1), .val (.int (0 : Int32))] [(.ref o1), (.double y3_0), (.int (0 : Int32)), (.ref w_trunk_o0)])) rfl rfl (hb hby d4_64)
  have f38 := (((V_w_trunk_o1.other W8 (Ne.symm ne_w_direct_o0_w_trunk_o1)).other W19 (Ne.symm ne_w_diffuse_o0_w_trunk_o1)).other W30 (Ne.symm ne_w_potential_o0_w_trunk_o1))
  obtain ⟨cl39, Ar39, -, S39, -, Ha39, -⟩ := id f38
  have in39 : ¬ ((0 : Int32) < 0 ∨ cl39.slots.size ≤ ((0 : Int32)).toNatClampNeg) := inb_of S39 ⟨by decide, by decide⟩
  obtain ⟨cl40, Ar40, q40, S40, Nn40, Ha40, G40⟩ := id f34
  have in40 : ¬ ((0 : Int32) < 0 ∨ cl40.slots.size ≤ ((0 : Int32)).toNatClampNeg) := inb_of S40 ⟨by decide, by decide⟩
  obtain ⟨T41, h41, X41, e41, W41, st41⟩ := stD X37 hx hZ e37 Ar40 (j := (0 : Int32)) in40 (g := (mkF m 70 #[.val (.ref o0), .val (.ref o1), .val (.int (0 : Int32))] [(.double z69), (.int (0 : Int32)), (.ref w_trunk_o0)])) rfl rfl (hb hby d4_70)
  have N41 := Fr.snoc X41 N30 g_w_trunk_o0
  have K42 : Keep h0 h41 [w_direct_o0, w_diffuse_o0, w_potential_o0, w_trunk_o0] := K31.wr W41 (Or.inl (by simp))
  have V41 : Arv Z h41 w_trunk_o0 k_w_trunk_o0 .double (1 : Int32) [(.double z69)] (.double (0 : UInt64)) := Arv.set Ar40 q40 S40 Nn40 Ha40 G40 rfl W41 0 rfl (show (0 : Nat) < 1 by decide)
  have f43 := ((((F_direct_o0.other W8 (Or.inl ne_o0_w_direct_o0)).other W19 (Or.inl ne_o0_w_diffuse_o0)).other W30 (Or.inl ne_o0_w_potential_o0)).other W41 (Or.inl ne_o0_w_trunk_o0))
  obtain ⟨T44, X44, e44, st44⟩ := getF X41 hx hZ hown (host := "") (Or.inl (hw _ (List.mem_of_getElem? (i := 10) rfl))) Via.refl e41 f43 (g := (mkF m 4 #[.val (.ref o0), .val (.ref o1), .val (.int (1 : Int32))] [(.ref o0), (.int (1 : Int32))])) rfl rfl (hb hby d4_4)
  have f45 := (((V8.other W19 ne_w_direct_o0_w_diffuse_o0).other W30 ne_w_direct_o0_w_potential_o0).other W41 ne_w_direct_o0_w_trunk_o0)
  obtain ⟨cl46, Ar46, -, S46, Nn46, -, -⟩ := id f45
  have c47 : ∀ t, Steps p.tables e below (T44.setTop (mkF m 77 #[.val (.ref o0), .val (.ref o1), .val (.int (1 : Int32))] [])) t → Steps p.tables e below (s₁.setTop (entryFrame m #[(.ref o0), (.ref o1)] 3)) t := by
    intro t k
    refine c0 t ?_
    show Steps p.tables e below (s₁.setTop (mkF m 0 #[.val (.ref o0), .val (.ref o1), .unset] [])) _
    refine XS.iconst X0.here hx rfl (hb hby d4_0) ?_
    show Steps p.tables e below (s₁.setTop (mkF m 1 #[.val (.ref o0), .val (.ref o1), .unset] [(.int (0 : Int32))])) _
    refine XS.istoreN X0.here hx rfl (hb hby d4_1) rfl (l' := #[.val (.ref o0), .val (.ref o1), .val (.int (0 : Int32))]) rfl ?_
    show Steps p.tables e below (s₁.setTop (mkF m 2 #[.val (.ref o0), .val (.ref o1), .val (.int (0 : Int32))] [])) _
    refine XS.iloadN X0.here hx rfl (hb hby d4_2) rfl ?_
    show Steps p.tables e below (s₁.setTop (mkF m 3 #[.val (.ref o0), .val (.ref o1), .val (.int (0 : Int32))] [(.int (0 : Int32))])) _
    refine XS.aloadN X0.here hx rfl (hb hby d4_3) rfl rfl ?_
    show Steps p.tables e below (s₁.setTop (mkF m 4 #[.val (.ref o0), .val (.ref o1), .val (.int (0 : Int32))] [(.ref o0), (.int (0 : Int32))])) _
    refine st1 _ ?_
    show Steps p.tables e below (T1.setTop (mkF m 7 #[.val (.ref o0), .val (.ref o1), .val (.int (0 : Int32))] [(.ref w_direct_o0), (.int (0 : Int32))])) _
    refine X1.arraylength hx (by rw [e1]; exact Ar2.1) (State.isArrayOf_alike hZ.alike Ar2.2.1) (g := (mkF m 7 #[.val (.ref o0), .val (.ref o1), .val (.int (0 : Int32))] [(.ref w_direct_o0), (.int (0 : Int32))])) rfl rfl (hb hby d4_7) _ ?_
    rw [len_of S2 Nn2]
    show Steps p.tables e below (T1.setTop (mkF m 8 #[.val (.ref o0), .val (.ref o1), .val (.int (0 : Int32))] [(.int (1 : Int32)), (.int (0 : Int32))])) _
    refine XS.icmpNo X1.here hx rfl (hb hby d4_8) rfl (Jvm.Free.XT.ii_ge_f (by decide)) ?_
    show Steps p.tables e below (T1.setTop (mkF m 11 #[.val (.ref o0), .val (.ref o1), .val (.int (0 : Int32))] [])) _
    refine XS.aloadN X1.here hx rfl (hb hby d4_11) rfl rfl ?_
    show Steps p.tables e below (T1.setTop (mkF m 12 #[.val (.ref o0), .val (.ref o1), .val (.int (0 : Int32))] [(.ref o0)])) _
    refine st3 _ ?_
    show Steps p.tables e below (T3.setTop (mkF m 15 #[.val (.ref o0), .val (.ref o1), .val (.int (0 : Int32))] [(.ref w_direct_o0)])) _
    refine XS.iloadN X3.here hx rfl (hb hby d4_15) rfl ?_
    show Steps p.tables e below (T3.setTop (mkF m 16 #[.val (.ref o0), .val (.ref o1), .val (.int (0 : Int32))] [(.int (0 : Int32)), (.ref w_direct_o0)])) _
    refine Jvm.OwnK.dup2 X3.here hx rfl (hb hby d4_16) rfl rfl rfl ?_
    show Steps p.tables e below (T3.setTop (mkF m 17 #[.val (.ref o0), .val (.ref o1), .val (.int (0 : Int32))] [(.int (0 : Int32)), (.ref w_direct_o0), (.int (0 : Int32)), (.ref w_direct_o0)])) _
    refine X3.daload hx (j := (0 : Int32)) (v := (.double y0_0)) (by rw [e3]; exact Ar4.1) (State.isArrayOf_alike hZ.alike Ar4.2.1) Ar4.2.2 in4 (Has.at Ha4 in4 rfl) (g := (mkF m 17 #[.val (.ref o0), .val (.ref o1), .val (.int (0 : Int32))] [(.int (0 : Int32)), (.ref w_direct_o0), (.int (0 : Int32)), (.ref w_direct_o0)])) rfl rfl (hb hby d4_17) _ ?_
    show Steps p.tables e below (T3.setTop (mkF m 18 #[.val (.ref o0), .val (.ref o1), .val (.int (0 : Int32))] [(.double y0_0), (.int (0 : Int32)), (.ref w_direct_o0)])) _
    refine XS.aloadN X3.here hx rfl (hb hby d4_18) rfl rfl ?_
    show Steps p.tables e below (T3.setTop (mkF m 19 #[.val (.ref o0), .val (.ref o1), .val (.int (0 : Int32))] [(.ref o1), (.double y0_0), (.int (0 : Int32)), (.ref w_direct_o0)])) _
    refine st5 _ ?_
    show Steps p.tables e below (T5.setTop (mkF m 22 #[.val (.ref o0), .val (.ref o1), .val (.int (0 : Int32))] [(.ref w_direct_o1), (.double y0_0), (.int (0 : Int32)), (.ref w_direct_o0)])) _
    refine XS.iloadN X5.here hx rfl (hb hby d4_22) rfl ?_
    show Steps p.tables e below (T5.setTop (mkF m 23 #[.val (.ref o0), .val (.ref o1), .val (.int (0 : Int32))] [(.int (0 : Int32)), (.ref w_direct_o1), (.double y0_0), (.int (0 : Int32)), (.ref w_direct_o0)])) _
    refine X5.daload hx (j := (0 : Int32)) (v := (.double x0_0)) (by rw [e5]; exact Ar6.1) (State.isArrayOf_alike hZ.alike Ar6.2.1) Ar6.2.2 in6 (Has.at Ha6 in6 rfl) (g := (mkF m 23 #[.val (.ref o0), .val (.ref o1), .val (.int (0 : Int32))] [(.int (0 : Int32)), (.ref w_direct_o1), (.double y0_0), (.int (0 : Int32)), (.ref w_direct_o0)])) rfl rfl (hb hby d4_23) _ ?_
    show Steps p.tables e below (T5.setTop (mkF m 24 #[.val (.ref o0), .val (.ref o1), .val (.int (0 : Int32))] [(.double x0_0), (.double y0_0), (.int (0 : Int32)), (.ref w_direct_o0)])) _
    refine Jvm.OwnK.dadd X5.here hx rfl (hb hby d4_24) rfl hz24 nn24 ?_
    show Steps p.tables e below (T5.setTop (mkF m 25 #[.val (.ref o0), .val (.ref o1), .val (.int (0 : Int32))] [(.double z24), (.int (0 : Int32)), (.ref w_direct_o0)])) _
    refine st8 _ ?_
    show Steps p.tables e below (T8.setTop (mkF m 26 #[.val (.ref o0), .val (.ref o1), .val (.int (0 : Int32))] [])) _
    refine XS.aloadN X8.here hx rfl (hb hby d4_26) rfl rfl ?_
    show Steps p.tables e below (T8.setTop (mkF m 27 #[.val (.ref o0), .val (.ref o1), .val (.int (0 : Int32))] [(.ref o0)])) _
    refine st11 _ ?_
    show Steps p.tables e below (T11.setTop (mkF m 30 #[.val (.ref o0), .val (.ref o1), .val (.int (0 : Int32))] [(.ref w_diffuse_o0)])) _
    refine XS.iloadN X11.here hx rfl (hb hby d4_30) rfl ?_
    show Steps p.tables e below (T11.setTop (mkF m 31 #[.val (.ref o0), .val (.ref o1), .val (.int (0 : Int32))] [(.int (0 : Int32)), (.ref w_diffuse_o0)])) _
    refine Jvm.OwnK.dup2 X11.here hx rfl (hb hby d4_31) rfl rfl rfl ?_
    show Steps p.tables e below (T11.setTop (mkF m 32 #[.val (.ref o0), .val (.ref o1), .val (.int (0 : Int32))] [(.int (0 : Int32)), (.ref w_diffuse_o0), (.int (0 : Int32)), (.ref w_diffuse_o0)])) _
    refine X11.daload hx (j := (0 : Int32)) (v := (.double y1_0)) (by rw [e11]; exact Ar13.1) (State.isArrayOf_alike hZ.alike Ar13.2.1) Ar13.2.2 in13 (Has.at Ha13 in13 rfl) (g := (mkF m 32 #[.val (.ref o0), .val (.ref o1), .val (.int (0 : Int32))] [(.int (0 : Int32)), (.ref w_diffuse_o0), (.int (0 : Int32)), (.ref w_diffuse_o0)])) rfl rfl (hb hby d4_32) _ ?_
    show Steps p.tables e below (T11.setTop (mkF m 33 #[.val (.ref o0), .val (.ref o1), .val (.int (0 : Int32))] [(.double y1_0), (.int (0 : Int32)), (.ref w_diffuse_o0)])) _
    refine XS.aloadN X11.here hx rfl (hb hby d4_33) rfl rfl ?_
    show Steps p.tables e below (T11.setTop (mkF m 34 #[.val (.ref o0), .val (.ref o1), .val (.int (0 : Int32))] [(.ref o1), (.double y1_0), (.int (0 : Int32)), (.ref w_diffuse_o0)])) _
    refine st15 _ ?_
    show Steps p.tables e below (T15.setTop (mkF m 37 #[.val (.ref o0), .val (.ref o1), .val (.int (0 : Int32))] [(.ref w_diffuse_o1), (.double y1_0), (.int (0 : Int32)), (.ref w_diffuse_o0)])) _
    refine XS.iloadN X15.here hx rfl (hb hby d4_37) rfl ?_
    show Steps p.tables e below (T15.setTop (mkF m 38 #[.val (.ref o0), .val (.ref o1), .val (.int (0 : Int32))] [(.int (0 : Int32)), (.ref w_diffuse_o1), (.double y1_0), (.int (0 : Int32)), (.ref w_diffuse_o0)])) _
    refine X15.daload hx (j := (0 : Int32)) (v := (.double x1_0)) (by rw [e15]; exact Ar17.1) (State.isArrayOf_alike hZ.alike Ar17.2.1) Ar17.2.2 in17 (Has.at Ha17 in17 rfl) (g := (mkF m 38 #[.val (.ref o0), .val (.ref o1), .val (.int (0 : Int32))] [(.int (0 : Int32)), (.ref w_diffuse_o1), (.double y1_0), (.int (0 : Int32)), (.ref w_diffuse_o0)])) rfl rfl (hb hby d4_38) _ ?_
    show Steps p.tables e below (T15.setTop (mkF m 39 #[.val (.ref o0), .val (.ref o1), .val (.int (0 : Int32))] [(.double x1_0), (.double y1_0), (.int (0 : Int32)), (.ref w_diffuse_o0)])) _
    refine Jvm.OwnK.dadd X15.here hx rfl (hb hby d4_39) rfl hz39 nn39 ?_
    show Steps p.tables e below (T15.setTop (mkF m 40 #[.val (.ref o0), .val (.ref o1), .val (.int (0 : Int32))] [(.double z39), (.int (0 : Int32)), (.ref w_diffuse_o0)])) _
    refine st19 _ ?_
    show Steps p.tables e below (T19.setTop (mkF m 41 #[.val (.ref o0), .val (.ref o1), .val (.int (0 : Int32))] [])) _
    refine XS.aloadN X19.here hx rfl (hb hby d4_41) rfl rfl ?_
    show Steps p.tables e below (T19.setTop (mkF m 42 #[.val (.ref o0), .val (.ref o1), .val (.int (0 : Int32))] [(.ref o0)])) _
    refine st22 _ ?_
    show Steps p.tables e below (T22.setTop (mkF m 45 #[.val (.ref o0), .val (.ref o1), .val (.int (0 : Int32))] [(.ref w_potential_o0)])) _
    refine XS.iloadN X22.here hx rfl (hb hby d4_45) rfl ?_
    show Steps p.tables e below (T22.setTop (mkF m 46 #[.val (.ref o0), .val (.ref o1), .val (.int (0 : Int32))] [(.int (0 : Int32)), (.ref w_potential_o0)])) _
    refine Jvm.OwnK.dup2 X22.here hx rfl (hb hby d4_46) rfl rfl rfl ?_
    show Steps p.tables e below (T22.setTop (mkF m 47 #[.val (.ref o0), .val (.ref o1), .val (.int (0 : Int32))] [(.int (0 : Int32)), (.ref w_potential_o0), (.int (0 : Int32)), (.ref w_potential_o0)])) _
    refine X22.daload hx (j := (0 : Int32)) (v := (.double y2_0)) (by rw [e22]; exact Ar24.1) (State.isArrayOf_alike hZ.alike Ar24.2.1) Ar24.2.2 in24 (Has.at Ha24 in24 rfl) (g := (mkF m 47 #[.val (.ref o0), .val (.ref o1), .val (.int (0 : Int32))] [(.int (0 : Int32)), (.ref w_potential_o0), (.int (0 : Int32)), (.ref w_potential_o0)])) rfl rfl (hb hby d4_47) _ ?_
    show Steps p.tables e below (T22.setTop (mkF m 48 #[.val (.ref o0), .val (.ref o1), .val (.int (0 : Int32))] [(.double y2_0), (.int (0 : Int32)), (.ref w_potential_o0)])) _
    refine XS.aloadN X22.here hx rfl (hb hby d4_48) rfl rfl ?_
    show Steps p.tables e below (T22.setTop (mkF m 49 #[.val (.ref o0), .val (.ref o1), .val (.int (0 : Int32))] [(.ref o1), (.double y2_0), (.int (0 : Int32)), (.ref w_potential_o0)])) _
    refine st26 _ ?_
    show Steps p.tables e below (T26.setTop (mkF m 52 #[.val (.ref o0), .val (.ref o1), .val (.int (0 : Int32))] [(.ref w_potential_o1), (.double y2_0), (.int (0 : Int32)), (.ref w_potential_o0)])) _
    refine XS.iloadN X26.here hx rfl (hb hby d4_52) rfl ?_
    show Steps p.tables e below (T26.setTop (mkF m 53 #[.val (.ref o0), .val (.ref o1), .val (.int (0 : Int32))] [(.int (0 : Int32)), (.ref w_potential_o1), (.double y2_0), (.int (0 : Int32)), (.ref w_potential_o0)])) _
    refine X26.daload hx (j := (0 : Int32)) (v := (.double x2_0)) (by rw [e26]; exact Ar28.1) (State.isArrayOf_alike hZ.alike Ar28.2.1) Ar28.2.2 in28 (Has.at Ha28 in28 rfl) (g := (mkF m 53 #[.val (.ref o0), .val (.ref o1), .val (.int (0 : Int32))] [(.int (0 : Int32)), (.ref w_potential_o1), (.double y2_0), (.int (0 : Int32)), (.ref w_potential_o0)])) rfl rfl (hb hby d4_53) _ ?_
    show Steps p.tables e below (T26.setTop (mkF m 54 #[.val (.ref o0), .val (.ref o1), .val (.int (0 : Int32))] [(.double x2_0), (.double y2_0), (.int (0 : Int32)), (.ref w_potential_o0)])) _
    refine Jvm.OwnK.dadd X26.here hx rfl (hb hby d4_54) rfl hz54 nn54 ?_
    show Steps p.tables e below (T26.setTop (mkF m 55 #[.val (.ref o0), .val (.ref o1), .val (.int (0 : Int32))] [(.double z54), (.int (0 : Int32)), (.ref w_potential_o0)])) _
    refine st30 _ ?_
    show Steps p.tables e below (T30.setTop (mkF m 56 #[.val (.ref o0), .val (.ref o1), .val (.int (0 : Int32))] [])) _
    refine XS.aloadN X30.here hx rfl (hb hby d4_56) rfl rfl ?_
    show Steps p.tables e below (T30.setTop (mkF m 57 #[.val (.ref o0), .val (.ref o1), .val (.int (0 : Int32))] [(.ref o0)])) _
    refine st33 _ ?_
    show Steps p.tables e below (T33.setTop (mkF m 60 #[.val (.ref o0), .val (.ref o1), .val (.int (0 : Int32))] [(.ref w_trunk_o0)])) _
    refine XS.iloadN X33.here hx rfl (hb hby d4_60) rfl ?_
    show Steps p.tables e below (T33.setTop (mkF m 61 #[.val (.ref o0), .val (.ref o1), .val (.int (0 : Int32))] [(.int (0 : Int32)), (.ref w_trunk_o0)])) _
    refine Jvm.OwnK.dup2 X33.here hx rfl (hb hby d4_61) rfl rfl rfl ?_
    show Steps p.tables e below (T33.setTop (mkF m 62 #[.val (.ref o0), .val (.ref o1), .val (.int (0 : Int32))] [(.int (0 : Int32)), (.ref w_trunk_o0), (.int (0 : Int32)), (.ref w_trunk_o0)])) _
    refine X33.daload hx (j := (0 : Int32)) (v := (.double y3_0)) (by rw [e33]; exact Ar35.1) (State.isArrayOf_alike hZ.alike Ar35.2.1) Ar35.2.2 in35 (Has.at Ha35 in35 rfl) (g := (mkF m 62 #[.val (.ref o0), .val (.ref o1), .val (.int (0 : Int32))] [(.int (0 : Int32)), (.ref w_trunk_o0), (.int (0 : Int32)), (.ref w_trunk_o0)])) rfl rfl (hb hby d4_62) _ ?_
    show Steps p.tables e below (T33.setTop (mkF m 63 #[.val (.ref o0), .val (.ref o1), .val (.int (0 : Int32))] [(.double y3_0), (.int (0 : Int32)), (.ref w_trunk_o0)])) _
    refine XS.aloadN X33.here hx rfl (hb hby d4_63) rfl rfl ?_
    show Steps p.tables e below (T33.setTop (mkF m 64 #[.val (.ref o0), .val (.ref o1), .val (.int (0 : Int32))] [(.ref o1), (.double y3_0), (.int (0 : Int32)), (.ref w_trunk_o0)])) _
    refine st37 _ ?_
    show Steps p.tables e below (T37.setTop (mkF m 67 #[.val (.ref o0), .val (.ref o1), .val (.int (0 : Int32))] [(.ref w_trunk_o1), (.double y3_0), (.int (0 : Int32)), (.ref w_trunk_o0)])) _
    refine XS.iloadN X37.here hx rfl (hb hby d4_67) rfl ?_
    show Steps p.tables e below (T37.setTop (mkF m 68 #[.val (.ref o0), .val (.ref o1), .val (.int (0 : Int32))] [(.int (0 : Int32)), (.ref w_trunk_o1), (.double y3_0), (.int (0 : Int32)), (.ref w_trunk_o0)])) _
    refine X37.daload hx (j := (0 : Int32)) (v := (.double x3_0)) (by rw [e37]; exact Ar39.1) (State.isArrayOf_alike hZ.alike Ar39.2.1) Ar39.2.2 in39 (Has.at Ha39 in39 rfl) (g := (mkF m 68 #[.val (.ref o0), .val (.ref o1), .val (.int (0 : Int32))] [(.int (0 : Int32)), (.ref w_trunk_o1), (.double y3_0), (.int (0 : Int32)), (.ref w_trunk_o0)])) rfl rfl (hb hby d4_68) _ ?_
    show Steps p.tables e below (T37.setTop (mkF m 69 #[.val (.ref o0), .val (.ref o1), .val (.int (0 : Int32))] [(.double x3_0), (.double y3_0), (.int (0 : Int32)), (.ref w_trunk_o0)])) _
    refine Jvm.OwnK.dadd X37.here hx rfl (hb hby d4_69) rfl hz69 nn69 ?_
    show Steps p.tables e below (T37.setTop (mkF m 70 #[.val (.ref o0), .val (.ref o1), .val (.int (0 : Int32))] [(.double z69), (.int (0 : Int32)), (.ref w_trunk_o0)])) _
    refine st41 _ ?_
    show Steps p.tables e below (T41.setTop (mkF m 71 #[.val (.ref o0), .val (.ref o1), .val (.int (0 : Int32))] [])) _
    refine Jvm.OwnK.iinc X41.here hx rfl (hb hby d4_71) rfl (l' := #[.val (.ref o0), .val (.ref o1), .val (.int (1 : Int32))]) (v := (1 : Int32)) (by decide) rfl ?_
    show Steps p.tables e below (T41.setTop (mkF m 74 #[.val (.ref o0), .val (.ref o1), .val (.int (1 : Int32))] [])) _
    refine XS.goto X41.here hx rfl (pc0 := 74) (pc' := 2) rfl (hb hby d4_74) (by decide) (by decide) ?_
    show Steps p.tables e below (T41.setTop (mkF m 2 #[.val (.ref o0), .val (.ref o1), .val (.int (1 : Int32))] [])) _
    refine XS.iloadN X41.here hx rfl (hb hby d4_2) rfl ?_
    show Steps p.tables e below (T41.setTop (mkF m 3 #[.val (.ref o0), .val (.ref o1), .val (.int (1 : Int32))] [(.int (1 : Int32))])) _
    refine XS.aloadN X41.here hx rfl (hb hby d4_3) rfl rfl ?_
    show Steps p.tables e below (T41.setTop (mkF m 4 #[.val (.ref o0), .val (.ref o1), .val (.int (1 : Int32))] [(.ref o0), (.int (1 : Int32))])) _
    refine st44 _ ?_
    show Steps p.tables e below (T44.setTop (mkF m 7 #[.val (.ref o0), .val (.ref o1), .val (.int (1 : Int32))] [(.ref w_direct_o0), (.int (1 : Int32))])) _
    refine X44.arraylength hx (by rw [e44]; exact Ar46.1) (State.isArrayOf_alike hZ.alike Ar46.2.1) (g := (mkF m 7 #[.val (.ref o0), .val (.ref o1), .val (.int (1 : Int32))] [(.ref w_direct_o0), (.int (1 : Int32))])) rfl rfl (hb hby d4_7) _ ?_
    rw [len_of S46 Nn46]
    show Steps p.tables e below (T44.setTop (mkF m 8 #[.val (.ref o0), .val (.ref o1), .val (.int (1 : Int32))] [(.int (1 : Int32)), (.int (1 : Int32))])) _
    refine XS.icmpYes X44.here hx rfl (pc0 := 8) (pc' := 77) rfl (hb hby d4_8) rfl (Jvm.Free.XT.ii_ge_t (by decide)) (by decide) (by decide) ?_
    exact k
  obtain ⟨fs, hr, hrun, hended, hW, hsame⟩ := X44.leave (v := none) (fun _ => rfl)
  refine ⟨_, _, c47 _ ?_, hrun, hended, _, _, rfl, ?_, ⟨_, rfl⟩, hW, hsame.mono (by decide) (by decide)⟩
  · show Steps p.tables e below (T44.setTop (mkF m 77 #[.val (.ref o0), .val (.ref o1), .val (.int (1 : Int32))] [])) _
    exact X44.returnOut hx Bd.returns (hb hby d4_77) hr
  · show Q4_1 Z o0 o1 k_w_direct_o0 y0_0 k_w_direct_o1 x0_0 k_w_diffuse_o0 y1_0 k_w_diffuse_o1 x1_0 k_w_potential_o0 y2_0 k_w_potential_o1 x2_0 k_w_trunk_o0 y3_0 k_w_trunk_o1 x3_0 w_direct_o0 w_direct_o1 w_diffuse_o0 w_diffuse_o1 w_potential_o0 w_potential_o1 w_trunk_o0 w_trunk_o1 z24 z39 z54 z69 h0 n0 _ T44.heap _
    rw [e44]
    exact ⟨rfl, N41, K42, f45, ((V19.other W30 ne_w_diffuse_o0_w_potential_o0).other W41 ne_w_diffuse_o0_w_trunk_o0), (V30.other W41 ne_w_potential_o0_w_trunk_o0), V41⟩
def Q4_2 (Z : State) (o0 : Addr) (o1 : Addr) (k_w_direct_o0 : ClassId) (y0_0 : UInt64) (y0_1 : UInt64) (k_w_direct_o1 : ClassId) (x0_0 : UInt64) (x0_1 : UInt64) (k_w_diffuse_o0 : ClassId) (y1_0 : UInt64) (y1_1 : UInt64) (k_w_diffuse_o1 : ClassId) (x1_0 : UInt64) (x1_1 : UInt64) (k_w_potential_o0 : ClassId) (y2_0 : UInt64) (y2_1 : UInt64) (k_w_potential_o1 : ClassId) (x2_0 : UInt64) (x2_1 : UInt64) (k_w_trunk_o0 : ClassId) (y3_0 : UInt64) (y3_1 : UInt64) (k_w_trunk_o1 : ClassId) (x3_0 : UInt64) (x3_1 : UInt64) (w_direct_o0 : Addr) (w_direct_o1 : Addr) (w_diffuse_o0 : Addr) (w_diffuse_o1 : Addr) (w_potential_o0 : Addr) (w_potential_o1 : Addr) (w_trunk_o0 : Addr) (w_trunk_o1 : Addr) (z24 : UInt64) (z39 : UInt64) (z54 : UInt64) (z69 : UInt64) (z24_2 : UInt64) (z39_2 : UInt64) (z54_2 : UInt64) (z69_2 : UInt64) (h0 : Heap) (n0 : Nat) (v : Option Value) (h : Heap) (L : List Loc) : Prop := v = none ∧ Fr n0 L ∧ Keep h0 h [w_direct_o0, w_diffuse_o0, w_potential_o0, w_trunk_o0] ∧ Arv Z h w_direct_o0 k_w_direct_o0 .double (2 : Int32) [(.double z24), (.double z24_2)] (.double (0 : UInt64)) ∧ Arv Z h w_diffuse_o0 k_w_diffuse_o0 .double (2 : Int32) [(.double z39), (.double z39_2)] (.double (0 : UInt64)) ∧ Arv Z h w_potential_o0 k_w_potential_o0 .double (2 : Int32) [(.double z54), (.double z54_2)] (.double (0 : UInt64)) ∧ Arv Z h w_trunk_o0 k_w_trunk_o0 .double (2 : Int32) [(.double z69), (.double z69_2)] (.double (0 : UInt64))
set_option maxRecDepth 65536 in
set_option maxHeartbeats 40000000 in
theorem rm4_2 (l : Launch) (Z : State) (a0 : Array Value) (hw : ∀ d ∈ tables_1, d.before a0 Z = true) (ws : List Jvm.Cond) (o0 : Addr) (o1 : Addr) (k_w_direct_o0 : ClassId) (y0_0 : UInt64) (y0_1 : UInt64) (k_w_direct_o1 : ClassId) (x0_0 : UInt64) (x0_1 : UInt64) (k_w_diffuse_o0 : ClassId) (y1_0 : UInt64) (y1_1 : UInt64) (k_w_diffuse_o1 : ClassId) (x1_0 : UInt64) (x1_1 : UInt64) (k_w_potential_o0 : ClassId) (y2_0 : UInt64) (y2_1 : UInt64) (k_w_potential_o1 : ClassId) (x2_0 : UInt64) (x2_1 : UInt64) (k_w_trunk_o0 : ClassId) (y3_0 : UInt64) (y3_1 : UInt64) (k_w_trunk_o1 : ClassId) (x3_0 : UInt64) (x3_1 : UInt64) (w_direct_o0 : Addr) (w_direct_o1 : Addr) (w_diffuse_o0 : Addr) (w_diffuse_o1 : Addr) (w_potential_o0 : Addr) (w_potential_o1 : Addr) (w_trunk_o0 : Addr) (w_trunk_o1 : Addr) (z24 : UInt64) (z39 : UInt64) (z54 : UInt64) (z69 : UInt64) (z24_2 : UInt64) (z39_2 : UInt64) (z54_2 : UInt64) (z69_2 : UInt64) (h0 : Heap) (n0 : Nat) (Z0 : n0 ≤ h0.size) (V_w_direct_o0 : Arv Z h0 w_direct_o0 k_w_direct_o0 .double (2 : Int32) [(.double y0_0), (.double y0_1)] (.double (0 : UInt64))) (V_w_direct_o1 : Arv Z h0 w_direct_o1 k_w_direct_o1 .double (2 : Int32) [(.double x0_0), (.double x0_1)] (.double (0 : UInt64))) (V_w_diffuse_o0 : Arv Z h0 w_diffuse_o0 k_w_diffuse_o0 .double (2 : Int32) [(.double y1_0), (.double y1_1)] (.double (0 : UInt64))) (V_w_diffuse_o1 : Arv Z h0 w_diffuse_o1 k_w_diffuse_o1 .double (2 : Int32) [(.double x1_0), (.double x1_1)] (.double (0 : UInt64))) (V_w_potential_o0 : Arv Z h0 w_potential_o0 k_w_potential_o0 .double (2 : Int32) [(.double y2_0), (.double y2_1)] (.double (0 : UInt64))) (V_w_potential_o1 : Arv Z h0 w_potential_o1 k_w_potential_o1 .double (2 : Int32) [(.double x2_0), (.double x2_1)] (.double (0 : UInt64))) (V_w_trunk_o0 : Arv Z h0 w_trunk_o0 k_w_trunk_o0 .double (2 : Int32) [(.double y3_0), (.double y3_1)] (.double (0 : UInt64))) (V_w_trunk_o1 : Arv Z h0 w_trunk_o1 k_w_trunk_o1 .double (2 : Int32) [(.double x3_0), (.double x3_1)] (.double (0 : UInt64))) (ne_o0_w_direct_o0 : o0 ≠ w_direct_o0) (ne_o1_w_direct_o0 : o1 ≠ w_direct_o0) (ne_o0_w_diffuse_o0 : o0 ≠ w_diffuse_o0) (ne_o1_w_diffuse_o0 : o1 ≠ w_diffuse_o0) (ne_o0_w_potential_o0 : o0 ≠ w_potential_o0) (ne_o1_w_potential_o0 : o1 ≠ w_potential_o0) (ne_o0_w_trunk_o0 : o0 ≠ w_trunk_o0) (ne_o1_w_trunk_o0 : o1 ≠ w_trunk_o0) (ne_w_direct_o0_w_diffuse_o0 : w_direct_o0 ≠ w_diffuse_o0) (ne_w_direct_o0_w_potential_o0 : w_direct_o0 ≠ w_potential_o0) (ne_w_direct_o0_w_trunk_o0 : w_direct_o0 ≠ w_trunk_o0) (ne_w_diffuse_o0_w_potential_o0 : w_diffuse_o0 ≠ w_potential_o0) (ne_w_diffuse_o0_w_trunk_o0 : w_diffuse_o0 ≠ w_trunk_o0) (ne_w_potential_o0_w_trunk_o0 : w_potential_o0 ≠ w_trunk_o0) (ne_w_direct_o0_w_direct_o1 : w_direct_o0 ≠ w_direct_o1) (ne_w_direct_o0_w_diffuse_o1 : w_direct_o0 ≠ w_diffuse_o1) (ne_w_direct_o0_w_potential_o1 : w_direct_o0 ≠ w_potential_o1) (ne_w_direct_o0_w_trunk_o1 : w_direct_o0 ≠ w_trunk_o1) (ne_w_diffuse_o0_w_direct_o1 : w_diffuse_o0 ≠ w_direct_o1) (ne_w_diffuse_o0_w_diffuse_o1 : w_diffuse_o0 ≠ w_diffuse_o1) (ne_w_diffuse_o0_w_potential_o1 : w_diffuse_o0 ≠ w_potential_o1) (ne_w_diffuse_o0_w_trunk_o1 : w_diffuse_o0 ≠ w_trunk_o1) (ne_w_potential_o0_w_direct_o1 : w_potential_o0 ≠ w_direct_o1) (ne_w_potential_o0_w_diffuse_o1 : w_potential_o0 ≠ w_diffuse_o1) (ne_w_potential_o0_w_potential_o1 : w_potential_o0 ≠ w_potential_o1) (ne_w_potential_o0_w_trunk_o1 : w_potential_o0 ≠ w_trunk_o1) (ne_w_trunk_o0_w_direct_o1 : w_trunk_o0 ≠ w_direct_o1) (ne_w_trunk_o0_w_diffuse_o1 : w_trunk_o0 ≠ w_diffuse_o1) (ne_w_trunk_o0_w_potential_o1 : w_trunk_o0 ≠ w_potential_o1) (ne_w_trunk_o0_w_trunk_o1 : w_trunk_o0 ≠ w_trunk_o1) (g_w_direct_o0 : n0 ≤ w_direct_o0) (g_w_diffuse_o0 : n0 ≤ w_diffuse_o0) (g_w_potential_o0 : n0 ≤ w_potential_o0) (g_w_trunk_o0 : n0 ≤ w_trunk_o0) (F_direct_o0 : Fld Z h0 o0 "com/example/lumenstand/lumenstand/light/Interception" "direct" "[D" (.ref w_direct_o0)) (F_direct_o1 : Fld Z h0 o1 "com/example/lumenstand/lumenstand/light/Interception" "direct" "[D" (.ref w_direct_o1)) (F_diffuse_o0 : Fld Z h0 o0 "com/example/lumenstand/lumenstand/light/Interception" "diffuse" "[D" (.ref w_diffuse_o0)) (F_diffuse_o1 : Fld Z h0 o1 "com/example/lumenstand/lumenstand/light/Interception" "diffuse" "[D" (.ref w_diffuse_o1)) (F_potential_o0 : Fld Z h0 o0 "com/example/lumenstand/lumenstand/light/Interception" "potential" "[D" (.ref w_potential_o0)) (F_potential_o1 : Fld Z h0 o1 "com/example/lumenstand/lumenstand/light/Interception" "potential" "[D" (.ref w_potential_o1)) (F_trunk_o0 : Fld Z h0 o0 "com/example/lumenstand/lumenstand/light/Interception" "trunk" "[D" (.ref w_trunk_o0)) (F_trunk_o1 : Fld Z h0 o1 "com/example/lumenstand/lumenstand/light/Interception" "trunk" "[D" (.ref w_trunk_o1)) (hz24 : FP.dadd y0_0 x0_0 = z24) (hz39 : FP.dadd y1_0 x1_0 = z39) (hz54 : FP.dadd y2_0 x2_0 = z54) (hz69 : FP.dadd y3_0 x3_0 = z69) (hz24_2 : FP.dadd y0_1 x0_1 = z24_2) (hz39_2 : FP.dadd y1_1 x1_1 = z39_2) (hz54_2 : FP.dadd y2_1 x2_1 = z54_2) (hz69_2 : FP.dadd y3_1 x3_1 = z69_2) (nn24 : Jvm.Free.Fl.NoNaN64 z24) (nn39 : Jvm.Free.Fl.NoNaN64 z39) (nn54 : Jvm.Free.Fl.NoNaN64 z54) (nn69 : Jvm.Free.Fl.NoNaN64 z69) (nn24_2 : Jvm.Free.Fl.NoNaN64 z24_2) (nn39_2 : Jvm.Free.Fl.NoNaN64 z39_2) (nn54_2 : Jvm.Free.Fl.NoNaN64 z54_2) (nn69_2 : Jvm.Free.Fl.NoNaN64 z69_2) :
    MetFree l (⟨"com/example/lumenstand/lumenstand/light/Interception", "add", "(Lcom/example/lumenstand/lumenstand/light/Interception;)V"⟩ : MethodName) (head1 (Jvm.Cond.code (⟨"com/example/lumenstand/lumenstand/light/Interception", "add", "(Lcom/example/lumenstand/lumenstand/light/Interception;)V"⟩ : MethodName) prog_14_method_2_code 3 none :: ws) ({ frames := 0, cells := 0, slots := 0, locals := 0 } : Room)) (fun a U => a = #[(.ref o0), (.ref o1)] ∧ Z.Warmed39 U.vm ∧ U.heap = h0) (fun _ _ _ _ _ => True) (fun _ U o U' => ∃ v L, o = .returned v ∧ Q4_2 Z o0 o1 k_w_direct_o0 y0_0 y0_1 k_w_direct_o1 x0_0 x0_1 k_w_diffuse_o0 y1_0 y1_1 k_w_diffuse_o1 x1_0 x1_1 k_w_potential_o0 y2_0 y2_1 k_w_potential_o1 x2_0 x2_1 k_w_trunk_o0 y3_0 y3_1 k_w_trunk_o1 x3_0 x3_1 w_direct_o0 w_direct_o1 w_diffuse_o0 w_diffuse_o1 w_potential_o0 w_potential_o1 w_trunk_o0 w_trunk_o1 z24 z39 z54 z69 z24_2 z39_2 z54_2 z69_2 h0 n0 v U'.heap L ∧ FrameEnd U o U' L ({ frames := 0, cells := 0, slots := 0, locals := 0 } : Room).cells ({ frames := 0, cells := 0, slots := 0, locals := 0 } : Room).slots) := by
  refine MetFree.of_bodySF (plainFor_of_name pn_1) hisR ?_
  intro p e s m args below meth c s₁ Bd hml0 hP hK
  obtain ⟨rfl, hZ, hh⟩ := hP
  have hx := Bd.exec
  have hby := Bd.bytes
  have hml : c.maxLocals = 3 := hml0
  have hown : s.vm.findClass "com/example/lumenstand/lumenstand/light/Interception" = some m.cls := findClass_of_methodNamed Bd.named
  have hnm := (name_of_methodNamed Bd.named Bd.method).1
  have X0 : Stand p l e ({ frames := 0, cells := 0, slots := 0, locals := 0 } : Room) s m #[(.ref o0), (.ref o1)] below meth c s₁ [] 0 0 := Stand.of_body Bd
  have e0 : s₁.heap = h0 := by rw [← hh, Bd.state]; rfl
  have N0 := Fr.nil n0
  have c0 : ∀ t, Steps p.tables e below (s₁.setTop (mkF m 0 #[.val (.ref o0), .val (.ref o1), .unset] [])) t → Steps p.tables e below (s₁.setTop (entryFrame m #[(.ref o0), (.ref o1)] 3)) t := fun t k => castTop (ef_rm4_2 m o0 o1) k
  obtain ⟨T1, X1, e1, st1⟩ := getF X0 hx hZ hown (host := "") (Or.inl (hw _ (List.mem_of_getElem? (i := 10) rfl))) Via.refl e0 F_direct_o0 (g := (mkF m 4 #[.val (.ref o0), .val (.ref o1), .val (.int (0 : Int32))] [(.ref o0), (.int (0 : Int32))])) rfl rfl (hb hby d4_4)
  obtain ⟨cl2, Ar2, -, S2, Nn2, -, -⟩ := id V_w_direct_o0
  obtain ⟨T3, X3, e3, st3⟩ := getF X1 hx hZ hown (host := "") (Or.inl (hw _ (List.mem_of_getElem? (i := 10) rfl))) Via.refl e1 F_direct_o0 (g := (mkF m 12 #[.val (.ref o0), .val (.ref o1), .val (.int (0 : Int32))] [(.ref o0)])) rfl rfl (hb hby d4_12)
  obtain ⟨cl4, Ar4, -, S4, -, Ha4, -⟩ := id V_w_direct_o0
  have in4 : ¬ ((0 : Int32) < 0 ∨ cl4.slots.size ≤ ((0 : Int32)).toNatClampNeg) := inb_of S4 ⟨by decide, by decide⟩
  obtain ⟨T5, X5, e5, st5⟩ := getF X3 hx hZ hown (host := "") (Or.inl (hw _ (List.mem_of_getElem? (i := 10) rfl))) Via.refl e3 F_direct_o1 (g := (mkF m 19 #[.val (.ref o0), .val (.ref o1), .val (.int (0 : Int32))] [(.ref o1), (.double y0_0), (.int (0 : Int32)), (.ref w_direct_o0)])) rfl rfl (hb hby d4_19)
  obtain ⟨cl6, Ar6, -, S6, -, Ha6, -⟩ := id V_w_direct_o1
  have in6 : ¬ ((0 : Int32) < 0 ∨ cl6.slots.size ≤ ((0 : Int32)).toNatClampNeg) := inb_of S6 ⟨by decide, by decide⟩
  obtain ⟨cl7, Ar7, q7, S7, Nn7, Ha7, G7⟩ := id V_w_direct_o0
  have in7 : ¬ ((0 : Int32) < 0 ∨ cl7.slots.size ≤ ((0 : Int32)).toNatClampNeg) := inb_of S7 ⟨by decide, by decide⟩
  obtain ⟨T8, h8, X8, e8, W8, st8⟩ := stD X5 hx hZ e5 Ar7 (j := (0 : Int32)) in7 (g := (mkF m 25 #[.val (.ref o0), .val (.ref o1), .val (.int (0 : Int32))] [(.double z24), (.int (0 : Int32)), (.ref w_direct_o0)])) rfl rfl (hb hby d4_25)
  have N8 := Fr.snoc X8 N0 g_w_direct_o0
  have K9 : Keep h0 h8 [w_direct_o0, w_diffuse_o0, w_potential_o0, w_trunk_o0] := (Keep.refl h0 [w_direct_o0, w_diffuse_o0, w_potential_o0, w_trunk_o0]).wr W8 (Or.inl (by simp))
  have V8 : Arv Z h8 w_direct_o0 k_w_direct_o0 .double (2 : Int32) [(.double z24), (.double y0_1)] (.double (0 : UInt64)) := Arv.set Ar7 q7 S7 Nn7 Ha7 G7 rfl W8 0 rfl (show (0 : Nat) < 2 by decide)
  have f10 := (F_diffuse_o0.other W8 (Or.inl ne_o0_w_direct_o0))
  obtain ⟨T11, X11, e11, st11⟩ := getF X8 hx hZ hown (host := "") (Or.inl (hw _ (List.mem_of_getElem? (i := 12) rfl))) Via.refl e8 f10 (g := (mkF m 27 #[.val (.ref o0), .val (.ref o1), .val (.int (0 : Int32))] [(.ref o0)])) rfl rfl (hb hby d4_27)
  have f12 := (V_w_diffuse_o0.other W8 (Ne.symm ne_w_direct_o0_w_diffuse_o0))
  obtain ⟨cl13, Ar13, -, S13, -, Ha13, -⟩ := id f12
  have in13 : ¬ ((0 : Int32) < 0 ∨ cl13.slots.size ≤ ((0 : Int32)).toNatClampNeg) := inb_of S13 ⟨by decide, by decide⟩
  have f14 := (F_diffuse_o1.other W8 (Or.inl ne_o1_w_direct_o0))
  obtain ⟨T15, X15, e15, st15⟩ := getF X11 hx hZ hown (host := "") (Or.inl (hw _ (List.mem_of_getElem? (i := 12) rfl))) Via.refl e11 f14 (g := (mkF m 34 #[.val (.ref o0), .val (.ref o1), .val (.int (0 : Int32))] [(.ref o1), (.double y1_0), (.int (0 : Int32)), (.ref w_diffuse_o0)])) rfl rfl (hb hby d4_34)
  have f16 := (V_w_diffuse_o1.other W8 (Ne.symm ne_w_direct_o0_w_diffuse_o1))
  obtain ⟨cl17, Ar17, -, S17, -, Ha17, -⟩ := id f16
  have in17 : ¬ ((0 : Int32) < 0 ∨ cl17.slots.size ≤ ((0 : Int32)).toNatClampNeg) := inb_of S17 ⟨by decide, by decide⟩
  obtain ⟨cl18, Ar18, q18, S18, Nn18, Ha18, G18⟩ := id f12
  have in18 : ¬ ((0 : Int32) < 0 ∨ cl18.slots.size ≤ ((0 : Int32)).toNatClampNeg) := inb_of S18 ⟨by decide, by decide⟩
  obtain ⟨T19, h19, X19, e19, W19, st19⟩ := stD X15 hx hZ e15 Ar18 (j := (0 : Int32)) in18 (g := (mkF m 40 #[.val (.ref o0), .val (.ref o1), .val (.int (0 : Int32))] [(.double z39), (.int (0 : Int32)), (.ref w_diffuse_o0)])) rfl rfl (hb hby d4_40)
  have N19 := Fr.snoc X19 N8 g_w_diffuse_o0
  have K20 : Keep h0 h19 [w_direct_o0, w_diffuse_o0, w_potential_o0, w_trunk_o0] := K9.wr W19 (Or.inl (by simp))
  have V19 : Arv Z h19 w_diffuse_o0 k_w_diffuse_o0 .double (2 : Int32) [(.double z39), (.double y1_1)] (.double (0 : UInt64)) := Arv.set Ar18 q18 S18 Nn18 Ha18 G18 rfl W19 0 rfl (show (0 : Nat) < 2 by decide)
  have f21 := ((F_potential_o0.other W8 (Or.inl ne_o0_w_direct_o0)).other W19 (Or.inl ne_o0_w_diffuse_o0))
  obtain ⟨T22, X22, e22, st22⟩ := getF X19 hx hZ hown (host := "") (Or.inl (hw _ (List.mem_of_getElem? (i := 14) rfl))) Via.refl e19 f21 (g := (mkF m 42 #[.val (.ref o0), .val (.ref o1), .val (.int (0 : Int32))] [(.ref o0)])) rfl rfl (hb hby d4_42)
  have f23 := ((V_w_potential_o0.other W8 (Ne.symm ne_w_direct_o0_w_potential_o0)).other W19 (Ne.symm ne_w_diffuse_o0_w_potential_o0))
  obtain ⟨cl24, Ar24, -, S24, -, Ha24, -⟩ := id f23
  have in24 : ¬ ((0 : Int32) < 0 ∨ cl24.slots.size ≤ ((0 : Int32)).toNatClampNeg) := inb_of S24 ⟨by decide, by decide⟩
  have f25 := ((F_potential_o1.other W8 (Or.inl ne_o1_w_direct_o0)).other W19 (Or.inl ne_o1_w_diffuse_o0))
  obtain ⟨T26, X26, e26, st26⟩ := getF X22 hx hZ hown (host := "") (Or.inl (hw _ (List.mem_of_getElem? (i := 14) rfl))) Via.refl e22 f25 (g := (mkF m 49 #[.val (.ref o0), .val (.ref o1), .val (.int (0 : Int32))] [(.ref o1), (.double y2_0), (.int (0 : Int32)), (.ref w_potential_o0)])) rfl rfl (hb hby d4_49)
  have f27 := ((V_w_potential_o1.other W8 (Ne.symm ne_w_direct_o0_w_potential_o1)).other W19 (Ne.symm ne_w_diffuse_o0_w_potential_o1))
  obtain ⟨cl28, Ar28, -, S28, -, Ha28, -⟩ := id f27
  have in28 : ¬ ((0 : Int32) < 0 ∨ cl28.slots.size ≤ ((0 : Int32)).toNatClampNeg) := inb_of S28 ⟨by decide, by decide⟩
  obtain ⟨cl29, Ar29, q29, S29, Nn29, Ha29, G29⟩ := id f23
  have in29 : ¬ ((0 : Int32) < 0 ∨ cl29.slots.size ≤ ((0 : Int32)).toNatClampNeg) := inb_of S29 ⟨by decide, by decide⟩
  obtain ⟨T30, h30, X30, e30, W30, st30⟩ := stD X26 hx hZ e26 Ar29 (j := (0 : Int32)) in29 (g := (mkF m 55 #[.val (.ref o0), .val (.ref o1), .val (.int (0 : Int32))] [(.double z54), (.int (0 : Int32)), (.ref w_potential_o0)])) rfl rfl (hb hby d4_55)
  have N30 := Fr.snoc X30 N19 g_w_potential_o0
  have K31 : Keep h0 h30 [w_direct_o0, w_diffuse_o0, w_potential_o0, w_trunk_o0] := K20.wr W30 (Or.inl (by simp))
  have V30 : Arv Z h30 w_potential_o0 k_w_potential_o0 .double (2 : Int32) [(.double z54), (.double y2_1)] (.double (0 : UInt64)) := Arv.set Ar29 q29 S29 Nn29 Ha29 G29 rfl W30 0 rfl (show (0 : Nat) < 2 by decide)
  have f32 := (((F_trunk_o0.other W8 (Or.inl ne_o0_w_direct_o0)).other W19 (Or.inl ne_o0_w_diffuse_o0)).other W30 (Or.inl ne_o0_w_potential_o0))
  obtain ⟨T33, X33, e33, st33⟩ := getF X30 hx hZ hown (host := "") (Or.inl (hw _ (List.mem_of_getElem? (i := 16) rfl))) Via.refl e30 f32 (g := (mkF m 57 #[.val (.ref o0), .val (.ref o1), .val (.int (0 : Int32))] [(.ref o0)])) rfl rfl (hb hby d4_57)
  have f34 := (((V_w_trunk_o0.other W8 (Ne.symm ne_w_direct_o0_w_trunk_o0)).other W19 (Ne.symm ne_w_diffuse_o0_w_trunk_o0)).other W30 (Ne.symm ne_w_potential_o0_w_trunk_o0))
  obtain ⟨cl35, Ar35, -, S35, -, Ha35, -⟩ := id f34
  have in35 : ¬ ((0 : Int32) < 0 ∨ cl35.slots.size ≤ ((0 : Int32)).toNatClampNeg) := inb_of S35 ⟨by decide, by decide⟩
  have f36 := (((F_trunk_o1.other W8 (Or.inl ne_o1_w_direct_o0)).other W19 (Or.inl ne_o1_w_diffuse_o0)).other W30 (Or.inl ne_o1_w_potential_o0))
  obtain ⟨T37, X37, e37, st37⟩ := getF X33 hx hZ hown (host := "") (Or.inl (hw _ (List.mem_of_getElem? (i := 16) rfl))) Via.refl e33 f36 (g := (mkF m 64 #[.val (.ref o0), .val (.ref o1), .val (.int (0 : Int32))] [(.ref o1), (.double y3_0), (.int (0 : Int32)), (.ref w_trunk_o0)])) rfl rfl (hb hby d4_64)
  have f38 := (((V_w_trunk_o1.other W8 (Ne.symm ne_w_direct_o0_w_trunk_o1)).other W19 (Ne.symm ne_w_diffuse_o0_w_trunk_o1)).other W30 (Ne.symm ne_w_potential_o0_w_trunk_o1))
  obtain ⟨cl39, Ar39, -, S39, -, Ha39, -⟩ := id f38
  have in39 : ¬ ((0 : Int32) < 0 ∨ cl39.slots.size ≤ ((0 : Int32)).toNatClampNeg) := inb_of S39 ⟨by decide, by decide⟩
  obtain ⟨cl40, Ar40, q40, S40, Nn40, Ha40, G40⟩ := id f34
  have in40 : ¬ ((0 : Int32) < 0 ∨ cl40.slots.size ≤ ((0 : Int32)).toNatClampNeg) := inb_of S40 ⟨by decide, by decide⟩
  obtain ⟨T41, h41, X41, e41, W41, st41⟩ := stD X37 hx hZ e37 Ar40 (j := (0 : Int32)) in40 (g := (mkF m 70 #[.val (.ref o0), .val (.ref o1), .val (.int (0 : Int32))] [(.double z69), (.int (0 : Int32)), (.ref w_trunk_o0)])) rfl rfl (hb hby d4_70)
  have N41 := Fr.snoc X41 N30 g_w_trunk_o0
  have K42 : Keep h0 h41 [w_direct_o0, w_diffuse_o0, w_potential_o0, w_trunk_o0] := K31.wr W41 (Or.inl (by simp))
  have V41 : Arv Z h41 w_trunk_o0 k_w_trunk_o0 .double (2 : Int32) [(.double z69), (.double y3_1)] (.double (0 : UInt64)) := Arv.set Ar40 q40 S40 Nn40 Ha40 G40 rfl W41 0 rfl (show (0 : Nat) < 2 by decide)
  have f43 := ((((F_direct_o0.other W8 (Or.inl ne_o0_w_direct_o0)).other W19 (Or.inl ne_o0_w_diffuse_o0)).other W30 (Or.inl ne_o0_w_potential_o0)).other W41 (Or.inl ne_o0_w_trunk_o0))
  obtain ⟨T44, X44, e44, st44⟩ := getF X41 hx hZ hown (host := "") (Or.inl (hw _ (List.mem_of_getElem? (i := 10) rfl))) Via.refl e41 f43 (g := (mkF m 4 #[.val (.ref o0), .val (.ref o1), .val (.int (1 : Int32))] [(.ref o0), (.int (1 : Int32))])) rfl rfl (hb hby d4_4)
  have f45 := (((V8.other W19 ne_w_direct_o0_w_diffuse_o0).other W30 ne_w_direct_o0_w_potential_o0).other W41 ne_w_direct_o0_w_trunk_o0)
  obtain ⟨cl46, Ar46, -, S46, Nn46, -, -⟩ := id f45
  obtain ⟨T47, X47, e47, st47⟩ := getF X44 hx hZ hown (host := "") (Or.inl (hw _ (List.mem_of_getElem? (i := 10) rfl))) Via.refl e44 f43 (g := (mkF m 12 #[.val (.ref o0), .val (.ref o1), .val (.int (1 : Int32))] [(.ref o0)])) rfl rfl (hb hby d4_12)
  obtain ⟨cl48, Ar48, -, S48, -, Ha48, -⟩ := id f45
  have in48 : ¬ ((1 : Int32) < 0 ∨ cl48.slots.size ≤ ((1 : Int32)).toNatClampNeg) := inb_of S48 ⟨by decide, by decide⟩
  have f49 := ((((F_direct_o1.other W8 (Or.inl ne_o1_w_direct_o0)).other W19 (Or.inl ne_o1_w_diffuse_o0)).other W30 (Or.inl ne_o1_w_potential_o0)).other W41 (Or.inl ne_o1_w_trunk_o0))
  obtain ⟨T50, X50, e50, st50⟩ := getF X47 hx hZ hown (host := "") (Or.inl (hw _ (List.mem_of_getElem? (i := 10) rfl))) Via.refl e47 f49 (g := (mkF m 19 #[.val (.ref o0), .val (.ref o1), .val (.int (1 : Int32))] [(.ref o1), (.double y0_1), (.int (1 : Int32)), (.ref w_direct_o0)])) rfl rfl (hb hby d4_19)
  have f51 := ((((V_w_direct_o1.other W8 (Ne.symm ne_w_direct_o0_w_direct_o1)).other W19 (Ne.symm ne_w_diffuse_o0_w_direct_o1)).other W30 (Ne.symm ne_w_potential_o0_w_direct_o1)).other W41 (Ne.symm ne_w_trunk_o0_w_direct_o1))
  obtain ⟨cl52, Ar52, -, S52, -, Ha52, -⟩ := id f51
  have in52 : ¬ ((1 : Int32) < 0 ∨ cl52.slots.size ≤ ((1 : Int32)).toNatClampNeg) := inb_of S52 ⟨by decide, by decide⟩
  obtain ⟨cl53, Ar53, q53, S53, Nn53, Ha53, G53⟩ := id f45
  have in53 : ¬ ((1 : Int32) < 0 ∨ cl53.slots.size ≤ ((1 : Int32)).toNatClampNeg) := inb_of S53 ⟨by decide, by decide⟩
  obtain ⟨T54, h54, X54, e54, W54, st54⟩ := stD X50 hx hZ e50 Ar53 (j := (1 : Int32)) in53 (g := (mkF m 25 #[.val (.ref o0), .val (.ref o1), .val (.int (1 : Int32))] [(.double z24_2), (.int (1 : Int32)), (.ref w_direct_o0)])) rfl rfl (hb hby d4_25)
  have N54 := Fr.snoc X54 N41 g_w_direct_o0
  have K55 : Keep h0 h54 [w_direct_o0, w_diffuse_o0, w_potential_o0, w_trunk_o0] := K42.wr W54 (Or.inl (by simp))
  have V54 : Arv Z h54 w_direct_o0 k_w_direct_o0 .double (2 : Int32) [(.double z24), (.double z24_2)] (.double (0 : UInt64)) := Arv.set Ar53 q53 S53 Nn53 Ha53 G53 rfl W54 1 rfl (show (1 : Nat) < 2 by decide)
  have f56 := ((((f10.other W19 (Or.inl ne_o0_w_diffuse_o0)).other W30 (Or.inl ne_o0_w_potential_o0)).other W41 (Or.inl ne_o0_w_trunk_o0)).other W54 (Or.inl ne_o0_w_direct_o0))
  obtain ⟨T57, X57, e57, st57⟩ := getF X54 hx hZ hown (host := "") (Or.inl (hw _ (List.mem_of_getElem? (i := 12) rfl))) Via.refl e54 f56 (g := (mkF m 27 #[.val (.ref o0), .val (.ref o1), .val (.int (1 : Int32))] [(.ref o0)])) rfl rfl (hb hby d4_27)
  have f58 := (((V19.other W30 ne_w_diffuse_o0_w_potential_o0).other W41 ne_w_diffuse_o0_w_trunk_o0).other W54 (Ne.symm ne_w_direct_o0_w_diffuse_o0))
  obtain ⟨cl59, Ar59, -, S59, -, Ha59, -⟩ := id f58
  have in59 : ¬ ((1 : Int32) < 0 ∨ cl59.slots.size ≤ ((1 : Int32)).toNatClampNeg) := inb_of S59 ⟨by decide, by decide⟩
  have f60 := ((((f14.other W19 (Or.inl ne_o1_w_diffuse_o0)).other W30 (Or.inl ne_o1_w_potential_o0)).other W41 (Or.inl ne_o1_w_trunk_o0)).other W54 (Or.inl ne_o1_w_direct_o0))
  obtain ⟨T61, X61, e61, st61⟩ := getF X57 hx hZ hown (host := "") (Or.inl (hw _ (List.mem_of_getElem? (i := 12) rfl))) Via.refl e57 f60 (g := (mkF m 34 #[.val (.ref o0), .val (.ref o1), .val (.int (1 : Int32))] [(.ref o1), (.double y1_1), (.int (1 : Int32)), (.ref w_diffuse_o0)])) rfl rfl (hb hby d4_34)
  have f62 := ((((f16.other W19 (Ne.symm ne_w_diffuse_o0_w_diffuse_o1)).other W30 (Ne.symm ne_w_potential_o0_w_diffuse_o1)).other W41 (Ne.symm ne_w_trunk_o0_w_diffuse_o1)).other W54 (Ne.symm ne_w_direct_o0_w_diffuse_o1))
  obtain ⟨cl63, Ar63, -, S63, -, Ha63, -⟩ := id f62
  have in63 : ¬ ((1 : Int32) < 0 ∨ cl63.slots.size ≤ ((1 : Int32)).toNatClampNeg) := inb_of S63 ⟨by decide, by decide⟩
  obtain ⟨cl64, Ar64, q64, S64, Nn64, Ha64, G64⟩ := id f58
  have in64 : ¬ ((1 : Int32) < 0 ∨ cl64.slots.size ≤ ((1 : Int32)).toNatClampNeg) := inb_of S64 ⟨by decide, by decide⟩
  obtain ⟨T65, h65, X65, e65, W65, st65⟩ := stD X61 hx hZ e61 Ar64 (j := (1 : Int32)) in64 (g := (mkF m 40 #[.val (.ref o0), .val (.ref o1), .val (.int (1 : Int32))] [(.double z39_2), (.int (1 : Int32)), (.ref w_diffuse_o0)])) rfl rfl (hb hby d4_40)
  have N65 := Fr.snoc X65 N54 g_w_diffuse_o0
  have K66 : Keep h0 h65 [w_direct_o0, w_diffuse_o0, w_potential_o0, w_trunk_o0] := K55.wr W65 (Or.inl (by simp))
  have V65 : Arv Z h65 w_diffuse_o0 k_w_diffuse_o0 .double (2 : Int32) [(.double z39), (.double z39_2)] (.double (0 : UInt64)) := Arv.set Ar64 q64 S64 Nn64 Ha64 G64 rfl W65 1 rfl (show (1 : Nat) < 2 by decide)
  have f67 := ((((f21.other W30 (Or.inl ne_o0_w_potential_o0)).other W41 (Or.inl ne_o0_w_trunk_o0)).other W54 (Or.inl ne_o0_w_direct_o0)).other W65 (Or.inl ne_o0_w_diffuse_o0))
  obtain ⟨T68, X68, e68, st68⟩ := getF X65 hx hZ hown (host := "") (Or.inl (hw _ (List.mem_of_getElem? (i := 14) rfl))) Via.refl e65 f67 (g := (mkF m 42 #[.val (.ref o0), .val (.ref o1), .val (.int (1 : Int32))] [(.ref o0)])) rfl rfl (hb hby d4_42)
  have f69 := (((V30.other W41 ne_w_potential_o0_w_trunk_o0).other W54 (Ne.symm ne_w_direct_o0_w_potential_o0)).other W65 (Ne.symm ne_w_diffuse_o0_w_potential_o0))
  obtain ⟨cl70, Ar70, -, S70, -, Ha70, -⟩ := id f69
  have in70 : ¬ ((1 : Int32) < 0 ∨ cl70.slots.size ≤ ((1 : Int32)).toNatClampNeg) := inb_of S70 ⟨by decide, by decide⟩
  have f71 := ((((f25.other W30 (Or.inl ne_o1_w_potential_o0)).other W41 (Or.inl ne_o1_w_trunk_o0)).other W54 (Or.inl ne_o1_w_direct_o0)).other W65 (Or.inl ne_o1_w_diffuse_o0))
  obtain ⟨T72, X72, e72, st72⟩ := getF X68 hx hZ hown (host := "") (Or.inl (hw _ (List.mem_of_getElem? (i := 14) rfl))) Via.refl e68 f71 (g := (mkF m 49 #[.val (.ref o0), .val (.ref o1), .val (.int (1 : Int32))] [(.ref o1), (.double y2_1), (.int (1 : Int32)), (.ref w_potential_o0)])) rfl rfl (hb hby d4_49)
  have f73 := ((((f27.other W30 (Ne.symm ne_w_potential_o0_w_potential_o1)).other W41 (Ne.symm ne_w_trunk_o0_w_potential_o1)).other W54 (Ne.symm ne_w_direct_o0_w_potential_o1)).other W65 (Ne.symm ne_w_diffuse_o0_w_potential_o1))
  obtain ⟨cl74, Ar74, -, S74, -, Ha74, -⟩ := id f73
  have in74 : ¬ ((1 : Int32) < 0 ∨ cl74.slots.size ≤ ((1 : Int32)).toNatClampNeg) := inb_of S74 ⟨by decide, by decide⟩
  obtain ⟨cl75, Ar75, q75, S75, Nn75, Ha75, G75⟩ := id f69
  have in75 : ¬ ((1 : Int32) < 0 ∨ cl75.slots.size ≤ ((1 : Int32)).toNatClampNeg) := inb_of S75 ⟨by decide, by decide⟩
  obtain ⟨T76, h76, X76, e76, W76, st76⟩ := stD X72 hx hZ e72 Ar75 (j := (1 : Int32)) in75 (g := (mkF m 55 #[.val (.ref o0), .val (.ref o1), .val (.int (1 : Int32))] [(.double z54_2), (.int (1 : Int32)), (.ref w_potential_o0)])) rfl rfl (hb hby d4_55)
  have N76 := Fr.snoc X76 N65 g_w_potential_o0
  have K77 : Keep h0 h76 [w_direct_o0, w_diffuse_o0, w_potential_o0, w_trunk_o0] := K66.wr W76 (Or.inl (by simp))
  have V76 : Arv Z h76 w_potential_o0 k_w_potential_o0 .double (2 : Int32) [(.double z54), (.double z54_2)] (.double (0 : UInt64)) := Arv.set Ar75 q75 S75 Nn75 Ha75 G75 rfl W76 1 rfl (show (1 : Nat) < 2 by decide)
  have f78 := ((((f32.other W41 (Or.inl ne_o0_w_trunk_o0)).other W54 (Or.inl ne_o0_w_direct_o0)).other W65 (Or.inl ne_o0_w_diffuse_o0)).other W76 (Or.inl ne_o0_w_potential_o0))
  obtain ⟨T79, X79, e79, st79⟩ := getF X76 hx hZ hown (host := "") (Or.inl (hw _ (List.mem_of_getElem? (i := 16) rfl))) Via.refl e76 f78 (g := (mkF m 57 #[.val (.ref o0), .val (.ref o1), .val (.int (1 : Int32))] [(.ref o0)])) rfl rfl (hb hby d4_57)
  have f80 := (((V41.other W54 (Ne.symm ne_w_direct_o0_w_trunk_o0)).other W65 (Ne.symm ne_w_diffuse_o0_w_trunk_o0)).other W76 (Ne.symm ne_w_potential_o0_w_trunk_o0))
  obtain ⟨cl81, Ar81, -, S81, -, Ha81, -⟩ := id f80
  have in81 : ¬ ((1 : Int32) < 0 ∨ cl81.slots.size ≤ ((1 : Int32)).toNatClampNeg) := inb_of S81 ⟨by decide, by decide⟩
  have f82 := ((((f36.other W41 (Or.inl ne_o1_w_trunk_o0)).other W54 (Or.inl ne_o1_w_direct_o0)).other W65 (Or.inl ne_o1_w_diffuse_o0)).other W76 (Or.inl ne_o1_w_potential_o0))
  obtain ⟨T83, X83, e83, st83⟩ := getF X79 hx hZ hown (host := "") (Or.inl (hw _ (List.mem_of_getElem? (i := 16) rfl))) Via.refl e79 f82 (g := (mkF m 64 #[.val (.ref o0), .val (.ref o1), .val (.int (1 : Int32))] [(.ref o1), (.double y3_1), (.int (1 : Int32)), (.ref w_trunk_o0)])) rfl rfl (hb hby d4_64)
  have f84 := ((((f38.other W41 (Ne.symm ne_w_trunk_o0_w_trunk_o1)).other W54 (Ne.symm ne_w_direct_o0_w_trunk_o1)).other W65 (Ne.symm ne_w_diffuse_o0_w_trunk_o1)).other W76 (Ne.symm ne_w_potential_o0_w_trunk_o1))
  obtain ⟨cl85, Ar85, -, S85, -, Ha85, -⟩ := id f84
  have in85 : ¬ ((1 : Int32) < 0 ∨ cl85.slots.size ≤ ((1 : Int32)).toNatClampNeg) := inb_of S85 ⟨by decide, by decide⟩
  obtain ⟨cl86, Ar86, q86, S86, Nn86, Ha86, G86⟩ := id f80
  have in86 : ¬ ((1 : Int32) < 0 ∨ cl86.slots.size ≤ ((1 : Int32)).toNatClampNeg) := inb_of S86 ⟨by decide, by decide⟩
  obtain ⟨T87, h87, X87, e87, W87, st87⟩ := stD X83 hx hZ e83 Ar86 (j := (1 : Int32)) in86 (g := (mkF m 70 #[.val (.ref o0), .val (.ref o1), .val (.int (1 : Int32))] [(.double z69_2), (.int (1 : Int32)), (.ref w_trunk_o0)])) rfl rfl (hb hby d4_70)
  have N87 := Fr.snoc X87 N76 g_w_trunk_o0
  have K88 : Keep h0 h87 [w_direct_o0, w_diffuse_o0, w_potential_o0, w_trunk_o0] := K77.wr W87 (Or.inl (by simp))
  have V87 : Arv Z h87 w_trunk_o0 k_w_trunk_o0 .double (2 : Int32) [(.double z69), (.double z69_2)] (.double (0 : UInt64)) := Arv.set Ar86 q86 S86 Nn86 Ha86 G86 rfl W87 1 rfl (show (1 : Nat) < 2 by decide)
  have f89 := ((((f43.other W54 (Or.inl ne_o0_w_direct_o0)).other W65 (Or.inl ne_o0_w_diffuse_o0)).other W76 (Or.inl ne_o0_w_potential_o0)).other W87 (Or.inl ne_o0_w_trunk_o0))
  obtain ⟨T90, X90, e90, st90⟩ := getF X87 hx hZ hown (host := "") (Or.inl (hw _ (List.mem_of_getElem? (i := 10) rfl))) Via.refl e87 f89 (g := (mkF m 4 #[.val (.ref o0), .val (.ref o1), .val (.int (2 : Int32))] [(.ref o0), (.int (2 : Int32))])) rfl rfl (hb hby d4_4)
  have f91 := (((V54.other W65 ne_w_direct_o0_w_diffuse_o0).other W76 ne_w_direct_o0_w_potential_o0).other W87 ne_w_direct_o0_w_trunk_o0)
  obtain ⟨cl92, Ar92, -, S92, Nn92, -, -⟩ := id f91
  have c93 : ∀ t, Steps p.tables e below (T90.setTop (mkF m 77 #[.val (.ref o0), .val (.ref o1), .val (.int (2 : Int32))] [])) t → Steps p.tables e below (s₁.setTop (entryFrame m #[(.ref o0), (.ref o1)] 3)) t := by
    intro t k
    refine c0 t ?_
    show Steps p.tables e below (s₁.setTop (mkF m 0 #[.val (.ref o0), .val (.ref o1), .unset] [])) _
    refine XS.iconst X0.here hx rfl (hb hby d4_0) ?_
    show Steps p.tables e below (s₁.setTop (mkF m 1 #[.val (.ref o0), .val (.ref o1), .unset] [(.int (0 : Int32))])) _
    refine XS.istoreN X0.here hx rfl (hb hby d4_1) rfl (l' := #[.val (.ref o0), .val (.ref o1), .val (.int (0 : Int32))]) rfl ?_
    show Steps p.tables e below (s₁.setTop (mkF m 2 #[.val (.ref o0), .val (.ref o1), .val (.int (0 : Int32))] [])) _
    refine XS.iloadN X0.here hx rfl (hb hby d4_2) rfl ?_
    show Steps p.tables e below (s₁.setTop (mkF m 3 #[.val (.ref o0), .val (.ref o1), .val (.int (0 : Int32))] [(.int (0 : Int32))])) _
    refine XS.aloadN X0.here hx rfl (hb hby d4_3) rfl rfl ?_
    show Steps p.tables e below (s₁.setTop (mkF m 4 #[.val (.ref o0), .val (.ref o1), .val (.int (0 : Int32))] [(.ref o0), (.int (0 : Int32))])) _
    refine st1 _ ?_
    show Steps p.tables e below (T1.setTop (mkF m 7 #[.val (.ref o0), .val (.ref o1), .val (.int (0 : Int32))] [(.ref w_direct_o0), (.int (0 : Int32))])) _
    refine X1.arraylength hx (by rw [e1]; exact Ar2.1) (State.isArrayOf_alike hZ.alike Ar2.2.1) (g := (mkF m 7 #[.val (.ref o0), .val (.ref o1), .val (.int (0 : Int32))] [(.ref w_direct_o0), (.int (0 : Int32))])) rfl rfl (hb hby d4_7) _ ?_
    rw [len_of S2 Nn2]
    show Steps p.tables e below (T1.setTop (mkF m 8 #[.val (.ref o0), .val (.ref o1), .val (.int (0 : Int32))] [(.int (2 : Int32)), (.int (0 : Int32))])) _
    refine XS.icmpNo X1.here hx rfl (hb hby d4_8) rfl (Jvm.Free.XT.ii_ge_f (by decide)) ?_
    show Steps p.tables e below (T1.setTop (mkF m 11 #[.val (.ref o0), .val (.ref o1), .val (.int (0 : Int32))] [])) _
    refine XS.aloadN X1.here hx rfl (hb hby d4_11) rfl rfl ?_
    show Steps p.tables e below (T1.setTop (mkF m 12 #[.val (.ref o0), .val (.ref o1), .val (.int (0 : Int32))] [(.ref o0)])) _
    refine st3 _ ?_
    show Steps p.tables e below (T3.setTop (mkF m 15 #[.val (.ref o0), .val (.ref o1), .val (.int (0 : Int32))] [(.ref w_direct_o0)])) _
    refine XS.iloadN X3.here hx rfl (hb hby d4_15) rfl ?_
    show Steps p.tables e below (T3.setTop (mkF m 16 #[.val (.ref o0), .val (.ref o1), .val (.int (0 : Int32))] [(.int (0 : Int32)), (.ref w_direct_o0)])) _
    refine Jvm.OwnK.dup2 X3.here hx rfl (hb hby d4_16) rfl rfl rfl ?_
    show Steps p.tables e below (T3.setTop (mkF m 17 #[.val (.ref o0), .val (.ref o1), .val (.int (0 : Int32))] [(.int (0 : Int32)), (.ref w_direct_o0), (.int (0 : Int32)), (.ref w_direct_o0)])) _
    refine X3.daload hx (j := (0 : Int32)) (v := (.double y0_0)) (by rw [e3]; exact Ar4.1) (State.isArrayOf_alike hZ.alike Ar4.2.1) Ar4.2.2 in4 (Has.at Ha4 in4 rfl) (g := (mkF m 17 #[.val (.ref o0), .val (.ref o1), .val (.int (0 : Int32))] [(.int (0 : Int32)), (.ref w_direct_o0), (.int (0 : Int32)), (.ref w_direct_o0)])) rfl rfl (hb hby d4_17) _ ?_
    show Steps p.tables e below (T3.setTop (mkF m 18 #[.val (.ref o0), .val (.ref o1), .val (.int (0 : Int32))] [(.double y0_0), (.int (0 : Int32)), (.ref w_direct_o0)])) _
    refine XS.aloadN X3.here hx rfl (hb hby d4_18) rfl rfl ?_
    show Steps p.tables e below (T3.setTop (mkF m 19 #[.val (.ref o0), .val (.ref o1), .val (.int (0 : Int32))] [(.ref o1), (.double y0_0), (.int (0 : Int32)), (.ref w_direct_o0)])) _
    refine st5 _ ?_
    show Steps p.tables e below (T5.setTop (mkF m 22 #[.val (.ref o0), .val (.ref o1), .val (.int (0 : Int32))] [(.ref w_direct_o1), (.double y0_0), (.int (0 : Int32)), (.ref w_direct_o0)])) _
    refine XS.iloadN X5.here hx rfl (hb hby d4_22) rfl ?_
    show Steps p.tables e below (T5.setTop (mkF m 23 #[.val (.ref o0), .val (.ref o1), .val (.int (0 : Int32))] [(.int (0 : Int32)), (.ref w_direct_o1), (.double y0_0), (.int (0 : Int32)), (.ref w_direct_o0)])) _
    refine X5.daload hx (j := (0 : Int32)) (v := (.double x0_0)) (by rw [e5]; exact Ar6.1) (State.isArrayOf_alike hZ.alike Ar6.2.1) Ar6.2.2 in6 (Has.at Ha6 in6 rfl) (g := (mkF m 23 #[.val (.ref o0), .val (.ref o1), .val (.int (0 : Int32))] [(.int (0 : Int32)), (.ref w_direct_o1), (.double y0_0), (.int (0 : Int32)), (.ref w_direct_o0)])) rfl rfl (hb hby d4_23) _ ?_
    show Steps p.tables e below (T5.setTop (mkF m 24 #[.val (.ref o0), .val (.ref o1), .val (.int (0 : Int32))] [(.double x0_0), (.double y0_0), (.int (0 : Int32)), (.ref w_direct_o0)])) _
    refine Jvm.OwnK.dadd X5.here hx rfl (hb hby d4_24) rfl hz24 nn24 ?_
    show Steps p.tables e below (T5.setTop (mkF m 25 #[.val (.ref o0), .val (.ref o1), .val (.int (0 : Int32))] [(.double z24), (.int (0 : Int32)), (.ref w_direct_o0)])) _
    refine st8 _ ?_
    show Steps p.tables e below (T8.setTop (mkF m 26 #[.val (.ref o0), .val (.ref o1), .val (.int (0 : Int32))] [])) _
    refine XS.aloadN X8.here hx rfl (hb hby d4_26) rfl rfl ?_
    show Steps p.tables e below (T8.setTop (mkF m 27 #[.val (.ref o0), .val (.ref o1), .val (.int (0 : Int32))] [(.ref o0)])) _
    refine st11 _ ?_
    show Steps p.tables e below (T11.setTop (mkF m 30 #[.val (.ref o0), .val (.ref o1), .val (.int (0 : Int32))] [(.ref w_diffuse_o0)])) _
    refine XS.iloadN X11.here hx rfl (hb hby d4_30) rfl ?_
    show Steps p.tables e below (T11.setTop (mkF m 31 #[.val (.ref o0), .val (.ref o1), .val (.int (0 : Int32))] [(.int (0 : Int32)), (.ref w_diffuse_o0)])) _
    refine Jvm.OwnK.dup2 X11.here hx rfl (hb hby d4_31) rfl rfl rfl ?_
    show Steps p.tables e below (T11.setTop (mkF m 32 #[.val (.ref o0), .val (.ref o1), .val (.int (0 : Int32))] [(.int (0 : Int32)), (.ref w_diffuse_o0), (.int (0 : Int32)), (.ref w_diffuse_o0)])) _
    refine X11.daload hx (j := (0 : Int32)) (v := (.double y1_0)) (by rw [e11]; exact Ar13.1) (State.isArrayOf_alike hZ.alike Ar13.2.1) Ar13.2.2 in13 (Has.at Ha13 in13 rfl) (g := (mkF m 32 #[.val (.ref o0), .val (.ref o1), .val (.int (0 : Int32))] [(.int (0 : Int32)), (.ref w_diffuse_o0), (.int (0 : Int32)), (.ref w_diffuse_o0)])) rfl rfl (hb hby d4_32) _ ?_
    show Steps p.tables e below (T11.setTop (mkF m 33 #[.val (.ref o0), .val (.ref o1), .val (.int (0 : Int32))] [(.double y1_0), (.int (0 : Int32)), (.ref w_diffuse_o0)])) _
    refine XS.aloadN X11.here hx rfl (hb hby d4_33) rfl rfl ?_
    show Steps p.tables e below (T11.setTop (mkF m 34 #[.val (.ref o0), .val (.ref o1), .val (.int (0 : Int32))] [(.ref o1), (.double y1_0), (.int (0 : Int32)), (.ref w_diffuse_o0)])) _
    refine st15 _ ?_
    show Steps p.tables e below (T15.setTop (mkF m 37 #[.val (.ref o0), .val (.ref o1), .val (.int (0 : Int32))] [(.ref w_diffuse_o1), (.double y1_0), (.int (0 : Int32)), (.ref w_diffuse_o0)])) _
    refine XS.iloadN X15.here hx rfl (hb hby d4_37) rfl ?_
    show Steps p.tables e below (T15.setTop (mkF m 38 #[.val (.ref o0), .val (.ref o1), .val (.int (0 : Int32))] [(.int (0 : Int32)), (.ref w_diffuse_o1), (.double y1_0), (.int (0 : Int32)), (.ref w_diffuse_o0)])) _
    refine X15.daload hx (j := (0 : Int32)) (v := (.double x1_0)) (by rw [e15]; exact Ar17.1) (State.isArrayOf_alike hZ.alike Ar17.2.1) Ar17.2.2 in17 (Has.at Ha17 in17 rfl) (g := (mkF m 38 #[.val (.ref o0), .val (.ref o1), .val (.int (0 : Int32))] [(.int (0 : Int32)), (.ref w_diffuse_o1), (.double y1_0), (.int (0 : Int32)), (.ref w_diffuse_o0)])) rfl rfl (hb hby d4_38) _ ?_
    show Steps p.tables e below (T15.setTop (mkF m 39 #[.val (.ref o0), .val (.ref o1), .val (.int (0 : Int32))] [(.double x1_0), (.double y1_0), (.int (0 : Int32)), (.ref w_diffuse_o0)])) _
    refine Jvm.OwnK.dadd X15.here hx rfl (hb hby d4_39) rfl hz39 nn39 ?_
    show Steps p.tables e below (T15.setTop (mkF m 40 #[.val (.ref o0), .val (.ref o1), .val (.int (0 : Int32))] [(.double z39), (.int (0 : Int32)), (.ref w_diffuse_o0)])) _
    refine st19 _ ?_
    show Steps p.tables e below (T19.setTop (mkF m 41 #[.val (.ref o0), .val (.ref o1), .val (.int (0 : Int32))] [])) _
    refine XS.aloadN X19.here hx rfl (hb hby d4_41) rfl rfl ?_
    show Steps p.tables e below (T19.setTop (mkF m 42 #[.val (.ref o0), .val (.ref o1), .val (.int (0 : Int32))] [(.ref o0)])) _
    refine st22 _ ?_
    show Steps p.tables e below (T22.setTop (mkF m 45 #[.val (.ref o0), .val (.ref o1), .val (.int (0 : Int32))] [(.ref w_potential_o0)])) _
    refine XS.iloadN X22.here hx rfl (hb hby d4_45) rfl ?_
    show Steps p.tables e below (T22.setTop (mkF m 46 #[.val (.ref o0), .val (.ref o1), .val (.int (0 : Int32))] [(.int (0 : Int32)), (.ref w_potential_o0)])) _
    refine Jvm.OwnK.dup2 X22.here hx rfl (hb hby d4_46) rfl rfl rfl ?_
    show Steps p.tables e below (T22.setTop (mkF m 47 #[.val (.ref o0), .val (.ref o1), .val (.int (0 : Int32))] [(.int (0 : Int32)), (.ref w_potential_o0), (.int (0 : Int32)), (.ref w_potential_o0)])) _
    refine X22.daload hx (j := (0 : Int32)) (v := (.double y2_0)) (by rw [e22]; exact Ar24.1) (State.isArrayOf_alike hZ.alike Ar24.2.1) Ar24.2.2 in24 (Has.at Ha24 in24 rfl) (g := (mkF m 47 #[.val (.ref o0), .val (.ref o1), .val (.int (0 : Int32))] [(.int (0 : Int32)), (.ref w_potential_o0), (.int (0 : Int32)), (.ref w_potential_o0)])) rfl rfl (hb hby d4_47) _ ?_
    show Steps p.tables e below (T22.setTop (mkF m 48 #[.val (.ref o0), .val (.ref o1), .val (.int (0 : Int32))] [(.double y2_0), (.int (0 : Int32)), (.ref w_potential_o0)])) _
    refine XS.aloadN X22.here hx rfl (hb hby d4_48) rfl rfl ?_
    show Steps p.tables e below (T22.setTop (mkF m 49 #[.val (.ref o0), .val (.ref o1), .val (.int (0 : Int32))] [(.ref o1), (.double y2_0), (.int (0 : Int32)), (.ref w_potential_o0)])) _
    refine st26 _ ?_
    show Steps p.tables e below (T26.setTop (mkF m 52 #[.val (.ref o0), .val (.ref o1), .val (.int (0 : Int32))] [(.ref w_potential_o1), (.double y2_0), (.int (0 : Int32)), (.ref w_potential_o0)])) _
    refine XS.iloadN X26.here hx rfl (hb hby d4_52) rfl ?_
    show Steps p.tables e below (T26.setTop (mkF m 53 #[.val (.ref o0), .val (.ref o1), .val (.int (0 : Int32))] [(.int (0 : Int32)), (.ref w_potential_o1), (.double y2_0), (.int (0 : Int32)), (.ref w_potential_o0)])) _
    refine X26.daload hx (j := (0 : Int32)) (v := (.double x2_0)) (by rw [e26]; exact Ar28.1) (State.isArrayOf_alike hZ.alike Ar28.2.1) Ar28.2.2 in28 (Has.at Ha28 in28 rfl) (g := (mkF m 53 #[.val (.ref o0), .val (.ref o1), .val (.int (0 : Int32))] [(.int (0 : Int32)), (.ref w_potential_o1), (.double y2_0), (.int (0 : Int32)), (.ref w_potential_o0)])) rfl rfl (hb hby d4_53) _ ?_
    show Steps p.tables e below (T26.setTop (mkF m 54 #[.val (.ref o0), .val (.ref o1), .val (.int (0 : Int32))] [(.double x2_0), (.double y2_0), (.int (0 : Int32)), (.ref w_potential_o0)])) _
    refine Jvm.OwnK.dadd X26.here hx rfl (hb hby d4_54) rfl hz54 nn54 ?_
    show Steps p.tables e below (T26.setTop (mkF m 55 #[.val (.ref o0), .val (.ref o1), .val (.int (0 : Int32))] [(.double z54), (.int (0 : Int32)), (.ref w_potential_o0)])) _
    refine st30 _ ?_
    show Steps p.tables e below (T30.setTop (mkF m 56 #[.val (.ref o0), .val (.ref o1), .val (.int (0 : Int32))] [])) _
    refine XS.aloadN X30.here hx rfl (hb hby d4_56) rfl rfl ?_
    show Steps p.tables e below (T30.setTop (mkF m 57 #[.val (.ref o0), .val (.ref o1), .val (.int (0 : Int32))] [(.ref o0)])) _
    refine st33 _ ?_
    show Steps p.tables e below (T33.setTop (mkF m 60 #[.val (.ref o0), .val (.ref o1), .val (.int (0 : Int32))] [(.ref w_trunk_o0)])) _
    refine XS.iloadN X33.here hx rfl (hb hby d4_60) rfl ?_
    show Steps p.tables e below (T33.setTop (mkF m 61 #[.val (.ref o0), .val (.ref o1), .val (.int (0 : Int32))] [(.int (0 : Int32)), (.ref w_trunk_o0)])) _
    refine Jvm.OwnK.dup2 X33.here hx rfl (hb hby d4_61) rfl rfl rfl ?_
    show Steps p.tables e below (T33.setTop (mkF m 62 #[.val (.ref o0), .val (.ref o1), .val (.int (0 : Int32))] [(.int (0 : Int32)), (.ref w_trunk_o0), (.int (0 : Int32)), (.ref w_trunk_o0)])) _
    refine X33.daload hx (j := (0 : Int32)) (v := (.double y3_0)) (by rw [e33]; exact Ar35.1) (State.isArrayOf_alike hZ.alike Ar35.2.1) Ar35.2.2 in35 (Has.at Ha35 in35 rfl) (g := (mkF m 62 #[.val (.ref o0), .val (.ref o1), .val (.int (0 : Int32))] [(.int (0 : Int32)), (.ref w_trunk_o0), (.int (0 : Int32)), (.ref w_trunk_o0)])) rfl rfl (hb hby d4_62) _ ?_
    show Steps p.tables e below (T33.setTop (mkF m 63 #[.val (.ref o0), .val (.ref o1), .val (.int (0 : Int32))] [(.double y3_0), (.int (0 : Int32)), (.ref w_trunk_o0)])) _
    refine XS.aloadN X33.here hx rfl (hb hby d4_63) rfl rfl ?_
    show Steps p.tables e below (T33.setTop (mkF m 64 #[.val (.ref o0), .val (.ref o1), .val (.int (0 : Int32))] [(.ref o1), (.double y3_0), (.int (0 : Int32)), (.ref w_trunk_o0)])) _
    refine st37 _ ?_
    show Steps p.tables e below (T37.setTop (mkF m 67 #[.val (.ref o0), .val (.ref o1), .val (.int (0 : Int32))] [(.ref w_trunk_o1), (.double y3_0), (.int (0 : Int32)), (.ref w_trunk_o0)])) _
    refine XS.iloadN X37.here hx rfl (hb hby d4_67) rfl ?_
    show Steps p.tables e below (T37.setTop (mkF m 68 #[.val (.ref o0), .val (.ref o1), .val (.int (0 : Int32))] [(.int (0 : Int32)), (.ref w_trunk_o1), (.double y3_0), (.int (0 : Int32)), (.ref w_trunk_o0)])) _
    refine X37.daload hx (j := (0 : Int32)) (v := (.double x3_0)) (by rw [e37]; exact Ar39.1) (State.isArrayOf_alike hZ.alike Ar39.2.1) Ar39.2.2 in39 (Has.at Ha39 in39 rfl) (g := (mkF m 68 #[.val (.ref o0), .val (.ref o1), .val (.int (0 : Int32))] [(.int (0 : Int32)), (.ref w_trunk_o1), (.double y3_0), (.int (0 : Int32)), (.ref w_trunk_o0)])) rfl rfl (hb hby d4_68) _ ?_
    show Steps p.tables e below (T37.setTop (mkF m 69 #[.val (.ref o0), .val (.ref o1), .val (.int (0 : Int32))] [(.double x3_0), (.double y3_0), (.int (0 : Int32)), (.ref w_trunk_o0)])) _
    refine Jvm.OwnK.dadd X37.here hx rfl (hb hby d4_69) rfl hz69 nn69 ?_
    show Steps p.tables e below (T37.setTop (mkF m 70 #[.val (.ref o0), .val (.ref o1), .val (.int (0 : Int32))] [(.double z69), (.int (0 : Int32)), (.ref w_trunk_o0)])) _
    refine st41 _ ?_
    show Steps p.tables e below (T41.setTop (mkF m 71 #[.val (.ref o0), .val (.ref o1), .val (.int (0 : Int32))] [])) _
    refine Jvm.OwnK.iinc X41.here hx rfl (hb hby d4_71) rfl (l' := #[.val (.ref o0), .val (.ref o1), .val (.int (1 : Int32))]) (v := (1 : Int32)) (by decide) rfl ?_
    show Steps p.tables e below (T41.setTop (mkF m 74 #[.val (.ref o0), .val (.ref o1), .val (.int (1 : Int32))] [])) _
    refine XS.goto X41.here hx rfl (pc0 := 74) (pc' := 2) rfl (hb hby d4_74) (by decide) (by decide) ?_
    show Steps p.tables e below (T41.setTop (mkF m 2 #[.val (.ref o0), .val (.ref o1), .val (.int (1 : Int32))] [])) _
    refine XS.iloadN X41.here hx rfl (hb hby d4_2) rfl ?_
    show Steps p.tables e below (T41.setTop (mkF m 3 #[.val (.ref o0), .val (.ref o1), .val (.int (1 : Int32))] [(.int (1 : Int32))])) _
    refine XS.aloadN X41.here hx rfl (hb hby d4_3) rfl rfl ?_
    show Steps p.tables e below (T41.setTop (mkF m 4 #[.val (.ref o0), .val (.ref o1), .val (.int (1 : Int32))] [(.ref o0), (.int (1 : Int32))])) _
    refine st44 _ ?_
    show Steps p.tables e below (T44.setTop (mkF m 7 #[.val (.ref o0), .val (.ref o1), .val (.int (1 : Int32))] [(.ref w_direct_o0), (.int (1 : Int32))])) _
    refine X44.arraylength hx (by rw [e44]; exact Ar46.1) (State.isArrayOf_alike hZ.alike Ar46.2.1) (g := (mkF m 7 #[.val (.ref o0), .val (.ref o1), .val (.int (1 : Int32))] [(.ref w_direct_o0), (.int (1 : Int32))])) rfl rfl (hb hby d4_7) _ ?_
    rw [len_of S46 Nn46]
    show Steps p.tables e below (T44.setTop (mkF m 8 #[.val (.ref o0), .val (.ref o1), .val (.int (1 : Int32))] [(.int (2 : Int32)), (.int (1 : Int32))])) _
    refine XS.icmpNo X44.here hx rfl (hb hby d4_8) rfl (Jvm.Free.XT.ii_ge_f (by decide)) ?_
    show Steps p.tables e below (T44.setTop (mkF m 11 #[.val (.ref o0), .val (.ref o1), .val (.int (1 : Int32))] [])) _
    refine XS.aloadN X44.here hx rfl (hb hby d4_11) rfl rfl ?_
    show Steps p.tables e below (T44.setTop (mkF m 12 #[.val (.ref o0), .val (.ref o1), .val (.int (1 : Int32))] [(.ref o0)])) _
    refine st47 _ ?_
    show Steps p.tables e below (T47.setTop (mkF m 15 #[.val (.ref o0), .val (.ref o1), .val (.int (1 : Int32))] [(.ref w_direct_o0)])) _
    refine XS.iloadN X47.here hx rfl (hb hby d4_15) rfl ?_
    show Steps p.tables e below (T47.setTop (mkF m 16 #[.val (.ref o0), .val (.ref o1), .val (.int (1 : Int32))] [(.int (1 : Int32)), (.ref w_direct_o0)])) _
    refine Jvm.OwnK.dup2 X47.here hx rfl (hb hby d4_16) rfl rfl rfl ?_
    show Steps p.tables e below (T47.setTop (mkF m 17 #[.val (.ref o0), .val (.ref o1), .val (.int (1 : Int32))] [(.int (1 : Int32)), (.ref w_direct_o0), (.int (1 : Int32)), (.ref w_direct_o0)])) _
    refine X47.daload hx (j := (1 : Int32)) (v := (.double y0_1)) (by rw [e47]; exact Ar48.1) (State.isArrayOf_alike hZ.alike Ar48.2.1) Ar48.2.2 in48 (Has.at Ha48 in48 rfl) (g := (mkF m 17 #[.val (.ref o0), .val (.ref o1), .val (.int (1 : Int32))] [(.int (1 : Int32)), (.ref w_direct_o0), (.int (1 : Int32)), (.ref w_direct_o0)])) rfl rfl (hb hby d4_17) _ ?_
    show Steps p.tables e below (T47.setTop (mkF m 18 #[.val (.ref o0), .val (.ref o1), .val (.int (1 : Int32))] [(.double y0_1), (.int (1 : Int32)), (.ref w_direct_o0)])) _
    refine XS.aloadN X47.here hx rfl (hb hby d4_18) rfl rfl ?_
    show Steps p.tables e below (T47.setTop (mkF m 19 #[.val (.ref o0), .val (.ref o1), .val (.int (1 : Int32))] [(.ref o1), (.double y0_1), (.int (1 : Int32)), (.ref w_direct_o0)])) _
    refine st50 _ ?_
    show Steps p.tables e below (T50.setTop (mkF m 22 #[.val (.ref o0), .val (.ref o1), .val (.int (1 : Int32))] [(.ref w_direct_o1), (.double y0_1), (.int (1 : Int32)), (.ref w_direct_o0)])) _
    refine XS.iloadN X50.here hx rfl (hb hby d4_22) rfl ?_
    show Steps p.tables e below (T50.setTop (mkF m 23 #[.val (.ref o0), .val (.ref o1), .val (.int (1 : Int32))] [(.int (1 : Int32)), (.ref w_direct_o1), (.double y0_1), (.int (1 : Int32)), (.ref w_direct_o0)])) _
    refine X50.daload hx (j := (1 : Int32)) (v := (.double x0_1)) (by rw [e50]; exact Ar52.1) (State.isArrayOf_alike hZ.alike Ar52.2.1) Ar52.2.2 in52 (Has.at Ha52 in52 rfl) (g := (mkF m 23 #[.val (.ref o0), .val (.ref o1), .val (.int (1 : Int32))] [(.int (1 : Int32)), (.ref w_direct_o1), (.double y0_1), (.int (1 : Int32)), (.ref w_direct_o0)])) rfl rfl (hb hby d4_23) _ ?_
    show Steps p.tables e below (T50.setTop (mkF m 24 #[.val (.ref o0), .val (.ref o1), .val (.int (1 : Int32))] [(.double x0_1), (.double y0_1), (.int (1 : Int32)), (.ref w_direct_o0)])) _
    refine Jvm.OwnK.dadd X50.here hx rfl (hb hby d4_24) rfl hz24_2 nn24_2 ?_
    show Steps p.tables e below (T50.setTop (mkF m 25 #[.val (.ref o0), .val (.ref o1), .val (.int (1 : Int32))] [(.double z24_2), (.int (1 : Int32)), (.ref w_direct_o0)])) _
    refine st54 _ ?_
    show Steps p.tables e below (T54.setTop (mkF m 26 #[.val (.ref o0), .val (.ref o1), .val (.int (1 : Int32))] [])) _
    refine XS.aloadN X54.here hx rfl (hb hby d4_26) rfl rfl ?_
    show Steps p.tables e below (T54.setTop (mkF m 27 #[.val (.ref o0), .val (.ref o1), .val (.int (1 : Int32))] [(.ref o0)])) _
    refine st57 _ ?_
    show Steps p.tables e below (T57.setTop (mkF m 30 #[.val (.ref o0), .val (.ref o1), .val (.int (1 : Int32))] [(.ref w_diffuse_o0)])) _
    refine XS.iloadN X57.here hx rfl (hb hby d4_30) rfl ?_
    show Steps p.tables e below (T57.setTop (mkF m 31 #[.val (.ref o0), .val (.ref o1), .val (.int (1 : Int32))] [(.int (1 : Int32)), (.ref w_diffuse_o0)])) _
    refine Jvm.OwnK.dup2 X57.here hx rfl (hb hby d4_31) rfl rfl rfl ?_
    show Steps p.tables e below (T57.setTop (mkF m 32 #[.val (.ref o0), .val (.ref o1), .val (.int (1 : Int32))] [(.int (1 : Int32)), (.ref w_diffuse_o0), (.int (1 : Int32)), (.ref w_diffuse_o0)])) _
    refine X57.daload hx (j := (1 : Int32)) (v := (.double y1_1)) (by rw [e57]; exact Ar59.1) (State.isArrayOf_alike hZ.alike Ar59.2.1) Ar59.2.2 in59 (Has.at Ha59 in59 rfl) (g := (mkF m 32 #[.val (.ref o0), .val (.ref o1), .val (.int (1 : Int32))] [(.int (1 : Int32)), (.ref w_diffuse_o0), (.int (1 : Int32)), (.ref w_diffuse_o0)])) rfl rfl (hb hby d4_32) _ ?_
    show Steps p.tables e below (T57.setTop (mkF m 33 #[.val (.ref o0), .val (.ref o1), .val (.int (1 : Int32))] [(.double y1_1), (.int (1 : Int32)), (.ref w_diffuse_o0)])) _
    refine XS.aloadN X57.here hx rfl (hb hby d4_33) rfl rfl ?_
    show Steps p.tables e below (T57.setTop (mkF m 34 #[.val (.ref o0), .val (.ref o1), .val (.int (1 : Int32))] [(.ref o1), (.double y1_1), (.int (1 : Int32)), (.ref w_diffuse_o0)])) _
    refine st61 _ ?_
    show Steps p.tables e below (T61.setTop (mkF m 37 #[.val (.ref o0), .val (.ref o1), .val (.int (1 : Int32))] [(.ref w_diffuse_o1), (.double y1_1), (.int (1 : Int32)), (.ref w_diffuse_o0)])) _
    refine XS.iloadN X61.here hx rfl (hb hby d4_37) rfl ?_
    show Steps p.tables e below (T61.setTop (mkF m 38 #[.val (.ref o0), .val (.ref o1), .val (.int (1 : Int32))] [(.int (1 : Int32)), (.ref w_diffuse_o1), (.double y1_1), (.int (1 : Int32)), (.ref w_diffuse_o0)])) _
    refine X61.daload hx (j := (1 : Int32)) (v := (.double x1_1)) (by rw [e61]; exact Ar63.1) (State.isArrayOf_alike hZ.alike Ar63.2.1) Ar63.2.2 in63 (Has.at Ha63 in63 rfl) (g := (mkF m 38 #[.val (.ref o0), .val (.ref o1), .val (.int (1 : Int32))] [(.int (1 : Int32)), (.ref w_diffuse_o1), (.double y1_1), (.int (1 : Int32)), (.ref w_diffuse_o0)])) rfl rfl (hb hby d4_38) _ ?_
    show Steps p.tables e below (T61.setTop (mkF m 39 #[.val (.ref o0), .val (.ref o1), .val (.int (1 : Int32))] [(.double x1_1), (.double y1_1), (.int (1 : Int32)), (.ref w_diffuse_o0)])) _
    refine Jvm.OwnK.dadd X61.here hx rfl (hb hby d4_39) rfl hz39_2 nn39_2 ?_
    show Steps p.tables e below (T61.setTop (mkF m 40 #[.val (.ref o0), .val (.ref o1), .val (.int (1 : Int32))] [(.double z39_2), (.int (1 : Int32)), (.ref w_diffuse_o0)])) _
    refine st65 _ ?_
    show Steps p.tables e below (T65.setTop (mkF m 41 #[.val (.ref o0), .val (.ref o1), .val (.int (1 : Int32))] [])) _
    refine XS.aloadN X65.here hx rfl (hb hby d4_41) rfl rfl ?_
    show Steps p.tables e below (T65.setTop (mkF m 42 #[.val (.ref o0), .val (.ref o1), .val (.int (1 : Int32))] [(.ref o0)])) _
    refine st68 _ ?_
    show Steps p.tables e below (T68.setTop (mkF m 45 #[.val (.ref o0), .val (.ref o1), .val (.int (1 : Int32))] [(.ref w_potential_o0)])) _
    refine XS.iloadN X68.here hx rfl (hb hby d4_45) rfl ?_
    show Steps p.tables e below (T68.setTop (mkF m 46 #[.val (.ref o0), .val (.ref o1), .val (.int (1 : Int32))] [(.int (1 : Int32)), (.ref w_potential_o0)])) _
    refine Jvm.OwnK.dup2 X68.here hx rfl (hb hby d4_46) rfl rfl rfl ?_
    show Steps p.tables e below (T68.setTop (mkF m 47 #[.val (.ref o0), .val (.ref o1), .val (.int (1 : Int32))] [(.int (1 : Int32)), (.ref w_potential_o0), (.int (1 : Int32)), (.ref w_potential_o0)])) _
    refine X68.daload hx (j := (1 : Int32)) (v := (.double y2_1)) (by rw [e68]; exact Ar70.1) (State.isArrayOf_alike hZ.alike Ar70.2.1) Ar70.2.2 in70 (Has.at Ha70 in70 rfl) (g := (mkF m 47 #[.val (.ref o0), .val (.ref o1), .val (.int (1 : Int32))] [(.int (1 : Int32)), (.ref w_potential_o0), (.int (1 : Int32)), (.ref w_potential_o0)])) rfl rfl (hb hby d4_47) _ ?_
    show Steps p.tables e below (T68.setTop (mkF m 48 #[.val (.ref o0), .val (.ref o1), .val (.int (1 : Int32))] [(.double y2_1), (.int (1 : Int32)), (.ref w_potential_o0)])) _
    refine XS.aloadN X68.here hx rfl (hb hby d4_48) rfl rfl ?_
    show Steps p.tables e below (T68.setTop (mkF m 49 #[.val (.ref o0), .val (.ref o1), .val (.int (1 : Int32))] [(.ref o1), (.double y2_1), (.int (1 : Int32)), (.ref w_potential_o0)])) _
    refine st72 _ ?_
    show Steps p.tables e below (T72.setTop (mkF m 52 #[.val (.ref o0), .val (.ref o1), .val (.int (1 : Int32))] [(.ref w_potential_o1), (.double y2_1), (.int (1 : Int32)), (.ref w_potential_o0)])) _
    refine XS.iloadN X72.here hx rfl (hb hby d4_52) rfl ?_
    show Steps p.tables e below (T72.setTop (mkF m 53 #[.val (.ref o0), .val (.ref o1), .val (.int (1 : Int32))] [(.int (1 : Int32)), (.ref w_potential_o1), (.double y2_1), (.int (1 : Int32)), (.ref w_potential_o0)])) _
    refine X72.daload hx (j := (1 : Int32)) (v := (.double x2_1)) (by rw [e72]; exact Ar74.1) (State.isArrayOf_alike hZ.alike Ar74.2.1) Ar74.2.2 in74 (Has.at Ha74 in74 rfl) (g := (mkF m 53 #[.val (.ref o0), .val (.ref o1), .val (.int (1 : Int32))] [(.int (1 : Int32)), (.ref w_potential_o1), (.double y2_1), (.int (1 : Int32)), (.ref w_potential_o0)])) rfl rfl (hb hby d4_53) _ ?_
    show Steps p.tables e below (T72.setTop (mkF m 54 #[.val (.ref o0), .val (.ref o1), .val (.int (1 : Int32))] [(.double x2_1), (.double y2_1), (.int (1 : Int32)), (.ref w_potential_o0)])) _
    refine Jvm.OwnK.dadd X72.here hx rfl (hb hby d4_54) rfl hz54_2 nn54_2 ?_
    show Steps p.tables e below (T72.setTop (mkF m 55 #[.val (.ref o0), .val (.ref o1), .val (.int (1 : Int32))] [(.double z54_2), (.int (1 : Int32)), (.ref w_potential_o0)])) _
    refine st76 _ ?_
    show Steps p.tables e below (T76.setTop (mkF m 56 #[.val (.ref o0), .val (.ref o1), .val (.int (1 : Int32))] [])) _
    refine XS.aloadN X76.here hx rfl (hb hby d4_56) rfl rfl ?_
    show Steps p.tables e below (T76.setTop (mkF m 57 #[.val (.ref o0), .val (.ref o1), .val (.int (1 : Int32))] [(.ref o0)])) _
    refine st79 _ ?_
    show Steps p.tables e below (T79.setTop (mkF m 60 #[.val (.ref o0), .val (.ref o1), .val (.int (1 : Int32))] [(.ref w_trunk_o0)])) _
    refine XS.iloadN X79.here hx rfl (hb hby d4_60) rfl ?_
    show Steps p.tables e below (T79.setTop (mkF m 61 #[.val (.ref o0), .val (.ref o1), .val (.int (1 : Int32))] [(.int (1 : Int32)), (.ref w_trunk_o0)])) _
    refine Jvm.OwnK.dup2 X79.here hx rfl (hb hby d4_61) rfl rfl rfl ?_
    show Steps p.tables e below (T79.setTop (mkF m 62 #[.val (.ref o0), .val (.ref o1), .val (.int (1 : Int32))] [(.int (1 : Int32)), (.ref w_trunk_o0), (.int (1 : Int32)), (.ref w_trunk_o0)])) _
    refine X79.daload hx (j := (1 : Int32)) (v := (.double y3_1)) (by rw [e79]; exact Ar81.1) (State.isArrayOf_alike hZ.alike Ar81.2.1) Ar81.2.2 in81 (Has.at Ha81 in81 rfl) (g := (mkF m 62 #[.val (.ref o0), .val (.ref o1), .val (.int (1 : Int32))] [(.int (1 : Int32)), (.ref w_trunk_o0), (.int (1 : Int32)), (.ref w_trunk_o0)])) rfl rfl (hb hby d4_62) _ ?_
    show Steps p.tables e below (T79.setTop (mkF m 63 #[.val (.ref o0), .val (.ref o1), .val (.int (1 : Int32))] [(.double y3_1), (.int (1 : Int32)), (.ref w_trunk_o0)])) _
    refine XS.aloadN X79.here hx rfl (hb hby d4_63) rfl rfl ?_
    show Steps p.tables e below (T79.setTop (mkF m 64 #[.val (.ref o0), .val (.ref o1), .val (.int (1 : Int32))] [(.ref o1), (.double y3_1), (.int (1 : Int32)), (.ref w_trunk_o0)])) _
    refine st83 _ ?_
    show Steps p.tables e below (T83.setTop (mkF m 67 #[.val (.ref o0), .val (.ref o1), .val (.int (1 : Int32))] [(.ref w_trunk_o1), (.double y3_1), (.int (1 : Int32)), (.ref w_trunk_o0)])) _
    refine XS.iloadN X83.here hx rfl (hb hby d4_67) rfl ?_
    show Steps p.tables e below (T83.setTop (mkF m 68 #[.val (.ref o0), .val (.ref o1), .val (.int (1 : Int32))] [(.int (1 : Int32)), (.ref w_trunk_o1), (.double y3_1), (.int (1 : Int32)), (.ref w_trunk_o0)])) _
    refine X83.daload hx (j := (1 : Int32)) (v := (.double x3_1)) (by rw [e83]; exact Ar85.1) (State.isArrayOf_alike hZ.alike Ar85.2.1) Ar85.2.2 in85 (Has.at Ha85 in85 rfl) (g := (mkF m 68 #[.val (.ref o0), .val (.ref o1), .val (.int (1 : Int32))] [(.int (1 : Int32)), (.ref w_trunk_o1), (.double y3_1), (.int (1 : Int32)), (.ref w_trunk_o0)])) rfl rfl (hb hby d4_68) _ ?_
    show Steps p.tables e below (T83.setTop (mkF m 69 #[.val (.ref o0), .val (.ref o1), .val (.int (1 : Int32))] [(.double x3_1), (.double y3_1), (.int (1 : Int32)), (.ref w_trunk_o0)])) _
    refine Jvm.OwnK.dadd X83.here hx rfl (hb hby d4_69) rfl hz69_2 nn69_2 ?_
    show Steps p.tables e below (T83.setTop (mkF m 70 #[.val (.ref o0), .val (.ref o1), .val (.int (1 : Int32))] [(.double z69_2), (.int (1 : Int32)), (.ref w_trunk_o0)])) _
    refine st87 _ ?_
    show Steps p.tables e below (T87.setTop (mkF m 71 #[.val (.ref o0), .val (.ref o1), .val (.int (1 : Int32))] [])) _
    refine Jvm.OwnK.iinc X87.here hx rfl (hb hby d4_71) rfl (l' := #[.val (.ref o0), .val (.ref o1), .val (.int (2 : Int32))]) (v := (2 : Int32)) (by decide) rfl ?_
    show Steps p.tables e below (T87.setTop (mkF m 74 #[.val (.ref o0), .val (.ref o1), .val (.int (2 : Int32))] [])) _
    refine XS.goto X87.here hx rfl (pc0 := 74) (pc' := 2) rfl (hb hby d4_74) (by decide) (by decide) ?_
    show Steps p.tables e below (T87.setTop (mkF m 2 #[.val (.ref o0), .val (.ref o1), .val (.int (2 : Int32))] [])) _
    refine XS.iloadN X87.here hx rfl (hb hby d4_2) rfl ?_
    show Steps p.tables e below (T87.setTop (mkF m 3 #[.val (.ref o0), .val (.ref o1), .val (.int (2 : Int32))] [(.int (2 : Int32))])) _
    refine XS.aloadN X87.here hx rfl (hb hby d4_3) rfl rfl ?_
    show Steps p.tables e below (T87.setTop (mkF m 4 #[.val (.ref o0), .val (.ref o1), .val (.int (2 : Int32))] [(.ref o0), (.int (2 : Int32))])) _
    refine st90 _ ?_
    show Steps p.tables e below (T90.setTop (mkF m 7 #[.val (.ref o0), .val (.ref o1), .val (.int (2 : Int32))] [(.ref w_direct_o0), (.int (2 : Int32))])) _
    refine X90.arraylength hx (by rw [e90]; exact Ar92.1) (State.isArrayOf_alike hZ.alike Ar92.2.1) (g := (mkF m 7 #[.val (.ref o0), .val (.ref o1), .val (.int (2 : Int32))] [(.ref w_direct_o0), (.int (2 : Int32))])) rfl rfl (hb hby d4_7) _ ?_
    rw [len_of S92 Nn92]
    show Steps p.tables e below (T90.setTop (mkF m 8 #[.val (.ref o0), .val (.ref o1), .val (.int (2 : Int32))] [(.int (2 : Int32)), (.int (2 : Int32))])) _
    refine XS.icmpYes X90.here hx rfl (pc0 := 8) (pc' := 77) rfl (hb hby d4_8) rfl (Jvm.Free.XT.ii_ge_t (by decide)) (by decide) (by decide) ?_
    exact k
  obtain ⟨fs, hr, hrun, hended, hW, hsame⟩ := X90.leave (v := none) (fun _ => rfl)
  refine ⟨_, _, c93 _ ?_, hrun, hended, _, _, rfl, ?_, ⟨_, rfl⟩, hW, hsame.mono (by decide) (by decide)⟩
  · show Steps p.tables e below (T90.setTop (mkF m 77 #[.val (.ref o0), .val (.ref o1), .val (.int (2 : Int32))] [])) _
    exact X90.returnOut hx Bd.returns (hb hby d4_77) hr
  · show Q4_2 Z o0 o1 k_w_direct_o0 y0_0 y0_1 k_w_direct_o1 x0_0 x0_1 k_w_diffuse_o0 y1_0 y1_1 k_w_diffuse_o1 x1_0 x1_1 k_w_potential_o0 y2_0 y2_1 k_w_potential_o1 x2_0 x2_1 k_w_trunk_o0 y3_0 y3_1 k_w_trunk_o1 x3_0 x3_1 w_direct_o0 w_direct_o1 w_diffuse_o0 w_diffuse_o1 w_potential_o0 w_potential_o1 w_trunk_o0 w_trunk_o1 z24 z39 z54 z69 z24_2 z39_2 z54_2 z69_2 h0 n0 _ T90.heap _
    rw [e90]
    exact ⟨rfl, N87, K88, f91, ((V65.other W76 ne_w_diffuse_o0_w_potential_o0).other W87 ne_w_diffuse_o0_w_trunk_o0), (V76.other W87 ne_w_potential_o0_w_trunk_o0), V87⟩
def Q4_3 (Z : State) (o0 : Addr) (o1 : Addr) (k_w_direct_o0 : ClassId) (y0_0 : UInt64) (y0_1 : UInt64) (y0_2 : UInt64) (k_w_direct_o1 : ClassId) (x0_0 : UInt64) (x0_1 : UInt64) (x0_2 : UInt64) (k_w_diffuse_o0 : ClassId) (y1_0 : UInt64) (y1_1 : UInt64) (y1_2 : UInt64) (k_w_diffuse_o1 : ClassId) (x1_0 : UInt64) (x1_1 : UInt64) (x1_2 : UInt64) (k_w_potential_o0 : ClassId) (y2_0 : UInt64) (y2_1 : UInt64) (y2_2 : UInt64) (k_w_potential_o1 : ClassId) (x2_0 : UInt64) (x2_1 : UInt64) (x2_2 : UInt64) (k_w_trunk_o0 : ClassId) (y3_0 : UInt64) (y3_1 : UInt64) (y3_2 : UInt64) (k_w_trunk_o1 : ClassId) (x3_0 : UInt64) (x3_1 : UInt64) (x3_2 : UInt64) (w_direct_o0 : Addr) (w_direct_o1 : Addr) (w_diffuse_o0 : Addr) (w_diffuse_o1 : Addr) (w_potential_o0 : Addr) (w_potential_o1 : Addr) (w_trunk_o0 : Addr) (w_trunk_o1 : Addr) (z24 : UInt64) (z39 : UInt64) (z54 : UInt64) (z69 : UInt64) (z24_2 : UInt64) (z39_2 : UInt64) (z54_2 : UInt64) (z69_2 : UInt64) (z24_3 : UInt64) (z39_3 : UInt64) (z54_3 : UInt64) (z69_3 : UInt64) (h0 : Heap) (n0 : Nat) (v : Option Value) (h : Heap) (L : List Loc) : Prop := v = none ∧ Fr n0 L ∧ Keep h0 h [w_direct_o0, w_diffuse_o0, w_potential_o0, w_trunk_o0] ∧ Arv Z h w_direct_o0 k_w_direct_o0 .double (3 : Int32) [(.double z24), (.double z24_2), (.double z24_3)] (.double (0 : UInt64)) ∧ Arv Z h w_diffuse_o0 k_w_diffuse_o0 .double (3 : Int32) [(.double z39), (.double z39_2), (.double z39_3)] (.double (0 : UInt64)) ∧ Arv Z h w_potential_o0 k_w_potential_o0 .double (3 : Int32) [(.double z54), (.double z54_2), (.double z54_3)] (.double (0 : UInt64)) ∧ Arv Z h w_trunk_o0 k_w_trunk_o0 .double (3 : Int32) [(.double z69), (.double z69_2), (.double z69_3)] (.double (0 : UInt64))
set_option maxRecDepth 65536 in
set_option maxHeartbeats 40000000 in
theorem rm4_3 (l : Launch) (Z : State) (a0 : Array Value) (hw : ∀ d ∈ tables_1, d.before a0 Z = true) (ws : List Jvm.Cond) (o0 : Addr) (o1 : Addr) (k_w_direct_o0 : ClassId) (y0_0 : UInt64) (y0_1 : UInt64) (y0_2 : UInt64) (k_w_direct_o1 : ClassId) (x0_0 : UInt64) (x0_1 : UInt64) (x0_2 : UInt64) (k_w_diffuse_o0 : ClassId) (y1_0 : UInt64) (y1_1 : UInt64) (y1_2 : UInt64) (k_w_diffuse_o1 : ClassId) (x1_0 : UInt64) (x1_1 : UInt64) (x1_2 : UInt64) (k_w_potential_o0 : ClassId) (y2_0 : UInt64) (y2_1 : UInt64) (y2_2 : UInt64) (k_w_potential_o1 : ClassId) (x2_0 : UInt64) (x2_1 : UInt64) (x2_2 : UInt64) (k_w_trunk_o0 : ClassId) (y3_0 : UInt64) (y3_1 : UInt64) (y3_2 : UInt64) (k_w_trunk_o1 : ClassId) (x3_0 : UInt64) (x3_1 : UInt64) (x3_2 : UInt64) (w_direct_o0 : Addr) (w_direct_o1 : Addr) (w_diffuse_o0 : Addr) (w_diffuse_o1 : Addr) (w_potential_o0 : Addr) (w_potential_o1 : Addr) (w_trunk_o0 : Addr) (w_trunk_o1 : Addr) (z24 : UInt64) (z39 : UInt64) (z54 : UInt64) (z69 : UInt64) (z24_2 : UInt64) (z39_2 : UInt64) (z54_2 : UInt64) (z69_2 : UInt64) (z24_3 : UInt64) (z39_3 : UInt64) (z54_3 : UInt64) (z69_3 : UInt64) (h0 : Heap) (n0 : Nat) (Z0 : n0 ≤ h0.size) (V_w_direct_o0 : Arv Z h0 w_direct_o0 k_w_direct_o0 .double (3 : Int32) [(.double y0_0), (.double y0_1), (.double y0_2)] (.double (0 : UInt64))) (V_w_direct_o1 : Arv Z h0 w_direct_o1 k_w_direct_o1 .double (3 : Int32) [(.double x0_0), (.double x0_1), (.double x0_2)] (.double (0 : UInt64))) (V_w_diffuse_o0 : Arv Z h0 w_diffuse_o0 k_w_diffuse_o0 .double (3 : Int32) [(.double y1_0), (.double y1_1), (.double y1_2)] (.double (0 : UInt64))) (V_w_diffuse_o1 : Arv Z h0 w_diffuse_o1 k_w_diffuse_o1 .double (3 : Int32) [(.double x1_0), (.double x1_1), (.double x1_2)] (.double (0 : UInt64))) (V_w_potential_o0 : Arv Z h0 w_potential_o0 k_w_potential_o0 .double (3 : Int32) [(.double y2_0), (.double y2_1), (.double y2_2)] (.double (0 : UInt64))) (V_w_potential_o1 : Arv Z h0 w_potential_o1 k_w_potential_o1 .double (3 : Int32) [(.double x2_0), (.double x2_1), (.double x2_2)] (.double (0 : UInt64))) (V_w_trunk_o0 : Arv Z h0 w_trunk_o0 k_w_trunk_o0 .double (3 : Int32) [(.double y3_0), (.double y3_1), (.double y3_2)] (.double (0 : UInt64))) (V_w_trunk_o1 : Arv Z h0 w_trunk_o1 k_w_trunk_o1 .double (3 : Int32) [(.double x3_0), (.double x3_1), (.double x3_2)] (.double (0 : UInt64))) (ne_o0_w_direct_o0 : o0 ≠ w_direct_o0) (ne_o1_w_direct_o0 : o1 ≠ w_direct_o0) (ne_o0_w_diffuse_o0 : o0 ≠ w_diffuse_o0) (ne_o1_w_diffuse_o0 : o1 ≠ w_diffuse_o0) (ne_o0_w_potential_o0 : o0 ≠ w_potential_o0) (ne_o1_w_potential_o0 : o1 ≠ w_potential_o0) (ne_o0_w_trunk_o0 : o0 ≠ w_trunk_o0) (ne_o1_w_trunk_o0 : o1 ≠ w_trunk_o0) (ne_w_direct_o0_w_diffuse_o0 : w_direct_o0 ≠ w_diffuse_o0) (ne_w_direct_o0_w_potential_o0 : w_direct_o0 ≠ w_potential_o0) (ne_w_direct_o0_w_trunk_o0 : w_direct_o0 ≠ w_trunk_o0) (ne_w_diffuse_o0_w_potential_o0 : w_diffuse_o0 ≠ w_potential_o0) (ne_w_diffuse_o0_w_trunk_o0 : w_diffuse_o0 ≠ w_trunk_o0) (ne_w_potential_o0_w_trunk_o0 : w_potential_o0 ≠ w_trunk_o0) (ne_w_direct_o0_w_direct_o1 : w_direct_o0 ≠ w_direct_o1) (ne_w_direct_o0_w_diffuse_o1 : w_direct_o0 ≠ w_diffuse_o1) (ne_w_direct_o0_w_potential_o1 : w_direct_o0 ≠ w_potential_o1) (ne_w_direct_o0_w_trunk_o1 : w_direct_o0 ≠ w_trunk_o1) (ne_w_diffuse_o0_w_direct_o1 : w_diffuse_o0 ≠ w_direct_o1) (ne_w_diffuse_o0_w_diffuse_o1 : w_diffuse_o0 ≠ w_diffuse_o1) (ne_w_diffuse_o0_w_potential_o1 : w_diffuse_o0 ≠ w_potential_o1) (ne_w_diffuse_o0_w_trunk_o1 : w_diffuse_o0 ≠ w_trunk_o1) (ne_w_potential_o0_w_direct_o1 : w_potential_o0 ≠ w_direct_o1) (ne_w_potential_o0_w_diffuse_o1 : w_potential_o0 ≠ w_diffuse_o1) (ne_w_potential_o0_w_potential_o1 : w_potential_o0 ≠ w_potential_o1) (ne_w_potential_o0_w_trunk_o1 : w_potential_o0 ≠ w_trunk_o1) (ne_w_trunk_o0_w_direct_o1 : w_trunk_o0 ≠ w_direct_o1) (ne_w_trunk_o0_w_diffuse_o1 : w_trunk_o0 ≠ w_diffuse_o1) (ne_w_trunk_o0_w_potential_o1 : w_trunk_o0 ≠ w_potential_o1) (ne_w_trunk_o0_w_trunk_o1 : w_trunk_o0 ≠ w_trunk_o1) (g_w_direct_o0 : n0 ≤ w_direct_o0) (g_w_diffuse_o0 : n0 ≤ w_diffuse_o0) (g_w_potential_o0 : n0 ≤ w_potential_o0) (g_w_trunk_o0 : n0 ≤ w_trunk_o0) (F_direct_o0 : Fld Z h0 o0 "com/example/lumenstand/lumenstand/light/Interception" "direct" "[D" (.ref w_direct_o0)) (F_direct_o1 : Fld Z h0 o1 "com/example/lumenstand/lumenstand/light/Interception" "direct" "[D" (.ref w_direct_o1)) (F_diffuse_o0 : Fld Z h0 o0 "com/example/lumenstand/lumenstand/light/Interception" "diffuse" "[D" (.ref w_diffuse_o0)) (F_diffuse_o1 : Fld Z h0 o1 "com/example/lumenstand/lumenstand/light/Interception" "diffuse" "[D" (.ref w_diffuse_o1)) (F_potential_o0 : Fld Z h0 o0 "com/example/lumenstand/lumenstand/light/Interception" "potential" "[D" (.ref w_potential_o0)) (F_potential_o1 : Fld Z h0 o1 "com/example/lumenstand/lumenstand/light/Interception" "potential" "[D" (.ref w_potential_o1)) (F_trunk_o0 : Fld Z h0 o0 "com/example/lumenstand/lumenstand/light/Interception" "trunk" "[D" (.ref w_trunk_o0)) (F_trunk_o1 : Fld Z h0 o1 "com/example/lumenstand/lumenstand/light/Interception" "trunk" "[D" (.ref w_trunk_o1)) (hz24 : FP.dadd y0_0 x0_0 = z24) (hz39 : FP.dadd y1_0 x1_0 = z39) (hz54 : FP.dadd y2_0 x2_0 = z54) (hz69 : FP.dadd y3_0 x3_0 = z69) (hz24_2 : FP.dadd y0_1 x0_1 = z24_2) (hz39_2 : FP.dadd y1_1 x1_1 = z39_2) (hz54_2 : FP.dadd y2_1 x2_1 = z54_2) (hz69_2 : FP.dadd y3_1 x3_1 = z69_2) (hz24_3 : FP.dadd y0_2 x0_2 = z24_3) (hz39_3 : FP.dadd y1_2 x1_2 = z39_3) (hz54_3 : FP.dadd y2_2 x2_2 = z54_3) (hz69_3 : FP.dadd y3_2 x3_2 = z69_3) (nn24 : Jvm.Free.Fl.NoNaN64 z24) (nn39 : Jvm.Free.Fl.NoNaN64 z39) (nn54 : Jvm.Free.Fl.NoNaN64 z54) (nn69 : Jvm.Free.Fl.NoNaN64 z69) (nn24_2 : Jvm.Free.Fl.NoNaN64 z24_2) (nn39_2 : Jvm.Free.Fl.NoNaN64 z39_2) (nn54_2 : Jvm.Free.Fl.NoNaN64 z54_2) (nn69_2 : Jvm.Free.Fl.NoNaN64 z69_2) (nn24_3 : Jvm.Free.Fl.NoNaN64 z24_3) (nn39_3 : Jvm.Free.Fl.NoNaN64 z39_3) (nn54_3 : Jvm.Free.Fl.NoNaN64 z54_3) (nn69_3 : Jvm.Free.Fl.NoNaN64 z69_3) :
    MetFree l (⟨"com/example/lumenstand/lumenstand/light/Interception", "add", "(Lcom/example/lumenstand/lumenstand/light/Interception;)V"⟩ : MethodName) (head1 (Jvm.Cond.code (⟨"com/example/lumenstand/lumenstand/light/Interception", "add", "(Lcom/example/lumenstand/lumenstand/light/Interception;)V"⟩ : MethodName) prog_14_method_2_code 3 none :: ws) ({ frames := 0, cells := 0, slots := 0, locals := 0 } : Room)) (fun a U => a = #[(.ref o0), (.ref o1)] ∧ Z.Warmed39 U.vm ∧ U.heap = h0) (fun _ _ _ _ _ => True) (fun _ U o U' => ∃ v L, o = .returned v ∧ Q4_3 Z o0 o1 k_w_direct_o0 y0_0 y0_1 y0_2 k_w_direct_o1 x0_0 x0_1 x0_2 k_w_diffuse_o0 y1_0 y1_1 y1_2 k_w_diffuse_o1 x1_0 x1_1 x1_2 k_w_potential_o0 y2_0 y2_1 y2_2 k_w_potential_o1 x2_0 x2_1 x2_2 k_w_trunk_o0 y3_0 y3_1 y3_2 k_w_trunk_o1 x3_0 x3_1 x3_2 w_direct_o0 w_direct_o1 w_diffuse_o0 w_diffuse_o1 w_potential_o0 w_potential_o1 w_trunk_o0 w_trunk_o1 z24 z39 z54 z69 z24_2 z39_2 z54_2 z69_2 z24_3 z39_3 z54_3 z69_3 h0 n0 v U'.heap L ∧ FrameEnd U o U' L ({ frames := 0, cells := 0, slots := 0, locals := 0 } : Room).cells ({ frames := 0, cells := 0, slots := 0, locals := 0 } : Room).slots) := by
  refine MetFree.of_bodySF (plainFor_of_name pn_1) hisR ?_
  intro p e s m args below meth c s₁ Bd hml0 hP hK
  obtain ⟨rfl, hZ, hh⟩ := hP
  have hx := Bd.exec
  have hby := Bd.bytes
  have hml : c.maxLocals = 3 := hml0
  have hown : s.vm.findClass "com/example/lumenstand/lumenstand/light/Interception" = some m.cls := findClass_of_methodNamed Bd.named
  have hnm := (name_of_methodNamed Bd.named Bd.method).1
  have X0 : Stand p l e ({ frames := 0, cells := 0, slots := 0, locals := 0 } : Room) s m #[(.ref o0), (.ref o1)] below meth c s₁ [] 0 0 := Stand.of_body Bd
  have e0 : s₁.heap = h0 := by rw [← hh, Bd.state]; rfl
  have N0 := Fr.nil n0
  have c0 : ∀ t, Steps p.tables e below (s₁.setTop (mkF m 0 #[.val (.ref o0), .val (.ref o1), .unset] [])) t → Steps p.tables e below (s₁.setTop (entryFrame m #[(.ref o0), (.ref o1)] 3)) t := fun t k => castTop (ef_rm4_3 m o0 o1) k
  obtain ⟨T1, X1, e1, st1⟩ := getF X0 hx hZ hown (host := "") (Or.inl (hw _ (List.mem_of_getElem? (i := 10) rfl))) Via.refl e0 F_direct_o0 (g := (mkF m 4 #[.val (.ref o0), .val (.ref o1), .val (.int (0 : Int32))] [(.ref o0), (.int (0 : Int32))])) rfl rfl (hb hby d4_4)
  obtain ⟨cl2, Ar2, -, S2, Nn2, -, -⟩ := id V_w_direct_o0
  obtain ⟨T3, X3, e3, st3⟩ := getF X1 hx hZ hown (host := "") (Or.inl (hw _ (List.mem_of_getElem? (i := 10) rfl))) Via.refl e1 F_direct_o0 (g := (mkF m 12 #[.val (.ref o0), .val (.ref o1), .val (.int (0 : Int32))] [(.ref o0)])) rfl rfl (hb hby d4_12)
  obtain ⟨cl4, Ar4, -, S4, -, Ha4, -⟩ := id V_w_direct_o0
  have in4 : ¬ ((0 : Int32) < 0 ∨ cl4.slots.size ≤ ((0 : Int32)).toNatClampNeg) := inb_of S4 ⟨by decide, by decide⟩
  obtain ⟨T5, X5, e5, st5⟩ := getF X3 hx hZ hown (host := "") (Or.inl (hw _ (List.mem_of_getElem? (i := 10) rfl))) Via.refl e3 F_direct_o1 (g := (mkF m 19 #[.val (.ref o0), .val (.ref o1), .val (.int (0 : Int32))] [(.ref o1), (.double y0_0), (.int (0 : Int32)), (.ref w_direct_o0)])) rfl rfl (hb hby d4_19)
  obtain ⟨cl6, Ar6, -, S6, -, Ha6, -⟩ := id V_w_direct_o1
  have in6 : ¬ ((0 : Int32) < 0 ∨ cl6.slots.size ≤ ((0 : Int32)).toNatClampNeg) := inb_of S6 ⟨by decide, by decide⟩
  obtain ⟨cl7, Ar7, q7, S7, Nn7, Ha7, G7⟩ := id V_w_direct_o0
  have in7 : ¬ ((0 : Int32) < 0 ∨ cl7.slots.size ≤ ((0 : Int32)).toNatClampNeg) := inb_of S7 ⟨by decide, by decide⟩
  obtain ⟨T8, h8, X8, e8, W8, st8⟩ := stD X5 hx hZ e5 Ar7 (j := (0 : Int32)) in7 (g := (mkF m 25 #[.val (.ref o0), .val (.ref o1), .val (.int (0 : Int32))] [(.double z24), (.int (0 : Int32)), (.ref w_direct_o0)])) rfl rfl (hb hby d4_25)
  have N8 := Fr.snoc X8 N0 g_w_direct_o0
  have K9 : Keep h0 h8 [w_direct_o0, w_diffuse_o0, w_potential_o0, w_trunk_o0] := (Keep.refl h0 [w_direct_o0, w_diffuse_o0, w_potential_o0, w_trunk_o0]).wr W8 (Or.inl (by simp))
  have V8 : Arv Z h8 w_direct_o0 k_w_direct_o0 .double (3 : Int32) [(.double z24), (.double y0_1), (.double y0_2)] (.double (0 : UInt64)) := Arv.set Ar7 q7 S7 Nn7 Ha7 G7 rfl W8 0 rfl (show (0 : Nat) < 3 by decide)
  have f10 := (F_diffuse_o0.other W8 (Or.inl ne_o0_w_direct_o0))
  obtain ⟨T11, X11, e11, st11⟩ := getF X8 hx hZ hown (host := "") (Or.inl (hw _ (List.mem_of_getElem? (i := 12) rfl))) Via.refl e8 f10 (g := (mkF m 27 #[.val (.ref o0), .val (.ref o1), .val (.int (0 : Int32))] [(.ref o0)])) rfl rfl (hb hby d4_27)
  have f12 := (V_w_diffuse_o0.other W8 (Ne.symm ne_w_direct_o0_w_diffuse_o0))
  obtain ⟨cl13, Ar13, -, S13, -, Ha13, -⟩ := id f12
  have in13 : ¬ ((0 : Int32) < 0 ∨ cl13.slots.size ≤ ((0 : Int32)).toNatClampNeg) := inb_of S13 ⟨by decide, by decide⟩
  have f14 := (F_diffuse_o1.other W8 (Or.inl ne_o1_w_direct_o0))
  obtain ⟨T15, X15, e15, st15⟩ := getF X11 hx hZ hown (host := "") (Or.inl (hw _ (List.mem_of_getElem? (i := 12) rfl))) Via.refl e11 f14 (g := (mkF m 34 #[.val (.ref o0), .val (.ref o1), .val (.int (0 : Int32))] [(.ref o1), (.double y1_0), (.int (0 : Int32)), (.ref w_diffuse_o0)])) rfl rfl (hb hby d4_34)
  have f16 := (V_w_diffuse_o1.other W8 (Ne.symm ne_w_direct_o0_w_diffuse_o1))
  obtain ⟨cl17, Ar17, -, S17, -, Ha17, -⟩ := id f16
  have in17 : ¬ ((0 : Int32) < 0 ∨ cl17.slots.size ≤ ((0 : Int32)).toNatClampNeg) := inb_of S17 ⟨by decide, by decide⟩
  obtain ⟨cl18, Ar18, q18, S18, Nn18, Ha18, G18⟩ := id f12
  have in18 : ¬ ((0 : Int32) < 0 ∨ cl18.slots.size ≤ ((0 : Int32)).toNatClampNeg) := inb_of S18 ⟨by decide, by decide⟩
  obtain ⟨T19, h19, X19, e19, W19, st19⟩ := stD X15 hx hZ e15 Ar18 (j := (0 : Int32)) in18 (g := (mkF m 40 #[.val (.ref o0), .val (.ref o1), .val (.int (0 : Int32))] [(.double z39), (.int (0 : Int32)), (.ref w_diffuse_o0)])) rfl rfl (hb hby d4_40)
  have N19 := Fr.snoc X19 N8 g_w_diffuse_o0
  have K20 : Keep h0 h19 [w_direct_o0, w_diffuse_o0, w_potential_o0, w_trunk_o0] := K9.wr W19 (Or.inl (by simp))
  have V19 : Arv Z h19 w_diffuse_o0 k_w_diffuse_o0 .double (3 : Int32) [(.double z39), (.double y1_1), (.double y1_2)] (.double (0 : UInt64)) := Arv.set Ar18 q18 S18 Nn18 Ha18 G18 rfl W19 0 rfl (show (0 : Nat) < 3 by decide)
  have f21 := ((F_potential_o0.other W8 (Or.inl ne_o0_w_direct_o0)).other W19 (Or.inl ne_o0_w_diffuse_o0))
  obtain ⟨T22, X22, e22, st22⟩ := getF X19 hx hZ hown (host := "") (Or.inl (hw _ (List.mem_of_getElem? (i := 14) rfl))) Via.refl e19 f21 (g := (mkF m 42 #[.val (.ref o0), .val (.ref o1), .val (.int (0 : Int32))] [(.ref o0)])) rfl rfl (hb hby d4_42)
  have f23 := ((V_w_potential_o0.other W8 (Ne.symm ne_w_direct_o0_w_potential_o0)).other W19 (Ne.symm ne_w_diffuse_o0_w_potential_o0))
  obtain ⟨cl24, Ar24, -, S24, -, Ha24, -⟩ := id f23
  have in24 : ¬ ((0 : Int32) < 0 ∨ cl24.slots.size ≤ ((0 : Int32)).toNatClampNeg) := inb_of S24 ⟨by decide, by decide⟩
  have f25 := ((F_potential_o1.other W8 (Or.inl ne_o1_w_direct_o0)).other W19 (Or.inl ne_o1_w_diffuse_o0))
  obtain ⟨T26, X26, e26, st26⟩ := getF X22 hx hZ hown (host := "") (Or.inl (hw _ (List.mem_of_getElem? (i := 14) rfl))) Via.refl e22 f25 (g := (mkF m 49 #[.val (.ref o0), .val (.ref o1), .val (.int (0 : Int32))] [(.ref o1), (.double y2_0), (.int (0 : Int32)), (.ref w_potential_o0)])) rfl rfl (hb hby d4_49)
  have f27 := ((V_w_potential_o1.other W8 (Ne.symm ne_w_direct_o0_w_potential_o1)).other W19 (Ne.symm ne_w_diffuse_o0_w_potential_o1))
  obtain ⟨cl28, Ar28, -, S28, -, Ha28, -⟩ := id f27
  have in28 : ¬ ((0 : Int32) < 0 ∨ cl28.slots.size ≤ ((0 : Int32)).toNatClampNeg) := inb_of S28 ⟨by decide, by decide⟩
  obtain ⟨cl29, Ar29, q29, S29, Nn29, Ha29, G29⟩ := id f23
  have in29 : ¬ ((0 : Int32) < 0 ∨ cl29.slots.size ≤ ((0 : Int32)).toNatClampNeg) := inb_of S29 ⟨by decide, by decide⟩
  obtain ⟨T30, h30, X30, e30, W30, st30⟩ := stD X26 hx hZ e26 Ar29 (j := (0 : Int32)) in29 (g := (mkF m 55 #[.val (.ref o0), .val (.ref o1), .val (.int (0 : Int32))] [(.double z54), (.int (0 : Int32)), (.ref w_potential_o0)])) rfl rfl (hb hby d4_55)
  have N30 := Fr.snoc X30 N19 g_w_potential_o0
  have K31 : Keep h0 h30 [w_direct_o0, w_diffuse_o0, w_potential_o0, w_trunk_o0] := K20.wr W30 (Or.inl (by simp))
  have V30 : Arv Z h30 w_potential_o0 k_w_potential_o0 .double (3 : Int32) [(.double z54), (.double y2_1), (.double y2_2)] (.double (0 : UInt64)) := Arv.set Ar29 q29 S29 Nn29 Ha29 G29 rfl W30 0 rfl (show (0 : Nat) < 3 by decide)
  have f32 := (((F_trunk_o0.other W8 (Or.inl ne_o0_w_direct_o0)).other W19 (Or.inl ne_o0_w_diffuse_o0)).other W30 (Or.inl ne_o0_w_potential_o0))
  obtain ⟨T33, X33, e33, st33⟩ := getF X30 hx hZ hown (host := "") (Or.inl (hw _ (List.mem_of_getElem? (i := 16) rfl))) Via.refl e30 f32 (g := (mkF m 57 #[.val (.ref o0), .val (.ref o1), .val (.int (0 : Int32))] [(.ref o0)])) rfl rfl (hb hby d4_57)
  have f34 := (((V_w_trunk_o0.other W8 (Ne.symm ne_w_direct_o0_w_trunk_o0)).other W19 (Ne.symm ne_w_diffuse_o0_w_trunk_o0)).other W30 (Ne.symm ne_w_potential_o0_w_trunk_o0))
  obtain ⟨cl35, Ar35, -, S35, -, Ha35, -⟩ := id f34
  have in35 : ¬ ((0 : Int32) < 0 ∨ cl35.slots.size ≤ ((0 : Int32)).toNatClampNeg) := inb_of S35 ⟨by decide, by decide⟩
  have f36 := (((F_trunk_o1.other W8 (Or.inl ne_o1_w_direct_o0)).other W19 (Or.inl ne_o1_w_diffuse_o0)).other W30 (Or.inl ne_o1_w_potential_o0))
  obtain ⟨T37, X37, e37, st37⟩ := getF X33 hx hZ hown (host := "") (Or.inl (hw _ (List.mem_of_getElem? (i := 16) rfl))) Via.refl e33 f36 (g := (mkF m 64 #[.val (.ref o0), .val (.ref o1), .val (.int (0 : Int32))] [(.ref o1), (.double y3_0), (.int (0 : Int32)), (.ref w_trunk_o0)])) rfl rfl (hb hby d4_64)
  have f38 := (((V_w_trunk_o1.other W8 (Ne.symm ne_w_direct_o0_w_trunk_o1)).other W19 (Ne.symm ne_w_diffuse_o0_w_trunk_o1)).other W30 (Ne.symm ne_w_potential_o0_w_trunk_o1))
  obtain ⟨cl39, Ar39, -, S39, -, Ha39, -⟩ := id f38
  have in39 : ¬ ((0 : Int32) < 0 ∨ cl39.slots.size ≤ ((0 : Int32)).toNatClampNeg) := inb_of S39 ⟨by decide, by decide⟩
  obtain ⟨cl40, Ar40, q40, S40, Nn40, Ha40, G40⟩ := id f34
  have in40 : ¬ ((0 : Int32) < 0 ∨ cl40.slots.size ≤ ((0 : Int32)).toNatClampNeg) := inb_of S40 ⟨by decide, by decide⟩
  obtain ⟨T41, h41, X41, e41, W41, st41⟩ := stD X37 hx hZ e37 Ar40 (j := (0 : Int32)) in40 (g := (mkF m 70 #[.val (.ref o0), .val (.ref o1), .val (.int (0 : Int32))] [(.double z69), (.int (0 : Int32)), (.ref w_trunk_o0)])) rfl rfl (hb hby d4_70)
  have N41 := Fr.snoc X41 N30 g_w_trunk_o0
  have K42 : Keep h0 h41 [w_direct_o0, w_diffuse_o0, w_potential_o0, w_trunk_o0] := K31.wr W41 (Or.inl (by simp))
  have V41 : Arv Z h41 w_trunk_o0 k_w_trunk_o0 .double (3 : Int32) [(.double z69), (.double y3_1), (.double y3_2)] (.double (0 : UInt64)) := Arv.set Ar40 q40 S40 Nn40 Ha40 G40 rfl W41 0 rfl (show (0 : Nat) < 3 by decide)
  have f43 := ((((F_direct_o0.other W8 (Or.inl ne_o0_w_direct_o0)).other W19 (Or.inl ne_o0_w_diffuse_o0)).other W30 (Or.inl ne_o0_w_potential_o0)).other W41 (Or.inl ne_o0_w_trunk_o0))
  obtain ⟨T44, X44, e44, st44⟩ := getF X41 hx hZ hown (host := "") (Or.inl (hw _ (List.mem_of_getElem? (i := 10) rfl))) Via.refl e41 f43 (g := (mkF m 4 #[.val (.ref o0), .val (.ref o1), .val (.int (1 : Int32))] [(.ref o0), (.int (1 : Int32))])) rfl rfl (hb hby d4_4)
  have f45 := (((V8.other W19 ne_w_direct_o0_w_diffuse_o0).other W30 ne_w_direct_o0_w_potential_o0).other W41 ne_w_direct_o0_w_trunk_o0)
  obtain ⟨cl46, Ar46, -, S46, Nn46, -, -⟩ := id f45
  obtain ⟨T47, X47, e47, st47⟩ := getF X44 hx hZ hown (host := "") (Or.inl (hw _ (List.mem_of_getElem? (i := 10) rfl))) Via.refl e44 f43 (g := (mkF m 12 #[.val (.ref o0), .val (.ref o1), .val (.int (1 : Int32))] [(.ref o0)])) rfl rfl (hb hby d4_12)
  obtain ⟨cl48, Ar48, -, S48, -, Ha48, -⟩ := id f45
  have in48 : ¬ ((1 : Int32) < 0 ∨ cl48.slots.size ≤ ((1 : Int32)).toNatClampNeg) := inb_of S48 ⟨by decide, by decide⟩
  have f49 := ((((F_direct_o1.other W8 (Or.inl ne_o1_w_direct_o0)).other W19 (Or.inl ne_o1_w_diffuse_o0)).other W30 (Or.inl ne_o1_w_potential_o0)).other W41 (Or.inl ne_o1_w_trunk_o0))
  obtain ⟨T50, X50, e50, st50⟩ := getF X47 hx hZ hown (host := "") (Or.inl (hw _ (List.mem_of_getElem? (i := 10) rfl))) Via.refl e47 f49 (g := (mkF m 19 #[.val (.ref o0), .val (.ref o1), .val (.int (1 : Int32))] [(.ref o1), (.double y0_1), (.int (1 : Int32)), (.ref w_direct_o0)])) rfl rfl (hb hby d4_19)
  have f51 := ((((V_w_direct_o1.other W8 (Ne.symm ne_w_direct_o0_w_direct_o1)).other W19 (Ne.symm ne_w_diffuse_o0_w_direct_o1)).other W30 (Ne.symm ne_w_potential_o0_w_direct_o1)).other W41 (Ne.symm ne_w_trunk_o0_w_direct_o1))
  obtain ⟨cl52, Ar52, -, S52, -, Ha52, -⟩ := id f51
  have in52 : ¬ ((1 : Int32) < 0 ∨ cl52.slots.size ≤ ((1 : Int32)).toNatClampNeg) := inb_of S52 ⟨by decide, by decide⟩
  obtain ⟨cl53, Ar53, q53, S53, Nn53, Ha53, G53⟩ := id f45
  have in53 : ¬ ((1 : Int32) < 0 ∨ cl53.slots.size ≤ ((1 : Int32)).toNatClampNeg) := inb_of S53 ⟨by decide, by decide⟩
  obtain ⟨T54, h54, X54, e54, W54, st54⟩ := stD X50 hx hZ e50 Ar53 (j := (1 : Int32)) in53 (g := (mkF m 25 #[.val (.ref o0), .val (.ref o1), .val (.int (1 : Int32))] [(.double z24_2), (.int (1 : Int32)), (.ref w_direct_o0)])) rfl rfl (hb hby d4_25)
  have N54 := Fr.snoc X54 N41 g_w_direct_o0
  have K55 : Keep h0 h54 [w_direct_o0, w_diffuse_o0, w_potential_o0, w_trunk_o0] := K42.wr W54 (Or.inl (by simp))
  have V54 : Arv Z h54 w_direct_o0 k_w_direct_o0 .double (3 : Int32) [(.double z24), (.double z24_2), (.double y0_2)] (.double (0 : UInt64)) := Arv.set Ar53 q53 S53 Nn53 Ha53 G53 rfl W54 1 rfl (show (1 : Nat) < 3 by decide)
  have f56 := ((((f10.other W19 (Or.inl ne_o0_w_diffuse_o0)).other W30 (Or.inl ne_o0_w_potential_o0)).other W41 (Or.inl ne_o0_w_trunk_o0)).other W54 (Or.inl ne_o0_w_direct_o0))
  obtain ⟨T57, X57, e57, st57⟩ := getF X54 hx hZ hown (host := "") (Or.inl (hw _ (List.mem_of_getElem? (i := 12) rfl))) Via.refl e54 f56 (g := (mkF m 27 #[.val (.ref o0), .val (.ref o1), .val (.int (1 : Int32))] [(.ref o0)])) rfl rfl (hb hby d4_27)
  have f58 := (((V19.other W30 ne_w_diffuse_o0_w_potential_o0).other W41 ne_w_diffuse_o0_w_trunk_o0).other W54 (Ne.symm ne_w_direct_o0_w_diffuse_o0))
  obtain ⟨cl59, Ar59, -, S59, -, Ha59, -⟩ := id f58
  have in59 : ¬ ((1 : Int32) < 0 ∨ cl59.slots.size ≤ ((1 : Int32)).toNatClampNeg) := inb_of S59 ⟨by decide, by decide⟩
  have f60 := ((((f14.other W19 (Or.inl ne_o1_w_diffuse_o0)).other W30 (Or.inl ne_o1_w_potential_o0)).other W41 (Or.inl ne_o1_w_trunk_o0)).other W54 (Or.inl ne_o1_w_direct_o0))
  obtain ⟨T61, X61, e61, st61⟩ := getF X57 hx hZ hown (host := "") (Or.inl (hw _ (List.mem_of_getElem? (i := 12) rfl))) Via.refl e57 f60 (g := (mkF m 34 #[.val (.ref o0), .val (.ref o1), .val (.int (1 : Int32))] [(.ref o1), (.double y1_1), (.int (1 : Int32)), (.ref w_diffuse_o0)])) rfl rfl (hb hby d4_34)
  have f62 := ((((f16.other W19 (Ne.symm ne_w_diffuse_o0_w_diffuse_o1)).other W30 (Ne.symm ne_w_potential_o0_w_diffuse_o1)).other W41 (Ne.symm ne_w_trunk_o0_w_diffuse_o1)).other W54 (Ne.symm ne_w_direct_o0_w_diffuse_o1))
  obtain ⟨cl63, Ar63, -, S63, -, Ha63, -⟩ := id f62
  have in63 : ¬ ((1 : Int32) < 0 ∨ cl63.slots.size ≤ ((1 : Int32)).toNatClampNeg) := inb_of S63 ⟨by decide, by decide⟩
  obtain ⟨cl64, Ar64, q64, S64, Nn64, Ha64, G64⟩ := id f58
  have in64 : ¬ ((1 : Int32) < 0 ∨ cl64.slots.size ≤ ((1 : Int32)).toNatClampNeg) := inb_of S64 ⟨by decide, by decide⟩
  obtain ⟨T65, h65, X65, e65, W65, st65⟩ := stD X61 hx hZ e61 Ar64 (j := (1 : Int32)) in64 (g := (mkF m 40 #[.val (.ref o0), .val (.ref o1), .val (.int (1 : Int32))] [(.double z39_2), (.int (1 : Int32)), (.ref w_diffuse_o0)])) rfl rfl (hb hby d4_40)
  have N65 := Fr.snoc X65 N54 g_w_diffuse_o0
  have K66 : Keep h0 h65 [w_direct_o0, w_diffuse_o0, w_potential_o0, w_trunk_o0] := K55.wr W65 (Or.inl (by simp))
  have V65 : Arv Z h65 w_diffuse_o0 k_w_diffuse_o0 .double (3 : Int32) [(.double z39), (.double z39_2), (.double y1_2)] (.double (0 : UInt64)) := Arv.set Ar64 q64 S64 Nn64 Ha64 G64 rfl W65 1 rfl (show (1 : Nat) < 3 by decide)
  have f67 := ((((f21.other W30 (Or.inl ne_o0_w_potential_o0)).other W41 (Or.inl ne_o0_w_trunk_o0)).other W54 (Or.inl ne_o0_w_direct_o0)).other W65 (Or.inl ne_o0_w_diffuse_o0))
  obtain ⟨T68, X68, e68, st68⟩ := getF X65 hx hZ hown (host := "") (Or.inl (hw _ (List.mem_of_getElem? (i := 14) rfl))) Via.refl e65 f67 (g := (mkF m 42 #[.val (.ref o0), .val (.ref o1), .val (.int (1 : Int32))] [(.ref o0)])) rfl rfl (hb hby d4_42)
  have f69 := (((V30.other W41 ne_w_potential_o0_w_trunk_o0).other W54 (Ne.symm ne_w_direct_o0_w_potential_o0)).other W65 (Ne.symm ne_w_diffuse_o0_w_potential_o0))
  obtain ⟨cl70, Ar70, -, S70, -, Ha70, -⟩ := id f69
  have in70 : ¬ ((1 : Int32) < 0 ∨ cl70.slots.size ≤ ((1 : Int32)).toNatClampNeg) := inb_of S70 ⟨by decide, by decide⟩
  have f71 := ((((f25.other W30 (Or.inl ne_o1_w_potential_o0)).other W41 (Or.inl ne_o1_w_trunk_o0)).other W54 (Or.inl ne_o1_w_direct_o0)).other W65 (Or.inl ne_o1_w_diffuse_o0))
  obtain ⟨T72, X72, e72, st72⟩ := getF X68 hx hZ hown (host := "") (Or.inl (hw _ (List.mem_of_getElem? (i := 14) rfl))) Via.refl e68 f71 (g := (mkF m 49 #[.val (.ref o0), .val (.ref o1), .val (.int (1 : Int32))] [(.ref o1), (.double y2_1), (.int (1 : Int32)), (.ref w_potential_o0)])) rfl rfl (hb hby d4_49)
  have f73 := ((((f27.other W30 (Ne.symm ne_w_potential_o0_w_potential_o1)).other W41 (Ne.symm ne_w_trunk_o0_w_potential_o1)).other W54 (Ne.symm ne_w_direct_o0_w_potential_o1)).other W65 (Ne.symm ne_w_diffuse_o0_w_potential_o1))
  obtain ⟨cl74, Ar74, -, S74, -, Ha74, -⟩ := id f73
  have in74 : ¬ ((1 : Int32) < 0 ∨ cl74.slots.size ≤ ((1 : Int32)).toNatClampNeg) := inb_of S74 ⟨by decide, by decide⟩
  obtain ⟨cl75, Ar75, q75, S75, Nn75, Ha75, G75⟩ := id f69
  have in75 : ¬ ((1 : Int32) < 0 ∨ cl75.slots.size ≤ ((1 : Int32)).toNatClampNeg) := inb_of S75 ⟨by decide, by decide⟩
  obtain ⟨T76, h76, X76, e76, W76, st76⟩ := stD X72 hx hZ e72 Ar75 (j := (1 : Int32)) in75 (g := (mkF m 55 #[.val (.ref o0), .val (.ref o1), .val (.int (1 : Int32))] [(.double z54_2), (.int (1 : Int32)), (.ref w_potential_o0)])) rfl rfl (hb hby d4_55)
  have N76 := Fr.snoc X76 N65 g_w_potential_o0
  have K77 : Keep h0 h76 [w_direct_o0, w_diffuse_o0, w_potential_o0, w_trunk_o0] := K66.wr W76 (Or.inl (by simp))
  have V76 : Arv Z h76 w_potential_o0 k_w_potential_o0 .double (3 : Int32) [(.double z54), (.double z54_2), (.double y2_2)] (.double (0 : UInt64)) := Arv.set Ar75 q75 S75 Nn75 Ha75 G75 rfl W76 1 rfl (show (1 : Nat) < 3 by decide)
  have f78 := ((((f32.other W41 (Or.inl ne_o0_w_trunk_o0)).other W54 (Or.inl ne_o0_w_direct_o0)).other W65 (Or.inl ne_o0_w_diffuse_o0)).other W76 (Or.inl ne_o0_w_potential_o0))
  obtain ⟨T79, X79, e79, st79⟩ := getF X76 hx hZ hown (host := "") (Or.inl (hw _ (List.mem_of_getElem? (i := 16) rfl))) Via.refl e76 f78 (g := (mkF m 57 #[.val (.ref o0), .val (.ref o1), .val (.int (1 : Int32))] [(.ref o0)])) rfl rfl (hb hby d4_57)
  have f80 := (((V41.other W54 (Ne.symm ne_w_direct_o0_w_trunk_o0)).other W65 (Ne.symm ne_w_diffuse_o0_w_trunk_o0)).other W76 (Ne.symm ne_w_potential_o0_w_trunk_o0))
  obtain ⟨cl81, Ar81, -, S81, -, Ha81, -⟩ := id f80
  have in81 : ¬ ((1 : Int32) < 0 ∨ cl81.slots.size ≤ ((1 : Int32)).toNatClampNeg) := inb_of S81 ⟨by decide, by decide⟩
  have f82 := ((((f36.other W41 (Or.inl ne_o1_w_trunk_o0)).other W54 (Or.inl ne_o1_w_direct_o0)).other W65 (Or.inl ne_o1_w_diffuse_o0)).other W76 (Or.inl ne_o1_w_potential_o0))
  obtain ⟨T83, X83, e83, st83⟩ := getF X79 hx hZ hown (host := "") (Or.inl (hw _ (List.mem_of_getElem? (i := 16) rfl))) Via.refl e79 f82 (g := (mkF m 64 #[.val (.ref o0), .val (.ref o1), .val (.int (1 : Int32))] [(.ref o1), (.double y3_1), (.int (1 : Int32)), (.ref w_trunk_o0)])) rfl rfl (hb hby d4_64)
  have f84 := ((((f38.other W41 (Ne.symm ne_w_trunk_o0_w_trunk_o1)).other W54 (Ne.symm ne_w_direct_o0_w_trunk_o1)).other W65 (Ne.symm ne_w_diffuse_o0_w_trunk_o1)).other W76 (Ne.symm ne_w_potential_o0_w_trunk_o1))
  obtain ⟨cl85, Ar85, -, S85, -, Ha85, -⟩ := id f84
  have in85 : ¬ ((1 : Int32) < 0 ∨ cl85.slots.size ≤ ((1 : Int32)).toNatClampNeg) := inb_of S85 ⟨by decide, by decide⟩
  obtain ⟨cl86, Ar86, q86, S86, Nn86, Ha86, G86⟩ := id f80
  have in86 : ¬ ((1 : Int32) < 0 ∨ cl86.slots.size ≤ ((1 : Int32)).toNatClampNeg) := inb_of S86 ⟨by decide, by decide⟩
  obtain ⟨T87, h87, X87, e87, W87, st87⟩ := stD X83 hx hZ e83 Ar86 (j := (1 : Int32)) in86 (g := (mkF m 70 #[.val (.ref o0), .val (.ref o1), .val (.int (1 : Int32))] [(.double z69_2), (.int (1 : Int32)), (.ref w_trunk_o0)])) rfl rfl (hb hby d4_70)
  have N87 := Fr.snoc X87 N76 g_w_trunk_o0
  have K88 : Keep h0 h87 [w_direct_o0, w_diffuse_o0, w_potential_o0, w_trunk_o0] := K77.wr W87 (Or.inl (by simp))
  have V87 : Arv Z h87 w_trunk_o0 k_w_trunk_o0 .double (3 : Int32) [(.double z69), (.double z69_2), (.double y3_2)] (.double (0 : UInt64)) := Arv.set Ar86 q86 S86 Nn86 Ha86 G86 rfl W87 1 rfl (show (1 : Nat) < 3 by decide)
  have f89 := ((((f43.other W54 (Or.inl ne_o0_w_direct_o0)).other W65 (Or.inl ne_o0_w_diffuse_o0)).other W76 (Or.inl ne_o0_w_potential_o0)).other W87 (Or.inl ne_o0_w_trunk_o0))
  obtain ⟨T90, X90, e90, st90⟩ := getF X87 hx hZ hown (host := "") (Or.inl (hw _ (List.mem_of_getElem? (i := 10) rfl))) Via.refl e87 f89 (g := (mkF m 4 #[.val (.ref o0), .val (.ref o1), .val (.int (2 : Int32))] [(.ref o0), (.int (2 : Int32))])) rfl rfl (hb hby d4_4)
  have f91 := (((V54.other W65 ne_w_direct_o0_w_diffuse_o0).other W76 ne_w_direct_o0_w_potential_o0).other W87 ne_w_direct_o0_w_trunk_o0)
  obtain ⟨cl92, Ar92, -, S92, Nn92, -, -⟩ := id f91
  obtain ⟨T93, X93, e93, st93⟩ := getF X90 hx hZ hown (host := "") (Or.inl (hw _ (List.mem_of_getElem? (i := 10) rfl))) Via.refl e90 f89 (g := (mkF m 12 #[.val (.ref o0), .val (.ref o1), .val (.int (2 : Int32))] [(.ref o0)])) rfl rfl (hb hby d4_12)
  obtain ⟨cl94, Ar94, -, S94, -, Ha94, -⟩ := id f91
  have in94 : ¬ ((2 : Int32) < 0 ∨ cl94.slots.size ≤ ((2 : Int32)).toNatClampNeg) := inb_of S94 ⟨by decide, by decide⟩
  have f95 := ((((f49.other W54 (Or.inl ne_o1_w_direct_o0)).other W65 (Or.inl ne_o1_w_diffuse_o0)).other W76 (Or.inl ne_o1_w_potential_o0)).other W87 (Or.inl ne_o1_w_trunk_o0))
  obtain ⟨T96, X96, e96, st96⟩ := getF X93 hx hZ hown (host := "") (Or.inl (hw _ (List.mem_of_getElem? (i := 10) rfl))) Via.refl e93 f95 (g := (mkF m 19 #[.val (.ref o0), .val (.ref o1), .val (.int (2 : Int32))] [(.ref o1), (.double y0_2), (.int (2 : Int32)), (.ref w_direct_o0)])) rfl rfl (hb hby d4_19)
  have f97 := ((((f51.other W54 (Ne.symm ne_w_direct_o0_w_direct_o1)).other W65 (Ne.symm ne_w_diffuse_o0_w_direct_o1)).other W76 (Ne.symm ne_w_potential_o0_w_direct_o1)).other W87 (Ne.symm ne_w_trunk_o0_w_direct_o1))
  obtain ⟨cl98, Ar98, -, S98, -, Ha98, -⟩ := id f97
  have in98 : ¬ ((2 : Int32) < 0 ∨ cl98.slots.size ≤ ((2 : Int32)).toNatClampNeg) := inb_of S98 ⟨by decide, by decide⟩
  obtain ⟨cl99, Ar99, q99, S99, Nn99, Ha99, G99⟩ := id f91
  have in99 : ¬ ((2 : Int32) < 0 ∨ cl99.slots.size ≤ ((2 : Int32)).toNatClampNeg) := inb_of S99 ⟨by decide, by decide⟩
  obtain ⟨T100, h100, X100, e100, W100, st100⟩ := stD X96 hx hZ e96 Ar99 (j := (2 : Int32)) in99 (g := (mkF m 25 #[.val (.ref o0), .val (.ref o1), .val (.int (2 : Int32))] [(.double z24_3), (.int (2 : Int32)), (.ref w_direct_o0)])) rfl rfl (hb hby d4_25)
  have N100 := Fr.snoc X100 N87 g_w_direct_o0
  have K101 : Keep h0 h100 [w_direct_o0, w_diffuse_o0, w_potential_o0, w_trunk_o0] := K88.wr W100 (Or.inl (by simp))
  have V100 : Arv Z h100 w_direct_o0 k_w_direct_o0 .double (3 : Int32) [(.double z24), (.double z24_2), (.double z24_3)] (.double (0 : UInt64)) := Arv.set Ar99 q99 S99 Nn99 Ha99 G99 rfl W100 2 rfl (show (2 : Nat) < 3 by decide)
  have f102 := ((((f56.other W65 (Or.inl ne_o0_w_diffuse_o0)).other W76 (Or.inl ne_o0_w_potential_o0)).other W87 (Or.inl ne_o0_w_trunk_o0)).other W100 (Or.inl ne_o0_w_direct_o0))
  obtain ⟨T103, X103, e103, st103⟩ := getF X100 hx hZ hown (host := "") (Or.inl (hw _ (List.mem_of_getElem? (i := 12) rfl))) Via.refl e100 f102 (g := (mkF m 27 #[.val (.ref o0), .val (.ref o1), .val (.int (2 : Int32))] [(.ref o0)])) rfl rfl (hb hby d4_27)
  have f104 := (((V65.other W76 ne_w_diffuse_o0_w_potential_o0).other W87 ne_w_diffuse_o0_w_trunk_o0).other W100 (Ne.symm ne_w_direct_o0_w_diffuse_o0))
  obtain ⟨cl105, Ar105, -, S105, -, Ha105, -⟩ := id f104
  have in105 : ¬ ((2 : Int32) < 0 ∨ cl105.slots.size ≤ ((2 : Int32)).toNatClampNeg) := inb_of S105 ⟨by decide, by decide⟩
  have f106 := ((((f60.other W65 (Or.inl ne_o1_w_diffuse_o0)).other W76 (Or.inl ne_o1_w_potential_o0)).other W87 (Or.inl ne_o1_w_trunk_o0)).other W100 (Or.inl ne_o1_w_direct_o0))
  obtain ⟨T107, X107, e107, st107⟩ := getF X103 hx hZ hown (host := "") (Or.inl (hw _ (List.mem_of_getElem? (i := 12) rfl))) Via.refl e103 f106 (g := (mkF m 34 #[.val (.ref o0), .val (.ref o1), .val (.int (2 : Int32))] [(.ref o1), (.double y1_2), (.int (2 : Int32)), (.ref w_diffuse_o0)])) rfl rfl (hb hby d4_34)
  have f108 := ((((f62.other W65 (Ne.symm ne_w_diffuse_o0_w_diffuse_o1)).other W76 (Ne.symm ne_w_potential_o0_w_diffuse_o1)).other W87 (Ne.symm ne_w_trunk_o0_w_diffuse_o1)).other W100 (Ne.symm ne_w_direct_o0_w_diffuse_o1))
  obtain ⟨cl109, Ar109, -, S109, -, Ha109, -⟩ := id f108
  have in109 : ¬ ((2 : Int32) < 0 ∨ cl109.slots.size ≤ ((2 : Int32)).toNatClampNeg) := inb_of S109 ⟨by decide, by decide⟩
  obtain ⟨cl110, Ar110, q110, S110, Nn110, Ha110, G110⟩ := id f104
  have in110 : ¬ ((2 : Int32) < 0 ∨ cl110.slots.size ≤ ((2 : Int32)).toNatClampNeg) := inb_of S110 ⟨by decide, by decide⟩
  obtain ⟨T111, h111, X111, e111, W111, st111⟩ := stD X107 hx hZ e107 Ar110 (j := (2 : Int32)) in110 (g := (mkF m 40 #[.val (.ref o0), .val (.ref o1), .val (.int (2 : Int32))] [(.double z39_3), (.int (2 : Int32)), (.ref w_diffuse_o0)])) rfl rfl (hb hby d4_40)
  have N111 := Fr.snoc X111 N100 g_w_diffuse_o0
  have K112 : Keep h0 h111 [w_direct_o0, w_diffuse_o0, w_potential_o0, w_trunk_o0] := K101.wr W111 (Or.inl (by simp))
  have V111 : Arv Z h111 w_diffuse_o0 k_w_diffuse_o0 .double (3 : Int32) [(.double z39), (.double z39_2), (.double z39_3)] (.double (0 : UInt64)) := Arv.set Ar110 q110 S110 Nn110 Ha110 G110 rfl W111 2 rfl (show (2 : Nat) < 3 by decide)
  have f113 := ((((f67.other W76 (Or.inl ne_o0_w_potential_o0)).other W87 (Or.inl ne_o0_w_trunk_o0)).other W100 (Or.inl ne_o0_w_direct_o0)).other W111 (Or.inl ne_o0_w_diffuse_o0))
  obtain ⟨T114, X114, e114, st114⟩ := getF X111 hx hZ hown (host := "") (Or.inl (hw _ (List.mem_of_getElem? (i := 14) rfl))) Via.refl e111 f113 (g := (mkF m 42 #[.val (.ref o0), .val (.ref o1), .val (.int (2 : Int32))] [(.ref o0)])) rfl rfl (hb hby d4_42)
  have f115 := (((V76.other W87 ne_w_potential_o0_w_trunk_o0).other W100 (Ne.symm ne_w_direct_o0_w_potential_o0)).other W111 (Ne.symm ne_w_diffuse_o0_w_potential_o0))
  obtain ⟨cl116, Ar116, -, S116, -, Ha116, -⟩ := id f115
  have in116 : ¬ ((2 : Int32) < 0 ∨ cl116.slots.size ≤ ((2 : Int32)).toNatClampNeg) := inb_of S116 ⟨by decide, by decide⟩
  have f117 := ((((f71.other W76 (Or.inl ne_o1_w_potential_o0)).other W87 (Or.inl ne_o1_w_trunk_o0)).other W100 (Or.inl ne_o1_w_direct_o0)).other W111 (Or.inl ne_o1_w_diffuse_o0))
  obtain ⟨T118, X118, e118, st118⟩ := getF X114 hx hZ hown (host := "") (Or.inl (hw _ (List.mem_of_getElem? (i := 14) rfl))) Via.refl e114 f117 (g := (mkF m 49 #[.val (.ref o0), .val (.ref o1), .val (.int (2 : Int32))] [(.ref o1), (.double y2_2), (.int (2 : Int32)), (.ref w_potential_o0)])) rfl rfl (hb hby d4_49)
  have f119 := ((((f73.other W76 (Ne.symm ne_w_potential_o0_w_potential_o1)).other W87 (Ne.symm ne_w_trunk_o0_w_potential_o1)).other W100 (Ne.symm ne_w_direct_o0_w_potential_o1)).other W111 (Ne.symm ne_w_diffuse_o0_w_potential_o1))
  obtain ⟨cl120, Ar120, -, S120, -, Ha120, -⟩ := id f119
  have in120 : ¬ ((2 : Int32) < 0 ∨ cl120.slots.size ≤ ((2 : Int32)).toNatClampNeg) := inb_of S120 ⟨by decide, by decide⟩
  obtain ⟨cl121, Ar121, q121, S121, Nn121, Ha121, G121⟩ := id f115
  have in121 : ¬ ((2 : Int32) < 0 ∨ cl121.slots.size ≤ ((2 : Int32)).toNatClampNeg) := inb_of S121 ⟨by decide, by decide⟩
  obtain ⟨T122, h122, X122, e122, W122, st122⟩ := stD X118 hx hZ e118 Ar121 (j := (2 : Int32)) in121 (g := (mkF m 55 #[.val (.ref o0), .val (.ref o1), .val (.int (2 : Int32))] [(.double z54_3), (.int (2 : Int32)), (.ref w_potential_o0)])) rfl rfl (hb hby d4_55)
  have N122 := Fr.snoc X122 N111 g_w_potential_o0
  have K123 : Keep h0 h122 [w_direct_o0, w_diffuse_o0, w_potential_o0, w_trunk_o0] := K112.wr W122 (Or.inl (by simp))
  have V122 : Arv Z h122 w_potential_o0 k_w_potential_o0 .double (3 : Int32) [(.double z54), (.double z54_2), (.double z54_3)] (.double (0 : UInt64)) := Arv.set Ar121 q121 S121 Nn121 Ha121 G121 rfl W122 2 rfl (show (2 : Nat) < 3 by decide)
  have f124 := ((((f78.other W87 (Or.inl ne_o0_w_trunk_o0)).other W100 (Or.inl ne_o0_w_direct_o0)).other W111 (Or.inl ne_o0_w_diffuse_o0)).other W122 (Or.inl ne_o0_w_potential_o0))
  obtain ⟨T125, X125, e125, st125⟩ := getF X122 hx hZ hown (host := "") (Or.inl (hw _ (List.mem_of_getElem? (i := 16) rfl))) Via.refl e122 f124 (g := (mkF m 57 #[.val (.ref o0), .val (.ref o1), .val (.int (2 : Int32))] [(.ref o0)])) rfl rfl (hb hby d4_57)
  have f126 := (((V87.other W100 (Ne.symm ne_w_direct_o0_w_trunk_o0)).other W111 (Ne.symm ne_w_diffuse_o0_w_trunk_o0)).other W122 (Ne.symm ne_w_potential_o0_w_trunk_o0))
  obtain ⟨cl127, Ar127, -, S127, -, Ha127, -⟩ := id f126
  have in127 : ¬ ((2 : Int32) < 0 ∨ cl127.slots.size ≤ ((2 : Int32)).toNatClampNeg) := inb_of S127 ⟨by decide, by decide⟩
  have f128 := ((((f82.other W87 (Or.inl ne_o1_w_trunk_o0)).other W100 (Or.inl ne_o1_w_direct_o0)).other W111 (Or.inl ne_o1_w_diffuse_o0)).other W122 (Or.inl ne_o1_w_potential_o0))
  obtain ⟨T129, X129, e129, st129⟩ := getF X125 hx hZ hown (host := "") (Or.inl (hw _ (List.mem_of_getElem? (i := 16) rfl))) Via.refl e125 f128 (g := (mkF m 64 #[.val (.ref o0), .val (.ref o1), .val (.int (2 : Int32))] [(.ref o1), (.double y3_2), (.int (2 : Int32)), (.ref w_trunk_o0)])) rfl rfl (hb hby d4_64)
  have f130 := ((((f84.other W87 (Ne.symm ne_w_trunk_o0_w_trunk_o1)).other W100 (Ne.symm ne_w_direct_o0_w_trunk_o1)).other W111 (Ne.symm ne_w_diffuse_o0_w_trunk_o1)).other W122 (Ne.symm ne_w_potential_o0_w_trunk_o1))
  obtain ⟨cl131, Ar131, -, S131, -, Ha131, -⟩ := id f130
  have in131 : ¬ ((2 : Int32) < 0 ∨ cl131.slots.size ≤ ((2 : Int32)).toNatClampNeg) := inb_of S131 ⟨by decide, by decide⟩
  obtain ⟨cl132, Ar132, q132, S132, Nn132, Ha132, G132⟩ := id f126
  have in132 : ¬ ((2 : Int32) < 0 ∨ cl132.slots.size ≤ ((2 : Int32)).toNatClampNeg) := inb_of S132 ⟨by decide, by decide⟩
  obtain ⟨T133, h133, X133, e133, W133, st133⟩ := stD X129 hx hZ e129 Ar132 (j := (2 : Int32)) in132 (g := (mkF m 70 #[.val (.ref o0), .val (.ref o1), .val (.int (2 : Int32))] [(.double z69_3), (.int (2 : Int32)), (.ref w_trunk_o0)])) rfl rfl (hb hby d4_70)
  have N133 := Fr.snoc X133 N122 g_w_trunk_o0
  have K134 : Keep h0 h133 [w_direct_o0, w_diffuse_o0, w_potential_o0, w_trunk_o0] := K123.wr W133 (Or.inl (by simp))
  have V133 : Arv Z h133 w_trunk_o0 k_w_trunk_o0 .double (3 : Int32) [(.double z69), (.double z69_2), (.double z69_3)] (.double (0 : UInt64)) := Arv.set Ar132 q132 S132 Nn132 Ha132 G132 rfl W133 2 rfl (show (2 : Nat) < 3 by decide)
  have f135 := ((((f89.other W100 (Or.inl ne_o0_w_direct_o0)).other W111 (Or.inl ne_o0_w_diffuse_o0)).other W122 (Or.inl ne_o0_w_potential_o0)).other W133 (Or.inl ne_o0_w_trunk_o0))
  obtain ⟨T136, X136, e136, st136⟩ := getF X133 hx hZ hown (host := "") (Or.inl (hw _ (List.mem_of_getElem? (i := 10) rfl))) Via.refl e133 f135 (g := (mkF m 4 #[.val (.ref o0), .val (.ref o1), .val (.int (3 : Int32))] [(.ref o0), (.int (3 : Int32))])) rfl rfl (hb hby d4_4)
  have f137 := (((V100.other W111 ne_w_direct_o0_w_diffuse_o0).other W122 ne_w_direct_o0_w_potential_o0).other W133 ne_w_direct_o0_w_trunk_o0)
  obtain ⟨cl138, Ar138, -, S138, Nn138, -, -⟩ := id f137
  have c139 : ∀ t, Steps p.tables e below (T136.setTop (mkF m 77 #[.val (.ref o0), .val (.ref o1), .val (.int (3 : Int32))] [])) t → Steps p.tables e below (s₁.setTop (entryFrame m #[(.ref o0), (.ref o1)] 3)) t := by
    intro t k
    refine c0 t ?_
    show Steps p.tables e below (s₁.setTop (mkF m 0 #[.val (.ref o0), .val (.ref o1), .unset] [])) _
    refine XS.iconst X0.here hx rfl (hb hby d4_0) ?_
    show Steps p.tables e below (s₁.setTop (mkF m 1 #[.val (.ref o0), .val (.ref o1), .unset] [(.int (0 : Int32))])) _
    refine XS.istoreN X0.here hx rfl (hb hby d4_1) rfl (l' := #[.val (.ref o0), .val (.ref o1), .val (.int (0 : Int32))]) rfl ?_
    show Steps p.tables e below (s₁.setTop (mkF m 2 #[.val (.ref o0), .val (.ref o1), .val (.int (0 : Int32))] [])) _
    refine XS.iloadN X0.here hx rfl (hb hby d4_2) rfl ?_
    show Steps p.tables e below (s₁.setTop (mkF m 3 #[.val (.ref o0), .val (.ref o1), .val (.int (0 : Int32))] [(.int (0 : Int32))])) _
    refine XS.aloadN X0.here hx rfl (hb hby d4_3) rfl rfl ?_
    show Steps p.tables e below (s₁.setTop (mkF m 4 #[.val (.ref o0), .val (.ref o1), .val (.int (0 : Int32))] [(.ref o0), (.int (0 : Int32))])) _
    refine st1 _ ?_
    show Steps p.tables e below (T1.setTop (mkF m 7 #[.val (.ref o0), .val (.ref o1), .val (.int (0 : Int32))] [(.ref w_direct_o0), (.int (0 : Int32))])) _
    refine X1.arraylength hx (by rw [e1]; exact Ar2.1) (State.isArrayOf_alike hZ.alike Ar2.2.1) (g := (mkF m 7 #[.val (.ref o0), .val (.ref o1), .val (.int (0 : Int32))] [(.ref w_direct_o0), (.int (0 : Int32))])) rfl rfl (hb hby d4_7) _ ?_
    rw [len_of S2 Nn2]
    show Steps p.tables e below (T1.setTop (mkF m 8 #[.val (.ref o0), .val (.ref o1), .val (.int (0 : Int32))] [(.int (3 : Int32)), (.int (0 : Int32))])) _
    refine XS.icmpNo X1.here hx rfl (hb hby d4_8) rfl (Jvm.Free.XT.ii_ge_f (by decide)) ?_
    show Steps p.tables e below (T1.setTop (mkF m 11 #[.val (.ref o0), .val (.ref o1), .val (.int (0 : Int32))] [])) _
    refine XS.aloadN X1.here hx rfl (hb hby d4_11) rfl rfl ?_
    show Steps p.tables e below (T1.setTop (mkF m 12 #[.val (.ref o0), .val (.ref o1), .val (.int (0 : Int32))] [(.ref o0)])) _
    refine st3 _ ?_
    show Steps p.tables e below (T3.setTop (mkF m 15 #[.val (.ref o0), .val (.ref o1), .val (.int (0 : Int32))] [(.ref w_direct_o0)])) _
    refine XS.iloadN X3.here hx rfl (hb hby d4_15) rfl ?_
    show Steps p.tables e below (T3.setTop (mkF m 16 #[.val (.ref o0), .val (.ref o1), .val (.int (0 : Int32))] [(.int (0 : Int32)), (.ref w_direct_o0)])) _
    refine Jvm.OwnK.dup2 X3.here hx rfl (hb hby d4_16) rfl rfl rfl ?_
    show Steps p.tables e below (T3.setTop (mkF m 17 #[.val (.ref o0), .val (.ref o1), .val (.int (0 : Int32))] [(.int (0 : Int32)), (.ref w_direct_o0), (.int (0 : Int32)), (.ref w_direct_o0)])) _
    refine X3.daload hx (j := (0 : Int32)) (v := (.double y0_0)) (by rw [e3]; exact Ar4.1) (State.isArrayOf_alike hZ.alike Ar4.2.1) Ar4.2.2 in4 (Has.at Ha4 in4 rfl) (g := (mkF m 17 #[.val (.ref o0), .val (.ref o1), .val (.int (0 : Int32))] [(.int (0 : Int32)), (.ref w_direct_o0), (.int (0 : Int32)), (.ref w_direct_o0)])) rfl rfl (hb hby d4_17) _ ?_
    show Steps p.tables e below (T3.setTop (mkF m 18 #[.val (.ref o0), .val (.ref o1), .val (.int (0 : Int32))] [(.double y0_0), (.int (0 : Int32)), (.ref w_direct_o0)])) _
    refine XS.aloadN X3.here hx rfl (hb hby d4_18) rfl rfl ?_
    show Steps p.tables e below (T3.setTop (mkF m 19 #[.val (.ref o0), .val (.ref o1), .val (.int (0 : Int32))] [(.ref o1), (.double y0_0), (.int (0 : Int32)), (.ref w_direct_o0)])) _
    refine st5 _ ?_
    show Steps p.tables e below (T5.setTop (mkF m 22 #[.val (.ref o0), .val (.ref o1), .val (.int (0 : Int32))] [(.ref w_direct_o1), (.double y0_0), (.int (0 : Int32)), (.ref w_direct_o0)])) _
    refine XS.iloadN X5.here hx rfl (hb hby d4_22) rfl ?_
    show Steps p.tables e below (T5.setTop (mkF m 23 #[.val (.ref o0), .val (.ref o1), .val (.int (0 : Int32))] [(.int (0 : Int32)), (.ref w_direct_o1), (.double y0_0), (.int (0 : Int32)), (.ref w_direct_o0)])) _
    refine X5.daload hx (j := (0 : Int32)) (v := (.double x0_0)) (by rw [e5]; exact Ar6.1) (State.isArrayOf_alike hZ.alike Ar6.2.1) Ar6.2.2 in6 (Has.at Ha6 in6 rfl) (g := (mkF m 23 #[.val (.ref o0), .val (.ref o1), .val (.int (0 : Int32))] [(.int (0 : Int32)), (.ref w_direct_o1), (.double y0_0), (.int (0 : Int32)), (.ref w_direct_o0)])) rfl rfl (hb hby d4_23) _ ?_
    show Steps p.tables e below (T5.setTop (mkF m 24 #[.val (.ref o0), .val (.ref o1), .val (.int (0 : Int32))] [(.double x0_0), (.double y0_0), (.int (0 : Int32)), (.ref w_direct_o0)])) _
    refine Jvm.OwnK.dadd X5.here hx rfl (hb hby d4_24) rfl hz24 nn24 ?_
    show Steps p.tables e below (T5.setTop (mkF m 25 #[.val (.ref o0), .val (.ref o1), .val (.int (0 : Int32))] [(.double z24), (.int (0 : Int32)), (.ref w_direct_o0)])) _
    refine st8 _ ?_
    show Steps p.tables e below (T8.setTop (mkF m 26 #[.val (.ref o0), .val (.ref o1), .val (.int (0 : Int32))] [])) _
    refine XS.aloadN X8.here hx rfl (hb hby d4_26) rfl rfl ?_
    show Steps p.tables e below (T8.setTop (mkF m 27 #[.val (.ref o0), .val (.ref o1), .val (.int (0 : Int32))] [(.ref o0)])) _
    refine st11 _ ?_
    show Steps p.tables e below (T11.setTop (mkF m 30 #[.val (.ref o0), .val (.ref o1), .val (.int (0 : Int32))] [(.ref w_diffuse_o0)])) _
    refine XS.iloadN X11.here hx rfl (hb hby d4_30) rfl ?_
    show Steps p.tables e below (T11.setTop (mkF m 31 #[.val (.ref o0), .val (.ref o1), .val (.int (0 : Int32))] [(.int (0 : Int32)), (.ref w_diffuse_o0)])) _
    refine Jvm.OwnK.dup2 X11.here hx rfl (hb hby d4_31) rfl rfl rfl ?_
    show Steps p.tables e below (T11.setTop (mkF m 32 #[.val (.ref o0), .val (.ref o1), .val (.int (0 : Int32))] [(.int (0 : Int32)), (.ref w_diffuse_o0), (.int (0 : Int32)), (.ref w_diffuse_o0)])) _
    refine X11.daload hx (j := (0 : Int32)) (v := (.double y1_0)) (by rw [e11]; exact Ar13.1) (State.isArrayOf_alike hZ.alike Ar13.2.1) Ar13.2.2 in13 (Has.at Ha13 in13 rfl) (g := (mkF m 32 #[.val (.ref o0), .val (.ref o1), .val (.int (0 : Int32))] [(.int (0 : Int32)), (.ref w_diffuse_o0), (.int (0 : Int32)), (.ref w_diffuse_o0)])) rfl rfl (hb hby d4_32) _ ?_
    show Steps p.tables e below (T11.setTop (mkF m 33 #[.val (.ref o0), .val (.ref o1), .val (.int (0 : Int32))] [(.double y1_0), (.int (0 : Int32)), (.ref w_diffuse_o0)])) _
    refine XS.aloadN X11.here hx rfl (hb hby d4_33) rfl rfl ?_
    show Steps p.tables e below (T11.setTop (mkF m 34 #[.val (.ref o0), .val (.ref o1), .val (.int (0 : Int32))] [(.ref o1), (.double y1_0), (.int (0 : Int32)), (.ref w_diffuse_o0)])) _
    refine st15 _ ?_
    show Steps p.tables e below (T15.setTop (mkF m 37 #[.val (.ref o0), .val (.ref o1), .val (.int (0 : Int32))] [(.ref w_diffuse_o1), (.double y1_0), (.int (0 : Int32)), (.ref w_diffuse_o0)])) _
    refine XS.iloadN X15.here hx rfl (hb hby d4_37) rfl ?_
    show Steps p.tables e below (T15.setTop (mkF m 38 #[.val (.ref o0), .val (.ref o1), .val (.int (0 : Int32))] [(.int (0 : Int32)), (.ref w_diffuse_o1), (.double y1_0), (.int (0 : Int32)), (.ref w_diffuse_o0)])) _
    refine X15.daload hx (j := (0 : Int32)) (v := (.double x1_0)) (by rw [e15]; exact Ar17.1) (State.isArrayOf_alike hZ.alike Ar17.2.1) Ar17.2.2 in17 (Has.at Ha17 in17 rfl) (g := (mkF m 38 #[.val (.ref o0), .val (.ref o1), .val (.int (0 : Int32))] [(.int (0 : Int32)), (.ref w_diffuse_o1), (.double y1_0), (.int (0 : Int32)), (.ref w_diffuse_o0)])) rfl rfl (hb hby d4_38) _ ?_
    show Steps p.tables e below (T15.setTop (mkF m 39 #[.val (.ref o0), .val (.ref o1), .val (.int (0 : Int32))] [(.double x1_0), (.double y1_0), (.int (0 : Int32)), (.ref w_diffuse_o0)])) _
    refine Jvm.OwnK.dadd X15.here hx rfl (hb hby d4_39) rfl hz39 nn39 ?_
    show Steps p.tables e below (T15.setTop (mkF m 40 #[.val (.ref o0), .val (.ref o1), .val (.int (0 : Int32))] [(.double z39), (.int (0 : Int32)), (.ref w_diffuse_o0)])) _
    refine st19 _ ?_
    show Steps p.tables e below (T19.setTop (mkF m 41 #[.val (.ref o0), .val (.ref o1), .val (.int (0 : Int32))] [])) _
    refine XS.aloadN X19.here hx rfl (hb hby d4_41) rfl rfl ?_
    show Steps p.tables e below (T19.setTop (mkF m 42 #[.val (.ref o0), .val (.ref o1), .val (.int (0 : Int32))] [(.ref o0)])) _
    refine st22 _ ?_
    show Steps p.tables e below (T22.setTop (mkF m 45 #[.val (.ref o0), .val (.ref o1), .val (.int (0 : Int32))] [(.ref w_potential_o0)])) _
    refine XS.iloadN X22.here hx rfl (hb hby d4_45) rfl ?_
    show Steps p.tables e below (T22.setTop (mkF m 46 #[.val (.ref o0), .val (.ref o1), .val (.int (0 : Int32))] [(.int (0 : Int32)), (.ref w_potential_o0)])) _
    refine Jvm.OwnK.dup2 X22.here hx rfl (hb hby d4_46) rfl rfl rfl ?_
    show Steps p.tables e below (T22.setTop (mkF m 47 #[.val (.ref o0), .val (.ref o1), .val (.int (0 : Int32))] [(.int (0 : Int32)), (.ref w_potential_o0), (.int (0 : Int32)), (.ref w_potential_o0)])) _
    refine X22.daload hx (j := (0 : Int32)) (v := (.double y2_0)) (by rw [e22]; exact Ar24.1) (State.isArrayOf_alike hZ.alike Ar24.2.1) Ar24.2.2 in24 (Has.at Ha24 in24 rfl) (g := (mkF m 47 #[.val (.ref o0), .val (.ref o1), .val (.int (0 : Int32))] [(.int (0 : Int32)), (.ref w_potential_o0), (.int (0 : Int32)), (.ref w_potential_o0)])) rfl rfl (hb hby d4_47) _ ?_
    show Steps p.tables e below (T22.setTop (mkF m 48 #[.val (.ref o0), .val (.ref o1), .val (.int (0 : Int32))] [(.double y2_0), (.int (0 : Int32)), (.ref w_potential_o0)])) _
    refine XS.aloadN X22.here hx rfl (hb hby d4_48) rfl rfl ?_
    show Steps p.tables e below (T22.setTop (mkF m 49 #[.val (.ref o0), .val (.ref o1), .val (.int (0 : Int32))] [(.ref o1), (.double y2_0), (.int (0 : Int32)), (.ref w_potential_o0)])) _
    refine st26 _ ?_
    show Steps p.tables e below (T26.setTop (mkF m 52 #[.val (.ref o0), .val (.ref o1), .val (.int (0 : Int32))] [(.ref w_potential_o1), (.double y2_0), (.int (0 : Int32)), (.ref w_potential_o0)])) _
    refine XS.iloadN X26.here hx rfl (hb hby d4_52) rfl ?_
    show Steps p.tables e below (T26.setTop (mkF m 53 #[.val (.ref o0), .val (.ref o1), .val (.int (0 : Int32))] [(.int (0 : Int32)), (.ref w_potential_o1), (.double y2_0), (.int (0 : Int32)), (.ref w_potential_o0)])) _
    refine X26.daload hx (j := (0 : Int32)) (v := (.double x2_0)) (by rw [e26]; exact Ar28.1) (State.isArrayOf_alike hZ.alike Ar28.2.1) Ar28.2.2 in28 (Has.at Ha28 in28 rfl) (g := (mkF m 53 #[.val (.ref o0), .val (.ref o1), .val (.int (0 : Int32))] [(.int (0 : Int32)), (.ref w_potential_o1), (.double y2_0), (.int (0 : Int32)), (.ref w_potential_o0)])) rfl rfl (hb hby d4_53) _ ?_
    show Steps p.tables e below (T26.setTop (mkF m 54 #[.val (.ref o0), .val (.ref o1), .val (.int (0 : Int32))] [(.double x2_0), (.double y2_0), (.int (0 : Int32)), (.ref w_potential_o0)])) _
    refine Jvm.OwnK.dadd X26.here hx rfl (hb hby d4_54) rfl hz54 nn54 ?_
    show Steps p.tables e below (T26.setTop (mkF m 55 #[.val (.ref o0), .val (.ref o1), .val (.int (0 : Int32))] [(.double z54), (.int (0 : Int32)), (.ref w_potential_o0)])) _
    refine st30 _ ?_
    show Steps p.tables e below (T30.setTop (mkF m 56 #[.val (.ref o0), .val (.ref o1), .val (.int (0 : Int32))] [])) _
    refine XS.aloadN X30.here hx rfl (hb hby d4_56) rfl rfl ?_
    show Steps p.tables e below (T30.setTop (mkF m 57 #[.val (.ref o0), .val (.ref o1), .val (.int (0 : Int32))] [(.ref o0)])) _
    refine st33 _ ?_
    show Steps p.tables e below (T33.setTop (mkF m 60 #[.val (.ref o0), .val (.ref o1), .val (.int (0 : Int32))] [(.ref w_trunk_o0)])) _
    refine XS.iloadN X33.here hx rfl (hb hby d4_60) rfl ?_
    show Steps p.tables e below (T33.setTop (mkF m 61 #[.val (.ref o0), .val (.ref o1), .val (.int (0 : Int32))] [(.int (0 : Int32)), (.ref w_trunk_o0)])) _
    refine Jvm.OwnK.dup2 X33.here hx rfl (hb hby d4_61) rfl rfl rfl ?_
    show Steps p.tables e below (T33.setTop (mkF m 62 #[.val (.ref o0), .val (.ref o1), .val (.int (0 : Int32))] [(.int (0 : Int32)), (.ref w_trunk_o0), (.int (0 : Int32)), (.ref w_trunk_o0)])) _
    refine X33.daload hx (j := (0 : Int32)) (v := (.double y3_0)) (by rw [e33]; exact Ar35.1) (State.isArrayOf_alike hZ.alike Ar35.2.1) Ar35.2.2 in35 (Has.at Ha35 in35 rfl) (g := (mkF m 62 #[.val (.ref o0), .val (.ref o1), .val (.int (0 : Int32))] [(.int (0 : Int32)), (.ref w_trunk_o0), (.int (0 : Int32)), (.ref w_trunk_o0)])) rfl rfl (hb hby d4_62) _ ?_
    show Steps p.tables e below (T33.setTop (mkF m 63 #[.val (.ref o0), .val (.ref o1), .val (.int (0 : Int32))] [(.double y3_0), (.int (0 : Int32)), (.ref w_trunk_o0)])) _
    refine XS.aloadN X33.here hx rfl (hb hby d4_63) rfl rfl ?_
    show Steps p.tables e below (T33.setTop (mkF m 64 #[.val (.ref o0), .val (.ref o1), .val (.int (0 : Int32))] [(.ref o1), (.double y3_0), (.int (0 : Int32)), (.ref w_trunk_o0)])) _
    refine st37 _ ?_
    show Steps p.tables e below (T37.setTop (mkF m 67 #[.val (.ref o0), .val (.ref o1), .val (.int (0 : Int32))] [(.ref w_trunk_o1), (.double y3_0), (.int (0 : Int32)), (.ref w_trunk_o0)])) _
    refine XS.iloadN X37.here hx rfl (hb hby d4_67) rfl ?_
    show Steps p.tables e below (T37.setTop (mkF m 68 #[.val (.ref o0), .val (.ref o1), .val (.int (0 : Int32))] [(.int (0 : Int32)), (.ref w_trunk_o1), (.double y3_0), (.int (0 : Int32)), (.ref w_trunk_o0)])) _
    refine X37.daload hx (j := (0 : Int32)) (v := (.double x3_0)) (by rw [e37]; exact Ar39.1) (State.isArrayOf_alike hZ.alike Ar39.2.1) Ar39.2.2 in39 (Has.at Ha39 in39 rfl) (g := (mkF m 68 #[.val (.ref o0), .val (.ref o1), .val (.int (0 : Int32))] [(.int (0 : Int32)), (.ref w_trunk_o1), (.double y3_0), (.int (0 : Int32)), (.ref w_trunk_o0)])) rfl rfl (hb hby d4_68) _ ?_
    show Steps p.tables e below (T37.setTop (mkF m 69 #[.val (.ref o0), .val (.ref o1), .val (.int (0 : Int32))] [(.double x3_0), (.double y3_0), (.int (0 : Int32)), (.ref w_trunk_o0)])) _
    refine Jvm.OwnK.dadd X37.here hx rfl (hb hby d4_69) rfl hz69 nn69 ?_
    show Steps p.tables e below (T37.setTop (mkF m 70 #[.val (.ref o0), .val (.ref o1), .val (.int (0 : Int32))] [(.double z69), (.int (0 : Int32)), (.ref w_trunk_o0)])) _
    refine st41 _ ?_
    show Steps p.tables e below (T41.setTop (mkF m 71 #[.val (.ref o0), .val (.ref o1), .val (.int (0 : Int32))] [])) _
    refine Jvm.OwnK.iinc X41.here hx rfl (hb hby d4_71) rfl (l' := #[.val (.ref o0), .val (.ref o1), .val (.int (1 : Int32))]) (v := (1 : Int32)) (by decide) rfl ?_
    show Steps p.tables e below (T41.setTop (mkF m 74 #[.val (.ref o0), .val (.ref o1), .val (.int (1 : Int32))] [])) _
    refine XS.goto X41.here hx rfl (pc0 := 74) (pc' := 2) rfl (hb hby d4_74) (by decide) (by decide) ?_
    show Steps p.tables e below (T41.setTop (mkF m 2 #[.val (.ref o0), .val (.ref o1), .val (.int (1 : Int32))] [])) _
    refine XS.iloadN X41.here hx rfl (hb hby d4_2) rfl ?_
    show Steps p.tables e below (T41.setTop (mkF m 3 #[.val (.ref o0), .val (.ref o1), .val (.int (1 : Int32))] [(.int (1 : Int32))])) _
    refine XS.aloadN X41.here hx rfl (hb hby d4_3) rfl rfl ?_
    show Steps p.tables e below (T41.setTop (mkF m 4 #[.val (.ref o0), .val (.ref o1), .val (.int (1 : Int32))] [(.ref o0), (.int (1 : Int32))])) _
    refine st44 _ ?_
    show Steps p.tables e below (T44.setTop (mkF m 7 #[.val (.ref o0), .val (.ref o1), .val (.int (1 : Int32))] [(.ref w_direct_o0), (.int (1 : Int32))])) _
    refine X44.arraylength hx (by rw [e44]; exact Ar46.1) (State.isArrayOf_alike hZ.alike Ar46.2.1) (g := (mkF m 7 #[.val (.ref o0), .val (.ref o1), .val (.int (1 : Int32))] [(.ref w_direct_o0), (.int (1 : Int32))])) rfl rfl (hb hby d4_7) _ ?_
    rw [len_of S46 Nn46]
    show Steps p.tables e below (T44.setTop (mkF m 8 #[.val (.ref o0), .val (.ref o1), .val (.int (1 : Int32))] [(.int (3 : Int32)), (.int (1 : Int32))])) _
    refine XS.icmpNo X44.here hx rfl (hb hby d4_8) rfl (Jvm.Free.XT.ii_ge_f (by decide)) ?_
    show Steps p.tables e below (T44.setTop (mkF m 11 #[.val (.ref o0), .val (.ref o1), .val (.int (1 : Int32))] [])) _
    refine XS.aloadN X44.here hx rfl (hb hby d4_11) rfl rfl ?_
    show Steps p.tables e below (T44.setTop (mkF m 12 #[.val (.ref o0), .val (.ref o1), .val (.int (1 : Int32))] [(.ref o0)])) _
    refine st47 _ ?_
    show Steps p.tables e below (T47.setTop (mkF m 15 #[.val (.ref o0), .val (.ref o1), .val (.int (1 : Int32))] [(.ref w_direct_o0)])) _
    refine XS.iloadN X47.here hx rfl (hb hby d4_15) rfl ?_
    show Steps p.tables e below (T47.setTop (mkF m 16 #[.val (.ref o0), .val (.ref o1), .val (.int (1 : Int32))] [(.int (1 : Int32)), (.ref w_direct_o0)])) _
    refine Jvm.OwnK.dup2 X47.here hx rfl (hb hby d4_16) rfl rfl rfl ?_
    show Steps p.tables e below (T47.setTop (mkF m 17 #[.val (.ref o0), .val (.ref o1), .val (.int (1 : Int32))] [(.int (1 : Int32)), (.ref w_direct_o0), (.int (1 : Int32)), (.ref w_direct_o0)])) _
    refine X47.daload hx (j := (1 : Int32)) (v := (.double y0_1)) (by rw [e47]; exact Ar48.1) (State.isArrayOf_alike hZ.alike Ar48.2.1) Ar48.2.2 in48 (Has.at Ha48 in48 rfl) (g := (mkF m 17 #[.val (.ref o0), .val (.ref o1), .val (.int (1 : Int32))] [(.int (1 : Int32)), (.ref w_direct_o0), (.int (1 : Int32)), (.ref w_direct_o0)])) rfl rfl (hb hby d4_17) _ ?_
    show Steps p.tables e below (T47.setTop (mkF m 18 #[.val (.ref o0), .val (.ref o1), .val (.int (1 : Int32))] [(.double y0_1), (.int (1 : Int32)), (.ref w_direct_o0)])) _
    refine XS.aloadN X47.here hx rfl (hb hby d4_18) rfl rfl ?_
    show Steps p.tables e below (T47.setTop (mkF m 19 #[.val (.ref o0), .val (.ref o1), .val (.int (1 : Int32))] [(.ref o1), (.double y0_1), (.int (1 : Int32)), (.ref w_direct_o0)])) _
    refine st50 _ ?_
    show Steps p.tables e below (T50.setTop (mkF m 22 #[.val (.ref o0), .val (.ref o1), .val (.int (1 : Int32))] [(.ref w_direct_o1), (.double y0_1), (.int (1 : Int32)), (.ref w_direct_o0)])) _
    refine XS.iloadN X50.here hx rfl (hb hby d4_22) rfl ?_
    show Steps p.tables e below (T50.setTop (mkF m 23 #[.val (.ref o0), .val (.ref o1), .val (.int (1 : Int32))] [(.int (1 : Int32)), (.ref w_direct_o1), (.double y0_1), (.int (1 : Int32)), (.ref w_direct_o0)])) _
    refine X50.daload hx (j := (1 : Int32)) (v := (.double x0_1)) (by rw [e50]; exact Ar52.1) (State.isArrayOf_alike hZ.alike Ar52.2.1) Ar52.2.2 in52 (Has.at Ha52 in52 rfl) (g := (mkF m 23 #[.val (.ref o0), .val (.ref o1), .val (.int (1 : Int32))] [(.int (1 : Int32)), (.ref w_direct_o1), (.double y0_1), (.int (1 : Int32)), (.ref w_direct_o0)])) rfl rfl (hb hby d4_23) _ ?_
    show Steps p.tables e below (T50.setTop (mkF m 24 #[.val (.ref o0), .val (.ref o1), .val (.int (1 : Int32))] [(.double x0_1), (.double y0_1), (.int (1 : Int32)), (.ref w_direct_o0)])) _
    refine Jvm.OwnK.dadd X50.here hx rfl (hb hby d4_24) rfl hz24_2 nn24_2 ?_
    show Steps p.tables e below (T50.setTop (mkF m 25 #[.val (.ref o0), .val (.ref o1), .val (.int (1 : Int32))] [(.double z24_2), (.int (1 : Int32)), (.ref w_direct_o0)])) _
    refine st54 _ ?_
    show Steps p.tables e below (T54.setTop (mkF m 26 #[.val (.ref o0), .val (.ref o1), .val (.int (1 : Int32))] [])) _
    refine XS.aloadN X54.here hx rfl (hb hby d4_26) rfl rfl ?_
    show Steps p.tables e below (T54.setTop (mkF m 27 #[.val (.ref o0), .val (.ref o1), .val (.int (1 : Int32))] [(.ref o0)])) _
    refine st57 _ ?_
    show Steps p.tables e below (T57.setTop (mkF m 30 #[.val (.ref o0), .val (.ref o1), .val (.int (1 : Int32))] [(.ref w_diffuse_o0)])) _
    refine XS.iloadN X57.here hx rfl (hb hby d4_30) rfl ?_
    show Steps p.tables e below (T57.setTop (mkF m 31 #[.val (.ref o0), .val (.ref o1), .val (.int (1 : Int32))] [(.int (1 : Int32)), (.ref w_diffuse_o0)])) _
    refine Jvm.OwnK.dup2 X57.here hx rfl (hb hby d4_31) rfl rfl rfl ?_
    show Steps p.tables e below (T57.setTop (mkF m 32 #[.val (.ref o0), .val (.ref o1), .val (.int (1 : Int32))] [(.int (1 : Int32)), (.ref w_diffuse_o0), (.int (1 : Int32)), (.ref w_diffuse_o0)])) _
    refine X57.daload hx (j := (1 : Int32)) (v := (.double y1_1)) (by rw [e57]; exact Ar59.1) (State.isArrayOf_alike hZ.alike Ar59.2.1) Ar59.2.2 in59 (Has.at Ha59 in59 rfl) (g := (mkF m 32 #[.val (.ref o0), .val (.ref o1), .val (.int (1 : Int32))] [(.int (1 : Int32)), (.ref w_diffuse_o0), (.int (1 : Int32)), (.ref w_diffuse_o0)])) rfl rfl (hb hby d4_32) _ ?_
    show Steps p.tables e below (T57.setTop (mkF m 33 #[.val (.ref o0), .val (.ref o1), .val (.int (1 : Int32))] [(.double y1_1), (.int (1 : Int32)), (.ref w_diffuse_o0)])) _
    refine XS.aloadN X57.here hx rfl (hb hby d4_33) rfl rfl ?_
    show Steps p.tables e below (T57.setTop (mkF m 34 #[.val (.ref o0), .val (.ref o1), .val (.int (1 : Int32))] [(.ref o1), (.double y1_1), (.int (1 : Int32)), (.ref w_diffuse_o0)])) _
    refine st61 _ ?_
    show Steps p.tables e below (T61.setTop (mkF m 37 #[.val (.ref o0), .val (.ref o1), .val (.int (1 : Int32))] [(.ref w_diffuse_o1), (.double y1_1), (.int (1 : Int32)), (.ref w_diffuse_o0)])) _
    refine XS.iloadN X61.here hx rfl (hb hby d4_37) rfl ?_
    show Steps p.tables e below (T61.setTop (mkF m 38 #[.val (.ref o0), .val (.ref o1), .val (.int (1 : Int32))] [(.int (1 : Int32)), (.ref w_diffuse_o1), (.double y1_1), (.int (1 : Int32)), (.ref w_diffuse_o0)])) _
    refine X61.daload hx (j := (1 : Int32)) (v := (.double x1_1)) (by rw [e61]; exact Ar63.1) (State.isArrayOf_alike hZ.alike Ar63.2.1) Ar63.2.2 in63 (Has.at Ha63 in63 rfl) (g := (mkF m 38 #[.val (.ref o0), .val (.ref o1), .val (.int (1 : Int32))] [(.int (1 : Int32)), (.ref w_diffuse_o1), (.double y1_1), (.int (1 : Int32)), (.ref w_diffuse_o0)])) rfl rfl (hb hby d4_38) _ ?_
    show Steps p.tables e below (T61.setTop (mkF m 39 #[.val (.ref o0), .val (.ref o1), .val (.int (1 : Int32))] [(.double x1_1), (.double y1_1), (.int (1 : Int32)), (.ref w_diffuse_o0)])) _
    refine Jvm.OwnK.dadd X61.here hx rfl (hb hby d4_39) rfl hz39_2 nn39_2 ?_
    show Steps p.tables e below (T61.setTop (mkF m 40 #[.val (.ref o0), .val (.ref o1), .val (.int (1 : Int32))] [(.double z39_2), (.int (1 : Int32)), (.ref w_diffuse_o0)])) _
    refine st65 _ ?_
    show Steps p.tables e below (T65.setTop (mkF m 41 #[.val (.ref o0), .val (.ref o1), .val (.int (1 : Int32))] [])) _
    refine XS.aloadN X65.here hx rfl (hb hby d4_41) rfl rfl ?_
    show Steps p.tables e below (T65.setTop (mkF m 42 #[.val (.ref o0), .val (.ref o1), .val (.int (1 : Int32))] [(.ref o0)])) _
    refine st68 _ ?_
    show Steps p.tables e below (T68.setTop (mkF m 45 #[.val (.ref o0), .val (.ref o1), .val (.int (1 : Int32))] [(.ref w_potential_o0)])) _
    refine XS.iloadN X68.here hx rfl (hb hby d4_45) rfl ?_
    show Steps p.tables e below (T68.setTop (mkF m 46 #[.val (.ref o0), .val (.ref o1), .val (.int (1 : Int32))] [(.int (1 : Int32)), (.ref w_potential_o0)])) _
    refine Jvm.OwnK.dup2 X68.here hx rfl (hb hby d4_46) rfl rfl rfl ?_
    show Steps p.tables e below (T68.setTop (mkF m 47 #[.val (.ref o0), .val (.ref o1), .val (.int (1 : Int32))] [(.int (1 : Int32)), (.ref w_potential_o0), (.int (1 : Int32)), (.ref w_potential_o0)])) _
    refine X68.daload hx (j := (1 : Int32)) (v := (.double y2_1)) (by rw [e68]; exact Ar70.1) (State.isArrayOf_alike hZ.alike Ar70.2.1) Ar70.2.2 in70 (Has.at Ha70 in70 rfl) (g := (mkF m 47 #[.val (.ref o0), .val (.ref o1), .val (.int (1 : Int32))] [(.int (1 : Int32)), (.ref w_potential_o0), (.int (1 : Int32)), (.ref w_potential_o0)])) rfl rfl (hb hby d4_47) _ ?_
    show Steps p.tables e below (T68.setTop (mkF m 48 #[.val (.ref o0), .val (.ref o1), .val (.int (1 : Int32))] [(.double y2_1), (.int (1 : Int32)), (.ref w_potential_o0)])) _
    refine XS.aloadN X68.here hx rfl (hb hby d4_48) rfl rfl ?_
    show Steps p.tables e below (T68.setTop (mkF m 49 #[.val (.ref o0), .val (.ref o1), .val (.int (1 : Int32))] [(.ref o1), (.double y2_1), (.int (1 : Int32)), (.ref w_potential_o0)])) _
    refine st72 _ ?_
    show Steps p.tables e below (T72.setTop (mkF m 52 #[.val (.ref o0), .val (.ref o1), .val (.int (1 : Int32))] [(.ref w_potential_o1), (.double y2_1), (.int (1 : Int32)), (.ref w_potential_o0)])) _
    refine XS.iloadN X72.here hx rfl (hb hby d4_52) rfl ?_
    show Steps p.tables e below (T72.setTop (mkF m 53 #[.val (.ref o0), .val (.ref o1), .val (.int (1 : Int32))] [(.int (1 : Int32)), (.ref w_potential_o1), (.double y2_1), (.int (1 : Int32)), (.ref w_potential_o0)])) _
    refine X72.daload hx (j := (1 : Int32)) (v := (.double x2_1)) (by rw [e72]; exact Ar74.1) (State.isArrayOf_alike hZ.alike Ar74.2.1) Ar74.2.2 in74 (Has.at Ha74 in74 rfl) (g := (mkF m 53 #[.val (.ref o0), .val (.ref o1), .val (.int (1 : Int32))] [(.int (1 : Int32)), (.ref w_potential_o1), (.double y2_1), (.int (1 : Int32)), (.ref w_potential_o0)])) rfl rfl (hb hby d4_53) _ ?_
    show Steps p.tables e below (T72.setTop (mkF m 54 #[.val (.ref o0), .val (.ref o1), .val (.int (1 : Int32))] [(.double x2_1), (.double y2_1), (.int (1 : Int32)), (.ref w_potential_o0)])) _
    refine Jvm.OwnK.dadd X72.here hx rfl (hb hby d4_54) rfl hz54_2 nn54_2 ?_
    show Steps p.tables e below (T72.setTop (mkF m 55 #[.val (.ref o0), .val (.ref o1), .val (.int (1 : Int32))] [(.double z54_2), (.int (1 : Int32)), (.ref w_potential_o0)])) _
    refine st76 _ ?_
    show Steps p.tables e below (T76.setTop (mkF m 56 #[.val (.ref o0), .val (.ref o1), .val (.int (1 : Int32))] [])) _
    refine XS.aloadN X76.here hx rfl (hb hby d4_56) rfl rfl ?_
    show Steps p.tables e below (T76.setTop (mkF m 57 #[.val (.ref o0), .val (.ref o1), .val (.int (1 : Int32))] [(.ref o0)])) _
    refine st79 _ ?_
    show Steps p.tables e below (T79.setTop (mkF m 60 #[.val (.ref o0), .val (.ref o1), .val (.int (1 : Int32))] [(.ref w_trunk_o0)])) _
    refine XS.iloadN X79.here hx rfl (hb hby d4_60) rfl ?_
    show Steps p.tables e below (T79.setTop (mkF m 61 #[.val (.ref o0), .val (.ref o1), .val (.int (1 : Int32))] [(.int (1 : Int32)), (.ref w_trunk_o0)])) _
    refine Jvm.OwnK.dup2 X79.here hx rfl (hb hby d4_61) rfl rfl rfl ?_
    show Steps p.tables e below (T79.setTop (mkF m 62 #[.val (.ref o0), .val (.ref o1), .val (.int (1 : Int32))] [(.int (1 : Int32)), (.ref w_trunk_o0), (.int (1 : Int32)), (.ref w_trunk_o0)])) _
    refine X79.daload hx (j := (1 : Int32)) (v := (.double y3_1)) (by rw [e79]; exact Ar81.1) (State.isArrayOf_alike hZ.alike Ar81.2.1) Ar81.2.2 in81 (Has.at Ha81 in81 rfl) (g := (mkF m 62 #[.val (.ref o0), .val (.ref o1), .val (.int (1 : Int32))] [(.int (1 : Int32)), (.ref w_trunk_o0), (.int (1 : Int32)), (.ref w_trunk_o0)])) rfl rfl (hb hby d4_62) _ ?_
    show Steps p.tables e below (T79.setTop (mkF m 63 #[.val (.ref o0), .val (.ref o1), .val (.int (1 : Int32))] [(.double y3_1), (.int (1 : Int32)), (.ref w_trunk_o0)])) _
    refine XS.aloadN X79.here hx rfl (hb hby d4_63) rfl rfl ?_
    show Steps p.tables e below (T79.setTop (mkF m 64 #[.val (.ref o0), .val (.ref o1), .val (.int (1 : Int32))] [(.ref o1), (.double y3_1), (.int (1 : Int32)), (.ref w_trunk_o0)])) _
    refine st83 _ ?_
    show Steps p.tables e below (T83.setTop (mkF m 67 #[.val (.ref o0), .val (.ref o1), .val (.int (1 : Int32))] [(.ref w_trunk_o1), (.double y3_1), (.int (1 : Int32)), (.ref w_trunk_o0)])) _
    refine XS.iloadN X83.here hx rfl (hb hby d4_67) rfl ?_
    show Steps p.tables e below (T83.setTop (mkF m 68 #[.val (.ref o0), .val (.ref o1), .val (.int (1 : Int32))] [(.int (1 : Int32)), (.ref w_trunk_o1), (.double y3_1), (.int (1 : Int32)), (.ref w_trunk_o0)])) _
    refine X83.daload hx (j := (1 : Int32)) (v := (.double x3_1)) (by rw [e83]; exact Ar85.1) (State.isArrayOf_alike hZ.alike Ar85.2.1) Ar85.2.2 in85 (Has.at Ha85 in85 rfl) (g := (mkF m 68 #[.val (.ref o0), .val (.ref o1), .val (.int (1 : Int32))] [(.int (1 : Int32)), (.ref w_trunk_o1), (.double y3_1), (.int (1 : Int32)), (.ref w_trunk_o0)])) rfl rfl (hb hby d4_68) _ ?_
    show Steps p.tables e below (T83.setTop (mkF m 69 #[.val (.ref o0), .val (.ref o1), .val (.int (1 : Int32))] [(.double x3_1), (.double y3_1), (.int (1 : Int32)), (.ref w_trunk_o0)])) _
    refine Jvm.OwnK.dadd X83.here hx rfl (hb hby d4_69) rfl hz69_2 nn69_2 ?_
    show Steps p.tables e below (T83.setTop (mkF m 70 #[.val (.ref o0), .val (.ref o1), .val (.int (1 : Int32))] [(.double z69_2), (.int (1 : Int32)), (.ref w_trunk_o0)])) _
    refine st87 _ ?_
    show Steps p.tables e below (T87.setTop (mkF m 71 #[.val (.ref o0), .val (.ref o1), .val (.int (1 : Int32))] [])) _
    refine Jvm.OwnK.iinc X87.here hx rfl (hb hby d4_71) rfl (l' := #[.val (.ref o0), .val (.ref o1), .val (.int (2 : Int32))]) (v := (2 : Int32)) (by decide) rfl ?_
    show Steps p.tables e below (T87.setTop (mkF m 74 #[.val (.ref o0), .val (.ref o1), .val (.int (2 : Int32))] [])) _
    refine XS.goto X87.here hx rfl (pc0 := 74) (pc' := 2) rfl (hb hby d4_74) (by decide) (by decide) ?_
    show Steps p.tables e below (T87.setTop (mkF m 2 #[.val (.ref o0), .val (.ref o1), .val (.int (2 : Int32))] [])) _
    refine XS.iloadN X87.here hx rfl (hb hby d4_2) rfl ?_
    show Steps p.tables e below (T87.setTop (mkF m 3 #[.val (.ref o0), .val (.ref o1), .val (.int (2 : Int32))] [(.int (2 : Int32))])) _
    refine XS.aloadN X87.here hx rfl (hb hby d4_3) rfl rfl ?_
    show Steps p.tables e below (T87.setTop (mkF m 4 #[.val (.ref o0), .val (.ref o1), .val (.int (2 : Int32))] [(.ref o0), (.int (2 : Int32))])) _
    refine st90 _ ?_
    show Steps p.tables e below (T90.setTop (mkF m 7 #[.val (.ref o0), .val (.ref o1), .val (.int (2 : Int32))] [(.ref w_direct_o0), (.int (2 : Int32))])) _
    refine X90.arraylength hx (by rw [e90]; exact Ar92.1) (State.isArrayOf_alike hZ.alike Ar92.2.1) (g := (mkF m 7 #[.val (.ref o0), .val (.ref o1), .val (.int (2 : Int32))] [(.ref w_direct_o0), (.int (2 : Int32))])) rfl rfl (hb hby d4_7) _ ?_
    rw [len_of S92 Nn92]
    show Steps p.tables e below (T90.setTop (mkF m 8 #[.val (.ref o0), .val (.ref o1), .val (.int (2 : Int32))] [(.int (3 : Int32)), (.int (2 : Int32))])) _
    refine XS.icmpNo X90.here hx rfl (hb hby d4_8) rfl (Jvm.Free.XT.ii_ge_f (by decide)) ?_
    show Steps p.tables e below (T90.setTop (mkF m 11 #[.val (.ref o0), .val (.ref o1), .val (.int (2 : Int32))] [])) _
    refine XS.aloadN X90.here hx rfl (hb hby d4_11) rfl rfl ?_
    show Steps p.tables e below (T90.setTop (mkF m 12 #[.val (.ref o0), .val (.ref o1), .val (.int (2 : Int32))] [(.ref o0)])) _
    refine st93 _ ?_
    show Steps p.tables e below (T93.setTop (mkF m 15 #[.val (.ref o0), .val (.ref o1), .val (.int (2 : Int32))] [(.ref w_direct_o0)])) _
    refine XS.iloadN X93.here hx rfl (hb hby d4_15) rfl ?_
    show Steps p.tables e below (T93.setTop (mkF m 16 #[.val (.ref o0), .val (.ref o1), .val (.int (2 : Int32))] [(.int (2 : Int32)), (.ref w_direct_o0)])) _
    refine Jvm.OwnK.dup2 X93.here hx rfl (hb hby d4_16) rfl rfl rfl ?_
    show Steps p.tables e below (T93.setTop (mkF m 17 #[.val (.ref o0), .val (.ref o1), .val (.int (2 : Int32))] [(.int (2 : Int32)), (.ref w_direct_o0), (.int (2 : Int32)), (.ref w_direct_o0)])) _
    refine X93.daload hx (j := (2 : Int32)) (v := (.double y0_2)) (by rw [e93]; exact Ar94.1) (State.isArrayOf_alike hZ.alike Ar94.2.1) Ar94.2.2 in94 (Has.at Ha94 in94 rfl) (g := (mkF m 17 #[.val (.ref o0), .val (.ref o1), .val (.int (2 : Int32))] [(.int (2 : Int32)), (.ref w_direct_o0), (.int (2 : Int32)), (.ref w_direct_o0)])) rfl rfl (hb hby d4_17) _ ?_
    show Steps p.tables e below (T93.setTop (mkF m 18 #[.val (.ref o0), .val (.ref o1), .val (.int (2 : Int32))] [(.double y0_2), (.int (2 : Int32)), (.ref w_direct_o0)])) _
    refine XS.aloadN X93.here hx rfl (hb hby d4_18) rfl rfl ?_
    show Steps p.tables e below (T93.setTop (mkF m 19 #[.val (.ref o0), .val (.ref o1), .val (.int (2 : Int32))] [(.ref o1), (.double y0_2), (.int (2 : Int32)), (.ref w_direct_o0)])) _
    refine st96 _ ?_
    show Steps p.tables e below (T96.setTop (mkF m 22 #[.val (.ref o0), .val (.ref o1), .val (.int (2 : Int32))] [(.ref w_direct_o1), (.double y0_2), (.int (2 : Int32)), (.ref w_direct_o0)])) _
    refine XS.iloadN X96.here hx rfl (hb hby d4_22) rfl ?_
    show Steps p.tables e below (T96.setTop (mkF m 23 #[.val (.ref o0), .val (.ref o1), .val (.int (2 : Int32))] [(.int (2 : Int32)), (.ref w_direct_o1), (.double y0_2), (.int (2 : Int32)), (.ref w_direct_o0)])) _
    refine X96.daload hx (j := (2 : Int32)) (v := (.double x0_2)) (by rw [e96]; exact Ar98.1) (State.isArrayOf_alike hZ.alike Ar98.2.1) Ar98.2.2 in98 (Has.at Ha98 in98 rfl) (g := (mkF m 23 #[.val (.ref o0), .val (.ref o1), .val (.int (2 : Int32))] [(.int (2 : Int32)), (.ref w_direct_o1), (.double y0_2), (.int (2 : Int32)), (.ref w_direct_o0)])) rfl rfl (hb hby d4_23) _ ?_
    show Steps p.tables e below (T96.setTop (mkF m 24 #[.val (.ref o0), .val (.ref o1), .val (.int (2 : Int32))] [(.double x0_2), (.double y0_2), (.int (2 : Int32)), (.ref w_direct_o0)])) _
    refine Jvm.OwnK.dadd X96.here hx rfl (hb hby d4_24) rfl hz24_3 nn24_3 ?_
    show Steps p.tables e below (T96.setTop (mkF m 25 #[.val (.ref o0), .val (.ref o1), .val (.int (2 : Int32))] [(.double z24_3), (.int (2 : Int32)), (.ref w_direct_o0)])) _
    refine st100 _ ?_
    show Steps p.tables e below (T100.setTop (mkF m 26 #[.val (.ref o0), .val (.ref o1), .val (.int (2 : Int32))] [])) _
    refine XS.aloadN X100.here hx rfl (hb hby d4_26) rfl rfl ?_
    show Steps p.tables e below (T100.setTop (mkF m 27 #[.val (.ref o0), .val (.ref o1), .val (.int (2 : Int32))] [(.ref o0)])) _
    refine st103 _ ?_
    show Steps p.tables e below (T103.setTop (mkF m 30 #[.val (.ref o0), .val (.ref o1), .val (.int (2 : Int32))] [(.ref w_diffuse_o0)])) _
    refine XS.iloadN X103.here hx rfl (hb hby d4_30) rfl ?_
    show Steps p.tables e below (T103.setTop (mkF m 31 #[.val (.ref o0), .val (.ref o1), .val (.int (2 : Int32))] [(.int (2 : Int32)), (.ref w_diffuse_o0)])) _
    refine Jvm.OwnK.dup2 X103.here hx rfl (hb hby d4_31) rfl rfl rfl ?_
    show Steps p.tables e below (T103.setTop (mkF m 32 #[.val (.ref o0), .val (.ref o1), .val (.int (2 : Int32))] [(.int (2 : Int32)), (.ref w_diffuse_o0), (.int (2 : Int32)), (.ref w_diffuse_o0)])) _
    refine X103.daload hx (j := (2 : Int32)) (v := (.double y1_2)) (by rw [e103]; exact Ar105.1) (State.isArrayOf_alike hZ.alike Ar105.2.1) Ar105.2.2 in105 (Has.at Ha105 in105 rfl) (g := (mkF m 32 #[.val (.ref o0), .val (.ref o1), .val (.int (2 : Int32))] [(.int (2 : Int32)), (.ref w_diffuse_o0), (.int (2 : Int32)), (.ref w_diffuse_o0)])) rfl rfl (hb hby d4_32) _ ?_
    show Steps p.tables e below (T103.setTop (mkF m 33 #[.val (.ref o0), .val (.ref o1), .val (.int (2 : Int32))] [(.double y1_2), (.int (2 : Int32)), (.ref w_diffuse_o0)])) _
    refine XS.aloadN X103.here hx rfl (hb hby d4_33) rfl rfl ?_
    show Steps p.tables e below (T103.setTop (mkF m 34 #[.val (.ref o0), .val (.ref o1), .val (.int (2 : Int32))] [(.ref o1), (.double y1_2), (.int (2 : Int32)), (.ref w_diffuse_o0)])) _
    refine st107 _ ?_
    show Steps p.tables e below (T107.setTop (mkF m 37 #[.val (.ref o0), .val (.ref o1), .val (.int (2 : Int32))] [(.ref w_diffuse_o1), (.double y1_2), (.int (2 : Int32)), (.ref w_diffuse_o0)])) _
    refine XS.iloadN X107.here hx rfl (hb hby d4_37) rfl ?_
    show Steps p.tables e below (T107.setTop (mkF m 38 #[.val (.ref o0), .val (.ref o1), .val (.int (2 : Int32))] [(.int (2 : Int32)), (.ref w_diffuse_o1), (.double y1_2), (.int (2 : Int32)), (.ref w_diffuse_o0)])) _
    refine X107.daload hx (j := (2 : Int32)) (v := (.double x1_2)) (by rw [e107]; exact Ar109.1) (State.isArrayOf_alike hZ.alike Ar109.2.1) Ar109.2.2 in109 (Has.at Ha109 in109 rfl) (g := (mkF m 38 #[.val (.ref o0), .val (.ref o1), .val (.int (2 : Int32))] [(.int (2 : Int32)), (.ref w_diffuse_o1), (.double y1_2), (.int (2 : Int32)), (.ref w_diffuse_o0)])) rfl rfl (hb hby d4_38) _ ?_
    show Steps p.tables e below (T107.setTop (mkF m 39 #[.val (.ref o0), .val (.ref o1), .val (.int (2 : Int32))] [(.double x1_2), (.double y1_2), (.int (2 : Int32)), (.ref w_diffuse_o0)])) _
    refine Jvm.OwnK.dadd X107.here hx rfl (hb hby d4_39) rfl hz39_3 nn39_3 ?_
    show Steps p.tables e below (T107.setTop (mkF m 40 #[.val (.ref o0), .val (.ref o1), .val (.int (2 : Int32))] [(.double z39_3), (.int (2 : Int32)), (.ref w_diffuse_o0)])) _
    refine st111 _ ?_
    show Steps p.tables e below (T111.setTop (mkF m 41 #[.val (.ref o0), .val (.ref o1), .val (.int (2 : Int32))] [])) _
    refine XS.aloadN X111.here hx rfl (hb hby d4_41) rfl rfl ?_
    show Steps p.tables e below (T111.setTop (mkF m 42 #[.val (.ref o0), .val (.ref o1), .val (.int (2 : Int32))] [(.ref o0)])) _
    refine st114 _ ?_
    show Steps p.tables e below (T114.setTop (mkF m 45 #[.val (.ref o0), .val (.ref o1), .val (.int (2 : Int32))] [(.ref w_potential_o0)])) _
    refine XS.iloadN X114.here hx rfl (hb hby d4_45) rfl ?_
    show Steps p.tables e below (T114.setTop (mkF m 46 #[.val (.ref o0), .val (.ref o1), .val (.int (2 : Int32))] [(.int (2 : Int32)), (.ref w_potential_o0)])) _
    refine Jvm.OwnK.dup2 X114.here hx rfl (hb hby d4_46) rfl rfl rfl ?_
    show Steps p.tables e below (T114.setTop (mkF m 47 #[.val (.ref o0), .val (.ref o1), .val (.int (2 : Int32))] [(.int (2 : Int32)), (.ref w_potential_o0), (.int (2 : Int32)), (.ref w_potential_o0)])) _
    refine X114.daload hx (j := (2 : Int32)) (v := (.double y2_2)) (by rw [e114]; exact Ar116.1) (State.isArrayOf_alike hZ.alike Ar116.2.1) Ar116.2.2 in116 (Has.at Ha116 in116 rfl) (g := (mkF m 47 #[.val (.ref o0), .val (.ref o1), .val (.int (2 : Int32))] [(.int (2 : Int32)), (.ref w_potential_o0), (.int (2 : Int32)), (.ref w_potential_o0)])) rfl rfl (hb hby d4_47) _ ?_
    show Steps p.tables e below (T114.setTop (mkF m 48 #[.val (.ref o0), .val (.ref o1), .val (.int (2 : Int32))] [(.double y2_2), (.int (2 : Int32)), (.ref w_potential_o0)])) _
    refine XS.aloadN X114.here hx rfl (hb hby d4_48) rfl rfl ?_
    show Steps p.tables e below (T114.setTop (mkF m 49 #[.val (.ref o0), .val (.ref o1), .val (.int (2 : Int32))] [(.ref o1), (.double y2_2), (.int (2 : Int32)), (.ref w_potential_o0)])) _
    refine st118 _ ?_
    show Steps p.tables e below (T118.setTop (mkF m 52 #[.val (.ref o0), .val (.ref o1), .val (.int (2 : Int32))] [(.ref w_potential_o1), (.double y2_2), (.int (2 : Int32)), (.ref w_potential_o0)])) _
    refine XS.iloadN X118.here hx rfl (hb hby d4_52) rfl ?_
    show Steps p.tables e below (T118.setTop (mkF m 53 #[.val (.ref o0), .val (.ref o1), .val (.int (2 : Int32))] [(.int (2 : Int32)), (.ref w_potential_o1), (.double y2_2), (.int (2 : Int32)), (.ref w_potential_o0)])) _
    refine X118.daload hx (j := (2 : Int32)) (v := (.double x2_2)) (by rw [e118]; exact Ar120.1) (State.isArrayOf_alike hZ.alike Ar120.2.1) Ar120.2.2 in120 (Has.at Ha120 in120 rfl) (g := (mkF m 53 #[.val (.ref o0), .val (.ref o1), .val (.int (2 : Int32))] [(.int (2 : Int32)), (.ref w_potential_o1), (.double y2_2), (.int (2 : Int32)), (.ref w_potential_o0)])) rfl rfl (hb hby d4_53) _ ?_
    show Steps p.tables e below (T118.setTop (mkF m 54 #[.val (.ref o0), .val (.ref o1), .val (.int (2 : Int32))] [(.double x2_2), (.double y2_2), (.int (2 : Int32)), (.ref w_potential_o0)])) _
    refine Jvm.OwnK.dadd X118.here hx rfl (hb hby d4_54) rfl hz54_3 nn54_3 ?_
    show Steps p.tables e below (T118.setTop (mkF m 55 #[.val (.ref o0), .val (.ref o1), .val (.int (2 : Int32))] [(.double z54_3), (.int (2 : Int32)), (.ref w_potential_o0)])) _
    refine st122 _ ?_
    show Steps p.tables e below (T122.setTop (mkF m 56 #[.val (.ref o0), .val (.ref o1), .val (.int (2 : Int32))] [])) _
    refine XS.aloadN X122.here hx rfl (hb hby d4_56) rfl rfl ?_
    show Steps p.tables e below (T122.setTop (mkF m 57 #[.val (.ref o0), .val (.ref o1), .val (.int (2 : Int32))] [(.ref o0)])) _
    refine st125 _ ?_
    show Steps p.tables e below (T125.setTop (mkF m 60 #[.val (.ref o0), .val (.ref o1), .val (.int (2 : Int32))] [(.ref w_trunk_o0)])) _
    refine XS.iloadN X125.here hx rfl (hb hby d4_60) rfl ?_
    show Steps p.tables e below (T125.setTop (mkF m 61 #[.val (.ref o0), .val (.ref o1), .val (.int (2 : Int32))] [(.int (2 : Int32)), (.ref w_trunk_o0)])) _
    refine Jvm.OwnK.dup2 X125.here hx rfl (hb hby d4_61) rfl rfl rfl ?_
    show Steps p.tables e below (T125.setTop (mkF m 62 #[.val (.ref o0), .val (.ref o1), .val (.int (2 : Int32))] [(.int (2 : Int32)), (.ref w_trunk_o0), (.int (2 : Int32)), (.ref w_trunk_o0)])) _
    refine X125.daload hx (j := (2 : Int32)) (v := (.double y3_2)) (by rw [e125]; exact Ar127.1) (State.isArrayOf_alike hZ.alike Ar127.2.1) Ar127.2.2 in127 (Has.at Ha127 in127 rfl) (g := (mkF m 62 #[.val (.ref o0), .val (.ref o1), .val (.int (2 : Int32))] [(.int (2 : Int32)), (.ref w_trunk_o0), (.int (2 : Int32)), (.ref w_trunk_o0)])) rfl rfl (hb hby d4_62) _ ?_
    show Steps p.tables e below (T125.setTop (mkF m 63 #[.val (.ref o0), .val (.ref o1), .val (.int (2 : Int32))] [(.double y3_2), (.int (2 : Int32)), (.ref w_trunk_o0)])) _
    refine XS.aloadN X125.here hx rfl (hb hby d4_63) rfl rfl ?_
    show Steps p.tables e below (T125.setTop (mkF m 64 #[.val (.ref o0), .val (.ref o1), .val (.int (2 : Int32))] [(.ref o1), (.double y3_2), (.int (2 : Int32)), (.ref w_trunk_o0)])) _
    refine st129 _ ?_
    show Steps p.tables e below (T129.setTop (mkF m 67 #[.val (.ref o0), .val (.ref o1), .val (.int (2 : Int32))] [(.ref w_trunk_o1), (.double y3_2), (.int (2 : Int32)), (.ref w_trunk_o0)])) _
    refine XS.iloadN X129.here hx rfl (hb hby d4_67) rfl ?_
    show Steps p.tables e below (T129.setTop (mkF m 68 #[.val (.ref o0), .val (.ref o1), .val (.int (2 : Int32))] [(.int (2 : Int32)), (.ref w_trunk_o1), (.double y3_2), (.int (2 : Int32)), (.ref w_trunk_o0)])) _
    refine X129.daload hx (j := (2 : Int32)) (v := (.double x3_2)) (by rw [e129]; exact Ar131.1) (State.isArrayOf_alike hZ.alike Ar131.2.1) Ar131.2.2 in131 (Has.at Ha131 in131 rfl) (g := (mkF m 68 #[.val (.ref o0), .val (.ref o1), .val (.int (2 : Int32))] [(.int (2 : Int32)), (.ref w_trunk_o1), (.double y3_2), (.int (2 : Int32)), (.ref w_trunk_o0)])) rfl rfl (hb hby d4_68) _ ?_
    show Steps p.tables e below (T129.setTop (mkF m 69 #[.val (.ref o0), .val (.ref o1), .val (.int (2 : Int32))] [(.double x3_2), (.double y3_2), (.int (2 : Int32)), (.ref w_trunk_o0)])) _
    refine Jvm.OwnK.dadd X129.here hx rfl (hb hby d4_69) rfl hz69_3 nn69_3 ?_
    show Steps p.tables e below (T129.setTop (mkF m 70 #[.val (.ref o0), .val (.ref o1), .val (.int (2 : Int32))] [(.double z69_3), (.int (2 : Int32)), (.ref w_trunk_o0)])) _
    refine st133 _ ?_
    show Steps p.tables e below (T133.setTop (mkF m 71 #[.val (.ref o0), .val (.ref o1), .val (.int (2 : Int32))] [])) _
    refine Jvm.OwnK.iinc X133.here hx rfl (hb hby d4_71) rfl (l' := #[.val (.ref o0), .val (.ref o1), .val (.int (3 : Int32))]) (v := (3 : Int32)) (by decide) rfl ?_
    show Steps p.tables e below (T133.setTop (mkF m 74 #[.val (.ref o0), .val (.ref o1), .val (.int (3 : Int32))] [])) _
    refine XS.goto X133.here hx rfl (pc0 := 74) (pc' := 2) rfl (hb hby d4_74) (by decide) (by decide) ?_
    show Steps p.tables e below (T133.setTop (mkF m 2 #[.val (.ref o0), .val (.ref o1), .val (.int (3 : Int32))] [])) _
    refine XS.iloadN X133.here hx rfl (hb hby d4_2) rfl ?_
    show Steps p.tables e below (T133.setTop (mkF m 3 #[.val (.ref o0), .val (.ref o1), .val (.int (3 : Int32))] [(.int (3 : Int32))])) _
    refine XS.aloadN X133.here hx rfl (hb hby d4_3) rfl rfl ?_
    show Steps p.tables e below (T133.setTop (mkF m 4 #[.val (.ref o0), .val (.ref o1), .val (.int (3 : Int32))] [(.ref o0), (.int (3 : Int32))])) _
    refine st136 _ ?_
    show Steps p.tables e below (T136.setTop (mkF m 7 #[.val (.ref o0), .val (.ref o1), .val (.int (3 : Int32))] [(.ref w_direct_o0), (.int (3 : Int32))])) _
    refine X136.arraylength hx (by rw [e136]; exact Ar138.1) (State.isArrayOf_alike hZ.alike Ar138.2.1) (g := (mkF m 7 #[.val (.ref o0), .val (.ref o1), .val (.int (3 : Int32))] [(.ref w_direct_o0), (.int (3 : Int32))])) rfl rfl (hb hby d4_7) _ ?_
    rw [len_of S138 Nn138]
    show Steps p.tables e below (T136.setTop (mkF m 8 #[.val (.ref o0), .val (.ref o1), .val (.int (3 : Int32))] [(.int (3 : Int32)), (.int (3 : Int32))])) _
    refine XS.icmpYes X136.here hx rfl (pc0 := 8) (pc' := 77) rfl (hb hby d4_8) rfl (Jvm.Free.XT.ii_ge_t (by decide)) (by decide) (by decide) ?_
    exact k
  obtain ⟨fs, hr, hrun, hended, hW, hsame⟩ := X136.leave (v := none) (fun _ => rfl)
  refine ⟨_, _, c139 _ ?_, hrun, hended, _, _, rfl, ?_, ⟨_, rfl⟩, hW, hsame.mono (by decide) (by decide)⟩
  · show Steps p.tables e below (T136.setTop (mkF m 77 #[.val (.ref o0), .val (.ref o1), .val (.int (3 : Int32))] [])) _
    exact X136.returnOut hx Bd.returns (hb hby d4_77) hr
  · show Q4_3 Z o0 o1 k_w_direct_o0 y0_0 y0_1 y0_2 k_w_direct_o1 x0_0 x0_1 x0_2 k_w_diffuse_o0 y1_0 y1_1 y1_2 k_w_diffuse_o1 x1_0 x1_1 x1_2 k_w_potential_o0 y2_0 y2_1 y2_2 k_w_potential_o1 x2_0 x2_1 x2_2 k_w_trunk_o0 y3_0 y3_1 y3_2 k_w_trunk_o1 x3_0 x3_1 x3_2 w_direct_o0 w_direct_o1 w_diffuse_o0 w_diffuse_o1 w_potential_o0 w_potential_o1 w_trunk_o0 w_trunk_o1 z24 z39 z54 z69 z24_2 z39_2 z54_2 z69_2 z24_3 z39_3 z54_3 z69_3 h0 n0 _ T136.heap _
    rw [e136]
    exact ⟨rfl, N133, K134, f137, ((V111.other W122 ne_w_diffuse_o0_w_potential_o0).other W133 ne_w_diffuse_o0_w_trunk_o0), (V122.other W133 ne_w_potential_o0_w_trunk_o0), V133⟩
def Q5_0 (Z : State) (o0 : Addr) (p2 : Int32) (p3 : Int32) (p4 : Int32) (k_o0 : ClassId)  (h0 : Heap) (n0 : Nat) (v : Option Value) (h : Heap) (L : List Loc) : Prop := v = some (.int (1 : Int32)) ∧ Fr n0 L ∧ h = h0
set_option maxRecDepth 65536 in
set_option maxHeartbeats 40000000 in
theorem rm5_0 (l : Launch) (Z : State) (a0 : Array Value) (hw : ∀ d ∈ tables_1, d.before a0 Z = true) (ws : List Jvm.Cond) (o0 : Addr) (p2 : Int32) (p3 : Int32) (p4 : Int32) (k_o0 : ClassId)  (h0 : Heap) (n0 : Nat) (Z0 : n0 ≤ h0.size) (V_o0 : Arv Z h0 o0 k_o0 .double (0 : Int32) [] (.double (0 : UInt64))) :
    MetFree l (⟨"com/example/lumenstand/lumenstand/light/InterceptionAddPinLaw", "sum", "([DIIII)Z"⟩ : MethodName) (head1 (Jvm.Cond.code (⟨"com/example/lumenstand/lumenstand/light/InterceptionAddPinLaw", "sum", "([DIIII)Z"⟩ : MethodName) method_5_code 5 (some .boolean) :: ws) ({ frames := 0, cells := 0, slots := 0, locals := 0 } : Room)) (fun a U => a = #[(.ref o0), (.int (0 : Int32)), (.int p2), (.int p3), (.int p4)] ∧ Z.Warmed39 U.vm ∧ U.heap = h0) (fun _ _ _ _ _ => True) (fun _ U o U' => ∃ v L, o = .returned v ∧ Q5_0 Z o0 p2 p3 p4 k_o0  h0 n0 v U'.heap L ∧ FrameEnd U o U' L ({ frames := 0, cells := 0, slots := 0, locals := 0 } : Room).cells ({ frames := 0, cells := 0, slots := 0, locals := 0 } : Room).slots) := by
  refine MetFree.of_bodySF (plainFor_of_name pn_0) hisR ?_
  intro p e s m args below meth c s₁ Bd hml0 hP hK
  obtain ⟨rfl, hZ, hh⟩ := hP
  have hx := Bd.exec
  have hby := Bd.bytes
  have hml : c.maxLocals = 5 := hml0
  have hown : s.vm.findClass "com/example/lumenstand/lumenstand/light/InterceptionAddPinLaw" = some m.cls := findClass_of_methodNamed Bd.named
  have hnm := (name_of_methodNamed Bd.named Bd.method).1
  have X0 : Stand p l e ({ frames := 0, cells := 0, slots := 0, locals := 0 } : Room) s m #[(.ref o0), (.int (0 : Int32)), (.int p2), (.int p3), (.int p4)] below meth c s₁ [] 0 0 := Stand.of_body Bd
  have e0 : s₁.heap = h0 := by rw [← hh, Bd.state]; rfl
  have N0 := Fr.nil n0
  have c0 : ∀ t, Steps p.tables e below (s₁.setTop (mkF m 0 #[.val (.ref o0), .val (.int (0 : Int32)), .val (.int p2), .val (.int p3), .val (.int p4)] [])) t → Steps p.tables e below (s₁.setTop (entryFrame m #[(.ref o0), (.int (0 : Int32)), (.int p2), (.int p3), (.int p4)] 5)) t := fun t k => castTop (ef_rm5_0 m o0 p2 p3 p4) k
  obtain ⟨cl1, Ar1, -, S1, Nn1, -, -⟩ := id V_o0
  have c2 : ∀ t, Steps p.tables e below (s₁.setTop (mkF m 89 #[.val (.ref o0), .val (.int (0 : Int32)), .val (.int p2), .val (.int p3), .val (.int p4)] [(.int (1 : Int32))])) t → Steps p.tables e below (s₁.setTop (entryFrame m #[(.ref o0), (.int (0 : Int32)), (.int p2), (.int p3), (.int p4)] 5)) t := by
    intro t k
    refine c0 t ?_
    show Steps p.tables e below (s₁.setTop (mkF m 0 #[.val (.ref o0), .val (.int (0 : Int32)), .val (.int p2), .val (.int p3), .val (.int p4)] [])) _
    refine XS.aloadN X0.here hx rfl (hb hby d5_0) rfl rfl ?_
    show Steps p.tables e below (s₁.setTop (mkF m 1 #[.val (.ref o0), .val (.int (0 : Int32)), .val (.int p2), .val (.int p3), .val (.int p4)] [(.ref o0)])) _
    refine X0.arraylength hx (by rw [e0]; exact Ar1.1) (State.isArrayOf_alike hZ.alike Ar1.2.1) (g := (mkF m 1 #[.val (.ref o0), .val (.int (0 : Int32)), .val (.int p2), .val (.int p3), .val (.int p4)] [(.ref o0)])) rfl rfl (hb hby d5_1) _ ?_
    rw [len_of S1 Nn1]
    show Steps p.tables e below (s₁.setTop (mkF m 2 #[.val (.ref o0), .val (.int (0 : Int32)), .val (.int p2), .val (.int p3), .val (.int p4)] [(.int (0 : Int32))])) _
    refine XS.iloadN X0.here hx rfl (hb hby d5_2) rfl ?_
    show Steps p.tables e below (s₁.setTop (mkF m 3 #[.val (.ref o0), .val (.int (0 : Int32)), .val (.int p2), .val (.int p3), .val (.int p4)] [(.int (0 : Int32)), (.int (0 : Int32))])) _
    refine XS.icmpNo X0.here hx rfl (hb hby d5_3) rfl (Jvm.Free.XT.ii_ne_f (by decide)) ?_
    show Steps p.tables e below (s₁.setTop (mkF m 6 #[.val (.ref o0), .val (.int (0 : Int32)), .val (.int p2), .val (.int p3), .val (.int p4)] [])) _
    refine XS.iloadN X0.here hx rfl (hb hby d5_6) rfl ?_
    show Steps p.tables e below (s₁.setTop (mkF m 7 #[.val (.ref o0), .val (.int (0 : Int32)), .val (.int p2), .val (.int p3), .val (.int p4)] [(.int (0 : Int32))])) _
    refine XS.iconst X0.here hx rfl (hb hby d5_7) ?_
    show Steps p.tables e below (s₁.setTop (mkF m 8 #[.val (.ref o0), .val (.int (0 : Int32)), .val (.int p2), .val (.int p3), .val (.int p4)] [(.int (1 : Int32)), (.int (0 : Int32))])) _
    refine XS.icmpYes X0.here hx rfl (pc0 := 8) (pc' := 32) rfl (hb hby d5_8) rfl (Jvm.Free.XT.ii_lt_t (by decide)) (by decide) (by decide) ?_
    show Steps p.tables e below (s₁.setTop (mkF m 32 #[.val (.ref o0), .val (.int (0 : Int32)), .val (.int p2), .val (.int p3), .val (.int p4)] [])) _
    refine XS.iloadN X0.here hx rfl (hb hby d5_32) rfl ?_
    show Steps p.tables e below (s₁.setTop (mkF m 33 #[.val (.ref o0), .val (.int (0 : Int32)), .val (.int p2), .val (.int p3), .val (.int p4)] [(.int (0 : Int32))])) _
    refine XS.iconst X0.here hx rfl (hb hby d5_33) ?_
    show Steps p.tables e below (s₁.setTop (mkF m 34 #[.val (.ref o0), .val (.int (0 : Int32)), .val (.int p2), .val (.int p3), .val (.int p4)] [(.int (2 : Int32)), (.int (0 : Int32))])) _
    refine XS.icmpYes X0.here hx rfl (pc0 := 34) (pc' := 58) rfl (hb hby d5_34) rfl (Jvm.Free.XT.ii_lt_t (by decide)) (by decide) (by decide) ?_
    show Steps p.tables e below (s₁.setTop (mkF m 58 #[.val (.ref o0), .val (.int (0 : Int32)), .val (.int p2), .val (.int p3), .val (.int p4)] [])) _
    refine XS.iloadN X0.here hx rfl (hb hby d5_58) rfl ?_
    show Steps p.tables e below (s₁.setTop (mkF m 59 #[.val (.ref o0), .val (.int (0 : Int32)), .val (.int p2), .val (.int p3), .val (.int p4)] [(.int (0 : Int32))])) _
    refine XS.iconst X0.here hx rfl (hb hby d5_59) ?_
    show Steps p.tables e below (s₁.setTop (mkF m 60 #[.val (.ref o0), .val (.int (0 : Int32)), .val (.int p2), .val (.int p3), .val (.int p4)] [(.int (3 : Int32)), (.int (0 : Int32))])) _
    refine XS.icmpYes X0.here hx rfl (pc0 := 60) (pc' := 84) rfl (hb hby d5_60) rfl (Jvm.Free.XT.ii_lt_t (by decide)) (by decide) (by decide) ?_
    show Steps p.tables e below (s₁.setTop (mkF m 84 #[.val (.ref o0), .val (.int (0 : Int32)), .val (.int p2), .val (.int p3), .val (.int p4)] [])) _
    refine XS.iconst X0.here hx rfl (hb hby d5_84) ?_
    show Steps p.tables e below (s₁.setTop (mkF m 85 #[.val (.ref o0), .val (.int (0 : Int32)), .val (.int p2), .val (.int p3), .val (.int p4)] [(.int (1 : Int32))])) _
    refine XS.goto X0.here hx rfl (pc0 := 85) (pc' := 89) rfl (hb hby d5_85) (by decide) (by decide) ?_
    exact k
  obtain ⟨fs, hr, hrun, hended, hW, hsame⟩ := X0.leave (v := some (.int (1 : Int32))) (fun h => by rw [Bd.returns] at h; cases h)
  refine ⟨_, _, c2 _ ?_, hrun, hended, _, _, rfl, ?_, ⟨_, rfl⟩, hW, hsame.mono (by decide) (by decide)⟩
  · show Steps p.tables e below (s₁.setTop (mkF m 89 #[.val (.ref o0), .val (.int (0 : Int32)), .val (.int p2), .val (.int p3), .val (.int p4)] [(.int (1 : Int32))])) _
    exact retOut X0 hx Bd.returns rfl (Or.inl ⟨rfl, by simp, _, rfl⟩) (hb hby d5_89) hr
  · show Q5_0 Z o0 p2 p3 p4 k_o0  h0 n0 _ s₁.heap _
    rw [e0]
    exact ⟨rfl, N0, rfl⟩
def Q6_0 (Z : State) (o0 : Addr) (p2 : Int32) (p3 : Int32) (k_o0 : ClassId)  (h0 : Heap) (n0 : Nat) (v : Option Value) (h : Heap) (L : List Loc) : Prop := v = some (.int (1 : Int32)) ∧ Fr n0 L ∧ h = h0
set_option maxRecDepth 65536 in
set_option maxHeartbeats 40000000 in
theorem rm6_0 (l : Launch) (Z : State) (a0 : Array Value) (hw : ∀ d ∈ tables_1, d.before a0 Z = true) (ws : List Jvm.Cond) (o0 : Addr) (p2 : Int32) (p3 : Int32) (k_o0 : ClassId)  (h0 : Heap) (n0 : Nat) (Z0 : n0 ≤ h0.size) (V_o0 : Arv Z h0 o0 k_o0 .double (0 : Int32) [] (.double (0 : UInt64))) :
    MetFree l (⟨"com/example/lumenstand/lumenstand/light/InterceptionAddPinLaw", "kept", "([DIII)Z"⟩ : MethodName) (head1 (Jvm.Cond.code (⟨"com/example/lumenstand/lumenstand/light/InterceptionAddPinLaw", "kept", "([DIII)Z"⟩ : MethodName) method_6_code 4 (some .boolean) :: ws) ({ frames := 0, cells := 0, slots := 0, locals := 0 } : Room)) (fun a U => a = #[(.ref o0), (.int (0 : Int32)), (.int p2), (.int p3)] ∧ Z.Warmed39 U.vm ∧ U.heap = h0) (fun _ _ _ _ _ => True) (fun _ U o U' => ∃ v L, o = .returned v ∧ Q6_0 Z o0 p2 p3 k_o0  h0 n0 v U'.heap L ∧ FrameEnd U o U' L ({ frames := 0, cells := 0, slots := 0, locals := 0 } : Room).cells ({ frames := 0, cells := 0, slots := 0, locals := 0 } : Room).slots) := by
  refine MetFree.of_bodySF (plainFor_of_name pn_0) hisR ?_
  intro p e s m args below meth c s₁ Bd hml0 hP hK
  obtain ⟨rfl, hZ, hh⟩ := hP
  have hx := Bd.exec
  have hby := Bd.bytes
  have hml : c.maxLocals = 4 := hml0
  have hown : s.vm.findClass "com/example/lumenstand/lumenstand/light/InterceptionAddPinLaw" = some m.cls := findClass_of_methodNamed Bd.named
  have hnm := (name_of_methodNamed Bd.named Bd.method).1
  have X0 : Stand p l e ({ frames := 0, cells := 0, slots := 0, locals := 0 } : Room) s m #[(.ref o0), (.int (0 : Int32)), (.int p2), (.int p3)] below meth c s₁ [] 0 0 := Stand.of_body Bd
  have e0 : s₁.heap = h0 := by rw [← hh, Bd.state]; rfl
  have N0 := Fr.nil n0
  have c0 : ∀ t, Steps p.tables e below (s₁.setTop (mkF m 0 #[.val (.ref o0), .val (.int (0 : Int32)), .val (.int p2), .val (.int p3)] [])) t → Steps p.tables e below (s₁.setTop (entryFrame m #[(.ref o0), (.int (0 : Int32)), (.int p2), (.int p3)] 4)) t := fun t k => castTop (ef_rm6_0 m o0 p2 p3) k
  obtain ⟨cl1, Ar1, -, S1, Nn1, -, -⟩ := id V_o0
  have c2 : ∀ t, Steps p.tables e below (s₁.setTop (mkF m 65 #[.val (.ref o0), .val (.int (0 : Int32)), .val (.int p2), .val (.int p3)] [(.int (1 : Int32))])) t → Steps p.tables e below (s₁.setTop (entryFrame m #[(.ref o0), (.int (0 : Int32)), (.int p2), (.int p3)] 4)) t := by
    intro t k
    refine c0 t ?_
    show Steps p.tables e below (s₁.setTop (mkF m 0 #[.val (.ref o0), .val (.int (0 : Int32)), .val (.int p2), .val (.int p3)] [])) _
    refine XS.aloadN X0.here hx rfl (hb hby d6_0) rfl rfl ?_
    show Steps p.tables e below (s₁.setTop (mkF m 1 #[.val (.ref o0), .val (.int (0 : Int32)), .val (.int p2), .val (.int p3)] [(.ref o0)])) _
    refine X0.arraylength hx (by rw [e0]; exact Ar1.1) (State.isArrayOf_alike hZ.alike Ar1.2.1) (g := (mkF m 1 #[.val (.ref o0), .val (.int (0 : Int32)), .val (.int p2), .val (.int p3)] [(.ref o0)])) rfl rfl (hb hby d6_1) _ ?_
    rw [len_of S1 Nn1]
    show Steps p.tables e below (s₁.setTop (mkF m 2 #[.val (.ref o0), .val (.int (0 : Int32)), .val (.int p2), .val (.int p3)] [(.int (0 : Int32))])) _
    refine XS.iloadN X0.here hx rfl (hb hby d6_2) rfl ?_
    show Steps p.tables e below (s₁.setTop (mkF m 3 #[.val (.ref o0), .val (.int (0 : Int32)), .val (.int p2), .val (.int p3)] [(.int (0 : Int32)), (.int (0 : Int32))])) _
    refine XS.icmpNo X0.here hx rfl (hb hby d6_3) rfl (Jvm.Free.XT.ii_ne_f (by decide)) ?_
    show Steps p.tables e below (s₁.setTop (mkF m 6 #[.val (.ref o0), .val (.int (0 : Int32)), .val (.int p2), .val (.int p3)] [])) _
    refine XS.iloadN X0.here hx rfl (hb hby d6_6) rfl ?_
    show Steps p.tables e below (s₁.setTop (mkF m 7 #[.val (.ref o0), .val (.int (0 : Int32)), .val (.int p2), .val (.int p3)] [(.int (0 : Int32))])) _
    refine XS.iconst X0.here hx rfl (hb hby d6_7) ?_
    show Steps p.tables e below (s₁.setTop (mkF m 8 #[.val (.ref o0), .val (.int (0 : Int32)), .val (.int p2), .val (.int p3)] [(.int (1 : Int32)), (.int (0 : Int32))])) _
    refine XS.icmpYes X0.here hx rfl (pc0 := 8) (pc' := 24) rfl (hb hby d6_8) rfl (Jvm.Free.XT.ii_lt_t (by decide)) (by decide) (by decide) ?_
    show Steps p.tables e below (s₁.setTop (mkF m 24 #[.val (.ref o0), .val (.int (0 : Int32)), .val (.int p2), .val (.int p3)] [])) _
    refine XS.iloadN X0.here hx rfl (hb hby d6_24) rfl ?_
    show Steps p.tables e below (s₁.setTop (mkF m 25 #[.val (.ref o0), .val (.int (0 : Int32)), .val (.int p2), .val (.int p3)] [(.int (0 : Int32))])) _
    refine XS.iconst X0.here hx rfl (hb hby d6_25) ?_
    show Steps p.tables e below (s₁.setTop (mkF m 26 #[.val (.ref o0), .val (.int (0 : Int32)), .val (.int p2), .val (.int p3)] [(.int (2 : Int32)), (.int (0 : Int32))])) _
    refine XS.icmpYes X0.here hx rfl (pc0 := 26) (pc' := 42) rfl (hb hby d6_26) rfl (Jvm.Free.XT.ii_lt_t (by decide)) (by decide) (by decide) ?_
    show Steps p.tables e below (s₁.setTop (mkF m 42 #[.val (.ref o0), .val (.int (0 : Int32)), .val (.int p2), .val (.int p3)] [])) _
    refine XS.iloadN X0.here hx rfl (hb hby d6_42) rfl ?_
    show Steps p.tables e below (s₁.setTop (mkF m 43 #[.val (.ref o0), .val (.int (0 : Int32)), .val (.int p2), .val (.int p3)] [(.int (0 : Int32))])) _
    refine XS.iconst X0.here hx rfl (hb hby d6_43) ?_
    show Steps p.tables e below (s₁.setTop (mkF m 44 #[.val (.ref o0), .val (.int (0 : Int32)), .val (.int p2), .val (.int p3)] [(.int (3 : Int32)), (.int (0 : Int32))])) _
    refine XS.icmpYes X0.here hx rfl (pc0 := 44) (pc' := 60) rfl (hb hby d6_44) rfl (Jvm.Free.XT.ii_lt_t (by decide)) (by decide) (by decide) ?_
    show Steps p.tables e below (s₁.setTop (mkF m 60 #[.val (.ref o0), .val (.int (0 : Int32)), .val (.int p2), .val (.int p3)] [])) _
    refine XS.iconst X0.here hx rfl (hb hby d6_60) ?_
    show Steps p.tables e below (s₁.setTop (mkF m 61 #[.val (.ref o0), .val (.int (0 : Int32)), .val (.int p2), .val (.int p3)] [(.int (1 : Int32))])) _
    refine XS.goto X0.here hx rfl (pc0 := 61) (pc' := 65) rfl (hb hby d6_61) (by decide) (by decide) ?_
    exact k
  obtain ⟨fs, hr, hrun, hended, hW, hsame⟩ := X0.leave (v := some (.int (1 : Int32))) (fun h => by rw [Bd.returns] at h; cases h)
  refine ⟨_, _, c2 _ ?_, hrun, hended, _, _, rfl, ?_, ⟨_, rfl⟩, hW, hsame.mono (by decide) (by decide)⟩
  · show Steps p.tables e below (s₁.setTop (mkF m 65 #[.val (.ref o0), .val (.int (0 : Int32)), .val (.int p2), .val (.int p3)] [(.int (1 : Int32))])) _
    exact retOut X0 hx Bd.returns rfl (Or.inl ⟨rfl, by simp, _, rfl⟩) (hb hby d6_65) hr
  · show Q6_0 Z o0 p2 p3 k_o0  h0 n0 _ s₁.heap _
    rw [e0]
    exact ⟨rfl, N0, rfl⟩
def Q5_1 (Z : State) (o0 : Addr) (p2 : Int32) (p3 : Int32) (p4 : Int32) (k_o0 : ClassId) (y0 : UInt64) (c17_z4 : Int32) (c17_z5 : Int32) (c17_z7 : Int32) (c17_z8 : UInt64) (c24_z4 : Int32) (c24_z5 : Int32) (c24_z7 : Int32) (c24_z8 : UInt64) (z27 : UInt64) (z28 : Int32) (h0 : Heap) (n0 : Nat) (v : Option Value) (h : Heap) (L : List Loc) : Prop := v = some (.int (1 : Int32)) ∧ Fr n0 L ∧ h = h0
set_option maxRecDepth 65536 in
set_option maxHeartbeats 40000000 in
theorem rm5_1 (l : Launch) (Z : State) (a0 : Array Value) (hw : ∀ d ∈ tables_1, d.before a0 Z = true) (ws : List Jvm.Cond) (o0 : Addr) (p2 : Int32) (p3 : Int32) (p4 : Int32) (k_o0 : ClassId) (y0 : UInt64) (c17_z4 : Int32) (c17_z5 : Int32) (c17_z7 : Int32) (c17_z8 : UInt64) (c24_z4 : Int32) (c24_z5 : Int32) (c24_z7 : Int32) (c24_z8 : UInt64) (z27 : UInt64) (z28 : Int32) (h0 : Heap) (n0 : Nat) (Z0 : n0 ≤ h0.size) (V_o0 : Arv Z h0 o0 k_o0 .double (1 : Int32) [(.double y0)] (.double (0 : UInt64))) (hc17_z4 : (16 : Int32) * p2 = c17_z4) (hc17_z5 : p3 + c17_z4 = c17_z5) (hc17_z7 : c17_z5 + (0 : Int32) = c17_z7) (hc17_z8 : FP.i2d c17_z7 = c17_z8) (hc24_z4 : (16 : Int32) * p2 = c24_z4) (hc24_z5 : p4 + c24_z4 = c24_z5) (hc24_z7 : c24_z5 + (0 : Int32) = c24_z7) (hc24_z8 : FP.i2d c24_z7 = c24_z8) (hz27 : FP.dadd c17_z8 c24_z8 = z27) (hz28 : cmpValue (FP.dcmp y0 z27) .l = z28) (nn27 : Jvm.Free.Fl.NoNaN64 z27) (br29 : z28 = (0 : Int32)) :
    MetFree l (⟨"com/example/lumenstand/lumenstand/light/InterceptionAddPinLaw", "sum", "([DIIII)Z"⟩ : MethodName) (head1 (Jvm.Cond.code (⟨"com/example/lumenstand/lumenstand/light/InterceptionAddPinLaw", "sum", "([DIIII)Z"⟩ : MethodName) method_5_code 5 (some .boolean) :: ws) ({ frames := 1, cells := 0, slots := 0, locals := 18 } : Room)) (fun a U => a = #[(.ref o0), (.int (1 : Int32)), (.int p2), (.int p3), (.int p4)] ∧ Z.Warmed39 U.vm ∧ U.heap = h0) (fun _ _ _ _ _ => True) (fun _ U o U' => ∃ v L, o = .returned v ∧ Q5_1 Z o0 p2 p3 p4 k_o0 y0 c17_z4 c17_z5 c17_z7 c17_z8 c24_z4 c24_z5 c24_z7 c24_z8 z27 z28 h0 n0 v U'.heap L ∧ FrameEnd U o U' L ({ frames := 1, cells := 0, slots := 0, locals := 18 } : Room).cells ({ frames := 1, cells := 0, slots := 0, locals := 18 } : Room).slots) := by
  refine MetFree.of_bodySF (plainFor_of_name pn_0) hisR ?_
  intro p e s m args below meth c s₁ Bd hml0 hP hK
  obtain ⟨rfl, hZ, hh⟩ := hP
  have hx := Bd.exec
  have hby := Bd.bytes
  have hml : c.maxLocals = 5 := hml0
  have hown : s.vm.findClass "com/example/lumenstand/lumenstand/light/InterceptionAddPinLaw" = some m.cls := findClass_of_methodNamed Bd.named
  have hnm := (name_of_methodNamed Bd.named Bd.method).1
  have X0 : Stand p l e ({ frames := 1, cells := 0, slots := 0, locals := 18 } : Room) s m #[(.ref o0), (.int (1 : Int32)), (.int p2), (.int p3), (.int p4)] below meth c s₁ [] 0 0 := Stand.of_body Bd
  have e0 : s₁.heap = h0 := by rw [← hh, Bd.state]; rfl
  have N0 := Fr.nil n0
  have c0 : ∀ t, Steps p.tables e below (s₁.setTop (mkF m 0 #[.val (.ref o0), .val (.int (1 : Int32)), .val (.int p2), .val (.int p3), .val (.int p4)] [])) t → Steps p.tables e below (s₁.setTop (entryFrame m #[(.ref o0), (.int (1 : Int32)), (.int p2), (.int p3), (.int p4)] 5)) t := fun t k => castTop (ef_rm5_1 m o0 p2 p3 p4) k
  obtain ⟨cl1, Ar1, -, S1, Nn1, -, -⟩ := id V_o0
  obtain ⟨cl2, Ar2, -, S2, -, Ha2, -⟩ := id V_o0
  have in2 : ¬ ((0 : Int32) < 0 ∨ cl2.slots.size ≤ ((0 : Int32)).toNatClampNeg) := inb_of S2 ⟨by decide, by decide⟩
  obtain ⟨_, _, ⟨T3, L3, k3, n3⟩, -, X3, ⟨Lc3, hQ3, ql3, qy3, qz3⟩, st3⟩ := Jvm.LawKit.callS X0 hx (y := (⟨"com/example/lumenstand/lumenstand/light/InterceptionAddPinLaw", "v", "(III)D"⟩ : MethodName)) hown (mvT hZ (hw _ (List.mem_of_getElem? (i := 37) rfl))) (mvT hZ (hw _ (List.mem_of_getElem? (i := 38) rfl))) (mvT hZ (hw _ (List.mem_of_getElem? (i := 21) rfl))) (mvT hZ (hw _ (List.mem_of_getElem? (i := 39) rfl))) (by decide) (backOf (W := 2) (rm7 l Z a0 hw [] p3 p2 (0 : Int32) c17_z4 c17_z5 c17_z7 c17_z8 h0 n0 Z0 hc17_z4 hc17_z5 hc17_z7 hc17_z8) hZ (hw _ (List.mem_of_getElem? (i := 39) rfl)) (hw _ (List.mem_of_getElem? (i := 21) rfl)) (by decide) (by decide)) (g := (mkF m 17 #[.val (.ref o0), .val (.int (1 : Int32)), .val (.int p2), .val (.int p3), .val (.int p4)] [(.int (0 : Int32)), (.int p2), (.int p3), (.double y0)])) rfl (by rw [hml]; rfl) (argsL := [(.int p3), (.int p2), (.int (0 : Int32))]) (rest := [(.double y0)]) (lenOf pd_0 rfl) rfl (by show 2 * 0 + _ ≤ _; exact Nat.le_of_eq rfl) (hb hby d5_17) (fun _ _ => ⟨rfl, e0, (by decide : 0 + 0 ≤ _), (by decide : 0 + 0 ≤ _)⟩)
  dsimp only [Pt.U, Pt.locs, Pt.cells, Pt.slots] at X3 ql3 qy3 qz3 st3 hQ3
  subst ql3 qy3 qz3
  obtain ⟨rfl, N3q, e3⟩ := hQ3
  have N3 := Fr.app N0 N3q
  obtain ⟨_, _, ⟨T4, L4, k4, n4⟩, -, X4, ⟨Lc4, hQ4, ql4, qy4, qz4⟩, st4⟩ := Jvm.LawKit.callS X3 hx (y := (⟨"com/example/lumenstand/lumenstand/light/InterceptionAddPinLaw", "v", "(III)D"⟩ : MethodName)) hown (mvT hZ (hw _ (List.mem_of_getElem? (i := 37) rfl))) (mvT hZ (hw _ (List.mem_of_getElem? (i := 38) rfl))) (mvT hZ (hw _ (List.mem_of_getElem? (i := 21) rfl))) (mvT hZ (hw _ (List.mem_of_getElem? (i := 39) rfl))) (by decide) (backOf (W := 4) (rm7 l Z a0 hw [] p4 p2 (0 : Int32) c24_z4 c24_z5 c24_z7 c24_z8 h0 n0 Z0 hc24_z4 hc24_z5 hc24_z7 hc24_z8) hZ (hw _ (List.mem_of_getElem? (i := 39) rfl)) (hw _ (List.mem_of_getElem? (i := 21) rfl)) (by decide) (by decide)) (g := (mkF m 24 #[.val (.ref o0), .val (.int (1 : Int32)), .val (.int p2), .val (.int p3), .val (.int p4)] [(.int (0 : Int32)), (.int p2), (.int p4), (.double c17_z8), (.double y0)])) rfl (by rw [hml]; rfl) (argsL := [(.int p4), (.int p2), (.int (0 : Int32))]) (rest := [(.double c17_z8), (.double y0)]) (lenOf pd_0 rfl) rfl (by show 2 * 0 + _ ≤ _; exact Nat.le_of_eq rfl) (hb hby d5_24) (fun _ _ => ⟨rfl, e3, (by decide : 0 + 0 ≤ _), (by decide : 0 + 0 ≤ _)⟩)
  dsimp only [Pt.U, Pt.locs, Pt.cells, Pt.slots] at X4 ql4 qy4 qz4 st4 hQ4
  subst ql4 qy4 qz4
  obtain ⟨rfl, N4q, e4⟩ := hQ4
  have N4 := Fr.app N3 N4q
  have c5 : ∀ t, Steps p.tables e below (T4.setTop (mkF m 89 #[.val (.ref o0), .val (.int (1 : Int32)), .val (.int p2), .val (.int p3), .val (.int p4)] [(.int (1 : Int32))])) t → Steps p.tables e below (s₁.setTop (entryFrame m #[(.ref o0), (.int (1 : Int32)), (.int p2), (.int p3), (.int p4)] 5)) t := by
    intro t k
    refine c0 t ?_
    show Steps p.tables e below (s₁.setTop (mkF m 0 #[.val (.ref o0), .val (.int (1 : Int32)), .val (.int p2), .val (.int p3), .val (.int p4)] [])) _
    refine XS.aloadN X0.here hx rfl (hb hby d5_0) rfl rfl ?_
    show Steps p.tables e below (s₁.setTop (mkF m 1 #[.val (.ref o0), .val (.int (1 : Int32)), .val (.int p2), .val (.int p3), .val (.int p4)] [(.ref o0)])) _
    refine X0.arraylength hx (by rw [e0]; exact Ar1.1) (State.isArrayOf_alike hZ.alike Ar1.2.1) (g := (mkF m 1 #[.val (.ref o0), .val (.int (1 : Int32)), .val (.int p2), .val (.int p3), .val (.int p4)] [(.ref o0)])) rfl rfl (hb hby d5_1) _ ?_
    rw [len_of S1 Nn1]
    show Steps p.tables e below (s₁.setTop (mkF m 2 #[.val (.ref o0), .val (.int (1 : Int32)), .val (.int p2), .val (.int p3), .val (.int p4)] [(.int (1 : Int32))])) _
    refine XS.iloadN X0.here hx rfl (hb hby d5_2) rfl ?_
    show Steps p.tables e below (s₁.setTop (mkF m 3 #[.val (.ref o0), .val (.int (1 : Int32)), .val (.int p2), .val (.int p3), .val (.int p4)] [(.int (1 : Int32)), (.int (1 : Int32))])) _
    refine XS.icmpNo X0.here hx rfl (hb hby d5_3) rfl (Jvm.Free.XT.ii_ne_f (by decide)) ?_
    show Steps p.tables e below (s₁.setTop (mkF m 6 #[.val (.ref o0), .val (.int (1 : Int32)), .val (.int p2), .val (.int p3), .val (.int p4)] [])) _
    refine XS.iloadN X0.here hx rfl (hb hby d5_6) rfl ?_
    show Steps p.tables e below (s₁.setTop (mkF m 7 #[.val (.ref o0), .val (.int (1 : Int32)), .val (.int p2), .val (.int p3), .val (.int p4)] [(.int (1 : Int32))])) _
    refine XS.iconst X0.here hx rfl (hb hby d5_7) ?_
    show Steps p.tables e below (s₁.setTop (mkF m 8 #[.val (.ref o0), .val (.int (1 : Int32)), .val (.int p2), .val (.int p3), .val (.int p4)] [(.int (1 : Int32)), (.int (1 : Int32))])) _
    refine XS.icmpNo X0.here hx rfl (hb hby d5_8) rfl (Jvm.Free.XT.ii_lt_f (by decide)) ?_
    show Steps p.tables e below (s₁.setTop (mkF m 11 #[.val (.ref o0), .val (.int (1 : Int32)), .val (.int p2), .val (.int p3), .val (.int p4)] [])) _
    refine XS.aloadN X0.here hx rfl (hb hby d5_11) rfl rfl ?_
    show Steps p.tables e below (s₁.setTop (mkF m 12 #[.val (.ref o0), .val (.int (1 : Int32)), .val (.int p2), .val (.int p3), .val (.int p4)] [(.ref o0)])) _
    refine XS.iconst X0.here hx rfl (hb hby d5_12) ?_
    show Steps p.tables e below (s₁.setTop (mkF m 13 #[.val (.ref o0), .val (.int (1 : Int32)), .val (.int p2), .val (.int p3), .val (.int p4)] [(.int (0 : Int32)), (.ref o0)])) _
    refine X0.daload hx (j := (0 : Int32)) (v := (.double y0)) (by rw [e0]; exact Ar2.1) (State.isArrayOf_alike hZ.alike Ar2.2.1) Ar2.2.2 in2 (Has.at Ha2 in2 rfl) (g := (mkF m 13 #[.val (.ref o0), .val (.int (1 : Int32)), .val (.int p2), .val (.int p3), .val (.int p4)] [(.int (0 : Int32)), (.ref o0)])) rfl rfl (hb hby d5_13) _ ?_
    show Steps p.tables e below (s₁.setTop (mkF m 14 #[.val (.ref o0), .val (.int (1 : Int32)), .val (.int p2), .val (.int p3), .val (.int p4)] [(.double y0)])) _
    refine XS.iloadN X0.here hx rfl (hb hby d5_14) rfl ?_
    show Steps p.tables e below (s₁.setTop (mkF m 15 #[.val (.ref o0), .val (.int (1 : Int32)), .val (.int p2), .val (.int p3), .val (.int p4)] [(.int p3), (.double y0)])) _
    refine XS.iloadN X0.here hx rfl (hb hby d5_15) rfl ?_
    show Steps p.tables e below (s₁.setTop (mkF m 16 #[.val (.ref o0), .val (.int (1 : Int32)), .val (.int p2), .val (.int p3), .val (.int p4)] [(.int p2), (.int p3), (.double y0)])) _
    refine XS.iconst X0.here hx rfl (hb hby d5_16) ?_
    show Steps p.tables e below (s₁.setTop (mkF m 17 #[.val (.ref o0), .val (.int (1 : Int32)), .val (.int p2), .val (.int p3), .val (.int p4)] [(.int (0 : Int32)), (.int p2), (.int p3), (.double y0)])) _
    refine st3 _ ?_
    show Steps p.tables e below (T3.setTop (mkF m 20 #[.val (.ref o0), .val (.int (1 : Int32)), .val (.int p2), .val (.int p3), .val (.int p4)] [(.double c17_z8), (.double y0)])) _
    refine XS.iload X3.here hx rfl (hb hby d5_20) rfl ?_
    show Steps p.tables e below (T3.setTop (mkF m 22 #[.val (.ref o0), .val (.int (1 : Int32)), .val (.int p2), .val (.int p3), .val (.int p4)] [(.int p4), (.double c17_z8), (.double y0)])) _
    refine XS.iloadN X3.here hx rfl (hb hby d5_22) rfl ?_
    show Steps p.tables e below (T3.setTop (mkF m 23 #[.val (.ref o0), .val (.int (1 : Int32)), .val (.int p2), .val (.int p3), .val (.int p4)] [(.int p2), (.int p4), (.double c17_z8), (.double y0)])) _
    refine XS.iconst X3.here hx rfl (hb hby d5_23) ?_
    show Steps p.tables e below (T3.setTop (mkF m 24 #[.val (.ref o0), .val (.int (1 : Int32)), .val (.int p2), .val (.int p3), .val (.int p4)] [(.int (0 : Int32)), (.int p2), (.int p4), (.double c17_z8), (.double y0)])) _
    refine st4 _ ?_
    show Steps p.tables e below (T4.setTop (mkF m 27 #[.val (.ref o0), .val (.int (1 : Int32)), .val (.int p2), .val (.int p3), .val (.int p4)] [(.double c24_z8), (.double c17_z8), (.double y0)])) _
    refine Jvm.OwnK.dadd X4.here hx rfl (hb hby d5_27) rfl hz27 nn27 ?_
    show Steps p.tables e below (T4.setTop (mkF m 28 #[.val (.ref o0), .val (.int (1 : Int32)), .val (.int p2), .val (.int p3), .val (.int p4)] [(.double z27), (.double y0)])) _
    refine XS.dcmpS X4.here hx rfl (hb hby d5_28) rfl hz28 ?_
    show Steps p.tables e below (T4.setTop (mkF m 29 #[.val (.ref o0), .val (.int (1 : Int32)), .val (.int p2), .val (.int p3), .val (.int p4)] [(.int z28)])) _
    refine XS.ifNo X4.here hx rfl (hb hby d5_29) rfl (Jvm.Free.XT.i0_ne_f br29) ?_
    show Steps p.tables e below (T4.setTop (mkF m 32 #[.val (.ref o0), .val (.int (1 : Int32)), .val (.int p2), .val (.int p3), .val (.int p4)] [])) _
    refine XS.iloadN X4.here hx rfl (hb hby d5_32) rfl ?_
    show Steps p.tables e below (T4.setTop (mkF m 33 #[.val (.ref o0), .val (.int (1 : Int32)), .val (.int p2), .val (.int p3), .val (.int p4)] [(.int (1 : Int32))])) _
    refine XS.iconst X4.here hx rfl (hb hby d5_33) ?_
    show Steps p.tables e below (T4.setTop (mkF m 34 #[.val (.ref o0), .val (.int (1 : Int32)), .val (.int p2), .val (.int p3), .val (.int p4)] [(.int (2 : Int32)), (.int (1 : Int32))])) _
    refine XS.icmpYes X4.here hx rfl (pc0 := 34) (pc' := 58) rfl (hb hby d5_34) rfl (Jvm.Free.XT.ii_lt_t (by decide)) (by decide) (by decide) ?_
    show Steps p.tables e below (T4.setTop (mkF m 58 #[.val (.ref o0), .val (.int (1 : Int32)), .val (.int p2), .val (.int p3), .val (.int p4)] [])) _
    refine XS.iloadN X4.here hx rfl (hb hby d5_58) rfl ?_
    show Steps p.tables e below (T4.setTop (mkF m 59 #[.val (.ref o0), .val (.int (1 : Int32)), .val (.int p2), .val (.int p3), .val (.int p4)] [(.int (1 : Int32))])) _
    refine XS.iconst X4.here hx rfl (hb hby d5_59) ?_
    show Steps p.tables e below (T4.setTop (mkF m 60 #[.val (.ref o0), .val (.int (1 : Int32)), .val (.int p2), .val (.int p3), .val (.int p4)] [(.int (3 : Int32)), (.int (1 : Int32))])) _
    refine XS.icmpYes X4.here hx rfl (pc0 := 60) (pc' := 84) rfl (hb hby d5_60) rfl (Jvm.Free.XT.ii_lt_t (by decide)) (by decide) (by decide) ?_
    show Steps p.tables e below (T4.setTop (mkF m 84 #[.val (.ref o0), .val (.int (1 : Int32)), .val (.int p2), .val (.int p3), .val (.int p4)] [])) _
    refine XS.iconst X4.here hx rfl (hb hby d5_84) ?_
    show Steps p.tables e below (T4.setTop (mkF m 85 #[.val (.ref o0), .val (.int (1 : Int32)), .val (.int p2), .val (.int p3), .val (.int p4)] [(.int (1 : Int32))])) _
    refine XS.goto X4.here hx rfl (pc0 := 85) (pc' := 89) rfl (hb hby d5_85) (by decide) (by decide) ?_
    exact k
  obtain ⟨fs, hr, hrun, hended, hW, hsame⟩ := X4.leave (v := some (.int (1 : Int32))) (fun h => by rw [Bd.returns] at h; cases h)
  refine ⟨_, _, c5 _ ?_, hrun, hended, _, _, rfl, ?_, ⟨_, rfl⟩, hW, hsame.mono (by decide) (by decide)⟩
  · show Steps p.tables e below (T4.setTop (mkF m 89 #[.val (.ref o0), .val (.int (1 : Int32)), .val (.int p2), .val (.int p3), .val (.int p4)] [(.int (1 : Int32))])) _
    exact retOut X4 hx Bd.returns rfl (Or.inl ⟨rfl, by simp, _, rfl⟩) (hb hby d5_89) hr
  · show Q5_1 Z o0 p2 p3 p4 k_o0 y0 c17_z4 c17_z5 c17_z7 c17_z8 c24_z4 c24_z5 c24_z7 c24_z8 z27 z28 h0 n0 _ T4.heap _
    rw [e4]
    exact ⟨rfl, N4, rfl⟩
def Q6_1 (Z : State) (o0 : Addr) (p2 : Int32) (p3 : Int32) (k_o0 : ClassId) (y0 : UInt64) (c17_z4 : Int32) (c17_z5 : Int32) (c17_z7 : Int32) (c17_z8 : UInt64) (z20 : Int32) (h0 : Heap) (n0 : Nat) (v : Option Value) (h : Heap) (L : List Loc) : Prop := v = some (.int (1 : Int32)) ∧ Fr n0 L ∧ h = h0
set_option maxRecDepth 65536 in
set_option maxHeartbeats 40000000 in
theorem rm6_1 (l : Launch) (Z : State) (a0 : Array Value) (hw : ∀ d ∈ tables_1, d.before a0 Z = true) (ws : List Jvm.Cond) (o0 : Addr) (p2 : Int32) (p3 : Int32) (k_o0 : ClassId) (y0 : UInt64) (c17_z4 : Int32) (c17_z5 : Int32) (c17_z7 : Int32) (c17_z8 : UInt64) (z20 : Int32) (h0 : Heap) (n0 : Nat) (Z0 : n0 ≤ h0.size) (V_o0 : Arv Z h0 o0 k_o0 .double (1 : Int32) [(.double y0)] (.double (0 : UInt64))) (hc17_z4 : (16 : Int32) * p2 = c17_z4) (hc17_z5 : p3 + c17_z4 = c17_z5) (hc17_z7 : c17_z5 + (0 : Int32) = c17_z7) (hc17_z8 : FP.i2d c17_z7 = c17_z8) (hz20 : cmpValue (FP.dcmp y0 c17_z8) .l = z20) (br21 : z20 = (0 : Int32)) :
    MetFree l (⟨"com/example/lumenstand/lumenstand/light/InterceptionAddPinLaw", "kept", "([DIII)Z"⟩ : MethodName) (head1 (Jvm.Cond.code (⟨"com/example/lumenstand/lumenstand/light/InterceptionAddPinLaw", "kept", "([DIII)Z"⟩ : MethodName) method_6_code 4 (some .boolean) :: ws) ({ frames := 1, cells := 0, slots := 0, locals := 16 } : Room)) (fun a U => a = #[(.ref o0), (.int (1 : Int32)), (.int p2), (.int p3)] ∧ Z.Warmed39 U.vm ∧ U.heap = h0) (fun _ _ _ _ _ => True) (fun _ U o U' => ∃ v L, o = .returned v ∧ Q6_1 Z o0 p2 p3 k_o0 y0 c17_z4 c17_z5 c17_z7 c17_z8 z20 h0 n0 v U'.heap L ∧ FrameEnd U o U' L ({ frames := 1, cells := 0, slots := 0, locals := 16 } : Room).cells ({ frames := 1, cells := 0, slots := 0, locals := 16 } : Room).slots) := by
  refine MetFree.of_bodySF (plainFor_of_name pn_0) hisR ?_
  intro p e s m args below meth c s₁ Bd hml0 hP hK
  obtain ⟨rfl, hZ, hh⟩ := hP
  have hx := Bd.exec
  have hby := Bd.bytes
  have hml : c.maxLocals = 4 := hml0
  have hown : s.vm.findClass "com/example/lumenstand/lumenstand/light/InterceptionAddPinLaw" = some m.cls := findClass_of_methodNamed Bd.named
  have hnm := (name_of_methodNamed Bd.named Bd.method).1
  have X0 : Stand p l e ({ frames := 1, cells := 0, slots := 0, locals := 16 } : Room) s m #[(.ref o0), (.int (1 : Int32)), (.int p2), (.int p3)] below meth c s₁ [] 0 0 := Stand.of_body Bd
  have e0 : s₁.heap = h0 := by rw [← hh, Bd.state]; rfl
  have N0 := Fr.nil n0
  have c0 : ∀ t, Steps p.tables e below (s₁.setTop (mkF m 0 #[.val (.ref o0), .val (.int (1 : Int32)), .val (.int p2), .val (.int p3)] [])) t → Steps p.tables e below (s₁.setTop (entryFrame m #[(.ref o0), (.int (1 : Int32)), (.int p2), (.int p3)] 4)) t := fun t k => castTop (ef_rm6_1 m o0 p2 p3) k
  obtain ⟨cl1, Ar1, -, S1, Nn1, -, -⟩ := id V_o0
  obtain ⟨cl2, Ar2, -, S2, -, Ha2, -⟩ := id V_o0
  have in2 : ¬ ((0 : Int32) < 0 ∨ cl2.slots.size ≤ ((0 : Int32)).toNatClampNeg) := inb_of S2 ⟨by decide, by decide⟩
  obtain ⟨_, _, ⟨T3, L3, k3, n3⟩, -, X3, ⟨Lc3, hQ3, ql3, qy3, qz3⟩, st3⟩ := Jvm.LawKit.callS X0 hx (y := (⟨"com/example/lumenstand/lumenstand/light/InterceptionAddPinLaw", "v", "(III)D"⟩ : MethodName)) hown (mvT hZ (hw _ (List.mem_of_getElem? (i := 37) rfl))) (mvT hZ (hw _ (List.mem_of_getElem? (i := 38) rfl))) (mvT hZ (hw _ (List.mem_of_getElem? (i := 21) rfl))) (mvT hZ (hw _ (List.mem_of_getElem? (i := 39) rfl))) (by decide) (backOf (W := 2) (rm7 l Z a0 hw [] p3 p2 (0 : Int32) c17_z4 c17_z5 c17_z7 c17_z8 h0 n0 Z0 hc17_z4 hc17_z5 hc17_z7 hc17_z8) hZ (hw _ (List.mem_of_getElem? (i := 39) rfl)) (hw _ (List.mem_of_getElem? (i := 21) rfl)) (by decide) (by decide)) (g := (mkF m 17 #[.val (.ref o0), .val (.int (1 : Int32)), .val (.int p2), .val (.int p3)] [(.int (0 : Int32)), (.int p2), (.int p3), (.double y0)])) rfl (by rw [hml]; rfl) (argsL := [(.int p3), (.int p2), (.int (0 : Int32))]) (rest := [(.double y0)]) (lenOf pd_0 rfl) rfl (by show 2 * 0 + _ ≤ _; exact Nat.le_of_eq rfl) (hb hby d6_17) (fun _ _ => ⟨rfl, e0, (by decide : 0 + 0 ≤ _), (by decide : 0 + 0 ≤ _)⟩)
  dsimp only [Pt.U, Pt.locs, Pt.cells, Pt.slots] at X3 ql3 qy3 qz3 st3 hQ3
  subst ql3 qy3 qz3
  obtain ⟨rfl, N3q, e3⟩ := hQ3
  have N3 := Fr.app N0 N3q
  have c4 : ∀ t, Steps p.tables e below (T3.setTop (mkF m 65 #[.val (.ref o0), .val (.int (1 : Int32)), .val (.int p2), .val (.int p3)] [(.int (1 : Int32))])) t → Steps p.tables e below (s₁.setTop (entryFrame m #[(.ref o0), (.int (1 : Int32)), (.int p2), (.int p3)] 4)) t := by
    intro t k
    refine c0 t ?_
    show Steps p.tables e below (s₁.setTop (mkF m 0 #[.val (.ref o0), .val (.int (1 : Int32)), .val (.int p2), .val (.int p3)] [])) _
    refine XS.aloadN X0.here hx rfl (hb hby d6_0) rfl rfl ?_
    show Steps p.tables e below (s₁.setTop (mkF m 1 #[.val (.ref o0), .val (.int (1 : Int32)), .val (.int p2), .val (.int p3)] [(.ref o0)])) _
    refine X0.arraylength hx (by rw [e0]; exact Ar1.1) (State.isArrayOf_alike hZ.alike Ar1.2.1) (g := (mkF m 1 #[.val (.ref o0), .val (.int (1 : Int32)), .val (.int p2), .val (.int p3)] [(.ref o0)])) rfl rfl (hb hby d6_1) _ ?_
    rw [len_of S1 Nn1]
    show Steps p.tables e below (s₁.setTop (mkF m 2 #[.val (.ref o0), .val (.int (1 : Int32)), .val (.int p2), .val (.int p3)] [(.int (1 : Int32))])) _
    refine XS.iloadN X0.here hx rfl (hb hby d6_2) rfl ?_
    show Steps p.tables e below (s₁.setTop (mkF m 3 #[.val (.ref o0), .val (.int (1 : Int32)), .val (.int p2), .val (.int p3)] [(.int (1 : Int32)), (.int (1 : Int32))])) _
    refine XS.icmpNo X0.here hx rfl (hb hby d6_3) rfl (Jvm.Free.XT.ii_ne_f (by decide)) ?_
    show Steps p.tables e below (s₁.setTop (mkF m 6 #[.val (.ref o0), .val (.int (1 : Int32)), .val (.int p2), .val (.int p3)] [])) _
    refine XS.iloadN X0.here hx rfl (hb hby d6_6) rfl ?_
    show Steps p.tables e below (s₁.setTop (mkF m 7 #[.val (.ref o0), .val (.int (1 : Int32)), .val (.int p2), .val (.int p3)] [(.int (1 : Int32))])) _
    refine XS.iconst X0.here hx rfl (hb hby d6_7) ?_
    show Steps p.tables e below (s₁.setTop (mkF m 8 #[.val (.ref o0), .val (.int (1 : Int32)), .val (.int p2), .val (.int p3)] [(.int (1 : Int32)), (.int (1 : Int32))])) _
    refine XS.icmpNo X0.here hx rfl (hb hby d6_8) rfl (Jvm.Free.XT.ii_lt_f (by decide)) ?_
    show Steps p.tables e below (s₁.setTop (mkF m 11 #[.val (.ref o0), .val (.int (1 : Int32)), .val (.int p2), .val (.int p3)] [])) _
    refine XS.aloadN X0.here hx rfl (hb hby d6_11) rfl rfl ?_
    show Steps p.tables e below (s₁.setTop (mkF m 12 #[.val (.ref o0), .val (.int (1 : Int32)), .val (.int p2), .val (.int p3)] [(.ref o0)])) _
    refine XS.iconst X0.here hx rfl (hb hby d6_12) ?_
    show Steps p.tables e below (s₁.setTop (mkF m 13 #[.val (.ref o0), .val (.int (1 : Int32)), .val (.int p2), .val (.int p3)] [(.int (0 : Int32)), (.ref o0)])) _
    refine X0.daload hx (j := (0 : Int32)) (v := (.double y0)) (by rw [e0]; exact Ar2.1) (State.isArrayOf_alike hZ.alike Ar2.2.1) Ar2.2.2 in2 (Has.at Ha2 in2 rfl) (g := (mkF m 13 #[.val (.ref o0), .val (.int (1 : Int32)), .val (.int p2), .val (.int p3)] [(.int (0 : Int32)), (.ref o0)])) rfl rfl (hb hby d6_13) _ ?_
    show Steps p.tables e below (s₁.setTop (mkF m 14 #[.val (.ref o0), .val (.int (1 : Int32)), .val (.int p2), .val (.int p3)] [(.double y0)])) _
    refine XS.iloadN X0.here hx rfl (hb hby d6_14) rfl ?_
    show Steps p.tables e below (s₁.setTop (mkF m 15 #[.val (.ref o0), .val (.int (1 : Int32)), .val (.int p2), .val (.int p3)] [(.int p3), (.double y0)])) _
    refine XS.iloadN X0.here hx rfl (hb hby d6_15) rfl ?_
    show Steps p.tables e below (s₁.setTop (mkF m 16 #[.val (.ref o0), .val (.int (1 : Int32)), .val (.int p2), .val (.int p3)] [(.int p2), (.int p3), (.double y0)])) _
    refine XS.iconst X0.here hx rfl (hb hby d6_16) ?_
    show Steps p.tables e below (s₁.setTop (mkF m 17 #[.val (.ref o0), .val (.int (1 : Int32)), .val (.int p2), .val (.int p3)] [(.int (0 : Int32)), (.int p2), (.int p3), (.double y0)])) _
    refine st3 _ ?_
    show Steps p.tables e below (T3.setTop (mkF m 20 #[.val (.ref o0), .val (.int (1 : Int32)), .val (.int p2), .val (.int p3)] [(.double c17_z8), (.double y0)])) _
    refine XS.dcmpS X3.here hx rfl (hb hby d6_20) rfl hz20 ?_
    show Steps p.tables e below (T3.setTop (mkF m 21 #[.val (.ref o0), .val (.int (1 : Int32)), .val (.int p2), .val (.int p3)] [(.int z20)])) _
    refine XS.ifNo X3.here hx rfl (hb hby d6_21) rfl (Jvm.Free.XT.i0_ne_f br21) ?_
    show Steps p.tables e below (T3.setTop (mkF m 24 #[.val (.ref o0), .val (.int (1 : Int32)), .val (.int p2), .val (.int p3)] [])) _
    refine XS.iloadN X3.here hx rfl (hb hby d6_24) rfl ?_
    show Steps p.tables e below (T3.setTop (mkF m 25 #[.val (.ref o0), .val (.int (1 : Int32)), .val (.int p2), .val (.int p3)] [(.int (1 : Int32))])) _
    refine XS.iconst X3.here hx rfl (hb hby d6_25) ?_
    show Steps p.tables e below (T3.setTop (mkF m 26 #[.val (.ref o0), .val (.int (1 : Int32)), .val (.int p2), .val (.int p3)] [(.int (2 : Int32)), (.int (1 : Int32))])) _
    refine XS.icmpYes X3.here hx rfl (pc0 := 26) (pc' := 42) rfl (hb hby d6_26) rfl (Jvm.Free.XT.ii_lt_t (by decide)) (by decide) (by decide) ?_
    show Steps p.tables e below (T3.setTop (mkF m 42 #[.val (.ref o0), .val (.int (1 : Int32)), .val (.int p2), .val (.int p3)] [])) _
    refine XS.iloadN X3.here hx rfl (hb hby d6_42) rfl ?_
    show Steps p.tables e below (T3.setTop (mkF m 43 #[.val (.ref o0), .val (.int (1 : Int32)), .val (.int p2), .val (.int p3)] [(.int (1 : Int32))])) _
    refine XS.iconst X3.here hx rfl (hb hby d6_43) ?_
    show Steps p.tables e below (T3.setTop (mkF m 44 #[.val (.ref o0), .val (.int (1 : Int32)), .val (.int p2), .val (.int p3)] [(.int (3 : Int32)), (.int (1 : Int32))])) _
    refine XS.icmpYes X3.here hx rfl (pc0 := 44) (pc' := 60) rfl (hb hby d6_44) rfl (Jvm.Free.XT.ii_lt_t (by decide)) (by decide) (by decide) ?_
    show Steps p.tables e below (T3.setTop (mkF m 60 #[.val (.ref o0), .val (.int (1 : Int32)), .val (.int p2), .val (.int p3)] [])) _
    refine XS.iconst X3.here hx rfl (hb hby d6_60) ?_
    show Steps p.tables e below (T3.setTop (mkF m 61 #[.val (.ref o0), .val (.int (1 : Int32)), .val (.int p2), .val (.int p3)] [(.int (1 : Int32))])) _
    refine XS.goto X3.here hx rfl (pc0 := 61) (pc' := 65) rfl (hb hby d6_61) (by decide) (by decide) ?_
    exact k
  obtain ⟨fs, hr, hrun, hended, hW, hsame⟩ := X3.leave (v := some (.int (1 : Int32))) (fun h => by rw [Bd.returns] at h; cases h)
  refine ⟨_, _, c4 _ ?_, hrun, hended, _, _, rfl, ?_, ⟨_, rfl⟩, hW, hsame.mono (by decide) (by decide)⟩
  · show Steps p.tables e below (T3.setTop (mkF m 65 #[.val (.ref o0), .val (.int (1 : Int32)), .val (.int p2), .val (.int p3)] [(.int (1 : Int32))])) _
    exact retOut X3 hx Bd.returns rfl (Or.inl ⟨rfl, by simp, _, rfl⟩) (hb hby d6_65) hr
  · show Q6_1 Z o0 p2 p3 k_o0 y0 c17_z4 c17_z5 c17_z7 c17_z8 z20 h0 n0 _ T3.heap _
    rw [e3]
    exact ⟨rfl, N3, rfl⟩
def Q5_2 (Z : State) (o0 : Addr) (p2 : Int32) (p3 : Int32) (p4 : Int32) (k_o0 : ClassId) (y0 : UInt64) (y1 : UInt64) (c17_z4 : Int32) (c17_z5 : Int32) (c17_z7 : Int32) (c17_z8 : UInt64) (c24_z4 : Int32) (c24_z5 : Int32) (c24_z7 : Int32) (c24_z8 : UInt64) (z27 : UInt64) (z28 : Int32) (c43_z4 : Int32) (c43_z5 : Int32) (c43_z7 : Int32) (c43_z8 : UInt64) (c50_z4 : Int32) (c50_z5 : Int32) (c50_z7 : Int32) (c50_z8 : UInt64) (z53 : UInt64) (z54 : Int32) (h0 : Heap) (n0 : Nat) (v : Option Value) (h : Heap) (L : List Loc) : Prop := v = some (.int (1 : Int32)) ∧ Fr n0 L ∧ h = h0
set_option maxRecDepth 65536 in
set_option maxHeartbeats 40000000 in
theorem rm5_2 (l : Launch) (Z : State) (a0 : Array Value) (hw : ∀ d ∈ tables_1, d.before a0 Z = true) (ws : List Jvm.Cond) (o0 : Addr) (p2 : Int32) (p3 : Int32) (p4 : Int32) (k_o0 : ClassId) (y0 : UInt64) (y1 : UInt64) (c17_z4 : Int32) (c17_z5 : Int32) (c17_z7 : Int32) (c17_z8 : UInt64) (c24_z4 : Int32) (c24_z5 : Int32) (c24_z7 : Int32) (c24_z8 : UInt64) (z27 : UInt64) (z28 : Int32) (c43_z4 : Int32) (c43_z5 : Int32) (c43_z7 : Int32) (c43_z8 : UInt64) (c50_z4 : Int32) (c50_z5 : Int32) (c50_z7 : Int32) (c50_z8 : UInt64) (z53 : UInt64) (z54 : Int32) (h0 : Heap) (n0 : Nat) (Z0 : n0 ≤ h0.size) (V_o0 : Arv Z h0 o0 k_o0 .double (2 : Int32) [(.double y0), (.double y1)] (.double (0 : UInt64))) (hc17_z4 : (16 : Int32) * p2 = c17_z4) (hc17_z5 : p3 + c17_z4 = c17_z5) (hc17_z7 : c17_z5 + (0 : Int32) = c17_z7) (hc17_z8 : FP.i2d c17_z7 = c17_z8) (hc24_z4 : (16 : Int32) * p2 = c24_z4) (hc24_z5 : p4 + c24_z4 = c24_z5) (hc24_z7 : c24_z5 + (0 : Int32) = c24_z7) (hc24_z8 : FP.i2d c24_z7 = c24_z8) (hz27 : FP.dadd c17_z8 c24_z8 = z27) (hz28 : cmpValue (FP.dcmp y0 z27) .l = z28) (hc43_z4 : (16 : Int32) * p2 = c43_z4) (hc43_z5 : p3 + c43_z4 = c43_z5) (hc43_z7 : c43_z5 + (1 : Int32) = c43_z7) (hc43_z8 : FP.i2d c43_z7 = c43_z8) (hc50_z4 : (16 : Int32) * p2 = c50_z4) (hc50_z5 : p4 + c50_z4 = c50_z5) (hc50_z7 : c50_z5 + (1 : Int32) = c50_z7) (hc50_z8 : FP.i2d c50_z7 = c50_z8) (hz53 : FP.dadd c43_z8 c50_z8 = z53) (hz54 : cmpValue (FP.dcmp y1 z53) .l = z54) (nn27 : Jvm.Free.Fl.NoNaN64 z27) (br29 : z28 = (0 : Int32)) (nn53 : Jvm.Free.Fl.NoNaN64 z53) (br55 : z54 = (0 : Int32)) :
    MetFree l (⟨"com/example/lumenstand/lumenstand/light/InterceptionAddPinLaw", "sum", "([DIIII)Z"⟩ : MethodName) (head1 (Jvm.Cond.code (⟨"com/example/lumenstand/lumenstand/light/InterceptionAddPinLaw", "sum", "([DIIII)Z"⟩ : MethodName) method_5_code 5 (some .boolean) :: ws) ({ frames := 1, cells := 0, slots := 0, locals := 18 } : Room)) (fun a U => a = #[(.ref o0), (.int (2 : Int32)), (.int p2), (.int p3), (.int p4)] ∧ Z.Warmed39 U.vm ∧ U.heap = h0) (fun _ _ _ _ _ => True) (fun _ U o U' => ∃ v L, o = .returned v ∧ Q5_2 Z o0 p2 p3 p4 k_o0 y0 y1 c17_z4 c17_z5 c17_z7 c17_z8 c24_z4 c24_z5 c24_z7 c24_z8 z27 z28 c43_z4 c43_z5 c43_z7 c43_z8 c50_z4 c50_z5 c50_z7 c50_z8 z53 z54 h0 n0 v U'.heap L ∧ FrameEnd U o U' L ({ frames := 1, cells := 0, slots := 0, locals := 18 } : Room).cells ({ frames := 1, cells := 0, slots := 0, locals := 18 } : Room).slots) := by
  refine MetFree.of_bodySF (plainFor_of_name pn_0) hisR ?_
  intro p e s m args below meth c s₁ Bd hml0 hP hK
  obtain ⟨rfl, hZ, hh⟩ := hP
  have hx := Bd.exec
  have hby := Bd.bytes
  have hml : c.maxLocals = 5 := hml0
  have hown : s.vm.findClass "com/example/lumenstand/lumenstand/light/InterceptionAddPinLaw" = some m.cls := findClass_of_methodNamed Bd.named
  have hnm := (name_of_methodNamed Bd.named Bd.method).1
  have X0 : Stand p l e ({ frames := 1, cells := 0, slots := 0, locals := 18 } : Room) s m #[(.ref o0), (.int (2 : Int32)), (.int p2), (.int p3), (.int p4)] below meth c s₁ [] 0 0 := Stand.of_body Bd
  have e0 : s₁.heap = h0 := by rw [← hh, Bd.state]; rfl
  have N0 := Fr.nil n0
  have c0 : ∀ t, Steps p.tables e below (s₁.setTop (mkF m 0 #[.val (.ref o0), .val (.int (2 : Int32)), .val (.int p2), .val (.int p3), .val (.int p4)] [])) t → Steps p.tables e below (s₁.setTop (entryFrame m #[(.ref o0), (.int (2 : Int32)), (.int p2), (.int p3), (.int p4)] 5)) t := fun t k => castTop (ef_rm5_2 m o0 p2 p3 p4) k
  obtain ⟨cl1, Ar1, -, S1, Nn1, -, -⟩ := id V_o0
  obtain ⟨cl2, Ar2, -, S2, -, Ha2, -⟩ := id V_o0
  have in2 : ¬ ((0 : Int32) < 0 ∨ cl2.slots.size ≤ ((0 : Int32)).toNatClampNeg) := inb_of S2 ⟨by decide, by decide⟩
  obtain ⟨_, _, ⟨T3, L3, k3, n3⟩, -, X3, ⟨Lc3, hQ3, ql3, qy3, qz3⟩, st3⟩ := Jvm.LawKit.callS X0 hx (y := (⟨"com/example/lumenstand/lumenstand/light/InterceptionAddPinLaw", "v", "(III)D"⟩ : MethodName)) hown (mvT hZ (hw _ (List.mem_of_getElem? (i := 37) rfl))) (mvT hZ (hw _ (List.mem_of_getElem? (i := 38) rfl))) (mvT hZ (hw _ (List.mem_of_getElem? (i := 21) rfl))) (mvT hZ (hw _ (List.mem_of_getElem? (i := 39) rfl))) (by decide) (backOf (W := 2) (rm7 l Z a0 hw [] p3 p2 (0 : Int32) c17_z4 c17_z5 c17_z7 c17_z8 h0 n0 Z0 hc17_z4 hc17_z5 hc17_z7 hc17_z8) hZ (hw _ (List.mem_of_getElem? (i := 39) rfl)) (hw _ (List.mem_of_getElem? (i := 21) rfl)) (by decide) (by decide)) (g := (mkF m 17 #[.val (.ref o0), .val (.int (2 : Int32)), .val (.int p2), .val (.int p3), .val (.int p4)] [(.int (0 : Int32)), (.int p2), (.int p3), (.double y0)])) rfl (by rw [hml]; rfl) (argsL := [(.int p3), (.int p2), (.int (0 : Int32))]) (rest := [(.double y0)]) (lenOf pd_0 rfl) rfl (by show 2 * 0 + _ ≤ _; exact Nat.le_of_eq rfl) (hb hby d5_17) (fun _ _ => ⟨rfl, e0, (by decide : 0 + 0 ≤ _), (by decide : 0 + 0 ≤ _)⟩)
  dsimp only [Pt.U, Pt.locs, Pt.cells, Pt.slots] at X3 ql3 qy3 qz3 st3 hQ3
  subst ql3 qy3 qz3
  obtain ⟨rfl, N3q, e3⟩ := hQ3
  have N3 := Fr.app N0 N3q
  obtain ⟨_, _, ⟨T4, L4, k4, n4⟩, -, X4, ⟨Lc4, hQ4, ql4, qy4, qz4⟩, st4⟩ := Jvm.LawKit.callS X3 hx (y := (⟨"com/example/lumenstand/lumenstand/light/InterceptionAddPinLaw", "v", "(III)D"⟩ : MethodName)) hown (mvT hZ (hw _ (List.mem_of_getElem? (i := 37) rfl))) (mvT hZ (hw _ (List.mem_of_getElem? (i := 38) rfl))) (mvT hZ (hw _ (List.mem_of_getElem? (i := 21) rfl))) (mvT hZ (hw _ (List.mem_of_getElem? (i := 39) rfl))) (by decide) (backOf (W := 4) (rm7 l Z a0 hw [] p4 p2 (0 : Int32) c24_z4 c24_z5 c24_z7 c24_z8 h0 n0 Z0 hc24_z4 hc24_z5 hc24_z7 hc24_z8) hZ (hw _ (List.mem_of_getElem? (i := 39) rfl)) (hw _ (List.mem_of_getElem? (i := 21) rfl)) (by decide) (by decide)) (g := (mkF m 24 #[.val (.ref o0), .val (.int (2 : Int32)), .val (.int p2), .val (.int p3), .val (.int p4)] [(.int (0 : Int32)), (.int p2), (.int p4), (.double c17_z8), (.double y0)])) rfl (by rw [hml]; rfl) (argsL := [(.int p4), (.int p2), (.int (0 : Int32))]) (rest := [(.double c17_z8), (.double y0)]) (lenOf pd_0 rfl) rfl (by show 2 * 0 + _ ≤ _; exact Nat.le_of_eq rfl) (hb hby d5_24) (fun _ _ => ⟨rfl, e3, (by decide : 0 + 0 ≤ _), (by decide : 0 + 0 ≤ _)⟩)
  dsimp only [Pt.U, Pt.locs, Pt.cells, Pt.slots] at X4 ql4 qy4 qz4 st4 hQ4
  subst ql4 qy4 qz4
  obtain ⟨rfl, N4q, e4⟩ := hQ4
  have N4 := Fr.app N3 N4q
  obtain ⟨cl5, Ar5, -, S5, -, Ha5, -⟩ := id V_o0
  have in5 : ¬ ((1 : Int32) < 0 ∨ cl5.slots.size ≤ ((1 : Int32)).toNatClampNeg) := inb_of S5 ⟨by decide, by decide⟩
  obtain ⟨_, _, ⟨T6, L6, k6, n6⟩, -, X6, ⟨Lc6, hQ6, ql6, qy6, qz6⟩, st6⟩ := Jvm.LawKit.callS X4 hx (y := (⟨"com/example/lumenstand/lumenstand/light/InterceptionAddPinLaw", "v", "(III)D"⟩ : MethodName)) hown (mvT hZ (hw _ (List.mem_of_getElem? (i := 37) rfl))) (mvT hZ (hw _ (List.mem_of_getElem? (i := 38) rfl))) (mvT hZ (hw _ (List.mem_of_getElem? (i := 21) rfl))) (mvT hZ (hw _ (List.mem_of_getElem? (i := 39) rfl))) (by decide) (backOf (W := 2) (rm7 l Z a0 hw [] p3 p2 (1 : Int32) c43_z4 c43_z5 c43_z7 c43_z8 h0 n0 Z0 hc43_z4 hc43_z5 hc43_z7 hc43_z8) hZ (hw _ (List.mem_of_getElem? (i := 39) rfl)) (hw _ (List.mem_of_getElem? (i := 21) rfl)) (by decide) (by decide)) (g := (mkF m 43 #[.val (.ref o0), .val (.int (2 : Int32)), .val (.int p2), .val (.int p3), .val (.int p4)] [(.int (1 : Int32)), (.int p2), (.int p3), (.double y1)])) rfl (by rw [hml]; rfl) (argsL := [(.int p3), (.int p2), (.int (1 : Int32))]) (rest := [(.double y1)]) (lenOf pd_0 rfl) rfl (by show 2 * 0 + _ ≤ _; exact Nat.le_of_eq rfl) (hb hby d5_43) (fun _ _ => ⟨rfl, e4, (by decide : 0 + 0 ≤ _), (by decide : 0 + 0 ≤ _)⟩)
  dsimp only [Pt.U, Pt.locs, Pt.cells, Pt.slots] at X6 ql6 qy6 qz6 st6 hQ6
  subst ql6 qy6 qz6
  obtain ⟨rfl, N6q, e6⟩ := hQ6
  have N6 := Fr.app N4 N6q
  obtain ⟨_, _, ⟨T7, L7, k7, n7⟩, -, X7, ⟨Lc7, hQ7, ql7, qy7, qz7⟩, st7⟩ := Jvm.LawKit.callS X6 hx (y := (⟨"com/example/lumenstand/lumenstand/light/InterceptionAddPinLaw", "v", "(III)D"⟩ : MethodName)) hown (mvT hZ (hw _ (List.mem_of_getElem? (i := 37) rfl))) (mvT hZ (hw _ (List.mem_of_getElem? (i := 38) rfl))) (mvT hZ (hw _ (List.mem_of_getElem? (i := 21) rfl))) (mvT hZ (hw _ (List.mem_of_getElem? (i := 39) rfl))) (by decide) (backOf (W := 4) (rm7 l Z a0 hw [] p4 p2 (1 : Int32) c50_z4 c50_z5 c50_z7 c50_z8 h0 n0 Z0 hc50_z4 hc50_z5 hc50_z7 hc50_z8) hZ (hw _ (List.mem_of_getElem? (i := 39) rfl)) (hw _ (List.mem_of_getElem? (i := 21) rfl)) (by decide) (by decide)) (g := (mkF m 50 #[.val (.ref o0), .val (.int (2 : Int32)), .val (.int p2), .val (.int p3), .val (.int p4)] [(.int (1 : Int32)), (.int p2), (.int p4), (.double c43_z8), (.double y1)])) rfl (by rw [hml]; rfl) (argsL := [(.int p4), (.int p2), (.int (1 : Int32))]) (rest := [(.double c43_z8), (.double y1)]) (lenOf pd_0 rfl) rfl (by show 2 * 0 + _ ≤ _; exact Nat.le_of_eq rfl) (hb hby d5_50) (fun _ _ => ⟨rfl, e6, (by decide : 0 + 0 ≤ _), (by decide : 0 + 0 ≤ _)⟩)
  dsimp only [Pt.U, Pt.locs, Pt.cells, Pt.slots] at X7 ql7 qy7 qz7 st7 hQ7
  subst ql7 qy7 qz7
  obtain ⟨rfl, N7q, e7⟩ := hQ7
  have N7 := Fr.app N6 N7q
  have c8 : ∀ t, Steps p.tables e below (T7.setTop (mkF m 89 #[.val (.ref o0), .val (.int (2 : Int32)), .val (.int p2), .val (.int p3), .val (.int p4)] [(.int (1 : Int32))])) t → Steps p.tables e below (s₁.setTop (entryFrame m #[(.ref o0), (.int (2 : Int32)), (.int p2), (.int p3), (.int p4)] 5)) t := by
    intro t k
    refine c0 t ?_
    show Steps p.tables e below (s₁.setTop (mkF m 0 #[.val (.ref o0), .val (.int (2 : Int32)), .val (.int p2), .val (.int p3), .val (.int p4)] [])) _
    refine XS.aloadN X0.here hx rfl (hb hby d5_0) rfl rfl ?_
    show Steps p.tables e below (s₁.setTop (mkF m 1 #[.val (.ref o0), .val (.int (2 : Int32)), .val (.int p2), .val (.int p3), .val (.int p4)] [(.ref o0)])) _
    refine X0.arraylength hx (by rw [e0]; exact Ar1.1) (State.isArrayOf_alike hZ.alike Ar1.2.1) (g := (mkF m 1 #[.val (.ref o0), .val (.int (2 : Int32)), .val (.int p2), .val (.int p3), .val (.int p4)] [(.ref o0)])) rfl rfl (hb hby d5_1) _ ?_
    rw [len_of S1 Nn1]
    show Steps p.tables e below (s₁.setTop (mkF m 2 #[.val (.ref o0), .val (.int (2 : Int32)), .val (.int p2), .val (.int p3), .val (.int p4)] [(.int (2 : Int32))])) _
    refine XS.iloadN X0.here hx rfl (hb hby d5_2) rfl ?_
    show Steps p.tables e below (s₁.setTop (mkF m 3 #[.val (.ref o0), .val (.int (2 : Int32)), .val (.int p2), .val (.int p3), .val (.int p4)] [(.int (2 : Int32)), (.int (2 : Int32))])) _
    refine XS.icmpNo X0.here hx rfl (hb hby d5_3) rfl (Jvm.Free.XT.ii_ne_f (by decide)) ?_
    show Steps p.tables e below (s₁.setTop (mkF m 6 #[.val (.ref o0), .val (.int (2 : Int32)), .val (.int p2), .val (.int p3), .val (.int p4)] [])) _
    refine XS.iloadN X0.here hx rfl (hb hby d5_6) rfl ?_
    show Steps p.tables e below (s₁.setTop (mkF m 7 #[.val (.ref o0), .val (.int (2 : Int32)), .val (.int p2), .val (.int p3), .val (.int p4)] [(.int (2 : Int32))])) _
    refine XS.iconst X0.here hx rfl (hb hby d5_7) ?_
    show Steps p.tables e below (s₁.setTop (mkF m 8 #[.val (.ref o0), .val (.int (2 : Int32)), .val (.int p2), .val (.int p3), .val (.int p4)] [(.int (1 : Int32)), (.int (2 : Int32))])) _
    refine XS.icmpNo X0.here hx rfl (hb hby d5_8) rfl (Jvm.Free.XT.ii_lt_f (by decide)) ?_
    show Steps p.tables e below (s₁.setTop (mkF m 11 #[.val (.ref o0), .val (.int (2 : Int32)), .val (.int p2), .val (.int p3), .val (.int p4)] [])) _
    refine XS.aloadN X0.here hx rfl (hb hby d5_11) rfl rfl ?_
    show Steps p.tables e below (s₁.setTop (mkF m 12 #[.val (.ref o0), .val (.int (2 : Int32)), .val (.int p2), .val (.int p3), .val (.int p4)] [(.ref o0)])) _
    refine XS.iconst X0.here hx rfl (hb hby d5_12) ?_
    show Steps p.tables e below (s₁.setTop (mkF m 13 #[.val (.ref o0), .val (.int (2 : Int32)), .val (.int p2), .val (.int p3), .val (.int p4)] [(.int (0 : Int32)), (.ref o0)])) _
    refine X0.daload hx (j := (0 : Int32)) (v := (.double y0)) (by rw [e0]; exact Ar2.1) (State.isArrayOf_alike hZ.alike Ar2.2.1) Ar2.2.2 in2 (Has.at Ha2 in2 rfl) (g := (mkF m 13 #[.val (.ref o0), .val (.int (2 : Int32)), .val (.int p2), .val (.int p3), .val (.int p4)] [(.int (0 : Int32)), (.ref o0)])) rfl rfl (hb hby d5_13) _ ?_
    show Steps p.tables e below (s₁.setTop (mkF m 14 #[.val (.ref o0), .val (.int (2 : Int32)), .val (.int p2), .val (.int p3), .val (.int p4)] [(.double y0)])) _
    refine XS.iloadN X0.here hx rfl (hb hby d5_14) rfl ?_
    show Steps p.tables e below (s₁.setTop (mkF m 15 #[.val (.ref o0), .val (.int (2 : Int32)), .val (.int p2), .val (.int p3), .val (.int p4)] [(.int p3), (.double y0)])) _
    refine XS.iloadN X0.here hx rfl (hb hby d5_15) rfl ?_
    show Steps p.tables e below (s₁.setTop (mkF m 16 #[.val (.ref o0), .val (.int (2 : Int32)), .val (.int p2), .val (.int p3), .val (.int p4)] [(.int p2), (.int p3), (.double y0)])) _
    refine XS.iconst X0.here hx rfl (hb hby d5_16) ?_
    show Steps p.tables e below (s₁.setTop (mkF m 17 #[.val (.ref o0), .val (.int (2 : Int32)), .val (.int p2), .val (.int p3), .val (.int p4)] [(.int (0 : Int32)), (.int p2), (.int p3), (.double y0)])) _
    refine st3 _ ?_
    show Steps p.tables e below (T3.setTop (mkF m 20 #[.val (.ref o0), .val (.int (2 : Int32)), .val (.int p2), .val (.int p3), .val (.int p4)] [(.double c17_z8), (.double y0)])) _
    refine XS.iload X3.here hx rfl (hb hby d5_20) rfl ?_
    show Steps p.tables e below (T3.setTop (mkF m 22 #[.val (.ref o0), .val (.int (2 : Int32)), .val (.int p2), .val (.int p3), .val (.int p4)] [(.int p4), (.double c17_z8), (.double y0)])) _
    refine XS.iloadN X3.here hx rfl (hb hby d5_22) rfl ?_
    show Steps p.tables e below (T3.setTop (mkF m 23 #[.val (.ref o0), .val (.int (2 : Int32)), .val (.int p2), .val (.int p3), .val (.int p4)] [(.int p2), (.int p4), (.double c17_z8), (.double y0)])) _
    refine XS.iconst X3.here hx rfl (hb hby d5_23) ?_
    show Steps p.tables e below (T3.setTop (mkF m 24 #[.val (.ref o0), .val (.int (2 : Int32)), .val (.int p2), .val (.int p3), .val (.int p4)] [(.int (0 : Int32)), (.int p2), (.int p4), (.double c17_z8), (.double y0)])) _
    refine st4 _ ?_
    show Steps p.tables e below (T4.setTop (mkF m 27 #[.val (.ref o0), .val (.int (2 : Int32)), .val (.int p2), .val (.int p3), .val (.int p4)] [(.double c24_z8), (.double c17_z8), (.double y0)])) _
    refine Jvm.OwnK.dadd X4.here hx rfl (hb hby d5_27) rfl hz27 nn27 ?_
    show Steps p.tables e below (T4.setTop (mkF m 28 #[.val (.ref o0), .val (.int (2 : Int32)), .val (.int p2), .val (.int p3), .val (.int p4)] [(.double z27), (.double y0)])) _
    refine XS.dcmpS X4.here hx rfl (hb hby d5_28) rfl hz28 ?_
    show Steps p.tables e below (T4.setTop (mkF m 29 #[.val (.ref o0), .val (.int (2 : Int32)), .val (.int p2), .val (.int p3), .val (.int p4)] [(.int z28)])) _
    refine XS.ifNo X4.here hx rfl (hb hby d5_29) rfl (Jvm.Free.XT.i0_ne_f br29) ?_
    show Steps p.tables e below (T4.setTop (mkF m 32 #[.val (.ref o0), .val (.int (2 : Int32)), .val (.int p2), .val (.int p3), .val (.int p4)] [])) _
    refine XS.iloadN X4.here hx rfl (hb hby d5_32) rfl ?_
    show Steps p.tables e below (T4.setTop (mkF m 33 #[.val (.ref o0), .val (.int (2 : Int32)), .val (.int p2), .val (.int p3), .val (.int p4)] [(.int (2 : Int32))])) _
    refine XS.iconst X4.here hx rfl (hb hby d5_33) ?_
    show Steps p.tables e below (T4.setTop (mkF m 34 #[.val (.ref o0), .val (.int (2 : Int32)), .val (.int p2), .val (.int p3), .val (.int p4)] [(.int (2 : Int32)), (.int (2 : Int32))])) _
    refine XS.icmpNo X4.here hx rfl (hb hby d5_34) rfl (Jvm.Free.XT.ii_lt_f (by decide)) ?_
    show Steps p.tables e below (T4.setTop (mkF m 37 #[.val (.ref o0), .val (.int (2 : Int32)), .val (.int p2), .val (.int p3), .val (.int p4)] [])) _
    refine XS.aloadN X4.here hx rfl (hb hby d5_37) rfl rfl ?_
    show Steps p.tables e below (T4.setTop (mkF m 38 #[.val (.ref o0), .val (.int (2 : Int32)), .val (.int p2), .val (.int p3), .val (.int p4)] [(.ref o0)])) _
    refine XS.iconst X4.here hx rfl (hb hby d5_38) ?_
    show Steps p.tables e below (T4.setTop (mkF m 39 #[.val (.ref o0), .val (.int (2 : Int32)), .val (.int p2), .val (.int p3), .val (.int p4)] [(.int (1 : Int32)), (.ref o0)])) _
    refine X4.daload hx (j := (1 : Int32)) (v := (.double y1)) (by rw [e4]; exact Ar5.1) (State.isArrayOf_alike hZ.alike Ar5.2.1) Ar5.2.2 in5 (Has.at Ha5 in5 rfl) (g := (mkF m 39 #[.val (.ref o0), .val (.int (2 : Int32)), .val (.int p2), .val (.int p3), .val (.int p4)] [(.int (1 : Int32)), (.ref o0)])) rfl rfl (hb hby d5_39) _ ?_
    show Steps p.tables e below (T4.setTop (mkF m 40 #[.val (.ref o0), .val (.int (2 : Int32)), .val (.int p2), .val (.int p3), .val (.int p4)] [(.double y1)])) _
    refine XS.iloadN X4.here hx rfl (hb hby d5_40) rfl ?_
    show Steps p.tables e below (T4.setTop (mkF m 41 #[.val (.ref o0), .val (.int (2 : Int32)), .val (.int p2), .val (.int p3), .val (.int p4)] [(.int p3), (.double y1)])) _
    refine XS.iloadN X4.here hx rfl (hb hby d5_41) rfl ?_
    show Steps p.tables e below (T4.setTop (mkF m 42 #[.val (.ref o0), .val (.int (2 : Int32)), .val (.int p2), .val (.int p3), .val (.int p4)] [(.int p2), (.int p3), (.double y1)])) _
    refine XS.iconst X4.here hx rfl (hb hby d5_42) ?_
    show Steps p.tables e below (T4.setTop (mkF m 43 #[.val (.ref o0), .val (.int (2 : Int32)), .val (.int p2), .val (.int p3), .val (.int p4)] [(.int (1 : Int32)), (.int p2), (.int p3), (.double y1)])) _
    refine st6 _ ?_
    show Steps p.tables e below (T6.setTop (mkF m 46 #[.val (.ref o0), .val (.int (2 : Int32)), .val (.int p2), .val (.int p3), .val (.int p4)] [(.double c43_z8), (.double y1)])) _
    refine XS.iload X6.here hx rfl (hb hby d5_46) rfl ?_
    show Steps p.tables e below (T6.setTop (mkF m 48 #[.val (.ref o0), .val (.int (2 : Int32)), .val (.int p2), .val (.int p3), .val (.int p4)] [(.int p4), (.double c43_z8), (.double y1)])) _
    refine XS.iloadN X6.here hx rfl (hb hby d5_48) rfl ?_
    show Steps p.tables e below (T6.setTop (mkF m 49 #[.val (.ref o0), .val (.int (2 : Int32)), .val (.int p2), .val (.int p3), .val (.int p4)] [(.int p2), (.int p4), (.double c43_z8), (.double y1)])) _
    refine XS.iconst X6.here hx rfl (hb hby d5_49) ?_
    show Steps p.tables e below (T6.setTop (mkF m 50 #[.val (.ref o0), .val (.int (2 : Int32)), .val (.int p2), .val (.int p3), .val (.int p4)] [(.int (1 : Int32)), (.int p2), (.int p4), (.double c43_z8), (.double y1)])) _
    refine st7 _ ?_
    show Steps p.tables e below (T7.setTop (mkF m 53 #[.val (.ref o0), .val (.int (2 : Int32)), .val (.int p2), .val (.int p3), .val (.int p4)] [(.double c50_z8), (.double c43_z8), (.double y1)])) _
    refine Jvm.OwnK.dadd X7.here hx rfl (hb hby d5_53) rfl hz53 nn53 ?_
    show Steps p.tables e below (T7.setTop (mkF m 54 #[.val (.ref o0), .val (.int (2 : Int32)), .val (.int p2), .val (.int p3), .val (.int p4)] [(.double z53), (.double y1)])) _
    refine XS.dcmpS X7.here hx rfl (hb hby d5_54) rfl hz54 ?_
    show Steps p.tables e below (T7.setTop (mkF m 55 #[.val (.ref o0), .val (.int (2 : Int32)), .val (.int p2), .val (.int p3), .val (.int p4)] [(.int z54)])) _
    refine XS.ifNo X7.here hx rfl (hb hby d5_55) rfl (Jvm.Free.XT.i0_ne_f br55) ?_
    show Steps p.tables e below (T7.setTop (mkF m 58 #[.val (.ref o0), .val (.int (2 : Int32)), .val (.int p2), .val (.int p3), .val (.int p4)] [])) _
    refine XS.iloadN X7.here hx rfl (hb hby d5_58) rfl ?_
    show Steps p.tables e below (T7.setTop (mkF m 59 #[.val (.ref o0), .val (.int (2 : Int32)), .val (.int p2), .val (.int p3), .val (.int p4)] [(.int (2 : Int32))])) _
    refine XS.iconst X7.here hx rfl (hb hby d5_59) ?_
    show Steps p.tables e below (T7.setTop (mkF m 60 #[.val (.ref o0), .val (.int (2 : Int32)), .val (.int p2), .val (.int p3), .val (.int p4)] [(.int (3 : Int32)), (.int (2 : Int32))])) _
    refine XS.icmpYes X7.here hx rfl (pc0 := 60) (pc' := 84) rfl (hb hby d5_60) rfl (Jvm.Free.XT.ii_lt_t (by decide)) (by decide) (by decide) ?_
    show Steps p.tables e below (T7.setTop (mkF m 84 #[.val (.ref o0), .val (.int (2 : Int32)), .val (.int p2), .val (.int p3), .val (.int p4)] [])) _
    refine XS.iconst X7.here hx rfl (hb hby d5_84) ?_
    show Steps p.tables e below (T7.setTop (mkF m 85 #[.val (.ref o0), .val (.int (2 : Int32)), .val (.int p2), .val (.int p3), .val (.int p4)] [(.int (1 : Int32))])) _
    refine XS.goto X7.here hx rfl (pc0 := 85) (pc' := 89) rfl (hb hby d5_85) (by decide) (by decide) ?_
    exact k
  obtain ⟨fs, hr, hrun, hended, hW, hsame⟩ := X7.leave (v := some (.int (1 : Int32))) (fun h => by rw [Bd.returns] at h; cases h)
  refine ⟨_, _, c8 _ ?_, hrun, hended, _, _, rfl, ?_, ⟨_, rfl⟩, hW, hsame.mono (by decide) (by decide)⟩
  · show Steps p.tables e below (T7.setTop (mkF m 89 #[.val (.ref o0), .val (.int (2 : Int32)), .val (.int p2), .val (.int p3), .val (.int p4)] [(.int (1 : Int32))])) _
    exact retOut X7 hx Bd.returns rfl (Or.inl ⟨rfl, by simp, _, rfl⟩) (hb hby d5_89) hr
  · show Q5_2 Z o0 p2 p3 p4 k_o0 y0 y1 c17_z4 c17_z5 c17_z7 c17_z8 c24_z4 c24_z5 c24_z7 c24_z8 z27 z28 c43_z4 c43_z5 c43_z7 c43_z8 c50_z4 c50_z5 c50_z7 c50_z8 z53 z54 h0 n0 _ T7.heap _
    rw [e7]
    exact ⟨rfl, N7, rfl⟩
def Q6_2 (Z : State) (o0 : Addr) (p2 : Int32) (p3 : Int32) (k_o0 : ClassId) (y0 : UInt64) (y1 : UInt64) (c17_z4 : Int32) (c17_z5 : Int32) (c17_z7 : Int32) (c17_z8 : UInt64) (z20 : Int32) (c35_z4 : Int32) (c35_z5 : Int32) (c35_z7 : Int32) (c35_z8 : UInt64) (z38 : Int32) (h0 : Heap) (n0 : Nat) (v : Option Value) (h : Heap) (L : List Loc) : Prop := v = some (.int (1 : Int32)) ∧ Fr n0 L ∧ h = h0
set_option maxRecDepth 65536 in
set_option maxHeartbeats 40000000 in
theorem rm6_2 (l : Launch) (Z : State) (a0 : Array Value) (hw : ∀ d ∈ tables_1, d.before a0 Z = true) (ws : List Jvm.Cond) (o0 : Addr) (p2 : Int32) (p3 : Int32) (k_o0 : ClassId) (y0 : UInt64) (y1 : UInt64) (c17_z4 : Int32) (c17_z5 : Int32) (c17_z7 : Int32) (c17_z8 : UInt64) (z20 : Int32) (c35_z4 : Int32) (c35_z5 : Int32) (c35_z7 : Int32) (c35_z8 : UInt64) (z38 : Int32) (h0 : Heap) (n0 : Nat) (Z0 : n0 ≤ h0.size) (V_o0 : Arv Z h0 o0 k_o0 .double (2 : Int32) [(.double y0), (.double y1)] (.double (0 : UInt64))) (hc17_z4 : (16 : Int32) * p2 = c17_z4) (hc17_z5 : p3 + c17_z4 = c17_z5) (hc17_z7 : c17_z5 + (0 : Int32) = c17_z7) (hc17_z8 : FP.i2d c17_z7 = c17_z8) (hz20 : cmpValue (FP.dcmp y0 c17_z8) .l = z20) (hc35_z4 : (16 : Int32) * p2 = c35_z4) (hc35_z5 : p3 + c35_z4 = c35_z5) (hc35_z7 : c35_z5 + (1 : Int32) = c35_z7) (hc35_z8 : FP.i2d c35_z7 = c35_z8) (hz38 : cmpValue (FP.dcmp y1 c35_z8) .l = z38) (br21 : z20 = (0 : Int32)) (br39 : z38 = (0 : Int32)) :
    MetFree l (⟨"com/example/lumenstand/lumenstand/light/InterceptionAddPinLaw", "kept", "([DIII)Z"⟩ : MethodName) (head1 (Jvm.Cond.code (⟨"com/example/lumenstand/lumenstand/light/InterceptionAddPinLaw", "kept", "([DIII)Z"⟩ : MethodName) method_6_code 4 (some .boolean) :: ws) ({ frames := 1, cells := 0, slots := 0, locals := 16 } : Room)) (fun a U => a = #[(.ref o0), (.int (2 : Int32)), (.int p2), (.int p3)] ∧ Z.Warmed39 U.vm ∧ U.heap = h0) (fun _ _ _ _ _ => True) (fun _ U o U' => ∃ v L, o = .returned v ∧ Q6_2 Z o0 p2 p3 k_o0 y0 y1 c17_z4 c17_z5 c17_z7 c17_z8 z20 c35_z4 c35_z5 c35_z7 c35_z8 z38 h0 n0 v U'.heap L ∧ FrameEnd U o U' L ({ frames := 1, cells := 0, slots := 0, locals := 16 } : Room).cells ({ frames := 1, cells := 0, slots := 0, locals := 16 } : Room).slots) := by
  refine MetFree.of_bodySF (plainFor_of_name pn_0) hisR ?_
  intro p e s m args below meth c s₁ Bd hml0 hP hK
  obtain ⟨rfl, hZ, hh⟩ := hP
  have hx := Bd.exec
  have hby := Bd.bytes
  have hml : c.maxLocals = 4 := hml0
  have hown : s.vm.findClass "com/example/lumenstand/lumenstand/light/InterceptionAddPinLaw" = some m.cls := findClass_of_methodNamed Bd.named
  have hnm := (name_of_methodNamed Bd.named Bd.method).1
  have X0 : Stand p l e ({ frames := 1, cells := 0, slots := 0, locals := 16 } : Room) s m #[(.ref o0), (.int (2 : Int32)), (.int p2), (.int p3)] below meth c s₁ [] 0 0 := Stand.of_body Bd
  have e0 : s₁.heap = h0 := by rw [← hh, Bd.state]; rfl
  have N0 := Fr.nil n0
  have c0 : ∀ t, Steps p.tables e below (s₁.setTop (mkF m 0 #[.val (.ref o0), .val (.int (2 : Int32)), .val (.int p2), .val (.int p3)] [])) t → Steps p.tables e below (s₁.setTop (entryFrame m #[(.ref o0), (.int (2 : Int32)), (.int p2), (.int p3)] 4)) t := fun t k => castTop (ef_rm6_2 m o0 p2 p3) k
  obtain ⟨cl1, Ar1, -, S1, Nn1, -, -⟩ := id V_o0
  obtain ⟨cl2, Ar2, -, S2, -, Ha2, -⟩ := id V_o0
  have in2 : ¬ ((0 : Int32) < 0 ∨ cl2.slots.size ≤ ((0 : Int32)).toNatClampNeg) := inb_of S2 ⟨by decide, by decide⟩
  obtain ⟨_, _, ⟨T3, L3, k3, n3⟩, -, X3, ⟨Lc3, hQ3, ql3, qy3, qz3⟩, st3⟩ := Jvm.LawKit.callS X0 hx (y := (⟨"com/example/lumenstand/lumenstand/light/InterceptionAddPinLaw", "v", "(III)D"⟩ : MethodName)) hown (mvT hZ (hw _ (List.mem_of_getElem? (i := 37) rfl))) (mvT hZ (hw _ (List.mem_of_getElem? (i := 38) rfl))) (mvT hZ (hw _ (List.mem_of_getElem? (i := 21) rfl))) (mvT hZ (hw _ (List.mem_of_getElem? (i := 39) rfl))) (by decide) (backOf (W := 2) (rm7 l Z a0 hw [] p3 p2 (0 : Int32) c17_z4 c17_z5 c17_z7 c17_z8 h0 n0 Z0 hc17_z4 hc17_z5 hc17_z7 hc17_z8) hZ (hw _ (List.mem_of_getElem? (i := 39) rfl)) (hw _ (List.mem_of_getElem? (i := 21) rfl)) (by decide) (by decide)) (g := (mkF m 17 #[.val (.ref o0), .val (.int (2 : Int32)), .val (.int p2), .val (.int p3)] [(.int (0 : Int32)), (.int p2), (.int p3), (.double y0)])) rfl (by rw [hml]; rfl) (argsL := [(.int p3), (.int p2), (.int (0 : Int32))]) (rest := [(.double y0)]) (lenOf pd_0 rfl) rfl (by show 2 * 0 + _ ≤ _; exact Nat.le_of_eq rfl) (hb hby d6_17) (fun _ _ => ⟨rfl, e0, (by decide : 0 + 0 ≤ _), (by decide : 0 + 0 ≤ _)⟩)
  dsimp only [Pt.U, Pt.locs, Pt.cells, Pt.slots] at X3 ql3 qy3 qz3 st3 hQ3
  subst ql3 qy3 qz3
  obtain ⟨rfl, N3q, e3⟩ := hQ3
  have N3 := Fr.app N0 N3q
  obtain ⟨cl4, Ar4, -, S4, -, Ha4, -⟩ := id V_o0
  have in4 : ¬ ((1 : Int32) < 0 ∨ cl4.slots.size ≤ ((1 : Int32)).toNatClampNeg) := inb_of S4 ⟨by decide, by decide⟩
  obtain ⟨_, _, ⟨T5, L5, k5, n5⟩, -, X5, ⟨Lc5, hQ5, ql5, qy5, qz5⟩, st5⟩ := Jvm.LawKit.callS X3 hx (y := (⟨"com/example/lumenstand/lumenstand/light/InterceptionAddPinLaw", "v", "(III)D"⟩ : MethodName)) hown (mvT hZ (hw _ (List.mem_of_getElem? (i := 37) rfl))) (mvT hZ (hw _ (List.mem_of_getElem? (i := 38) rfl))) (mvT hZ (hw _ (List.mem_of_getElem? (i := 21) rfl))) (mvT hZ (hw _ (List.mem_of_getElem? (i := 39) rfl))) (by decide) (backOf (W := 2) (rm7 l Z a0 hw [] p3 p2 (1 : Int32) c35_z4 c35_z5 c35_z7 c35_z8 h0 n0 Z0 hc35_z4 hc35_z5 hc35_z7 hc35_z8) hZ (hw _ (List.mem_of_getElem? (i := 39) rfl)) (hw _ (List.mem_of_getElem? (i := 21) rfl)) (by decide) (by decide)) (g := (mkF m 35 #[.val (.ref o0), .val (.int (2 : Int32)), .val (.int p2), .val (.int p3)] [(.int (1 : Int32)), (.int p2), (.int p3), (.double y1)])) rfl (by rw [hml]; rfl) (argsL := [(.int p3), (.int p2), (.int (1 : Int32))]) (rest := [(.double y1)]) (lenOf pd_0 rfl) rfl (by show 2 * 0 + _ ≤ _; exact Nat.le_of_eq rfl) (hb hby d6_35) (fun _ _ => ⟨rfl, e3, (by decide : 0 + 0 ≤ _), (by decide : 0 + 0 ≤ _)⟩)
  dsimp only [Pt.U, Pt.locs, Pt.cells, Pt.slots] at X5 ql5 qy5 qz5 st5 hQ5
  subst ql5 qy5 qz5
  obtain ⟨rfl, N5q, e5⟩ := hQ5
  have N5 := Fr.app N3 N5q
  have c6 : ∀ t, Steps p.tables e below (T5.setTop (mkF m 65 #[.val (.ref o0), .val (.int (2 : Int32)), .val (.int p2), .val (.int p3)] [(.int (1 : Int32))])) t → Steps p.tables e below (s₁.setTop (entryFrame m #[(.ref o0), (.int (2 : Int32)), (.int p2), (.int p3)] 4)) t := by
    intro t k
    refine c0 t ?_
    show Steps p.tables e below (s₁.setTop (mkF m 0 #[.val (.ref o0), .val (.int (2 : Int32)), .val (.int p2), .val (.int p3)] [])) _
    refine XS.aloadN X0.here hx rfl (hb hby d6_0) rfl rfl ?_
    show Steps p.tables e below (s₁.setTop (mkF m 1 #[.val (.ref o0), .val (.int (2 : Int32)), .val (.int p2), .val (.int p3)] [(.ref o0)])) _
    refine X0.arraylength hx (by rw [e0]; exact Ar1.1) (State.isArrayOf_alike hZ.alike Ar1.2.1) (g := (mkF m 1 #[.val (.ref o0), .val (.int (2 : Int32)), .val (.int p2), .val (.int p3)] [(.ref o0)])) rfl rfl (hb hby d6_1) _ ?_
    rw [len_of S1 Nn1]
    show Steps p.tables e below (s₁.setTop (mkF m 2 #[.val (.ref o0), .val (.int (2 : Int32)), .val (.int p2), .val (.int p3)] [(.int (2 : Int32))])) _
    refine XS.iloadN X0.here hx rfl (hb hby d6_2) rfl ?_
    show Steps p.tables e below (s₁.setTop (mkF m 3 #[.val (.ref o0), .val (.int (2 : Int32)), .val (.int p2), .val (.int p3)] [(.int (2 : Int32)), (.int (2 : Int32))])) _
    refine XS.icmpNo X0.here hx rfl (hb hby d6_3) rfl (Jvm.Free.XT.ii_ne_f (by decide)) ?_
    show Steps p.tables e below (s₁.setTop (mkF m 6 #[.val (.ref o0), .val (.int (2 : Int32)), .val (.int p2), .val (.int p3)] [])) _
    refine XS.iloadN X0.here hx rfl (hb hby d6_6) rfl ?_
    show Steps p.tables e below (s₁.setTop (mkF m 7 #[.val (.ref o0), .val (.int (2 : Int32)), .val (.int p2), .val (.int p3)] [(.int (2 : Int32))])) _
    refine XS.iconst X0.here hx rfl (hb hby d6_7) ?_
    show Steps p.tables e below (s₁.setTop (mkF m 8 #[.val (.ref o0), .val (.int (2 : Int32)), .val (.int p2), .val (.int p3)] [(.int (1 : Int32)), (.int (2 : Int32))])) _
    refine XS.icmpNo X0.here hx rfl (hb hby d6_8) rfl (Jvm.Free.XT.ii_lt_f (by decide)) ?_
    show Steps p.tables e below (s₁.setTop (mkF m 11 #[.val (.ref o0), .val (.int (2 : Int32)), .val (.int p2), .val (.int p3)] [])) _
    refine XS.aloadN X0.here hx rfl (hb hby d6_11) rfl rfl ?_
    show Steps p.tables e below (s₁.setTop (mkF m 12 #[.val (.ref o0), .val (.int (2 : Int32)), .val (.int p2), .val (.int p3)] [(.ref o0)])) _
    refine XS.iconst X0.here hx rfl (hb hby d6_12) ?_
    show Steps p.tables e below (s₁.setTop (mkF m 13 #[.val (.ref o0), .val (.int (2 : Int32)), .val (.int p2), .val (.int p3)] [(.int (0 : Int32)), (.ref o0)])) _
    refine X0.daload hx (j := (0 : Int32)) (v := (.double y0)) (by rw [e0]; exact Ar2.1) (State.isArrayOf_alike hZ.alike Ar2.2.1) Ar2.2.2 in2 (Has.at Ha2 in2 rfl) (g := (mkF m 13 #[.val (.ref o0), .val (.int (2 : Int32)), .val (.int p2), .val (.int p3)] [(.int (0 : Int32)), (.ref o0)])) rfl rfl (hb hby d6_13) _ ?_
    show Steps p.tables e below (s₁.setTop (mkF m 14 #[.val (.ref o0), .val (.int (2 : Int32)), .val (.int p2), .val (.int p3)] [(.double y0)])) _
    refine XS.iloadN X0.here hx rfl (hb hby d6_14) rfl ?_
    show Steps p.tables e below (s₁.setTop (mkF m 15 #[.val (.ref o0), .val (.int (2 : Int32)), .val (.int p2), .val (.int p3)] [(.int p3), (.double y0)])) _
    refine XS.iloadN X0.here hx rfl (hb hby d6_15) rfl ?_
    show Steps p.tables e below (s₁.setTop (mkF m 16 #[.val (.ref o0), .val (.int (2 : Int32)), .val (.int p2), .val (.int p3)] [(.int p2), (.int p3), (.double y0)])) _
    refine XS.iconst X0.here hx rfl (hb hby d6_16) ?_
    show Steps p.tables e below (s₁.setTop (mkF m 17 #[.val (.ref o0), .val (.int (2 : Int32)), .val (.int p2), .val (.int p3)] [(.int (0 : Int32)), (.int p2), (.int p3), (.double y0)])) _
    refine st3 _ ?_
    show Steps p.tables e below (T3.setTop (mkF m 20 #[.val (.ref o0), .val (.int (2 : Int32)), .val (.int p2), .val (.int p3)] [(.double c17_z8), (.double y0)])) _
    refine XS.dcmpS X3.here hx rfl (hb hby d6_20) rfl hz20 ?_
    show Steps p.tables e below (T3.setTop (mkF m 21 #[.val (.ref o0), .val (.int (2 : Int32)), .val (.int p2), .val (.int p3)] [(.int z20)])) _
    refine XS.ifNo X3.here hx rfl (hb hby d6_21) rfl (Jvm.Free.XT.i0_ne_f br21) ?_
    show Steps p.tables e below (T3.setTop (mkF m 24 #[.val (.ref o0), .val (.int (2 : Int32)), .val (.int p2), .val (.int p3)] [])) _
    refine XS.iloadN X3.here hx rfl (hb hby d6_24) rfl ?_
    show Steps p.tables e below (T3.setTop (mkF m 25 #[.val (.ref o0), .val (.int (2 : Int32)), .val (.int p2), .val (.int p3)] [(.int (2 : Int32))])) _
    refine XS.iconst X3.here hx rfl (hb hby d6_25) ?_
    show Steps p.tables e below (T3.setTop (mkF m 26 #[.val (.ref o0), .val (.int (2 : Int32)), .val (.int p2), .val (.int p3)] [(.int (2 : Int32)), (.int (2 : Int32))])) _
    refine XS.icmpNo X3.here hx rfl (hb hby d6_26) rfl (Jvm.Free.XT.ii_lt_f (by decide)) ?_
    show Steps p.tables e below (T3.setTop (mkF m 29 #[.val (.ref o0), .val (.int (2 : Int32)), .val (.int p2), .val (.int p3)] [])) _
    refine XS.aloadN X3.here hx rfl (hb hby d6_29) rfl rfl ?_
    show Steps p.tables e below (T3.setTop (mkF m 30 #[.val (.ref o0), .val (.int (2 : Int32)), .val (.int p2), .val (.int p3)] [(.ref o0)])) _
    refine XS.iconst X3.here hx rfl (hb hby d6_30) ?_
    show Steps p.tables e below (T3.setTop (mkF m 31 #[.val (.ref o0), .val (.int (2 : Int32)), .val (.int p2), .val (.int p3)] [(.int (1 : Int32)), (.ref o0)])) _
    refine X3.daload hx (j := (1 : Int32)) (v := (.double y1)) (by rw [e3]; exact Ar4.1) (State.isArrayOf_alike hZ.alike Ar4.2.1) Ar4.2.2 in4 (Has.at Ha4 in4 rfl) (g := (mkF m 31 #[.val (.ref o0), .val (.int (2 : Int32)), .val (.int p2), .val (.int p3)] [(.int (1 : Int32)), (.ref o0)])) rfl rfl (hb hby d6_31) _ ?_
    show Steps p.tables e below (T3.setTop (mkF m 32 #[.val (.ref o0), .val (.int (2 : Int32)), .val (.int p2), .val (.int p3)] [(.double y1)])) _
    refine XS.iloadN X3.here hx rfl (hb hby d6_32) rfl ?_
    show Steps p.tables e below (T3.setTop (mkF m 33 #[.val (.ref o0), .val (.int (2 : Int32)), .val (.int p2), .val (.int p3)] [(.int p3), (.double y1)])) _
    refine XS.iloadN X3.here hx rfl (hb hby d6_33) rfl ?_
    show Steps p.tables e below (T3.setTop (mkF m 34 #[.val (.ref o0), .val (.int (2 : Int32)), .val (.int p2), .val (.int p3)] [(.int p2), (.int p3), (.double y1)])) _
    refine XS.iconst X3.here hx rfl (hb hby d6_34) ?_
    show Steps p.tables e below (T3.setTop (mkF m 35 #[.val (.ref o0), .val (.int (2 : Int32)), .val (.int p2), .val (.int p3)] [(.int (1 : Int32)), (.int p2), (.int p3), (.double y1)])) _
    refine st5 _ ?_
    show Steps p.tables e below (T5.setTop (mkF m 38 #[.val (.ref o0), .val (.int (2 : Int32)), .val (.int p2), .val (.int p3)] [(.double c35_z8), (.double y1)])) _
    refine XS.dcmpS X5.here hx rfl (hb hby d6_38) rfl hz38 ?_
    show Steps p.tables e below (T5.setTop (mkF m 39 #[.val (.ref o0), .val (.int (2 : Int32)), .val (.int p2), .val (.int p3)] [(.int z38)])) _
    refine XS.ifNo X5.here hx rfl (hb hby d6_39) rfl (Jvm.Free.XT.i0_ne_f br39) ?_
    show Steps p.tables e below (T5.setTop (mkF m 42 #[.val (.ref o0), .val (.int (2 : Int32)), .val (.int p2), .val (.int p3)] [])) _
    refine XS.iloadN X5.here hx rfl (hb hby d6_42) rfl ?_
    show Steps p.tables e below (T5.setTop (mkF m 43 #[.val (.ref o0), .val (.int (2 : Int32)), .val (.int p2), .val (.int p3)] [(.int (2 : Int32))])) _
    refine XS.iconst X5.here hx rfl (hb hby d6_43) ?_
    show Steps p.tables e below (T5.setTop (mkF m 44 #[.val (.ref o0), .val (.int (2 : Int32)), .val (.int p2), .val (.int p3)] [(.int (3 : Int32)), (.int (2 : Int32))])) _
    refine XS.icmpYes X5.here hx rfl (pc0 := 44) (pc' := 60) rfl (hb hby d6_44) rfl (Jvm.Free.XT.ii_lt_t (by decide)) (by decide) (by decide) ?_
    show Steps p.tables e below (T5.setTop (mkF m 60 #[.val (.ref o0), .val (.int (2 : Int32)), .val (.int p2), .val (.int p3)] [])) _
    refine XS.iconst X5.here hx rfl (hb hby d6_60) ?_
    show Steps p.tables e below (T5.setTop (mkF m 61 #[.val (.ref o0), .val (.int (2 : Int32)), .val (.int p2), .val (.int p3)] [(.int (1 : Int32))])) _
    refine XS.goto X5.here hx rfl (pc0 := 61) (pc' := 65) rfl (hb hby d6_61) (by decide) (by decide) ?_
    exact k
  obtain ⟨fs, hr, hrun, hended, hW, hsame⟩ := X5.leave (v := some (.int (1 : Int32))) (fun h => by rw [Bd.returns] at h; cases h)
  refine ⟨_, _, c6 _ ?_, hrun, hended, _, _, rfl, ?_, ⟨_, rfl⟩, hW, hsame.mono (by decide) (by decide)⟩
  · show Steps p.tables e below (T5.setTop (mkF m 65 #[.val (.ref o0), .val (.int (2 : Int32)), .val (.int p2), .val (.int p3)] [(.int (1 : Int32))])) _
    exact retOut X5 hx Bd.returns rfl (Or.inl ⟨rfl, by simp, _, rfl⟩) (hb hby d6_65) hr
  · show Q6_2 Z o0 p2 p3 k_o0 y0 y1 c17_z4 c17_z5 c17_z7 c17_z8 z20 c35_z4 c35_z5 c35_z7 c35_z8 z38 h0 n0 _ T5.heap _
    rw [e5]
    exact ⟨rfl, N5, rfl⟩
def Q5_3 (Z : State) (o0 : Addr) (p2 : Int32) (p3 : Int32) (p4 : Int32) (k_o0 : ClassId) (y0 : UInt64) (y1 : UInt64) (y2 : UInt64) (c17_z4 : Int32) (c17_z5 : Int32) (c17_z7 : Int32) (c17_z8 : UInt64) (c24_z4 : Int32) (c24_z5 : Int32) (c24_z7 : Int32) (c24_z8 : UInt64) (z27 : UInt64) (z28 : Int32) (c43_z4 : Int32) (c43_z5 : Int32) (c43_z7 : Int32) (c43_z8 : UInt64) (c50_z4 : Int32) (c50_z5 : Int32) (c50_z7 : Int32) (c50_z8 : UInt64) (z53 : UInt64) (z54 : Int32) (c69_z4 : Int32) (c69_z5 : Int32) (c69_z7 : Int32) (c69_z8 : UInt64) (c76_z4 : Int32) (c76_z5 : Int32) (c76_z7 : Int32) (c76_z8 : UInt64) (z79 : UInt64) (z80 : Int32) (h0 : Heap) (n0 : Nat) (v : Option Value) (h : Heap) (L : List Loc) : Prop := v = some (.int (1 : Int32)) ∧ Fr n0 L ∧ h = h0
set_option maxRecDepth 65536 in
set_option maxHeartbeats 40000000 in
theorem rm5_3 (l : Launch) (Z : State) (a0 : Array Value) (hw : ∀ d ∈ tables_1, d.before a0 Z = true) (ws : List Jvm.Cond) (o0 : Addr) (p2 : Int32) (p3 : Int32) (p4 : Int32) (k_o0 : ClassId) (y0 : UInt64) (y1 : UInt64) (y2 : UInt64) (c17_z4 : Int32) (c17_z5 : Int32) (c17_z7 : Int32) (c17_z8 : UInt64) (c24_z4 : Int32) (c24_z5 : Int32) (c24_z7 : Int32) (c24_z8 : UInt64) (z27 : UInt64) (z28 : Int32) (c43_z4 : Int32) (c43_z5 : Int32) (c43_z7 : Int32) (c43_z8 : UInt64) (c50_z4 : Int32) (c50_z5 : Int32) (c50_z7 : Int32) (c50_z8 : UInt64) (z53 : UInt64) (z54 : Int32) (c69_z4 : Int32) (c69_z5 : Int32) (c69_z7 : Int32) (c69_z8 : UInt64) (c76_z4 : Int32) (c76_z5 : Int32) (c76_z7 : Int32) (c76_z8 : UInt64) (z79 : UInt64) (z80 : Int32) (h0 : Heap) (n0 : Nat) (Z0 : n0 ≤ h0.size) (V_o0 : Arv Z h0 o0 k_o0 .double (3 : Int32) [(.double y0), (.double y1), (.double y2)] (.double (0 : UInt64))) (hc17_z4 : (16 : Int32) * p2 = c17_z4) (hc17_z5 : p3 + c17_z4 = c17_z5) (hc17_z7 : c17_z5 + (0 : Int32) = c17_z7) (hc17_z8 : FP.i2d c17_z7 = c17_z8) (hc24_z4 : (16 : Int32) * p2 = c24_z4) (hc24_z5 : p4 + c24_z4 = c24_z5) (hc24_z7 : c24_z5 + (0 : Int32) = c24_z7) (hc24_z8 : FP.i2d c24_z7 = c24_z8) (hz27 : FP.dadd c17_z8 c24_z8 = z27) (hz28 : cmpValue (FP.dcmp y0 z27) .l = z28) (hc43_z4 : (16 : Int32) * p2 = c43_z4) (hc43_z5 : p3 + c43_z4 = c43_z5) (hc43_z7 : c43_z5 + (1 : Int32) = c43_z7) (hc43_z8 : FP.i2d c43_z7 = c43_z8) (hc50_z4 : (16 : Int32) * p2 = c50_z4) (hc50_z5 : p4 + c50_z4 = c50_z5) (hc50_z7 : c50_z5 + (1 : Int32) = c50_z7) (hc50_z8 : FP.i2d c50_z7 = c50_z8) (hz53 : FP.dadd c43_z8 c50_z8 = z53) (hz54 : cmpValue (FP.dcmp y1 z53) .l = z54) (hc69_z4 : (16 : Int32) * p2 = c69_z4) (hc69_z5 : p3 + c69_z4 = c69_z5) (hc69_z7 : c69_z5 + (2 : Int32) = c69_z7) (hc69_z8 : FP.i2d c69_z7 = c69_z8) (hc76_z4 : (16 : Int32) * p2 = c76_z4) (hc76_z5 : p4 + c76_z4 = c76_z5) (hc76_z7 : c76_z5 + (2 : Int32) = c76_z7) (hc76_z8 : FP.i2d c76_z7 = c76_z8) (hz79 : FP.dadd c69_z8 c76_z8 = z79) (hz80 : cmpValue (FP.dcmp y2 z79) .l = z80) (nn27 : Jvm.Free.Fl.NoNaN64 z27) (br29 : z28 = (0 : Int32)) (nn53 : Jvm.Free.Fl.NoNaN64 z53) (br55 : z54 = (0 : Int32)) (nn79 : Jvm.Free.Fl.NoNaN64 z79) (br81 : z80 = (0 : Int32)) :
    MetFree l (⟨"com/example/lumenstand/lumenstand/light/InterceptionAddPinLaw", "sum", "([DIIII)Z"⟩ : MethodName) (head1 (Jvm.Cond.code (⟨"com/example/lumenstand/lumenstand/light/InterceptionAddPinLaw", "sum", "([DIIII)Z"⟩ : MethodName) method_5_code 5 (some .boolean) :: ws) ({ frames := 1, cells := 0, slots := 0, locals := 18 } : Room)) (fun a U => a = #[(.ref o0), (.int (3 : Int32)), (.int p2), (.int p3), (.int p4)] ∧ Z.Warmed39 U.vm ∧ U.heap = h0) (fun _ _ _ _ _ => True) (fun _ U o U' => ∃ v L, o = .returned v ∧ Q5_3 Z o0 p2 p3 p4 k_o0 y0 y1 y2 c17_z4 c17_z5 c17_z7 c17_z8 c24_z4 c24_z5 c24_z7 c24_z8 z27 z28 c43_z4 c43_z5 c43_z7 c43_z8 c50_z4 c50_z5 c50_z7 c50_z8 z53 z54 c69_z4 c69_z5 c69_z7 c69_z8 c76_z4 c76_z5 c76_z7 c76_z8 z79 z80 h0 n0 v U'.heap L ∧ FrameEnd U o U' L ({ frames := 1, cells := 0, slots := 0, locals := 18 } : Room).cells ({ frames := 1, cells := 0, slots := 0, locals := 18 } : Room).slots) := by
  refine MetFree.of_bodySF (plainFor_of_name pn_0) hisR ?_
  intro p e s m args below meth c s₁ Bd hml0 hP hK
  obtain ⟨rfl, hZ, hh⟩ := hP
  have hx := Bd.exec
  have hby := Bd.bytes
  have hml : c.maxLocals = 5 := hml0
  have hown : s.vm.findClass "com/example/lumenstand/lumenstand/light/InterceptionAddPinLaw" = some m.cls := findClass_of_methodNamed Bd.named
  have hnm := (name_of_methodNamed Bd.named Bd.method).1
  have X0 : Stand p l e ({ frames := 1, cells := 0, slots := 0, locals := 18 } : Room) s m #[(.ref o0), (.int (3 : Int32)), (.int p2), (.int p3), (.int p4)] below meth c s₁ [] 0 0 := Stand.of_body Bd
  have e0 : s₁.heap = h0 := by rw [← hh, Bd.state]; rfl
  have N0 := Fr.nil n0
  have c0 : ∀ t, Steps p.tables e below (s₁.setTop (mkF m 0 #[.val (.ref o0), .val (.int (3 : Int32)), .val (.int p2), .val (.int p3), .val (.int p4)] [])) t → Steps p.tables e below (s₁.setTop (entryFrame m #[(.ref o0), (.int (3 : Int32)), (.int p2), (.int p3), (.int p4)] 5)) t := fun t k => castTop (ef_rm5_3 m o0 p2 p3 p4) k
  obtain ⟨cl1, Ar1, -, S1, Nn1, -, -⟩ := id V_o0
  obtain ⟨cl2, Ar2, -, S2, -, Ha2, -⟩ := id V_o0
  have in2 : ¬ ((0 : Int32) < 0 ∨ cl2.slots.size ≤ ((0 : Int32)).toNatClampNeg) := inb_of S2 ⟨by decide, by decide⟩
  obtain ⟨_, _, ⟨T3, L3, k3, n3⟩, -, X3, ⟨Lc3, hQ3, ql3, qy3, qz3⟩, st3⟩ := Jvm.LawKit.callS X0 hx (y := (⟨"com/example/lumenstand/lumenstand/light/InterceptionAddPinLaw", "v", "(III)D"⟩ : MethodName)) hown (mvT hZ (hw _ (List.mem_of_getElem? (i := 37) rfl))) (mvT hZ (hw _ (List.mem_of_getElem? (i := 38) rfl))) (mvT hZ (hw _ (List.mem_of_getElem? (i := 21) rfl))) (mvT hZ (hw _ (List.mem_of_getElem? (i := 39) rfl))) (by decide) (backOf (W := 2) (rm7 l Z a0 hw [] p3 p2 (0 : Int32) c17_z4 c17_z5 c17_z7 c17_z8 h0 n0 Z0 hc17_z4 hc17_z5 hc17_z7 hc17_z8) hZ (hw _ (List.mem_of_getElem? (i := 39) rfl)) (hw _ (List.mem_of_getElem? (i := 21) rfl)) (by decide) (by decide)) (g := (mkF m 17 #[.val (.ref o0), .val (.int (3 : Int32)), .val (.int p2), .val (.int p3), .val (.int p4)] [(.int (0 : Int32)), (.int p2), (.int p3), (.double y0)])) rfl (by rw [hml]; rfl) (argsL := [(.int p3), (.int p2), (.int (0 : Int32))]) (rest := [(.double y0)]) (lenOf pd_0 rfl) rfl (by show 2 * 0 + _ ≤ _; exact Nat.le_of_eq rfl) (hb hby d5_17) (fun _ _ => ⟨rfl, e0, (by decide : 0 + 0 ≤ _), (by decide : 0 + 0 ≤ _)⟩)
  dsimp only [Pt.U, Pt.locs, Pt.cells, Pt.slots] at X3 ql3 qy3 qz3 st3 hQ3
  subst ql3 qy3 qz3
  obtain ⟨rfl, N3q, e3⟩ := hQ3
  have N3 := Fr.app N0 N3q
  obtain ⟨_, _, ⟨T4, L4, k4, n4⟩, -, X4, ⟨Lc4, hQ4, ql4, qy4, qz4⟩, st4⟩ := Jvm.LawKit.callS X3 hx (y := (⟨"com/example/lumenstand/lumenstand/light/InterceptionAddPinLaw", "v", "(III)D"⟩ : MethodName)) hown (mvT hZ (hw _ (List.mem_of_getElem? (i := 37) rfl))) (mvT hZ (hw _ (List.mem_of_getElem? (i := 38) rfl))) (mvT hZ (hw _ (List.mem_of_getElem? (i := 21) rfl))) (mvT hZ (hw _ (List.mem_of_getElem? (i := 39) rfl))) (by decide) (backOf (W := 4) (rm7 l Z a0 hw [] p4 p2 (0 : Int32) c24_z4 c24_z5 c24_z7 c24_z8 h0 n0 Z0 hc24_z4 hc24_z5 hc24_z7 hc24_z8) hZ (hw _ (List.mem_of_getElem? (i := 39) rfl)) (hw _ (List.mem_of_getElem? (i := 21) rfl)) (by decide) (by decide)) (g := (mkF m 24 #[.val (.ref o0), .val (.int (3 : Int32)), .val (.int p2), .val (.int p3), .val (.int p4)] [(.int (0 : Int32)), (.int p2), (.int p4), (.double c17_z8), (.double y0)])) rfl (by rw [hml]; rfl) (argsL := [(.int p4), (.int p2), (.int (0 : Int32))]) (rest := [(.double c17_z8), (.double y0)]) (lenOf pd_0 rfl) rfl (by show 2 * 0 + _ ≤ _; exact Nat.le_of_eq rfl) (hb hby d5_24) (fun _ _ => ⟨rfl, e3, (by decide : 0 + 0 ≤ _), (by decide : 0 + 0 ≤ _)⟩)
  dsimp only [Pt.U, Pt.locs, Pt.cells, Pt.slots] at X4 ql4 qy4 qz4 st4 hQ4
  subst ql4 qy4 qz4
  obtain ⟨rfl, N4q, e4⟩ := hQ4
  have N4 := Fr.app N3 N4q
  obtain ⟨cl5, Ar5, -, S5, -, Ha5, -⟩ := id V_o0
  have in5 : ¬ ((1 : Int32) < 0 ∨ cl5.slots.size ≤ ((1 : Int32)).toNatClampNeg) := inb_of S5 ⟨by decide, by decide⟩
  obtain ⟨_, _, ⟨T6, L6, k6, n6⟩, -, X6, ⟨Lc6, hQ6, ql6, qy6, qz6⟩, st6⟩ := Jvm.LawKit.callS X4 hx (y := (⟨"com/example/lumenstand/lumenstand/light/InterceptionAddPinLaw", "v", "(III)D"⟩ : MethodName)) hown (mvT hZ (hw _ (List.mem_of_getElem? (i := 37) rfl))) (mvT hZ (hw _ (List.mem_of_getElem? (i := 38) rfl))) (mvT hZ (hw _ (List.mem_of_getElem? (i := 21) rfl))) (mvT hZ (hw _ (List.mem_of_getElem? (i := 39) rfl))) (by decide) (backOf (W := 2) (rm7 l Z a0 hw [] p3 p2 (1 : Int32) c43_z4 c43_z5 c43_z7 c43_z8 h0 n0 Z0 hc43_z4 hc43_z5 hc43_z7 hc43_z8) hZ (hw _ (List.mem_of_getElem? (i := 39) rfl)) (hw _ (List.mem_of_getElem? (i := 21) rfl)) (by decide) (by decide)) (g := (mkF m 43 #[.val (.ref o0), .val (.int (3 : Int32)), .val (.int p2), .val (.int p3), .val (.int p4)] [(.int (1 : Int32)), (.int p2), (.int p3), (.double y1)])) rfl (by rw [hml]; rfl) (argsL := [(.int p3), (.int p2), (.int (1 : Int32))]) (rest := [(.double y1)]) (lenOf pd_0 rfl) rfl (by show 2 * 0 + _ ≤ _; exact Nat.le_of_eq rfl) (hb hby d5_43) (fun _ _ => ⟨rfl, e4, (by decide : 0 + 0 ≤ _), (by decide : 0 + 0 ≤ _)⟩)
  dsimp only [Pt.U, Pt.locs, Pt.cells, Pt.slots] at X6 ql6 qy6 qz6 st6 hQ6
  subst ql6 qy6 qz6
  obtain ⟨rfl, N6q, e6⟩ := hQ6
  have N6 := Fr.app N4 N6q
  obtain ⟨_, _, ⟨T7, L7, k7, n7⟩, -, X7, ⟨Lc7, hQ7, ql7, qy7, qz7⟩, st7⟩ := Jvm.LawKit.callS X6 hx (y := (⟨"com/example/lumenstand/lumenstand/light/InterceptionAddPinLaw", "v", "(III)D"⟩ : MethodName)) hown (mvT hZ (hw _ (List.mem_of_getElem? (i := 37) rfl))) (mvT hZ (hw _ (List.mem_of_getElem? (i := 38) rfl))) (mvT hZ (hw _ (List.mem_of_getElem? (i := 21) rfl))) (mvT hZ (hw _ (List.mem_of_getElem? (i := 39) rfl))) (by decide) (backOf (W := 4) (rm7 l Z a0 hw [] p4 p2 (1 : Int32) c50_z4 c50_z5 c50_z7 c50_z8 h0 n0 Z0 hc50_z4 hc50_z5 hc50_z7 hc50_z8) hZ (hw _ (List.mem_of_getElem? (i := 39) rfl)) (hw _ (List.mem_of_getElem? (i := 21) rfl)) (by decide) (by decide)) (g := (mkF m 50 #[.val (.ref o0), .val (.int (3 : Int32)), .val (.int p2), .val (.int p3), .val (.int p4)] [(.int (1 : Int32)), (.int p2), (.int p4), (.double c43_z8), (.double y1)])) rfl (by rw [hml]; rfl) (argsL := [(.int p4), (.int p2), (.int (1 : Int32))]) (rest := [(.double c43_z8), (.double y1)]) (lenOf pd_0 rfl) rfl (by show 2 * 0 + _ ≤ _; exact Nat.le_of_eq rfl) (hb hby d5_50) (fun _ _ => ⟨rfl, e6, (by decide : 0 + 0 ≤ _), (by decide : 0 + 0 ≤ _)⟩)
  dsimp only [Pt.U, Pt.locs, Pt.cells, Pt.slots] at X7 ql7 qy7 qz7 st7 hQ7
  subst ql7 qy7 qz7
  obtain ⟨rfl, N7q, e7⟩ := hQ7
  have N7 := Fr.app N6 N7q
  obtain ⟨cl8, Ar8, -, S8, -, Ha8, -⟩ := id V_o0
  have in8 : ¬ ((2 : Int32) < 0 ∨ cl8.slots.size ≤ ((2 : Int32)).toNatClampNeg) := inb_of S8 ⟨by decide, by decide⟩
  obtain ⟨_, _, ⟨T9, L9, k9, n9⟩, -, X9, ⟨Lc9, hQ9, ql9, qy9, qz9⟩, st9⟩ := Jvm.LawKit.callS X7 hx (y := (⟨"com/example/lumenstand/lumenstand/light/InterceptionAddPinLaw", "v", "(III)D"⟩ : MethodName)) hown (mvT hZ (hw _ (List.mem_of_getElem? (i := 37) rfl))) (mvT hZ (hw _ (List.mem_of_getElem? (i := 38) rfl))) (mvT hZ (hw _ (List.mem_of_getElem? (i := 21) rfl))) (mvT hZ (hw _ (List.mem_of_getElem? (i := 39) rfl))) (by decide) (backOf (W := 2) (rm7 l Z a0 hw [] p3 p2 (2 : Int32) c69_z4 c69_z5 c69_z7 c69_z8 h0 n0 Z0 hc69_z4 hc69_z5 hc69_z7 hc69_z8) hZ (hw _ (List.mem_of_getElem? (i := 39) rfl)) (hw _ (List.mem_of_getElem? (i := 21) rfl)) (by decide) (by decide)) (g := (mkF m 69 #[.val (.ref o0), .val (.int (3 : Int32)), .val (.int p2), .val (.int p3), .val (.int p4)] [(.int (2 : Int32)), (.int p2), (.int p3), (.double y2)])) rfl (by rw [hml]; rfl) (argsL := [(.int p3), (.int p2), (.int (2 : Int32))]) (rest := [(.double y2)]) (lenOf pd_0 rfl) rfl (by show 2 * 0 + _ ≤ _; exact Nat.le_of_eq rfl) (hb hby d5_69) (fun _ _ => ⟨rfl, e7, (by decide : 0 + 0 ≤ _), (by decide : 0 + 0 ≤ _)⟩)
  dsimp only [Pt.U, Pt.locs, Pt.cells, Pt.slots] at X9 ql9 qy9 qz9 st9 hQ9
  subst ql9 qy9 qz9
  obtain ⟨rfl, N9q, e9⟩ := hQ9
  have N9 := Fr.app N7 N9q
  obtain ⟨_, _, ⟨T10, L10, k10, n10⟩, -, X10, ⟨Lc10, hQ10, ql10, qy10, qz10⟩, st10⟩ := Jvm.LawKit.callS X9 hx (y := (⟨"com/example/lumenstand/lumenstand/light/InterceptionAddPinLaw", "v", "(III)D"⟩ : MethodName)) hown (mvT hZ (hw _ (List.mem_of_getElem? (i := 37) rfl))) (mvT hZ (hw _ (List.mem_of_getElem? (i := 38) rfl))) (mvT hZ (hw _ (List.mem_of_getElem? (i := 21) rfl))) (mvT hZ (hw _ (List.mem_of_getElem? (i := 39) rfl))) (by decide) (backOf (W := 4) (rm7 l Z a0 hw [] p4 p2 (2 : Int32) c76_z4 c76_z5 c76_z7 c76_z8 h0 n0 Z0 hc76_z4 hc76_z5 hc76_z7 hc76_z8) hZ (hw _ (List.mem_of_getElem? (i := 39) rfl)) (hw _ (List.mem_of_getElem? (i := 21) rfl)) (by decide) (by decide)) (g := (mkF m 76 #[.val (.ref o0), .val (.int (3 : Int32)), .val (.int p2), .val (.int p3), .val (.int p4)] [(.int (2 : Int32)), (.int p2), (.int p4), (.double c69_z8), (.double y2)])) rfl (by rw [hml]; rfl) (argsL := [(.int p4), (.int p2), (.int (2 : Int32))]) (rest := [(.double c69_z8), (.double y2)]) (lenOf pd_0 rfl) rfl (by show 2 * 0 + _ ≤ _; exact Nat.le_of_eq rfl) (hb hby d5_76) (fun _ _ => ⟨rfl, e9, (by decide : 0 + 0 ≤ _), (by decide : 0 + 0 ≤ _)⟩)
  dsimp only [Pt.U, Pt.locs, Pt.cells, Pt.slots] at X10 ql10 qy10 qz10 st10 hQ10
  subst ql10 qy10 qz10
  obtain ⟨rfl, N10q, e10⟩ := hQ10
  have N10 := Fr.app N9 N10q
  have c11 : ∀ t, Steps p.tables e below (T10.setTop (mkF m 89 #[.val (.ref o0), .val (.int (3 : Int32)), .val (.int p2), .val (.int p3), .val (.int p4)] [(.int (1 : Int32))])) t → Steps p.tables e below (s₁.setTop (entryFrame m #[(.ref o0), (.int (3 : Int32)), (.int p2), (.int p3), (.int p4)] 5)) t := by
    intro t k
    refine c0 t ?_
    show Steps p.tables e below (s₁.setTop (mkF m 0 #[.val (.ref o0), .val (.int (3 : Int32)), .val (.int p2), .val (.int p3), .val (.int p4)] [])) _
    refine XS.aloadN X0.here hx rfl (hb hby d5_0) rfl rfl ?_
    show Steps p.tables e below (s₁.setTop (mkF m 1 #[.val (.ref o0), .val (.int (3 : Int32)), .val (.int p2), .val (.int p3), .val (.int p4)] [(.ref o0)])) _
    refine X0.arraylength hx (by rw [e0]; exact Ar1.1) (State.isArrayOf_alike hZ.alike Ar1.2.1) (g := (mkF m 1 #[.val (.ref o0), .val (.int (3 : Int32)), .val (.int p2), .val (.int p3), .val (.int p4)] [(.ref o0)])) rfl rfl (hb hby d5_1) _ ?_
    rw [len_of S1 Nn1]
    show Steps p.tables e below (s₁.setTop (mkF m 2 #[.val (.ref o0), .val (.int (3 : Int32)), .val (.int p2), .val (.int p3), .val (.int p4)] [(.int (3 : Int32))])) _
    refine XS.iloadN X0.here hx rfl (hb hby d5_2) rfl ?_
    show Steps p.tables e below (s₁.setTop (mkF m 3 #[.val (.ref o0), .val (.int (3 : Int32)), .val (.int p2), .val (.int p3), .val (.int p4)] [(.int (3 : Int32)), (.int (3 : Int32))])) _
    refine XS.icmpNo X0.here hx rfl (hb hby d5_3) rfl (Jvm.Free.XT.ii_ne_f (by decide)) ?_
    show Steps p.tables e below (s₁.setTop (mkF m 6 #[.val (.ref o0), .val (.int (3 : Int32)), .val (.int p2), .val (.int p3), .val (.int p4)] [])) _
    refine XS.iloadN X0.here hx rfl (hb hby d5_6) rfl ?_
    show Steps p.tables e below (s₁.setTop (mkF m 7 #[.val (.ref o0), .val (.int (3 : Int32)), .val (.int p2), .val (.int p3), .val (.int p4)] [(.int (3 : Int32))])) _
    refine XS.iconst X0.here hx rfl (hb hby d5_7) ?_
    show Steps p.tables e below (s₁.setTop (mkF m 8 #[.val (.ref o0), .val (.int (3 : Int32)), .val (.int p2), .val (.int p3), .val (.int p4)] [(.int (1 : Int32)), (.int (3 : Int32))])) _
    refine XS.icmpNo X0.here hx rfl (hb hby d5_8) rfl (Jvm.Free.XT.ii_lt_f (by decide)) ?_
    show Steps p.tables e below (s₁.setTop (mkF m 11 #[.val (.ref o0), .val (.int (3 : Int32)), .val (.int p2), .val (.int p3), .val (.int p4)] [])) _
    refine XS.aloadN X0.here hx rfl (hb hby d5_11) rfl rfl ?_
    show Steps p.tables e below (s₁.setTop (mkF m 12 #[.val (.ref o0), .val (.int (3 : Int32)), .val (.int p2), .val (.int p3), .val (.int p4)] [(.ref o0)])) _
    refine XS.iconst X0.here hx rfl (hb hby d5_12) ?_
    show Steps p.tables e below (s₁.setTop (mkF m 13 #[.val (.ref o0), .val (.int (3 : Int32)), .val (.int p2), .val (.int p3), .val (.int p4)] [(.int (0 : Int32)), (.ref o0)])) _
    refine X0.daload hx (j := (0 : Int32)) (v := (.double y0)) (by rw [e0]; exact Ar2.1) (State.isArrayOf_alike hZ.alike Ar2.2.1) Ar2.2.2 in2 (Has.at Ha2 in2 rfl) (g := (mkF m 13 #[.val (.ref o0), .val (.int (3 : Int32)), .val (.int p2), .val (.int p3), .val (.int p4)] [(.int (0 : Int32)), (.ref o0)])) rfl rfl (hb hby d5_13) _ ?_
    show Steps p.tables e below (s₁.setTop (mkF m 14 #[.val (.ref o0), .val (.int (3 : Int32)), .val (.int p2), .val (.int p3), .val (.int p4)] [(.double y0)])) _
    refine XS.iloadN X0.here hx rfl (hb hby d5_14) rfl ?_
    show Steps p.tables e below (s₁.setTop (mkF m 15 #[.val (.ref o0), .val (.int (3 : Int32)), .val (.int p2), .val (.int p3), .val (.int p4)] [(.int p3), (.double y0)])) _
    refine XS.iloadN X0.here hx rfl (hb hby d5_15) rfl ?_
    show Steps p.tables e below (s₁.setTop (mkF m 16 #[.val (.ref o0), .val (.int (3 : Int32)), .val (.int p2), .val (.int p3), .val (.int p4)] [(.int p2), (.int p3), (.double y0)])) _
    refine XS.iconst X0.here hx rfl (hb hby d5_16) ?_
    show Steps p.tables e below (s₁.setTop (mkF m 17 #[.val (.ref o0), .val (.int (3 : Int32)), .val (.int p2), .val (.int p3), .val (.int p4)] [(.int (0 : Int32)), (.int p2), (.int p3), (.double y0)])) _
    refine st3 _ ?_
    show Steps p.tables e below (T3.setTop (mkF m 20 #[.val (.ref o0), .val (.int (3 : Int32)), .val (.int p2), .val (.int p3), .val (.int p4)] [(.double c17_z8), (.double y0)])) _
    refine XS.iload X3.here hx rfl (hb hby d5_20) rfl ?_
    show Steps p.tables e below (T3.setTop (mkF m 22 #[.val (.ref o0), .val (.int (3 : Int32)), .val (.int p2), .val (.int p3), .val (.int p4)] [(.int p4), (.double c17_z8), (.double y0)])) _
    refine XS.iloadN X3.here hx rfl (hb hby d5_22) rfl ?_
    show Steps p.tables e below (T3.setTop (mkF m 23 #[.val (.ref o0), .val (.int (3 : Int32)), .val (.int p2), .val (.int p3), .val (.int p4)] [(.int p2), (.int p4), (.double c17_z8), (.double y0)])) _
    refine XS.iconst X3.here hx rfl (hb hby d5_23) ?_
    show Steps p.tables e below (T3.setTop (mkF m 24 #[.val (.ref o0), .val (.int (3 : Int32)), .val (.int p2), .val (.int p3), .val (.int p4)] [(.int (0 : Int32)), (.int p2), (.int p4), (.double c17_z8), (.double y0)])) _
    refine st4 _ ?_
    show Steps p.tables e below (T4.setTop (mkF m 27 #[.val (.ref o0), .val (.int (3 : Int32)), .val (.int p2), .val (.int p3), .val (.int p4)] [(.double c24_z8), (.double c17_z8), (.double y0)])) _
    refine Jvm.OwnK.dadd X4.here hx rfl (hb hby d5_27) rfl hz27 nn27 ?_
    show Steps p.tables e below (T4.setTop (mkF m 28 #[.val (.ref o0), .val (.int (3 : Int32)), .val (.int p2), .val (.int p3), .val (.int p4)] [(.double z27), (.double y0)])) _
    refine XS.dcmpS X4.here hx rfl (hb hby d5_28) rfl hz28 ?_
    show Steps p.tables e below (T4.setTop (mkF m 29 #[.val (.ref o0), .val (.int (3 : Int32)), .val (.int p2), .val (.int p3), .val (.int p4)] [(.int z28)])) _
    refine XS.ifNo X4.here hx rfl (hb hby d5_29) rfl (Jvm.Free.XT.i0_ne_f br29) ?_
    show Steps p.tables e below (T4.setTop (mkF m 32 #[.val (.ref o0), .val (.int (3 : Int32)), .val (.int p2), .val (.int p3), .val (.int p4)] [])) _
    refine XS.iloadN X4.here hx rfl (hb hby d5_32) rfl ?_
    show Steps p.tables e below (T4.setTop (mkF m 33 #[.val (.ref o0), .val (.int (3 : Int32)), .val (.int p2), .val (.int p3), .val (.int p4)] [(.int (3 : Int32))])) _
    refine XS.iconst X4.here hx rfl (hb hby d5_33) ?_
    show Steps p.tables e below (T4.setTop (mkF m 34 #[.val (.ref o0), .val (.int (3 : Int32)), .val (.int p2), .val (.int p3), .val (.int p4)] [(.int (2 : Int32)), (.int (3 : Int32))])) _
    refine XS.icmpNo X4.here hx rfl (hb hby d5_34) rfl (Jvm.Free.XT.ii_lt_f (by decide)) ?_
    show Steps p.tables e below (T4.setTop (mkF m 37 #[.val (.ref o0), .val (.int (3 : Int32)), .val (.int p2), .val (.int p3), .val (.int p4)] [])) _
    refine XS.aloadN X4.here hx rfl (hb hby d5_37) rfl rfl ?_
    show Steps p.tables e below (T4.setTop (mkF m 38 #[.val (.ref o0), .val (.int (3 : Int32)), .val (.int p2), .val (.int p3), .val (.int p4)] [(.ref o0)])) _
    refine XS.iconst X4.here hx rfl (hb hby d5_38) ?_
    show Steps p.tables e below (T4.setTop (mkF m 39 #[.val (.ref o0), .val (.int (3 : Int32)), .val (.int p2), .val (.int p3), .val (.int p4)] [(.int (1 : Int32)), (.ref o0)])) _
    refine X4.daload hx (j := (1 : Int32)) (v := (.double y1)) (by rw [e4]; exact Ar5.1) (State.isArrayOf_alike hZ.alike Ar5.2.1) Ar5.2.2 in5 (Has.at Ha5 in5 rfl) (g := (mkF m 39 #[.val (.ref o0), .val (.int (3 : Int32)), .val (.int p2), .val (.int p3), .val (.int p4)] [(.int (1 : Int32)), (.ref o0)])) rfl rfl (hb hby d5_39) _ ?_
    show Steps p.tables e below (T4.setTop (mkF m 40 #[.val (.ref o0), .val (.int (3 : Int32)), .val (.int p2), .val (.int p3), .val (.int p4)] [(.double y1)])) _
    refine XS.iloadN X4.here hx rfl (hb hby d5_40) rfl ?_
    show Steps p.tables e below (T4.setTop (mkF m 41 #[.val (.ref o0), .val (.int (3 : Int32)), .val (.int p2), .val (.int p3), .val (.int p4)] [(.int p3), (.double y1)])) _
    refine XS.iloadN X4.here hx rfl (hb hby d5_41) rfl ?_
    show Steps p.tables e below (T4.setTop (mkF m 42 #[.val (.ref o0), .val (.int (3 : Int32)), .val (.int p2), .val (.int p3), .val (.int p4)] [(.int p2), (.int p3), (.double y1)])) _
    refine XS.iconst X4.here hx rfl (hb hby d5_42) ?_
    show Steps p.tables e below (T4.setTop (mkF m 43 #[.val (.ref o0), .val (.int (3 : Int32)), .val (.int p2), .val (.int p3), .val (.int p4)] [(.int (1 : Int32)), (.int p2), (.int p3), (.double y1)])) _
    refine st6 _ ?_
    show Steps p.tables e below (T6.setTop (mkF m 46 #[.val (.ref o0), .val (.int (3 : Int32)), .val (.int p2), .val (.int p3), .val (.int p4)] [(.double c43_z8), (.double y1)])) _
    refine XS.iload X6.here hx rfl (hb hby d5_46) rfl ?_
    show Steps p.tables e below (T6.setTop (mkF m 48 #[.val (.ref o0), .val (.int (3 : Int32)), .val (.int p2), .val (.int p3), .val (.int p4)] [(.int p4), (.double c43_z8), (.double y1)])) _
    refine XS.iloadN X6.here hx rfl (hb hby d5_48) rfl ?_
    show Steps p.tables e below (T6.setTop (mkF m 49 #[.val (.ref o0), .val (.int (3 : Int32)), .val (.int p2), .val (.int p3), .val (.int p4)] [(.int p2), (.int p4), (.double c43_z8), (.double y1)])) _
    refine XS.iconst X6.here hx rfl (hb hby d5_49) ?_
    show Steps p.tables e below (T6.setTop (mkF m 50 #[.val (.ref o0), .val (.int (3 : Int32)), .val (.int p2), .val (.int p3), .val (.int p4)] [(.int (1 : Int32)), (.int p2), (.int p4), (.double c43_z8), (.double y1)])) _
    refine st7 _ ?_
    show Steps p.tables e below (T7.setTop (mkF m 53 #[.val (.ref o0), .val (.int (3 : Int32)), .val (.int p2), .val (.int p3), .val (.int p4)] [(.double c50_z8), (.double c43_z8), (.double y1)])) _
    refine Jvm.OwnK.dadd X7.here hx rfl (hb hby d5_53) rfl hz53 nn53 ?_
    show Steps p.tables e below (T7.setTop (mkF m 54 #[.val (.ref o0), .val (.int (3 : Int32)), .val (.int p2), .val (.int p3), .val (.int p4)] [(.double z53), (.double y1)])) _
    refine XS.dcmpS X7.here hx rfl (hb hby d5_54) rfl hz54 ?_
    show Steps p.tables e below (T7.setTop (mkF m 55 #[.val (.ref o0), .val (.int (3 : Int32)), .val (.int p2), .val (.int p3), .val (.int p4)] [(.int z54)])) _
    refine XS.ifNo X7.here hx rfl (hb hby d5_55) rfl (Jvm.Free.XT.i0_ne_f br55) ?_
    show Steps p.tables e below (T7.setTop (mkF m 58 #[.val (.ref o0), .val (.int (3 : Int32)), .val (.int p2), .val (.int p3), .val (.int p4)] [])) _
    refine XS.iloadN X7.here hx rfl (hb hby d5_58) rfl ?_
    show Steps p.tables e below (T7.setTop (mkF m 59 #[.val (.ref o0), .val (.int (3 : Int32)), .val (.int p2), .val (.int p3), .val (.int p4)] [(.int (3 : Int32))])) _
    refine XS.iconst X7.here hx rfl (hb hby d5_59) ?_
    show Steps p.tables e below (T7.setTop (mkF m 60 #[.val (.ref o0), .val (.int (3 : Int32)), .val (.int p2), .val (.int p3), .val (.int p4)] [(.int (3 : Int32)), (.int (3 : Int32))])) _
    refine XS.icmpNo X7.here hx rfl (hb hby d5_60) rfl (Jvm.Free.XT.ii_lt_f (by decide)) ?_
    show Steps p.tables e below (T7.setTop (mkF m 63 #[.val (.ref o0), .val (.int (3 : Int32)), .val (.int p2), .val (.int p3), .val (.int p4)] [])) _
    refine XS.aloadN X7.here hx rfl (hb hby d5_63) rfl rfl ?_
    show Steps p.tables e below (T7.setTop (mkF m 64 #[.val (.ref o0), .val (.int (3 : Int32)), .val (.int p2), .val (.int p3), .val (.int p4)] [(.ref o0)])) _
    refine XS.iconst X7.here hx rfl (hb hby d5_64) ?_
    show Steps p.tables e below (T7.setTop (mkF m 65 #[.val (.ref o0), .val (.int (3 : Int32)), .val (.int p2), .val (.int p3), .val (.int p4)] [(.int (2 : Int32)), (.ref o0)])) _
    refine X7.daload hx (j := (2 : Int32)) (v := (.double y2)) (by rw [e7]; exact Ar8.1) (State.isArrayOf_alike hZ.alike Ar8.2.1) Ar8.2.2 in8 (Has.at Ha8 in8 rfl) (g := (mkF m 65 #[.val (.ref o0), .val (.int (3 : Int32)), .val (.int p2), .val (.int p3), .val (.int p4)] [(.int (2 : Int32)), (.ref o0)])) rfl rfl (hb hby d5_65) _ ?_
    show Steps p.tables e below (T7.setTop (mkF m 66 #[.val (.ref o0), .val (.int (3 : Int32)), .val (.int p2), .val (.int p3), .val (.int p4)] [(.double y2)])) _
    refine XS.iloadN X7.here hx rfl (hb hby d5_66) rfl ?_
    show Steps p.tables e below (T7.setTop (mkF m 67 #[.val (.ref o0), .val (.int (3 : Int32)), .val (.int p2), .val (.int p3), .val (.int p4)] [(.int p3), (.double y2)])) _
    refine XS.iloadN X7.here hx rfl (hb hby d5_67) rfl ?_
    show Steps p.tables e below (T7.setTop (mkF m 68 #[.val (.ref o0), .val (.int (3 : Int32)), .val (.int p2), .val (.int p3), .val (.int p4)] [(.int p2), (.int p3), (.double y2)])) _
    refine XS.iconst X7.here hx rfl (hb hby d5_68) ?_
    show Steps p.tables e below (T7.setTop (mkF m 69 #[.val (.ref o0), .val (.int (3 : Int32)), .val (.int p2), .val (.int p3), .val (.int p4)] [(.int (2 : Int32)), (.int p2), (.int p3), (.double y2)])) _
    refine st9 _ ?_
    show Steps p.tables e below (T9.setTop (mkF m 72 #[.val (.ref o0), .val (.int (3 : Int32)), .val (.int p2), .val (.int p3), .val (.int p4)] [(.double c69_z8), (.double y2)])) _
    refine XS.iload X9.here hx rfl (hb hby d5_72) rfl ?_
    show Steps p.tables e below (T9.setTop (mkF m 74 #[.val (.ref o0), .val (.int (3 : Int32)), .val (.int p2), .val (.int p3), .val (.int p4)] [(.int p4), (.double c69_z8), (.double y2)])) _
    refine XS.iloadN X9.here hx rfl (hb hby d5_74) rfl ?_
    show Steps p.tables e below (T9.setTop (mkF m 75 #[.val (.ref o0), .val (.int (3 : Int32)), .val (.int p2), .val (.int p3), .val (.int p4)] [(.int p2), (.int p4), (.double c69_z8), (.double y2)])) _
    refine XS.iconst X9.here hx rfl (hb hby d5_75) ?_
    show Steps p.tables e below (T9.setTop (mkF m 76 #[.val (.ref o0), .val (.int (3 : Int32)), .val (.int p2), .val (.int p3), .val (.int p4)] [(.int (2 : Int32)), (.int p2), (.int p4), (.double c69_z8), (.double y2)])) _
    refine st10 _ ?_
    show Steps p.tables e below (T10.setTop (mkF m 79 #[.val (.ref o0), .val (.int (3 : Int32)), .val (.int p2), .val (.int p3), .val (.int p4)] [(.double c76_z8), (.double c69_z8), (.double y2)])) _
    refine Jvm.OwnK.dadd X10.here hx rfl (hb hby d5_79) rfl hz79 nn79 ?_
    show Steps p.tables e below (T10.setTop (mkF m 80 #[.val (.ref o0), .val (.int (3 : Int32)), .val (.int p2), .val (.int p3), .val (.int p4)] [(.double z79), (.double y2)])) _
    refine XS.dcmpS X10.here hx rfl (hb hby d5_80) rfl hz80 ?_
    show Steps p.tables e below (T10.setTop (mkF m 81 #[.val (.ref o0), .val (.int (3 : Int32)), .val (.int p2), .val (.int p3), .val (.int p4)] [(.int z80)])) _
    refine XS.ifNo X10.here hx rfl (hb hby d5_81) rfl (Jvm.Free.XT.i0_ne_f br81) ?_
    show Steps p.tables e below (T10.setTop (mkF m 84 #[.val (.ref o0), .val (.int (3 : Int32)), .val (.int p2), .val (.int p3), .val (.int p4)] [])) _
    refine XS.iconst X10.here hx rfl (hb hby d5_84) ?_
    show Steps p.tables e below (T10.setTop (mkF m 85 #[.val (.ref o0), .val (.int (3 : Int32)), .val (.int p2), .val (.int p3), .val (.int p4)] [(.int (1 : Int32))])) _
    refine XS.goto X10.here hx rfl (pc0 := 85) (pc' := 89) rfl (hb hby d5_85) (by decide) (by decide) ?_
    exact k
  obtain ⟨fs, hr, hrun, hended, hW, hsame⟩ := X10.leave (v := some (.int (1 : Int32))) (fun h => by rw [Bd.returns] at h; cases h)
  refine ⟨_, _, c11 _ ?_, hrun, hended, _, _, rfl, ?_, ⟨_, rfl⟩, hW, hsame.mono (by decide) (by decide)⟩
  · show Steps p.tables e below (T10.setTop (mkF m 89 #[.val (.ref o0), .val (.int (3 : Int32)), .val (.int p2), .val (.int p3), .val (.int p4)] [(.int (1 : Int32))])) _
    exact retOut X10 hx Bd.returns rfl (Or.inl ⟨rfl, by simp, _, rfl⟩) (hb hby d5_89) hr
  · show Q5_3 Z o0 p2 p3 p4 k_o0 y0 y1 y2 c17_z4 c17_z5 c17_z7 c17_z8 c24_z4 c24_z5 c24_z7 c24_z8 z27 z28 c43_z4 c43_z5 c43_z7 c43_z8 c50_z4 c50_z5 c50_z7 c50_z8 z53 z54 c69_z4 c69_z5 c69_z7 c69_z8 c76_z4 c76_z5 c76_z7 c76_z8 z79 z80 h0 n0 _ T10.heap _
    rw [e10]
    exact ⟨rfl, N10, rfl⟩
def Q6_3 (Z : State) (o0 : Addr) (p2 : Int32) (p3 : Int32) (k_o0 : ClassId) (y0 : UInt64) (y1 : UInt64) (y2 : UInt64) (c17_z4 : Int32) (c17_z5 : Int32) (c17_z7 : Int32) (c17_z8 : UInt64) (z20 : Int32) (c35_z4 : Int32) (c35_z5 : Int32) (c35_z7 : Int32) (c35_z8 : UInt64) (z38 : Int32) (c53_z4 : Int32) (c53_z5 : Int32) (c53_z7 : Int32) (c53_z8 : UInt64) (z56 : Int32) (h0 : Heap) (n0 : Nat) (v : Option Value) (h : Heap) (L : List Loc) : Prop := v = some (.int (1 : Int32)) ∧ Fr n0 L ∧ h = h0
set_option maxRecDepth 65536 in
set_option maxHeartbeats 40000000 in
theorem rm6_3 (l : Launch) (Z : State) (a0 : Array Value) (hw : ∀ d ∈ tables_1, d.before a0 Z = true) (ws : List Jvm.Cond) (o0 : Addr) (p2 : Int32) (p3 : Int32) (k_o0 : ClassId) (y0 : UInt64) (y1 : UInt64) (y2 : UInt64) (c17_z4 : Int32) (c17_z5 : Int32) (c17_z7 : Int32) (c17_z8 : UInt64) (z20 : Int32) (c35_z4 : Int32) (c35_z5 : Int32) (c35_z7 : Int32) (c35_z8 : UInt64) (z38 : Int32) (c53_z4 : Int32) (c53_z5 : Int32) (c53_z7 : Int32) (c53_z8 : UInt64) (z56 : Int32) (h0 : Heap) (n0 : Nat) (Z0 : n0 ≤ h0.size) (V_o0 : Arv Z h0 o0 k_o0 .double (3 : Int32) [(.double y0), (.double y1), (.double y2)] (.double (0 : UInt64))) (hc17_z4 : (16 : Int32) * p2 = c17_z4) (hc17_z5 : p3 + c17_z4 = c17_z5) (hc17_z7 : c17_z5 + (0 : Int32) = c17_z7) (hc17_z8 : FP.i2d c17_z7 = c17_z8) (hz20 : cmpValue (FP.dcmp y0 c17_z8) .l = z20) (hc35_z4 : (16 : Int32) * p2 = c35_z4) (hc35_z5 : p3 + c35_z4 = c35_z5) (hc35_z7 : c35_z5 + (1 : Int32) = c35_z7) (hc35_z8 : FP.i2d c35_z7 = c35_z8) (hz38 : cmpValue (FP.dcmp y1 c35_z8) .l = z38) (hc53_z4 : (16 : Int32) * p2 = c53_z4) (hc53_z5 : p3 + c53_z4 = c53_z5) (hc53_z7 : c53_z5 + (2 : Int32) = c53_z7) (hc53_z8 : FP.i2d c53_z7 = c53_z8) (hz56 : cmpValue (FP.dcmp y2 c53_z8) .l = z56) (br21 : z20 = (0 : Int32)) (br39 : z38 = (0 : Int32)) (br57 : z56 = (0 : Int32)) :
    MetFree l (⟨"com/example/lumenstand/lumenstand/light/InterceptionAddPinLaw", "kept", "([DIII)Z"⟩ : MethodName) (head1 (Jvm.Cond.code (⟨"com/example/lumenstand/lumenstand/light/InterceptionAddPinLaw", "kept", "([DIII)Z"⟩ : MethodName) method_6_code 4 (some .boolean) :: ws) ({ frames := 1, cells := 0, slots := 0, locals := 16 } : Room)) (fun a U => a = #[(.ref o0), (.int (3 : Int32)), (.int p2), (.int p3)] ∧ Z.Warmed39 U.vm ∧ U.heap = h0) (fun _ _ _ _ _ => True) (fun _ U o U' => ∃ v L, o = .returned v ∧ Q6_3 Z o0 p2 p3 k_o0 y0 y1 y2 c17_z4 c17_z5 c17_z7 c17_z8 z20 c35_z4 c35_z5 c35_z7 c35_z8 z38 c53_z4 c53_z5 c53_z7 c53_z8 z56 h0 n0 v U'.heap L ∧ FrameEnd U o U' L ({ frames := 1, cells := 0, slots := 0, locals := 16 } : Room).cells ({ frames := 1, cells := 0, slots := 0, locals := 16 } : Room).slots) := by
  refine MetFree.of_bodySF (plainFor_of_name pn_0) hisR ?_
  intro p e s m args below meth c s₁ Bd hml0 hP hK
  obtain ⟨rfl, hZ, hh⟩ := hP
  have hx := Bd.exec
  have hby := Bd.bytes
  have hml : c.maxLocals = 4 := hml0
  have hown : s.vm.findClass "com/example/lumenstand/lumenstand/light/InterceptionAddPinLaw" = some m.cls := findClass_of_methodNamed Bd.named
  have hnm := (name_of_methodNamed Bd.named Bd.method).1
  have X0 : Stand p l e ({ frames := 1, cells := 0, slots := 0, locals := 16 } : Room) s m #[(.ref o0), (.int (3 : Int32)), (.int p2), (.int p3)] below meth c s₁ [] 0 0 := Stand.of_body Bd
  have e0 : s₁.heap = h0 := by rw [← hh, Bd.state]; rfl
  have N0 := Fr.nil n0
  have c0 : ∀ t, Steps p.tables e below (s₁.setTop (mkF m 0 #[.val (.ref o0), .val (.int (3 : Int32)), .val (.int p2), .val (.int p3)] [])) t → Steps p.tables e below (s₁.setTop (entryFrame m #[(.ref o0), (.int (3 : Int32)), (.int p2), (.int p3)] 4)) t := fun t k => castTop (ef_rm6_3 m o0 p2 p3) k
  obtain ⟨cl1, Ar1, -, S1, Nn1, -, -⟩ := id V_o0
  obtain ⟨cl2, Ar2, -, S2, -, Ha2, -⟩ := id V_o0
  have in2 : ¬ ((0 : Int32) < 0 ∨ cl2.slots.size ≤ ((0 : Int32)).toNatClampNeg) := inb_of S2 ⟨by decide, by decide⟩
  obtain ⟨_, _, ⟨T3, L3, k3, n3⟩, -, X3, ⟨Lc3, hQ3, ql3, qy3, qz3⟩, st3⟩ := Jvm.LawKit.callS X0 hx (y := (⟨"com/example/lumenstand/lumenstand/light/InterceptionAddPinLaw", "v", "(III)D"⟩ : MethodName)) hown (mvT hZ (hw _ (List.mem_of_getElem? (i := 37) rfl))) (mvT hZ (hw _ (List.mem_of_getElem? (i := 38) rfl))) (mvT hZ (hw _ (List.mem_of_getElem? (i := 21) rfl))) (mvT hZ (hw _ (List.mem_of_getElem? (i := 39) rfl))) (by decide) (backOf (W := 2) (rm7 l Z a0 hw [] p3 p2 (0 : Int32) c17_z4 c17_z5 c17_z7 c17_z8 h0 n0 Z0 hc17_z4 hc17_z5 hc17_z7 hc17_z8) hZ (hw _ (List.mem_of_getElem? (i := 39) rfl)) (hw _ (List.mem_of_getElem? (i := 21) rfl)) (by decide) (by decide)) (g := (mkF m 17 #[.val (.ref o0), .val (.int (3 : Int32)), .val (.int p2), .val (.int p3)] [(.int (0 : Int32)), (.int p2), (.int p3), (.double y0)])) rfl (by rw [hml]; rfl) (argsL := [(.int p3), (.int p2), (.int (0 : Int32))]) (rest := [(.double y0)]) (lenOf pd_0 rfl) rfl (by show 2 * 0 + _ ≤ _; exact Nat.le_of_eq rfl) (hb hby d6_17) (fun _ _ => ⟨rfl, e0, (by decide : 0 + 0 ≤ _), (by decide : 0 + 0 ≤ _)⟩)
  dsimp only [Pt.U, Pt.locs, Pt.cells, Pt.slots] at X3 ql3 qy3 qz3 st3 hQ3
  subst ql3 qy3 qz3
  obtain ⟨rfl, N3q, e3⟩ := hQ3
  have N3 := Fr.app N0 N3q
  obtain ⟨cl4, Ar4, -, S4, -, Ha4, -⟩ := id V_o0
  have in4 : ¬ ((1 : Int32) < 0 ∨ cl4.slots.size ≤ ((1 : Int32)).toNatClampNeg) := inb_of S4 ⟨by decide, by decide⟩
  obtain ⟨_, _, ⟨T5, L5, k5, n5⟩, -, X5, ⟨Lc5, hQ5, ql5, qy5, qz5⟩, st5⟩ := Jvm.LawKit.callS X3 hx (y := (⟨"com/example/lumenstand/lumenstand/light/InterceptionAddPinLaw", "v", "(III)D"⟩ : MethodName)) hown (mvT hZ (hw _ (List.mem_of_getElem? (i := 37) rfl))) (mvT hZ (hw _ (List.mem_of_getElem? (i := 38) rfl))) (mvT hZ (hw _ (List.mem_of_getElem? (i := 21) rfl))) (mvT hZ (hw _ (List.mem_of_getElem? (i := 39) rfl))) (by decide) (backOf (W := 2) (rm7 l Z a0 hw [] p3 p2 (1 : Int32) c35_z4 c35_z5 c35_z7 c35_z8 h0 n0 Z0 hc35_z4 hc35_z5 hc35_z7 hc35_z8) hZ (hw _ (List.mem_of_getElem? (i := 39) rfl)) (hw _ (List.mem_of_getElem? (i := 21) rfl)) (by decide) (by decide)) (g := (mkF m 35 #[.val (.ref o0), .val (.int (3 : Int32)), .val (.int p2), .val (.int p3)] [(.int (1 : Int32)), (.int p2), (.int p3), (.double y1)])) rfl (by rw [hml]; rfl) (argsL := [(.int p3), (.int p2), (.int (1 : Int32))]) (rest := [(.double y1)]) (lenOf pd_0 rfl) rfl (by show 2 * 0 + _ ≤ _; exact Nat.le_of_eq rfl) (hb hby d6_35) (fun _ _ => ⟨rfl, e3, (by decide : 0 + 0 ≤ _), (by decide : 0 + 0 ≤ _)⟩)
  dsimp only [Pt.U, Pt.locs, Pt.cells, Pt.slots] at X5 ql5 qy5 qz5 st5 hQ5
  subst ql5 qy5 qz5
  obtain ⟨rfl, N5q, e5⟩ := hQ5
  have N5 := Fr.app N3 N5q
  obtain ⟨cl6, Ar6, -, S6, -, Ha6, -⟩ := id V_o0
  have in6 : ¬ ((2 : Int32) < 0 ∨ cl6.slots.size ≤ ((2 : Int32)).toNatClampNeg) := inb_of S6 ⟨by decide, by decide⟩
  obtain ⟨_, _, ⟨T7, L7, k7, n7⟩, -, X7, ⟨Lc7, hQ7, ql7, qy7, qz7⟩, st7⟩ := Jvm.LawKit.callS X5 hx (y := (⟨"com/example/lumenstand/lumenstand/light/InterceptionAddPinLaw", "v", "(III)D"⟩ : MethodName)) hown (mvT hZ (hw _ (List.mem_of_getElem? (i := 37) rfl))) (mvT hZ (hw _ (List.mem_of_getElem? (i := 38) rfl))) (mvT hZ (hw _ (List.mem_of_getElem? (i := 21) rfl))) (mvT hZ (hw _ (List.mem_of_getElem? (i := 39) rfl))) (by decide) (backOf (W := 2) (rm7 l Z a0 hw [] p3 p2 (2 : Int32) c53_z4 c53_z5 c53_z7 c53_z8 h0 n0 Z0 hc53_z4 hc53_z5 hc53_z7 hc53_z8) hZ (hw _ (List.mem_of_getElem? (i := 39) rfl)) (hw _ (List.mem_of_getElem? (i := 21) rfl)) (by decide) (by decide)) (g := (mkF m 53 #[.val (.ref o0), .val (.int (3 : Int32)), .val (.int p2), .val (.int p3)] [(.int (2 : Int32)), (.int p2), (.int p3), (.double y2)])) rfl (by rw [hml]; rfl) (argsL := [(.int p3), (.int p2), (.int (2 : Int32))]) (rest := [(.double y2)]) (lenOf pd_0 rfl) rfl (by show 2 * 0 + _ ≤ _; exact Nat.le_of_eq rfl) (hb hby d6_53) (fun _ _ => ⟨rfl, e5, (by decide : 0 + 0 ≤ _), (by decide : 0 + 0 ≤ _)⟩)
  dsimp only [Pt.U, Pt.locs, Pt.cells, Pt.slots] at X7 ql7 qy7 qz7 st7 hQ7
  subst ql7 qy7 qz7
  obtain ⟨rfl, N7q, e7⟩ := hQ7
  have N7 := Fr.app N5 N7q
  have c8 : ∀ t, Steps p.tables e below (T7.setTop (mkF m 65 #[.val (.ref o0), .val (.int (3 : Int32)), .val (.int p2), .val (.int p3)] [(.int (1 : Int32))])) t → Steps p.tables e below (s₁.setTop (entryFrame m #[(.ref o0), (.int (3 : Int32)), (.int p2), (.int p3)] 4)) t := by
    intro t k
    refine c0 t ?_
    show Steps p.tables e below (s₁.setTop (mkF m 0 #[.val (.ref o0), .val (.int (3 : Int32)), .val (.int p2), .val (.int p3)] [])) _
    refine XS.aloadN X0.here hx rfl (hb hby d6_0) rfl rfl ?_
    show Steps p.tables e below (s₁.setTop (mkF m 1 #[.val (.ref o0), .val (.int (3 : Int32)), .val (.int p2), .val (.int p3)] [(.ref o0)])) _
    refine X0.arraylength hx (by rw [e0]; exact Ar1.1) (State.isArrayOf_alike hZ.alike Ar1.2.1) (g := (mkF m 1 #[.val (.ref o0), .val (.int (3 : Int32)), .val (.int p2), .val (.int p3)] [(.ref o0)])) rfl rfl (hb hby d6_1) _ ?_
    rw [len_of S1 Nn1]
    show Steps p.tables e below (s₁.setTop (mkF m 2 #[.val (.ref o0), .val (.int (3 : Int32)), .val (.int p2), .val (.int p3)] [(.int (3 : Int32))])) _
    refine XS.iloadN X0.here hx rfl (hb hby d6_2) rfl ?_
    show Steps p.tables e below (s₁.setTop (mkF m 3 #[.val (.ref o0), .val (.int (3 : Int32)), .val (.int p2), .val (.int p3)] [(.int (3 : Int32)), (.int (3 : Int32))])) _
    refine XS.icmpNo X0.here hx rfl (hb hby d6_3) rfl (Jvm.Free.XT.ii_ne_f (by decide)) ?_
    show Steps p.tables e below (s₁.setTop (mkF m 6 #[.val (.ref o0), .val (.int (3 : Int32)), .val (.int p2), .val (.int p3)] [])) _
    refine XS.iloadN X0.here hx rfl (hb hby d6_6) rfl ?_
    show Steps p.tables e below (s₁.setTop (mkF m 7 #[.val (.ref o0), .val (.int (3 : Int32)), .val (.int p2), .val (.int p3)] [(.int (3 : Int32))])) _
    refine XS.iconst X0.here hx rfl (hb hby d6_7) ?_
    show Steps p.tables e below (s₁.setTop (mkF m 8 #[.val (.ref o0), .val (.int (3 : Int32)), .val (.int p2), .val (.int p3)] [(.int (1 : Int32)), (.int (3 : Int32))])) _
    refine XS.icmpNo X0.here hx rfl (hb hby d6_8) rfl (Jvm.Free.XT.ii_lt_f (by decide)) ?_
    show Steps p.tables e below (s₁.setTop (mkF m 11 #[.val (.ref o0), .val (.int (3 : Int32)), .val (.int p2), .val (.int p3)] [])) _
    refine XS.aloadN X0.here hx rfl (hb hby d6_11) rfl rfl ?_
    show Steps p.tables e below (s₁.setTop (mkF m 12 #[.val (.ref o0), .val (.int (3 : Int32)), .val (.int p2), .val (.int p3)] [(.ref o0)])) _
    refine XS.iconst X0.here hx rfl (hb hby d6_12) ?_
    show Steps p.tables e below (s₁.setTop (mkF m 13 #[.val (.ref o0), .val (.int (3 : Int32)), .val (.int p2), .val (.int p3)] [(.int (0 : Int32)), (.ref o0)])) _
    refine X0.daload hx (j := (0 : Int32)) (v := (.double y0)) (by rw [e0]; exact Ar2.1) (State.isArrayOf_alike hZ.alike Ar2.2.1) Ar2.2.2 in2 (Has.at Ha2 in2 rfl) (g := (mkF m 13 #[.val (.ref o0), .val (.int (3 : Int32)), .val (.int p2), .val (.int p3)] [(.int (0 : Int32)), (.ref o0)])) rfl rfl (hb hby d6_13) _ ?_
    show Steps p.tables e below (s₁.setTop (mkF m 14 #[.val (.ref o0), .val (.int (3 : Int32)), .val (.int p2), .val (.int p3)] [(.double y0)])) _
    refine XS.iloadN X0.here hx rfl (hb hby d6_14) rfl ?_
    show Steps p.tables e below (s₁.setTop (mkF m 15 #[.val (.ref o0), .val (.int (3 : Int32)), .val (.int p2), .val (.int p3)] [(.int p3), (.double y0)])) _
    refine XS.iloadN X0.here hx rfl (hb hby d6_15) rfl ?_
    show Steps p.tables e below (s₁.setTop (mkF m 16 #[.val (.ref o0), .val (.int (3 : Int32)), .val (.int p2), .val (.int p3)] [(.int p2), (.int p3), (.double y0)])) _
    refine XS.iconst X0.here hx rfl (hb hby d6_16) ?_
    show Steps p.tables e below (s₁.setTop (mkF m 17 #[.val (.ref o0), .val (.int (3 : Int32)), .val (.int p2), .val (.int p3)] [(.int (0 : Int32)), (.int p2), (.int p3), (.double y0)])) _
    refine st3 _ ?_
    show Steps p.tables e below (T3.setTop (mkF m 20 #[.val (.ref o0), .val (.int (3 : Int32)), .val (.int p2), .val (.int p3)] [(.double c17_z8), (.double y0)])) _
    refine XS.dcmpS X3.here hx rfl (hb hby d6_20) rfl hz20 ?_
    show Steps p.tables e below (T3.setTop (mkF m 21 #[.val (.ref o0), .val (.int (3 : Int32)), .val (.int p2), .val (.int p3)] [(.int z20)])) _
    refine XS.ifNo X3.here hx rfl (hb hby d6_21) rfl (Jvm.Free.XT.i0_ne_f br21) ?_
    show Steps p.tables e below (T3.setTop (mkF m 24 #[.val (.ref o0), .val (.int (3 : Int32)), .val (.int p2), .val (.int p3)] [])) _
    refine XS.iloadN X3.here hx rfl (hb hby d6_24) rfl ?_
    show Steps p.tables e below (T3.setTop (mkF m 25 #[.val (.ref o0), .val (.int (3 : Int32)), .val (.int p2), .val (.int p3)] [(.int (3 : Int32))])) _
    refine XS.iconst X3.here hx rfl (hb hby d6_25) ?_
    show Steps p.tables e below (T3.setTop (mkF m 26 #[.val (.ref o0), .val (.int (3 : Int32)), .val (.int p2), .val (.int p3)] [(.int (2 : Int32)), (.int (3 : Int32))])) _
    refine XS.icmpNo X3.here hx rfl (hb hby d6_26) rfl (Jvm.Free.XT.ii_lt_f (by decide)) ?_
    show Steps p.tables e below (T3.setTop (mkF m 29 #[.val (.ref o0), .val (.int (3 : Int32)), .val (.int p2), .val (.int p3)] [])) _
    refine XS.aloadN X3.here hx rfl (hb hby d6_29) rfl rfl ?_
    show Steps p.tables e below (T3.setTop (mkF m 30 #[.val (.ref o0), .val (.int (3 : Int32)), .val (.int p2), .val (.int p3)] [(.ref o0)])) _
    refine XS.iconst X3.here hx rfl (hb hby d6_30) ?_
    show Steps p.tables e below (T3.setTop (mkF m 31 #[.val (.ref o0), .val (.int (3 : Int32)), .val (.int p2), .val (.int p3)] [(.int (1 : Int32)), (.ref o0)])) _
    refine X3.daload hx (j := (1 : Int32)) (v := (.double y1)) (by rw [e3]; exact Ar4.1) (State.isArrayOf_alike hZ.alike Ar4.2.1) Ar4.2.2 in4 (Has.at Ha4 in4 rfl) (g := (mkF m 31 #[.val (.ref o0), .val (.int (3 : Int32)), .val (.int p2), .val (.int p3)] [(.int (1 : Int32)), (.ref o0)])) rfl rfl (hb hby d6_31) _ ?_
    show Steps p.tables e below (T3.setTop (mkF m 32 #[.val (.ref o0), .val (.int (3 : Int32)), .val (.int p2), .val (.int p3)] [(.double y1)])) _
    refine XS.iloadN X3.here hx rfl (hb hby d6_32) rfl ?_
    show Steps p.tables e below (T3.setTop (mkF m 33 #[.val (.ref o0), .val (.int (3 : Int32)), .val (.int p2), .val (.int p3)] [(.int p3), (.double y1)])) _
    refine XS.iloadN X3.here hx rfl (hb hby d6_33) rfl ?_
    show Steps p.tables e below (T3.setTop (mkF m 34 #[.val (.ref o0), .val (.int (3 : Int32)), .val (.int p2), .val (.int p3)] [(.int p2), (.int p3), (.double y1)])) _
    refine XS.iconst X3.here hx rfl (hb hby d6_34) ?_
    show Steps p.tables e below (T3.setTop (mkF m 35 #[.val (.ref o0), .val (.int (3 : Int32)), .val (.int p2), .val (.int p3)] [(.int (1 : Int32)), (.int p2), (.int p3), (.double y1)])) _
    refine st5 _ ?_
    show Steps p.tables e below (T5.setTop (mkF m 38 #[.val (.ref o0), .val (.int (3 : Int32)), .val (.int p2), .val (.int p3)] [(.double c35_z8), (.double y1)])) _
    refine XS.dcmpS X5.here hx rfl (hb hby d6_38) rfl hz38 ?_
    show Steps p.tables e below (T5.setTop (mkF m 39 #[.val (.ref o0), .val (.int (3 : Int32)), .val (.int p2), .val (.int p3)] [(.int z38)])) _
    refine XS.ifNo X5.here hx rfl (hb hby d6_39) rfl (Jvm.Free.XT.i0_ne_f br39) ?_
    show Steps p.tables e below (T5.setTop (mkF m 42 #[.val (.ref o0), .val (.int (3 : Int32)), .val (.int p2), .val (.int p3)] [])) _
    refine XS.iloadN X5.here hx rfl (hb hby d6_42) rfl ?_
    show Steps p.tables e below (T5.setTop (mkF m 43 #[.val (.ref o0), .val (.int (3 : Int32)), .val (.int p2), .val (.int p3)] [(.int (3 : Int32))])) _
    refine XS.iconst X5.here hx rfl (hb hby d6_43) ?_
    show Steps p.tables e below (T5.setTop (mkF m 44 #[.val (.ref o0), .val (.int (3 : Int32)), .val (.int p2), .val (.int p3)] [(.int (3 : Int32)), (.int (3 : Int32))])) _
    refine XS.icmpNo X5.here hx rfl (hb hby d6_44) rfl (Jvm.Free.XT.ii_lt_f (by decide)) ?_
    show Steps p.tables e below (T5.setTop (mkF m 47 #[.val (.ref o0), .val (.int (3 : Int32)), .val (.int p2), .val (.int p3)] [])) _
    refine XS.aloadN X5.here hx rfl (hb hby d6_47) rfl rfl ?_
    show Steps p.tables e below (T5.setTop (mkF m 48 #[.val (.ref o0), .val (.int (3 : Int32)), .val (.int p2), .val (.int p3)] [(.ref o0)])) _
    refine XS.iconst X5.here hx rfl (hb hby d6_48) ?_
    show Steps p.tables e below (T5.setTop (mkF m 49 #[.val (.ref o0), .val (.int (3 : Int32)), .val (.int p2), .val (.int p3)] [(.int (2 : Int32)), (.ref o0)])) _
    refine X5.daload hx (j := (2 : Int32)) (v := (.double y2)) (by rw [e5]; exact Ar6.1) (State.isArrayOf_alike hZ.alike Ar6.2.1) Ar6.2.2 in6 (Has.at Ha6 in6 rfl) (g := (mkF m 49 #[.val (.ref o0), .val (.int (3 : Int32)), .val (.int p2), .val (.int p3)] [(.int (2 : Int32)), (.ref o0)])) rfl rfl (hb hby d6_49) _ ?_
    show Steps p.tables e below (T5.setTop (mkF m 50 #[.val (.ref o0), .val (.int (3 : Int32)), .val (.int p2), .val (.int p3)] [(.double y2)])) _
    refine XS.iloadN X5.here hx rfl (hb hby d6_50) rfl ?_
    show Steps p.tables e below (T5.setTop (mkF m 51 #[.val (.ref o0), .val (.int (3 : Int32)), .val (.int p2), .val (.int p3)] [(.int p3), (.double y2)])) _
    refine XS.iloadN X5.here hx rfl (hb hby d6_51) rfl ?_
    show Steps p.tables e below (T5.setTop (mkF m 52 #[.val (.ref o0), .val (.int (3 : Int32)), .val (.int p2), .val (.int p3)] [(.int p2), (.int p3), (.double y2)])) _
    refine XS.iconst X5.here hx rfl (hb hby d6_52) ?_
    show Steps p.tables e below (T5.setTop (mkF m 53 #[.val (.ref o0), .val (.int (3 : Int32)), .val (.int p2), .val (.int p3)] [(.int (2 : Int32)), (.int p2), (.int p3), (.double y2)])) _
    refine st7 _ ?_
    show Steps p.tables e below (T7.setTop (mkF m 56 #[.val (.ref o0), .val (.int (3 : Int32)), .val (.int p2), .val (.int p3)] [(.double c53_z8), (.double y2)])) _
    refine XS.dcmpS X7.here hx rfl (hb hby d6_56) rfl hz56 ?_
    show Steps p.tables e below (T7.setTop (mkF m 57 #[.val (.ref o0), .val (.int (3 : Int32)), .val (.int p2), .val (.int p3)] [(.int z56)])) _
    refine XS.ifNo X7.here hx rfl (hb hby d6_57) rfl (Jvm.Free.XT.i0_ne_f br57) ?_
    show Steps p.tables e below (T7.setTop (mkF m 60 #[.val (.ref o0), .val (.int (3 : Int32)), .val (.int p2), .val (.int p3)] [])) _
    refine XS.iconst X7.here hx rfl (hb hby d6_60) ?_
    show Steps p.tables e below (T7.setTop (mkF m 61 #[.val (.ref o0), .val (.int (3 : Int32)), .val (.int p2), .val (.int p3)] [(.int (1 : Int32))])) _
    refine XS.goto X7.here hx rfl (pc0 := 61) (pc' := 65) rfl (hb hby d6_61) (by decide) (by decide) ?_
    exact k
  obtain ⟨fs, hr, hrun, hended, hW, hsame⟩ := X7.leave (v := some (.int (1 : Int32))) (fun h => by rw [Bd.returns] at h; cases h)
  refine ⟨_, _, c8 _ ?_, hrun, hended, _, _, rfl, ?_, ⟨_, rfl⟩, hW, hsame.mono (by decide) (by decide)⟩
  · show Steps p.tables e below (T7.setTop (mkF m 65 #[.val (.ref o0), .val (.int (3 : Int32)), .val (.int p2), .val (.int p3)] [(.int (1 : Int32))])) _
    exact retOut X7 hx Bd.returns rfl (Or.inl ⟨rfl, by simp, _, rfl⟩) (hb hby d6_65) hr
  · show Q6_3 Z o0 p2 p3 k_o0 y0 y1 y2 c17_z4 c17_z5 c17_z7 c17_z8 z20 c35_z4 c35_z5 c35_z7 c35_z8 z38 c53_z4 c53_z5 c53_z7 c53_z8 z56 h0 n0 _ T7.heap _
    rw [e7]
    exact ⟨rfl, N7, rfl⟩
def Q0 (n0 : Nat) (v : Option Value) (h : Heap) (L : List Loc) : Prop := v = some (.int 1) ∧ Fr n0 L
set_option maxRecDepth 65536 in
set_option maxHeartbeats 40000000 in
theorem rm0 (l : Launch) (Z : State) (a0 : Array Value) (hw : ∀ d ∈ tables_1, d.before a0 Z = true) (ws : List Jvm.Cond) (p0 : Int32) (p1 : Int32) (p2 : Int32)  (h0 : Heap) (n0 : Nat) (Z0 : n0 ≤ h0.size)  :
    MetFree l x (head1 (Jvm.Cond.code x code maxLocals ret :: ws) room_1) (fun a U => a = #[(.int p0), (.int p1), (.int p2)] ∧ Z.Warmed39 U.vm ∧ U.heap = h0) (fun _ _ _ _ _ => True) (fun _ U o U' => ∃ v L, o = .returned v ∧ Q0 n0 v U'.heap L ∧ FrameEnd U o U' L room_1.cells room_1.slots) := by
  refine MetFree.of_bodySF (plainFor_of_name pn_0) hisR ?_
  intro p e s m args below meth c s₁ Bd hml0 hP hK
  obtain ⟨rfl, hZ, hh⟩ := hP
  have hx := Bd.exec
  have hby := Bd.bytes
  have hml : c.maxLocals = 6 := hml0
  have hown : s.vm.findClass "com/example/lumenstand/lumenstand/light/InterceptionAddPinLaw" = some m.cls := findClass_of_methodNamed Bd.named
  have hnm := (name_of_methodNamed Bd.named Bd.method).1
  have X0 : Stand p l e room_1 s m #[(.int p0), (.int p1), (.int p2)] below meth c s₁ [] 0 0 := Stand.of_body Bd
  have e0 : s₁.heap = h0 := by rw [← hh, Bd.state]; rfl
  have N0 := Fr.nil n0
  have c0 : ∀ t, Steps p.tables e below (s₁.setTop (mkF m 0 #[.val (.int p0), .val (.int p1), .val (.int p2), .unset, .unset, .unset] [])) t → Steps p.tables e below (s₁.setTop (entryFrame m #[(.int p0), (.int p1), (.int p2)] maxLocals)) t := fun t k => castTop (ef_rm0 m p0 p1 p2) k
  obtain ⟨z2, hz2⟩ : ∃ z : Int32, p0 &&& (3 : Int32) = z := ⟨_, rfl⟩
  have c1 : ∀ t, Steps p.tables e below (s₁.setTop (mkF m 4 #[.val (.int p0), .val (.int p1), .val (.int p2), .val (.int z2), .unset, .unset] [])) t → Steps p.tables e below (s₁.setTop (entryFrame m #[(.int p0), (.int p1), (.int p2)] maxLocals)) t := by
    intro t k
    refine c0 t ?_
    show Steps p.tables e below (s₁.setTop (mkF m 0 #[.val (.int p0), .val (.int p1), .val (.int p2), .unset, .unset, .unset] [])) _
    refine XS.iloadN X0.here hx rfl (hb hby at_0) rfl ?_
    show Steps p.tables e below (s₁.setTop (mkF m 1 #[.val (.int p0), .val (.int p1), .val (.int p2), .unset, .unset, .unset] [(.int p0)])) _
    refine XS.iconst X0.here hx rfl (hb hby at_1) ?_
    show Steps p.tables e below (s₁.setTop (mkF m 2 #[.val (.int p0), .val (.int p1), .val (.int p2), .unset, .unset, .unset] [(.int (3 : Int32)), (.int p0)])) _
    refine Jvm.OwnK.iand X0.here hx rfl (hb hby at_2) rfl hz2 ?_
    show Steps p.tables e below (s₁.setTop (mkF m 3 #[.val (.int p0), .val (.int p1), .val (.int p2), .unset, .unset, .unset] [(.int z2)])) _
    refine XS.istoreN X0.here hx rfl (hb hby at_3) rfl (l' := #[.val (.int p0), .val (.int p1), .val (.int p2), .val (.int z2), .unset, .unset]) rfl ?_
    exact k
  rcases (hz2 ▸ and3 p0) with q2 | q2 | q2 | q2
  · obtain rfl := q2
    obtain ⟨T3, h3, X3, e3, E3, A3, D3, -, st3⟩ := newO X0 hx hZ hown (hw _ (List.mem_of_getElem? (i := 0) rfl)) (hw _ (List.mem_of_getElem? (i := 1) rfl)) (hw _ (List.mem_of_getElem? (i := 2) rfl)) e0 (g := (mkF m 4 #[.val (.int p0), .val (.int p1), .val (.int p2), .val (.int (0 : Int32)), .unset, .unset] [])) rfl (hb hby at_4) (by decide) (by decide)
    obtain ⟨b3, g3⟩ : ∃ z, z = h0.size := ⟨_, rfl⟩
    rw [← g3] at A3 D3 st3
    have gn3 : n0 ≤ b3 := Nat.le_trans Z0 (Nat.le_of_eq g3.symm)
    have gz3 : h0.size ≤ b3 := Nat.le_trans ((Keep.refl h0 [])).1 (Nat.le_of_eq g3.symm)
    have K4 : Keep h0 h3 [] := (Keep.refl h0 []).ext E3
    have F3_direct : Fld Z h3 b3 "com/example/lumenstand/lumenstand/light/Interception" "direct" "[D" .null := D3 (Or.inr (hw _ (List.mem_of_getElem? (i := 11) rfl))) (ty := (.array .double)) (by decide)
    have F3_diffuse : Fld Z h3 b3 "com/example/lumenstand/lumenstand/light/Interception" "diffuse" "[D" .null := D3 (Or.inr (hw _ (List.mem_of_getElem? (i := 13) rfl))) (ty := (.array .double)) (by decide)
    have F3_potential : Fld Z h3 b3 "com/example/lumenstand/lumenstand/light/Interception" "potential" "[D" .null := D3 (Or.inr (hw _ (List.mem_of_getElem? (i := 15) rfl))) (ty := (.array .double)) (by decide)
    have F3_trunk : Fld Z h3 b3 "com/example/lumenstand/lumenstand/light/Interception" "trunk" "[D" .null := D3 (Or.inr (hw _ (List.mem_of_getElem? (i := 17) rfl))) (ty := (.array .double)) (by decide)
    obtain ⟨_, _, ⟨T5, L5, k5, n5⟩, -, X5, ⟨Lc5, hQ5, ql5, qy5, qz5⟩, st5⟩ := X3.specialBack hx (y := (⟨"com/example/lumenstand/lumenstand/light/Interception", "<init>", "(I)V"⟩ : MethodName)) rfl hown (mvT hZ (hw _ (List.mem_of_getElem? (i := 3) rfl))) (mvT hZ (hw _ (List.mem_of_getElem? (i := 4) rfl))) (mvT hZ (hw _ (List.mem_of_getElem? (i := 5) rfl))) (by decide) (backOf (W := 1) (rm1_0 l Z a0 hw [] b3 (.null) (.null) (.null) (.null)  h3 n0 (Nat.le_trans Z0 E3.1) A3 F3_direct gn3 F3_diffuse F3_potential F3_trunk) hZ (hw _ (List.mem_of_getElem? (i := 5) rfl)) (hw _ (List.mem_of_getElem? (i := 2) rfl)) (by decide) (by decide)) (g := (mkF m 9 #[.val (.int p0), .val (.int p1), .val (.int p2), .val (.int (0 : Int32)), .unset, .unset] [(.int (0 : Int32)), (.ref b3), (.ref b3)])) rfl (by rw [hml]; rfl) (Steps.refl _) (a := b3) (argsL := [(.int (0 : Int32))]) (rest := [(.ref b3)]) (lenOf pd_1 rfl) rfl (by show 2 * 0 + _ ≤ _; exact Nat.le_of_eq rfl) (hb hby at_9) (fun _ _ => ⟨rfl, e3, (by decide : 1 + 4 ≤ _), (by decide : 4 + 0 ≤ _)⟩)
    dsimp only [Pt.U, Pt.locs, Pt.cells, Pt.slots] at X5 ql5 qy5 qz5 st5 hQ5
    subst ql5 qy5 qz5
    obtain ⟨rb5_b2, rb5_b8, rb5_b14, rb5_b20, kk5_k2, kk5_k8, kk5_k14, kk5_k20, rfl, N5q, gz5_b2, gz5_b8, gz5_b14, gz5_b20, K5q, Q5_0, Q5_1, Q5_2, Q5_3, Q5_4, Q5_5, Q5_6, Q5_7, Q5_8, D5_0, D5_1, D5_2, D5_3, D5_4, D5_5⟩ := hQ5
    have N5 := Fr.app N0 N5q
    have gn5_b2 : n0 ≤ rb5_b2 := Nat.le_trans (Nat.le_trans Z0 E3.1) gz5_b2
    have gy5_b2 : h0.size ≤ rb5_b2 := Nat.le_trans (K4).1 gz5_b2
    have gn5_b8 : n0 ≤ rb5_b8 := Nat.le_trans (Nat.le_trans Z0 E3.1) gz5_b8
    have gy5_b8 : h0.size ≤ rb5_b8 := Nat.le_trans (K4).1 gz5_b8
    have gn5_b14 : n0 ≤ rb5_b14 := Nat.le_trans (Nat.le_trans Z0 E3.1) gz5_b14
    have gy5_b14 : h0.size ≤ rb5_b14 := Nat.le_trans (K4).1 gz5_b14
    have gn5_b20 : n0 ≤ rb5_b20 := Nat.le_trans (Nat.le_trans Z0 E3.1) gz5_b20
    have gy5_b20 : h0.size ≤ rb5_b20 := Nat.le_trans (K4).1 gz5_b20
    have K6 : Keep h0 T5.heap [] := Keep.trans K4 K5q (allS (Or.inr gz3) all0)
    obtain ⟨T7, h7, X7, e7, E7, A7, D7, -, st7⟩ := newO X5 hx hZ hown (hw _ (List.mem_of_getElem? (i := 0) rfl)) (hw _ (List.mem_of_getElem? (i := 1) rfl)) (hw _ (List.mem_of_getElem? (i := 2) rfl)) rfl (g := (mkF m 14 #[.val (.int p0), .val (.int p1), .val (.int p2), .val (.int (0 : Int32)), .val (.ref b3), .unset] [])) rfl (hb hby at_14) (by decide) (by decide)
    obtain ⟨b7, g7⟩ : ∃ z, z = T5.heap.size := ⟨_, rfl⟩
    rw [← g7] at A7 D7 st7
    have gn7 : n0 ≤ b7 := Nat.le_trans (Nat.le_trans (Nat.le_trans Z0 E3.1) K5q.1) (Nat.le_of_eq g7.symm)
    have gz7 : h0.size ≤ b7 := Nat.le_trans (K6).1 (Nat.le_of_eq g7.symm)
    have K8 : Keep h0 h7 [] := K6.ext E7
    have F7_direct : Fld Z h7 b7 "com/example/lumenstand/lumenstand/light/Interception" "direct" "[D" .null := D7 (Or.inr (hw _ (List.mem_of_getElem? (i := 11) rfl))) (ty := (.array .double)) (by decide)
    have F7_diffuse : Fld Z h7 b7 "com/example/lumenstand/lumenstand/light/Interception" "diffuse" "[D" .null := D7 (Or.inr (hw _ (List.mem_of_getElem? (i := 13) rfl))) (ty := (.array .double)) (by decide)
    have F7_potential : Fld Z h7 b7 "com/example/lumenstand/lumenstand/light/Interception" "potential" "[D" .null := D7 (Or.inr (hw _ (List.mem_of_getElem? (i := 15) rfl))) (ty := (.array .double)) (by decide)
    have F7_trunk : Fld Z h7 b7 "com/example/lumenstand/lumenstand/light/Interception" "trunk" "[D" .null := D7 (Or.inr (hw _ (List.mem_of_getElem? (i := 17) rfl))) (ty := (.array .double)) (by decide)
    obtain ⟨_, _, ⟨T9, L9, k9, n9⟩, -, X9, ⟨Lc9, hQ9, ql9, qy9, qz9⟩, st9⟩ := X7.specialBack hx (y := (⟨"com/example/lumenstand/lumenstand/light/Interception", "<init>", "(I)V"⟩ : MethodName)) rfl hown (mvT hZ (hw _ (List.mem_of_getElem? (i := 3) rfl))) (mvT hZ (hw _ (List.mem_of_getElem? (i := 4) rfl))) (mvT hZ (hw _ (List.mem_of_getElem? (i := 5) rfl))) (by decide) (backOf (W := 1) (rm1_0 l Z a0 hw [] b7 (.null) (.null) (.null) (.null)  h7 n0 (Nat.le_trans (Nat.le_trans (Nat.le_trans Z0 E3.1) K5q.1) E7.1) A7 F7_direct gn7 F7_diffuse F7_potential F7_trunk) hZ (hw _ (List.mem_of_getElem? (i := 5) rfl)) (hw _ (List.mem_of_getElem? (i := 2) rfl)) (by decide) (by decide)) (g := (mkF m 19 #[.val (.int p0), .val (.int p1), .val (.int p2), .val (.int (0 : Int32)), .val (.ref b3), .unset] [(.int (0 : Int32)), (.ref b7), (.ref b7)])) rfl (by rw [hml]; rfl) (Steps.refl _) (a := b7) (argsL := [(.int (0 : Int32))]) (rest := [(.ref b7)]) (lenOf pd_1 rfl) rfl (by show 2 * 0 + _ ≤ _; exact Nat.le_of_eq rfl) (hb hby at_19) (fun _ _ => ⟨rfl, e7, (by decide : 6 + 4 ≤ _), (by decide : 8 + 0 ≤ _)⟩)
    dsimp only [Pt.U, Pt.locs, Pt.cells, Pt.slots] at X9 ql9 qy9 qz9 st9 hQ9
    subst ql9 qy9 qz9
    obtain ⟨rb9_b2, rb9_b8, rb9_b14, rb9_b20, kk9_k2, kk9_k8, kk9_k14, kk9_k20, rfl, N9q, gz9_b2, gz9_b8, gz9_b14, gz9_b20, K9q, Q9_0, Q9_1, Q9_2, Q9_3, Q9_4, Q9_5, Q9_6, Q9_7, Q9_8, D9_0, D9_1, D9_2, D9_3, D9_4, D9_5⟩ := hQ9
    have N9 := Fr.app N5 N9q
    have gn9_b2 : n0 ≤ rb9_b2 := Nat.le_trans (Nat.le_trans (Nat.le_trans (Nat.le_trans Z0 E3.1) K5q.1) E7.1) gz9_b2
    have gy9_b2 : h0.size ≤ rb9_b2 := Nat.le_trans (K8).1 gz9_b2
    have gn9_b8 : n0 ≤ rb9_b8 := Nat.le_trans (Nat.le_trans (Nat.le_trans (Nat.le_trans Z0 E3.1) K5q.1) E7.1) gz9_b8
    have gy9_b8 : h0.size ≤ rb9_b8 := Nat.le_trans (K8).1 gz9_b8
    have gn9_b14 : n0 ≤ rb9_b14 := Nat.le_trans (Nat.le_trans (Nat.le_trans (Nat.le_trans Z0 E3.1) K5q.1) E7.1) gz9_b14
    have gy9_b14 : h0.size ≤ rb9_b14 := Nat.le_trans (K8).1 gz9_b14
    have gn9_b20 : n0 ≤ rb9_b20 := Nat.le_trans (Nat.le_trans (Nat.le_trans (Nat.le_trans Z0 E3.1) K5q.1) E7.1) gz9_b20
    have gy9_b20 : h0.size ≤ rb9_b20 := Nat.le_trans (K8).1 gz9_b20
    have K10 : Keep h0 T9.heap [] := Keep.trans K8 K9q (allS (Or.inr gz7) all0)
    have f11 := ((Q5_1.ext E7).keep K9q (ninS (Nat.ne_of_lt (Nat.lt_of_lt_of_le (Q5_0).lt (Nat.le_of_eq g7.symm))) nin0))
    obtain ⟨T12, X12, e12, st12⟩ := getF X9 hx hZ hown (host := "") (Or.inl (hw _ (List.mem_of_getElem? (i := 18) rfl))) Via.refl rfl f11 (g := (mkF m 26 #[.val (.int p0), .val (.int p1), .val (.int p2), .val (.int (0 : Int32)), .val (.ref b3), .val (.ref b7)] [(.ref b3)])) rfl rfl (hb hby at_26)
    have f13 := ((Q5_5.ext E7).keep K9q (ninS (Nat.ne_of_lt (Nat.lt_of_lt_of_le (Q5_5).lt (Nat.le_of_eq g7.symm))) nin0))
    obtain ⟨_, _, ⟨T14, L14, k14, n14⟩, -, X14, ⟨Lc14, hQ14, ql14, qy14, qz14⟩, st14⟩ := Jvm.LawKit.callS X12 hx (y := (⟨"com/example/lumenstand/lumenstand/light/InterceptionAddPinLaw", "put", "([DII)V"⟩ : MethodName)) hown (mvT hZ (hw _ (List.mem_of_getElem? (i := 19) rfl))) (mvT hZ (hw _ (List.mem_of_getElem? (i := 20) rfl))) (mvT hZ (hw _ (List.mem_of_getElem? (i := 21) rfl))) (mvT hZ (hw _ (List.mem_of_getElem? (i := 22) rfl))) (by decide) (backOf (W := 0) (rm3_0 l Z a0 hw [] rb5_b2 (0 : Int32) p1 kk5_k2  T9.heap n0 (Nat.le_trans (Nat.le_trans (Nat.le_trans (Nat.le_trans Z0 E3.1) K5q.1) E7.1) K9q.1) f13) hZ (hw _ (List.mem_of_getElem? (i := 22) rfl)) (hw _ (List.mem_of_getElem? (i := 21) rfl)) (by decide) (by decide)) (g := (mkF m 31 #[.val (.int p0), .val (.int p1), .val (.int p2), .val (.int (0 : Int32)), .val (.ref b3), .val (.ref b7)] [(.int p1), (.int (0 : Int32)), (.ref rb5_b2)])) rfl (by rw [hml]; rfl) (argsL := [(.ref rb5_b2), (.int (0 : Int32)), (.int p1)]) (rest := []) (lenOf pd_2 rfl) rfl (by show 2 * 0 + _ ≤ _; exact Nat.le_of_eq rfl) (hb hby at_31) (fun _ _ => ⟨rfl, e12, (by decide : 10 + 0 ≤ _), (by decide : 8 + 0 ≤ _)⟩)
    dsimp only [Pt.U, Pt.locs, Pt.cells, Pt.slots] at X14 ql14 qy14 qz14 st14 hQ14
    subst ql14 qy14 qz14
    obtain ⟨rfl, N14q, e14⟩ := hQ14
    have N14 := Fr.app N9 N14q
    have f15 := ((Q5_2.ext E7).keep K9q (ninS (Nat.ne_of_lt (Nat.lt_of_lt_of_le (Q5_0).lt (Nat.le_of_eq g7.symm))) nin0))
    obtain ⟨T16, X16, e16, st16⟩ := getF X14 hx hZ hown (host := "") (Or.inl (hw _ (List.mem_of_getElem? (i := 23) rfl))) Via.refl e14 f15 (g := (mkF m 36 #[.val (.int p0), .val (.int p1), .val (.int p2), .val (.int (0 : Int32)), .val (.ref b3), .val (.ref b7)] [(.ref b3)])) rfl rfl (hb hby at_36)
    have f17 := ((Q5_6.ext E7).keep K9q (ninS (Nat.ne_of_lt (Nat.lt_of_lt_of_le (Q5_6).lt (Nat.le_of_eq g7.symm))) nin0))
    obtain ⟨_, _, ⟨T18, L18, k18, n18⟩, -, X18, ⟨Lc18, hQ18, ql18, qy18, qz18⟩, st18⟩ := Jvm.LawKit.callS X16 hx (y := (⟨"com/example/lumenstand/lumenstand/light/InterceptionAddPinLaw", "put", "([DII)V"⟩ : MethodName)) hown (mvT hZ (hw _ (List.mem_of_getElem? (i := 19) rfl))) (mvT hZ (hw _ (List.mem_of_getElem? (i := 20) rfl))) (mvT hZ (hw _ (List.mem_of_getElem? (i := 21) rfl))) (mvT hZ (hw _ (List.mem_of_getElem? (i := 22) rfl))) (by decide) (backOf (W := 0) (rm3_0 l Z a0 hw [] rb5_b8 (1 : Int32) p1 kk5_k8  T9.heap n0 (Nat.le_trans (Nat.le_trans (Nat.le_trans (Nat.le_trans Z0 E3.1) K5q.1) E7.1) K9q.1) f17) hZ (hw _ (List.mem_of_getElem? (i := 22) rfl)) (hw _ (List.mem_of_getElem? (i := 21) rfl)) (by decide) (by decide)) (g := (mkF m 41 #[.val (.int p0), .val (.int p1), .val (.int p2), .val (.int (0 : Int32)), .val (.ref b3), .val (.ref b7)] [(.int p1), (.int (1 : Int32)), (.ref rb5_b8)])) rfl (by rw [hml]; rfl) (argsL := [(.ref rb5_b8), (.int (1 : Int32)), (.int p1)]) (rest := []) (lenOf pd_2 rfl) rfl (by show 2 * 0 + _ ≤ _; exact Nat.le_of_eq rfl) (hb hby at_41) (fun _ _ => ⟨rfl, e16, (by decide : 10 + 0 ≤ _), (by decide : 8 + 0 ≤ _)⟩)
    dsimp only [Pt.U, Pt.locs, Pt.cells, Pt.slots] at X18 ql18 qy18 qz18 st18 hQ18
    subst ql18 qy18 qz18
    obtain ⟨rfl, N18q, e18⟩ := hQ18
    have N18 := Fr.app N14 N18q
    have f19 := ((Q5_3.ext E7).keep K9q (ninS (Nat.ne_of_lt (Nat.lt_of_lt_of_le (Q5_0).lt (Nat.le_of_eq g7.symm))) nin0))
    obtain ⟨T20, X20, e20, st20⟩ := getF X18 hx hZ hown (host := "") (Or.inl (hw _ (List.mem_of_getElem? (i := 24) rfl))) Via.refl e18 f19 (g := (mkF m 46 #[.val (.int p0), .val (.int p1), .val (.int p2), .val (.int (0 : Int32)), .val (.ref b3), .val (.ref b7)] [(.ref b3)])) rfl rfl (hb hby at_46)
    have f21 := ((Q5_7.ext E7).keep K9q (ninS (Nat.ne_of_lt (Nat.lt_of_lt_of_le (Q5_7).lt (Nat.le_of_eq g7.symm))) nin0))
    obtain ⟨_, _, ⟨T22, L22, k22, n22⟩, -, X22, ⟨Lc22, hQ22, ql22, qy22, qz22⟩, st22⟩ := Jvm.LawKit.callS X20 hx (y := (⟨"com/example/lumenstand/lumenstand/light/InterceptionAddPinLaw", "put", "([DII)V"⟩ : MethodName)) hown (mvT hZ (hw _ (List.mem_of_getElem? (i := 19) rfl))) (mvT hZ (hw _ (List.mem_of_getElem? (i := 20) rfl))) (mvT hZ (hw _ (List.mem_of_getElem? (i := 21) rfl))) (mvT hZ (hw _ (List.mem_of_getElem? (i := 22) rfl))) (by decide) (backOf (W := 0) (rm3_0 l Z a0 hw [] rb5_b14 (2 : Int32) p1 kk5_k14  T9.heap n0 (Nat.le_trans (Nat.le_trans (Nat.le_trans (Nat.le_trans Z0 E3.1) K5q.1) E7.1) K9q.1) f21) hZ (hw _ (List.mem_of_getElem? (i := 22) rfl)) (hw _ (List.mem_of_getElem? (i := 21) rfl)) (by decide) (by decide)) (g := (mkF m 51 #[.val (.int p0), .val (.int p1), .val (.int p2), .val (.int (0 : Int32)), .val (.ref b3), .val (.ref b7)] [(.int p1), (.int (2 : Int32)), (.ref rb5_b14)])) rfl (by rw [hml]; rfl) (argsL := [(.ref rb5_b14), (.int (2 : Int32)), (.int p1)]) (rest := []) (lenOf pd_2 rfl) rfl (by show 2 * 0 + _ ≤ _; exact Nat.le_of_eq rfl) (hb hby at_51) (fun _ _ => ⟨rfl, e20, (by decide : 10 + 0 ≤ _), (by decide : 8 + 0 ≤ _)⟩)
    dsimp only [Pt.U, Pt.locs, Pt.cells, Pt.slots] at X22 ql22 qy22 qz22 st22 hQ22
    subst ql22 qy22 qz22
    obtain ⟨rfl, N22q, e22⟩ := hQ22
    have N22 := Fr.app N18 N22q
    have f23 := ((Q5_4.ext E7).keep K9q (ninS (Nat.ne_of_lt (Nat.lt_of_lt_of_le (Q5_0).lt (Nat.le_of_eq g7.symm))) nin0))
    obtain ⟨T24, X24, e24, st24⟩ := getF X22 hx hZ hown (host := "") (Or.inl (hw _ (List.mem_of_getElem? (i := 25) rfl))) Via.refl e22 f23 (g := (mkF m 56 #[.val (.int p0), .val (.int p1), .val (.int p2), .val (.int (0 : Int32)), .val (.ref b3), .val (.ref b7)] [(.ref b3)])) rfl rfl (hb hby at_56)
    have f25 := ((Q5_8.ext E7).keep K9q (ninS (Nat.ne_of_lt (Nat.lt_of_lt_of_le (Q5_8).lt (Nat.le_of_eq g7.symm))) nin0))
    obtain ⟨_, _, ⟨T26, L26, k26, n26⟩, -, X26, ⟨Lc26, hQ26, ql26, qy26, qz26⟩, st26⟩ := Jvm.LawKit.callS X24 hx (y := (⟨"com/example/lumenstand/lumenstand/light/InterceptionAddPinLaw", "put", "([DII)V"⟩ : MethodName)) hown (mvT hZ (hw _ (List.mem_of_getElem? (i := 19) rfl))) (mvT hZ (hw _ (List.mem_of_getElem? (i := 20) rfl))) (mvT hZ (hw _ (List.mem_of_getElem? (i := 21) rfl))) (mvT hZ (hw _ (List.mem_of_getElem? (i := 22) rfl))) (by decide) (backOf (W := 0) (rm3_0 l Z a0 hw [] rb5_b20 (3 : Int32) p1 kk5_k20  T9.heap n0 (Nat.le_trans (Nat.le_trans (Nat.le_trans (Nat.le_trans Z0 E3.1) K5q.1) E7.1) K9q.1) f25) hZ (hw _ (List.mem_of_getElem? (i := 22) rfl)) (hw _ (List.mem_of_getElem? (i := 21) rfl)) (by decide) (by decide)) (g := (mkF m 61 #[.val (.int p0), .val (.int p1), .val (.int p2), .val (.int (0 : Int32)), .val (.ref b3), .val (.ref b7)] [(.int p1), (.int (3 : Int32)), (.ref rb5_b20)])) rfl (by rw [hml]; rfl) (argsL := [(.ref rb5_b20), (.int (3 : Int32)), (.int p1)]) (rest := []) (lenOf pd_2 rfl) rfl (by show 2 * 0 + _ ≤ _; exact Nat.le_of_eq rfl) (hb hby at_61) (fun _ _ => ⟨rfl, e24, (by decide : 10 + 0 ≤ _), (by decide : 8 + 0 ≤ _)⟩)
    dsimp only [Pt.U, Pt.locs, Pt.cells, Pt.slots] at X26 ql26 qy26 qz26 st26 hQ26
    subst ql26 qy26 qz26
    obtain ⟨rfl, N26q, e26⟩ := hQ26
    have N26 := Fr.app N22 N26q
    obtain ⟨T27, X27, e27, st27⟩ := getF X26 hx hZ hown (host := "") (Or.inl (hw _ (List.mem_of_getElem? (i := 18) rfl))) Via.refl e26 Q9_1 (g := (mkF m 66 #[.val (.int p0), .val (.int p1), .val (.int p2), .val (.int (0 : Int32)), .val (.ref b3), .val (.ref b7)] [(.ref b7)])) rfl rfl (hb hby at_66)
    obtain ⟨_, _, ⟨T28, L28, k28, n28⟩, -, X28, ⟨Lc28, hQ28, ql28, qy28, qz28⟩, st28⟩ := Jvm.LawKit.callS X27 hx (y := (⟨"com/example/lumenstand/lumenstand/light/InterceptionAddPinLaw", "put", "([DII)V"⟩ : MethodName)) hown (mvT hZ (hw _ (List.mem_of_getElem? (i := 19) rfl))) (mvT hZ (hw _ (List.mem_of_getElem? (i := 20) rfl))) (mvT hZ (hw _ (List.mem_of_getElem? (i := 21) rfl))) (mvT hZ (hw _ (List.mem_of_getElem? (i := 22) rfl))) (by decide) (backOf (W := 0) (rm3_0 l Z a0 hw [] rb9_b2 (0 : Int32) p2 kk9_k2  T9.heap n0 (Nat.le_trans (Nat.le_trans (Nat.le_trans (Nat.le_trans Z0 E3.1) K5q.1) E7.1) K9q.1) Q9_5) hZ (hw _ (List.mem_of_getElem? (i := 22) rfl)) (hw _ (List.mem_of_getElem? (i := 21) rfl)) (by decide) (by decide)) (g := (mkF m 71 #[.val (.int p0), .val (.int p1), .val (.int p2), .val (.int (0 : Int32)), .val (.ref b3), .val (.ref b7)] [(.int p2), (.int (0 : Int32)), (.ref rb9_b2)])) rfl (by rw [hml]; rfl) (argsL := [(.ref rb9_b2), (.int (0 : Int32)), (.int p2)]) (rest := []) (lenOf pd_2 rfl) rfl (by show 2 * 0 + _ ≤ _; exact Nat.le_of_eq rfl) (hb hby at_71) (fun _ _ => ⟨rfl, e27, (by decide : 10 + 0 ≤ _), (by decide : 8 + 0 ≤ _)⟩)
    dsimp only [Pt.U, Pt.locs, Pt.cells, Pt.slots] at X28 ql28 qy28 qz28 st28 hQ28
    subst ql28 qy28 qz28
    obtain ⟨rfl, N28q, e28⟩ := hQ28
    have N28 := Fr.app N26 N28q
    obtain ⟨T29, X29, e29, st29⟩ := getF X28 hx hZ hown (host := "") (Or.inl (hw _ (List.mem_of_getElem? (i := 23) rfl))) Via.refl e28 Q9_2 (g := (mkF m 76 #[.val (.int p0), .val (.int p1), .val (.int p2), .val (.int (0 : Int32)), .val (.ref b3), .val (.ref b7)] [(.ref b7)])) rfl rfl (hb hby at_76)
    obtain ⟨_, _, ⟨T30, L30, k30, n30⟩, -, X30, ⟨Lc30, hQ30, ql30, qy30, qz30⟩, st30⟩ := Jvm.LawKit.callS X29 hx (y := (⟨"com/example/lumenstand/lumenstand/light/InterceptionAddPinLaw", "put", "([DII)V"⟩ : MethodName)) hown (mvT hZ (hw _ (List.mem_of_getElem? (i := 19) rfl))) (mvT hZ (hw _ (List.mem_of_getElem? (i := 20) rfl))) (mvT hZ (hw _ (List.mem_of_getElem? (i := 21) rfl))) (mvT hZ (hw _ (List.mem_of_getElem? (i := 22) rfl))) (by decide) (backOf (W := 0) (rm3_0 l Z a0 hw [] rb9_b8 (1 : Int32) p2 kk9_k8  T9.heap n0 (Nat.le_trans (Nat.le_trans (Nat.le_trans (Nat.le_trans Z0 E3.1) K5q.1) E7.1) K9q.1) Q9_6) hZ (hw _ (List.mem_of_getElem? (i := 22) rfl)) (hw _ (List.mem_of_getElem? (i := 21) rfl)) (by decide) (by decide)) (g := (mkF m 81 #[.val (.int p0), .val (.int p1), .val (.int p2), .val (.int (0 : Int32)), .val (.ref b3), .val (.ref b7)] [(.int p2), (.int (1 : Int32)), (.ref rb9_b8)])) rfl (by rw [hml]; rfl) (argsL := [(.ref rb9_b8), (.int (1 : Int32)), (.int p2)]) (rest := []) (lenOf pd_2 rfl) rfl (by show 2 * 0 + _ ≤ _; exact Nat.le_of_eq rfl) (hb hby at_81) (fun _ _ => ⟨rfl, e29, (by decide : 10 + 0 ≤ _), (by decide : 8 + 0 ≤ _)⟩)
    dsimp only [Pt.U, Pt.locs, Pt.cells, Pt.slots] at X30 ql30 qy30 qz30 st30 hQ30
    subst ql30 qy30 qz30
    obtain ⟨rfl, N30q, e30⟩ := hQ30
    have N30 := Fr.app N28 N30q
    obtain ⟨T31, X31, e31, st31⟩ := getF X30 hx hZ hown (host := "") (Or.inl (hw _ (List.mem_of_getElem? (i := 24) rfl))) Via.refl e30 Q9_3 (g := (mkF m 86 #[.val (.int p0), .val (.int p1), .val (.int p2), .val (.int (0 : Int32)), .val (.ref b3), .val (.ref b7)] [(.ref b7)])) rfl rfl (hb hby at_86)
    obtain ⟨_, _, ⟨T32, L32, k32, n32⟩, -, X32, ⟨Lc32, hQ32, ql32, qy32, qz32⟩, st32⟩ := Jvm.LawKit.callS X31 hx (y := (⟨"com/example/lumenstand/lumenstand/light/InterceptionAddPinLaw", "put", "([DII)V"⟩ : MethodName)) hown (mvT hZ (hw _ (List.mem_of_getElem? (i := 19) rfl))) (mvT hZ (hw _ (List.mem_of_getElem? (i := 20) rfl))) (mvT hZ (hw _ (List.mem_of_getElem? (i := 21) rfl))) (mvT hZ (hw _ (List.mem_of_getElem? (i := 22) rfl))) (by decide) (backOf (W := 0) (rm3_0 l Z a0 hw [] rb9_b14 (2 : Int32) p2 kk9_k14  T9.heap n0 (Nat.le_trans (Nat.le_trans (Nat.le_trans (Nat.le_trans Z0 E3.1) K5q.1) E7.1) K9q.1) Q9_7) hZ (hw _ (List.mem_of_getElem? (i := 22) rfl)) (hw _ (List.mem_of_getElem? (i := 21) rfl)) (by decide) (by decide)) (g := (mkF m 91 #[.val (.int p0), .val (.int p1), .val (.int p2), .val (.int (0 : Int32)), .val (.ref b3), .val (.ref b7)] [(.int p2), (.int (2 : Int32)), (.ref rb9_b14)])) rfl (by rw [hml]; rfl) (argsL := [(.ref rb9_b14), (.int (2 : Int32)), (.int p2)]) (rest := []) (lenOf pd_2 rfl) rfl (by show 2 * 0 + _ ≤ _; exact Nat.le_of_eq rfl) (hb hby at_91) (fun _ _ => ⟨rfl, e31, (by decide : 10 + 0 ≤ _), (by decide : 8 + 0 ≤ _)⟩)
    dsimp only [Pt.U, Pt.locs, Pt.cells, Pt.slots] at X32 ql32 qy32 qz32 st32 hQ32
    subst ql32 qy32 qz32
    obtain ⟨rfl, N32q, e32⟩ := hQ32
    have N32 := Fr.app N30 N32q
    obtain ⟨T33, X33, e33, st33⟩ := getF X32 hx hZ hown (host := "") (Or.inl (hw _ (List.mem_of_getElem? (i := 25) rfl))) Via.refl e32 Q9_4 (g := (mkF m 96 #[.val (.int p0), .val (.int p1), .val (.int p2), .val (.int (0 : Int32)), .val (.ref b3), .val (.ref b7)] [(.ref b7)])) rfl rfl (hb hby at_96)
    obtain ⟨_, _, ⟨T34, L34, k34, n34⟩, -, X34, ⟨Lc34, hQ34, ql34, qy34, qz34⟩, st34⟩ := Jvm.LawKit.callS X33 hx (y := (⟨"com/example/lumenstand/lumenstand/light/InterceptionAddPinLaw", "put", "([DII)V"⟩ : MethodName)) hown (mvT hZ (hw _ (List.mem_of_getElem? (i := 19) rfl))) (mvT hZ (hw _ (List.mem_of_getElem? (i := 20) rfl))) (mvT hZ (hw _ (List.mem_of_getElem? (i := 21) rfl))) (mvT hZ (hw _ (List.mem_of_getElem? (i := 22) rfl))) (by decide) (backOf (W := 0) (rm3_0 l Z a0 hw [] rb9_b20 (3 : Int32) p2 kk9_k20  T9.heap n0 (Nat.le_trans (Nat.le_trans (Nat.le_trans (Nat.le_trans Z0 E3.1) K5q.1) E7.1) K9q.1) Q9_8) hZ (hw _ (List.mem_of_getElem? (i := 22) rfl)) (hw _ (List.mem_of_getElem? (i := 21) rfl)) (by decide) (by decide)) (g := (mkF m 101 #[.val (.int p0), .val (.int p1), .val (.int p2), .val (.int (0 : Int32)), .val (.ref b3), .val (.ref b7)] [(.int p2), (.int (3 : Int32)), (.ref rb9_b20)])) rfl (by rw [hml]; rfl) (argsL := [(.ref rb9_b20), (.int (3 : Int32)), (.int p2)]) (rest := []) (lenOf pd_2 rfl) rfl (by show 2 * 0 + _ ≤ _; exact Nat.le_of_eq rfl) (hb hby at_101) (fun _ _ => ⟨rfl, e33, (by decide : 10 + 0 ≤ _), (by decide : 8 + 0 ≤ _)⟩)
    dsimp only [Pt.U, Pt.locs, Pt.cells, Pt.slots] at X34 ql34 qy34 qz34 st34 hQ34
    subst ql34 qy34 qz34
    obtain ⟨rfl, N34q, e34⟩ := hQ34
    have N34 := Fr.app N32 N34q
    have f36 := ((Q5_0.ext E7).keep K9q)
    obtain ⟨cq35, kq35, q35a, q35b, q35c⟩ := isOf hZ e34 f36
    obtain ⟨_, _, ⟨T35, L35, k35, n35⟩, -, X35, ⟨Lc35, hQ35, ql35, qy35, qz35⟩, st35⟩ := X34.virtualBack hx (y := (⟨"com/example/lumenstand/lumenstand/light/Interception", "add", "(Lcom/example/lumenstand/lumenstand/light/Interception;)V"⟩ : MethodName)) (z := (⟨"com/example/lumenstand/lumenstand/light/Interception", "add", "(Lcom/example/lumenstand/lumenstand/light/Interception;)V"⟩ : MethodName)) hown (mvT hZ (hw _ (List.mem_of_getElem? (i := 26) rfl))) (mvT hZ (hw _ (List.mem_of_getElem? (i := 27) rfl))) (notFace_of_selects (args := #[]) (mvT hZ (hw _ (List.mem_of_getElem? (i := 29) rfl)))) (mvT hZ (hw _ (List.mem_of_getElem? (i := 29) rfl))) (mvT hZ (hw _ (List.mem_of_getElem? (i := 28) rfl))) (by decide) (backOf (W := 0) (rm4_0 l Z a0 hw [] b3 b7 kk5_k2 rb5_b2  T9.heap n0 (Nat.le_trans (Nat.le_trans (Nat.le_trans (Nat.le_trans Z0 E3.1) K5q.1) E7.1) K9q.1) f13 f11) hZ (hw _ (List.mem_of_getElem? (i := 30) rfl)) (hw _ (List.mem_of_getElem? (i := 2) rfl)) (by decide) (by decide)) q35a q35c (g := (mkF m 108 #[.val (.int p0), .val (.int p1), .val (.int p2), .val (.int (0 : Int32)), .val (.ref b3), .val (.ref b7)] [(.ref b7), (.ref b3)])) rfl (by rw [hml]; rfl) (Steps.refl _) (argsL := [(.ref b7)]) (rest := []) (lenOf pd_3 rfl) rfl (by show 2 * 0 + _ ≤ _; exact Nat.le_of_eq rfl) (hb hby at_108) (fun _ _ => ⟨rfl, e34, (by decide : 10 + 0 ≤ _), (by decide : 8 + 0 ≤ _)⟩)
    dsimp only [Pt.U, Pt.locs, Pt.cells, Pt.slots] at X35 ql35 qy35 qz35 st35 hQ35
    subst ql35 qy35 qz35
    obtain ⟨rfl, N35q, e35⟩ := hQ35
    have N35 := Fr.app N34 N35q
    obtain ⟨T37, X37, e37, st37⟩ := getF X35 hx hZ hown (host := "") (Or.inl (hw _ (List.mem_of_getElem? (i := 18) rfl))) Via.refl e35 f11 (g := (mkF m 113 #[.val (.int p0), .val (.int p1), .val (.int p2), .val (.int (0 : Int32)), .val (.ref b3), .val (.ref b7)] [(.ref b3)])) rfl rfl (hb hby at_113)
    obtain ⟨_, _, ⟨T38, L38, k38, n38⟩, -, X38, ⟨Lc38, hQ38, ql38, qy38, qz38⟩, st38⟩ := Jvm.LawKit.callS X37 hx (y := (⟨"com/example/lumenstand/lumenstand/light/InterceptionAddPinLaw", "sum", "([DIIII)Z"⟩ : MethodName)) hown (mvT hZ (hw _ (List.mem_of_getElem? (i := 31) rfl))) (mvT hZ (hw _ (List.mem_of_getElem? (i := 32) rfl))) (mvT hZ (hw _ (List.mem_of_getElem? (i := 21) rfl))) (mvT hZ (hw _ (List.mem_of_getElem? (i := 33) rfl))) (by decide) (backOf (W := 0) (rm5_0 l Z a0 hw [] rb5_b2 (0 : Int32) p1 p2 kk5_k2  T9.heap n0 (Nat.le_trans (Nat.le_trans (Nat.le_trans (Nat.le_trans Z0 E3.1) K5q.1) E7.1) K9q.1) f13) hZ (hw _ (List.mem_of_getElem? (i := 33) rfl)) (hw _ (List.mem_of_getElem? (i := 21) rfl)) (by decide) (by decide)) (g := (mkF m 120 #[.val (.int p0), .val (.int p1), .val (.int p2), .val (.int (0 : Int32)), .val (.ref b3), .val (.ref b7)] [(.int p2), (.int p1), (.int (0 : Int32)), (.int (0 : Int32)), (.ref rb5_b2)])) rfl (by rw [hml]; rfl) (argsL := [(.ref rb5_b2), (.int (0 : Int32)), (.int (0 : Int32)), (.int p1), (.int p2)]) (rest := []) (lenOf pd_4 rfl) rfl (by show 2 * 0 + _ ≤ _; exact Nat.le_of_eq rfl) (hb hby at_120) (fun _ _ => ⟨rfl, e37, (by decide : 10 + 0 ≤ _), (by decide : 8 + 0 ≤ _)⟩)
    dsimp only [Pt.U, Pt.locs, Pt.cells, Pt.slots] at X38 ql38 qy38 qz38 st38 hQ38
    subst ql38 qy38 qz38
    obtain ⟨rfl, N38q, e38⟩ := hQ38
    have N38 := Fr.app N35 N38q
    obtain ⟨T39, X39, e39, st39⟩ := getF X38 hx hZ hown (host := "") (Or.inl (hw _ (List.mem_of_getElem? (i := 23) rfl))) Via.refl e38 f15 (g := (mkF m 128 #[.val (.int p0), .val (.int p1), .val (.int p2), .val (.int (0 : Int32)), .val (.ref b3), .val (.ref b7)] [(.ref b3)])) rfl rfl (hb hby at_128)
    obtain ⟨_, _, ⟨T40, L40, k40, n40⟩, -, X40, ⟨Lc40, hQ40, ql40, qy40, qz40⟩, st40⟩ := Jvm.LawKit.callS X39 hx (y := (⟨"com/example/lumenstand/lumenstand/light/InterceptionAddPinLaw", "sum", "([DIIII)Z"⟩ : MethodName)) hown (mvT hZ (hw _ (List.mem_of_getElem? (i := 31) rfl))) (mvT hZ (hw _ (List.mem_of_getElem? (i := 32) rfl))) (mvT hZ (hw _ (List.mem_of_getElem? (i := 21) rfl))) (mvT hZ (hw _ (List.mem_of_getElem? (i := 33) rfl))) (by decide) (backOf (W := 0) (rm5_0 l Z a0 hw [] rb5_b8 (1 : Int32) p1 p2 kk5_k8  T9.heap n0 (Nat.le_trans (Nat.le_trans (Nat.le_trans (Nat.le_trans Z0 E3.1) K5q.1) E7.1) K9q.1) f17) hZ (hw _ (List.mem_of_getElem? (i := 33) rfl)) (hw _ (List.mem_of_getElem? (i := 21) rfl)) (by decide) (by decide)) (g := (mkF m 135 #[.val (.int p0), .val (.int p1), .val (.int p2), .val (.int (0 : Int32)), .val (.ref b3), .val (.ref b7)] [(.int p2), (.int p1), (.int (1 : Int32)), (.int (0 : Int32)), (.ref rb5_b8)])) rfl (by rw [hml]; rfl) (argsL := [(.ref rb5_b8), (.int (0 : Int32)), (.int (1 : Int32)), (.int p1), (.int p2)]) (rest := []) (lenOf pd_4 rfl) rfl (by show 2 * 0 + _ ≤ _; exact Nat.le_of_eq rfl) (hb hby at_135) (fun _ _ => ⟨rfl, e39, (by decide : 10 + 0 ≤ _), (by decide : 8 + 0 ≤ _)⟩)
    dsimp only [Pt.U, Pt.locs, Pt.cells, Pt.slots] at X40 ql40 qy40 qz40 st40 hQ40
    subst ql40 qy40 qz40
    obtain ⟨rfl, N40q, e40⟩ := hQ40
    have N40 := Fr.app N38 N40q
    obtain ⟨T41, X41, e41, st41⟩ := getF X40 hx hZ hown (host := "") (Or.inl (hw _ (List.mem_of_getElem? (i := 24) rfl))) Via.refl e40 f19 (g := (mkF m 143 #[.val (.int p0), .val (.int p1), .val (.int p2), .val (.int (0 : Int32)), .val (.ref b3), .val (.ref b7)] [(.ref b3)])) rfl rfl (hb hby at_143)
    obtain ⟨_, _, ⟨T42, L42, k42, n42⟩, -, X42, ⟨Lc42, hQ42, ql42, qy42, qz42⟩, st42⟩ := Jvm.LawKit.callS X41 hx (y := (⟨"com/example/lumenstand/lumenstand/light/InterceptionAddPinLaw", "sum", "([DIIII)Z"⟩ : MethodName)) hown (mvT hZ (hw _ (List.mem_of_getElem? (i := 31) rfl))) (mvT hZ (hw _ (List.mem_of_getElem? (i := 32) rfl))) (mvT hZ (hw _ (List.mem_of_getElem? (i := 21) rfl))) (mvT hZ (hw _ (List.mem_of_getElem? (i := 33) rfl))) (by decide) (backOf (W := 0) (rm5_0 l Z a0 hw [] rb5_b14 (2 : Int32) p1 p2 kk5_k14  T9.heap n0 (Nat.le_trans (Nat.le_trans (Nat.le_trans (Nat.le_trans Z0 E3.1) K5q.1) E7.1) K9q.1) f21) hZ (hw _ (List.mem_of_getElem? (i := 33) rfl)) (hw _ (List.mem_of_getElem? (i := 21) rfl)) (by decide) (by decide)) (g := (mkF m 150 #[.val (.int p0), .val (.int p1), .val (.int p2), .val (.int (0 : Int32)), .val (.ref b3), .val (.ref b7)] [(.int p2), (.int p1), (.int (2 : Int32)), (.int (0 : Int32)), (.ref rb5_b14)])) rfl (by rw [hml]; rfl) (argsL := [(.ref rb5_b14), (.int (0 : Int32)), (.int (2 : Int32)), (.int p1), (.int p2)]) (rest := []) (lenOf pd_4 rfl) rfl (by show 2 * 0 + _ ≤ _; exact Nat.le_of_eq rfl) (hb hby at_150) (fun _ _ => ⟨rfl, e41, (by decide : 10 + 0 ≤ _), (by decide : 8 + 0 ≤ _)⟩)
    dsimp only [Pt.U, Pt.locs, Pt.cells, Pt.slots] at X42 ql42 qy42 qz42 st42 hQ42
    subst ql42 qy42 qz42
    obtain ⟨rfl, N42q, e42⟩ := hQ42
    have N42 := Fr.app N40 N42q
    obtain ⟨T43, X43, e43, st43⟩ := getF X42 hx hZ hown (host := "") (Or.inl (hw _ (List.mem_of_getElem? (i := 25) rfl))) Via.refl e42 f23 (g := (mkF m 158 #[.val (.int p0), .val (.int p1), .val (.int p2), .val (.int (0 : Int32)), .val (.ref b3), .val (.ref b7)] [(.ref b3)])) rfl rfl (hb hby at_158)
    obtain ⟨_, _, ⟨T44, L44, k44, n44⟩, -, X44, ⟨Lc44, hQ44, ql44, qy44, qz44⟩, st44⟩ := Jvm.LawKit.callS X43 hx (y := (⟨"com/example/lumenstand/lumenstand/light/InterceptionAddPinLaw", "sum", "([DIIII)Z"⟩ : MethodName)) hown (mvT hZ (hw _ (List.mem_of_getElem? (i := 31) rfl))) (mvT hZ (hw _ (List.mem_of_getElem? (i := 32) rfl))) (mvT hZ (hw _ (List.mem_of_getElem? (i := 21) rfl))) (mvT hZ (hw _ (List.mem_of_getElem? (i := 33) rfl))) (by decide) (backOf (W := 0) (rm5_0 l Z a0 hw [] rb5_b20 (3 : Int32) p1 p2 kk5_k20  T9.heap n0 (Nat.le_trans (Nat.le_trans (Nat.le_trans (Nat.le_trans Z0 E3.1) K5q.1) E7.1) K9q.1) f25) hZ (hw _ (List.mem_of_getElem? (i := 33) rfl)) (hw _ (List.mem_of_getElem? (i := 21) rfl)) (by decide) (by decide)) (g := (mkF m 165 #[.val (.int p0), .val (.int p1), .val (.int p2), .val (.int (0 : Int32)), .val (.ref b3), .val (.ref b7)] [(.int p2), (.int p1), (.int (3 : Int32)), (.int (0 : Int32)), (.ref rb5_b20)])) rfl (by rw [hml]; rfl) (argsL := [(.ref rb5_b20), (.int (0 : Int32)), (.int (3 : Int32)), (.int p1), (.int p2)]) (rest := []) (lenOf pd_4 rfl) rfl (by show 2 * 0 + _ ≤ _; exact Nat.le_of_eq rfl) (hb hby at_165) (fun _ _ => ⟨rfl, e43, (by decide : 10 + 0 ≤ _), (by decide : 8 + 0 ≤ _)⟩)
    dsimp only [Pt.U, Pt.locs, Pt.cells, Pt.slots] at X44 ql44 qy44 qz44 st44 hQ44
    subst ql44 qy44 qz44
    obtain ⟨rfl, N44q, e44⟩ := hQ44
    have N44 := Fr.app N42 N44q
    obtain ⟨T45, X45, e45, st45⟩ := getF X44 hx hZ hown (host := "") (Or.inl (hw _ (List.mem_of_getElem? (i := 18) rfl))) Via.refl e44 Q9_1 (g := (mkF m 173 #[.val (.int p0), .val (.int p1), .val (.int p2), .val (.int (0 : Int32)), .val (.ref b3), .val (.ref b7)] [(.ref b7)])) rfl rfl (hb hby at_173)
    obtain ⟨_, _, ⟨T46, L46, k46, n46⟩, -, X46, ⟨Lc46, hQ46, ql46, qy46, qz46⟩, st46⟩ := Jvm.LawKit.callS X45 hx (y := (⟨"com/example/lumenstand/lumenstand/light/InterceptionAddPinLaw", "kept", "([DIII)Z"⟩ : MethodName)) hown (mvT hZ (hw _ (List.mem_of_getElem? (i := 34) rfl))) (mvT hZ (hw _ (List.mem_of_getElem? (i := 35) rfl))) (mvT hZ (hw _ (List.mem_of_getElem? (i := 21) rfl))) (mvT hZ (hw _ (List.mem_of_getElem? (i := 36) rfl))) (by decide) (backOf (W := 0) (rm6_0 l Z a0 hw [] rb9_b2 (0 : Int32) p2 kk9_k2  T9.heap n0 (Nat.le_trans (Nat.le_trans (Nat.le_trans (Nat.le_trans Z0 E3.1) K5q.1) E7.1) K9q.1) Q9_5) hZ (hw _ (List.mem_of_getElem? (i := 36) rfl)) (hw _ (List.mem_of_getElem? (i := 21) rfl)) (by decide) (by decide)) (g := (mkF m 179 #[.val (.int p0), .val (.int p1), .val (.int p2), .val (.int (0 : Int32)), .val (.ref b3), .val (.ref b7)] [(.int p2), (.int (0 : Int32)), (.int (0 : Int32)), (.ref rb9_b2)])) rfl (by rw [hml]; rfl) (argsL := [(.ref rb9_b2), (.int (0 : Int32)), (.int (0 : Int32)), (.int p2)]) (rest := []) (lenOf pd_5 rfl) rfl (by show 2 * 0 + _ ≤ _; exact Nat.le_of_eq rfl) (hb hby at_179) (fun _ _ => ⟨rfl, e45, (by decide : 10 + 0 ≤ _), (by decide : 8 + 0 ≤ _)⟩)
    dsimp only [Pt.U, Pt.locs, Pt.cells, Pt.slots] at X46 ql46 qy46 qz46 st46 hQ46
    subst ql46 qy46 qz46
    obtain ⟨rfl, N46q, e46⟩ := hQ46
    have N46 := Fr.app N44 N46q
    obtain ⟨T47, X47, e47, st47⟩ := getF X46 hx hZ hown (host := "") (Or.inl (hw _ (List.mem_of_getElem? (i := 23) rfl))) Via.refl e46 Q9_2 (g := (mkF m 187 #[.val (.int p0), .val (.int p1), .val (.int p2), .val (.int (0 : Int32)), .val (.ref b3), .val (.ref b7)] [(.ref b7)])) rfl rfl (hb hby at_187)
    obtain ⟨_, _, ⟨T48, L48, k48, n48⟩, -, X48, ⟨Lc48, hQ48, ql48, qy48, qz48⟩, st48⟩ := Jvm.LawKit.callS X47 hx (y := (⟨"com/example/lumenstand/lumenstand/light/InterceptionAddPinLaw", "kept", "([DIII)Z"⟩ : MethodName)) hown (mvT hZ (hw _ (List.mem_of_getElem? (i := 34) rfl))) (mvT hZ (hw _ (List.mem_of_getElem? (i := 35) rfl))) (mvT hZ (hw _ (List.mem_of_getElem? (i := 21) rfl))) (mvT hZ (hw _ (List.mem_of_getElem? (i := 36) rfl))) (by decide) (backOf (W := 0) (rm6_0 l Z a0 hw [] rb9_b8 (1 : Int32) p2 kk9_k8  T9.heap n0 (Nat.le_trans (Nat.le_trans (Nat.le_trans (Nat.le_trans Z0 E3.1) K5q.1) E7.1) K9q.1) Q9_6) hZ (hw _ (List.mem_of_getElem? (i := 36) rfl)) (hw _ (List.mem_of_getElem? (i := 21) rfl)) (by decide) (by decide)) (g := (mkF m 193 #[.val (.int p0), .val (.int p1), .val (.int p2), .val (.int (0 : Int32)), .val (.ref b3), .val (.ref b7)] [(.int p2), (.int (1 : Int32)), (.int (0 : Int32)), (.ref rb9_b8)])) rfl (by rw [hml]; rfl) (argsL := [(.ref rb9_b8), (.int (0 : Int32)), (.int (1 : Int32)), (.int p2)]) (rest := []) (lenOf pd_5 rfl) rfl (by show 2 * 0 + _ ≤ _; exact Nat.le_of_eq rfl) (hb hby at_193) (fun _ _ => ⟨rfl, e47, (by decide : 10 + 0 ≤ _), (by decide : 8 + 0 ≤ _)⟩)
    dsimp only [Pt.U, Pt.locs, Pt.cells, Pt.slots] at X48 ql48 qy48 qz48 st48 hQ48
    subst ql48 qy48 qz48
    obtain ⟨rfl, N48q, e48⟩ := hQ48
    have N48 := Fr.app N46 N48q
    obtain ⟨T49, X49, e49, st49⟩ := getF X48 hx hZ hown (host := "") (Or.inl (hw _ (List.mem_of_getElem? (i := 24) rfl))) Via.refl e48 Q9_3 (g := (mkF m 201 #[.val (.int p0), .val (.int p1), .val (.int p2), .val (.int (0 : Int32)), .val (.ref b3), .val (.ref b7)] [(.ref b7)])) rfl rfl (hb hby at_201)
    obtain ⟨_, _, ⟨T50, L50, k50, n50⟩, -, X50, ⟨Lc50, hQ50, ql50, qy50, qz50⟩, st50⟩ := Jvm.LawKit.callS X49 hx (y := (⟨"com/example/lumenstand/lumenstand/light/InterceptionAddPinLaw", "kept", "([DIII)Z"⟩ : MethodName)) hown (mvT hZ (hw _ (List.mem_of_getElem? (i := 34) rfl))) (mvT hZ (hw _ (List.mem_of_getElem? (i := 35) rfl))) (mvT hZ (hw _ (List.mem_of_getElem? (i := 21) rfl))) (mvT hZ (hw _ (List.mem_of_getElem? (i := 36) rfl))) (by decide) (backOf (W := 0) (rm6_0 l Z a0 hw [] rb9_b14 (2 : Int32) p2 kk9_k14  T9.heap n0 (Nat.le_trans (Nat.le_trans (Nat.le_trans (Nat.le_trans Z0 E3.1) K5q.1) E7.1) K9q.1) Q9_7) hZ (hw _ (List.mem_of_getElem? (i := 36) rfl)) (hw _ (List.mem_of_getElem? (i := 21) rfl)) (by decide) (by decide)) (g := (mkF m 207 #[.val (.int p0), .val (.int p1), .val (.int p2), .val (.int (0 : Int32)), .val (.ref b3), .val (.ref b7)] [(.int p2), (.int (2 : Int32)), (.int (0 : Int32)), (.ref rb9_b14)])) rfl (by rw [hml]; rfl) (argsL := [(.ref rb9_b14), (.int (0 : Int32)), (.int (2 : Int32)), (.int p2)]) (rest := []) (lenOf pd_5 rfl) rfl (by show 2 * 0 + _ ≤ _; exact Nat.le_of_eq rfl) (hb hby at_207) (fun _ _ => ⟨rfl, e49, (by decide : 10 + 0 ≤ _), (by decide : 8 + 0 ≤ _)⟩)
    dsimp only [Pt.U, Pt.locs, Pt.cells, Pt.slots] at X50 ql50 qy50 qz50 st50 hQ50
    subst ql50 qy50 qz50
    obtain ⟨rfl, N50q, e50⟩ := hQ50
    have N50 := Fr.app N48 N50q
    obtain ⟨T51, X51, e51, st51⟩ := getF X50 hx hZ hown (host := "") (Or.inl (hw _ (List.mem_of_getElem? (i := 25) rfl))) Via.refl e50 Q9_4 (g := (mkF m 215 #[.val (.int p0), .val (.int p1), .val (.int p2), .val (.int (0 : Int32)), .val (.ref b3), .val (.ref b7)] [(.ref b7)])) rfl rfl (hb hby at_215)
    obtain ⟨_, _, ⟨T52, L52, k52, n52⟩, -, X52, ⟨Lc52, hQ52, ql52, qy52, qz52⟩, st52⟩ := Jvm.LawKit.callS X51 hx (y := (⟨"com/example/lumenstand/lumenstand/light/InterceptionAddPinLaw", "kept", "([DIII)Z"⟩ : MethodName)) hown (mvT hZ (hw _ (List.mem_of_getElem? (i := 34) rfl))) (mvT hZ (hw _ (List.mem_of_getElem? (i := 35) rfl))) (mvT hZ (hw _ (List.mem_of_getElem? (i := 21) rfl))) (mvT hZ (hw _ (List.mem_of_getElem? (i := 36) rfl))) (by decide) (backOf (W := 0) (rm6_0 l Z a0 hw [] rb9_b20 (3 : Int32) p2 kk9_k20  T9.heap n0 (Nat.le_trans (Nat.le_trans (Nat.le_trans (Nat.le_trans Z0 E3.1) K5q.1) E7.1) K9q.1) Q9_8) hZ (hw _ (List.mem_of_getElem? (i := 36) rfl)) (hw _ (List.mem_of_getElem? (i := 21) rfl)) (by decide) (by decide)) (g := (mkF m 221 #[.val (.int p0), .val (.int p1), .val (.int p2), .val (.int (0 : Int32)), .val (.ref b3), .val (.ref b7)] [(.int p2), (.int (3 : Int32)), (.int (0 : Int32)), (.ref rb9_b20)])) rfl (by rw [hml]; rfl) (argsL := [(.ref rb9_b20), (.int (0 : Int32)), (.int (3 : Int32)), (.int p2)]) (rest := []) (lenOf pd_5 rfl) rfl (by show 2 * 0 + _ ≤ _; exact Nat.le_of_eq rfl) (hb hby at_221) (fun _ _ => ⟨rfl, e51, (by decide : 10 + 0 ≤ _), (by decide : 8 + 0 ≤ _)⟩)
    dsimp only [Pt.U, Pt.locs, Pt.cells, Pt.slots] at X52 ql52 qy52 qz52 st52 hQ52
    subst ql52 qy52 qz52
    obtain ⟨rfl, N52q, e52⟩ := hQ52
    have N52 := Fr.app N50 N52q
    have c53 : ∀ t, Steps p.tables e below (T52.setTop (mkF m 232 #[.val (.int p0), .val (.int p1), .val (.int p2), .val (.int (0 : Int32)), .val (.ref b3), .val (.ref b7)] [(.int (1 : Int32))])) t → Steps p.tables e below (s₁.setTop (entryFrame m #[(.int p0), (.int p1), (.int p2)] maxLocals)) t := by
      intro t k
      refine c1 t ?_
      show Steps p.tables e below (s₁.setTop (mkF m 4 #[.val (.int p0), .val (.int p1), .val (.int p2), .val (.int (0 : Int32)), .unset, .unset] [])) _
      refine st3 _ ?_
      show Steps p.tables e below (T3.setTop (mkF m 7 #[.val (.int p0), .val (.int p1), .val (.int p2), .val (.int (0 : Int32)), .unset, .unset] [(.ref b3)])) _
      refine XS.dup X3.here hx rfl (hb hby at_7) rfl rfl ?_
      show Steps p.tables e below (T3.setTop (mkF m 8 #[.val (.int p0), .val (.int p1), .val (.int p2), .val (.int (0 : Int32)), .unset, .unset] [(.ref b3), (.ref b3)])) _
      refine XS.iloadN X3.here hx rfl (hb hby at_8) rfl ?_
      show Steps p.tables e below (T3.setTop (mkF m 9 #[.val (.int p0), .val (.int p1), .val (.int p2), .val (.int (0 : Int32)), .unset, .unset] [(.int (0 : Int32)), (.ref b3), (.ref b3)])) _
      refine st5.trans ?_
      show Steps p.tables e below (T5.setTop (mkF m 12 #[.val (.int p0), .val (.int p1), .val (.int p2), .val (.int (0 : Int32)), .unset, .unset] [(.ref b3)])) _
      refine XS.astore X5.here hx rfl (hb hby at_12) rfl rfl (l' := #[.val (.int p0), .val (.int p1), .val (.int p2), .val (.int (0 : Int32)), .val (.ref b3), .unset]) rfl ?_
      show Steps p.tables e below (T5.setTop (mkF m 14 #[.val (.int p0), .val (.int p1), .val (.int p2), .val (.int (0 : Int32)), .val (.ref b3), .unset] [])) _
      refine st7 _ ?_
      show Steps p.tables e below (T7.setTop (mkF m 17 #[.val (.int p0), .val (.int p1), .val (.int p2), .val (.int (0 : Int32)), .val (.ref b3), .unset] [(.ref b7)])) _
      refine XS.dup X7.here hx rfl (hb hby at_17) rfl rfl ?_
      show Steps p.tables e below (T7.setTop (mkF m 18 #[.val (.int p0), .val (.int p1), .val (.int p2), .val (.int (0 : Int32)), .val (.ref b3), .unset] [(.ref b7), (.ref b7)])) _
      refine XS.iloadN X7.here hx rfl (hb hby at_18) rfl ?_
      show Steps p.tables e below (T7.setTop (mkF m 19 #[.val (.int p0), .val (.int p1), .val (.int p2), .val (.int (0 : Int32)), .val (.ref b3), .unset] [(.int (0 : Int32)), (.ref b7), (.ref b7)])) _
      refine st9.trans ?_
      show Steps p.tables e below (T9.setTop (mkF m 22 #[.val (.int p0), .val (.int p1), .val (.int p2), .val (.int (0 : Int32)), .val (.ref b3), .unset] [(.ref b7)])) _
      refine XS.astore X9.here hx rfl (hb hby at_22) rfl rfl (l' := #[.val (.int p0), .val (.int p1), .val (.int p2), .val (.int (0 : Int32)), .val (.ref b3), .val (.ref b7)]) rfl ?_
      show Steps p.tables e below (T9.setTop (mkF m 24 #[.val (.int p0), .val (.int p1), .val (.int p2), .val (.int (0 : Int32)), .val (.ref b3), .val (.ref b7)] [])) _
      refine XS.aload X9.here hx rfl (hb hby at_24) rfl rfl ?_
      show Steps p.tables e below (T9.setTop (mkF m 26 #[.val (.int p0), .val (.int p1), .val (.int p2), .val (.int (0 : Int32)), .val (.ref b3), .val (.ref b7)] [(.ref b3)])) _
      refine st12 _ ?_
      show Steps p.tables e below (T12.setTop (mkF m 29 #[.val (.int p0), .val (.int p1), .val (.int p2), .val (.int (0 : Int32)), .val (.ref b3), .val (.ref b7)] [(.ref rb5_b2)])) _
      refine XS.iconst X12.here hx rfl (hb hby at_29) ?_
      show Steps p.tables e below (T12.setTop (mkF m 30 #[.val (.int p0), .val (.int p1), .val (.int p2), .val (.int (0 : Int32)), .val (.ref b3), .val (.ref b7)] [(.int (0 : Int32)), (.ref rb5_b2)])) _
      refine XS.iloadN X12.here hx rfl (hb hby at_30) rfl ?_
      show Steps p.tables e below (T12.setTop (mkF m 31 #[.val (.int p0), .val (.int p1), .val (.int p2), .val (.int (0 : Int32)), .val (.ref b3), .val (.ref b7)] [(.int p1), (.int (0 : Int32)), (.ref rb5_b2)])) _
      refine st14 _ ?_
      show Steps p.tables e below (T14.setTop (mkF m 34 #[.val (.int p0), .val (.int p1), .val (.int p2), .val (.int (0 : Int32)), .val (.ref b3), .val (.ref b7)] [])) _
      refine XS.aload X14.here hx rfl (hb hby at_34) rfl rfl ?_
      show Steps p.tables e below (T14.setTop (mkF m 36 #[.val (.int p0), .val (.int p1), .val (.int p2), .val (.int (0 : Int32)), .val (.ref b3), .val (.ref b7)] [(.ref b3)])) _
      refine st16 _ ?_
      show Steps p.tables e below (T16.setTop (mkF m 39 #[.val (.int p0), .val (.int p1), .val (.int p2), .val (.int (0 : Int32)), .val (.ref b3), .val (.ref b7)] [(.ref rb5_b8)])) _
      refine XS.iconst X16.here hx rfl (hb hby at_39) ?_
      show Steps p.tables e below (T16.setTop (mkF m 40 #[.val (.int p0), .val (.int p1), .val (.int p2), .val (.int (0 : Int32)), .val (.ref b3), .val (.ref b7)] [(.int (1 : Int32)), (.ref rb5_b8)])) _
      refine XS.iloadN X16.here hx rfl (hb hby at_40) rfl ?_
      show Steps p.tables e below (T16.setTop (mkF m 41 #[.val (.int p0), .val (.int p1), .val (.int p2), .val (.int (0 : Int32)), .val (.ref b3), .val (.ref b7)] [(.int p1), (.int (1 : Int32)), (.ref rb5_b8)])) _
      refine st18 _ ?_
      show Steps p.tables e below (T18.setTop (mkF m 44 #[.val (.int p0), .val (.int p1), .val (.int p2), .val (.int (0 : Int32)), .val (.ref b3), .val (.ref b7)] [])) _
      refine XS.aload X18.here hx rfl (hb hby at_44) rfl rfl ?_
      show Steps p.tables e below (T18.setTop (mkF m 46 #[.val (.int p0), .val (.int p1), .val (.int p2), .val (.int (0 : Int32)), .val (.ref b3), .val (.ref b7)] [(.ref b3)])) _
      refine st20 _ ?_
      show Steps p.tables e below (T20.setTop (mkF m 49 #[.val (.int p0), .val (.int p1), .val (.int p2), .val (.int (0 : Int32)), .val (.ref b3), .val (.ref b7)] [(.ref rb5_b14)])) _
      refine XS.iconst X20.here hx rfl (hb hby at_49) ?_
      show Steps p.tables e below (T20.setTop (mkF m 50 #[.val (.int p0), .val (.int p1), .val (.int p2), .val (.int (0 : Int32)), .val (.ref b3), .val (.ref b7)] [(.int (2 : Int32)), (.ref rb5_b14)])) _
      refine XS.iloadN X20.here hx rfl (hb hby at_50) rfl ?_
      show Steps p.tables e below (T20.setTop (mkF m 51 #[.val (.int p0), .val (.int p1), .val (.int p2), .val (.int (0 : Int32)), .val (.ref b3), .val (.ref b7)] [(.int p1), (.int (2 : Int32)), (.ref rb5_b14)])) _
      refine st22 _ ?_
      show Steps p.tables e below (T22.setTop (mkF m 54 #[.val (.int p0), .val (.int p1), .val (.int p2), .val (.int (0 : Int32)), .val (.ref b3), .val (.ref b7)] [])) _
      refine XS.aload X22.here hx rfl (hb hby at_54) rfl rfl ?_
      show Steps p.tables e below (T22.setTop (mkF m 56 #[.val (.int p0), .val (.int p1), .val (.int p2), .val (.int (0 : Int32)), .val (.ref b3), .val (.ref b7)] [(.ref b3)])) _
      refine st24 _ ?_
      show Steps p.tables e below (T24.setTop (mkF m 59 #[.val (.int p0), .val (.int p1), .val (.int p2), .val (.int (0 : Int32)), .val (.ref b3), .val (.ref b7)] [(.ref rb5_b20)])) _
      refine XS.iconst X24.here hx rfl (hb hby at_59) ?_
      show Steps p.tables e below (T24.setTop (mkF m 60 #[.val (.int p0), .val (.int p1), .val (.int p2), .val (.int (0 : Int32)), .val (.ref b3), .val (.ref b7)] [(.int (3 : Int32)), (.ref rb5_b20)])) _
      refine XS.iloadN X24.here hx rfl (hb hby at_60) rfl ?_
      show Steps p.tables e below (T24.setTop (mkF m 61 #[.val (.int p0), .val (.int p1), .val (.int p2), .val (.int (0 : Int32)), .val (.ref b3), .val (.ref b7)] [(.int p1), (.int (3 : Int32)), (.ref rb5_b20)])) _
      refine st26 _ ?_
      show Steps p.tables e below (T26.setTop (mkF m 64 #[.val (.int p0), .val (.int p1), .val (.int p2), .val (.int (0 : Int32)), .val (.ref b3), .val (.ref b7)] [])) _
      refine XS.aload X26.here hx rfl (hb hby at_64) rfl rfl ?_
      show Steps p.tables e below (T26.setTop (mkF m 66 #[.val (.int p0), .val (.int p1), .val (.int p2), .val (.int (0 : Int32)), .val (.ref b3), .val (.ref b7)] [(.ref b7)])) _
      refine st27 _ ?_
      show Steps p.tables e below (T27.setTop (mkF m 69 #[.val (.int p0), .val (.int p1), .val (.int p2), .val (.int (0 : Int32)), .val (.ref b3), .val (.ref b7)] [(.ref rb9_b2)])) _
      refine XS.iconst X27.here hx rfl (hb hby at_69) ?_
      show Steps p.tables e below (T27.setTop (mkF m 70 #[.val (.int p0), .val (.int p1), .val (.int p2), .val (.int (0 : Int32)), .val (.ref b3), .val (.ref b7)] [(.int (0 : Int32)), (.ref rb9_b2)])) _
      refine XS.iloadN X27.here hx rfl (hb hby at_70) rfl ?_
      show Steps p.tables e below (T27.setTop (mkF m 71 #[.val (.int p0), .val (.int p1), .val (.int p2), .val (.int (0 : Int32)), .val (.ref b3), .val (.ref b7)] [(.int p2), (.int (0 : Int32)), (.ref rb9_b2)])) _
      refine st28 _ ?_
      show Steps p.tables e below (T28.setTop (mkF m 74 #[.val (.int p0), .val (.int p1), .val (.int p2), .val (.int (0 : Int32)), .val (.ref b3), .val (.ref b7)] [])) _
      refine XS.aload X28.here hx rfl (hb hby at_74) rfl rfl ?_
      show Steps p.tables e below (T28.setTop (mkF m 76 #[.val (.int p0), .val (.int p1), .val (.int p2), .val (.int (0 : Int32)), .val (.ref b3), .val (.ref b7)] [(.ref b7)])) _
      refine st29 _ ?_
      show Steps p.tables e below (T29.setTop (mkF m 79 #[.val (.int p0), .val (.int p1), .val (.int p2), .val (.int (0 : Int32)), .val (.ref b3), .val (.ref b7)] [(.ref rb9_b8)])) _
      refine XS.iconst X29.here hx rfl (hb hby at_79) ?_
      show Steps p.tables e below (T29.setTop (mkF m 80 #[.val (.int p0), .val (.int p1), .val (.int p2), .val (.int (0 : Int32)), .val (.ref b3), .val (.ref b7)] [(.int (1 : Int32)), (.ref rb9_b8)])) _
      refine XS.iloadN X29.here hx rfl (hb hby at_80) rfl ?_
      show Steps p.tables e below (T29.setTop (mkF m 81 #[.val (.int p0), .val (.int p1), .val (.int p2), .val (.int (0 : Int32)), .val (.ref b3), .val (.ref b7)] [(.int p2), (.int (1 : Int32)), (.ref rb9_b8)])) _
      refine st30 _ ?_
      show Steps p.tables e below (T30.setTop (mkF m 84 #[.val (.int p0), .val (.int p1), .val (.int p2), .val (.int (0 : Int32)), .val (.ref b3), .val (.ref b7)] [])) _
      refine XS.aload X30.here hx rfl (hb hby at_84) rfl rfl ?_
      show Steps p.tables e below (T30.setTop (mkF m 86 #[.val (.int p0), .val (.int p1), .val (.int p2), .val (.int (0 : Int32)), .val (.ref b3), .val (.ref b7)] [(.ref b7)])) _
      refine st31 _ ?_
      show Steps p.tables e below (T31.setTop (mkF m 89 #[.val (.int p0), .val (.int p1), .val (.int p2), .val (.int (0 : Int32)), .val (.ref b3), .val (.ref b7)] [(.ref rb9_b14)])) _
      refine XS.iconst X31.here hx rfl (hb hby at_89) ?_
      show Steps p.tables e below (T31.setTop (mkF m 90 #[.val (.int p0), .val (.int p1), .val (.int p2), .val (.int (0 : Int32)), .val (.ref b3), .val (.ref b7)] [(.int (2 : Int32)), (.ref rb9_b14)])) _
      refine XS.iloadN X31.here hx rfl (hb hby at_90) rfl ?_
      show Steps p.tables e below (T31.setTop (mkF m 91 #[.val (.int p0), .val (.int p1), .val (.int p2), .val (.int (0 : Int32)), .val (.ref b3), .val (.ref b7)] [(.int p2), (.int (2 : Int32)), (.ref rb9_b14)])) _
      refine st32 _ ?_
      show Steps p.tables e below (T32.setTop (mkF m 94 #[.val (.int p0), .val (.int p1), .val (.int p2), .val (.int (0 : Int32)), .val (.ref b3), .val (.ref b7)] [])) _
      refine XS.aload X32.here hx rfl (hb hby at_94) rfl rfl ?_
      show Steps p.tables e below (T32.setTop (mkF m 96 #[.val (.int p0), .val (.int p1), .val (.int p2), .val (.int (0 : Int32)), .val (.ref b3), .val (.ref b7)] [(.ref b7)])) _
      refine st33 _ ?_
      show Steps p.tables e below (T33.setTop (mkF m 99 #[.val (.int p0), .val (.int p1), .val (.int p2), .val (.int (0 : Int32)), .val (.ref b3), .val (.ref b7)] [(.ref rb9_b20)])) _
      refine XS.iconst X33.here hx rfl (hb hby at_99) ?_
      show Steps p.tables e below (T33.setTop (mkF m 100 #[.val (.int p0), .val (.int p1), .val (.int p2), .val (.int (0 : Int32)), .val (.ref b3), .val (.ref b7)] [(.int (3 : Int32)), (.ref rb9_b20)])) _
      refine XS.iloadN X33.here hx rfl (hb hby at_100) rfl ?_
      show Steps p.tables e below (T33.setTop (mkF m 101 #[.val (.int p0), .val (.int p1), .val (.int p2), .val (.int (0 : Int32)), .val (.ref b3), .val (.ref b7)] [(.int p2), (.int (3 : Int32)), (.ref rb9_b20)])) _
      refine st34 _ ?_
      show Steps p.tables e below (T34.setTop (mkF m 104 #[.val (.int p0), .val (.int p1), .val (.int p2), .val (.int (0 : Int32)), .val (.ref b3), .val (.ref b7)] [])) _
      refine XS.aload X34.here hx rfl (hb hby at_104) rfl rfl ?_
      show Steps p.tables e below (T34.setTop (mkF m 106 #[.val (.int p0), .val (.int p1), .val (.int p2), .val (.int (0 : Int32)), .val (.ref b3), .val (.ref b7)] [(.ref b3)])) _
      refine XS.aload X34.here hx rfl (hb hby at_106) rfl rfl ?_
      show Steps p.tables e below (T34.setTop (mkF m 108 #[.val (.int p0), .val (.int p1), .val (.int p2), .val (.int (0 : Int32)), .val (.ref b3), .val (.ref b7)] [(.ref b7), (.ref b3)])) _
      refine st35.trans ?_
      show Steps p.tables e below (T35.setTop (mkF m 111 #[.val (.int p0), .val (.int p1), .val (.int p2), .val (.int (0 : Int32)), .val (.ref b3), .val (.ref b7)] [])) _
      refine XS.aload X35.here hx rfl (hb hby at_111) rfl rfl ?_
      show Steps p.tables e below (T35.setTop (mkF m 113 #[.val (.int p0), .val (.int p1), .val (.int p2), .val (.int (0 : Int32)), .val (.ref b3), .val (.ref b7)] [(.ref b3)])) _
      refine st37 _ ?_
      show Steps p.tables e below (T37.setTop (mkF m 116 #[.val (.int p0), .val (.int p1), .val (.int p2), .val (.int (0 : Int32)), .val (.ref b3), .val (.ref b7)] [(.ref rb5_b2)])) _
      refine XS.iloadN X37.here hx rfl (hb hby at_116) rfl ?_
      show Steps p.tables e below (T37.setTop (mkF m 117 #[.val (.int p0), .val (.int p1), .val (.int p2), .val (.int (0 : Int32)), .val (.ref b3), .val (.ref b7)] [(.int (0 : Int32)), (.ref rb5_b2)])) _
      refine XS.iconst X37.here hx rfl (hb hby at_117) ?_
      show Steps p.tables e below (T37.setTop (mkF m 118 #[.val (.int p0), .val (.int p1), .val (.int p2), .val (.int (0 : Int32)), .val (.ref b3), .val (.ref b7)] [(.int (0 : Int32)), (.int (0 : Int32)), (.ref rb5_b2)])) _
      refine XS.iloadN X37.here hx rfl (hb hby at_118) rfl ?_
      show Steps p.tables e below (T37.setTop (mkF m 119 #[.val (.int p0), .val (.int p1), .val (.int p2), .val (.int (0 : Int32)), .val (.ref b3), .val (.ref b7)] [(.int p1), (.int (0 : Int32)), (.int (0 : Int32)), (.ref rb5_b2)])) _
      refine XS.iloadN X37.here hx rfl (hb hby at_119) rfl ?_
      show Steps p.tables e below (T37.setTop (mkF m 120 #[.val (.int p0), .val (.int p1), .val (.int p2), .val (.int (0 : Int32)), .val (.ref b3), .val (.ref b7)] [(.int p2), (.int p1), (.int (0 : Int32)), (.int (0 : Int32)), (.ref rb5_b2)])) _
      refine st38 _ ?_
      show Steps p.tables e below (T38.setTop (mkF m 123 #[.val (.int p0), .val (.int p1), .val (.int p2), .val (.int (0 : Int32)), .val (.ref b3), .val (.ref b7)] [(.int (1 : Int32))])) _
      refine XS.ifNo X38.here hx rfl (hb hby at_123) rfl (Jvm.Free.XT.i0_eq_f (by decide)) ?_
      show Steps p.tables e below (T38.setTop (mkF m 126 #[.val (.int p0), .val (.int p1), .val (.int p2), .val (.int (0 : Int32)), .val (.ref b3), .val (.ref b7)] [])) _
      refine XS.aload X38.here hx rfl (hb hby at_126) rfl rfl ?_
      show Steps p.tables e below (T38.setTop (mkF m 128 #[.val (.int p0), .val (.int p1), .val (.int p2), .val (.int (0 : Int32)), .val (.ref b3), .val (.ref b7)] [(.ref b3)])) _
      refine st39 _ ?_
      show Steps p.tables e below (T39.setTop (mkF m 131 #[.val (.int p0), .val (.int p1), .val (.int p2), .val (.int (0 : Int32)), .val (.ref b3), .val (.ref b7)] [(.ref rb5_b8)])) _
      refine XS.iloadN X39.here hx rfl (hb hby at_131) rfl ?_
      show Steps p.tables e below (T39.setTop (mkF m 132 #[.val (.int p0), .val (.int p1), .val (.int p2), .val (.int (0 : Int32)), .val (.ref b3), .val (.ref b7)] [(.int (0 : Int32)), (.ref rb5_b8)])) _
      refine XS.iconst X39.here hx rfl (hb hby at_132) ?_
      show Steps p.tables e below (T39.setTop (mkF m 133 #[.val (.int p0), .val (.int p1), .val (.int p2), .val (.int (0 : Int32)), .val (.ref b3), .val (.ref b7)] [(.int (1 : Int32)), (.int (0 : Int32)), (.ref rb5_b8)])) _
      refine XS.iloadN X39.here hx rfl (hb hby at_133) rfl ?_
      show Steps p.tables e below (T39.setTop (mkF m 134 #[.val (.int p0), .val (.int p1), .val (.int p2), .val (.int (0 : Int32)), .val (.ref b3), .val (.ref b7)] [(.int p1), (.int (1 : Int32)), (.int (0 : Int32)), (.ref rb5_b8)])) _
      refine XS.iloadN X39.here hx rfl (hb hby at_134) rfl ?_
      show Steps p.tables e below (T39.setTop (mkF m 135 #[.val (.int p0), .val (.int p1), .val (.int p2), .val (.int (0 : Int32)), .val (.ref b3), .val (.ref b7)] [(.int p2), (.int p1), (.int (1 : Int32)), (.int (0 : Int32)), (.ref rb5_b8)])) _
      refine st40 _ ?_
      show Steps p.tables e below (T40.setTop (mkF m 138 #[.val (.int p0), .val (.int p1), .val (.int p2), .val (.int (0 : Int32)), .val (.ref b3), .val (.ref b7)] [(.int (1 : Int32))])) _
      refine XS.ifNo X40.here hx rfl (hb hby at_138) rfl (Jvm.Free.XT.i0_eq_f (by decide)) ?_
      show Steps p.tables e below (T40.setTop (mkF m 141 #[.val (.int p0), .val (.int p1), .val (.int p2), .val (.int (0 : Int32)), .val (.ref b3), .val (.ref b7)] [])) _
      refine XS.aload X40.here hx rfl (hb hby at_141) rfl rfl ?_
      show Steps p.tables e below (T40.setTop (mkF m 143 #[.val (.int p0), .val (.int p1), .val (.int p2), .val (.int (0 : Int32)), .val (.ref b3), .val (.ref b7)] [(.ref b3)])) _
      refine st41 _ ?_
      show Steps p.tables e below (T41.setTop (mkF m 146 #[.val (.int p0), .val (.int p1), .val (.int p2), .val (.int (0 : Int32)), .val (.ref b3), .val (.ref b7)] [(.ref rb5_b14)])) _
      refine XS.iloadN X41.here hx rfl (hb hby at_146) rfl ?_
      show Steps p.tables e below (T41.setTop (mkF m 147 #[.val (.int p0), .val (.int p1), .val (.int p2), .val (.int (0 : Int32)), .val (.ref b3), .val (.ref b7)] [(.int (0 : Int32)), (.ref rb5_b14)])) _
      refine XS.iconst X41.here hx rfl (hb hby at_147) ?_
      show Steps p.tables e below (T41.setTop (mkF m 148 #[.val (.int p0), .val (.int p1), .val (.int p2), .val (.int (0 : Int32)), .val (.ref b3), .val (.ref b7)] [(.int (2 : Int32)), (.int (0 : Int32)), (.ref rb5_b14)])) _
      refine XS.iloadN X41.here hx rfl (hb hby at_148) rfl ?_
      show Steps p.tables e below (T41.setTop (mkF m 149 #[.val (.int p0), .val (.int p1), .val (.int p2), .val (.int (0 : Int32)), .val (.ref b3), .val (.ref b7)] [(.int p1), (.int (2 : Int32)), (.int (0 : Int32)), (.ref rb5_b14)])) _
      refine XS.iloadN X41.here hx rfl (hb hby at_149) rfl ?_
      show Steps p.tables e below (T41.setTop (mkF m 150 #[.val (.int p0), .val (.int p1), .val (.int p2), .val (.int (0 : Int32)), .val (.ref b3), .val (.ref b7)] [(.int p2), (.int p1), (.int (2 : Int32)), (.int (0 : Int32)), (.ref rb5_b14)])) _
      refine st42 _ ?_
      show Steps p.tables e below (T42.setTop (mkF m 153 #[.val (.int p0), .val (.int p1), .val (.int p2), .val (.int (0 : Int32)), .val (.ref b3), .val (.ref b7)] [(.int (1 : Int32))])) _
      refine XS.ifNo X42.here hx rfl (hb hby at_153) rfl (Jvm.Free.XT.i0_eq_f (by decide)) ?_
      show Steps p.tables e below (T42.setTop (mkF m 156 #[.val (.int p0), .val (.int p1), .val (.int p2), .val (.int (0 : Int32)), .val (.ref b3), .val (.ref b7)] [])) _
      refine XS.aload X42.here hx rfl (hb hby at_156) rfl rfl ?_
      show Steps p.tables e below (T42.setTop (mkF m 158 #[.val (.int p0), .val (.int p1), .val (.int p2), .val (.int (0 : Int32)), .val (.ref b3), .val (.ref b7)] [(.ref b3)])) _
      refine st43 _ ?_
      show Steps p.tables e below (T43.setTop (mkF m 161 #[.val (.int p0), .val (.int p1), .val (.int p2), .val (.int (0 : Int32)), .val (.ref b3), .val (.ref b7)] [(.ref rb5_b20)])) _
      refine XS.iloadN X43.here hx rfl (hb hby at_161) rfl ?_
      show Steps p.tables e below (T43.setTop (mkF m 162 #[.val (.int p0), .val (.int p1), .val (.int p2), .val (.int (0 : Int32)), .val (.ref b3), .val (.ref b7)] [(.int (0 : Int32)), (.ref rb5_b20)])) _
      refine XS.iconst X43.here hx rfl (hb hby at_162) ?_
      show Steps p.tables e below (T43.setTop (mkF m 163 #[.val (.int p0), .val (.int p1), .val (.int p2), .val (.int (0 : Int32)), .val (.ref b3), .val (.ref b7)] [(.int (3 : Int32)), (.int (0 : Int32)), (.ref rb5_b20)])) _
      refine XS.iloadN X43.here hx rfl (hb hby at_163) rfl ?_
      show Steps p.tables e below (T43.setTop (mkF m 164 #[.val (.int p0), .val (.int p1), .val (.int p2), .val (.int (0 : Int32)), .val (.ref b3), .val (.ref b7)] [(.int p1), (.int (3 : Int32)), (.int (0 : Int32)), (.ref rb5_b20)])) _
      refine XS.iloadN X43.here hx rfl (hb hby at_164) rfl ?_
      show Steps p.tables e below (T43.setTop (mkF m 165 #[.val (.int p0), .val (.int p1), .val (.int p2), .val (.int (0 : Int32)), .val (.ref b3), .val (.ref b7)] [(.int p2), (.int p1), (.int (3 : Int32)), (.int (0 : Int32)), (.ref rb5_b20)])) _
      refine st44 _ ?_
      show Steps p.tables e below (T44.setTop (mkF m 168 #[.val (.int p0), .val (.int p1), .val (.int p2), .val (.int (0 : Int32)), .val (.ref b3), .val (.ref b7)] [(.int (1 : Int32))])) _
      refine XS.ifNo X44.here hx rfl (hb hby at_168) rfl (Jvm.Free.XT.i0_eq_f (by decide)) ?_
      show Steps p.tables e below (T44.setTop (mkF m 171 #[.val (.int p0), .val (.int p1), .val (.int p2), .val (.int (0 : Int32)), .val (.ref b3), .val (.ref b7)] [])) _
      refine XS.aload X44.here hx rfl (hb hby at_171) rfl rfl ?_
      show Steps p.tables e below (T44.setTop (mkF m 173 #[.val (.int p0), .val (.int p1), .val (.int p2), .val (.int (0 : Int32)), .val (.ref b3), .val (.ref b7)] [(.ref b7)])) _
      refine st45 _ ?_
      show Steps p.tables e below (T45.setTop (mkF m 176 #[.val (.int p0), .val (.int p1), .val (.int p2), .val (.int (0 : Int32)), .val (.ref b3), .val (.ref b7)] [(.ref rb9_b2)])) _
      refine XS.iloadN X45.here hx rfl (hb hby at_176) rfl ?_
      show Steps p.tables e below (T45.setTop (mkF m 177 #[.val (.int p0), .val (.int p1), .val (.int p2), .val (.int (0 : Int32)), .val (.ref b3), .val (.ref b7)] [(.int (0 : Int32)), (.ref rb9_b2)])) _
      refine XS.iconst X45.here hx rfl (hb hby at_177) ?_
      show Steps p.tables e below (T45.setTop (mkF m 178 #[.val (.int p0), .val (.int p1), .val (.int p2), .val (.int (0 : Int32)), .val (.ref b3), .val (.ref b7)] [(.int (0 : Int32)), (.int (0 : Int32)), (.ref rb9_b2)])) _
      refine XS.iloadN X45.here hx rfl (hb hby at_178) rfl ?_
      show Steps p.tables e below (T45.setTop (mkF m 179 #[.val (.int p0), .val (.int p1), .val (.int p2), .val (.int (0 : Int32)), .val (.ref b3), .val (.ref b7)] [(.int p2), (.int (0 : Int32)), (.int (0 : Int32)), (.ref rb9_b2)])) _
      refine st46 _ ?_
      show Steps p.tables e below (T46.setTop (mkF m 182 #[.val (.int p0), .val (.int p1), .val (.int p2), .val (.int (0 : Int32)), .val (.ref b3), .val (.ref b7)] [(.int (1 : Int32))])) _
      refine XS.ifNo X46.here hx rfl (hb hby at_182) rfl (Jvm.Free.XT.i0_eq_f (by decide)) ?_
      show Steps p.tables e below (T46.setTop (mkF m 185 #[.val (.int p0), .val (.int p1), .val (.int p2), .val (.int (0 : Int32)), .val (.ref b3), .val (.ref b7)] [])) _
      refine XS.aload X46.here hx rfl (hb hby at_185) rfl rfl ?_
      show Steps p.tables e below (T46.setTop (mkF m 187 #[.val (.int p0), .val (.int p1), .val (.int p2), .val (.int (0 : Int32)), .val (.ref b3), .val (.ref b7)] [(.ref b7)])) _
      refine st47 _ ?_
      show Steps p.tables e below (T47.setTop (mkF m 190 #[.val (.int p0), .val (.int p1), .val (.int p2), .val (.int (0 : Int32)), .val (.ref b3), .val (.ref b7)] [(.ref rb9_b8)])) _
      refine XS.iloadN X47.here hx rfl (hb hby at_190) rfl ?_
      show Steps p.tables e below (T47.setTop (mkF m 191 #[.val (.int p0), .val (.int p1), .val (.int p2), .val (.int (0 : Int32)), .val (.ref b3), .val (.ref b7)] [(.int (0 : Int32)), (.ref rb9_b8)])) _
      refine XS.iconst X47.here hx rfl (hb hby at_191) ?_
      show Steps p.tables e below (T47.setTop (mkF m 192 #[.val (.int p0), .val (.int p1), .val (.int p2), .val (.int (0 : Int32)), .val (.ref b3), .val (.ref b7)] [(.int (1 : Int32)), (.int (0 : Int32)), (.ref rb9_b8)])) _
      refine XS.iloadN X47.here hx rfl (hb hby at_192) rfl ?_
      show Steps p.tables e below (T47.setTop (mkF m 193 #[.val (.int p0), .val (.int p1), .val (.int p2), .val (.int (0 : Int32)), .val (.ref b3), .val (.ref b7)] [(.int p2), (.int (1 : Int32)), (.int (0 : Int32)), (.ref rb9_b8)])) _
      refine st48 _ ?_
      show Steps p.tables e below (T48.setTop (mkF m 196 #[.val (.int p0), .val (.int p1), .val (.int p2), .val (.int (0 : Int32)), .val (.ref b3), .val (.ref b7)] [(.int (1 : Int32))])) _
      refine XS.ifNo X48.here hx rfl (hb hby at_196) rfl (Jvm.Free.XT.i0_eq_f (by decide)) ?_
      show Steps p.tables e below (T48.setTop (mkF m 199 #[.val (.int p0), .val (.int p1), .val (.int p2), .val (.int (0 : Int32)), .val (.ref b3), .val (.ref b7)] [])) _
      refine XS.aload X48.here hx rfl (hb hby at_199) rfl rfl ?_
      show Steps p.tables e below (T48.setTop (mkF m 201 #[.val (.int p0), .val (.int p1), .val (.int p2), .val (.int (0 : Int32)), .val (.ref b3), .val (.ref b7)] [(.ref b7)])) _
      refine st49 _ ?_
      show Steps p.tables e below (T49.setTop (mkF m 204 #[.val (.int p0), .val (.int p1), .val (.int p2), .val (.int (0 : Int32)), .val (.ref b3), .val (.ref b7)] [(.ref rb9_b14)])) _
      refine XS.iloadN X49.here hx rfl (hb hby at_204) rfl ?_
      show Steps p.tables e below (T49.setTop (mkF m 205 #[.val (.int p0), .val (.int p1), .val (.int p2), .val (.int (0 : Int32)), .val (.ref b3), .val (.ref b7)] [(.int (0 : Int32)), (.ref rb9_b14)])) _
      refine XS.iconst X49.here hx rfl (hb hby at_205) ?_
      show Steps p.tables e below (T49.setTop (mkF m 206 #[.val (.int p0), .val (.int p1), .val (.int p2), .val (.int (0 : Int32)), .val (.ref b3), .val (.ref b7)] [(.int (2 : Int32)), (.int (0 : Int32)), (.ref rb9_b14)])) _
      refine XS.iloadN X49.here hx rfl (hb hby at_206) rfl ?_
      show Steps p.tables e below (T49.setTop (mkF m 207 #[.val (.int p0), .val (.int p1), .val (.int p2), .val (.int (0 : Int32)), .val (.ref b3), .val (.ref b7)] [(.int p2), (.int (2 : Int32)), (.int (0 : Int32)), (.ref rb9_b14)])) _
      refine st50 _ ?_
      show Steps p.tables e below (T50.setTop (mkF m 210 #[.val (.int p0), .val (.int p1), .val (.int p2), .val (.int (0 : Int32)), .val (.ref b3), .val (.ref b7)] [(.int (1 : Int32))])) _
      refine XS.ifNo X50.here hx rfl (hb hby at_210) rfl (Jvm.Free.XT.i0_eq_f (by decide)) ?_
      show Steps p.tables e below (T50.setTop (mkF m 213 #[.val (.int p0), .val (.int p1), .val (.int p2), .val (.int (0 : Int32)), .val (.ref b3), .val (.ref b7)] [])) _
      refine XS.aload X50.here hx rfl (hb hby at_213) rfl rfl ?_
      show Steps p.tables e below (T50.setTop (mkF m 215 #[.val (.int p0), .val (.int p1), .val (.int p2), .val (.int (0 : Int32)), .val (.ref b3), .val (.ref b7)] [(.ref b7)])) _
      refine st51 _ ?_
      show Steps p.tables e below (T51.setTop (mkF m 218 #[.val (.int p0), .val (.int p1), .val (.int p2), .val (.int (0 : Int32)), .val (.ref b3), .val (.ref b7)] [(.ref rb9_b20)])) _
      refine XS.iloadN X51.here hx rfl (hb hby at_218) rfl ?_
      show Steps p.tables e below (T51.setTop (mkF m 219 #[.val (.int p0), .val (.int p1), .val (.int p2), .val (.int (0 : Int32)), .val (.ref b3), .val (.ref b7)] [(.int (0 : Int32)), (.ref rb9_b20)])) _
      refine XS.iconst X51.here hx rfl (hb hby at_219) ?_
      show Steps p.tables e below (T51.setTop (mkF m 220 #[.val (.int p0), .val (.int p1), .val (.int p2), .val (.int (0 : Int32)), .val (.ref b3), .val (.ref b7)] [(.int (3 : Int32)), (.int (0 : Int32)), (.ref rb9_b20)])) _
      refine XS.iloadN X51.here hx rfl (hb hby at_220) rfl ?_
      show Steps p.tables e below (T51.setTop (mkF m 221 #[.val (.int p0), .val (.int p1), .val (.int p2), .val (.int (0 : Int32)), .val (.ref b3), .val (.ref b7)] [(.int p2), (.int (3 : Int32)), (.int (0 : Int32)), (.ref rb9_b20)])) _
      refine st52 _ ?_
      show Steps p.tables e below (T52.setTop (mkF m 224 #[.val (.int p0), .val (.int p1), .val (.int p2), .val (.int (0 : Int32)), .val (.ref b3), .val (.ref b7)] [(.int (1 : Int32))])) _
      refine XS.ifNo X52.here hx rfl (hb hby at_224) rfl (Jvm.Free.XT.i0_eq_f (by decide)) ?_
      show Steps p.tables e below (T52.setTop (mkF m 227 #[.val (.int p0), .val (.int p1), .val (.int p2), .val (.int (0 : Int32)), .val (.ref b3), .val (.ref b7)] [])) _
      refine XS.iconst X52.here hx rfl (hb hby at_227) ?_
      show Steps p.tables e below (T52.setTop (mkF m 228 #[.val (.int p0), .val (.int p1), .val (.int p2), .val (.int (0 : Int32)), .val (.ref b3), .val (.ref b7)] [(.int (1 : Int32))])) _
      refine XS.goto X52.here hx rfl (pc0 := 228) (pc' := 232) rfl (hb hby at_228) (by decide) (by decide) ?_
      exact k
    obtain ⟨fs, hr, hrun, hended, hW, hsame⟩ := X52.leave (v := some (.int (1 : Int32))) (fun h => by rw [Bd.returns] at h; cases h)
    refine ⟨_, _, c53 _ ?_, hrun, hended, _, _, rfl, ?_, ⟨_, rfl⟩, hW, hsame.mono (by decide) (by decide)⟩
    · show Steps p.tables e below (T52.setTop (mkF m 232 #[.val (.int p0), .val (.int p1), .val (.int p2), .val (.int (0 : Int32)), .val (.ref b3), .val (.ref b7)] [(.int (1 : Int32))])) _
      exact retOut X52 hx Bd.returns rfl (Or.inl ⟨rfl, by simp, _, rfl⟩) (hb hby at_232) hr
    · show Q0 n0 _ T52.heap _
      rw [e52]
      exact ⟨rfl, by first | assumption | exact N0⟩
  · obtain rfl := q2
    obtain ⟨c31_c10_z4, hc31_c10_z4⟩ : ∃ z : Int32, (16 : Int32) * (0 : Int32) = z := ⟨_, rfl⟩
    obtain ⟨c31_c10_z5, hc31_c10_z5⟩ : ∃ z : Int32, p1 + c31_c10_z4 = z := ⟨_, rfl⟩
    obtain ⟨c31_c10_z7, hc31_c10_z7⟩ : ∃ z : Int32, c31_c10_z5 + (0 : Int32) = z := ⟨_, rfl⟩
    obtain ⟨c31_c10_z8, hc31_c10_z8⟩ : ∃ z : UInt64, FP.i2d c31_c10_z7 = z := ⟨_, rfl⟩
    obtain ⟨c41_c10_z4, hc41_c10_z4⟩ : ∃ z : Int32, (16 : Int32) * (1 : Int32) = z := ⟨_, rfl⟩
    obtain ⟨c41_c10_z5, hc41_c10_z5⟩ : ∃ z : Int32, p1 + c41_c10_z4 = z := ⟨_, rfl⟩
    obtain ⟨c41_c10_z7, hc41_c10_z7⟩ : ∃ z : Int32, c41_c10_z5 + (0 : Int32) = z := ⟨_, rfl⟩
    obtain ⟨c41_c10_z8, hc41_c10_z8⟩ : ∃ z : UInt64, FP.i2d c41_c10_z7 = z := ⟨_, rfl⟩
    obtain ⟨c51_c10_z4, hc51_c10_z4⟩ : ∃ z : Int32, (16 : Int32) * (2 : Int32) = z := ⟨_, rfl⟩
    obtain ⟨c51_c10_z5, hc51_c10_z5⟩ : ∃ z : Int32, p1 + c51_c10_z4 = z := ⟨_, rfl⟩
    obtain ⟨c51_c10_z7, hc51_c10_z7⟩ : ∃ z : Int32, c51_c10_z5 + (0 : Int32) = z := ⟨_, rfl⟩
    obtain ⟨c51_c10_z8, hc51_c10_z8⟩ : ∃ z : UInt64, FP.i2d c51_c10_z7 = z := ⟨_, rfl⟩
    obtain ⟨c61_c10_z4, hc61_c10_z4⟩ : ∃ z : Int32, (16 : Int32) * (3 : Int32) = z := ⟨_, rfl⟩
    obtain ⟨c61_c10_z5, hc61_c10_z5⟩ : ∃ z : Int32, p1 + c61_c10_z4 = z := ⟨_, rfl⟩
    obtain ⟨c61_c10_z7, hc61_c10_z7⟩ : ∃ z : Int32, c61_c10_z5 + (0 : Int32) = z := ⟨_, rfl⟩
    obtain ⟨c61_c10_z8, hc61_c10_z8⟩ : ∃ z : UInt64, FP.i2d c61_c10_z7 = z := ⟨_, rfl⟩
    obtain ⟨c71_c10_z4, hc71_c10_z4⟩ : ∃ z : Int32, (16 : Int32) * (0 : Int32) = z := ⟨_, rfl⟩
    obtain ⟨c71_c10_z5, hc71_c10_z5⟩ : ∃ z : Int32, p2 + c71_c10_z4 = z := ⟨_, rfl⟩
    obtain ⟨c71_c10_z7, hc71_c10_z7⟩ : ∃ z : Int32, c71_c10_z5 + (0 : Int32) = z := ⟨_, rfl⟩
    obtain ⟨c71_c10_z8, hc71_c10_z8⟩ : ∃ z : UInt64, FP.i2d c71_c10_z7 = z := ⟨_, rfl⟩
    obtain ⟨c81_c10_z4, hc81_c10_z4⟩ : ∃ z : Int32, (16 : Int32) * (1 : Int32) = z := ⟨_, rfl⟩
    obtain ⟨c81_c10_z5, hc81_c10_z5⟩ : ∃ z : Int32, p2 + c81_c10_z4 = z := ⟨_, rfl⟩
    obtain ⟨c81_c10_z7, hc81_c10_z7⟩ : ∃ z : Int32, c81_c10_z5 + (0 : Int32) = z := ⟨_, rfl⟩
    obtain ⟨c81_c10_z8, hc81_c10_z8⟩ : ∃ z : UInt64, FP.i2d c81_c10_z7 = z := ⟨_, rfl⟩
    obtain ⟨c91_c10_z4, hc91_c10_z4⟩ : ∃ z : Int32, (16 : Int32) * (2 : Int32) = z := ⟨_, rfl⟩
    obtain ⟨c91_c10_z5, hc91_c10_z5⟩ : ∃ z : Int32, p2 + c91_c10_z4 = z := ⟨_, rfl⟩
    obtain ⟨c91_c10_z7, hc91_c10_z7⟩ : ∃ z : Int32, c91_c10_z5 + (0 : Int32) = z := ⟨_, rfl⟩
    obtain ⟨c91_c10_z8, hc91_c10_z8⟩ : ∃ z : UInt64, FP.i2d c91_c10_z7 = z := ⟨_, rfl⟩
    obtain ⟨c101_c10_z4, hc101_c10_z4⟩ : ∃ z : Int32, (16 : Int32) * (3 : Int32) = z := ⟨_, rfl⟩
    obtain ⟨c101_c10_z5, hc101_c10_z5⟩ : ∃ z : Int32, p2 + c101_c10_z4 = z := ⟨_, rfl⟩
    obtain ⟨c101_c10_z7, hc101_c10_z7⟩ : ∃ z : Int32, c101_c10_z5 + (0 : Int32) = z := ⟨_, rfl⟩
    obtain ⟨c101_c10_z8, hc101_c10_z8⟩ : ∃ z : UInt64, FP.i2d c101_c10_z7 = z := ⟨_, rfl⟩
    obtain ⟨c108_z24, hc108_z24⟩ : ∃ z : UInt64, FP.dadd c31_c10_z8 c71_c10_z8 = z := ⟨_, rfl⟩
    obtain ⟨c108_z39, hc108_z39⟩ : ∃ z : UInt64, FP.dadd c41_c10_z8 c81_c10_z8 = z := ⟨_, rfl⟩
    obtain ⟨c108_z54, hc108_z54⟩ : ∃ z : UInt64, FP.dadd c51_c10_z8 c91_c10_z8 = z := ⟨_, rfl⟩
    obtain ⟨c108_z69, hc108_z69⟩ : ∃ z : UInt64, FP.dadd c61_c10_z8 c101_c10_z8 = z := ⟨_, rfl⟩
    obtain ⟨c120_c17_z4, hc120_c17_z4⟩ : ∃ z : Int32, (16 : Int32) * (0 : Int32) = z := ⟨_, rfl⟩
    obtain ⟨c120_c17_z5, hc120_c17_z5⟩ : ∃ z : Int32, p1 + c120_c17_z4 = z := ⟨_, rfl⟩
    obtain ⟨c120_c17_z7, hc120_c17_z7⟩ : ∃ z : Int32, c120_c17_z5 + (0 : Int32) = z := ⟨_, rfl⟩
    obtain ⟨c120_c17_z8, hc120_c17_z8⟩ : ∃ z : UInt64, FP.i2d c120_c17_z7 = z := ⟨_, rfl⟩
    obtain ⟨c120_c24_z4, hc120_c24_z4⟩ : ∃ z : Int32, (16 : Int32) * (0 : Int32) = z := ⟨_, rfl⟩
    obtain ⟨c120_c24_z5, hc120_c24_z5⟩ : ∃ z : Int32, p2 + c120_c24_z4 = z := ⟨_, rfl⟩
    obtain ⟨c120_c24_z7, hc120_c24_z7⟩ : ∃ z : Int32, c120_c24_z5 + (0 : Int32) = z := ⟨_, rfl⟩
    obtain ⟨c120_c24_z8, hc120_c24_z8⟩ : ∃ z : UInt64, FP.i2d c120_c24_z7 = z := ⟨_, rfl⟩
    obtain ⟨c120_z27, hc120_z27⟩ : ∃ z : UInt64, FP.dadd c120_c17_z8 c120_c24_z8 = z := ⟨_, rfl⟩
    obtain ⟨c120_z28, hc120_z28⟩ : ∃ z : Int32, cmpValue (FP.dcmp c108_z24 c120_z27) .l = z := ⟨_, rfl⟩
    obtain ⟨c135_c17_z4, hc135_c17_z4⟩ : ∃ z : Int32, (16 : Int32) * (1 : Int32) = z := ⟨_, rfl⟩
    obtain ⟨c135_c17_z5, hc135_c17_z5⟩ : ∃ z : Int32, p1 + c135_c17_z4 = z := ⟨_, rfl⟩
    obtain ⟨c135_c17_z7, hc135_c17_z7⟩ : ∃ z : Int32, c135_c17_z5 + (0 : Int32) = z := ⟨_, rfl⟩
    obtain ⟨c135_c17_z8, hc135_c17_z8⟩ : ∃ z : UInt64, FP.i2d c135_c17_z7 = z := ⟨_, rfl⟩
    obtain ⟨c135_c24_z4, hc135_c24_z4⟩ : ∃ z : Int32, (16 : Int32) * (1 : Int32) = z := ⟨_, rfl⟩
    obtain ⟨c135_c24_z5, hc135_c24_z5⟩ : ∃ z : Int32, p2 + c135_c24_z4 = z := ⟨_, rfl⟩
    obtain ⟨c135_c24_z7, hc135_c24_z7⟩ : ∃ z : Int32, c135_c24_z5 + (0 : Int32) = z := ⟨_, rfl⟩
    obtain ⟨c135_c24_z8, hc135_c24_z8⟩ : ∃ z : UInt64, FP.i2d c135_c24_z7 = z := ⟨_, rfl⟩
    obtain ⟨c135_z27, hc135_z27⟩ : ∃ z : UInt64, FP.dadd c135_c17_z8 c135_c24_z8 = z := ⟨_, rfl⟩
    obtain ⟨c135_z28, hc135_z28⟩ : ∃ z : Int32, cmpValue (FP.dcmp c108_z39 c135_z27) .l = z := ⟨_, rfl⟩
    obtain ⟨c150_c17_z4, hc150_c17_z4⟩ : ∃ z : Int32, (16 : Int32) * (2 : Int32) = z := ⟨_, rfl⟩
    obtain ⟨c150_c17_z5, hc150_c17_z5⟩ : ∃ z : Int32, p1 + c150_c17_z4 = z := ⟨_, rfl⟩
    obtain ⟨c150_c17_z7, hc150_c17_z7⟩ : ∃ z : Int32, c150_c17_z5 + (0 : Int32) = z := ⟨_, rfl⟩
    obtain ⟨c150_c17_z8, hc150_c17_z8⟩ : ∃ z : UInt64, FP.i2d c150_c17_z7 = z := ⟨_, rfl⟩
    obtain ⟨c150_c24_z4, hc150_c24_z4⟩ : ∃ z : Int32, (16 : Int32) * (2 : Int32) = z := ⟨_, rfl⟩
    obtain ⟨c150_c24_z5, hc150_c24_z5⟩ : ∃ z : Int32, p2 + c150_c24_z4 = z := ⟨_, rfl⟩
    obtain ⟨c150_c24_z7, hc150_c24_z7⟩ : ∃ z : Int32, c150_c24_z5 + (0 : Int32) = z := ⟨_, rfl⟩
    obtain ⟨c150_c24_z8, hc150_c24_z8⟩ : ∃ z : UInt64, FP.i2d c150_c24_z7 = z := ⟨_, rfl⟩
    obtain ⟨c150_z27, hc150_z27⟩ : ∃ z : UInt64, FP.dadd c150_c17_z8 c150_c24_z8 = z := ⟨_, rfl⟩
    obtain ⟨c150_z28, hc150_z28⟩ : ∃ z : Int32, cmpValue (FP.dcmp c108_z54 c150_z27) .l = z := ⟨_, rfl⟩
    obtain ⟨c165_c17_z4, hc165_c17_z4⟩ : ∃ z : Int32, (16 : Int32) * (3 : Int32) = z := ⟨_, rfl⟩
    obtain ⟨c165_c17_z5, hc165_c17_z5⟩ : ∃ z : Int32, p1 + c165_c17_z4 = z := ⟨_, rfl⟩
    obtain ⟨c165_c17_z7, hc165_c17_z7⟩ : ∃ z : Int32, c165_c17_z5 + (0 : Int32) = z := ⟨_, rfl⟩
    obtain ⟨c165_c17_z8, hc165_c17_z8⟩ : ∃ z : UInt64, FP.i2d c165_c17_z7 = z := ⟨_, rfl⟩
    obtain ⟨c165_c24_z4, hc165_c24_z4⟩ : ∃ z : Int32, (16 : Int32) * (3 : Int32) = z := ⟨_, rfl⟩
    obtain ⟨c165_c24_z5, hc165_c24_z5⟩ : ∃ z : Int32, p2 + c165_c24_z4 = z := ⟨_, rfl⟩
    obtain ⟨c165_c24_z7, hc165_c24_z7⟩ : ∃ z : Int32, c165_c24_z5 + (0 : Int32) = z := ⟨_, rfl⟩
    obtain ⟨c165_c24_z8, hc165_c24_z8⟩ : ∃ z : UInt64, FP.i2d c165_c24_z7 = z := ⟨_, rfl⟩
    obtain ⟨c165_z27, hc165_z27⟩ : ∃ z : UInt64, FP.dadd c165_c17_z8 c165_c24_z8 = z := ⟨_, rfl⟩
    obtain ⟨c165_z28, hc165_z28⟩ : ∃ z : Int32, cmpValue (FP.dcmp c108_z69 c165_z27) .l = z := ⟨_, rfl⟩
    obtain ⟨c179_c17_z4, hc179_c17_z4⟩ : ∃ z : Int32, (16 : Int32) * (0 : Int32) = z := ⟨_, rfl⟩
    obtain ⟨c179_c17_z5, hc179_c17_z5⟩ : ∃ z : Int32, p2 + c179_c17_z4 = z := ⟨_, rfl⟩
    obtain ⟨c179_c17_z7, hc179_c17_z7⟩ : ∃ z : Int32, c179_c17_z5 + (0 : Int32) = z := ⟨_, rfl⟩
    obtain ⟨c179_c17_z8, hc179_c17_z8⟩ : ∃ z : UInt64, FP.i2d c179_c17_z7 = z := ⟨_, rfl⟩
    obtain ⟨c179_z20, hc179_z20⟩ : ∃ z : Int32, cmpValue (FP.dcmp c71_c10_z8 c179_c17_z8) .l = z := ⟨_, rfl⟩
    obtain ⟨c193_c17_z4, hc193_c17_z4⟩ : ∃ z : Int32, (16 : Int32) * (1 : Int32) = z := ⟨_, rfl⟩
    obtain ⟨c193_c17_z5, hc193_c17_z5⟩ : ∃ z : Int32, p2 + c193_c17_z4 = z := ⟨_, rfl⟩
    obtain ⟨c193_c17_z7, hc193_c17_z7⟩ : ∃ z : Int32, c193_c17_z5 + (0 : Int32) = z := ⟨_, rfl⟩
    obtain ⟨c193_c17_z8, hc193_c17_z8⟩ : ∃ z : UInt64, FP.i2d c193_c17_z7 = z := ⟨_, rfl⟩
    obtain ⟨c193_z20, hc193_z20⟩ : ∃ z : Int32, cmpValue (FP.dcmp c81_c10_z8 c193_c17_z8) .l = z := ⟨_, rfl⟩
    obtain ⟨c207_c17_z4, hc207_c17_z4⟩ : ∃ z : Int32, (16 : Int32) * (2 : Int32) = z := ⟨_, rfl⟩
    obtain ⟨c207_c17_z5, hc207_c17_z5⟩ : ∃ z : Int32, p2 + c207_c17_z4 = z := ⟨_, rfl⟩
    obtain ⟨c207_c17_z7, hc207_c17_z7⟩ : ∃ z : Int32, c207_c17_z5 + (0 : Int32) = z := ⟨_, rfl⟩
    obtain ⟨c207_c17_z8, hc207_c17_z8⟩ : ∃ z : UInt64, FP.i2d c207_c17_z7 = z := ⟨_, rfl⟩
    obtain ⟨c207_z20, hc207_z20⟩ : ∃ z : Int32, cmpValue (FP.dcmp c91_c10_z8 c207_c17_z8) .l = z := ⟨_, rfl⟩
    obtain ⟨c221_c17_z4, hc221_c17_z4⟩ : ∃ z : Int32, (16 : Int32) * (3 : Int32) = z := ⟨_, rfl⟩
    obtain ⟨c221_c17_z5, hc221_c17_z5⟩ : ∃ z : Int32, p2 + c221_c17_z4 = z := ⟨_, rfl⟩
    obtain ⟨c221_c17_z7, hc221_c17_z7⟩ : ∃ z : Int32, c221_c17_z5 + (0 : Int32) = z := ⟨_, rfl⟩
    obtain ⟨c221_c17_z8, hc221_c17_z8⟩ : ∃ z : UInt64, FP.i2d c221_c17_z7 = z := ⟨_, rfl⟩
    obtain ⟨c221_z20, hc221_z20⟩ : ∃ z : Int32, cmpValue (FP.dcmp c101_c10_z8 c221_c17_z8) .l = z := ⟨_, rfl⟩
    obtain ⟨T54, h54, X54, e54, E54, A54, D54, -, st54⟩ := newO X0 hx hZ hown (hw _ (List.mem_of_getElem? (i := 0) rfl)) (hw _ (List.mem_of_getElem? (i := 1) rfl)) (hw _ (List.mem_of_getElem? (i := 2) rfl)) e0 (g := (mkF m 4 #[.val (.int p0), .val (.int p1), .val (.int p2), .val (.int (1 : Int32)), .unset, .unset] [])) rfl (hb hby at_4) (by decide) (by decide)
    obtain ⟨b54, g54⟩ : ∃ z, z = h0.size := ⟨_, rfl⟩
    rw [← g54] at A54 D54 st54
    have gn54 : n0 ≤ b54 := Nat.le_trans Z0 (Nat.le_of_eq g54.symm)
    have gz54 : h0.size ≤ b54 := Nat.le_trans ((Keep.refl h0 [])).1 (Nat.le_of_eq g54.symm)
    have K55 : Keep h0 h54 [] := (Keep.refl h0 []).ext E54
    have F54_direct : Fld Z h54 b54 "com/example/lumenstand/lumenstand/light/Interception" "direct" "[D" .null := D54 (Or.inr (hw _ (List.mem_of_getElem? (i := 11) rfl))) (ty := (.array .double)) (by decide)
    have F54_diffuse : Fld Z h54 b54 "com/example/lumenstand/lumenstand/light/Interception" "diffuse" "[D" .null := D54 (Or.inr (hw _ (List.mem_of_getElem? (i := 13) rfl))) (ty := (.array .double)) (by decide)
    have F54_potential : Fld Z h54 b54 "com/example/lumenstand/lumenstand/light/Interception" "potential" "[D" .null := D54 (Or.inr (hw _ (List.mem_of_getElem? (i := 15) rfl))) (ty := (.array .double)) (by decide)
    have F54_trunk : Fld Z h54 b54 "com/example/lumenstand/lumenstand/light/Interception" "trunk" "[D" .null := D54 (Or.inr (hw _ (List.mem_of_getElem? (i := 17) rfl))) (ty := (.array .double)) (by decide)
    obtain ⟨_, _, ⟨T56, L56, k56, n56⟩, -, X56, ⟨Lc56, hQ56, ql56, qy56, qz56⟩, st56⟩ := X54.specialBack hx (y := (⟨"com/example/lumenstand/lumenstand/light/Interception", "<init>", "(I)V"⟩ : MethodName)) rfl hown (mvT hZ (hw _ (List.mem_of_getElem? (i := 3) rfl))) (mvT hZ (hw _ (List.mem_of_getElem? (i := 4) rfl))) (mvT hZ (hw _ (List.mem_of_getElem? (i := 5) rfl))) (by decide) (backOf (W := 1) (rm1_1 l Z a0 hw [] b54 (.null) (.null) (.null) (.null)  h54 n0 (Nat.le_trans Z0 E54.1) A54 F54_direct gn54 F54_diffuse F54_potential F54_trunk) hZ (hw _ (List.mem_of_getElem? (i := 5) rfl)) (hw _ (List.mem_of_getElem? (i := 2) rfl)) (by decide) (by decide)) (g := (mkF m 9 #[.val (.int p0), .val (.int p1), .val (.int p2), .val (.int (1 : Int32)), .unset, .unset] [(.int (1 : Int32)), (.ref b54), (.ref b54)])) rfl (by rw [hml]; rfl) (Steps.refl _) (a := b54) (argsL := [(.int (1 : Int32))]) (rest := [(.ref b54)]) (lenOf pd_1 rfl) rfl (by show 2 * 0 + _ ≤ _; exact Nat.le_of_eq rfl) (hb hby at_9) (fun _ _ => ⟨rfl, e54, (by decide : 1 + 4 ≤ _), (by decide : 4 + 4 ≤ _)⟩)
    dsimp only [Pt.U, Pt.locs, Pt.cells, Pt.slots] at X56 ql56 qy56 qz56 st56 hQ56
    subst ql56 qy56 qz56
    obtain ⟨rb56_b2, rb56_b8, rb56_b14, rb56_b20, kk56_k2, kk56_k8, kk56_k14, kk56_k20, rfl, N56q, gz56_b2, gz56_b8, gz56_b14, gz56_b20, K56q, Q56_0, Q56_1, Q56_2, Q56_3, Q56_4, Q56_5, Q56_6, Q56_7, Q56_8, D56_0, D56_1, D56_2, D56_3, D56_4, D56_5⟩ := hQ56
    have N56 := Fr.app N0 N56q
    have gn56_b2 : n0 ≤ rb56_b2 := Nat.le_trans (Nat.le_trans Z0 E54.1) gz56_b2
    have gy56_b2 : h0.size ≤ rb56_b2 := Nat.le_trans (K55).1 gz56_b2
    have gn56_b8 : n0 ≤ rb56_b8 := Nat.le_trans (Nat.le_trans Z0 E54.1) gz56_b8
    have gy56_b8 : h0.size ≤ rb56_b8 := Nat.le_trans (K55).1 gz56_b8
    have gn56_b14 : n0 ≤ rb56_b14 := Nat.le_trans (Nat.le_trans Z0 E54.1) gz56_b14
    have gy56_b14 : h0.size ≤ rb56_b14 := Nat.le_trans (K55).1 gz56_b14
    have gn56_b20 : n0 ≤ rb56_b20 := Nat.le_trans (Nat.le_trans Z0 E54.1) gz56_b20
    have gy56_b20 : h0.size ≤ rb56_b20 := Nat.le_trans (K55).1 gz56_b20
    have K57 : Keep h0 T56.heap [] := Keep.trans K55 K56q (allS (Or.inr gz54) all0)
    obtain ⟨T58, h58, X58, e58, E58, A58, D58, -, st58⟩ := newO X56 hx hZ hown (hw _ (List.mem_of_getElem? (i := 0) rfl)) (hw _ (List.mem_of_getElem? (i := 1) rfl)) (hw _ (List.mem_of_getElem? (i := 2) rfl)) rfl (g := (mkF m 14 #[.val (.int p0), .val (.int p1), .val (.int p2), .val (.int (1 : Int32)), .val (.ref b54), .unset] [])) rfl (hb hby at_14) (by decide) (by decide)
    obtain ⟨b58, g58⟩ : ∃ z, z = T56.heap.size := ⟨_, rfl⟩
    rw [← g58] at A58 D58 st58
    have gn58 : n0 ≤ b58 := Nat.le_trans (Nat.le_trans (Nat.le_trans Z0 E54.1) K56q.1) (Nat.le_of_eq g58.symm)
    have gz58 : h0.size ≤ b58 := Nat.le_trans (K57).1 (Nat.le_of_eq g58.symm)
    have K59 : Keep h0 h58 [] := K57.ext E58
    have F58_direct : Fld Z h58 b58 "com/example/lumenstand/lumenstand/light/Interception" "direct" "[D" .null := D58 (Or.inr (hw _ (List.mem_of_getElem? (i := 11) rfl))) (ty := (.array .double)) (by decide)
    have F58_diffuse : Fld Z h58 b58 "com/example/lumenstand/lumenstand/light/Interception" "diffuse" "[D" .null := D58 (Or.inr (hw _ (List.mem_of_getElem? (i := 13) rfl))) (ty := (.array .double)) (by decide)
    have F58_potential : Fld Z h58 b58 "com/example/lumenstand/lumenstand/light/Interception" "potential" "[D" .null := D58 (Or.inr (hw _ (List.mem_of_getElem? (i := 15) rfl))) (ty := (.array .double)) (by decide)
    have F58_trunk : Fld Z h58 b58 "com/example/lumenstand/lumenstand/light/Interception" "trunk" "[D" .null := D58 (Or.inr (hw _ (List.mem_of_getElem? (i := 17) rfl))) (ty := (.array .double)) (by decide)
    obtain ⟨_, _, ⟨T60, L60, k60, n60⟩, -, X60, ⟨Lc60, hQ60, ql60, qy60, qz60⟩, st60⟩ := X58.specialBack hx (y := (⟨"com/example/lumenstand/lumenstand/light/Interception", "<init>", "(I)V"⟩ : MethodName)) rfl hown (mvT hZ (hw _ (List.mem_of_getElem? (i := 3) rfl))) (mvT hZ (hw _ (List.mem_of_getElem? (i := 4) rfl))) (mvT hZ (hw _ (List.mem_of_getElem? (i := 5) rfl))) (by decide) (backOf (W := 1) (rm1_1 l Z a0 hw [] b58 (.null) (.null) (.null) (.null)  h58 n0 (Nat.le_trans (Nat.le_trans (Nat.le_trans Z0 E54.1) K56q.1) E58.1) A58 F58_direct gn58 F58_diffuse F58_potential F58_trunk) hZ (hw _ (List.mem_of_getElem? (i := 5) rfl)) (hw _ (List.mem_of_getElem? (i := 2) rfl)) (by decide) (by decide)) (g := (mkF m 19 #[.val (.int p0), .val (.int p1), .val (.int p2), .val (.int (1 : Int32)), .val (.ref b54), .unset] [(.int (1 : Int32)), (.ref b58), (.ref b58)])) rfl (by rw [hml]; rfl) (Steps.refl _) (a := b58) (argsL := [(.int (1 : Int32))]) (rest := [(.ref b58)]) (lenOf pd_1 rfl) rfl (by show 2 * 0 + _ ≤ _; exact Nat.le_of_eq rfl) (hb hby at_19) (fun _ _ => ⟨rfl, e58, (by decide : 6 + 4 ≤ _), (by decide : 12 + 4 ≤ _)⟩)
    dsimp only [Pt.U, Pt.locs, Pt.cells, Pt.slots] at X60 ql60 qy60 qz60 st60 hQ60
    subst ql60 qy60 qz60
    obtain ⟨rb60_b2, rb60_b8, rb60_b14, rb60_b20, kk60_k2, kk60_k8, kk60_k14, kk60_k20, rfl, N60q, gz60_b2, gz60_b8, gz60_b14, gz60_b20, K60q, Q60_0, Q60_1, Q60_2, Q60_3, Q60_4, Q60_5, Q60_6, Q60_7, Q60_8, D60_0, D60_1, D60_2, D60_3, D60_4, D60_5⟩ := hQ60
    have N60 := Fr.app N56 N60q
    have gn60_b2 : n0 ≤ rb60_b2 := Nat.le_trans (Nat.le_trans (Nat.le_trans (Nat.le_trans Z0 E54.1) K56q.1) E58.1) gz60_b2
    have gy60_b2 : h0.size ≤ rb60_b2 := Nat.le_trans (K59).1 gz60_b2
    have gn60_b8 : n0 ≤ rb60_b8 := Nat.le_trans (Nat.le_trans (Nat.le_trans (Nat.le_trans Z0 E54.1) K56q.1) E58.1) gz60_b8
    have gy60_b8 : h0.size ≤ rb60_b8 := Nat.le_trans (K59).1 gz60_b8
    have gn60_b14 : n0 ≤ rb60_b14 := Nat.le_trans (Nat.le_trans (Nat.le_trans (Nat.le_trans Z0 E54.1) K56q.1) E58.1) gz60_b14
    have gy60_b14 : h0.size ≤ rb60_b14 := Nat.le_trans (K59).1 gz60_b14
    have gn60_b20 : n0 ≤ rb60_b20 := Nat.le_trans (Nat.le_trans (Nat.le_trans (Nat.le_trans Z0 E54.1) K56q.1) E58.1) gz60_b20
    have gy60_b20 : h0.size ≤ rb60_b20 := Nat.le_trans (K59).1 gz60_b20
    have K61 : Keep h0 T60.heap [] := Keep.trans K59 K60q (allS (Or.inr gz58) all0)
    have f62 := ((Q56_1.ext E58).keep K60q (ninS (Nat.ne_of_lt (Nat.lt_of_lt_of_le (Q56_0).lt (Nat.le_of_eq g58.symm))) nin0))
    obtain ⟨T63, X63, e63, st63⟩ := getF X60 hx hZ hown (host := "") (Or.inl (hw _ (List.mem_of_getElem? (i := 18) rfl))) Via.refl rfl f62 (g := (mkF m 26 #[.val (.int p0), .val (.int p1), .val (.int p2), .val (.int (1 : Int32)), .val (.ref b54), .val (.ref b58)] [(.ref b54)])) rfl rfl (hb hby at_26)
    have f64 := ((Q56_5.ext E58).keep K60q (ninS (Nat.ne_of_lt (Nat.lt_of_lt_of_le (Q56_5).lt (Nat.le_of_eq g58.symm))) nin0))
    obtain ⟨_, _, ⟨T65, L65, k65, n65⟩, -, X65, ⟨Lc65, hQ65, ql65, qy65, qz65⟩, st65⟩ := Jvm.LawKit.callS X63 hx (y := (⟨"com/example/lumenstand/lumenstand/light/InterceptionAddPinLaw", "put", "([DII)V"⟩ : MethodName)) hown (mvT hZ (hw _ (List.mem_of_getElem? (i := 19) rfl))) (mvT hZ (hw _ (List.mem_of_getElem? (i := 20) rfl))) (mvT hZ (hw _ (List.mem_of_getElem? (i := 21) rfl))) (mvT hZ (hw _ (List.mem_of_getElem? (i := 22) rfl))) (by decide) (backOf (W := 0) (rm3_1 l Z a0 hw [] rb56_b2 (0 : Int32) p1 kk56_k2 (0 : UInt64) c31_c10_z4 c31_c10_z5 c31_c10_z7 c31_c10_z8 T60.heap n0 (Nat.le_trans (Nat.le_trans (Nat.le_trans (Nat.le_trans Z0 E54.1) K56q.1) E58.1) K60q.1) f64 gn56_b2 hc31_c10_z4 hc31_c10_z5 hc31_c10_z7 hc31_c10_z8) hZ (hw _ (List.mem_of_getElem? (i := 22) rfl)) (hw _ (List.mem_of_getElem? (i := 21) rfl)) (by decide) (by decide)) (g := (mkF m 31 #[.val (.int p0), .val (.int p1), .val (.int p2), .val (.int (1 : Int32)), .val (.ref b54), .val (.ref b58)] [(.int p1), (.int (0 : Int32)), (.ref rb56_b2)])) rfl (by rw [hml]; rfl) (argsL := [(.ref rb56_b2), (.int (0 : Int32)), (.int p1)]) (rest := []) (lenOf pd_2 rfl) rfl (by show 2 * 0 + _ ≤ _; exact Nat.le_of_eq rfl) (hb hby at_31) (fun _ _ => ⟨rfl, e63, (by decide : 10 + 0 ≤ _), (by decide : 16 + 0 ≤ _)⟩)
    dsimp only [Pt.U, Pt.locs, Pt.cells, Pt.slots] at X65 ql65 qy65 qz65 st65 hQ65
    subst ql65 qy65 qz65
    obtain ⟨rfl, N65q, K65q, Q65_0⟩ := hQ65
    have N65 := Fr.app N60 N65q
    have K66 : Keep h0 T65.heap [] := Keep.trans K61 K65q (allS (Or.inr gy56_b2) all0)
    have f67 := (((Q56_2.ext E58).keep K60q (ninS (Nat.ne_of_lt (Nat.lt_of_lt_of_le (Q56_0).lt (Nat.le_of_eq g58.symm))) nin0)).keep K65q (ninS (Nat.ne_of_lt (Nat.lt_of_lt_of_le (A54).lt gz56_b2)) nin0))
    obtain ⟨T68, X68, e68, st68⟩ := getF X65 hx hZ hown (host := "") (Or.inl (hw _ (List.mem_of_getElem? (i := 23) rfl))) Via.refl rfl f67 (g := (mkF m 36 #[.val (.int p0), .val (.int p1), .val (.int p2), .val (.int (1 : Int32)), .val (.ref b54), .val (.ref b58)] [(.ref b54)])) rfl rfl (hb hby at_36)
    have f69 := (((Q56_6.ext E58).keep K60q (ninS (Nat.ne_of_lt (Nat.lt_of_lt_of_le (Q56_6).lt (Nat.le_of_eq g58.symm))) nin0)).keep K65q (ninS (Ne.symm D56_0) nin0))
    obtain ⟨_, _, ⟨T70, L70, k70, n70⟩, -, X70, ⟨Lc70, hQ70, ql70, qy70, qz70⟩, st70⟩ := Jvm.LawKit.callS X68 hx (y := (⟨"com/example/lumenstand/lumenstand/light/InterceptionAddPinLaw", "put", "([DII)V"⟩ : MethodName)) hown (mvT hZ (hw _ (List.mem_of_getElem? (i := 19) rfl))) (mvT hZ (hw _ (List.mem_of_getElem? (i := 20) rfl))) (mvT hZ (hw _ (List.mem_of_getElem? (i := 21) rfl))) (mvT hZ (hw _ (List.mem_of_getElem? (i := 22) rfl))) (by decide) (backOf (W := 0) (rm3_1 l Z a0 hw [] rb56_b8 (1 : Int32) p1 kk56_k8 (0 : UInt64) c41_c10_z4 c41_c10_z5 c41_c10_z7 c41_c10_z8 T65.heap n0 (Nat.le_trans (Nat.le_trans (Nat.le_trans (Nat.le_trans (Nat.le_trans Z0 E54.1) K56q.1) E58.1) K60q.1) K65q.1) f69 gn56_b8 hc41_c10_z4 hc41_c10_z5 hc41_c10_z7 hc41_c10_z8) hZ (hw _ (List.mem_of_getElem? (i := 22) rfl)) (hw _ (List.mem_of_getElem? (i := 21) rfl)) (by decide) (by decide)) (g := (mkF m 41 #[.val (.int p0), .val (.int p1), .val (.int p2), .val (.int (1 : Int32)), .val (.ref b54), .val (.ref b58)] [(.int p1), (.int (1 : Int32)), (.ref rb56_b8)])) rfl (by rw [hml]; rfl) (argsL := [(.ref rb56_b8), (.int (1 : Int32)), (.int p1)]) (rest := []) (lenOf pd_2 rfl) rfl (by show 2 * 0 + _ ≤ _; exact Nat.le_of_eq rfl) (hb hby at_41) (fun _ _ => ⟨rfl, e68, (by decide : 10 + 0 ≤ _), (by decide : 16 + 0 ≤ _)⟩)
    dsimp only [Pt.U, Pt.locs, Pt.cells, Pt.slots] at X70 ql70 qy70 qz70 st70 hQ70
    subst ql70 qy70 qz70
    obtain ⟨rfl, N70q, K70q, Q70_0⟩ := hQ70
    have N70 := Fr.app N65 N70q
    have K71 : Keep h0 T70.heap [] := Keep.trans K66 K70q (allS (Or.inr gy56_b8) all0)
    have f72 := ((((Q56_3.ext E58).keep K60q (ninS (Nat.ne_of_lt (Nat.lt_of_lt_of_le (Q56_0).lt (Nat.le_of_eq g58.symm))) nin0)).keep K65q (ninS (Nat.ne_of_lt (Nat.lt_of_lt_of_le (A54).lt gz56_b2)) nin0)).keep K70q (ninS (Nat.ne_of_lt (Nat.lt_of_lt_of_le (A54).lt gz56_b8)) nin0))
    obtain ⟨T73, X73, e73, st73⟩ := getF X70 hx hZ hown (host := "") (Or.inl (hw _ (List.mem_of_getElem? (i := 24) rfl))) Via.refl rfl f72 (g := (mkF m 46 #[.val (.int p0), .val (.int p1), .val (.int p2), .val (.int (1 : Int32)), .val (.ref b54), .val (.ref b58)] [(.ref b54)])) rfl rfl (hb hby at_46)
    have f74 := ((((Q56_7.ext E58).keep K60q (ninS (Nat.ne_of_lt (Nat.lt_of_lt_of_le (Q56_7).lt (Nat.le_of_eq g58.symm))) nin0)).keep K65q (ninS (Ne.symm D56_1) nin0)).keep K70q (ninS (Ne.symm D56_3) nin0))
    obtain ⟨_, _, ⟨T75, L75, k75, n75⟩, -, X75, ⟨Lc75, hQ75, ql75, qy75, qz75⟩, st75⟩ := Jvm.LawKit.callS X73 hx (y := (⟨"com/example/lumenstand/lumenstand/light/InterceptionAddPinLaw", "put", "([DII)V"⟩ : MethodName)) hown (mvT hZ (hw _ (List.mem_of_getElem? (i := 19) rfl))) (mvT hZ (hw _ (List.mem_of_getElem? (i := 20) rfl))) (mvT hZ (hw _ (List.mem_of_getElem? (i := 21) rfl))) (mvT hZ (hw _ (List.mem_of_getElem? (i := 22) rfl))) (by decide) (backOf (W := 0) (rm3_1 l Z a0 hw [] rb56_b14 (2 : Int32) p1 kk56_k14 (0 : UInt64) c51_c10_z4 c51_c10_z5 c51_c10_z7 c51_c10_z8 T70.heap n0 (Nat.le_trans (Nat.le_trans (Nat.le_trans (Nat.le_trans (Nat.le_trans (Nat.le_trans Z0 E54.1) K56q.1) E58.1) K60q.1) K65q.1) K70q.1) f74 gn56_b14 hc51_c10_z4 hc51_c10_z5 hc51_c10_z7 hc51_c10_z8) hZ (hw _ (List.mem_of_getElem? (i := 22) rfl)) (hw _ (List.mem_of_getElem? (i := 21) rfl)) (by decide) (by decide)) (g := (mkF m 51 #[.val (.int p0), .val (.int p1), .val (.int p2), .val (.int (1 : Int32)), .val (.ref b54), .val (.ref b58)] [(.int p1), (.int (2 : Int32)), (.ref rb56_b14)])) rfl (by rw [hml]; rfl) (argsL := [(.ref rb56_b14), (.int (2 : Int32)), (.int p1)]) (rest := []) (lenOf pd_2 rfl) rfl (by show 2 * 0 + _ ≤ _; exact Nat.le_of_eq rfl) (hb hby at_51) (fun _ _ => ⟨rfl, e73, (by decide : 10 + 0 ≤ _), (by decide : 16 + 0 ≤ _)⟩)
    dsimp only [Pt.U, Pt.locs, Pt.cells, Pt.slots] at X75 ql75 qy75 qz75 st75 hQ75
    subst ql75 qy75 qz75
    obtain ⟨rfl, N75q, K75q, Q75_0⟩ := hQ75
    have N75 := Fr.app N70 N75q
    have K76 : Keep h0 T75.heap [] := Keep.trans K71 K75q (allS (Or.inr gy56_b14) all0)
    have f77 := (((((Q56_4.ext E58).keep K60q (ninS (Nat.ne_of_lt (Nat.lt_of_lt_of_le (Q56_0).lt (Nat.le_of_eq g58.symm))) nin0)).keep K65q (ninS (Nat.ne_of_lt (Nat.lt_of_lt_of_le (A54).lt gz56_b2)) nin0)).keep K70q (ninS (Nat.ne_of_lt (Nat.lt_of_lt_of_le (A54).lt gz56_b8)) nin0)).keep K75q (ninS (Nat.ne_of_lt (Nat.lt_of_lt_of_le (A54).lt gz56_b14)) nin0))
    obtain ⟨T78, X78, e78, st78⟩ := getF X75 hx hZ hown (host := "") (Or.inl (hw _ (List.mem_of_getElem? (i := 25) rfl))) Via.refl rfl f77 (g := (mkF m 56 #[.val (.int p0), .val (.int p1), .val (.int p2), .val (.int (1 : Int32)), .val (.ref b54), .val (.ref b58)] [(.ref b54)])) rfl rfl (hb hby at_56)
    have f79 := (((((Q56_8.ext E58).keep K60q (ninS (Nat.ne_of_lt (Nat.lt_of_lt_of_le (Q56_8).lt (Nat.le_of_eq g58.symm))) nin0)).keep K65q (ninS (Ne.symm D56_2) nin0)).keep K70q (ninS (Ne.symm D56_4) nin0)).keep K75q (ninS (Ne.symm D56_5) nin0))
    obtain ⟨_, _, ⟨T80, L80, k80, n80⟩, -, X80, ⟨Lc80, hQ80, ql80, qy80, qz80⟩, st80⟩ := Jvm.LawKit.callS X78 hx (y := (⟨"com/example/lumenstand/lumenstand/light/InterceptionAddPinLaw", "put", "([DII)V"⟩ : MethodName)) hown (mvT hZ (hw _ (List.mem_of_getElem? (i := 19) rfl))) (mvT hZ (hw _ (List.mem_of_getElem? (i := 20) rfl))) (mvT hZ (hw _ (List.mem_of_getElem? (i := 21) rfl))) (mvT hZ (hw _ (List.mem_of_getElem? (i := 22) rfl))) (by decide) (backOf (W := 0) (rm3_1 l Z a0 hw [] rb56_b20 (3 : Int32) p1 kk56_k20 (0 : UInt64) c61_c10_z4 c61_c10_z5 c61_c10_z7 c61_c10_z8 T75.heap n0 (Nat.le_trans (Nat.le_trans (Nat.le_trans (Nat.le_trans (Nat.le_trans (Nat.le_trans (Nat.le_trans Z0 E54.1) K56q.1) E58.1) K60q.1) K65q.1) K70q.1) K75q.1) f79 gn56_b20 hc61_c10_z4 hc61_c10_z5 hc61_c10_z7 hc61_c10_z8) hZ (hw _ (List.mem_of_getElem? (i := 22) rfl)) (hw _ (List.mem_of_getElem? (i := 21) rfl)) (by decide) (by decide)) (g := (mkF m 61 #[.val (.int p0), .val (.int p1), .val (.int p2), .val (.int (1 : Int32)), .val (.ref b54), .val (.ref b58)] [(.int p1), (.int (3 : Int32)), (.ref rb56_b20)])) rfl (by rw [hml]; rfl) (argsL := [(.ref rb56_b20), (.int (3 : Int32)), (.int p1)]) (rest := []) (lenOf pd_2 rfl) rfl (by show 2 * 0 + _ ≤ _; exact Nat.le_of_eq rfl) (hb hby at_61) (fun _ _ => ⟨rfl, e78, (by decide : 10 + 0 ≤ _), (by decide : 16 + 0 ≤ _)⟩)
    dsimp only [Pt.U, Pt.locs, Pt.cells, Pt.slots] at X80 ql80 qy80 qz80 st80 hQ80
    subst ql80 qy80 qz80
    obtain ⟨rfl, N80q, K80q, Q80_0⟩ := hQ80
    have N80 := Fr.app N75 N80q
    have K81 : Keep h0 T80.heap [] := Keep.trans K76 K80q (allS (Or.inr gy56_b20) all0)
    have f82 := ((((Q60_1.keep K65q (ninS (Ne.symm (Nat.ne_of_lt (Nat.lt_of_lt_of_le (Q56_5).lt (Nat.le_of_eq g58.symm)))) nin0)).keep K70q (ninS (Ne.symm (Nat.ne_of_lt (Nat.lt_of_lt_of_le (Q56_6).lt (Nat.le_of_eq g58.symm)))) nin0)).keep K75q (ninS (Ne.symm (Nat.ne_of_lt (Nat.lt_of_lt_of_le (Q56_7).lt (Nat.le_of_eq g58.symm)))) nin0)).keep K80q (ninS (Ne.symm (Nat.ne_of_lt (Nat.lt_of_lt_of_le (Q56_8).lt (Nat.le_of_eq g58.symm)))) nin0))
    obtain ⟨T83, X83, e83, st83⟩ := getF X80 hx hZ hown (host := "") (Or.inl (hw _ (List.mem_of_getElem? (i := 18) rfl))) Via.refl rfl f82 (g := (mkF m 66 #[.val (.int p0), .val (.int p1), .val (.int p2), .val (.int (1 : Int32)), .val (.ref b54), .val (.ref b58)] [(.ref b58)])) rfl rfl (hb hby at_66)
    have f84 := ((((Q60_5.keep K65q (ninS (Ne.symm (Nat.ne_of_lt (Nat.lt_of_lt_of_le ((Q56_5.ext E58)).lt gz60_b2))) nin0)).keep K70q (ninS (Ne.symm (Nat.ne_of_lt (Nat.lt_of_lt_of_le ((Q56_6.ext E58)).lt gz60_b2))) nin0)).keep K75q (ninS (Ne.symm (Nat.ne_of_lt (Nat.lt_of_lt_of_le ((Q56_7.ext E58)).lt gz60_b2))) nin0)).keep K80q (ninS (Ne.symm (Nat.ne_of_lt (Nat.lt_of_lt_of_le ((Q56_8.ext E58)).lt gz60_b2))) nin0))
    obtain ⟨_, _, ⟨T85, L85, k85, n85⟩, -, X85, ⟨Lc85, hQ85, ql85, qy85, qz85⟩, st85⟩ := Jvm.LawKit.callS X83 hx (y := (⟨"com/example/lumenstand/lumenstand/light/InterceptionAddPinLaw", "put", "([DII)V"⟩ : MethodName)) hown (mvT hZ (hw _ (List.mem_of_getElem? (i := 19) rfl))) (mvT hZ (hw _ (List.mem_of_getElem? (i := 20) rfl))) (mvT hZ (hw _ (List.mem_of_getElem? (i := 21) rfl))) (mvT hZ (hw _ (List.mem_of_getElem? (i := 22) rfl))) (by decide) (backOf (W := 0) (rm3_1 l Z a0 hw [] rb60_b2 (0 : Int32) p2 kk60_k2 (0 : UInt64) c71_c10_z4 c71_c10_z5 c71_c10_z7 c71_c10_z8 T80.heap n0 (Nat.le_trans (Nat.le_trans (Nat.le_trans (Nat.le_trans (Nat.le_trans (Nat.le_trans (Nat.le_trans (Nat.le_trans Z0 E54.1) K56q.1) E58.1) K60q.1) K65q.1) K70q.1) K75q.1) K80q.1) f84 gn60_b2 hc71_c10_z4 hc71_c10_z5 hc71_c10_z7 hc71_c10_z8) hZ (hw _ (List.mem_of_getElem? (i := 22) rfl)) (hw _ (List.mem_of_getElem? (i := 21) rfl)) (by decide) (by decide)) (g := (mkF m 71 #[.val (.int p0), .val (.int p1), .val (.int p2), .val (.int (1 : Int32)), .val (.ref b54), .val (.ref b58)] [(.int p2), (.int (0 : Int32)), (.ref rb60_b2)])) rfl (by rw [hml]; rfl) (argsL := [(.ref rb60_b2), (.int (0 : Int32)), (.int p2)]) (rest := []) (lenOf pd_2 rfl) rfl (by show 2 * 0 + _ ≤ _; exact Nat.le_of_eq rfl) (hb hby at_71) (fun _ _ => ⟨rfl, e83, (by decide : 10 + 0 ≤ _), (by decide : 16 + 0 ≤ _)⟩)
    dsimp only [Pt.U, Pt.locs, Pt.cells, Pt.slots] at X85 ql85 qy85 qz85 st85 hQ85
    subst ql85 qy85 qz85
    obtain ⟨rfl, N85q, K85q, Q85_0⟩ := hQ85
    have N85 := Fr.app N80 N85q
    have K86 : Keep h0 T85.heap [] := Keep.trans K81 K85q (allS (Or.inr gy60_b2) all0)
    have f87 := (((((Q60_2.keep K65q (ninS (Ne.symm (Nat.ne_of_lt (Nat.lt_of_lt_of_le (Q56_5).lt (Nat.le_of_eq g58.symm)))) nin0)).keep K70q (ninS (Ne.symm (Nat.ne_of_lt (Nat.lt_of_lt_of_le (Q56_6).lt (Nat.le_of_eq g58.symm)))) nin0)).keep K75q (ninS (Ne.symm (Nat.ne_of_lt (Nat.lt_of_lt_of_le (Q56_7).lt (Nat.le_of_eq g58.symm)))) nin0)).keep K80q (ninS (Ne.symm (Nat.ne_of_lt (Nat.lt_of_lt_of_le (Q56_8).lt (Nat.le_of_eq g58.symm)))) nin0)).keep K85q (ninS (Nat.ne_of_lt (Nat.lt_of_lt_of_le (A58).lt gz60_b2)) nin0))
    obtain ⟨T88, X88, e88, st88⟩ := getF X85 hx hZ hown (host := "") (Or.inl (hw _ (List.mem_of_getElem? (i := 23) rfl))) Via.refl rfl f87 (g := (mkF m 76 #[.val (.int p0), .val (.int p1), .val (.int p2), .val (.int (1 : Int32)), .val (.ref b54), .val (.ref b58)] [(.ref b58)])) rfl rfl (hb hby at_76)
    have f89 := (((((Q60_6.keep K65q (ninS (Ne.symm (Nat.ne_of_lt (Nat.lt_of_lt_of_le ((Q56_5.ext E58)).lt gz60_b8))) nin0)).keep K70q (ninS (Ne.symm (Nat.ne_of_lt (Nat.lt_of_lt_of_le ((Q56_6.ext E58)).lt gz60_b8))) nin0)).keep K75q (ninS (Ne.symm (Nat.ne_of_lt (Nat.lt_of_lt_of_le ((Q56_7.ext E58)).lt gz60_b8))) nin0)).keep K80q (ninS (Ne.symm (Nat.ne_of_lt (Nat.lt_of_lt_of_le ((Q56_8.ext E58)).lt gz60_b8))) nin0)).keep K85q (ninS (Ne.symm D60_0) nin0))
    obtain ⟨_, _, ⟨T90, L90, k90, n90⟩, -, X90, ⟨Lc90, hQ90, ql90, qy90, qz90⟩, st90⟩ := Jvm.LawKit.callS X88 hx (y := (⟨"com/example/lumenstand/lumenstand/light/InterceptionAddPinLaw", "put", "([DII)V"⟩ : MethodName)) hown (mvT hZ (hw _ (List.mem_of_getElem? (i := 19) rfl))) (mvT hZ (hw _ (List.mem_of_getElem? (i := 20) rfl))) (mvT hZ (hw _ (List.mem_of_getElem? (i := 21) rfl))) (mvT hZ (hw _ (List.mem_of_getElem? (i := 22) rfl))) (by decide) (backOf (W := 0) (rm3_1 l Z a0 hw [] rb60_b8 (1 : Int32) p2 kk60_k8 (0 : UInt64) c81_c10_z4 c81_c10_z5 c81_c10_z7 c81_c10_z8 T85.heap n0 (Nat.le_trans (Nat.le_trans (Nat.le_trans (Nat.le_trans (Nat.le_trans (Nat.le_trans (Nat.le_trans (Nat.le_trans (Nat.le_trans Z0 E54.1) K56q.1) E58.1) K60q.1) K65q.1) K70q.1) K75q.1) K80q.1) K85q.1) f89 gn60_b8 hc81_c10_z4 hc81_c10_z5 hc81_c10_z7 hc81_c10_z8) hZ (hw _ (List.mem_of_getElem? (i := 22) rfl)) (hw _ (List.mem_of_getElem? (i := 21) rfl)) (by decide) (by decide)) (g := (mkF m 81 #[.val (.int p0), .val (.int p1), .val (.int p2), .val (.int (1 : Int32)), .val (.ref b54), .val (.ref b58)] [(.int p2), (.int (1 : Int32)), (.ref rb60_b8)])) rfl (by rw [hml]; rfl) (argsL := [(.ref rb60_b8), (.int (1 : Int32)), (.int p2)]) (rest := []) (lenOf pd_2 rfl) rfl (by show 2 * 0 + _ ≤ _; exact Nat.le_of_eq rfl) (hb hby at_81) (fun _ _ => ⟨rfl, e88, (by decide : 10 + 0 ≤ _), (by decide : 16 + 0 ≤ _)⟩)
    dsimp only [Pt.U, Pt.locs, Pt.cells, Pt.slots] at X90 ql90 qy90 qz90 st90 hQ90
    subst ql90 qy90 qz90
    obtain ⟨rfl, N90q, K90q, Q90_0⟩ := hQ90
    have N90 := Fr.app N85 N90q
    have K91 : Keep h0 T90.heap [] := Keep.trans K86 K90q (allS (Or.inr gy60_b8) all0)
    have f92 := ((((((Q60_3.keep K65q (ninS (Ne.symm (Nat.ne_of_lt (Nat.lt_of_lt_of_le (Q56_5).lt (Nat.le_of_eq g58.symm)))) nin0)).keep K70q (ninS (Ne.symm (Nat.ne_of_lt (Nat.lt_of_lt_of_le (Q56_6).lt (Nat.le_of_eq g58.symm)))) nin0)).keep K75q (ninS (Ne.symm (Nat.ne_of_lt (Nat.lt_of_lt_of_le (Q56_7).lt (Nat.le_of_eq g58.symm)))) nin0)).keep K80q (ninS (Ne.symm (Nat.ne_of_lt (Nat.lt_of_lt_of_le (Q56_8).lt (Nat.le_of_eq g58.symm)))) nin0)).keep K85q (ninS (Nat.ne_of_lt (Nat.lt_of_lt_of_le (A58).lt gz60_b2)) nin0)).keep K90q (ninS (Nat.ne_of_lt (Nat.lt_of_lt_of_le (A58).lt gz60_b8)) nin0))
    obtain ⟨T93, X93, e93, st93⟩ := getF X90 hx hZ hown (host := "") (Or.inl (hw _ (List.mem_of_getElem? (i := 24) rfl))) Via.refl rfl f92 (g := (mkF m 86 #[.val (.int p0), .val (.int p1), .val (.int p2), .val (.int (1 : Int32)), .val (.ref b54), .val (.ref b58)] [(.ref b58)])) rfl rfl (hb hby at_86)
    have f94 := ((((((Q60_7.keep K65q (ninS (Ne.symm (Nat.ne_of_lt (Nat.lt_of_lt_of_le ((Q56_5.ext E58)).lt gz60_b14))) nin0)).keep K70q (ninS (Ne.symm (Nat.ne_of_lt (Nat.lt_of_lt_of_le ((Q56_6.ext E58)).lt gz60_b14))) nin0)).keep K75q (ninS (Ne.symm (Nat.ne_of_lt (Nat.lt_of_lt_of_le ((Q56_7.ext E58)).lt gz60_b14))) nin0)).keep K80q (ninS (Ne.symm (Nat.ne_of_lt (Nat.lt_of_lt_of_le ((Q56_8.ext E58)).lt gz60_b14))) nin0)).keep K85q (ninS (Ne.symm D60_1) nin0)).keep K90q (ninS (Ne.symm D60_3) nin0))
    obtain ⟨_, _, ⟨T95, L95, k95, n95⟩, -, X95, ⟨Lc95, hQ95, ql95, qy95, qz95⟩, st95⟩ := Jvm.LawKit.callS X93 hx (y := (⟨"com/example/lumenstand/lumenstand/light/InterceptionAddPinLaw", "put", "([DII)V"⟩ : MethodName)) hown (mvT hZ (hw _ (List.mem_of_getElem? (i := 19) rfl))) (mvT hZ (hw _ (List.mem_of_getElem? (i := 20) rfl))) (mvT hZ (hw _ (List.mem_of_getElem? (i := 21) rfl))) (mvT hZ (hw _ (List.mem_of_getElem? (i := 22) rfl))) (by decide) (backOf (W := 0) (rm3_1 l Z a0 hw [] rb60_b14 (2 : Int32) p2 kk60_k14 (0 : UInt64) c91_c10_z4 c91_c10_z5 c91_c10_z7 c91_c10_z8 T90.heap n0 (Nat.le_trans (Nat.le_trans (Nat.le_trans (Nat.le_trans (Nat.le_trans (Nat.le_trans (Nat.le_trans (Nat.le_trans (Nat.le_trans (Nat.le_trans Z0 E54.1) K56q.1) E58.1) K60q.1) K65q.1) K70q.1) K75q.1) K80q.1) K85q.1) K90q.1) f94 gn60_b14 hc91_c10_z4 hc91_c10_z5 hc91_c10_z7 hc91_c10_z8) hZ (hw _ (List.mem_of_getElem? (i := 22) rfl)) (hw _ (List.mem_of_getElem? (i := 21) rfl)) (by decide) (by decide)) (g := (mkF m 91 #[.val (.int p0), .val (.int p1), .val (.int p2), .val (.int (1 : Int32)), .val (.ref b54), .val (.ref b58)] [(.int p2), (.int (2 : Int32)), (.ref rb60_b14)])) rfl (by rw [hml]; rfl) (argsL := [(.ref rb60_b14), (.int (2 : Int32)), (.int p2)]) (rest := []) (lenOf pd_2 rfl) rfl (by show 2 * 0 + _ ≤ _; exact Nat.le_of_eq rfl) (hb hby at_91) (fun _ _ => ⟨rfl, e93, (by decide : 10 + 0 ≤ _), (by decide : 16 + 0 ≤ _)⟩)
    dsimp only [Pt.U, Pt.locs, Pt.cells, Pt.slots] at X95 ql95 qy95 qz95 st95 hQ95
    subst ql95 qy95 qz95
    obtain ⟨rfl, N95q, K95q, Q95_0⟩ := hQ95
    have N95 := Fr.app N90 N95q
    have K96 : Keep h0 T95.heap [] := Keep.trans K91 K95q (allS (Or.inr gy60_b14) all0)
    have f97 := (((((((Q60_4.keep K65q (ninS (Ne.symm (Nat.ne_of_lt (Nat.lt_of_lt_of_le (Q56_5).lt (Nat.le_of_eq g58.symm)))) nin0)).keep K70q (ninS (Ne.symm (Nat.ne_of_lt (Nat.lt_of_lt_of_le (Q56_6).lt (Nat.le_of_eq g58.symm)))) nin0)).keep K75q (ninS (Ne.symm (Nat.ne_of_lt (Nat.lt_of_lt_of_le (Q56_7).lt (Nat.le_of_eq g58.symm)))) nin0)).keep K80q (ninS (Ne.symm (Nat.ne_of_lt (Nat.lt_of_lt_of_le (Q56_8).lt (Nat.le_of_eq g58.symm)))) nin0)).keep K85q (ninS (Nat.ne_of_lt (Nat.lt_of_lt_of_le (A58).lt gz60_b2)) nin0)).keep K90q (ninS (Nat.ne_of_lt (Nat.lt_of_lt_of_le (A58).lt gz60_b8)) nin0)).keep K95q (ninS (Nat.ne_of_lt (Nat.lt_of_lt_of_le (A58).lt gz60_b14)) nin0))
    obtain ⟨T98, X98, e98, st98⟩ := getF X95 hx hZ hown (host := "") (Or.inl (hw _ (List.mem_of_getElem? (i := 25) rfl))) Via.refl rfl f97 (g := (mkF m 96 #[.val (.int p0), .val (.int p1), .val (.int p2), .val (.int (1 : Int32)), .val (.ref b54), .val (.ref b58)] [(.ref b58)])) rfl rfl (hb hby at_96)
    have f99 := (((((((Q60_8.keep K65q (ninS (Ne.symm (Nat.ne_of_lt (Nat.lt_of_lt_of_le ((Q56_5.ext E58)).lt gz60_b20))) nin0)).keep K70q (ninS (Ne.symm (Nat.ne_of_lt (Nat.lt_of_lt_of_le ((Q56_6.ext E58)).lt gz60_b20))) nin0)).keep K75q (ninS (Ne.symm (Nat.ne_of_lt (Nat.lt_of_lt_of_le ((Q56_7.ext E58)).lt gz60_b20))) nin0)).keep K80q (ninS (Ne.symm (Nat.ne_of_lt (Nat.lt_of_lt_of_le ((Q56_8.ext E58)).lt gz60_b20))) nin0)).keep K85q (ninS (Ne.symm D60_2) nin0)).keep K90q (ninS (Ne.symm D60_4) nin0)).keep K95q (ninS (Ne.symm D60_5) nin0))
    obtain ⟨_, _, ⟨T100, L100, k100, n100⟩, -, X100, ⟨Lc100, hQ100, ql100, qy100, qz100⟩, st100⟩ := Jvm.LawKit.callS X98 hx (y := (⟨"com/example/lumenstand/lumenstand/light/InterceptionAddPinLaw", "put", "([DII)V"⟩ : MethodName)) hown (mvT hZ (hw _ (List.mem_of_getElem? (i := 19) rfl))) (mvT hZ (hw _ (List.mem_of_getElem? (i := 20) rfl))) (mvT hZ (hw _ (List.mem_of_getElem? (i := 21) rfl))) (mvT hZ (hw _ (List.mem_of_getElem? (i := 22) rfl))) (by decide) (backOf (W := 0) (rm3_1 l Z a0 hw [] rb60_b20 (3 : Int32) p2 kk60_k20 (0 : UInt64) c101_c10_z4 c101_c10_z5 c101_c10_z7 c101_c10_z8 T95.heap n0 (Nat.le_trans (Nat.le_trans (Nat.le_trans (Nat.le_trans (Nat.le_trans (Nat.le_trans (Nat.le_trans (Nat.le_trans (Nat.le_trans (Nat.le_trans (Nat.le_trans Z0 E54.1) K56q.1) E58.1) K60q.1) K65q.1) K70q.1) K75q.1) K80q.1) K85q.1) K90q.1) K95q.1) f99 gn60_b20 hc101_c10_z4 hc101_c10_z5 hc101_c10_z7 hc101_c10_z8) hZ (hw _ (List.mem_of_getElem? (i := 22) rfl)) (hw _ (List.mem_of_getElem? (i := 21) rfl)) (by decide) (by decide)) (g := (mkF m 101 #[.val (.int p0), .val (.int p1), .val (.int p2), .val (.int (1 : Int32)), .val (.ref b54), .val (.ref b58)] [(.int p2), (.int (3 : Int32)), (.ref rb60_b20)])) rfl (by rw [hml]; rfl) (argsL := [(.ref rb60_b20), (.int (3 : Int32)), (.int p2)]) (rest := []) (lenOf pd_2 rfl) rfl (by show 2 * 0 + _ ≤ _; exact Nat.le_of_eq rfl) (hb hby at_101) (fun _ _ => ⟨rfl, e98, (by decide : 10 + 0 ≤ _), (by decide : 16 + 0 ≤ _)⟩)
    dsimp only [Pt.U, Pt.locs, Pt.cells, Pt.slots] at X100 ql100 qy100 qz100 st100 hQ100
    subst ql100 qy100 qz100
    obtain ⟨rfl, N100q, K100q, Q100_0⟩ := hQ100
    have N100 := Fr.app N95 N100q
    have K101 : Keep h0 T100.heap [] := Keep.trans K96 K100q (allS (Or.inr gy60_b20) all0)
    have c108_nn24 := nnAdd (vv hc31_c10_z4 hc31_c10_z5 hc31_c10_z7 hc31_c10_z8) (vv hc71_c10_z4 hc71_c10_z5 hc71_c10_z7 hc71_c10_z8) hc108_z24
    have c108_nn39 := nnAdd (vv hc41_c10_z4 hc41_c10_z5 hc41_c10_z7 hc41_c10_z8) (vv hc81_c10_z4 hc81_c10_z5 hc81_c10_z7 hc81_c10_z8) hc108_z39
    have c108_nn54 := nnAdd (vv hc51_c10_z4 hc51_c10_z5 hc51_c10_z7 hc51_c10_z8) (vv hc91_c10_z4 hc91_c10_z5 hc91_c10_z7 hc91_c10_z8) hc108_z54
    have c108_nn69 := nnAdd (vv hc61_c10_z4 hc61_c10_z5 hc61_c10_z7 hc61_c10_z8) (vv hc101_c10_z4 hc101_c10_z5 hc101_c10_z7 hc101_c10_z8) hc108_z69
    have f102 := (((((((Q65_0.keep K70q (ninS D56_0 nin0)).keep K75q (ninS D56_1 nin0)).keep K80q (ninS D56_2 nin0)).keep K85q (ninS (Nat.ne_of_lt (Nat.lt_of_lt_of_le ((Q56_5.ext E58)).lt gz60_b2)) nin0)).keep K90q (ninS (Nat.ne_of_lt (Nat.lt_of_lt_of_le ((Q56_5.ext E58)).lt gz60_b8)) nin0)).keep K95q (ninS (Nat.ne_of_lt (Nat.lt_of_lt_of_le ((Q56_5.ext E58)).lt gz60_b14)) nin0)).keep K100q (ninS (Nat.ne_of_lt (Nat.lt_of_lt_of_le ((Q56_5.ext E58)).lt gz60_b20)) nin0))
    have f103 := (((Q85_0.keep K90q (ninS D60_0 nin0)).keep K95q (ninS D60_1 nin0)).keep K100q (ninS D60_2 nin0))
    have f104 := ((((((Q70_0.keep K75q (ninS D56_3 nin0)).keep K80q (ninS D56_4 nin0)).keep K85q (ninS (Nat.ne_of_lt (Nat.lt_of_lt_of_le ((Q56_6.ext E58)).lt gz60_b2)) nin0)).keep K90q (ninS (Nat.ne_of_lt (Nat.lt_of_lt_of_le ((Q56_6.ext E58)).lt gz60_b8)) nin0)).keep K95q (ninS (Nat.ne_of_lt (Nat.lt_of_lt_of_le ((Q56_6.ext E58)).lt gz60_b14)) nin0)).keep K100q (ninS (Nat.ne_of_lt (Nat.lt_of_lt_of_le ((Q56_6.ext E58)).lt gz60_b20)) nin0))
    have f105 := ((Q90_0.keep K95q (ninS D60_3 nin0)).keep K100q (ninS D60_4 nin0))
    have f106 := (((((Q75_0.keep K80q (ninS D56_5 nin0)).keep K85q (ninS (Nat.ne_of_lt (Nat.lt_of_lt_of_le ((Q56_7.ext E58)).lt gz60_b2)) nin0)).keep K90q (ninS (Nat.ne_of_lt (Nat.lt_of_lt_of_le ((Q56_7.ext E58)).lt gz60_b8)) nin0)).keep K95q (ninS (Nat.ne_of_lt (Nat.lt_of_lt_of_le ((Q56_7.ext E58)).lt gz60_b14)) nin0)).keep K100q (ninS (Nat.ne_of_lt (Nat.lt_of_lt_of_le ((Q56_7.ext E58)).lt gz60_b20)) nin0))
    have f107 := (Q95_0.keep K100q (ninS D60_5 nin0))
    have f108 := ((((Q80_0.keep K85q (ninS (Nat.ne_of_lt (Nat.lt_of_lt_of_le ((Q56_8.ext E58)).lt gz60_b2)) nin0)).keep K90q (ninS (Nat.ne_of_lt (Nat.lt_of_lt_of_le ((Q56_8.ext E58)).lt gz60_b8)) nin0)).keep K95q (ninS (Nat.ne_of_lt (Nat.lt_of_lt_of_le ((Q56_8.ext E58)).lt gz60_b14)) nin0)).keep K100q (ninS (Nat.ne_of_lt (Nat.lt_of_lt_of_le ((Q56_8.ext E58)).lt gz60_b20)) nin0))
    have f109 := ((((((((f62.keep K65q (ninS (Nat.ne_of_lt (Nat.lt_of_lt_of_le (A54).lt gz56_b2)) nin0)).keep K70q (ninS (Nat.ne_of_lt (Nat.lt_of_lt_of_le (A54).lt gz56_b8)) nin0)).keep K75q (ninS (Nat.ne_of_lt (Nat.lt_of_lt_of_le (A54).lt gz56_b14)) nin0)).keep K80q (ninS (Nat.ne_of_lt (Nat.lt_of_lt_of_le (A54).lt gz56_b20)) nin0)).keep K85q (ninS (Nat.ne_of_lt (Nat.lt_of_lt_of_le ((Q56_0.ext E58)).lt gz60_b2)) nin0)).keep K90q (ninS (Nat.ne_of_lt (Nat.lt_of_lt_of_le ((Q56_0.ext E58)).lt gz60_b8)) nin0)).keep K95q (ninS (Nat.ne_of_lt (Nat.lt_of_lt_of_le ((Q56_0.ext E58)).lt gz60_b14)) nin0)).keep K100q (ninS (Nat.ne_of_lt (Nat.lt_of_lt_of_le ((Q56_0.ext E58)).lt gz60_b20)) nin0))
    have f110 := ((((f82.keep K85q (ninS (Nat.ne_of_lt (Nat.lt_of_lt_of_le (A58).lt gz60_b2)) nin0)).keep K90q (ninS (Nat.ne_of_lt (Nat.lt_of_lt_of_le (A58).lt gz60_b8)) nin0)).keep K95q (ninS (Nat.ne_of_lt (Nat.lt_of_lt_of_le (A58).lt gz60_b14)) nin0)).keep K100q (ninS (Nat.ne_of_lt (Nat.lt_of_lt_of_le (A58).lt gz60_b20)) nin0))
    have f111 := (((((((f67.keep K70q (ninS (Nat.ne_of_lt (Nat.lt_of_lt_of_le (A54).lt gz56_b8)) nin0)).keep K75q (ninS (Nat.ne_of_lt (Nat.lt_of_lt_of_le (A54).lt gz56_b14)) nin0)).keep K80q (ninS (Nat.ne_of_lt (Nat.lt_of_lt_of_le (A54).lt gz56_b20)) nin0)).keep K85q (ninS (Nat.ne_of_lt (Nat.lt_of_lt_of_le ((Q56_0.ext E58)).lt gz60_b2)) nin0)).keep K90q (ninS (Nat.ne_of_lt (Nat.lt_of_lt_of_le ((Q56_0.ext E58)).lt gz60_b8)) nin0)).keep K95q (ninS (Nat.ne_of_lt (Nat.lt_of_lt_of_le ((Q56_0.ext E58)).lt gz60_b14)) nin0)).keep K100q (ninS (Nat.ne_of_lt (Nat.lt_of_lt_of_le ((Q56_0.ext E58)).lt gz60_b20)) nin0))
    have f112 := (((f87.keep K90q (ninS (Nat.ne_of_lt (Nat.lt_of_lt_of_le (A58).lt gz60_b8)) nin0)).keep K95q (ninS (Nat.ne_of_lt (Nat.lt_of_lt_of_le (A58).lt gz60_b14)) nin0)).keep K100q (ninS (Nat.ne_of_lt (Nat.lt_of_lt_of_le (A58).lt gz60_b20)) nin0))
    have f113 := ((((((f72.keep K75q (ninS (Nat.ne_of_lt (Nat.lt_of_lt_of_le (A54).lt gz56_b14)) nin0)).keep K80q (ninS (Nat.ne_of_lt (Nat.lt_of_lt_of_le (A54).lt gz56_b20)) nin0)).keep K85q (ninS (Nat.ne_of_lt (Nat.lt_of_lt_of_le ((Q56_0.ext E58)).lt gz60_b2)) nin0)).keep K90q (ninS (Nat.ne_of_lt (Nat.lt_of_lt_of_le ((Q56_0.ext E58)).lt gz60_b8)) nin0)).keep K95q (ninS (Nat.ne_of_lt (Nat.lt_of_lt_of_le ((Q56_0.ext E58)).lt gz60_b14)) nin0)).keep K100q (ninS (Nat.ne_of_lt (Nat.lt_of_lt_of_le ((Q56_0.ext E58)).lt gz60_b20)) nin0))
    have f114 := ((f92.keep K95q (ninS (Nat.ne_of_lt (Nat.lt_of_lt_of_le (A58).lt gz60_b14)) nin0)).keep K100q (ninS (Nat.ne_of_lt (Nat.lt_of_lt_of_le (A58).lt gz60_b20)) nin0))
    have f115 := (((((f77.keep K80q (ninS (Nat.ne_of_lt (Nat.lt_of_lt_of_le (A54).lt gz56_b20)) nin0)).keep K85q (ninS (Nat.ne_of_lt (Nat.lt_of_lt_of_le ((Q56_0.ext E58)).lt gz60_b2)) nin0)).keep K90q (ninS (Nat.ne_of_lt (Nat.lt_of_lt_of_le ((Q56_0.ext E58)).lt gz60_b8)) nin0)).keep K95q (ninS (Nat.ne_of_lt (Nat.lt_of_lt_of_le ((Q56_0.ext E58)).lt gz60_b14)) nin0)).keep K100q (ninS (Nat.ne_of_lt (Nat.lt_of_lt_of_le ((Q56_0.ext E58)).lt gz60_b20)) nin0))
    have f116 := (f97.keep K100q (ninS (Nat.ne_of_lt (Nat.lt_of_lt_of_le (A58).lt gz60_b20)) nin0))
    have f118 := ((((((((((Q56_0.ext E58).keep K60q).keep K65q).keep K70q).keep K75q).keep K80q).keep K85q).keep K90q).keep K95q).keep K100q)
    obtain ⟨cq117, kq117, q117a, q117b, q117c⟩ := isOf hZ rfl f118
    obtain ⟨_, _, ⟨T117, L117, k117, n117⟩, -, X117, ⟨Lc117, hQ117, ql117, qy117, qz117⟩, st117⟩ := X100.virtualBack hx (y := (⟨"com/example/lumenstand/lumenstand/light/Interception", "add", "(Lcom/example/lumenstand/lumenstand/light/Interception;)V"⟩ : MethodName)) (z := (⟨"com/example/lumenstand/lumenstand/light/Interception", "add", "(Lcom/example/lumenstand/lumenstand/light/Interception;)V"⟩ : MethodName)) hown (mvT hZ (hw _ (List.mem_of_getElem? (i := 26) rfl))) (mvT hZ (hw _ (List.mem_of_getElem? (i := 27) rfl))) (notFace_of_selects (args := #[]) (mvT hZ (hw _ (List.mem_of_getElem? (i := 29) rfl)))) (mvT hZ (hw _ (List.mem_of_getElem? (i := 29) rfl))) (mvT hZ (hw _ (List.mem_of_getElem? (i := 28) rfl))) (by decide) (backOf (W := 0) (rm4_1 l Z a0 hw [] b54 b58 kk56_k2 c31_c10_z8 kk60_k2 c71_c10_z8 kk56_k8 c41_c10_z8 kk60_k8 c81_c10_z8 kk56_k14 c51_c10_z8 kk60_k14 c91_c10_z8 kk56_k20 c61_c10_z8 kk60_k20 c101_c10_z8 rb56_b2 rb60_b2 rb56_b8 rb60_b8 rb56_b14 rb60_b14 rb56_b20 rb60_b20 c108_z24 c108_z39 c108_z54 c108_z69 T100.heap n0 (Nat.le_trans (Nat.le_trans (Nat.le_trans (Nat.le_trans (Nat.le_trans (Nat.le_trans (Nat.le_trans (Nat.le_trans (Nat.le_trans (Nat.le_trans (Nat.le_trans (Nat.le_trans Z0 E54.1) K56q.1) E58.1) K60q.1) K65q.1) K70q.1) K75q.1) K80q.1) K85q.1) K90q.1) K95q.1) K100q.1) f102 f103 f104 f105 f106 f107 f108 Q100_0 ((Nat.ne_of_lt (Nat.lt_of_lt_of_le (A54).lt gz56_b2))) ((Ne.symm (Nat.ne_of_lt (Nat.lt_of_lt_of_le (Q56_5).lt (Nat.le_of_eq g58.symm))))) ((Nat.ne_of_lt (Nat.lt_of_lt_of_le (A54).lt gz56_b8))) ((Ne.symm (Nat.ne_of_lt (Nat.lt_of_lt_of_le (Q56_6).lt (Nat.le_of_eq g58.symm))))) ((Nat.ne_of_lt (Nat.lt_of_lt_of_le (A54).lt gz56_b14))) ((Ne.symm (Nat.ne_of_lt (Nat.lt_of_lt_of_le (Q56_7).lt (Nat.le_of_eq g58.symm))))) ((Nat.ne_of_lt (Nat.lt_of_lt_of_le (A54).lt gz56_b20))) ((Ne.symm (Nat.ne_of_lt (Nat.lt_of_lt_of_le (Q56_8).lt (Nat.le_of_eq g58.symm))))) D56_0 D56_1 D56_2 D56_3 D56_4 D56_5 ((Nat.ne_of_lt (Nat.lt_of_lt_of_le ((Q56_5.ext E58)).lt gz60_b2))) ((Nat.ne_of_lt (Nat.lt_of_lt_of_le ((Q56_5.ext E58)).lt gz60_b8))) ((Nat.ne_of_lt (Nat.lt_of_lt_of_le ((Q56_5.ext E58)).lt gz60_b14))) ((Nat.ne_of_lt (Nat.lt_of_lt_of_le ((Q56_5.ext E58)).lt gz60_b20))) ((Nat.ne_of_lt (Nat.lt_of_lt_of_le ((Q56_6.ext E58)).lt gz60_b2))) ((Nat.ne_of_lt (Nat.lt_of_lt_of_le ((Q56_6.ext E58)).lt gz60_b8))) ((Nat.ne_of_lt (Nat.lt_of_lt_of_le ((Q56_6.ext E58)).lt gz60_b14))) ((Nat.ne_of_lt (Nat.lt_of_lt_of_le ((Q56_6.ext E58)).lt gz60_b20))) ((Nat.ne_of_lt (Nat.lt_of_lt_of_le ((Q56_7.ext E58)).lt gz60_b2))) ((Nat.ne_of_lt (Nat.lt_of_lt_of_le ((Q56_7.ext E58)).lt gz60_b8))) ((Nat.ne_of_lt (Nat.lt_of_lt_of_le ((Q56_7.ext E58)).lt gz60_b14))) ((Nat.ne_of_lt (Nat.lt_of_lt_of_le ((Q56_7.ext E58)).lt gz60_b20))) ((Nat.ne_of_lt (Nat.lt_of_lt_of_le ((Q56_8.ext E58)).lt gz60_b2))) ((Nat.ne_of_lt (Nat.lt_of_lt_of_le ((Q56_8.ext E58)).lt gz60_b8))) ((Nat.ne_of_lt (Nat.lt_of_lt_of_le ((Q56_8.ext E58)).lt gz60_b14))) ((Nat.ne_of_lt (Nat.lt_of_lt_of_le ((Q56_8.ext E58)).lt gz60_b20))) gn56_b2 gn56_b8 gn56_b14 gn56_b20 f109 f110 f111 f112 f113 f114 f115 f116 hc108_z24 hc108_z39 hc108_z54 hc108_z69 c108_nn24 c108_nn39 c108_nn54 c108_nn69) hZ (hw _ (List.mem_of_getElem? (i := 30) rfl)) (hw _ (List.mem_of_getElem? (i := 2) rfl)) (by decide) (by decide)) q117a q117c (g := (mkF m 108 #[.val (.int p0), .val (.int p1), .val (.int p2), .val (.int (1 : Int32)), .val (.ref b54), .val (.ref b58)] [(.ref b58), (.ref b54)])) rfl (by rw [hml]; rfl) (Steps.refl _) (argsL := [(.ref b58)]) (rest := []) (lenOf pd_3 rfl) rfl (by show 2 * 0 + _ ≤ _; exact Nat.le_of_eq rfl) (hb hby at_108) (fun _ _ => ⟨rfl, rfl, (by decide : 10 + 0 ≤ _), (by decide : 16 + 0 ≤ _)⟩)
    dsimp only [Pt.U, Pt.locs, Pt.cells, Pt.slots] at X117 ql117 qy117 qz117 st117 hQ117
    subst ql117 qy117 qz117
    obtain ⟨rfl, N117q, K117q, Q117_0, Q117_1, Q117_2, Q117_3⟩ := hQ117
    have N117 := Fr.app N100 N117q
    have K119 : Keep h0 T117.heap [] := Keep.trans K101 K117q (allS (Or.inr gy56_b2) (allS (Or.inr gy56_b8) (allS (Or.inr gy56_b14) (allS (Or.inr gy56_b20) all0))))
    have f120 := (f109.keep K117q (ninS (Nat.ne_of_lt (Nat.lt_of_lt_of_le (A54).lt gz56_b2)) (ninS (Nat.ne_of_lt (Nat.lt_of_lt_of_le (A54).lt gz56_b8)) (ninS (Nat.ne_of_lt (Nat.lt_of_lt_of_le (A54).lt gz56_b14)) (ninS (Nat.ne_of_lt (Nat.lt_of_lt_of_le (A54).lt gz56_b20)) nin0)))))
    obtain ⟨T121, X121, e121, st121⟩ := getF X117 hx hZ hown (host := "") (Or.inl (hw _ (List.mem_of_getElem? (i := 18) rfl))) Via.refl rfl f120 (g := (mkF m 113 #[.val (.int p0), .val (.int p1), .val (.int p2), .val (.int (1 : Int32)), .val (.ref b54), .val (.ref b58)] [(.ref b54)])) rfl rfl (hb hby at_113)
    have c120_nn27 := nnAdd (vv hc120_c17_z4 hc120_c17_z5 hc120_c17_z7 hc120_c17_z8) (vv hc120_c24_z4 hc120_c24_z5 hc120_c24_z7 hc120_c24_z8) hc120_z27
    have c120_br29 := sums (vv hc31_c10_z4 hc31_c10_z5 hc31_c10_z7 hc31_c10_z8) (vv hc71_c10_z4 hc71_c10_z5 hc71_c10_z7 hc71_c10_z8) (vv hc120_c17_z4 hc120_c17_z5 hc120_c17_z7 hc120_c17_z8) (vv hc120_c24_z4 hc120_c24_z5 hc120_c24_z7 hc120_c24_z8) hc108_z24 hc120_z27 hc120_z28
    obtain ⟨_, _, ⟨T122, L122, k122, n122⟩, -, X122, ⟨Lc122, hQ122, ql122, qy122, qz122⟩, st122⟩ := Jvm.LawKit.callS X121 hx (y := (⟨"com/example/lumenstand/lumenstand/light/InterceptionAddPinLaw", "sum", "([DIIII)Z"⟩ : MethodName)) hown (mvT hZ (hw _ (List.mem_of_getElem? (i := 31) rfl))) (mvT hZ (hw _ (List.mem_of_getElem? (i := 32) rfl))) (mvT hZ (hw _ (List.mem_of_getElem? (i := 21) rfl))) (mvT hZ (hw _ (List.mem_of_getElem? (i := 33) rfl))) (by decide) (backOf (W := 0) (rm5_1 l Z a0 hw [] rb56_b2 (0 : Int32) p1 p2 kk56_k2 c108_z24 c120_c17_z4 c120_c17_z5 c120_c17_z7 c120_c17_z8 c120_c24_z4 c120_c24_z5 c120_c24_z7 c120_c24_z8 c120_z27 c120_z28 T117.heap n0 (Nat.le_trans (Nat.le_trans (Nat.le_trans (Nat.le_trans (Nat.le_trans (Nat.le_trans (Nat.le_trans (Nat.le_trans (Nat.le_trans (Nat.le_trans (Nat.le_trans (Nat.le_trans (Nat.le_trans Z0 E54.1) K56q.1) E58.1) K60q.1) K65q.1) K70q.1) K75q.1) K80q.1) K85q.1) K90q.1) K95q.1) K100q.1) K117q.1) Q117_0 hc120_c17_z4 hc120_c17_z5 hc120_c17_z7 hc120_c17_z8 hc120_c24_z4 hc120_c24_z5 hc120_c24_z7 hc120_c24_z8 hc120_z27 hc120_z28 c120_nn27 c120_br29) hZ (hw _ (List.mem_of_getElem? (i := 33) rfl)) (hw _ (List.mem_of_getElem? (i := 21) rfl)) (by decide) (by decide)) (g := (mkF m 120 #[.val (.int p0), .val (.int p1), .val (.int p2), .val (.int (1 : Int32)), .val (.ref b54), .val (.ref b58)] [(.int p2), (.int p1), (.int (0 : Int32)), (.int (1 : Int32)), (.ref rb56_b2)])) rfl (by rw [hml]; rfl) (argsL := [(.ref rb56_b2), (.int (1 : Int32)), (.int (0 : Int32)), (.int p1), (.int p2)]) (rest := []) (lenOf pd_4 rfl) rfl (by show 2 * 0 + _ ≤ _; exact Nat.le_of_eq rfl) (hb hby at_120) (fun _ _ => ⟨rfl, e121, (by decide : 10 + 0 ≤ _), (by decide : 16 + 0 ≤ _)⟩)
    dsimp only [Pt.U, Pt.locs, Pt.cells, Pt.slots] at X122 ql122 qy122 qz122 st122 hQ122
    subst ql122 qy122 qz122
    obtain ⟨rfl, N122q, e122⟩ := hQ122
    have N122 := Fr.app N117 N122q
    have f123 := (f111.keep K117q (ninS (Nat.ne_of_lt (Nat.lt_of_lt_of_le (A54).lt gz56_b2)) (ninS (Nat.ne_of_lt (Nat.lt_of_lt_of_le (A54).lt gz56_b8)) (ninS (Nat.ne_of_lt (Nat.lt_of_lt_of_le (A54).lt gz56_b14)) (ninS (Nat.ne_of_lt (Nat.lt_of_lt_of_le (A54).lt gz56_b20)) nin0)))))
    obtain ⟨T124, X124, e124, st124⟩ := getF X122 hx hZ hown (host := "") (Or.inl (hw _ (List.mem_of_getElem? (i := 23) rfl))) Via.refl e122 f123 (g := (mkF m 128 #[.val (.int p0), .val (.int p1), .val (.int p2), .val (.int (1 : Int32)), .val (.ref b54), .val (.ref b58)] [(.ref b54)])) rfl rfl (hb hby at_128)
    have c135_nn27 := nnAdd (vv hc135_c17_z4 hc135_c17_z5 hc135_c17_z7 hc135_c17_z8) (vv hc135_c24_z4 hc135_c24_z5 hc135_c24_z7 hc135_c24_z8) hc135_z27
    have c135_br29 := sums (vv hc41_c10_z4 hc41_c10_z5 hc41_c10_z7 hc41_c10_z8) (vv hc81_c10_z4 hc81_c10_z5 hc81_c10_z7 hc81_c10_z8) (vv hc135_c17_z4 hc135_c17_z5 hc135_c17_z7 hc135_c17_z8) (vv hc135_c24_z4 hc135_c24_z5 hc135_c24_z7 hc135_c24_z8) hc108_z39 hc135_z27 hc135_z28
    obtain ⟨_, _, ⟨T125, L125, k125, n125⟩, -, X125, ⟨Lc125, hQ125, ql125, qy125, qz125⟩, st125⟩ := Jvm.LawKit.callS X124 hx (y := (⟨"com/example/lumenstand/lumenstand/light/InterceptionAddPinLaw", "sum", "([DIIII)Z"⟩ : MethodName)) hown (mvT hZ (hw _ (List.mem_of_getElem? (i := 31) rfl))) (mvT hZ (hw _ (List.mem_of_getElem? (i := 32) rfl))) (mvT hZ (hw _ (List.mem_of_getElem? (i := 21) rfl))) (mvT hZ (hw _ (List.mem_of_getElem? (i := 33) rfl))) (by decide) (backOf (W := 0) (rm5_1 l Z a0 hw [] rb56_b8 (1 : Int32) p1 p2 kk56_k8 c108_z39 c135_c17_z4 c135_c17_z5 c135_c17_z7 c135_c17_z8 c135_c24_z4 c135_c24_z5 c135_c24_z7 c135_c24_z8 c135_z27 c135_z28 T117.heap n0 (Nat.le_trans (Nat.le_trans (Nat.le_trans (Nat.le_trans (Nat.le_trans (Nat.le_trans (Nat.le_trans (Nat.le_trans (Nat.le_trans (Nat.le_trans (Nat.le_trans (Nat.le_trans (Nat.le_trans Z0 E54.1) K56q.1) E58.1) K60q.1) K65q.1) K70q.1) K75q.1) K80q.1) K85q.1) K90q.1) K95q.1) K100q.1) K117q.1) Q117_1 hc135_c17_z4 hc135_c17_z5 hc135_c17_z7 hc135_c17_z8 hc135_c24_z4 hc135_c24_z5 hc135_c24_z7 hc135_c24_z8 hc135_z27 hc135_z28 c135_nn27 c135_br29) hZ (hw _ (List.mem_of_getElem? (i := 33) rfl)) (hw _ (List.mem_of_getElem? (i := 21) rfl)) (by decide) (by decide)) (g := (mkF m 135 #[.val (.int p0), .val (.int p1), .val (.int p2), .val (.int (1 : Int32)), .val (.ref b54), .val (.ref b58)] [(.int p2), (.int p1), (.int (1 : Int32)), (.int (1 : Int32)), (.ref rb56_b8)])) rfl (by rw [hml]; rfl) (argsL := [(.ref rb56_b8), (.int (1 : Int32)), (.int (1 : Int32)), (.int p1), (.int p2)]) (rest := []) (lenOf pd_4 rfl) rfl (by show 2 * 0 + _ ≤ _; exact Nat.le_of_eq rfl) (hb hby at_135) (fun _ _ => ⟨rfl, e124, (by decide : 10 + 0 ≤ _), (by decide : 16 + 0 ≤ _)⟩)
    dsimp only [Pt.U, Pt.locs, Pt.cells, Pt.slots] at X125 ql125 qy125 qz125 st125 hQ125
    subst ql125 qy125 qz125
    obtain ⟨rfl, N125q, e125⟩ := hQ125
    have N125 := Fr.app N122 N125q
    have f126 := (f113.keep K117q (ninS (Nat.ne_of_lt (Nat.lt_of_lt_of_le (A54).lt gz56_b2)) (ninS (Nat.ne_of_lt (Nat.lt_of_lt_of_le (A54).lt gz56_b8)) (ninS (Nat.ne_of_lt (Nat.lt_of_lt_of_le (A54).lt gz56_b14)) (ninS (Nat.ne_of_lt (Nat.lt_of_lt_of_le (A54).lt gz56_b20)) nin0)))))
    obtain ⟨T127, X127, e127, st127⟩ := getF X125 hx hZ hown (host := "") (Or.inl (hw _ (List.mem_of_getElem? (i := 24) rfl))) Via.refl e125 f126 (g := (mkF m 143 #[.val (.int p0), .val (.int p1), .val (.int p2), .val (.int (1 : Int32)), .val (.ref b54), .val (.ref b58)] [(.ref b54)])) rfl rfl (hb hby at_143)
    have c150_nn27 := nnAdd (vv hc150_c17_z4 hc150_c17_z5 hc150_c17_z7 hc150_c17_z8) (vv hc150_c24_z4 hc150_c24_z5 hc150_c24_z7 hc150_c24_z8) hc150_z27
    have c150_br29 := sums (vv hc51_c10_z4 hc51_c10_z5 hc51_c10_z7 hc51_c10_z8) (vv hc91_c10_z4 hc91_c10_z5 hc91_c10_z7 hc91_c10_z8) (vv hc150_c17_z4 hc150_c17_z5 hc150_c17_z7 hc150_c17_z8) (vv hc150_c24_z4 hc150_c24_z5 hc150_c24_z7 hc150_c24_z8) hc108_z54 hc150_z27 hc150_z28
    obtain ⟨_, _, ⟨T128, L128, k128, n128⟩, -, X128, ⟨Lc128, hQ128, ql128, qy128, qz128⟩, st128⟩ := Jvm.LawKit.callS X127 hx (y := (⟨"com/example/lumenstand/lumenstand/light/InterceptionAddPinLaw", "sum", "([DIIII)Z"⟩ : MethodName)) hown (mvT hZ (hw _ (List.mem_of_getElem? (i := 31) rfl))) (mvT hZ (hw _ (List.mem_of_getElem? (i := 32) rfl))) (mvT hZ (hw _ (List.mem_of_getElem? (i := 21) rfl))) (mvT hZ (hw _ (List.mem_of_getElem? (i := 33) rfl))) (by decide) (backOf (W := 0) (rm5_1 l Z a0 hw [] rb56_b14 (2 : Int32) p1 p2 kk56_k14 c108_z54 c150_c17_z4 c150_c17_z5 c150_c17_z7 c150_c17_z8 c150_c24_z4 c150_c24_z5 c150_c24_z7 c150_c24_z8 c150_z27 c150_z28 T117.heap n0 (Nat.le_trans (Nat.le_trans (Nat.le_trans (Nat.le_trans (Nat.le_trans (Nat.le_trans (Nat.le_trans (Nat.le_trans (Nat.le_trans (Nat.le_trans (Nat.le_trans (Nat.le_trans (Nat.le_trans Z0 E54.1) K56q.1) E58.1) K60q.1) K65q.1) K70q.1) K75q.1) K80q.1) K85q.1) K90q.1) K95q.1) K100q.1) K117q.1) Q117_2 hc150_c17_z4 hc150_c17_z5 hc150_c17_z7 hc150_c17_z8 hc150_c24_z4 hc150_c24_z5 hc150_c24_z7 hc150_c24_z8 hc150_z27 hc150_z28 c150_nn27 c150_br29) hZ (hw _ (List.mem_of_getElem? (i := 33) rfl)) (hw _ (List.mem_of_getElem? (i := 21) rfl)) (by decide) (by decide)) (g := (mkF m 150 #[.val (.int p0), .val (.int p1), .val (.int p2), .val (.int (1 : Int32)), .val (.ref b54), .val (.ref b58)] [(.int p2), (.int p1), (.int (2 : Int32)), (.int (1 : Int32)), (.ref rb56_b14)])) rfl (by rw [hml]; rfl) (argsL := [(.ref rb56_b14), (.int (1 : Int32)), (.int (2 : Int32)), (.int p1), (.int p2)]) (rest := []) (lenOf pd_4 rfl) rfl (by show 2 * 0 + _ ≤ _; exact Nat.le_of_eq rfl) (hb hby at_150) (fun _ _ => ⟨rfl, e127, (by decide : 10 + 0 ≤ _), (by decide : 16 + 0 ≤ _)⟩)
    dsimp only [Pt.U, Pt.locs, Pt.cells, Pt.slots] at X128 ql128 qy128 qz128 st128 hQ128
    subst ql128 qy128 qz128
    obtain ⟨rfl, N128q, e128⟩ := hQ128
    have N128 := Fr.app N125 N128q
    have f129 := (f115.keep K117q (ninS (Nat.ne_of_lt (Nat.lt_of_lt_of_le (A54).lt gz56_b2)) (ninS (Nat.ne_of_lt (Nat.lt_of_lt_of_le (A54).lt gz56_b8)) (ninS (Nat.ne_of_lt (Nat.lt_of_lt_of_le (A54).lt gz56_b14)) (ninS (Nat.ne_of_lt (Nat.lt_of_lt_of_le (A54).lt gz56_b20)) nin0)))))
    obtain ⟨T130, X130, e130, st130⟩ := getF X128 hx hZ hown (host := "") (Or.inl (hw _ (List.mem_of_getElem? (i := 25) rfl))) Via.refl e128 f129 (g := (mkF m 158 #[.val (.int p0), .val (.int p1), .val (.int p2), .val (.int (1 : Int32)), .val (.ref b54), .val (.ref b58)] [(.ref b54)])) rfl rfl (hb hby at_158)
    have c165_nn27 := nnAdd (vv hc165_c17_z4 hc165_c17_z5 hc165_c17_z7 hc165_c17_z8) (vv hc165_c24_z4 hc165_c24_z5 hc165_c24_z7 hc165_c24_z8) hc165_z27
    have c165_br29 := sums (vv hc61_c10_z4 hc61_c10_z5 hc61_c10_z7 hc61_c10_z8) (vv hc101_c10_z4 hc101_c10_z5 hc101_c10_z7 hc101_c10_z8) (vv hc165_c17_z4 hc165_c17_z5 hc165_c17_z7 hc165_c17_z8) (vv hc165_c24_z4 hc165_c24_z5 hc165_c24_z7 hc165_c24_z8) hc108_z69 hc165_z27 hc165_z28
    obtain ⟨_, _, ⟨T131, L131, k131, n131⟩, -, X131, ⟨Lc131, hQ131, ql131, qy131, qz131⟩, st131⟩ := Jvm.LawKit.callS X130 hx (y := (⟨"com/example/lumenstand/lumenstand/light/InterceptionAddPinLaw", "sum", "([DIIII)Z"⟩ : MethodName)) hown (mvT hZ (hw _ (List.mem_of_getElem? (i := 31) rfl))) (mvT hZ (hw _ (List.mem_of_getElem? (i := 32) rfl))) (mvT hZ (hw _ (List.mem_of_getElem? (i := 21) rfl))) (mvT hZ (hw _ (List.mem_of_getElem? (i := 33) rfl))) (by decide) (backOf (W := 0) (rm5_1 l Z a0 hw [] rb56_b20 (3 : Int32) p1 p2 kk56_k20 c108_z69 c165_c17_z4 c165_c17_z5 c165_c17_z7 c165_c17_z8 c165_c24_z4 c165_c24_z5 c165_c24_z7 c165_c24_z8 c165_z27 c165_z28 T117.heap n0 (Nat.le_trans (Nat.le_trans (Nat.le_trans (Nat.le_trans (Nat.le_trans (Nat.le_trans (Nat.le_trans (Nat.le_trans (Nat.le_trans (Nat.le_trans (Nat.le_trans (Nat.le_trans (Nat.le_trans Z0 E54.1) K56q.1) E58.1) K60q.1) K65q.1) K70q.1) K75q.1) K80q.1) K85q.1) K90q.1) K95q.1) K100q.1) K117q.1) Q117_3 hc165_c17_z4 hc165_c17_z5 hc165_c17_z7 hc165_c17_z8 hc165_c24_z4 hc165_c24_z5 hc165_c24_z7 hc165_c24_z8 hc165_z27 hc165_z28 c165_nn27 c165_br29) hZ (hw _ (List.mem_of_getElem? (i := 33) rfl)) (hw _ (List.mem_of_getElem? (i := 21) rfl)) (by decide) (by decide)) (g := (mkF m 165 #[.val (.int p0), .val (.int p1), .val (.int p2), .val (.int (1 : Int32)), .val (.ref b54), .val (.ref b58)] [(.int p2), (.int p1), (.int (3 : Int32)), (.int (1 : Int32)), (.ref rb56_b20)])) rfl (by rw [hml]; rfl) (argsL := [(.ref rb56_b20), (.int (1 : Int32)), (.int (3 : Int32)), (.int p1), (.int p2)]) (rest := []) (lenOf pd_4 rfl) rfl (by show 2 * 0 + _ ≤ _; exact Nat.le_of_eq rfl) (hb hby at_165) (fun _ _ => ⟨rfl, e130, (by decide : 10 + 0 ≤ _), (by decide : 16 + 0 ≤ _)⟩)
    dsimp only [Pt.U, Pt.locs, Pt.cells, Pt.slots] at X131 ql131 qy131 qz131 st131 hQ131
    subst ql131 qy131 qz131
    obtain ⟨rfl, N131q, e131⟩ := hQ131
    have N131 := Fr.app N128 N131q
    have f132 := (f110.keep K117q (ninS (Ne.symm (Nat.ne_of_lt (Nat.lt_of_lt_of_le (Q56_5).lt (Nat.le_of_eq g58.symm)))) (ninS (Ne.symm (Nat.ne_of_lt (Nat.lt_of_lt_of_le (Q56_6).lt (Nat.le_of_eq g58.symm)))) (ninS (Ne.symm (Nat.ne_of_lt (Nat.lt_of_lt_of_le (Q56_7).lt (Nat.le_of_eq g58.symm)))) (ninS (Ne.symm (Nat.ne_of_lt (Nat.lt_of_lt_of_le (Q56_8).lt (Nat.le_of_eq g58.symm)))) nin0)))))
    obtain ⟨T133, X133, e133, st133⟩ := getF X131 hx hZ hown (host := "") (Or.inl (hw _ (List.mem_of_getElem? (i := 18) rfl))) Via.refl e131 f132 (g := (mkF m 173 #[.val (.int p0), .val (.int p1), .val (.int p2), .val (.int (1 : Int32)), .val (.ref b54), .val (.ref b58)] [(.ref b58)])) rfl rfl (hb hby at_173)
    have c179_br21 := same (vv hc71_c10_z4 hc71_c10_z5 hc71_c10_z7 hc71_c10_z8) (vv hc179_c17_z4 hc179_c17_z5 hc179_c17_z7 hc179_c17_z8) hc179_z20
    have f134 := (f103.keep K117q (ninS (Ne.symm (Nat.ne_of_lt (Nat.lt_of_lt_of_le ((Q56_5.ext E58)).lt gz60_b2))) (ninS (Ne.symm (Nat.ne_of_lt (Nat.lt_of_lt_of_le ((Q56_6.ext E58)).lt gz60_b2))) (ninS (Ne.symm (Nat.ne_of_lt (Nat.lt_of_lt_of_le ((Q56_7.ext E58)).lt gz60_b2))) (ninS (Ne.symm (Nat.ne_of_lt (Nat.lt_of_lt_of_le ((Q56_8.ext E58)).lt gz60_b2))) nin0)))))
    obtain ⟨_, _, ⟨T135, L135, k135, n135⟩, -, X135, ⟨Lc135, hQ135, ql135, qy135, qz135⟩, st135⟩ := Jvm.LawKit.callS X133 hx (y := (⟨"com/example/lumenstand/lumenstand/light/InterceptionAddPinLaw", "kept", "([DIII)Z"⟩ : MethodName)) hown (mvT hZ (hw _ (List.mem_of_getElem? (i := 34) rfl))) (mvT hZ (hw _ (List.mem_of_getElem? (i := 35) rfl))) (mvT hZ (hw _ (List.mem_of_getElem? (i := 21) rfl))) (mvT hZ (hw _ (List.mem_of_getElem? (i := 36) rfl))) (by decide) (backOf (W := 0) (rm6_1 l Z a0 hw [] rb60_b2 (0 : Int32) p2 kk60_k2 c71_c10_z8 c179_c17_z4 c179_c17_z5 c179_c17_z7 c179_c17_z8 c179_z20 T117.heap n0 (Nat.le_trans (Nat.le_trans (Nat.le_trans (Nat.le_trans (Nat.le_trans (Nat.le_trans (Nat.le_trans (Nat.le_trans (Nat.le_trans (Nat.le_trans (Nat.le_trans (Nat.le_trans (Nat.le_trans Z0 E54.1) K56q.1) E58.1) K60q.1) K65q.1) K70q.1) K75q.1) K80q.1) K85q.1) K90q.1) K95q.1) K100q.1) K117q.1) f134 hc179_c17_z4 hc179_c17_z5 hc179_c17_z7 hc179_c17_z8 hc179_z20 c179_br21) hZ (hw _ (List.mem_of_getElem? (i := 36) rfl)) (hw _ (List.mem_of_getElem? (i := 21) rfl)) (by decide) (by decide)) (g := (mkF m 179 #[.val (.int p0), .val (.int p1), .val (.int p2), .val (.int (1 : Int32)), .val (.ref b54), .val (.ref b58)] [(.int p2), (.int (0 : Int32)), (.int (1 : Int32)), (.ref rb60_b2)])) rfl (by rw [hml]; rfl) (argsL := [(.ref rb60_b2), (.int (1 : Int32)), (.int (0 : Int32)), (.int p2)]) (rest := []) (lenOf pd_5 rfl) rfl (by show 2 * 0 + _ ≤ _; exact Nat.le_of_eq rfl) (hb hby at_179) (fun _ _ => ⟨rfl, e133, (by decide : 10 + 0 ≤ _), (by decide : 16 + 0 ≤ _)⟩)
    dsimp only [Pt.U, Pt.locs, Pt.cells, Pt.slots] at X135 ql135 qy135 qz135 st135 hQ135
    subst ql135 qy135 qz135
    obtain ⟨rfl, N135q, e135⟩ := hQ135
    have N135 := Fr.app N131 N135q
    have f136 := (f112.keep K117q (ninS (Ne.symm (Nat.ne_of_lt (Nat.lt_of_lt_of_le (Q56_5).lt (Nat.le_of_eq g58.symm)))) (ninS (Ne.symm (Nat.ne_of_lt (Nat.lt_of_lt_of_le (Q56_6).lt (Nat.le_of_eq g58.symm)))) (ninS (Ne.symm (Nat.ne_of_lt (Nat.lt_of_lt_of_le (Q56_7).lt (Nat.le_of_eq g58.symm)))) (ninS (Ne.symm (Nat.ne_of_lt (Nat.lt_of_lt_of_le (Q56_8).lt (Nat.le_of_eq g58.symm)))) nin0)))))
    obtain ⟨T137, X137, e137, st137⟩ := getF X135 hx hZ hown (host := "") (Or.inl (hw _ (List.mem_of_getElem? (i := 23) rfl))) Via.refl e135 f136 (g := (mkF m 187 #[.val (.int p0), .val (.int p1), .val (.int p2), .val (.int (1 : Int32)), .val (.ref b54), .val (.ref b58)] [(.ref b58)])) rfl rfl (hb hby at_187)
    have c193_br21 := same (vv hc81_c10_z4 hc81_c10_z5 hc81_c10_z7 hc81_c10_z8) (vv hc193_c17_z4 hc193_c17_z5 hc193_c17_z7 hc193_c17_z8) hc193_z20
    have f138 := (f105.keep K117q (ninS (Ne.symm (Nat.ne_of_lt (Nat.lt_of_lt_of_le ((Q56_5.ext E58)).lt gz60_b8))) (ninS (Ne.symm (Nat.ne_of_lt (Nat.lt_of_lt_of_le ((Q56_6.ext E58)).lt gz60_b8))) (ninS (Ne.symm (Nat.ne_of_lt (Nat.lt_of_lt_of_le ((Q56_7.ext E58)).lt gz60_b8))) (ninS (Ne.symm (Nat.ne_of_lt (Nat.lt_of_lt_of_le ((Q56_8.ext E58)).lt gz60_b8))) nin0)))))
    obtain ⟨_, _, ⟨T139, L139, k139, n139⟩, -, X139, ⟨Lc139, hQ139, ql139, qy139, qz139⟩, st139⟩ := Jvm.LawKit.callS X137 hx (y := (⟨"com/example/lumenstand/lumenstand/light/InterceptionAddPinLaw", "kept", "([DIII)Z"⟩ : MethodName)) hown (mvT hZ (hw _ (List.mem_of_getElem? (i := 34) rfl))) (mvT hZ (hw _ (List.mem_of_getElem? (i := 35) rfl))) (mvT hZ (hw _ (List.mem_of_getElem? (i := 21) rfl))) (mvT hZ (hw _ (List.mem_of_getElem? (i := 36) rfl))) (by decide) (backOf (W := 0) (rm6_1 l Z a0 hw [] rb60_b8 (1 : Int32) p2 kk60_k8 c81_c10_z8 c193_c17_z4 c193_c17_z5 c193_c17_z7 c193_c17_z8 c193_z20 T117.heap n0 (Nat.le_trans (Nat.le_trans (Nat.le_trans (Nat.le_trans (Nat.le_trans (Nat.le_trans (Nat.le_trans (Nat.le_trans (Nat.le_trans (Nat.le_trans (Nat.le_trans (Nat.le_trans (Nat.le_trans Z0 E54.1) K56q.1) E58.1) K60q.1) K65q.1) K70q.1) K75q.1) K80q.1) K85q.1) K90q.1) K95q.1) K100q.1) K117q.1) f138 hc193_c17_z4 hc193_c17_z5 hc193_c17_z7 hc193_c17_z8 hc193_z20 c193_br21) hZ (hw _ (List.mem_of_getElem? (i := 36) rfl)) (hw _ (List.mem_of_getElem? (i := 21) rfl)) (by decide) (by decide)) (g := (mkF m 193 #[.val (.int p0), .val (.int p1), .val (.int p2), .val (.int (1 : Int32)), .val (.ref b54), .val (.ref b58)] [(.int p2), (.int (1 : Int32)), (.int (1 : Int32)), (.ref rb60_b8)])) rfl (by rw [hml]; rfl) (argsL := [(.ref rb60_b8), (.int (1 : Int32)), (.int (1 : Int32)), (.int p2)]) (rest := []) (lenOf pd_5 rfl) rfl (by show 2 * 0 + _ ≤ _; exact Nat.le_of_eq rfl) (hb hby at_193) (fun _ _ => ⟨rfl, e137, (by decide : 10 + 0 ≤ _), (by decide : 16 + 0 ≤ _)⟩)
    dsimp only [Pt.U, Pt.locs, Pt.cells, Pt.slots] at X139 ql139 qy139 qz139 st139 hQ139
    subst ql139 qy139 qz139
    obtain ⟨rfl, N139q, e139⟩ := hQ139
    have N139 := Fr.app N135 N139q
    have f140 := (f114.keep K117q (ninS (Ne.symm (Nat.ne_of_lt (Nat.lt_of_lt_of_le (Q56_5).lt (Nat.le_of_eq g58.symm)))) (ninS (Ne.symm (Nat.ne_of_lt (Nat.lt_of_lt_of_le (Q56_6).lt (Nat.le_of_eq g58.symm)))) (ninS (Ne.symm (Nat.ne_of_lt (Nat.lt_of_lt_of_le (Q56_7).lt (Nat.le_of_eq g58.symm)))) (ninS (Ne.symm (Nat.ne_of_lt (Nat.lt_of_lt_of_le (Q56_8).lt (Nat.le_of_eq g58.symm)))) nin0)))))
    obtain ⟨T141, X141, e141, st141⟩ := getF X139 hx hZ hown (host := "") (Or.inl (hw _ (List.mem_of_getElem? (i := 24) rfl))) Via.refl e139 f140 (g := (mkF m 201 #[.val (.int p0), .val (.int p1), .val (.int p2), .val (.int (1 : Int32)), .val (.ref b54), .val (.ref b58)] [(.ref b58)])) rfl rfl (hb hby at_201)
    have c207_br21 := same (vv hc91_c10_z4 hc91_c10_z5 hc91_c10_z7 hc91_c10_z8) (vv hc207_c17_z4 hc207_c17_z5 hc207_c17_z7 hc207_c17_z8) hc207_z20
    have f142 := (f107.keep K117q (ninS (Ne.symm (Nat.ne_of_lt (Nat.lt_of_lt_of_le ((Q56_5.ext E58)).lt gz60_b14))) (ninS (Ne.symm (Nat.ne_of_lt (Nat.lt_of_lt_of_le ((Q56_6.ext E58)).lt gz60_b14))) (ninS (Ne.symm (Nat.ne_of_lt (Nat.lt_of_lt_of_le ((Q56_7.ext E58)).lt gz60_b14))) (ninS (Ne.symm (Nat.ne_of_lt (Nat.lt_of_lt_of_le ((Q56_8.ext E58)).lt gz60_b14))) nin0)))))
    obtain ⟨_, _, ⟨T143, L143, k143, n143⟩, -, X143, ⟨Lc143, hQ143, ql143, qy143, qz143⟩, st143⟩ := Jvm.LawKit.callS X141 hx (y := (⟨"com/example/lumenstand/lumenstand/light/InterceptionAddPinLaw", "kept", "([DIII)Z"⟩ : MethodName)) hown (mvT hZ (hw _ (List.mem_of_getElem? (i := 34) rfl))) (mvT hZ (hw _ (List.mem_of_getElem? (i := 35) rfl))) (mvT hZ (hw _ (List.mem_of_getElem? (i := 21) rfl))) (mvT hZ (hw _ (List.mem_of_getElem? (i := 36) rfl))) (by decide) (backOf (W := 0) (rm6_1 l Z a0 hw [] rb60_b14 (2 : Int32) p2 kk60_k14 c91_c10_z8 c207_c17_z4 c207_c17_z5 c207_c17_z7 c207_c17_z8 c207_z20 T117.heap n0 (Nat.le_trans (Nat.le_trans (Nat.le_trans (Nat.le_trans (Nat.le_trans (Nat.le_trans (Nat.le_trans (Nat.le_trans (Nat.le_trans (Nat.le_trans (Nat.le_trans (Nat.le_trans (Nat.le_trans Z0 E54.1) K56q.1) E58.1) K60q.1) K65q.1) K70q.1) K75q.1) K80q.1) K85q.1) K90q.1) K95q.1) K100q.1) K117q.1) f142 hc207_c17_z4 hc207_c17_z5 hc207_c17_z7 hc207_c17_z8 hc207_z20 c207_br21) hZ (hw _ (List.mem_of_getElem? (i := 36) rfl)) (hw _ (List.mem_of_getElem? (i := 21) rfl)) (by decide) (by decide)) (g := (mkF m 207 #[.val (.int p0), .val (.int p1), .val (.int p2), .val (.int (1 : Int32)), .val (.ref b54), .val (.ref b58)] [(.int p2), (.int (2 : Int32)), (.int (1 : Int32)), (.ref rb60_b14)])) rfl (by rw [hml]; rfl) (argsL := [(.ref rb60_b14), (.int (1 : Int32)), (.int (2 : Int32)), (.int p2)]) (rest := []) (lenOf pd_5 rfl) rfl (by show 2 * 0 + _ ≤ _; exact Nat.le_of_eq rfl) (hb hby at_207) (fun _ _ => ⟨rfl, e141, (by decide : 10 + 0 ≤ _), (by decide : 16 + 0 ≤ _)⟩)
    dsimp only [Pt.U, Pt.locs, Pt.cells, Pt.slots] at X143 ql143 qy143 qz143 st143 hQ143
    subst ql143 qy143 qz143
    obtain ⟨rfl, N143q, e143⟩ := hQ143
    have N143 := Fr.app N139 N143q
    have f144 := (f116.keep K117q (ninS (Ne.symm (Nat.ne_of_lt (Nat.lt_of_lt_of_le (Q56_5).lt (Nat.le_of_eq g58.symm)))) (ninS (Ne.symm (Nat.ne_of_lt (Nat.lt_of_lt_of_le (Q56_6).lt (Nat.le_of_eq g58.symm)))) (ninS (Ne.symm (Nat.ne_of_lt (Nat.lt_of_lt_of_le (Q56_7).lt (Nat.le_of_eq g58.symm)))) (ninS (Ne.symm (Nat.ne_of_lt (Nat.lt_of_lt_of_le (Q56_8).lt (Nat.le_of_eq g58.symm)))) nin0)))))
    obtain ⟨T145, X145, e145, st145⟩ := getF X143 hx hZ hown (host := "") (Or.inl (hw _ (List.mem_of_getElem? (i := 25) rfl))) Via.refl e143 f144 (g := (mkF m 215 #[.val (.int p0), .val (.int p1), .val (.int p2), .val (.int (1 : Int32)), .val (.ref b54), .val (.ref b58)] [(.ref b58)])) rfl rfl (hb hby at_215)
    have c221_br21 := same (vv hc101_c10_z4 hc101_c10_z5 hc101_c10_z7 hc101_c10_z8) (vv hc221_c17_z4 hc221_c17_z5 hc221_c17_z7 hc221_c17_z8) hc221_z20
    have f146 := (Q100_0.keep K117q (ninS (Ne.symm (Nat.ne_of_lt (Nat.lt_of_lt_of_le ((Q56_5.ext E58)).lt gz60_b20))) (ninS (Ne.symm (Nat.ne_of_lt (Nat.lt_of_lt_of_le ((Q56_6.ext E58)).lt gz60_b20))) (ninS (Ne.symm (Nat.ne_of_lt (Nat.lt_of_lt_of_le ((Q56_7.ext E58)).lt gz60_b20))) (ninS (Ne.symm (Nat.ne_of_lt (Nat.lt_of_lt_of_le ((Q56_8.ext E58)).lt gz60_b20))) nin0)))))
    obtain ⟨_, _, ⟨T147, L147, k147, n147⟩, -, X147, ⟨Lc147, hQ147, ql147, qy147, qz147⟩, st147⟩ := Jvm.LawKit.callS X145 hx (y := (⟨"com/example/lumenstand/lumenstand/light/InterceptionAddPinLaw", "kept", "([DIII)Z"⟩ : MethodName)) hown (mvT hZ (hw _ (List.mem_of_getElem? (i := 34) rfl))) (mvT hZ (hw _ (List.mem_of_getElem? (i := 35) rfl))) (mvT hZ (hw _ (List.mem_of_getElem? (i := 21) rfl))) (mvT hZ (hw _ (List.mem_of_getElem? (i := 36) rfl))) (by decide) (backOf (W := 0) (rm6_1 l Z a0 hw [] rb60_b20 (3 : Int32) p2 kk60_k20 c101_c10_z8 c221_c17_z4 c221_c17_z5 c221_c17_z7 c221_c17_z8 c221_z20 T117.heap n0 (Nat.le_trans (Nat.le_trans (Nat.le_trans (Nat.le_trans (Nat.le_trans (Nat.le_trans (Nat.le_trans (Nat.le_trans (Nat.le_trans (Nat.le_trans (Nat.le_trans (Nat.le_trans (Nat.le_trans Z0 E54.1) K56q.1) E58.1) K60q.1) K65q.1) K70q.1) K75q.1) K80q.1) K85q.1) K90q.1) K95q.1) K100q.1) K117q.1) f146 hc221_c17_z4 hc221_c17_z5 hc221_c17_z7 hc221_c17_z8 hc221_z20 c221_br21) hZ (hw _ (List.mem_of_getElem? (i := 36) rfl)) (hw _ (List.mem_of_getElem? (i := 21) rfl)) (by decide) (by decide)) (g := (mkF m 221 #[.val (.int p0), .val (.int p1), .val (.int p2), .val (.int (1 : Int32)), .val (.ref b54), .val (.ref b58)] [(.int p2), (.int (3 : Int32)), (.int (1 : Int32)), (.ref rb60_b20)])) rfl (by rw [hml]; rfl) (argsL := [(.ref rb60_b20), (.int (1 : Int32)), (.int (3 : Int32)), (.int p2)]) (rest := []) (lenOf pd_5 rfl) rfl (by show 2 * 0 + _ ≤ _; exact Nat.le_of_eq rfl) (hb hby at_221) (fun _ _ => ⟨rfl, e145, (by decide : 10 + 0 ≤ _), (by decide : 16 + 0 ≤ _)⟩)
    dsimp only [Pt.U, Pt.locs, Pt.cells, Pt.slots] at X147 ql147 qy147 qz147 st147 hQ147
    subst ql147 qy147 qz147
    obtain ⟨rfl, N147q, e147⟩ := hQ147
    have N147 := Fr.app N143 N147q
    have c148 : ∀ t, Steps p.tables e below (T147.setTop (mkF m 232 #[.val (.int p0), .val (.int p1), .val (.int p2), .val (.int (1 : Int32)), .val (.ref b54), .val (.ref b58)] [(.int (1 : Int32))])) t → Steps p.tables e below (s₁.setTop (entryFrame m #[(.int p0), (.int p1), (.int p2)] maxLocals)) t := by
      intro t k
      refine c1 t ?_
      show Steps p.tables e below (s₁.setTop (mkF m 4 #[.val (.int p0), .val (.int p1), .val (.int p2), .val (.int (1 : Int32)), .unset, .unset] [])) _
      refine st54 _ ?_
      show Steps p.tables e below (T54.setTop (mkF m 7 #[.val (.int p0), .val (.int p1), .val (.int p2), .val (.int (1 : Int32)), .unset, .unset] [(.ref b54)])) _
      refine XS.dup X54.here hx rfl (hb hby at_7) rfl rfl ?_
      show Steps p.tables e below (T54.setTop (mkF m 8 #[.val (.int p0), .val (.int p1), .val (.int p2), .val (.int (1 : Int32)), .unset, .unset] [(.ref b54), (.ref b54)])) _
      refine XS.iloadN X54.here hx rfl (hb hby at_8) rfl ?_
      show Steps p.tables e below (T54.setTop (mkF m 9 #[.val (.int p0), .val (.int p1), .val (.int p2), .val (.int (1 : Int32)), .unset, .unset] [(.int (1 : Int32)), (.ref b54), (.ref b54)])) _
      refine st56.trans ?_
      show Steps p.tables e below (T56.setTop (mkF m 12 #[.val (.int p0), .val (.int p1), .val (.int p2), .val (.int (1 : Int32)), .unset, .unset] [(.ref b54)])) _
      refine XS.astore X56.here hx rfl (hb hby at_12) rfl rfl (l' := #[.val (.int p0), .val (.int p1), .val (.int p2), .val (.int (1 : Int32)), .val (.ref b54), .unset]) rfl ?_
      show Steps p.tables e below (T56.setTop (mkF m 14 #[.val (.int p0), .val (.int p1), .val (.int p2), .val (.int (1 : Int32)), .val (.ref b54), .unset] [])) _
      refine st58 _ ?_
      show Steps p.tables e below (T58.setTop (mkF m 17 #[.val (.int p0), .val (.int p1), .val (.int p2), .val (.int (1 : Int32)), .val (.ref b54), .unset] [(.ref b58)])) _
      refine XS.dup X58.here hx rfl (hb hby at_17) rfl rfl ?_
      show Steps p.tables e below (T58.setTop (mkF m 18 #[.val (.int p0), .val (.int p1), .val (.int p2), .val (.int (1 : Int32)), .val (.ref b54), .unset] [(.ref b58), (.ref b58)])) _
      refine XS.iloadN X58.here hx rfl (hb hby at_18) rfl ?_
      show Steps p.tables e below (T58.setTop (mkF m 19 #[.val (.int p0), .val (.int p1), .val (.int p2), .val (.int (1 : Int32)), .val (.ref b54), .unset] [(.int (1 : Int32)), (.ref b58), (.ref b58)])) _
      refine st60.trans ?_
      show Steps p.tables e below (T60.setTop (mkF m 22 #[.val (.int p0), .val (.int p1), .val (.int p2), .val (.int (1 : Int32)), .val (.ref b54), .unset] [(.ref b58)])) _
      refine XS.astore X60.here hx rfl (hb hby at_22) rfl rfl (l' := #[.val (.int p0), .val (.int p1), .val (.int p2), .val (.int (1 : Int32)), .val (.ref b54), .val (.ref b58)]) rfl ?_
      show Steps p.tables e below (T60.setTop (mkF m 24 #[.val (.int p0), .val (.int p1), .val (.int p2), .val (.int (1 : Int32)), .val (.ref b54), .val (.ref b58)] [])) _
      refine XS.aload X60.here hx rfl (hb hby at_24) rfl rfl ?_
      show Steps p.tables e below (T60.setTop (mkF m 26 #[.val (.int p0), .val (.int p1), .val (.int p2), .val (.int (1 : Int32)), .val (.ref b54), .val (.ref b58)] [(.ref b54)])) _
      refine st63 _ ?_
      show Steps p.tables e below (T63.setTop (mkF m 29 #[.val (.int p0), .val (.int p1), .val (.int p2), .val (.int (1 : Int32)), .val (.ref b54), .val (.ref b58)] [(.ref rb56_b2)])) _
      refine XS.iconst X63.here hx rfl (hb hby at_29) ?_
      show Steps p.tables e below (T63.setTop (mkF m 30 #[.val (.int p0), .val (.int p1), .val (.int p2), .val (.int (1 : Int32)), .val (.ref b54), .val (.ref b58)] [(.int (0 : Int32)), (.ref rb56_b2)])) _
      refine XS.iloadN X63.here hx rfl (hb hby at_30) rfl ?_
      show Steps p.tables e below (T63.setTop (mkF m 31 #[.val (.int p0), .val (.int p1), .val (.int p2), .val (.int (1 : Int32)), .val (.ref b54), .val (.ref b58)] [(.int p1), (.int (0 : Int32)), (.ref rb56_b2)])) _
      refine st65 _ ?_
      show Steps p.tables e below (T65.setTop (mkF m 34 #[.val (.int p0), .val (.int p1), .val (.int p2), .val (.int (1 : Int32)), .val (.ref b54), .val (.ref b58)] [])) _
      refine XS.aload X65.here hx rfl (hb hby at_34) rfl rfl ?_
      show Steps p.tables e below (T65.setTop (mkF m 36 #[.val (.int p0), .val (.int p1), .val (.int p2), .val (.int (1 : Int32)), .val (.ref b54), .val (.ref b58)] [(.ref b54)])) _
      refine st68 _ ?_
      show Steps p.tables e below (T68.setTop (mkF m 39 #[.val (.int p0), .val (.int p1), .val (.int p2), .val (.int (1 : Int32)), .val (.ref b54), .val (.ref b58)] [(.ref rb56_b8)])) _
      refine XS.iconst X68.here hx rfl (hb hby at_39) ?_
      show Steps p.tables e below (T68.setTop (mkF m 40 #[.val (.int p0), .val (.int p1), .val (.int p2), .val (.int (1 : Int32)), .val (.ref b54), .val (.ref b58)] [(.int (1 : Int32)), (.ref rb56_b8)])) _
      refine XS.iloadN X68.here hx rfl (hb hby at_40) rfl ?_
      show Steps p.tables e below (T68.setTop (mkF m 41 #[.val (.int p0), .val (.int p1), .val (.int p2), .val (.int (1 : Int32)), .val (.ref b54), .val (.ref b58)] [(.int p1), (.int (1 : Int32)), (.ref rb56_b8)])) _
      refine st70 _ ?_
      show Steps p.tables e below (T70.setTop (mkF m 44 #[.val (.int p0), .val (.int p1), .val (.int p2), .val (.int (1 : Int32)), .val (.ref b54), .val (.ref b58)] [])) _
      refine XS.aload X70.here hx rfl (hb hby at_44) rfl rfl ?_
      show Steps p.tables e below (T70.setTop (mkF m 46 #[.val (.int p0), .val (.int p1), .val (.int p2), .val (.int (1 : Int32)), .val (.ref b54), .val (.ref b58)] [(.ref b54)])) _
      refine st73 _ ?_
      show Steps p.tables e below (T73.setTop (mkF m 49 #[.val (.int p0), .val (.int p1), .val (.int p2), .val (.int (1 : Int32)), .val (.ref b54), .val (.ref b58)] [(.ref rb56_b14)])) _
      refine XS.iconst X73.here hx rfl (hb hby at_49) ?_
      show Steps p.tables e below (T73.setTop (mkF m 50 #[.val (.int p0), .val (.int p1), .val (.int p2), .val (.int (1 : Int32)), .val (.ref b54), .val (.ref b58)] [(.int (2 : Int32)), (.ref rb56_b14)])) _
      refine XS.iloadN X73.here hx rfl (hb hby at_50) rfl ?_
      show Steps p.tables e below (T73.setTop (mkF m 51 #[.val (.int p0), .val (.int p1), .val (.int p2), .val (.int (1 : Int32)), .val (.ref b54), .val (.ref b58)] [(.int p1), (.int (2 : Int32)), (.ref rb56_b14)])) _
      refine st75 _ ?_
      show Steps p.tables e below (T75.setTop (mkF m 54 #[.val (.int p0), .val (.int p1), .val (.int p2), .val (.int (1 : Int32)), .val (.ref b54), .val (.ref b58)] [])) _
      refine XS.aload X75.here hx rfl (hb hby at_54) rfl rfl ?_
      show Steps p.tables e below (T75.setTop (mkF m 56 #[.val (.int p0), .val (.int p1), .val (.int p2), .val (.int (1 : Int32)), .val (.ref b54), .val (.ref b58)] [(.ref b54)])) _
      refine st78 _ ?_
      show Steps p.tables e below (T78.setTop (mkF m 59 #[.val (.int p0), .val (.int p1), .val (.int p2), .val (.int (1 : Int32)), .val (.ref b54), .val (.ref b58)] [(.ref rb56_b20)])) _
      refine XS.iconst X78.here hx rfl (hb hby at_59) ?_
      show Steps p.tables e below (T78.setTop (mkF m 60 #[.val (.int p0), .val (.int p1), .val (.int p2), .val (.int (1 : Int32)), .val (.ref b54), .val (.ref b58)] [(.int (3 : Int32)), (.ref rb56_b20)])) _
      refine XS.iloadN X78.here hx rfl (hb hby at_60) rfl ?_
      show Steps p.tables e below (T78.setTop (mkF m 61 #[.val (.int p0), .val (.int p1), .val (.int p2), .val (.int (1 : Int32)), .val (.ref b54), .val (.ref b58)] [(.int p1), (.int (3 : Int32)), (.ref rb56_b20)])) _
      refine st80 _ ?_
      show Steps p.tables e below (T80.setTop (mkF m 64 #[.val (.int p0), .val (.int p1), .val (.int p2), .val (.int (1 : Int32)), .val (.ref b54), .val (.ref b58)] [])) _
      refine XS.aload X80.here hx rfl (hb hby at_64) rfl rfl ?_
      show Steps p.tables e below (T80.setTop (mkF m 66 #[.val (.int p0), .val (.int p1), .val (.int p2), .val (.int (1 : Int32)), .val (.ref b54), .val (.ref b58)] [(.ref b58)])) _
      refine st83 _ ?_
      show Steps p.tables e below (T83.setTop (mkF m 69 #[.val (.int p0), .val (.int p1), .val (.int p2), .val (.int (1 : Int32)), .val (.ref b54), .val (.ref b58)] [(.ref rb60_b2)])) _
      refine XS.iconst X83.here hx rfl (hb hby at_69) ?_
      show Steps p.tables e below (T83.setTop (mkF m 70 #[.val (.int p0), .val (.int p1), .val (.int p2), .val (.int (1 : Int32)), .val (.ref b54), .val (.ref b58)] [(.int (0 : Int32)), (.ref rb60_b2)])) _
      refine XS.iloadN X83.here hx rfl (hb hby at_70) rfl ?_
      show Steps p.tables e below (T83.setTop (mkF m 71 #[.val (.int p0), .val (.int p1), .val (.int p2), .val (.int (1 : Int32)), .val (.ref b54), .val (.ref b58)] [(.int p2), (.int (0 : Int32)), (.ref rb60_b2)])) _
      refine st85 _ ?_
      show Steps p.tables e below (T85.setTop (mkF m 74 #[.val (.int p0), .val (.int p1), .val (.int p2), .val (.int (1 : Int32)), .val (.ref b54), .val (.ref b58)] [])) _
      refine XS.aload X85.here hx rfl (hb hby at_74) rfl rfl ?_
      show Steps p.tables e below (T85.setTop (mkF m 76 #[.val (.int p0), .val (.int p1), .val (.int p2), .val (.int (1 : Int32)), .val (.ref b54), .val (.ref b58)] [(.ref b58)])) _
      refine st88 _ ?_
      show Steps p.tables e below (T88.setTop (mkF m 79 #[.val (.int p0), .val (.int p1), .val (.int p2), .val (.int (1 : Int32)), .val (.ref b54), .val (.ref b58)] [(.ref rb60_b8)])) _
      refine XS.iconst X88.here hx rfl (hb hby at_79) ?_
      show Steps p.tables e below (T88.setTop (mkF m 80 #[.val (.int p0), .val (.int p1), .val (.int p2), .val (.int (1 : Int32)), .val (.ref b54), .val (.ref b58)] [(.int (1 : Int32)), (.ref rb60_b8)])) _
      refine XS.iloadN X88.here hx rfl (hb hby at_80) rfl ?_
      show Steps p.tables e below (T88.setTop (mkF m 81 #[.val (.int p0), .val (.int p1), .val (.int p2), .val (.int (1 : Int32)), .val (.ref b54), .val (.ref b58)] [(.int p2), (.int (1 : Int32)), (.ref rb60_b8)])) _
      refine st90 _ ?_
      show Steps p.tables e below (T90.setTop (mkF m 84 #[.val (.int p0), .val (.int p1), .val (.int p2), .val (.int (1 : Int32)), .val (.ref b54), .val (.ref b58)] [])) _
      refine XS.aload X90.here hx rfl (hb hby at_84) rfl rfl ?_
      show Steps p.tables e below (T90.setTop (mkF m 86 #[.val (.int p0), .val (.int p1), .val (.int p2), .val (.int (1 : Int32)), .val (.ref b54), .val (.ref b58)] [(.ref b58)])) _
      refine st93 _ ?_
      show Steps p.tables e below (T93.setTop (mkF m 89 #[.val (.int p0), .val (.int p1), .val (.int p2), .val (.int (1 : Int32)), .val (.ref b54), .val (.ref b58)] [(.ref rb60_b14)])) _
      refine XS.iconst X93.here hx rfl (hb hby at_89) ?_
      show Steps p.tables e below (T93.setTop (mkF m 90 #[.val (.int p0), .val (.int p1), .val (.int p2), .val (.int (1 : Int32)), .val (.ref b54), .val (.ref b58)] [(.int (2 : Int32)), (.ref rb60_b14)])) _
      refine XS.iloadN X93.here hx rfl (hb hby at_90) rfl ?_
      show Steps p.tables e below (T93.setTop (mkF m 91 #[.val (.int p0), .val (.int p1), .val (.int p2), .val (.int (1 : Int32)), .val (.ref b54), .val (.ref b58)] [(.int p2), (.int (2 : Int32)), (.ref rb60_b14)])) _
      refine st95 _ ?_
      show Steps p.tables e below (T95.setTop (mkF m 94 #[.val (.int p0), .val (.int p1), .val (.int p2), .val (.int (1 : Int32)), .val (.ref b54), .val (.ref b58)] [])) _
      refine XS.aload X95.here hx rfl (hb hby at_94) rfl rfl ?_
      show Steps p.tables e below (T95.setTop (mkF m 96 #[.val (.int p0), .val (.int p1), .val (.int p2), .val (.int (1 : Int32)), .val (.ref b54), .val (.ref b58)] [(.ref b58)])) _
      refine st98 _ ?_
      show Steps p.tables e below (T98.setTop (mkF m 99 #[.val (.int p0), .val (.int p1), .val (.int p2), .val (.int (1 : Int32)), .val (.ref b54), .val (.ref b58)] [(.ref rb60_b20)])) _
      refine XS.iconst X98.here hx rfl (hb hby at_99) ?_
      show Steps p.tables e below (T98.setTop (mkF m 100 #[.val (.int p0), .val (.int p1), .val (.int p2), .val (.int (1 : Int32)), .val (.ref b54), .val (.ref b58)] [(.int (3 : Int32)), (.ref rb60_b20)])) _
      refine XS.iloadN X98.here hx rfl (hb hby at_100) rfl ?_
      show Steps p.tables e below (T98.setTop (mkF m 101 #[.val (.int p0), .val (.int p1), .val (.int p2), .val (.int (1 : Int32)), .val (.ref b54), .val (.ref b58)] [(.int p2), (.int (3 : Int32)), (.ref rb60_b20)])) _
      refine st100 _ ?_
      show Steps p.tables e below (T100.setTop (mkF m 104 #[.val (.int p0), .val (.int p1), .val (.int p2), .val (.int (1 : Int32)), .val (.ref b54), .val (.ref b58)] [])) _
      refine XS.aload X100.here hx rfl (hb hby at_104) rfl rfl ?_
      show Steps p.tables e below (T100.setTop (mkF m 106 #[.val (.int p0), .val (.int p1), .val (.int p2), .val (.int (1 : Int32)), .val (.ref b54), .val (.ref b58)] [(.ref b54)])) _
      refine XS.aload X100.here hx rfl (hb hby at_106) rfl rfl ?_
      show Steps p.tables e below (T100.setTop (mkF m 108 #[.val (.int p0), .val (.int p1), .val (.int p2), .val (.int (1 : Int32)), .val (.ref b54), .val (.ref b58)] [(.ref b58), (.ref b54)])) _
      refine st117.trans ?_
      show Steps p.tables e below (T117.setTop (mkF m 111 #[.val (.int p0), .val (.int p1), .val (.int p2), .val (.int (1 : Int32)), .val (.ref b54), .val (.ref b58)] [])) _
      refine XS.aload X117.here hx rfl (hb hby at_111) rfl rfl ?_
      show Steps p.tables e below (T117.setTop (mkF m 113 #[.val (.int p0), .val (.int p1), .val (.int p2), .val (.int (1 : Int32)), .val (.ref b54), .val (.ref b58)] [(.ref b54)])) _
      refine st121 _ ?_
      show Steps p.tables e below (T121.setTop (mkF m 116 #[.val (.int p0), .val (.int p1), .val (.int p2), .val (.int (1 : Int32)), .val (.ref b54), .val (.ref b58)] [(.ref rb56_b2)])) _
      refine XS.iloadN X121.here hx rfl (hb hby at_116) rfl ?_
      show Steps p.tables e below (T121.setTop (mkF m 117 #[.val (.int p0), .val (.int p1), .val (.int p2), .val (.int (1 : Int32)), .val (.ref b54), .val (.ref b58)] [(.int (1 : Int32)), (.ref rb56_b2)])) _
      refine XS.iconst X121.here hx rfl (hb hby at_117) ?_
      show Steps p.tables e below (T121.setTop (mkF m 118 #[.val (.int p0), .val (.int p1), .val (.int p2), .val (.int (1 : Int32)), .val (.ref b54), .val (.ref b58)] [(.int (0 : Int32)), (.int (1 : Int32)), (.ref rb56_b2)])) _
      refine XS.iloadN X121.here hx rfl (hb hby at_118) rfl ?_
      show Steps p.tables e below (T121.setTop (mkF m 119 #[.val (.int p0), .val (.int p1), .val (.int p2), .val (.int (1 : Int32)), .val (.ref b54), .val (.ref b58)] [(.int p1), (.int (0 : Int32)), (.int (1 : Int32)), (.ref rb56_b2)])) _
      refine XS.iloadN X121.here hx rfl (hb hby at_119) rfl ?_
      show Steps p.tables e below (T121.setTop (mkF m 120 #[.val (.int p0), .val (.int p1), .val (.int p2), .val (.int (1 : Int32)), .val (.ref b54), .val (.ref b58)] [(.int p2), (.int p1), (.int (0 : Int32)), (.int (1 : Int32)), (.ref rb56_b2)])) _
      refine st122 _ ?_
      show Steps p.tables e below (T122.setTop (mkF m 123 #[.val (.int p0), .val (.int p1), .val (.int p2), .val (.int (1 : Int32)), .val (.ref b54), .val (.ref b58)] [(.int (1 : Int32))])) _
      refine XS.ifNo X122.here hx rfl (hb hby at_123) rfl (Jvm.Free.XT.i0_eq_f (by decide)) ?_
      show Steps p.tables e below (T122.setTop (mkF m 126 #[.val (.int p0), .val (.int p1), .val (.int p2), .val (.int (1 : Int32)), .val (.ref b54), .val (.ref b58)] [])) _
      refine XS.aload X122.here hx rfl (hb hby at_126) rfl rfl ?_
      show Steps p.tables e below (T122.setTop (mkF m 128 #[.val (.int p0), .val (.int p1), .val (.int p2), .val (.int (1 : Int32)), .val (.ref b54), .val (.ref b58)] [(.ref b54)])) _
      refine st124 _ ?_
      show Steps p.tables e below (T124.setTop (mkF m 131 #[.val (.int p0), .val (.int p1), .val (.int p2), .val (.int (1 : Int32)), .val (.ref b54), .val (.ref b58)] [(.ref rb56_b8)])) _
      refine XS.iloadN X124.here hx rfl (hb hby at_131) rfl ?_
      show Steps p.tables e below (T124.setTop (mkF m 132 #[.val (.int p0), .val (.int p1), .val (.int p2), .val (.int (1 : Int32)), .val (.ref b54), .val (.ref b58)] [(.int (1 : Int32)), (.ref rb56_b8)])) _
      refine XS.iconst X124.here hx rfl (hb hby at_132) ?_
      show Steps p.tables e below (T124.setTop (mkF m 133 #[.val (.int p0), .val (.int p1), .val (.int p2), .val (.int (1 : Int32)), .val (.ref b54), .val (.ref b58)] [(.int (1 : Int32)), (.int (1 : Int32)), (.ref rb56_b8)])) _
      refine XS.iloadN X124.here hx rfl (hb hby at_133) rfl ?_
      show Steps p.tables e below (T124.setTop (mkF m 134 #[.val (.int p0), .val (.int p1), .val (.int p2), .val (.int (1 : Int32)), .val (.ref b54), .val (.ref b58)] [(.int p1), (.int (1 : Int32)), (.int (1 : Int32)), (.ref rb56_b8)])) _
      refine XS.iloadN X124.here hx rfl (hb hby at_134) rfl ?_
      show Steps p.tables e below (T124.setTop (mkF m 135 #[.val (.int p0), .val (.int p1), .val (.int p2), .val (.int (1 : Int32)), .val (.ref b54), .val (.ref b58)] [(.int p2), (.int p1), (.int (1 : Int32)), (.int (1 : Int32)), (.ref rb56_b8)])) _
      refine st125 _ ?_
      show Steps p.tables e below (T125.setTop (mkF m 138 #[.val (.int p0), .val (.int p1), .val (.int p2), .val (.int (1 : Int32)), .val (.ref b54), .val (.ref b58)] [(.int (1 : Int32))])) _
      refine XS.ifNo X125.here hx rfl (hb hby at_138) rfl (Jvm.Free.XT.i0_eq_f (by decide)) ?_
      show Steps p.tables e below (T125.setTop (mkF m 141 #[.val (.int p0), .val (.int p1), .val (.int p2), .val (.int (1 : Int32)), .val (.ref b54), .val (.ref b58)] [])) _
      refine XS.aload X125.here hx rfl (hb hby at_141) rfl rfl ?_
      show Steps p.tables e below (T125.setTop (mkF m 143 #[.val (.int p0), .val (.int p1), .val (.int p2), .val (.int (1 : Int32)), .val (.ref b54), .val (.ref b58)] [(.ref b54)])) _
      refine st127 _ ?_
      show Steps p.tables e below (T127.setTop (mkF m 146 #[.val (.int p0), .val (.int p1), .val (.int p2), .val (.int (1 : Int32)), .val (.ref b54), .val (.ref b58)] [(.ref rb56_b14)])) _
      refine XS.iloadN X127.here hx rfl (hb hby at_146) rfl ?_
      show Steps p.tables e below (T127.setTop (mkF m 147 #[.val (.int p0), .val (.int p1), .val (.int p2), .val (.int (1 : Int32)), .val (.ref b54), .val (.ref b58)] [(.int (1 : Int32)), (.ref rb56_b14)])) _
      refine XS.iconst X127.here hx rfl (hb hby at_147) ?_
      show Steps p.tables e below (T127.setTop (mkF m 148 #[.val (.int p0), .val (.int p1), .val (.int p2), .val (.int (1 : Int32)), .val (.ref b54), .val (.ref b58)] [(.int (2 : Int32)), (.int (1 : Int32)), (.ref rb56_b14)])) _
      refine XS.iloadN X127.here hx rfl (hb hby at_148) rfl ?_
      show Steps p.tables e below (T127.setTop (mkF m 149 #[.val (.int p0), .val (.int p1), .val (.int p2), .val (.int (1 : Int32)), .val (.ref b54), .val (.ref b58)] [(.int p1), (.int (2 : Int32)), (.int (1 : Int32)), (.ref rb56_b14)])) _
      refine XS.iloadN X127.here hx rfl (hb hby at_149) rfl ?_
      show Steps p.tables e below (T127.setTop (mkF m 150 #[.val (.int p0), .val (.int p1), .val (.int p2), .val (.int (1 : Int32)), .val (.ref b54), .val (.ref b58)] [(.int p2), (.int p1), (.int (2 : Int32)), (.int (1 : Int32)), (.ref rb56_b14)])) _
      refine st128 _ ?_
      show Steps p.tables e below (T128.setTop (mkF m 153 #[.val (.int p0), .val (.int p1), .val (.int p2), .val (.int (1 : Int32)), .val (.ref b54), .val (.ref b58)] [(.int (1 : Int32))])) _
      refine XS.ifNo X128.here hx rfl (hb hby at_153) rfl (Jvm.Free.XT.i0_eq_f (by decide)) ?_
      show Steps p.tables e below (T128.setTop (mkF m 156 #[.val (.int p0), .val (.int p1), .val (.int p2), .val (.int (1 : Int32)), .val (.ref b54), .val (.ref b58)] [])) _
      refine XS.aload X128.here hx rfl (hb hby at_156) rfl rfl ?_
      show Steps p.tables e below (T128.setTop (mkF m 158 #[.val (.int p0), .val (.int p1), .val (.int p2), .val (.int (1 : Int32)), .val (.ref b54), .val (.ref b58)] [(.ref b54)])) _
      refine st130 _ ?_
      show Steps p.tables e below (T130.setTop (mkF m 161 #[.val (.int p0), .val (.int p1), .val (.int p2), .val (.int (1 : Int32)), .val (.ref b54), .val (.ref b58)] [(.ref rb56_b20)])) _
      refine XS.iloadN X130.here hx rfl (hb hby at_161) rfl ?_
      show Steps p.tables e below (T130.setTop (mkF m 162 #[.val (.int p0), .val (.int p1), .val (.int p2), .val (.int (1 : Int32)), .val (.ref b54), .val (.ref b58)] [(.int (1 : Int32)), (.ref rb56_b20)])) _
      refine XS.iconst X130.here hx rfl (hb hby at_162) ?_
      show Steps p.tables e below (T130.setTop (mkF m 163 #[.val (.int p0), .val (.int p1), .val (.int p2), .val (.int (1 : Int32)), .val (.ref b54), .val (.ref b58)] [(.int (3 : Int32)), (.int (1 : Int32)), (.ref rb56_b20)])) _
      refine XS.iloadN X130.here hx rfl (hb hby at_163) rfl ?_
      show Steps p.tables e below (T130.setTop (mkF m 164 #[.val (.int p0), .val (.int p1), .val (.int p2), .val (.int (1 : Int32)), .val (.ref b54), .val (.ref b58)] [(.int p1), (.int (3 : Int32)), (.int (1 : Int32)), (.ref rb56_b20)])) _
      refine XS.iloadN X130.here hx rfl (hb hby at_164) rfl ?_
      show Steps p.tables e below (T130.setTop (mkF m 165 #[.val (.int p0), .val (.int p1), .val (.int p2), .val (.int (1 : Int32)), .val (.ref b54), .val (.ref b58)] [(.int p2), (.int p1), (.int (3 : Int32)), (.int (1 : Int32)), (.ref rb56_b20)])) _
      refine st131 _ ?_
      show Steps p.tables e below (T131.setTop (mkF m 168 #[.val (.int p0), .val (.int p1), .val (.int p2), .val (.int (1 : Int32)), .val (.ref b54), .val (.ref b58)] [(.int (1 : Int32))])) _
      refine XS.ifNo X131.here hx rfl (hb hby at_168) rfl (Jvm.Free.XT.i0_eq_f (by decide)) ?_
      show Steps p.tables e below (T131.setTop (mkF m 171 #[.val (.int p0), .val (.int p1), .val (.int p2), .val (.int (1 : Int32)), .val (.ref b54), .val (.ref b58)] [])) _
      refine XS.aload X131.here hx rfl (hb hby at_171) rfl rfl ?_
      show Steps p.tables e below (T131.setTop (mkF m 173 #[.val (.int p0), .val (.int p1), .val (.int p2), .val (.int (1 : Int32)), .val (.ref b54), .val (.ref b58)] [(.ref b58)])) _
      refine st133 _ ?_
      show Steps p.tables e below (T133.setTop (mkF m 176 #[.val (.int p0), .val (.int p1), .val (.int p2), .val (.int (1 : Int32)), .val (.ref b54), .val (.ref b58)] [(.ref rb60_b2)])) _
      refine XS.iloadN X133.here hx rfl (hb hby at_176) rfl ?_
      show Steps p.tables e below (T133.setTop (mkF m 177 #[.val (.int p0), .val (.int p1), .val (.int p2), .val (.int (1 : Int32)), .val (.ref b54), .val (.ref b58)] [(.int (1 : Int32)), (.ref rb60_b2)])) _
      refine XS.iconst X133.here hx rfl (hb hby at_177) ?_
      show Steps p.tables e below (T133.setTop (mkF m 178 #[.val (.int p0), .val (.int p1), .val (.int p2), .val (.int (1 : Int32)), .val (.ref b54), .val (.ref b58)] [(.int (0 : Int32)), (.int (1 : Int32)), (.ref rb60_b2)])) _
      refine XS.iloadN X133.here hx rfl (hb hby at_178) rfl ?_
      show Steps p.tables e below (T133.setTop (mkF m 179 #[.val (.int p0), .val (.int p1), .val (.int p2), .val (.int (1 : Int32)), .val (.ref b54), .val (.ref b58)] [(.int p2), (.int (0 : Int32)), (.int (1 : Int32)), (.ref rb60_b2)])) _
      refine st135 _ ?_
      show Steps p.tables e below (T135.setTop (mkF m 182 #[.val (.int p0), .val (.int p1), .val (.int p2), .val (.int (1 : Int32)), .val (.ref b54), .val (.ref b58)] [(.int (1 : Int32))])) _
      refine XS.ifNo X135.here hx rfl (hb hby at_182) rfl (Jvm.Free.XT.i0_eq_f (by decide)) ?_
      show Steps p.tables e below (T135.setTop (mkF m 185 #[.val (.int p0), .val (.int p1), .val (.int p2), .val (.int (1 : Int32)), .val (.ref b54), .val (.ref b58)] [])) _
      refine XS.aload X135.here hx rfl (hb hby at_185) rfl rfl ?_
      show Steps p.tables e below (T135.setTop (mkF m 187 #[.val (.int p0), .val (.int p1), .val (.int p2), .val (.int (1 : Int32)), .val (.ref b54), .val (.ref b58)] [(.ref b58)])) _
      refine st137 _ ?_
      show Steps p.tables e below (T137.setTop (mkF m 190 #[.val (.int p0), .val (.int p1), .val (.int p2), .val (.int (1 : Int32)), .val (.ref b54), .val (.ref b58)] [(.ref rb60_b8)])) _
      refine XS.iloadN X137.here hx rfl (hb hby at_190) rfl ?_
      show Steps p.tables e below (T137.setTop (mkF m 191 #[.val (.int p0), .val (.int p1), .val (.int p2), .val (.int (1 : Int32)), .val (.ref b54), .val (.ref b58)] [(.int (1 : Int32)), (.ref rb60_b8)])) _
      refine XS.iconst X137.here hx rfl (hb hby at_191) ?_
      show Steps p.tables e below (T137.setTop (mkF m 192 #[.val (.int p0), .val (.int p1), .val (.int p2), .val (.int (1 : Int32)), .val (.ref b54), .val (.ref b58)] [(.int (1 : Int32)), (.int (1 : Int32)), (.ref rb60_b8)])) _
      refine XS.iloadN X137.here hx rfl (hb hby at_192) rfl ?_
      show Steps p.tables e below (T137.setTop (mkF m 193 #[.val (.int p0), .val (.int p1), .val (.int p2), .val (.int (1 : Int32)), .val (.ref b54), .val (.ref b58)] [(.int p2), (.int (1 : Int32)), (.int (1 : Int32)), (.ref rb60_b8)])) _
      refine st139 _ ?_
      show Steps p.tables e below (T139.setTop (mkF m 196 #[.val (.int p0), .val (.int p1), .val (.int p2), .val (.int (1 : Int32)), .val (.ref b54), .val (.ref b58)] [(.int (1 : Int32))])) _
      refine XS.ifNo X139.here hx rfl (hb hby at_196) rfl (Jvm.Free.XT.i0_eq_f (by decide)) ?_
      show Steps p.tables e below (T139.setTop (mkF m 199 #[.val (.int p0), .val (.int p1), .val (.int p2), .val (.int (1 : Int32)), .val (.ref b54), .val (.ref b58)] [])) _
      refine XS.aload X139.here hx rfl (hb hby at_199) rfl rfl ?_
      show Steps p.tables e below (T139.setTop (mkF m 201 #[.val (.int p0), .val (.int p1), .val (.int p2), .val (.int (1 : Int32)), .val (.ref b54), .val (.ref b58)] [(.ref b58)])) _
      refine st141 _ ?_
      show Steps p.tables e below (T141.setTop (mkF m 204 #[.val (.int p0), .val (.int p1), .val (.int p2), .val (.int (1 : Int32)), .val (.ref b54), .val (.ref b58)] [(.ref rb60_b14)])) _
      refine XS.iloadN X141.here hx rfl (hb hby at_204) rfl ?_
      show Steps p.tables e below (T141.setTop (mkF m 205 #[.val (.int p0), .val (.int p1), .val (.int p2), .val (.int (1 : Int32)), .val (.ref b54), .val (.ref b58)] [(.int (1 : Int32)), (.ref rb60_b14)])) _
      refine XS.iconst X141.here hx rfl (hb hby at_205) ?_
      show Steps p.tables e below (T141.setTop (mkF m 206 #[.val (.int p0), .val (.int p1), .val (.int p2), .val (.int (1 : Int32)), .val (.ref b54), .val (.ref b58)] [(.int (2 : Int32)), (.int (1 : Int32)), (.ref rb60_b14)])) _
      refine XS.iloadN X141.here hx rfl (hb hby at_206) rfl ?_
      show Steps p.tables e below (T141.setTop (mkF m 207 #[.val (.int p0), .val (.int p1), .val (.int p2), .val (.int (1 : Int32)), .val (.ref b54), .val (.ref b58)] [(.int p2), (.int (2 : Int32)), (.int (1 : Int32)), (.ref rb60_b14)])) _
      refine st143 _ ?_
      show Steps p.tables e below (T143.setTop (mkF m 210 #[.val (.int p0), .val (.int p1), .val (.int p2), .val (.int (1 : Int32)), .val (.ref b54), .val (.ref b58)] [(.int (1 : Int32))])) _
      refine XS.ifNo X143.here hx rfl (hb hby at_210) rfl (Jvm.Free.XT.i0_eq_f (by decide)) ?_
      show Steps p.tables e below (T143.setTop (mkF m 213 #[.val (.int p0), .val (.int p1), .val (.int p2), .val (.int (1 : Int32)), .val (.ref b54), .val (.ref b58)] [])) _
      refine XS.aload X143.here hx rfl (hb hby at_213) rfl rfl ?_
      show Steps p.tables e below (T143.setTop (mkF m 215 #[.val (.int p0), .val (.int p1), .val (.int p2), .val (.int (1 : Int32)), .val (.ref b54), .val (.ref b58)] [(.ref b58)])) _
      refine st145 _ ?_
      show Steps p.tables e below (T145.setTop (mkF m 218 #[.val (.int p0), .val (.int p1), .val (.int p2), .val (.int (1 : Int32)), .val (.ref b54), .val (.ref b58)] [(.ref rb60_b20)])) _
      refine XS.iloadN X145.here hx rfl (hb hby at_218) rfl ?_
      show Steps p.tables e below (T145.setTop (mkF m 219 #[.val (.int p0), .val (.int p1), .val (.int p2), .val (.int (1 : Int32)), .val (.ref b54), .val (.ref b58)] [(.int (1 : Int32)), (.ref rb60_b20)])) _
      refine XS.iconst X145.here hx rfl (hb hby at_219) ?_
      show Steps p.tables e below (T145.setTop (mkF m 220 #[.val (.int p0), .val (.int p1), .val (.int p2), .val (.int (1 : Int32)), .val (.ref b54), .val (.ref b58)] [(.int (3 : Int32)), (.int (1 : Int32)), (.ref rb60_b20)])) _
      refine XS.iloadN X145.here hx rfl (hb hby at_220) rfl ?_
      show Steps p.tables e below (T145.setTop (mkF m 221 #[.val (.int p0), .val (.int p1), .val (.int p2), .val (.int (1 : Int32)), .val (.ref b54), .val (.ref b58)] [(.int p2), (.int (3 : Int32)), (.int (1 : Int32)), (.ref rb60_b20)])) _
      refine st147 _ ?_
      show Steps p.tables e below (T147.setTop (mkF m 224 #[.val (.int p0), .val (.int p1), .val (.int p2), .val (.int (1 : Int32)), .val (.ref b54), .val (.ref b58)] [(.int (1 : Int32))])) _
      refine XS.ifNo X147.here hx rfl (hb hby at_224) rfl (Jvm.Free.XT.i0_eq_f (by decide)) ?_
      show Steps p.tables e below (T147.setTop (mkF m 227 #[.val (.int p0), .val (.int p1), .val (.int p2), .val (.int (1 : Int32)), .val (.ref b54), .val (.ref b58)] [])) _
      refine XS.iconst X147.here hx rfl (hb hby at_227) ?_
      show Steps p.tables e below (T147.setTop (mkF m 228 #[.val (.int p0), .val (.int p1), .val (.int p2), .val (.int (1 : Int32)), .val (.ref b54), .val (.ref b58)] [(.int (1 : Int32))])) _
      refine XS.goto X147.here hx rfl (pc0 := 228) (pc' := 232) rfl (hb hby at_228) (by decide) (by decide) ?_
      exact k
    obtain ⟨fs, hr, hrun, hended, hW, hsame⟩ := X147.leave (v := some (.int (1 : Int32))) (fun h => by rw [Bd.returns] at h; cases h)
    refine ⟨_, _, c148 _ ?_, hrun, hended, _, _, rfl, ?_, ⟨_, rfl⟩, hW, hsame.mono (by decide) (by decide)⟩
    · show Steps p.tables e below (T147.setTop (mkF m 232 #[.val (.int p0), .val (.int p1), .val (.int p2), .val (.int (1 : Int32)), .val (.ref b54), .val (.ref b58)] [(.int (1 : Int32))])) _
      exact retOut X147 hx Bd.returns rfl (Or.inl ⟨rfl, by simp, _, rfl⟩) (hb hby at_232) hr
    · show Q0 n0 _ T147.heap _
      rw [e147]
      exact ⟨rfl, by first | assumption | exact N0⟩
  · obtain rfl := q2
    obtain ⟨c31_c10_z4, hc31_c10_z4⟩ : ∃ z : Int32, (16 : Int32) * (0 : Int32) = z := ⟨_, rfl⟩
    obtain ⟨c31_c10_z5, hc31_c10_z5⟩ : ∃ z : Int32, p1 + c31_c10_z4 = z := ⟨_, rfl⟩
    obtain ⟨c31_c10_z7, hc31_c10_z7⟩ : ∃ z : Int32, c31_c10_z5 + (0 : Int32) = z := ⟨_, rfl⟩
    obtain ⟨c31_c10_z8, hc31_c10_z8⟩ : ∃ z : UInt64, FP.i2d c31_c10_z7 = z := ⟨_, rfl⟩
    obtain ⟨c31_c25_z4, hc31_c25_z4⟩ : ∃ z : Int32, (16 : Int32) * (0 : Int32) = z := ⟨_, rfl⟩
    obtain ⟨c31_c25_z5, hc31_c25_z5⟩ : ∃ z : Int32, p1 + c31_c25_z4 = z := ⟨_, rfl⟩
    obtain ⟨c31_c25_z7, hc31_c25_z7⟩ : ∃ z : Int32, c31_c25_z5 + (1 : Int32) = z := ⟨_, rfl⟩
    obtain ⟨c31_c25_z8, hc31_c25_z8⟩ : ∃ z : UInt64, FP.i2d c31_c25_z7 = z := ⟨_, rfl⟩
    obtain ⟨c41_c10_z4, hc41_c10_z4⟩ : ∃ z : Int32, (16 : Int32) * (1 : Int32) = z := ⟨_, rfl⟩
    obtain ⟨c41_c10_z5, hc41_c10_z5⟩ : ∃ z : Int32, p1 + c41_c10_z4 = z := ⟨_, rfl⟩
    obtain ⟨c41_c10_z7, hc41_c10_z7⟩ : ∃ z : Int32, c41_c10_z5 + (0 : Int32) = z := ⟨_, rfl⟩
    obtain ⟨c41_c10_z8, hc41_c10_z8⟩ : ∃ z : UInt64, FP.i2d c41_c10_z7 = z := ⟨_, rfl⟩
    obtain ⟨c41_c25_z4, hc41_c25_z4⟩ : ∃ z : Int32, (16 : Int32) * (1 : Int32) = z := ⟨_, rfl⟩
    obtain ⟨c41_c25_z5, hc41_c25_z5⟩ : ∃ z : Int32, p1 + c41_c25_z4 = z := ⟨_, rfl⟩
    obtain ⟨c41_c25_z7, hc41_c25_z7⟩ : ∃ z : Int32, c41_c25_z5 + (1 : Int32) = z := ⟨_, rfl⟩
    obtain ⟨c41_c25_z8, hc41_c25_z8⟩ : ∃ z : UInt64, FP.i2d c41_c25_z7 = z := ⟨_, rfl⟩
    obtain ⟨c51_c10_z4, hc51_c10_z4⟩ : ∃ z : Int32, (16 : Int32) * (2 : Int32) = z := ⟨_, rfl⟩
    obtain ⟨c51_c10_z5, hc51_c10_z5⟩ : ∃ z : Int32, p1 + c51_c10_z4 = z := ⟨_, rfl⟩
    obtain ⟨c51_c10_z7, hc51_c10_z7⟩ : ∃ z : Int32, c51_c10_z5 + (0 : Int32) = z := ⟨_, rfl⟩
    obtain ⟨c51_c10_z8, hc51_c10_z8⟩ : ∃ z : UInt64, FP.i2d c51_c10_z7 = z := ⟨_, rfl⟩
    obtain ⟨c51_c25_z4, hc51_c25_z4⟩ : ∃ z : Int32, (16 : Int32) * (2 : Int32) = z := ⟨_, rfl⟩
    obtain ⟨c51_c25_z5, hc51_c25_z5⟩ : ∃ z : Int32, p1 + c51_c25_z4 = z := ⟨_, rfl⟩
    obtain ⟨c51_c25_z7, hc51_c25_z7⟩ : ∃ z : Int32, c51_c25_z5 + (1 : Int32) = z := ⟨_, rfl⟩
    obtain ⟨c51_c25_z8, hc51_c25_z8⟩ : ∃ z : UInt64, FP.i2d c51_c25_z7 = z := ⟨_, rfl⟩
    obtain ⟨c61_c10_z4, hc61_c10_z4⟩ : ∃ z : Int32, (16 : Int32) * (3 : Int32) = z := ⟨_, rfl⟩
    obtain ⟨c61_c10_z5, hc61_c10_z5⟩ : ∃ z : Int32, p1 + c61_c10_z4 = z := ⟨_, rfl⟩
    obtain ⟨c61_c10_z7, hc61_c10_z7⟩ : ∃ z : Int32, c61_c10_z5 + (0 : Int32) = z := ⟨_, rfl⟩
    obtain ⟨c61_c10_z8, hc61_c10_z8⟩ : ∃ z : UInt64, FP.i2d c61_c10_z7 = z := ⟨_, rfl⟩
    obtain ⟨c61_c25_z4, hc61_c25_z4⟩ : ∃ z : Int32, (16 : Int32) * (3 : Int32) = z := ⟨_, rfl⟩
    obtain ⟨c61_c25_z5, hc61_c25_z5⟩ : ∃ z : Int32, p1 + c61_c25_z4 = z := ⟨_, rfl⟩
    obtain ⟨c61_c25_z7, hc61_c25_z7⟩ : ∃ z : Int32, c61_c25_z5 + (1 : Int32) = z := ⟨_, rfl⟩
    obtain ⟨c61_c25_z8, hc61_c25_z8⟩ : ∃ z : UInt64, FP.i2d c61_c25_z7 = z := ⟨_, rfl⟩
    obtain ⟨c71_c10_z4, hc71_c10_z4⟩ : ∃ z : Int32, (16 : Int32) * (0 : Int32) = z := ⟨_, rfl⟩
    obtain ⟨c71_c10_z5, hc71_c10_z5⟩ : ∃ z : Int32, p2 + c71_c10_z4 = z := ⟨_, rfl⟩
    obtain ⟨c71_c10_z7, hc71_c10_z7⟩ : ∃ z : Int32, c71_c10_z5 + (0 : Int32) = z := ⟨_, rfl⟩
    obtain ⟨c71_c10_z8, hc71_c10_z8⟩ : ∃ z : UInt64, FP.i2d c71_c10_z7 = z := ⟨_, rfl⟩
    obtain ⟨c71_c25_z4, hc71_c25_z4⟩ : ∃ z : Int32, (16 : Int32) * (0 : Int32) = z := ⟨_, rfl⟩
    obtain ⟨c71_c25_z5, hc71_c25_z5⟩ : ∃ z : Int32, p2 + c71_c25_z4 = z := ⟨_, rfl⟩
    obtain ⟨c71_c25_z7, hc71_c25_z7⟩ : ∃ z : Int32, c71_c25_z5 + (1 : Int32) = z := ⟨_, rfl⟩
    obtain ⟨c71_c25_z8, hc71_c25_z8⟩ : ∃ z : UInt64, FP.i2d c71_c25_z7 = z := ⟨_, rfl⟩
    obtain ⟨c81_c10_z4, hc81_c10_z4⟩ : ∃ z : Int32, (16 : Int32) * (1 : Int32) = z := ⟨_, rfl⟩
    obtain ⟨c81_c10_z5, hc81_c10_z5⟩ : ∃ z : Int32, p2 + c81_c10_z4 = z := ⟨_, rfl⟩
    obtain ⟨c81_c10_z7, hc81_c10_z7⟩ : ∃ z : Int32, c81_c10_z5 + (0 : Int32) = z := ⟨_, rfl⟩
    obtain ⟨c81_c10_z8, hc81_c10_z8⟩ : ∃ z : UInt64, FP.i2d c81_c10_z7 = z := ⟨_, rfl⟩
    obtain ⟨c81_c25_z4, hc81_c25_z4⟩ : ∃ z : Int32, (16 : Int32) * (1 : Int32) = z := ⟨_, rfl⟩
    obtain ⟨c81_c25_z5, hc81_c25_z5⟩ : ∃ z : Int32, p2 + c81_c25_z4 = z := ⟨_, rfl⟩
    obtain ⟨c81_c25_z7, hc81_c25_z7⟩ : ∃ z : Int32, c81_c25_z5 + (1 : Int32) = z := ⟨_, rfl⟩
    obtain ⟨c81_c25_z8, hc81_c25_z8⟩ : ∃ z : UInt64, FP.i2d c81_c25_z7 = z := ⟨_, rfl⟩
    obtain ⟨c91_c10_z4, hc91_c10_z4⟩ : ∃ z : Int32, (16 : Int32) * (2 : Int32) = z := ⟨_, rfl⟩
    obtain ⟨c91_c10_z5, hc91_c10_z5⟩ : ∃ z : Int32, p2 + c91_c10_z4 = z := ⟨_, rfl⟩
    obtain ⟨c91_c10_z7, hc91_c10_z7⟩ : ∃ z : Int32, c91_c10_z5 + (0 : Int32) = z := ⟨_, rfl⟩
    obtain ⟨c91_c10_z8, hc91_c10_z8⟩ : ∃ z : UInt64, FP.i2d c91_c10_z7 = z := ⟨_, rfl⟩
    obtain ⟨c91_c25_z4, hc91_c25_z4⟩ : ∃ z : Int32, (16 : Int32) * (2 : Int32) = z := ⟨_, rfl⟩
    obtain ⟨c91_c25_z5, hc91_c25_z5⟩ : ∃ z : Int32, p2 + c91_c25_z4 = z := ⟨_, rfl⟩
    obtain ⟨c91_c25_z7, hc91_c25_z7⟩ : ∃ z : Int32, c91_c25_z5 + (1 : Int32) = z := ⟨_, rfl⟩
    obtain ⟨c91_c25_z8, hc91_c25_z8⟩ : ∃ z : UInt64, FP.i2d c91_c25_z7 = z := ⟨_, rfl⟩
    obtain ⟨c101_c10_z4, hc101_c10_z4⟩ : ∃ z : Int32, (16 : Int32) * (3 : Int32) = z := ⟨_, rfl⟩
    obtain ⟨c101_c10_z5, hc101_c10_z5⟩ : ∃ z : Int32, p2 + c101_c10_z4 = z := ⟨_, rfl⟩
    obtain ⟨c101_c10_z7, hc101_c10_z7⟩ : ∃ z : Int32, c101_c10_z5 + (0 : Int32) = z := ⟨_, rfl⟩
    obtain ⟨c101_c10_z8, hc101_c10_z8⟩ : ∃ z : UInt64, FP.i2d c101_c10_z7 = z := ⟨_, rfl⟩
    obtain ⟨c101_c25_z4, hc101_c25_z4⟩ : ∃ z : Int32, (16 : Int32) * (3 : Int32) = z := ⟨_, rfl⟩
    obtain ⟨c101_c25_z5, hc101_c25_z5⟩ : ∃ z : Int32, p2 + c101_c25_z4 = z := ⟨_, rfl⟩
    obtain ⟨c101_c25_z7, hc101_c25_z7⟩ : ∃ z : Int32, c101_c25_z5 + (1 : Int32) = z := ⟨_, rfl⟩
    obtain ⟨c101_c25_z8, hc101_c25_z8⟩ : ∃ z : UInt64, FP.i2d c101_c25_z7 = z := ⟨_, rfl⟩
    obtain ⟨c108_z24, hc108_z24⟩ : ∃ z : UInt64, FP.dadd c31_c10_z8 c71_c10_z8 = z := ⟨_, rfl⟩
    obtain ⟨c108_z39, hc108_z39⟩ : ∃ z : UInt64, FP.dadd c41_c10_z8 c81_c10_z8 = z := ⟨_, rfl⟩
    obtain ⟨c108_z54, hc108_z54⟩ : ∃ z : UInt64, FP.dadd c51_c10_z8 c91_c10_z8 = z := ⟨_, rfl⟩
    obtain ⟨c108_z69, hc108_z69⟩ : ∃ z : UInt64, FP.dadd c61_c10_z8 c101_c10_z8 = z := ⟨_, rfl⟩
    obtain ⟨c108_z24_2, hc108_z24_2⟩ : ∃ z : UInt64, FP.dadd c31_c25_z8 c71_c25_z8 = z := ⟨_, rfl⟩
    obtain ⟨c108_z39_2, hc108_z39_2⟩ : ∃ z : UInt64, FP.dadd c41_c25_z8 c81_c25_z8 = z := ⟨_, rfl⟩
    obtain ⟨c108_z54_2, hc108_z54_2⟩ : ∃ z : UInt64, FP.dadd c51_c25_z8 c91_c25_z8 = z := ⟨_, rfl⟩
    obtain ⟨c108_z69_2, hc108_z69_2⟩ : ∃ z : UInt64, FP.dadd c61_c25_z8 c101_c25_z8 = z := ⟨_, rfl⟩
    obtain ⟨c120_c17_z4, hc120_c17_z4⟩ : ∃ z : Int32, (16 : Int32) * (0 : Int32) = z := ⟨_, rfl⟩
    obtain ⟨c120_c17_z5, hc120_c17_z5⟩ : ∃ z : Int32, p1 + c120_c17_z4 = z := ⟨_, rfl⟩
    obtain ⟨c120_c17_z7, hc120_c17_z7⟩ : ∃ z : Int32, c120_c17_z5 + (0 : Int32) = z := ⟨_, rfl⟩
    obtain ⟨c120_c17_z8, hc120_c17_z8⟩ : ∃ z : UInt64, FP.i2d c120_c17_z7 = z := ⟨_, rfl⟩
    obtain ⟨c120_c24_z4, hc120_c24_z4⟩ : ∃ z : Int32, (16 : Int32) * (0 : Int32) = z := ⟨_, rfl⟩
    obtain ⟨c120_c24_z5, hc120_c24_z5⟩ : ∃ z : Int32, p2 + c120_c24_z4 = z := ⟨_, rfl⟩
    obtain ⟨c120_c24_z7, hc120_c24_z7⟩ : ∃ z : Int32, c120_c24_z5 + (0 : Int32) = z := ⟨_, rfl⟩
    obtain ⟨c120_c24_z8, hc120_c24_z8⟩ : ∃ z : UInt64, FP.i2d c120_c24_z7 = z := ⟨_, rfl⟩
    obtain ⟨c120_z27, hc120_z27⟩ : ∃ z : UInt64, FP.dadd c120_c17_z8 c120_c24_z8 = z := ⟨_, rfl⟩
    obtain ⟨c120_z28, hc120_z28⟩ : ∃ z : Int32, cmpValue (FP.dcmp c108_z24 c120_z27) .l = z := ⟨_, rfl⟩
    obtain ⟨c120_c43_z4, hc120_c43_z4⟩ : ∃ z : Int32, (16 : Int32) * (0 : Int32) = z := ⟨_, rfl⟩
    obtain ⟨c120_c43_z5, hc120_c43_z5⟩ : ∃ z : Int32, p1 + c120_c43_z4 = z := ⟨_, rfl⟩
    obtain ⟨c120_c43_z7, hc120_c43_z7⟩ : ∃ z : Int32, c120_c43_z5 + (1 : Int32) = z := ⟨_, rfl⟩
    obtain ⟨c120_c43_z8, hc120_c43_z8⟩ : ∃ z : UInt64, FP.i2d c120_c43_z7 = z := ⟨_, rfl⟩
    obtain ⟨c120_c50_z4, hc120_c50_z4⟩ : ∃ z : Int32, (16 : Int32) * (0 : Int32) = z := ⟨_, rfl⟩
    obtain ⟨c120_c50_z5, hc120_c50_z5⟩ : ∃ z : Int32, p2 + c120_c50_z4 = z := ⟨_, rfl⟩
    obtain ⟨c120_c50_z7, hc120_c50_z7⟩ : ∃ z : Int32, c120_c50_z5 + (1 : Int32) = z := ⟨_, rfl⟩
    obtain ⟨c120_c50_z8, hc120_c50_z8⟩ : ∃ z : UInt64, FP.i2d c120_c50_z7 = z := ⟨_, rfl⟩
    obtain ⟨c120_z53, hc120_z53⟩ : ∃ z : UInt64, FP.dadd c120_c43_z8 c120_c50_z8 = z := ⟨_, rfl⟩
    obtain ⟨c120_z54, hc120_z54⟩ : ∃ z : Int32, cmpValue (FP.dcmp c108_z24_2 c120_z53) .l = z := ⟨_, rfl⟩
    obtain ⟨c135_c17_z4, hc135_c17_z4⟩ : ∃ z : Int32, (16 : Int32) * (1 : Int32) = z := ⟨_, rfl⟩
    obtain ⟨c135_c17_z5, hc135_c17_z5⟩ : ∃ z : Int32, p1 + c135_c17_z4 = z := ⟨_, rfl⟩
    obtain ⟨c135_c17_z7, hc135_c17_z7⟩ : ∃ z : Int32, c135_c17_z5 + (0 : Int32) = z := ⟨_, rfl⟩
    obtain ⟨c135_c17_z8, hc135_c17_z8⟩ : ∃ z : UInt64, FP.i2d c135_c17_z7 = z := ⟨_, rfl⟩
    obtain ⟨c135_c24_z4, hc135_c24_z4⟩ : ∃ z : Int32, (16 : Int32) * (1 : Int32) = z := ⟨_, rfl⟩
    obtain ⟨c135_c24_z5, hc135_c24_z5⟩ : ∃ z : Int32, p2 + c135_c24_z4 = z := ⟨_, rfl⟩
    obtain ⟨c135_c24_z7, hc135_c24_z7⟩ : ∃ z : Int32, c135_c24_z5 + (0 : Int32) = z := ⟨_, rfl⟩
    obtain ⟨c135_c24_z8, hc135_c24_z8⟩ : ∃ z : UInt64, FP.i2d c135_c24_z7 = z := ⟨_, rfl⟩
    obtain ⟨c135_z27, hc135_z27⟩ : ∃ z : UInt64, FP.dadd c135_c17_z8 c135_c24_z8 = z := ⟨_, rfl⟩
    obtain ⟨c135_z28, hc135_z28⟩ : ∃ z : Int32, cmpValue (FP.dcmp c108_z39 c135_z27) .l = z := ⟨_, rfl⟩
    obtain ⟨c135_c43_z4, hc135_c43_z4⟩ : ∃ z : Int32, (16 : Int32) * (1 : Int32) = z := ⟨_, rfl⟩
    obtain ⟨c135_c43_z5, hc135_c43_z5⟩ : ∃ z : Int32, p1 + c135_c43_z4 = z := ⟨_, rfl⟩
    obtain ⟨c135_c43_z7, hc135_c43_z7⟩ : ∃ z : Int32, c135_c43_z5 + (1 : Int32) = z := ⟨_, rfl⟩
    obtain ⟨c135_c43_z8, hc135_c43_z8⟩ : ∃ z : UInt64, FP.i2d c135_c43_z7 = z := ⟨_, rfl⟩
    obtain ⟨c135_c50_z4, hc135_c50_z4⟩ : ∃ z : Int32, (16 : Int32) * (1 : Int32) = z := ⟨_, rfl⟩
    obtain ⟨c135_c50_z5, hc135_c50_z5⟩ : ∃ z : Int32, p2 + c135_c50_z4 = z := ⟨_, rfl⟩
    obtain ⟨c135_c50_z7, hc135_c50_z7⟩ : ∃ z : Int32, c135_c50_z5 + (1 : Int32) = z := ⟨_, rfl⟩
    obtain ⟨c135_c50_z8, hc135_c50_z8⟩ : ∃ z : UInt64, FP.i2d c135_c50_z7 = z := ⟨_, rfl⟩
    obtain ⟨c135_z53, hc135_z53⟩ : ∃ z : UInt64, FP.dadd c135_c43_z8 c135_c50_z8 = z := ⟨_, rfl⟩
    obtain ⟨c135_z54, hc135_z54⟩ : ∃ z : Int32, cmpValue (FP.dcmp c108_z39_2 c135_z53) .l = z := ⟨_, rfl⟩
    obtain ⟨c150_c17_z4, hc150_c17_z4⟩ : ∃ z : Int32, (16 : Int32) * (2 : Int32) = z := ⟨_, rfl⟩
    obtain ⟨c150_c17_z5, hc150_c17_z5⟩ : ∃ z : Int32, p1 + c150_c17_z4 = z := ⟨_, rfl⟩
    obtain ⟨c150_c17_z7, hc150_c17_z7⟩ : ∃ z : Int32, c150_c17_z5 + (0 : Int32) = z := ⟨_, rfl⟩
    obtain ⟨c150_c17_z8, hc150_c17_z8⟩ : ∃ z : UInt64, FP.i2d c150_c17_z7 = z := ⟨_, rfl⟩
    obtain ⟨c150_c24_z4, hc150_c24_z4⟩ : ∃ z : Int32, (16 : Int32) * (2 : Int32) = z := ⟨_, rfl⟩
    obtain ⟨c150_c24_z5, hc150_c24_z5⟩ : ∃ z : Int32, p2 + c150_c24_z4 = z := ⟨_, rfl⟩
    obtain ⟨c150_c24_z7, hc150_c24_z7⟩ : ∃ z : Int32, c150_c24_z5 + (0 : Int32) = z := ⟨_, rfl⟩
    obtain ⟨c150_c24_z8, hc150_c24_z8⟩ : ∃ z : UInt64, FP.i2d c150_c24_z7 = z := ⟨_, rfl⟩
    obtain ⟨c150_z27, hc150_z27⟩ : ∃ z : UInt64, FP.dadd c150_c17_z8 c150_c24_z8 = z := ⟨_, rfl⟩
    obtain ⟨c150_z28, hc150_z28⟩ : ∃ z : Int32, cmpValue (FP.dcmp c108_z54 c150_z27) .l = z := ⟨_, rfl⟩
    obtain ⟨c150_c43_z4, hc150_c43_z4⟩ : ∃ z : Int32, (16 : Int32) * (2 : Int32) = z := ⟨_, rfl⟩
    obtain ⟨c150_c43_z5, hc150_c43_z5⟩ : ∃ z : Int32, p1 + c150_c43_z4 = z := ⟨_, rfl⟩
    obtain ⟨c150_c43_z7, hc150_c43_z7⟩ : ∃ z : Int32, c150_c43_z5 + (1 : Int32) = z := ⟨_, rfl⟩
    obtain ⟨c150_c43_z8, hc150_c43_z8⟩ : ∃ z : UInt64, FP.i2d c150_c43_z7 = z := ⟨_, rfl⟩
    obtain ⟨c150_c50_z4, hc150_c50_z4⟩ : ∃ z : Int32, (16 : Int32) * (2 : Int32) = z := ⟨_, rfl⟩
    obtain ⟨c150_c50_z5, hc150_c50_z5⟩ : ∃ z : Int32, p2 + c150_c50_z4 = z := ⟨_, rfl⟩
    obtain ⟨c150_c50_z7, hc150_c50_z7⟩ : ∃ z : Int32, c150_c50_z5 + (1 : Int32) = z := ⟨_, rfl⟩
    obtain ⟨c150_c50_z8, hc150_c50_z8⟩ : ∃ z : UInt64, FP.i2d c150_c50_z7 = z := ⟨_, rfl⟩
    obtain ⟨c150_z53, hc150_z53⟩ : ∃ z : UInt64, FP.dadd c150_c43_z8 c150_c50_z8 = z := ⟨_, rfl⟩
    obtain ⟨c150_z54, hc150_z54⟩ : ∃ z : Int32, cmpValue (FP.dcmp c108_z54_2 c150_z53) .l = z := ⟨_, rfl⟩
    obtain ⟨c165_c17_z4, hc165_c17_z4⟩ : ∃ z : Int32, (16 : Int32) * (3 : Int32) = z := ⟨_, rfl⟩
    obtain ⟨c165_c17_z5, hc165_c17_z5⟩ : ∃ z : Int32, p1 + c165_c17_z4 = z := ⟨_, rfl⟩
    obtain ⟨c165_c17_z7, hc165_c17_z7⟩ : ∃ z : Int32, c165_c17_z5 + (0 : Int32) = z := ⟨_, rfl⟩
    obtain ⟨c165_c17_z8, hc165_c17_z8⟩ : ∃ z : UInt64, FP.i2d c165_c17_z7 = z := ⟨_, rfl⟩
    obtain ⟨c165_c24_z4, hc165_c24_z4⟩ : ∃ z : Int32, (16 : Int32) * (3 : Int32) = z := ⟨_, rfl⟩
    obtain ⟨c165_c24_z5, hc165_c24_z5⟩ : ∃ z : Int32, p2 + c165_c24_z4 = z := ⟨_, rfl⟩
    obtain ⟨c165_c24_z7, hc165_c24_z7⟩ : ∃ z : Int32, c165_c24_z5 + (0 : Int32) = z := ⟨_, rfl⟩
    obtain ⟨c165_c24_z8, hc165_c24_z8⟩ : ∃ z : UInt64, FP.i2d c165_c24_z7 = z := ⟨_, rfl⟩
    obtain ⟨c165_z27, hc165_z27⟩ : ∃ z : UInt64, FP.dadd c165_c17_z8 c165_c24_z8 = z := ⟨_, rfl⟩
    obtain ⟨c165_z28, hc165_z28⟩ : ∃ z : Int32, cmpValue (FP.dcmp c108_z69 c165_z27) .l = z := ⟨_, rfl⟩
    obtain ⟨c165_c43_z4, hc165_c43_z4⟩ : ∃ z : Int32, (16 : Int32) * (3 : Int32) = z := ⟨_, rfl⟩
    obtain ⟨c165_c43_z5, hc165_c43_z5⟩ : ∃ z : Int32, p1 + c165_c43_z4 = z := ⟨_, rfl⟩
    obtain ⟨c165_c43_z7, hc165_c43_z7⟩ : ∃ z : Int32, c165_c43_z5 + (1 : Int32) = z := ⟨_, rfl⟩
    obtain ⟨c165_c43_z8, hc165_c43_z8⟩ : ∃ z : UInt64, FP.i2d c165_c43_z7 = z := ⟨_, rfl⟩
    obtain ⟨c165_c50_z4, hc165_c50_z4⟩ : ∃ z : Int32, (16 : Int32) * (3 : Int32) = z := ⟨_, rfl⟩
    obtain ⟨c165_c50_z5, hc165_c50_z5⟩ : ∃ z : Int32, p2 + c165_c50_z4 = z := ⟨_, rfl⟩
    obtain ⟨c165_c50_z7, hc165_c50_z7⟩ : ∃ z : Int32, c165_c50_z5 + (1 : Int32) = z := ⟨_, rfl⟩
    obtain ⟨c165_c50_z8, hc165_c50_z8⟩ : ∃ z : UInt64, FP.i2d c165_c50_z7 = z := ⟨_, rfl⟩
    obtain ⟨c165_z53, hc165_z53⟩ : ∃ z : UInt64, FP.dadd c165_c43_z8 c165_c50_z8 = z := ⟨_, rfl⟩
    obtain ⟨c165_z54, hc165_z54⟩ : ∃ z : Int32, cmpValue (FP.dcmp c108_z69_2 c165_z53) .l = z := ⟨_, rfl⟩
    obtain ⟨c179_c17_z4, hc179_c17_z4⟩ : ∃ z : Int32, (16 : Int32) * (0 : Int32) = z := ⟨_, rfl⟩
    obtain ⟨c179_c17_z5, hc179_c17_z5⟩ : ∃ z : Int32, p2 + c179_c17_z4 = z := ⟨_, rfl⟩
    obtain ⟨c179_c17_z7, hc179_c17_z7⟩ : ∃ z : Int32, c179_c17_z5 + (0 : Int32) = z := ⟨_, rfl⟩
    obtain ⟨c179_c17_z8, hc179_c17_z8⟩ : ∃ z : UInt64, FP.i2d c179_c17_z7 = z := ⟨_, rfl⟩
    obtain ⟨c179_z20, hc179_z20⟩ : ∃ z : Int32, cmpValue (FP.dcmp c71_c10_z8 c179_c17_z8) .l = z := ⟨_, rfl⟩
    obtain ⟨c179_c35_z4, hc179_c35_z4⟩ : ∃ z : Int32, (16 : Int32) * (0 : Int32) = z := ⟨_, rfl⟩
    obtain ⟨c179_c35_z5, hc179_c35_z5⟩ : ∃ z : Int32, p2 + c179_c35_z4 = z := ⟨_, rfl⟩
    obtain ⟨c179_c35_z7, hc179_c35_z7⟩ : ∃ z : Int32, c179_c35_z5 + (1 : Int32) = z := ⟨_, rfl⟩
    obtain ⟨c179_c35_z8, hc179_c35_z8⟩ : ∃ z : UInt64, FP.i2d c179_c35_z7 = z := ⟨_, rfl⟩
    obtain ⟨c179_z38, hc179_z38⟩ : ∃ z : Int32, cmpValue (FP.dcmp c71_c25_z8 c179_c35_z8) .l = z := ⟨_, rfl⟩
    obtain ⟨c193_c17_z4, hc193_c17_z4⟩ : ∃ z : Int32, (16 : Int32) * (1 : Int32) = z := ⟨_, rfl⟩
    obtain ⟨c193_c17_z5, hc193_c17_z5⟩ : ∃ z : Int32, p2 + c193_c17_z4 = z := ⟨_, rfl⟩
    obtain ⟨c193_c17_z7, hc193_c17_z7⟩ : ∃ z : Int32, c193_c17_z5 + (0 : Int32) = z := ⟨_, rfl⟩
    obtain ⟨c193_c17_z8, hc193_c17_z8⟩ : ∃ z : UInt64, FP.i2d c193_c17_z7 = z := ⟨_, rfl⟩
    obtain ⟨c193_z20, hc193_z20⟩ : ∃ z : Int32, cmpValue (FP.dcmp c81_c10_z8 c193_c17_z8) .l = z := ⟨_, rfl⟩
    obtain ⟨c193_c35_z4, hc193_c35_z4⟩ : ∃ z : Int32, (16 : Int32) * (1 : Int32) = z := ⟨_, rfl⟩
    obtain ⟨c193_c35_z5, hc193_c35_z5⟩ : ∃ z : Int32, p2 + c193_c35_z4 = z := ⟨_, rfl⟩
    obtain ⟨c193_c35_z7, hc193_c35_z7⟩ : ∃ z : Int32, c193_c35_z5 + (1 : Int32) = z := ⟨_, rfl⟩
    obtain ⟨c193_c35_z8, hc193_c35_z8⟩ : ∃ z : UInt64, FP.i2d c193_c35_z7 = z := ⟨_, rfl⟩
    obtain ⟨c193_z38, hc193_z38⟩ : ∃ z : Int32, cmpValue (FP.dcmp c81_c25_z8 c193_c35_z8) .l = z := ⟨_, rfl⟩
    obtain ⟨c207_c17_z4, hc207_c17_z4⟩ : ∃ z : Int32, (16 : Int32) * (2 : Int32) = z := ⟨_, rfl⟩
    obtain ⟨c207_c17_z5, hc207_c17_z5⟩ : ∃ z : Int32, p2 + c207_c17_z4 = z := ⟨_, rfl⟩
    obtain ⟨c207_c17_z7, hc207_c17_z7⟩ : ∃ z : Int32, c207_c17_z5 + (0 : Int32) = z := ⟨_, rfl⟩
    obtain ⟨c207_c17_z8, hc207_c17_z8⟩ : ∃ z : UInt64, FP.i2d c207_c17_z7 = z := ⟨_, rfl⟩
    obtain ⟨c207_z20, hc207_z20⟩ : ∃ z : Int32, cmpValue (FP.dcmp c91_c10_z8 c207_c17_z8) .l = z := ⟨_, rfl⟩
    obtain ⟨c207_c35_z4, hc207_c35_z4⟩ : ∃ z : Int32, (16 : Int32) * (2 : Int32) = z := ⟨_, rfl⟩
    obtain ⟨c207_c35_z5, hc207_c35_z5⟩ : ∃ z : Int32, p2 + c207_c35_z4 = z := ⟨_, rfl⟩
    obtain ⟨c207_c35_z7, hc207_c35_z7⟩ : ∃ z : Int32, c207_c35_z5 + (1 : Int32) = z := ⟨_, rfl⟩
    obtain ⟨c207_c35_z8, hc207_c35_z8⟩ : ∃ z : UInt64, FP.i2d c207_c35_z7 = z := ⟨_, rfl⟩
    obtain ⟨c207_z38, hc207_z38⟩ : ∃ z : Int32, cmpValue (FP.dcmp c91_c25_z8 c207_c35_z8) .l = z := ⟨_, rfl⟩
    obtain ⟨c221_c17_z4, hc221_c17_z4⟩ : ∃ z : Int32, (16 : Int32) * (3 : Int32) = z := ⟨_, rfl⟩
    obtain ⟨c221_c17_z5, hc221_c17_z5⟩ : ∃ z : Int32, p2 + c221_c17_z4 = z := ⟨_, rfl⟩
    obtain ⟨c221_c17_z7, hc221_c17_z7⟩ : ∃ z : Int32, c221_c17_z5 + (0 : Int32) = z := ⟨_, rfl⟩
    obtain ⟨c221_c17_z8, hc221_c17_z8⟩ : ∃ z : UInt64, FP.i2d c221_c17_z7 = z := ⟨_, rfl⟩
    obtain ⟨c221_z20, hc221_z20⟩ : ∃ z : Int32, cmpValue (FP.dcmp c101_c10_z8 c221_c17_z8) .l = z := ⟨_, rfl⟩
    obtain ⟨c221_c35_z4, hc221_c35_z4⟩ : ∃ z : Int32, (16 : Int32) * (3 : Int32) = z := ⟨_, rfl⟩
    obtain ⟨c221_c35_z5, hc221_c35_z5⟩ : ∃ z : Int32, p2 + c221_c35_z4 = z := ⟨_, rfl⟩
    obtain ⟨c221_c35_z7, hc221_c35_z7⟩ : ∃ z : Int32, c221_c35_z5 + (1 : Int32) = z := ⟨_, rfl⟩
    obtain ⟨c221_c35_z8, hc221_c35_z8⟩ : ∃ z : UInt64, FP.i2d c221_c35_z7 = z := ⟨_, rfl⟩
    obtain ⟨c221_z38, hc221_z38⟩ : ∃ z : Int32, cmpValue (FP.dcmp c101_c25_z8 c221_c35_z8) .l = z := ⟨_, rfl⟩
    obtain ⟨T149, h149, X149, e149, E149, A149, D149, -, st149⟩ := newO X0 hx hZ hown (hw _ (List.mem_of_getElem? (i := 0) rfl)) (hw _ (List.mem_of_getElem? (i := 1) rfl)) (hw _ (List.mem_of_getElem? (i := 2) rfl)) e0 (g := (mkF m 4 #[.val (.int p0), .val (.int p1), .val (.int p2), .val (.int (2 : Int32)), .unset, .unset] [])) rfl (hb hby at_4) (by decide) (by decide)
    obtain ⟨b149, g149⟩ : ∃ z, z = h0.size := ⟨_, rfl⟩
    rw [← g149] at A149 D149 st149
    have gn149 : n0 ≤ b149 := Nat.le_trans Z0 (Nat.le_of_eq g149.symm)
    have gz149 : h0.size ≤ b149 := Nat.le_trans ((Keep.refl h0 [])).1 (Nat.le_of_eq g149.symm)
    have K150 : Keep h0 h149 [] := (Keep.refl h0 []).ext E149
    have F149_direct : Fld Z h149 b149 "com/example/lumenstand/lumenstand/light/Interception" "direct" "[D" .null := D149 (Or.inr (hw _ (List.mem_of_getElem? (i := 11) rfl))) (ty := (.array .double)) (by decide)
    have F149_diffuse : Fld Z h149 b149 "com/example/lumenstand/lumenstand/light/Interception" "diffuse" "[D" .null := D149 (Or.inr (hw _ (List.mem_of_getElem? (i := 13) rfl))) (ty := (.array .double)) (by decide)
    have F149_potential : Fld Z h149 b149 "com/example/lumenstand/lumenstand/light/Interception" "potential" "[D" .null := D149 (Or.inr (hw _ (List.mem_of_getElem? (i := 15) rfl))) (ty := (.array .double)) (by decide)
    have F149_trunk : Fld Z h149 b149 "com/example/lumenstand/lumenstand/light/Interception" "trunk" "[D" .null := D149 (Or.inr (hw _ (List.mem_of_getElem? (i := 17) rfl))) (ty := (.array .double)) (by decide)
    obtain ⟨_, _, ⟨T151, L151, k151, n151⟩, -, X151, ⟨Lc151, hQ151, ql151, qy151, qz151⟩, st151⟩ := X149.specialBack hx (y := (⟨"com/example/lumenstand/lumenstand/light/Interception", "<init>", "(I)V"⟩ : MethodName)) rfl hown (mvT hZ (hw _ (List.mem_of_getElem? (i := 3) rfl))) (mvT hZ (hw _ (List.mem_of_getElem? (i := 4) rfl))) (mvT hZ (hw _ (List.mem_of_getElem? (i := 5) rfl))) (by decide) (backOf (W := 1) (rm1_2 l Z a0 hw [] b149 (.null) (.null) (.null) (.null)  h149 n0 (Nat.le_trans Z0 E149.1) A149 F149_direct gn149 F149_diffuse F149_potential F149_trunk) hZ (hw _ (List.mem_of_getElem? (i := 5) rfl)) (hw _ (List.mem_of_getElem? (i := 2) rfl)) (by decide) (by decide)) (g := (mkF m 9 #[.val (.int p0), .val (.int p1), .val (.int p2), .val (.int (2 : Int32)), .unset, .unset] [(.int (2 : Int32)), (.ref b149), (.ref b149)])) rfl (by rw [hml]; rfl) (Steps.refl _) (a := b149) (argsL := [(.int (2 : Int32))]) (rest := [(.ref b149)]) (lenOf pd_1 rfl) rfl (by show 2 * 0 + _ ≤ _; exact Nat.le_of_eq rfl) (hb hby at_9) (fun _ _ => ⟨rfl, e149, (by decide : 1 + 4 ≤ _), (by decide : 4 + 8 ≤ _)⟩)
    dsimp only [Pt.U, Pt.locs, Pt.cells, Pt.slots] at X151 ql151 qy151 qz151 st151 hQ151
    subst ql151 qy151 qz151
    obtain ⟨rb151_b2, rb151_b8, rb151_b14, rb151_b20, kk151_k2, kk151_k8, kk151_k14, kk151_k20, rfl, N151q, gz151_b2, gz151_b8, gz151_b14, gz151_b20, K151q, Q151_0, Q151_1, Q151_2, Q151_3, Q151_4, Q151_5, Q151_6, Q151_7, Q151_8, D151_0, D151_1, D151_2, D151_3, D151_4, D151_5⟩ := hQ151
    have N151 := Fr.app N0 N151q
    have gn151_b2 : n0 ≤ rb151_b2 := Nat.le_trans (Nat.le_trans Z0 E149.1) gz151_b2
    have gy151_b2 : h0.size ≤ rb151_b2 := Nat.le_trans (K150).1 gz151_b2
    have gn151_b8 : n0 ≤ rb151_b8 := Nat.le_trans (Nat.le_trans Z0 E149.1) gz151_b8
    have gy151_b8 : h0.size ≤ rb151_b8 := Nat.le_trans (K150).1 gz151_b8
    have gn151_b14 : n0 ≤ rb151_b14 := Nat.le_trans (Nat.le_trans Z0 E149.1) gz151_b14
    have gy151_b14 : h0.size ≤ rb151_b14 := Nat.le_trans (K150).1 gz151_b14
    have gn151_b20 : n0 ≤ rb151_b20 := Nat.le_trans (Nat.le_trans Z0 E149.1) gz151_b20
    have gy151_b20 : h0.size ≤ rb151_b20 := Nat.le_trans (K150).1 gz151_b20
    have K152 : Keep h0 T151.heap [] := Keep.trans K150 K151q (allS (Or.inr gz149) all0)
    obtain ⟨T153, h153, X153, e153, E153, A153, D153, -, st153⟩ := newO X151 hx hZ hown (hw _ (List.mem_of_getElem? (i := 0) rfl)) (hw _ (List.mem_of_getElem? (i := 1) rfl)) (hw _ (List.mem_of_getElem? (i := 2) rfl)) rfl (g := (mkF m 14 #[.val (.int p0), .val (.int p1), .val (.int p2), .val (.int (2 : Int32)), .val (.ref b149), .unset] [])) rfl (hb hby at_14) (by decide) (by decide)
    obtain ⟨b153, g153⟩ : ∃ z, z = T151.heap.size := ⟨_, rfl⟩
    rw [← g153] at A153 D153 st153
    have gn153 : n0 ≤ b153 := Nat.le_trans (Nat.le_trans (Nat.le_trans Z0 E149.1) K151q.1) (Nat.le_of_eq g153.symm)
    have gz153 : h0.size ≤ b153 := Nat.le_trans (K152).1 (Nat.le_of_eq g153.symm)
    have K154 : Keep h0 h153 [] := K152.ext E153
    have F153_direct : Fld Z h153 b153 "com/example/lumenstand/lumenstand/light/Interception" "direct" "[D" .null := D153 (Or.inr (hw _ (List.mem_of_getElem? (i := 11) rfl))) (ty := (.array .double)) (by decide)
    have F153_diffuse : Fld Z h153 b153 "com/example/lumenstand/lumenstand/light/Interception" "diffuse" "[D" .null := D153 (Or.inr (hw _ (List.mem_of_getElem? (i := 13) rfl))) (ty := (.array .double)) (by decide)
    have F153_potential : Fld Z h153 b153 "com/example/lumenstand/lumenstand/light/Interception" "potential" "[D" .null := D153 (Or.inr (hw _ (List.mem_of_getElem? (i := 15) rfl))) (ty := (.array .double)) (by decide)
    have F153_trunk : Fld Z h153 b153 "com/example/lumenstand/lumenstand/light/Interception" "trunk" "[D" .null := D153 (Or.inr (hw _ (List.mem_of_getElem? (i := 17) rfl))) (ty := (.array .double)) (by decide)
    obtain ⟨_, _, ⟨T155, L155, k155, n155⟩, -, X155, ⟨Lc155, hQ155, ql155, qy155, qz155⟩, st155⟩ := X153.specialBack hx (y := (⟨"com/example/lumenstand/lumenstand/light/Interception", "<init>", "(I)V"⟩ : MethodName)) rfl hown (mvT hZ (hw _ (List.mem_of_getElem? (i := 3) rfl))) (mvT hZ (hw _ (List.mem_of_getElem? (i := 4) rfl))) (mvT hZ (hw _ (List.mem_of_getElem? (i := 5) rfl))) (by decide) (backOf (W := 1) (rm1_2 l Z a0 hw [] b153 (.null) (.null) (.null) (.null)  h153 n0 (Nat.le_trans (Nat.le_trans (Nat.le_trans Z0 E149.1) K151q.1) E153.1) A153 F153_direct gn153 F153_diffuse F153_potential F153_trunk) hZ (hw _ (List.mem_of_getElem? (i := 5) rfl)) (hw _ (List.mem_of_getElem? (i := 2) rfl)) (by decide) (by decide)) (g := (mkF m 19 #[.val (.int p0), .val (.int p1), .val (.int p2), .val (.int (2 : Int32)), .val (.ref b149), .unset] [(.int (2 : Int32)), (.ref b153), (.ref b153)])) rfl (by rw [hml]; rfl) (Steps.refl _) (a := b153) (argsL := [(.int (2 : Int32))]) (rest := [(.ref b153)]) (lenOf pd_1 rfl) rfl (by show 2 * 0 + _ ≤ _; exact Nat.le_of_eq rfl) (hb hby at_19) (fun _ _ => ⟨rfl, e153, (by decide : 6 + 4 ≤ _), (by decide : 16 + 8 ≤ _)⟩)
    dsimp only [Pt.U, Pt.locs, Pt.cells, Pt.slots] at X155 ql155 qy155 qz155 st155 hQ155
    subst ql155 qy155 qz155
    obtain ⟨rb155_b2, rb155_b8, rb155_b14, rb155_b20, kk155_k2, kk155_k8, kk155_k14, kk155_k20, rfl, N155q, gz155_b2, gz155_b8, gz155_b14, gz155_b20, K155q, Q155_0, Q155_1, Q155_2, Q155_3, Q155_4, Q155_5, Q155_6, Q155_7, Q155_8, D155_0, D155_1, D155_2, D155_3, D155_4, D155_5⟩ := hQ155
    have N155 := Fr.app N151 N155q
    have gn155_b2 : n0 ≤ rb155_b2 := Nat.le_trans (Nat.le_trans (Nat.le_trans (Nat.le_trans Z0 E149.1) K151q.1) E153.1) gz155_b2
    have gy155_b2 : h0.size ≤ rb155_b2 := Nat.le_trans (K154).1 gz155_b2
    have gn155_b8 : n0 ≤ rb155_b8 := Nat.le_trans (Nat.le_trans (Nat.le_trans (Nat.le_trans Z0 E149.1) K151q.1) E153.1) gz155_b8
    have gy155_b8 : h0.size ≤ rb155_b8 := Nat.le_trans (K154).1 gz155_b8
    have gn155_b14 : n0 ≤ rb155_b14 := Nat.le_trans (Nat.le_trans (Nat.le_trans (Nat.le_trans Z0 E149.1) K151q.1) E153.1) gz155_b14
    have gy155_b14 : h0.size ≤ rb155_b14 := Nat.le_trans (K154).1 gz155_b14
    have gn155_b20 : n0 ≤ rb155_b20 := Nat.le_trans (Nat.le_trans (Nat.le_trans (Nat.le_trans Z0 E149.1) K151q.1) E153.1) gz155_b20
    have gy155_b20 : h0.size ≤ rb155_b20 := Nat.le_trans (K154).1 gz155_b20
    have K156 : Keep h0 T155.heap [] := Keep.trans K154 K155q (allS (Or.inr gz153) all0)
    have f157 := ((Q151_1.ext E153).keep K155q (ninS (Nat.ne_of_lt (Nat.lt_of_lt_of_le (Q151_0).lt (Nat.le_of_eq g153.symm))) nin0))
    obtain ⟨T158, X158, e158, st158⟩ := getF X155 hx hZ hown (host := "") (Or.inl (hw _ (List.mem_of_getElem? (i := 18) rfl))) Via.refl rfl f157 (g := (mkF m 26 #[.val (.int p0), .val (.int p1), .val (.int p2), .val (.int (2 : Int32)), .val (.ref b149), .val (.ref b153)] [(.ref b149)])) rfl rfl (hb hby at_26)
    have f159 := ((Q151_5.ext E153).keep K155q (ninS (Nat.ne_of_lt (Nat.lt_of_lt_of_le (Q151_5).lt (Nat.le_of_eq g153.symm))) nin0))
    obtain ⟨_, _, ⟨T160, L160, k160, n160⟩, -, X160, ⟨Lc160, hQ160, ql160, qy160, qz160⟩, st160⟩ := Jvm.LawKit.callS X158 hx (y := (⟨"com/example/lumenstand/lumenstand/light/InterceptionAddPinLaw", "put", "([DII)V"⟩ : MethodName)) hown (mvT hZ (hw _ (List.mem_of_getElem? (i := 19) rfl))) (mvT hZ (hw _ (List.mem_of_getElem? (i := 20) rfl))) (mvT hZ (hw _ (List.mem_of_getElem? (i := 21) rfl))) (mvT hZ (hw _ (List.mem_of_getElem? (i := 22) rfl))) (by decide) (backOf (W := 0) (rm3_2 l Z a0 hw [] rb151_b2 (0 : Int32) p1 kk151_k2 (0 : UInt64) (0 : UInt64) c31_c10_z4 c31_c10_z5 c31_c10_z7 c31_c10_z8 c31_c25_z4 c31_c25_z5 c31_c25_z7 c31_c25_z8 T155.heap n0 (Nat.le_trans (Nat.le_trans (Nat.le_trans (Nat.le_trans Z0 E149.1) K151q.1) E153.1) K155q.1) f159 gn151_b2 hc31_c10_z4 hc31_c10_z5 hc31_c10_z7 hc31_c10_z8 hc31_c25_z4 hc31_c25_z5 hc31_c25_z7 hc31_c25_z8) hZ (hw _ (List.mem_of_getElem? (i := 22) rfl)) (hw _ (List.mem_of_getElem? (i := 21) rfl)) (by decide) (by decide)) (g := (mkF m 31 #[.val (.int p0), .val (.int p1), .val (.int p2), .val (.int (2 : Int32)), .val (.ref b149), .val (.ref b153)] [(.int p1), (.int (0 : Int32)), (.ref rb151_b2)])) rfl (by rw [hml]; rfl) (argsL := [(.ref rb151_b2), (.int (0 : Int32)), (.int p1)]) (rest := []) (lenOf pd_2 rfl) rfl (by show 2 * 0 + _ ≤ _; exact Nat.le_of_eq rfl) (hb hby at_31) (fun _ _ => ⟨rfl, e158, (by decide : 10 + 0 ≤ _), (by decide : 24 + 0 ≤ _)⟩)
    dsimp only [Pt.U, Pt.locs, Pt.cells, Pt.slots] at X160 ql160 qy160 qz160 st160 hQ160
    subst ql160 qy160 qz160
    obtain ⟨rfl, N160q, K160q, Q160_0⟩ := hQ160
    have N160 := Fr.app N155 N160q
    have K161 : Keep h0 T160.heap [] := Keep.trans K156 K160q (allS (Or.inr gy151_b2) all0)
    have f162 := (((Q151_2.ext E153).keep K155q (ninS (Nat.ne_of_lt (Nat.lt_of_lt_of_le (Q151_0).lt (Nat.le_of_eq g153.symm))) nin0)).keep K160q (ninS (Nat.ne_of_lt (Nat.lt_of_lt_of_le (A149).lt gz151_b2)) nin0))
    obtain ⟨T163, X163, e163, st163⟩ := getF X160 hx hZ hown (host := "") (Or.inl (hw _ (List.mem_of_getElem? (i := 23) rfl))) Via.refl rfl f162 (g := (mkF m 36 #[.val (.int p0), .val (.int p1), .val (.int p2), .val (.int (2 : Int32)), .val (.ref b149), .val (.ref b153)] [(.ref b149)])) rfl rfl (hb hby at_36)
    have f164 := (((Q151_6.ext E153).keep K155q (ninS (Nat.ne_of_lt (Nat.lt_of_lt_of_le (Q151_6).lt (Nat.le_of_eq g153.symm))) nin0)).keep K160q (ninS (Ne.symm D151_0) nin0))
    obtain ⟨_, _, ⟨T165, L165, k165, n165⟩, -, X165, ⟨Lc165, hQ165, ql165, qy165, qz165⟩, st165⟩ := Jvm.LawKit.callS X163 hx (y := (⟨"com/example/lumenstand/lumenstand/light/InterceptionAddPinLaw", "put", "([DII)V"⟩ : MethodName)) hown (mvT hZ (hw _ (List.mem_of_getElem? (i := 19) rfl))) (mvT hZ (hw _ (List.mem_of_getElem? (i := 20) rfl))) (mvT hZ (hw _ (List.mem_of_getElem? (i := 21) rfl))) (mvT hZ (hw _ (List.mem_of_getElem? (i := 22) rfl))) (by decide) (backOf (W := 0) (rm3_2 l Z a0 hw [] rb151_b8 (1 : Int32) p1 kk151_k8 (0 : UInt64) (0 : UInt64) c41_c10_z4 c41_c10_z5 c41_c10_z7 c41_c10_z8 c41_c25_z4 c41_c25_z5 c41_c25_z7 c41_c25_z8 T160.heap n0 (Nat.le_trans (Nat.le_trans (Nat.le_trans (Nat.le_trans (Nat.le_trans Z0 E149.1) K151q.1) E153.1) K155q.1) K160q.1) f164 gn151_b8 hc41_c10_z4 hc41_c10_z5 hc41_c10_z7 hc41_c10_z8 hc41_c25_z4 hc41_c25_z5 hc41_c25_z7 hc41_c25_z8) hZ (hw _ (List.mem_of_getElem? (i := 22) rfl)) (hw _ (List.mem_of_getElem? (i := 21) rfl)) (by decide) (by decide)) (g := (mkF m 41 #[.val (.int p0), .val (.int p1), .val (.int p2), .val (.int (2 : Int32)), .val (.ref b149), .val (.ref b153)] [(.int p1), (.int (1 : Int32)), (.ref rb151_b8)])) rfl (by rw [hml]; rfl) (argsL := [(.ref rb151_b8), (.int (1 : Int32)), (.int p1)]) (rest := []) (lenOf pd_2 rfl) rfl (by show 2 * 0 + _ ≤ _; exact Nat.le_of_eq rfl) (hb hby at_41) (fun _ _ => ⟨rfl, e163, (by decide : 10 + 0 ≤ _), (by decide : 24 + 0 ≤ _)⟩)
    dsimp only [Pt.U, Pt.locs, Pt.cells, Pt.slots] at X165 ql165 qy165 qz165 st165 hQ165
    subst ql165 qy165 qz165
    obtain ⟨rfl, N165q, K165q, Q165_0⟩ := hQ165
    have N165 := Fr.app N160 N165q
    have K166 : Keep h0 T165.heap [] := Keep.trans K161 K165q (allS (Or.inr gy151_b8) all0)
    have f167 := ((((Q151_3.ext E153).keep K155q (ninS (Nat.ne_of_lt (Nat.lt_of_lt_of_le (Q151_0).lt (Nat.le_of_eq g153.symm))) nin0)).keep K160q (ninS (Nat.ne_of_lt (Nat.lt_of_lt_of_le (A149).lt gz151_b2)) nin0)).keep K165q (ninS (Nat.ne_of_lt (Nat.lt_of_lt_of_le (A149).lt gz151_b8)) nin0))
    obtain ⟨T168, X168, e168, st168⟩ := getF X165 hx hZ hown (host := "") (Or.inl (hw _ (List.mem_of_getElem? (i := 24) rfl))) Via.refl rfl f167 (g := (mkF m 46 #[.val (.int p0), .val (.int p1), .val (.int p2), .val (.int (2 : Int32)), .val (.ref b149), .val (.ref b153)] [(.ref b149)])) rfl rfl (hb hby at_46)
    have f169 := ((((Q151_7.ext E153).keep K155q (ninS (Nat.ne_of_lt (Nat.lt_of_lt_of_le (Q151_7).lt (Nat.le_of_eq g153.symm))) nin0)).keep K160q (ninS (Ne.symm D151_1) nin0)).keep K165q (ninS (Ne.symm D151_3) nin0))
    obtain ⟨_, _, ⟨T170, L170, k170, n170⟩, -, X170, ⟨Lc170, hQ170, ql170, qy170, qz170⟩, st170⟩ := Jvm.LawKit.callS X168 hx (y := (⟨"com/example/lumenstand/lumenstand/light/InterceptionAddPinLaw", "put", "([DII)V"⟩ : MethodName)) hown (mvT hZ (hw _ (List.mem_of_getElem? (i := 19) rfl))) (mvT hZ (hw _ (List.mem_of_getElem? (i := 20) rfl))) (mvT hZ (hw _ (List.mem_of_getElem? (i := 21) rfl))) (mvT hZ (hw _ (List.mem_of_getElem? (i := 22) rfl))) (by decide) (backOf (W := 0) (rm3_2 l Z a0 hw [] rb151_b14 (2 : Int32) p1 kk151_k14 (0 : UInt64) (0 : UInt64) c51_c10_z4 c51_c10_z5 c51_c10_z7 c51_c10_z8 c51_c25_z4 c51_c25_z5 c51_c25_z7 c51_c25_z8 T165.heap n0 (Nat.le_trans (Nat.le_trans (Nat.le_trans (Nat.le_trans (Nat.le_trans (Nat.le_trans Z0 E149.1) K151q.1) E153.1) K155q.1) K160q.1) K165q.1) f169 gn151_b14 hc51_c10_z4 hc51_c10_z5 hc51_c10_z7 hc51_c10_z8 hc51_c25_z4 hc51_c25_z5 hc51_c25_z7 hc51_c25_z8) hZ (hw _ (List.mem_of_getElem? (i := 22) rfl)) (hw _ (List.mem_of_getElem? (i := 21) rfl)) (by decide) (by decide)) (g := (mkF m 51 #[.val (.int p0), .val (.int p1), .val (.int p2), .val (.int (2 : Int32)), .val (.ref b149), .val (.ref b153)] [(.int p1), (.int (2 : Int32)), (.ref rb151_b14)])) rfl (by rw [hml]; rfl) (argsL := [(.ref rb151_b14), (.int (2 : Int32)), (.int p1)]) (rest := []) (lenOf pd_2 rfl) rfl (by show 2 * 0 + _ ≤ _; exact Nat.le_of_eq rfl) (hb hby at_51) (fun _ _ => ⟨rfl, e168, (by decide : 10 + 0 ≤ _), (by decide : 24 + 0 ≤ _)⟩)
    dsimp only [Pt.U, Pt.locs, Pt.cells, Pt.slots] at X170 ql170 qy170 qz170 st170 hQ170
    subst ql170 qy170 qz170
    obtain ⟨rfl, N170q, K170q, Q170_0⟩ := hQ170
    have N170 := Fr.app N165 N170q
    have K171 : Keep h0 T170.heap [] := Keep.trans K166 K170q (allS (Or.inr gy151_b14) all0)
    have f172 := (((((Q151_4.ext E153).keep K155q (ninS (Nat.ne_of_lt (Nat.lt_of_lt_of_le (Q151_0).lt (Nat.le_of_eq g153.symm))) nin0)).keep K160q (ninS (Nat.ne_of_lt (Nat.lt_of_lt_of_le (A149).lt gz151_b2)) nin0)).keep K165q (ninS (Nat.ne_of_lt (Nat.lt_of_lt_of_le (A149).lt gz151_b8)) nin0)).keep K170q (ninS (Nat.ne_of_lt (Nat.lt_of_lt_of_le (A149).lt gz151_b14)) nin0))
    obtain ⟨T173, X173, e173, st173⟩ := getF X170 hx hZ hown (host := "") (Or.inl (hw _ (List.mem_of_getElem? (i := 25) rfl))) Via.refl rfl f172 (g := (mkF m 56 #[.val (.int p0), .val (.int p1), .val (.int p2), .val (.int (2 : Int32)), .val (.ref b149), .val (.ref b153)] [(.ref b149)])) rfl rfl (hb hby at_56)
    have f174 := (((((Q151_8.ext E153).keep K155q (ninS (Nat.ne_of_lt (Nat.lt_of_lt_of_le (Q151_8).lt (Nat.le_of_eq g153.symm))) nin0)).keep K160q (ninS (Ne.symm D151_2) nin0)).keep K165q (ninS (Ne.symm D151_4) nin0)).keep K170q (ninS (Ne.symm D151_5) nin0))
    obtain ⟨_, _, ⟨T175, L175, k175, n175⟩, -, X175, ⟨Lc175, hQ175, ql175, qy175, qz175⟩, st175⟩ := Jvm.LawKit.callS X173 hx (y := (⟨"com/example/lumenstand/lumenstand/light/InterceptionAddPinLaw", "put", "([DII)V"⟩ : MethodName)) hown (mvT hZ (hw _ (List.mem_of_getElem? (i := 19) rfl))) (mvT hZ (hw _ (List.mem_of_getElem? (i := 20) rfl))) (mvT hZ (hw _ (List.mem_of_getElem? (i := 21) rfl))) (mvT hZ (hw _ (List.mem_of_getElem? (i := 22) rfl))) (by decide) (backOf (W := 0) (rm3_2 l Z a0 hw [] rb151_b20 (3 : Int32) p1 kk151_k20 (0 : UInt64) (0 : UInt64) c61_c10_z4 c61_c10_z5 c61_c10_z7 c61_c10_z8 c61_c25_z4 c61_c25_z5 c61_c25_z7 c61_c25_z8 T170.heap n0 (Nat.le_trans (Nat.le_trans (Nat.le_trans (Nat.le_trans (Nat.le_trans (Nat.le_trans (Nat.le_trans Z0 E149.1) K151q.1) E153.1) K155q.1) K160q.1) K165q.1) K170q.1) f174 gn151_b20 hc61_c10_z4 hc61_c10_z5 hc61_c10_z7 hc61_c10_z8 hc61_c25_z4 hc61_c25_z5 hc61_c25_z7 hc61_c25_z8) hZ (hw _ (List.mem_of_getElem? (i := 22) rfl)) (hw _ (List.mem_of_getElem? (i := 21) rfl)) (by decide) (by decide)) (g := (mkF m 61 #[.val (.int p0), .val (.int p1), .val (.int p2), .val (.int (2 : Int32)), .val (.ref b149), .val (.ref b153)] [(.int p1), (.int (3 : Int32)), (.ref rb151_b20)])) rfl (by rw [hml]; rfl) (argsL := [(.ref rb151_b20), (.int (3 : Int32)), (.int p1)]) (rest := []) (lenOf pd_2 rfl) rfl (by show 2 * 0 + _ ≤ _; exact Nat.le_of_eq rfl) (hb hby at_61) (fun _ _ => ⟨rfl, e173, (by decide : 10 + 0 ≤ _), (by decide : 24 + 0 ≤ _)⟩)
    dsimp only [Pt.U, Pt.locs, Pt.cells, Pt.slots] at X175 ql175 qy175 qz175 st175 hQ175
    subst ql175 qy175 qz175
    obtain ⟨rfl, N175q, K175q, Q175_0⟩ := hQ175
    have N175 := Fr.app N170 N175q
    have K176 : Keep h0 T175.heap [] := Keep.trans K171 K175q (allS (Or.inr gy151_b20) all0)
    have f177 := ((((Q155_1.keep K160q (ninS (Ne.symm (Nat.ne_of_lt (Nat.lt_of_lt_of_le (Q151_5).lt (Nat.le_of_eq g153.symm)))) nin0)).keep K165q (ninS (Ne.symm (Nat.ne_of_lt (Nat.lt_of_lt_of_le (Q151_6).lt (Nat.le_of_eq g153.symm)))) nin0)).keep K170q (ninS (Ne.symm (Nat.ne_of_lt (Nat.lt_of_lt_of_le (Q151_7).lt (Nat.le_of_eq g153.symm)))) nin0)).keep K175q (ninS (Ne.symm (Nat.ne_of_lt (Nat.lt_of_lt_of_le (Q151_8).lt (Nat.le_of_eq g153.symm)))) nin0))
    obtain ⟨T178, X178, e178, st178⟩ := getF X175 hx hZ hown (host := "") (Or.inl (hw _ (List.mem_of_getElem? (i := 18) rfl))) Via.refl rfl f177 (g := (mkF m 66 #[.val (.int p0), .val (.int p1), .val (.int p2), .val (.int (2 : Int32)), .val (.ref b149), .val (.ref b153)] [(.ref b153)])) rfl rfl (hb hby at_66)
    have f179 := ((((Q155_5.keep K160q (ninS (Ne.symm (Nat.ne_of_lt (Nat.lt_of_lt_of_le ((Q151_5.ext E153)).lt gz155_b2))) nin0)).keep K165q (ninS (Ne.symm (Nat.ne_of_lt (Nat.lt_of_lt_of_le ((Q151_6.ext E153)).lt gz155_b2))) nin0)).keep K170q (ninS (Ne.symm (Nat.ne_of_lt (Nat.lt_of_lt_of_le ((Q151_7.ext E153)).lt gz155_b2))) nin0)).keep K175q (ninS (Ne.symm (Nat.ne_of_lt (Nat.lt_of_lt_of_le ((Q151_8.ext E153)).lt gz155_b2))) nin0))
    obtain ⟨_, _, ⟨T180, L180, k180, n180⟩, -, X180, ⟨Lc180, hQ180, ql180, qy180, qz180⟩, st180⟩ := Jvm.LawKit.callS X178 hx (y := (⟨"com/example/lumenstand/lumenstand/light/InterceptionAddPinLaw", "put", "([DII)V"⟩ : MethodName)) hown (mvT hZ (hw _ (List.mem_of_getElem? (i := 19) rfl))) (mvT hZ (hw _ (List.mem_of_getElem? (i := 20) rfl))) (mvT hZ (hw _ (List.mem_of_getElem? (i := 21) rfl))) (mvT hZ (hw _ (List.mem_of_getElem? (i := 22) rfl))) (by decide) (backOf (W := 0) (rm3_2 l Z a0 hw [] rb155_b2 (0 : Int32) p2 kk155_k2 (0 : UInt64) (0 : UInt64) c71_c10_z4 c71_c10_z5 c71_c10_z7 c71_c10_z8 c71_c25_z4 c71_c25_z5 c71_c25_z7 c71_c25_z8 T175.heap n0 (Nat.le_trans (Nat.le_trans (Nat.le_trans (Nat.le_trans (Nat.le_trans (Nat.le_trans (Nat.le_trans (Nat.le_trans Z0 E149.1) K151q.1) E153.1) K155q.1) K160q.1) K165q.1) K170q.1) K175q.1) f179 gn155_b2 hc71_c10_z4 hc71_c10_z5 hc71_c10_z7 hc71_c10_z8 hc71_c25_z4 hc71_c25_z5 hc71_c25_z7 hc71_c25_z8) hZ (hw _ (List.mem_of_getElem? (i := 22) rfl)) (hw _ (List.mem_of_getElem? (i := 21) rfl)) (by decide) (by decide)) (g := (mkF m 71 #[.val (.int p0), .val (.int p1), .val (.int p2), .val (.int (2 : Int32)), .val (.ref b149), .val (.ref b153)] [(.int p2), (.int (0 : Int32)), (.ref rb155_b2)])) rfl (by rw [hml]; rfl) (argsL := [(.ref rb155_b2), (.int (0 : Int32)), (.int p2)]) (rest := []) (lenOf pd_2 rfl) rfl (by show 2 * 0 + _ ≤ _; exact Nat.le_of_eq rfl) (hb hby at_71) (fun _ _ => ⟨rfl, e178, (by decide : 10 + 0 ≤ _), (by decide : 24 + 0 ≤ _)⟩)
    dsimp only [Pt.U, Pt.locs, Pt.cells, Pt.slots] at X180 ql180 qy180 qz180 st180 hQ180
    subst ql180 qy180 qz180
    obtain ⟨rfl, N180q, K180q, Q180_0⟩ := hQ180
    have N180 := Fr.app N175 N180q
    have K181 : Keep h0 T180.heap [] := Keep.trans K176 K180q (allS (Or.inr gy155_b2) all0)
    have f182 := (((((Q155_2.keep K160q (ninS (Ne.symm (Nat.ne_of_lt (Nat.lt_of_lt_of_le (Q151_5).lt (Nat.le_of_eq g153.symm)))) nin0)).keep K165q (ninS (Ne.symm (Nat.ne_of_lt (Nat.lt_of_lt_of_le (Q151_6).lt (Nat.le_of_eq g153.symm)))) nin0)).keep K170q (ninS (Ne.symm (Nat.ne_of_lt (Nat.lt_of_lt_of_le (Q151_7).lt (Nat.le_of_eq g153.symm)))) nin0)).keep K175q (ninS (Ne.symm (Nat.ne_of_lt (Nat.lt_of_lt_of_le (Q151_8).lt (Nat.le_of_eq g153.symm)))) nin0)).keep K180q (ninS (Nat.ne_of_lt (Nat.lt_of_lt_of_le (A153).lt gz155_b2)) nin0))
    obtain ⟨T183, X183, e183, st183⟩ := getF X180 hx hZ hown (host := "") (Or.inl (hw _ (List.mem_of_getElem? (i := 23) rfl))) Via.refl rfl f182 (g := (mkF m 76 #[.val (.int p0), .val (.int p1), .val (.int p2), .val (.int (2 : Int32)), .val (.ref b149), .val (.ref b153)] [(.ref b153)])) rfl rfl (hb hby at_76)
    have f184 := (((((Q155_6.keep K160q (ninS (Ne.symm (Nat.ne_of_lt (Nat.lt_of_lt_of_le ((Q151_5.ext E153)).lt gz155_b8))) nin0)).keep K165q (ninS (Ne.symm (Nat.ne_of_lt (Nat.lt_of_lt_of_le ((Q151_6.ext E153)).lt gz155_b8))) nin0)).keep K170q (ninS (Ne.symm (Nat.ne_of_lt (Nat.lt_of_lt_of_le ((Q151_7.ext E153)).lt gz155_b8))) nin0)).keep K175q (ninS (Ne.symm (Nat.ne_of_lt (Nat.lt_of_lt_of_le ((Q151_8.ext E153)).lt gz155_b8))) nin0)).keep K180q (ninS (Ne.symm D155_0) nin0))
    obtain ⟨_, _, ⟨T185, L185, k185, n185⟩, -, X185, ⟨Lc185, hQ185, ql185, qy185, qz185⟩, st185⟩ := Jvm.LawKit.callS X183 hx (y := (⟨"com/example/lumenstand/lumenstand/light/InterceptionAddPinLaw", "put", "([DII)V"⟩ : MethodName)) hown (mvT hZ (hw _ (List.mem_of_getElem? (i := 19) rfl))) (mvT hZ (hw _ (List.mem_of_getElem? (i := 20) rfl))) (mvT hZ (hw _ (List.mem_of_getElem? (i := 21) rfl))) (mvT hZ (hw _ (List.mem_of_getElem? (i := 22) rfl))) (by decide) (backOf (W := 0) (rm3_2 l Z a0 hw [] rb155_b8 (1 : Int32) p2 kk155_k8 (0 : UInt64) (0 : UInt64) c81_c10_z4 c81_c10_z5 c81_c10_z7 c81_c10_z8 c81_c25_z4 c81_c25_z5 c81_c25_z7 c81_c25_z8 T180.heap n0 (Nat.le_trans (Nat.le_trans (Nat.le_trans (Nat.le_trans (Nat.le_trans (Nat.le_trans (Nat.le_trans (Nat.le_trans (Nat.le_trans Z0 E149.1) K151q.1) E153.1) K155q.1) K160q.1) K165q.1) K170q.1) K175q.1) K180q.1) f184 gn155_b8 hc81_c10_z4 hc81_c10_z5 hc81_c10_z7 hc81_c10_z8 hc81_c25_z4 hc81_c25_z5 hc81_c25_z7 hc81_c25_z8) hZ (hw _ (List.mem_of_getElem? (i := 22) rfl)) (hw _ (List.mem_of_getElem? (i := 21) rfl)) (by decide) (by decide)) (g := (mkF m 81 #[.val (.int p0), .val (.int p1), .val (.int p2), .val (.int (2 : Int32)), .val (.ref b149), .val (.ref b153)] [(.int p2), (.int (1 : Int32)), (.ref rb155_b8)])) rfl (by rw [hml]; rfl) (argsL := [(.ref rb155_b8), (.int (1 : Int32)), (.int p2)]) (rest := []) (lenOf pd_2 rfl) rfl (by show 2 * 0 + _ ≤ _; exact Nat.le_of_eq rfl) (hb hby at_81) (fun _ _ => ⟨rfl, e183, (by decide : 10 + 0 ≤ _), (by decide : 24 + 0 ≤ _)⟩)
    dsimp only [Pt.U, Pt.locs, Pt.cells, Pt.slots] at X185 ql185 qy185 qz185 st185 hQ185
    subst ql185 qy185 qz185
    obtain ⟨rfl, N185q, K185q, Q185_0⟩ := hQ185
    have N185 := Fr.app N180 N185q
    have K186 : Keep h0 T185.heap [] := Keep.trans K181 K185q (allS (Or.inr gy155_b8) all0)
    have f187 := ((((((Q155_3.keep K160q (ninS (Ne.symm (Nat.ne_of_lt (Nat.lt_of_lt_of_le (Q151_5).lt (Nat.le_of_eq g153.symm)))) nin0)).keep K165q (ninS (Ne.symm (Nat.ne_of_lt (Nat.lt_of_lt_of_le (Q151_6).lt (Nat.le_of_eq g153.symm)))) nin0)).keep K170q (ninS (Ne.symm (Nat.ne_of_lt (Nat.lt_of_lt_of_le (Q151_7).lt (Nat.le_of_eq g153.symm)))) nin0)).keep K175q (ninS (Ne.symm (Nat.ne_of_lt (Nat.lt_of_lt_of_le (Q151_8).lt (Nat.le_of_eq g153.symm)))) nin0)).keep K180q (ninS (Nat.ne_of_lt (Nat.lt_of_lt_of_le (A153).lt gz155_b2)) nin0)).keep K185q (ninS (Nat.ne_of_lt (Nat.lt_of_lt_of_le (A153).lt gz155_b8)) nin0))
    obtain ⟨T188, X188, e188, st188⟩ := getF X185 hx hZ hown (host := "") (Or.inl (hw _ (List.mem_of_getElem? (i := 24) rfl))) Via.refl rfl f187 (g := (mkF m 86 #[.val (.int p0), .val (.int p1), .val (.int p2), .val (.int (2 : Int32)), .val (.ref b149), .val (.ref b153)] [(.ref b153)])) rfl rfl (hb hby at_86)
    have f189 := ((((((Q155_7.keep K160q (ninS (Ne.symm (Nat.ne_of_lt (Nat.lt_of_lt_of_le ((Q151_5.ext E153)).lt gz155_b14))) nin0)).keep K165q (ninS (Ne.symm (Nat.ne_of_lt (Nat.lt_of_lt_of_le ((Q151_6.ext E153)).lt gz155_b14))) nin0)).keep K170q (ninS (Ne.symm (Nat.ne_of_lt (Nat.lt_of_lt_of_le ((Q151_7.ext E153)).lt gz155_b14))) nin0)).keep K175q (ninS (Ne.symm (Nat.ne_of_lt (Nat.lt_of_lt_of_le ((Q151_8.ext E153)).lt gz155_b14))) nin0)).keep K180q (ninS (Ne.symm D155_1) nin0)).keep K185q (ninS (Ne.symm D155_3) nin0))
    obtain ⟨_, _, ⟨T190, L190, k190, n190⟩, -, X190, ⟨Lc190, hQ190, ql190, qy190, qz190⟩, st190⟩ := Jvm.LawKit.callS X188 hx (y := (⟨"com/example/lumenstand/lumenstand/light/InterceptionAddPinLaw", "put", "([DII)V"⟩ : MethodName)) hown (mvT hZ (hw _ (List.mem_of_getElem? (i := 19) rfl))) (mvT hZ (hw _ (List.mem_of_getElem? (i := 20) rfl))) (mvT hZ (hw _ (List.mem_of_getElem? (i := 21) rfl))) (mvT hZ (hw _ (List.mem_of_getElem? (i := 22) rfl))) (by decide) (backOf (W := 0) (rm3_2 l Z a0 hw [] rb155_b14 (2 : Int32) p2 kk155_k14 (0 : UInt64) (0 : UInt64) c91_c10_z4 c91_c10_z5 c91_c10_z7 c91_c10_z8 c91_c25_z4 c91_c25_z5 c91_c25_z7 c91_c25_z8 T185.heap n0 (Nat.le_trans (Nat.le_trans (Nat.le_trans (Nat.le_trans (Nat.le_trans (Nat.le_trans (Nat.le_trans (Nat.le_trans (Nat.le_trans (Nat.le_trans Z0 E149.1) K151q.1) E153.1) K155q.1) K160q.1) K165q.1) K170q.1) K175q.1) K180q.1) K185q.1) f189 gn155_b14 hc91_c10_z4 hc91_c10_z5 hc91_c10_z7 hc91_c10_z8 hc91_c25_z4 hc91_c25_z5 hc91_c25_z7 hc91_c25_z8) hZ (hw _ (List.mem_of_getElem? (i := 22) rfl)) (hw _ (List.mem_of_getElem? (i := 21) rfl)) (by decide) (by decide)) (g := (mkF m 91 #[.val (.int p0), .val (.int p1), .val (.int p2), .val (.int (2 : Int32)), .val (.ref b149), .val (.ref b153)] [(.int p2), (.int (2 : Int32)), (.ref rb155_b14)])) rfl (by rw [hml]; rfl) (argsL := [(.ref rb155_b14), (.int (2 : Int32)), (.int p2)]) (rest := []) (lenOf pd_2 rfl) rfl (by show 2 * 0 + _ ≤ _; exact Nat.le_of_eq rfl) (hb hby at_91) (fun _ _ => ⟨rfl, e188, (by decide : 10 + 0 ≤ _), (by decide : 24 + 0 ≤ _)⟩)
    dsimp only [Pt.U, Pt.locs, Pt.cells, Pt.slots] at X190 ql190 qy190 qz190 st190 hQ190
    subst ql190 qy190 qz190
    obtain ⟨rfl, N190q, K190q, Q190_0⟩ := hQ190
    have N190 := Fr.app N185 N190q
    have K191 : Keep h0 T190.heap [] := Keep.trans K186 K190q (allS (Or.inr gy155_b14) all0)
    have f192 := (((((((Q155_4.keep K160q (ninS (Ne.symm (Nat.ne_of_lt (Nat.lt_of_lt_of_le (Q151_5).lt (Nat.le_of_eq g153.symm)))) nin0)).keep K165q (ninS (Ne.symm (Nat.ne_of_lt (Nat.lt_of_lt_of_le (Q151_6).lt (Nat.le_of_eq g153.symm)))) nin0)).keep K170q (ninS (Ne.symm (Nat.ne_of_lt (Nat.lt_of_lt_of_le (Q151_7).lt (Nat.le_of_eq g153.symm)))) nin0)).keep K175q (ninS (Ne.symm (Nat.ne_of_lt (Nat.lt_of_lt_of_le (Q151_8).lt (Nat.le_of_eq g153.symm)))) nin0)).keep K180q (ninS (Nat.ne_of_lt (Nat.lt_of_lt_of_le (A153).lt gz155_b2)) nin0)).keep K185q (ninS (Nat.ne_of_lt (Nat.lt_of_lt_of_le (A153).lt gz155_b8)) nin0)).keep K190q (ninS (Nat.ne_of_lt (Nat.lt_of_lt_of_le (A153).lt gz155_b14)) nin0))
    obtain ⟨T193, X193, e193, st193⟩ := getF X190 hx hZ hown (host := "") (Or.inl (hw _ (List.mem_of_getElem? (i := 25) rfl))) Via.refl rfl f192 (g := (mkF m 96 #[.val (.int p0), .val (.int p1), .val (.int p2), .val (.int (2 : Int32)), .val (.ref b149), .val (.ref b153)] [(.ref b153)])) rfl rfl (hb hby at_96)
    have f194 := (((((((Q155_8.keep K160q (ninS (Ne.symm (Nat.ne_of_lt (Nat.lt_of_lt_of_le ((Q151_5.ext E153)).lt gz155_b20))) nin0)).keep K165q (ninS (Ne.symm (Nat.ne_of_lt (Nat.lt_of_lt_of_le ((Q151_6.ext E153)).lt gz155_b20))) nin0)).keep K170q (ninS (Ne.symm (Nat.ne_of_lt (Nat.lt_of_lt_of_le ((Q151_7.ext E153)).lt gz155_b20))) nin0)).keep K175q (ninS (Ne.symm (Nat.ne_of_lt (Nat.lt_of_lt_of_le ((Q151_8.ext E153)).lt gz155_b20))) nin0)).keep K180q (ninS (Ne.symm D155_2) nin0)).keep K185q (ninS (Ne.symm D155_4) nin0)).keep K190q (ninS (Ne.symm D155_5) nin0))
    obtain ⟨_, _, ⟨T195, L195, k195, n195⟩, -, X195, ⟨Lc195, hQ195, ql195, qy195, qz195⟩, st195⟩ := Jvm.LawKit.callS X193 hx (y := (⟨"com/example/lumenstand/lumenstand/light/InterceptionAddPinLaw", "put", "([DII)V"⟩ : MethodName)) hown (mvT hZ (hw _ (List.mem_of_getElem? (i := 19) rfl))) (mvT hZ (hw _ (List.mem_of_getElem? (i := 20) rfl))) (mvT hZ (hw _ (List.mem_of_getElem? (i := 21) rfl))) (mvT hZ (hw _ (List.mem_of_getElem? (i := 22) rfl))) (by decide) (backOf (W := 0) (rm3_2 l Z a0 hw [] rb155_b20 (3 : Int32) p2 kk155_k20 (0 : UInt64) (0 : UInt64) c101_c10_z4 c101_c10_z5 c101_c10_z7 c101_c10_z8 c101_c25_z4 c101_c25_z5 c101_c25_z7 c101_c25_z8 T190.heap n0 (Nat.le_trans (Nat.le_trans (Nat.le_trans (Nat.le_trans (Nat.le_trans (Nat.le_trans (Nat.le_trans (Nat.le_trans (Nat.le_trans (Nat.le_trans (Nat.le_trans Z0 E149.1) K151q.1) E153.1) K155q.1) K160q.1) K165q.1) K170q.1) K175q.1) K180q.1) K185q.1) K190q.1) f194 gn155_b20 hc101_c10_z4 hc101_c10_z5 hc101_c10_z7 hc101_c10_z8 hc101_c25_z4 hc101_c25_z5 hc101_c25_z7 hc101_c25_z8) hZ (hw _ (List.mem_of_getElem? (i := 22) rfl)) (hw _ (List.mem_of_getElem? (i := 21) rfl)) (by decide) (by decide)) (g := (mkF m 101 #[.val (.int p0), .val (.int p1), .val (.int p2), .val (.int (2 : Int32)), .val (.ref b149), .val (.ref b153)] [(.int p2), (.int (3 : Int32)), (.ref rb155_b20)])) rfl (by rw [hml]; rfl) (argsL := [(.ref rb155_b20), (.int (3 : Int32)), (.int p2)]) (rest := []) (lenOf pd_2 rfl) rfl (by show 2 * 0 + _ ≤ _; exact Nat.le_of_eq rfl) (hb hby at_101) (fun _ _ => ⟨rfl, e193, (by decide : 10 + 0 ≤ _), (by decide : 24 + 0 ≤ _)⟩)
    dsimp only [Pt.U, Pt.locs, Pt.cells, Pt.slots] at X195 ql195 qy195 qz195 st195 hQ195
    subst ql195 qy195 qz195
    obtain ⟨rfl, N195q, K195q, Q195_0⟩ := hQ195
    have N195 := Fr.app N190 N195q
    have K196 : Keep h0 T195.heap [] := Keep.trans K191 K195q (allS (Or.inr gy155_b20) all0)
    have c108_nn24 := nnAdd (vv hc31_c10_z4 hc31_c10_z5 hc31_c10_z7 hc31_c10_z8) (vv hc71_c10_z4 hc71_c10_z5 hc71_c10_z7 hc71_c10_z8) hc108_z24
    have c108_nn24_2 := nnAdd (vv hc31_c25_z4 hc31_c25_z5 hc31_c25_z7 hc31_c25_z8) (vv hc71_c25_z4 hc71_c25_z5 hc71_c25_z7 hc71_c25_z8) hc108_z24_2
    have c108_nn39 := nnAdd (vv hc41_c10_z4 hc41_c10_z5 hc41_c10_z7 hc41_c10_z8) (vv hc81_c10_z4 hc81_c10_z5 hc81_c10_z7 hc81_c10_z8) hc108_z39
    have c108_nn39_2 := nnAdd (vv hc41_c25_z4 hc41_c25_z5 hc41_c25_z7 hc41_c25_z8) (vv hc81_c25_z4 hc81_c25_z5 hc81_c25_z7 hc81_c25_z8) hc108_z39_2
    have c108_nn54 := nnAdd (vv hc51_c10_z4 hc51_c10_z5 hc51_c10_z7 hc51_c10_z8) (vv hc91_c10_z4 hc91_c10_z5 hc91_c10_z7 hc91_c10_z8) hc108_z54
    have c108_nn54_2 := nnAdd (vv hc51_c25_z4 hc51_c25_z5 hc51_c25_z7 hc51_c25_z8) (vv hc91_c25_z4 hc91_c25_z5 hc91_c25_z7 hc91_c25_z8) hc108_z54_2
    have c108_nn69 := nnAdd (vv hc61_c10_z4 hc61_c10_z5 hc61_c10_z7 hc61_c10_z8) (vv hc101_c10_z4 hc101_c10_z5 hc101_c10_z7 hc101_c10_z8) hc108_z69
    have c108_nn69_2 := nnAdd (vv hc61_c25_z4 hc61_c25_z5 hc61_c25_z7 hc61_c25_z8) (vv hc101_c25_z4 hc101_c25_z5 hc101_c25_z7 hc101_c25_z8) hc108_z69_2
    have f197 := (((((((Q160_0.keep K165q (ninS D151_0 nin0)).keep K170q (ninS D151_1 nin0)).keep K175q (ninS D151_2 nin0)).keep K180q (ninS (Nat.ne_of_lt (Nat.lt_of_lt_of_le ((Q151_5.ext E153)).lt gz155_b2)) nin0)).keep K185q (ninS (Nat.ne_of_lt (Nat.lt_of_lt_of_le ((Q151_5.ext E153)).lt gz155_b8)) nin0)).keep K190q (ninS (Nat.ne_of_lt (Nat.lt_of_lt_of_le ((Q151_5.ext E153)).lt gz155_b14)) nin0)).keep K195q (ninS (Nat.ne_of_lt (Nat.lt_of_lt_of_le ((Q151_5.ext E153)).lt gz155_b20)) nin0))
    have f198 := (((Q180_0.keep K185q (ninS D155_0 nin0)).keep K190q (ninS D155_1 nin0)).keep K195q (ninS D155_2 nin0))
    have f199 := ((((((Q165_0.keep K170q (ninS D151_3 nin0)).keep K175q (ninS D151_4 nin0)).keep K180q (ninS (Nat.ne_of_lt (Nat.lt_of_lt_of_le ((Q151_6.ext E153)).lt gz155_b2)) nin0)).keep K185q (ninS (Nat.ne_of_lt (Nat.lt_of_lt_of_le ((Q151_6.ext E153)).lt gz155_b8)) nin0)).keep K190q (ninS (Nat.ne_of_lt (Nat.lt_of_lt_of_le ((Q151_6.ext E153)).lt gz155_b14)) nin0)).keep K195q (ninS (Nat.ne_of_lt (Nat.lt_of_lt_of_le ((Q151_6.ext E153)).lt gz155_b20)) nin0))
    have f200 := ((Q185_0.keep K190q (ninS D155_3 nin0)).keep K195q (ninS D155_4 nin0))
    have f201 := (((((Q170_0.keep K175q (ninS D151_5 nin0)).keep K180q (ninS (Nat.ne_of_lt (Nat.lt_of_lt_of_le ((Q151_7.ext E153)).lt gz155_b2)) nin0)).keep K185q (ninS (Nat.ne_of_lt (Nat.lt_of_lt_of_le ((Q151_7.ext E153)).lt gz155_b8)) nin0)).keep K190q (ninS (Nat.ne_of_lt (Nat.lt_of_lt_of_le ((Q151_7.ext E153)).lt gz155_b14)) nin0)).keep K195q (ninS (Nat.ne_of_lt (Nat.lt_of_lt_of_le ((Q151_7.ext E153)).lt gz155_b20)) nin0))
    have f202 := (Q190_0.keep K195q (ninS D155_5 nin0))
    have f203 := ((((Q175_0.keep K180q (ninS (Nat.ne_of_lt (Nat.lt_of_lt_of_le ((Q151_8.ext E153)).lt gz155_b2)) nin0)).keep K185q (ninS (Nat.ne_of_lt (Nat.lt_of_lt_of_le ((Q151_8.ext E153)).lt gz155_b8)) nin0)).keep K190q (ninS (Nat.ne_of_lt (Nat.lt_of_lt_of_le ((Q151_8.ext E153)).lt gz155_b14)) nin0)).keep K195q (ninS (Nat.ne_of_lt (Nat.lt_of_lt_of_le ((Q151_8.ext E153)).lt gz155_b20)) nin0))
    have f204 := ((((((((f157.keep K160q (ninS (Nat.ne_of_lt (Nat.lt_of_lt_of_le (A149).lt gz151_b2)) nin0)).keep K165q (ninS (Nat.ne_of_lt (Nat.lt_of_lt_of_le (A149).lt gz151_b8)) nin0)).keep K170q (ninS (Nat.ne_of_lt (Nat.lt_of_lt_of_le (A149).lt gz151_b14)) nin0)).keep K175q (ninS (Nat.ne_of_lt (Nat.lt_of_lt_of_le (A149).lt gz151_b20)) nin0)).keep K180q (ninS (Nat.ne_of_lt (Nat.lt_of_lt_of_le ((Q151_0.ext E153)).lt gz155_b2)) nin0)).keep K185q (ninS (Nat.ne_of_lt (Nat.lt_of_lt_of_le ((Q151_0.ext E153)).lt gz155_b8)) nin0)).keep K190q (ninS (Nat.ne_of_lt (Nat.lt_of_lt_of_le ((Q151_0.ext E153)).lt gz155_b14)) nin0)).keep K195q (ninS (Nat.ne_of_lt (Nat.lt_of_lt_of_le ((Q151_0.ext E153)).lt gz155_b20)) nin0))
    have f205 := ((((f177.keep K180q (ninS (Nat.ne_of_lt (Nat.lt_of_lt_of_le (A153).lt gz155_b2)) nin0)).keep K185q (ninS (Nat.ne_of_lt (Nat.lt_of_lt_of_le (A153).lt gz155_b8)) nin0)).keep K190q (ninS (Nat.ne_of_lt (Nat.lt_of_lt_of_le (A153).lt gz155_b14)) nin0)).keep K195q (ninS (Nat.ne_of_lt (Nat.lt_of_lt_of_le (A153).lt gz155_b20)) nin0))
    have f206 := (((((((f162.keep K165q (ninS (Nat.ne_of_lt (Nat.lt_of_lt_of_le (A149).lt gz151_b8)) nin0)).keep K170q (ninS (Nat.ne_of_lt (Nat.lt_of_lt_of_le (A149).lt gz151_b14)) nin0)).keep K175q (ninS (Nat.ne_of_lt (Nat.lt_of_lt_of_le (A149).lt gz151_b20)) nin0)).keep K180q (ninS (Nat.ne_of_lt (Nat.lt_of_lt_of_le ((Q151_0.ext E153)).lt gz155_b2)) nin0)).keep K185q (ninS (Nat.ne_of_lt (Nat.lt_of_lt_of_le ((Q151_0.ext E153)).lt gz155_b8)) nin0)).keep K190q (ninS (Nat.ne_of_lt (Nat.lt_of_lt_of_le ((Q151_0.ext E153)).lt gz155_b14)) nin0)).keep K195q (ninS (Nat.ne_of_lt (Nat.lt_of_lt_of_le ((Q151_0.ext E153)).lt gz155_b20)) nin0))
    have f207 := (((f182.keep K185q (ninS (Nat.ne_of_lt (Nat.lt_of_lt_of_le (A153).lt gz155_b8)) nin0)).keep K190q (ninS (Nat.ne_of_lt (Nat.lt_of_lt_of_le (A153).lt gz155_b14)) nin0)).keep K195q (ninS (Nat.ne_of_lt (Nat.lt_of_lt_of_le (A153).lt gz155_b20)) nin0))
    have f208 := ((((((f167.keep K170q (ninS (Nat.ne_of_lt (Nat.lt_of_lt_of_le (A149).lt gz151_b14)) nin0)).keep K175q (ninS (Nat.ne_of_lt (Nat.lt_of_lt_of_le (A149).lt gz151_b20)) nin0)).keep K180q (ninS (Nat.ne_of_lt (Nat.lt_of_lt_of_le ((Q151_0.ext E153)).lt gz155_b2)) nin0)).keep K185q (ninS (Nat.ne_of_lt (Nat.lt_of_lt_of_le ((Q151_0.ext E153)).lt gz155_b8)) nin0)).keep K190q (ninS (Nat.ne_of_lt (Nat.lt_of_lt_of_le ((Q151_0.ext E153)).lt gz155_b14)) nin0)).keep K195q (ninS (Nat.ne_of_lt (Nat.lt_of_lt_of_le ((Q151_0.ext E153)).lt gz155_b20)) nin0))
    have f209 := ((f187.keep K190q (ninS (Nat.ne_of_lt (Nat.lt_of_lt_of_le (A153).lt gz155_b14)) nin0)).keep K195q (ninS (Nat.ne_of_lt (Nat.lt_of_lt_of_le (A153).lt gz155_b20)) nin0))
    have f210 := (((((f172.keep K175q (ninS (Nat.ne_of_lt (Nat.lt_of_lt_of_le (A149).lt gz151_b20)) nin0)).keep K180q (ninS (Nat.ne_of_lt (Nat.lt_of_lt_of_le ((Q151_0.ext E153)).lt gz155_b2)) nin0)).keep K185q (ninS (Nat.ne_of_lt (Nat.lt_of_lt_of_le ((Q151_0.ext E153)).lt gz155_b8)) nin0)).keep K190q (ninS (Nat.ne_of_lt (Nat.lt_of_lt_of_le ((Q151_0.ext E153)).lt gz155_b14)) nin0)).keep K195q (ninS (Nat.ne_of_lt (Nat.lt_of_lt_of_le ((Q151_0.ext E153)).lt gz155_b20)) nin0))
    have f211 := (f192.keep K195q (ninS (Nat.ne_of_lt (Nat.lt_of_lt_of_le (A153).lt gz155_b20)) nin0))
    have f213 := ((((((((((Q151_0.ext E153).keep K155q).keep K160q).keep K165q).keep K170q).keep K175q).keep K180q).keep K185q).keep K190q).keep K195q)
    obtain ⟨cq212, kq212, q212a, q212b, q212c⟩ := isOf hZ rfl f213
    obtain ⟨_, _, ⟨T212, L212, k212, n212⟩, -, X212, ⟨Lc212, hQ212, ql212, qy212, qz212⟩, st212⟩ := X195.virtualBack hx (y := (⟨"com/example/lumenstand/lumenstand/light/Interception", "add", "(Lcom/example/lumenstand/lumenstand/light/Interception;)V"⟩ : MethodName)) (z := (⟨"com/example/lumenstand/lumenstand/light/Interception", "add", "(Lcom/example/lumenstand/lumenstand/light/Interception;)V"⟩ : MethodName)) hown (mvT hZ (hw _ (List.mem_of_getElem? (i := 26) rfl))) (mvT hZ (hw _ (List.mem_of_getElem? (i := 27) rfl))) (notFace_of_selects (args := #[]) (mvT hZ (hw _ (List.mem_of_getElem? (i := 29) rfl)))) (mvT hZ (hw _ (List.mem_of_getElem? (i := 29) rfl))) (mvT hZ (hw _ (List.mem_of_getElem? (i := 28) rfl))) (by decide) (backOf (W := 0) (rm4_2 l Z a0 hw [] b149 b153 kk151_k2 c31_c10_z8 c31_c25_z8 kk155_k2 c71_c10_z8 c71_c25_z8 kk151_k8 c41_c10_z8 c41_c25_z8 kk155_k8 c81_c10_z8 c81_c25_z8 kk151_k14 c51_c10_z8 c51_c25_z8 kk155_k14 c91_c10_z8 c91_c25_z8 kk151_k20 c61_c10_z8 c61_c25_z8 kk155_k20 c101_c10_z8 c101_c25_z8 rb151_b2 rb155_b2 rb151_b8 rb155_b8 rb151_b14 rb155_b14 rb151_b20 rb155_b20 c108_z24 c108_z39 c108_z54 c108_z69 c108_z24_2 c108_z39_2 c108_z54_2 c108_z69_2 T195.heap n0 (Nat.le_trans (Nat.le_trans (Nat.le_trans (Nat.le_trans (Nat.le_trans (Nat.le_trans (Nat.le_trans (Nat.le_trans (Nat.le_trans (Nat.le_trans (Nat.le_trans (Nat.le_trans Z0 E149.1) K151q.1) E153.1) K155q.1) K160q.1) K165q.1) K170q.1) K175q.1) K180q.1) K185q.1) K190q.1) K195q.1) f197 f198 f199 f200 f201 f202 f203 Q195_0 ((Nat.ne_of_lt (Nat.lt_of_lt_of_le (A149).lt gz151_b2))) ((Ne.symm (Nat.ne_of_lt (Nat.lt_of_lt_of_le (Q151_5).lt (Nat.le_of_eq g153.symm))))) ((Nat.ne_of_lt (Nat.lt_of_lt_of_le (A149).lt gz151_b8))) ((Ne.symm (Nat.ne_of_lt (Nat.lt_of_lt_of_le (Q151_6).lt (Nat.le_of_eq g153.symm))))) ((Nat.ne_of_lt (Nat.lt_of_lt_of_le (A149).lt gz151_b14))) ((Ne.symm (Nat.ne_of_lt (Nat.lt_of_lt_of_le (Q151_7).lt (Nat.le_of_eq g153.symm))))) ((Nat.ne_of_lt (Nat.lt_of_lt_of_le (A149).lt gz151_b20))) ((Ne.symm (Nat.ne_of_lt (Nat.lt_of_lt_of_le (Q151_8).lt (Nat.le_of_eq g153.symm))))) D151_0 D151_1 D151_2 D151_3 D151_4 D151_5 ((Nat.ne_of_lt (Nat.lt_of_lt_of_le ((Q151_5.ext E153)).lt gz155_b2))) ((Nat.ne_of_lt (Nat.lt_of_lt_of_le ((Q151_5.ext E153)).lt gz155_b8))) ((Nat.ne_of_lt (Nat.lt_of_lt_of_le ((Q151_5.ext E153)).lt gz155_b14))) ((Nat.ne_of_lt (Nat.lt_of_lt_of_le ((Q151_5.ext E153)).lt gz155_b20))) ((Nat.ne_of_lt (Nat.lt_of_lt_of_le ((Q151_6.ext E153)).lt gz155_b2))) ((Nat.ne_of_lt (Nat.lt_of_lt_of_le ((Q151_6.ext E153)).lt gz155_b8))) ((Nat.ne_of_lt (Nat.lt_of_lt_of_le ((Q151_6.ext E153)).lt gz155_b14))) ((Nat.ne_of_lt (Nat.lt_of_lt_of_le ((Q151_6.ext E153)).lt gz155_b20))) ((Nat.ne_of_lt (Nat.lt_of_lt_of_le ((Q151_7.ext E153)).lt gz155_b2))) ((Nat.ne_of_lt (Nat.lt_of_lt_of_le ((Q151_7.ext E153)).lt gz155_b8))) ((Nat.ne_of_lt (Nat.lt_of_lt_of_le ((Q151_7.ext E153)).lt gz155_b14))) ((Nat.ne_of_lt (Nat.lt_of_lt_of_le ((Q151_7.ext E153)).lt gz155_b20))) ((Nat.ne_of_lt (Nat.lt_of_lt_of_le ((Q151_8.ext E153)).lt gz155_b2))) ((Nat.ne_of_lt (Nat.lt_of_lt_of_le ((Q151_8.ext E153)).lt gz155_b8))) ((Nat.ne_of_lt (Nat.lt_of_lt_of_le ((Q151_8.ext E153)).lt gz155_b14))) ((Nat.ne_of_lt (Nat.lt_of_lt_of_le ((Q151_8.ext E153)).lt gz155_b20))) gn151_b2 gn151_b8 gn151_b14 gn151_b20 f204 f205 f206 f207 f208 f209 f210 f211 hc108_z24 hc108_z39 hc108_z54 hc108_z69 hc108_z24_2 hc108_z39_2 hc108_z54_2 hc108_z69_2 c108_nn24 c108_nn39 c108_nn54 c108_nn69 c108_nn24_2 c108_nn39_2 c108_nn54_2 c108_nn69_2) hZ (hw _ (List.mem_of_getElem? (i := 30) rfl)) (hw _ (List.mem_of_getElem? (i := 2) rfl)) (by decide) (by decide)) q212a q212c (g := (mkF m 108 #[.val (.int p0), .val (.int p1), .val (.int p2), .val (.int (2 : Int32)), .val (.ref b149), .val (.ref b153)] [(.ref b153), (.ref b149)])) rfl (by rw [hml]; rfl) (Steps.refl _) (argsL := [(.ref b153)]) (rest := []) (lenOf pd_3 rfl) rfl (by show 2 * 0 + _ ≤ _; exact Nat.le_of_eq rfl) (hb hby at_108) (fun _ _ => ⟨rfl, rfl, (by decide : 10 + 0 ≤ _), (by decide : 24 + 0 ≤ _)⟩)
    dsimp only [Pt.U, Pt.locs, Pt.cells, Pt.slots] at X212 ql212 qy212 qz212 st212 hQ212
    subst ql212 qy212 qz212
    obtain ⟨rfl, N212q, K212q, Q212_0, Q212_1, Q212_2, Q212_3⟩ := hQ212
    have N212 := Fr.app N195 N212q
    have K214 : Keep h0 T212.heap [] := Keep.trans K196 K212q (allS (Or.inr gy151_b2) (allS (Or.inr gy151_b8) (allS (Or.inr gy151_b14) (allS (Or.inr gy151_b20) all0))))
    have f215 := (f204.keep K212q (ninS (Nat.ne_of_lt (Nat.lt_of_lt_of_le (A149).lt gz151_b2)) (ninS (Nat.ne_of_lt (Nat.lt_of_lt_of_le (A149).lt gz151_b8)) (ninS (Nat.ne_of_lt (Nat.lt_of_lt_of_le (A149).lt gz151_b14)) (ninS (Nat.ne_of_lt (Nat.lt_of_lt_of_le (A149).lt gz151_b20)) nin0)))))
    obtain ⟨T216, X216, e216, st216⟩ := getF X212 hx hZ hown (host := "") (Or.inl (hw _ (List.mem_of_getElem? (i := 18) rfl))) Via.refl rfl f215 (g := (mkF m 113 #[.val (.int p0), .val (.int p1), .val (.int p2), .val (.int (2 : Int32)), .val (.ref b149), .val (.ref b153)] [(.ref b149)])) rfl rfl (hb hby at_113)
    have c120_nn27 := nnAdd (vv hc120_c17_z4 hc120_c17_z5 hc120_c17_z7 hc120_c17_z8) (vv hc120_c24_z4 hc120_c24_z5 hc120_c24_z7 hc120_c24_z8) hc120_z27
    have c120_br29 := sums (vv hc31_c10_z4 hc31_c10_z5 hc31_c10_z7 hc31_c10_z8) (vv hc71_c10_z4 hc71_c10_z5 hc71_c10_z7 hc71_c10_z8) (vv hc120_c17_z4 hc120_c17_z5 hc120_c17_z7 hc120_c17_z8) (vv hc120_c24_z4 hc120_c24_z5 hc120_c24_z7 hc120_c24_z8) hc108_z24 hc120_z27 hc120_z28
    have c120_nn53 := nnAdd (vv hc120_c43_z4 hc120_c43_z5 hc120_c43_z7 hc120_c43_z8) (vv hc120_c50_z4 hc120_c50_z5 hc120_c50_z7 hc120_c50_z8) hc120_z53
    have c120_br55 := sums (vv hc31_c25_z4 hc31_c25_z5 hc31_c25_z7 hc31_c25_z8) (vv hc71_c25_z4 hc71_c25_z5 hc71_c25_z7 hc71_c25_z8) (vv hc120_c43_z4 hc120_c43_z5 hc120_c43_z7 hc120_c43_z8) (vv hc120_c50_z4 hc120_c50_z5 hc120_c50_z7 hc120_c50_z8) hc108_z24_2 hc120_z53 hc120_z54
    obtain ⟨_, _, ⟨T217, L217, k217, n217⟩, -, X217, ⟨Lc217, hQ217, ql217, qy217, qz217⟩, st217⟩ := Jvm.LawKit.callS X216 hx (y := (⟨"com/example/lumenstand/lumenstand/light/InterceptionAddPinLaw", "sum", "([DIIII)Z"⟩ : MethodName)) hown (mvT hZ (hw _ (List.mem_of_getElem? (i := 31) rfl))) (mvT hZ (hw _ (List.mem_of_getElem? (i := 32) rfl))) (mvT hZ (hw _ (List.mem_of_getElem? (i := 21) rfl))) (mvT hZ (hw _ (List.mem_of_getElem? (i := 33) rfl))) (by decide) (backOf (W := 0) (rm5_2 l Z a0 hw [] rb151_b2 (0 : Int32) p1 p2 kk151_k2 c108_z24 c108_z24_2 c120_c17_z4 c120_c17_z5 c120_c17_z7 c120_c17_z8 c120_c24_z4 c120_c24_z5 c120_c24_z7 c120_c24_z8 c120_z27 c120_z28 c120_c43_z4 c120_c43_z5 c120_c43_z7 c120_c43_z8 c120_c50_z4 c120_c50_z5 c120_c50_z7 c120_c50_z8 c120_z53 c120_z54 T212.heap n0 (Nat.le_trans (Nat.le_trans (Nat.le_trans (Nat.le_trans (Nat.le_trans (Nat.le_trans (Nat.le_trans (Nat.le_trans (Nat.le_trans (Nat.le_trans (Nat.le_trans (Nat.le_trans (Nat.le_trans Z0 E149.1) K151q.1) E153.1) K155q.1) K160q.1) K165q.1) K170q.1) K175q.1) K180q.1) K185q.1) K190q.1) K195q.1) K212q.1) Q212_0 hc120_c17_z4 hc120_c17_z5 hc120_c17_z7 hc120_c17_z8 hc120_c24_z4 hc120_c24_z5 hc120_c24_z7 hc120_c24_z8 hc120_z27 hc120_z28 hc120_c43_z4 hc120_c43_z5 hc120_c43_z7 hc120_c43_z8 hc120_c50_z4 hc120_c50_z5 hc120_c50_z7 hc120_c50_z8 hc120_z53 hc120_z54 c120_nn27 c120_br29 c120_nn53 c120_br55) hZ (hw _ (List.mem_of_getElem? (i := 33) rfl)) (hw _ (List.mem_of_getElem? (i := 21) rfl)) (by decide) (by decide)) (g := (mkF m 120 #[.val (.int p0), .val (.int p1), .val (.int p2), .val (.int (2 : Int32)), .val (.ref b149), .val (.ref b153)] [(.int p2), (.int p1), (.int (0 : Int32)), (.int (2 : Int32)), (.ref rb151_b2)])) rfl (by rw [hml]; rfl) (argsL := [(.ref rb151_b2), (.int (2 : Int32)), (.int (0 : Int32)), (.int p1), (.int p2)]) (rest := []) (lenOf pd_4 rfl) rfl (by show 2 * 0 + _ ≤ _; exact Nat.le_of_eq rfl) (hb hby at_120) (fun _ _ => ⟨rfl, e216, (by decide : 10 + 0 ≤ _), (by decide : 24 + 0 ≤ _)⟩)
    dsimp only [Pt.U, Pt.locs, Pt.cells, Pt.slots] at X217 ql217 qy217 qz217 st217 hQ217
    subst ql217 qy217 qz217
    obtain ⟨rfl, N217q, e217⟩ := hQ217
    have N217 := Fr.app N212 N217q
    have f218 := (f206.keep K212q (ninS (Nat.ne_of_lt (Nat.lt_of_lt_of_le (A149).lt gz151_b2)) (ninS (Nat.ne_of_lt (Nat.lt_of_lt_of_le (A149).lt gz151_b8)) (ninS (Nat.ne_of_lt (Nat.lt_of_lt_of_le (A149).lt gz151_b14)) (ninS (Nat.ne_of_lt (Nat.lt_of_lt_of_le (A149).lt gz151_b20)) nin0)))))
    obtain ⟨T219, X219, e219, st219⟩ := getF X217 hx hZ hown (host := "") (Or.inl (hw _ (List.mem_of_getElem? (i := 23) rfl))) Via.refl e217 f218 (g := (mkF m 128 #[.val (.int p0), .val (.int p1), .val (.int p2), .val (.int (2 : Int32)), .val (.ref b149), .val (.ref b153)] [(.ref b149)])) rfl rfl (hb hby at_128)
    have c135_nn27 := nnAdd (vv hc135_c17_z4 hc135_c17_z5 hc135_c17_z7 hc135_c17_z8) (vv hc135_c24_z4 hc135_c24_z5 hc135_c24_z7 hc135_c24_z8) hc135_z27
    have c135_br29 := sums (vv hc41_c10_z4 hc41_c10_z5 hc41_c10_z7 hc41_c10_z8) (vv hc81_c10_z4 hc81_c10_z5 hc81_c10_z7 hc81_c10_z8) (vv hc135_c17_z4 hc135_c17_z5 hc135_c17_z7 hc135_c17_z8) (vv hc135_c24_z4 hc135_c24_z5 hc135_c24_z7 hc135_c24_z8) hc108_z39 hc135_z27 hc135_z28
    have c135_nn53 := nnAdd (vv hc135_c43_z4 hc135_c43_z5 hc135_c43_z7 hc135_c43_z8) (vv hc135_c50_z4 hc135_c50_z5 hc135_c50_z7 hc135_c50_z8) hc135_z53
    have c135_br55 := sums (vv hc41_c25_z4 hc41_c25_z5 hc41_c25_z7 hc41_c25_z8) (vv hc81_c25_z4 hc81_c25_z5 hc81_c25_z7 hc81_c25_z8) (vv hc135_c43_z4 hc135_c43_z5 hc135_c43_z7 hc135_c43_z8) (vv hc135_c50_z4 hc135_c50_z5 hc135_c50_z7 hc135_c50_z8) hc108_z39_2 hc135_z53 hc135_z54
    obtain ⟨_, _, ⟨T220, L220, k220, n220⟩, -, X220, ⟨Lc220, hQ220, ql220, qy220, qz220⟩, st220⟩ := Jvm.LawKit.callS X219 hx (y := (⟨"com/example/lumenstand/lumenstand/light/InterceptionAddPinLaw", "sum", "([DIIII)Z"⟩ : MethodName)) hown (mvT hZ (hw _ (List.mem_of_getElem? (i := 31) rfl))) (mvT hZ (hw _ (List.mem_of_getElem? (i := 32) rfl))) (mvT hZ (hw _ (List.mem_of_getElem? (i := 21) rfl))) (mvT hZ (hw _ (List.mem_of_getElem? (i := 33) rfl))) (by decide) (backOf (W := 0) (rm5_2 l Z a0 hw [] rb151_b8 (1 : Int32) p1 p2 kk151_k8 c108_z39 c108_z39_2 c135_c17_z4 c135_c17_z5 c135_c17_z7 c135_c17_z8 c135_c24_z4 c135_c24_z5 c135_c24_z7 c135_c24_z8 c135_z27 c135_z28 c135_c43_z4 c135_c43_z5 c135_c43_z7 c135_c43_z8 c135_c50_z4 c135_c50_z5 c135_c50_z7 c135_c50_z8 c135_z53 c135_z54 T212.heap n0 (Nat.le_trans (Nat.le_trans (Nat.le_trans (Nat.le_trans (Nat.le_trans (Nat.le_trans (Nat.le_trans (Nat.le_trans (Nat.le_trans (Nat.le_trans (Nat.le_trans (Nat.le_trans (Nat.le_trans Z0 E149.1) K151q.1) E153.1) K155q.1) K160q.1) K165q.1) K170q.1) K175q.1) K180q.1) K185q.1) K190q.1) K195q.1) K212q.1) Q212_1 hc135_c17_z4 hc135_c17_z5 hc135_c17_z7 hc135_c17_z8 hc135_c24_z4 hc135_c24_z5 hc135_c24_z7 hc135_c24_z8 hc135_z27 hc135_z28 hc135_c43_z4 hc135_c43_z5 hc135_c43_z7 hc135_c43_z8 hc135_c50_z4 hc135_c50_z5 hc135_c50_z7 hc135_c50_z8 hc135_z53 hc135_z54 c135_nn27 c135_br29 c135_nn53 c135_br55) hZ (hw _ (List.mem_of_getElem? (i := 33) rfl)) (hw _ (List.mem_of_getElem? (i := 21) rfl)) (by decide) (by decide)) (g := (mkF m 135 #[.val (.int p0), .val (.int p1), .val (.int p2), .val (.int (2 : Int32)), .val (.ref b149), .val (.ref b153)] [(.int p2), (.int p1), (.int (1 : Int32)), (.int (2 : Int32)), (.ref rb151_b8)])) rfl (by rw [hml]; rfl) (argsL := [(.ref rb151_b8), (.int (2 : Int32)), (.int (1 : Int32)), (.int p1), (.int p2)]) (rest := []) (lenOf pd_4 rfl) rfl (by show 2 * 0 + _ ≤ _; exact Nat.le_of_eq rfl) (hb hby at_135) (fun _ _ => ⟨rfl, e219, (by decide : 10 + 0 ≤ _), (by decide : 24 + 0 ≤ _)⟩)
    dsimp only [Pt.U, Pt.locs, Pt.cells, Pt.slots] at X220 ql220 qy220 qz220 st220 hQ220
    subst ql220 qy220 qz220
    obtain ⟨rfl, N220q, e220⟩ := hQ220
    have N220 := Fr.app N217 N220q
    have f221 := (f208.keep K212q (ninS (Nat.ne_of_lt (Nat.lt_of_lt_of_le (A149).lt gz151_b2)) (ninS (Nat.ne_of_lt (Nat.lt_of_lt_of_le (A149).lt gz151_b8)) (ninS (Nat.ne_of_lt (Nat.lt_of_lt_of_le (A149).lt gz151_b14)) (ninS (Nat.ne_of_lt (Nat.lt_of_lt_of_le (A149).lt gz151_b20)) nin0)))))
    obtain ⟨T222, X222, e222, st222⟩ := getF X220 hx hZ hown (host := "") (Or.inl (hw _ (List.mem_of_getElem? (i := 24) rfl))) Via.refl e220 f221 (g := (mkF m 143 #[.val (.int p0), .val (.int p1), .val (.int p2), .val (.int (2 : Int32)), .val (.ref b149), .val (.ref b153)] [(.ref b149)])) rfl rfl (hb hby at_143)
    have c150_nn27 := nnAdd (vv hc150_c17_z4 hc150_c17_z5 hc150_c17_z7 hc150_c17_z8) (vv hc150_c24_z4 hc150_c24_z5 hc150_c24_z7 hc150_c24_z8) hc150_z27
    have c150_br29 := sums (vv hc51_c10_z4 hc51_c10_z5 hc51_c10_z7 hc51_c10_z8) (vv hc91_c10_z4 hc91_c10_z5 hc91_c10_z7 hc91_c10_z8) (vv hc150_c17_z4 hc150_c17_z5 hc150_c17_z7 hc150_c17_z8) (vv hc150_c24_z4 hc150_c24_z5 hc150_c24_z7 hc150_c24_z8) hc108_z54 hc150_z27 hc150_z28
    have c150_nn53 := nnAdd (vv hc150_c43_z4 hc150_c43_z5 hc150_c43_z7 hc150_c43_z8) (vv hc150_c50_z4 hc150_c50_z5 hc150_c50_z7 hc150_c50_z8) hc150_z53
    have c150_br55 := sums (vv hc51_c25_z4 hc51_c25_z5 hc51_c25_z7 hc51_c25_z8) (vv hc91_c25_z4 hc91_c25_z5 hc91_c25_z7 hc91_c25_z8) (vv hc150_c43_z4 hc150_c43_z5 hc150_c43_z7 hc150_c43_z8) (vv hc150_c50_z4 hc150_c50_z5 hc150_c50_z7 hc150_c50_z8) hc108_z54_2 hc150_z53 hc150_z54
    obtain ⟨_, _, ⟨T223, L223, k223, n223⟩, -, X223, ⟨Lc223, hQ223, ql223, qy223, qz223⟩, st223⟩ := Jvm.LawKit.callS X222 hx (y := (⟨"com/example/lumenstand/lumenstand/light/InterceptionAddPinLaw", "sum", "([DIIII)Z"⟩ : MethodName)) hown (mvT hZ (hw _ (List.mem_of_getElem? (i := 31) rfl))) (mvT hZ (hw _ (List.mem_of_getElem? (i := 32) rfl))) (mvT hZ (hw _ (List.mem_of_getElem? (i := 21) rfl))) (mvT hZ (hw _ (List.mem_of_getElem? (i := 33) rfl))) (by decide) (backOf (W := 0) (rm5_2 l Z a0 hw [] rb151_b14 (2 : Int32) p1 p2 kk151_k14 c108_z54 c108_z54_2 c150_c17_z4 c150_c17_z5 c150_c17_z7 c150_c17_z8 c150_c24_z4 c150_c24_z5 c150_c24_z7 c150_c24_z8 c150_z27 c150_z28 c150_c43_z4 c150_c43_z5 c150_c43_z7 c150_c43_z8 c150_c50_z4 c150_c50_z5 c150_c50_z7 c150_c50_z8 c150_z53 c150_z54 T212.heap n0 (Nat.le_trans (Nat.le_trans (Nat.le_trans (Nat.le_trans (Nat.le_trans (Nat.le_trans (Nat.le_trans (Nat.le_trans (Nat.le_trans (Nat.le_trans (Nat.le_trans (Nat.le_trans (Nat.le_trans Z0 E149.1) K151q.1) E153.1) K155q.1) K160q.1) K165q.1) K170q.1) K175q.1) K180q.1) K185q.1) K190q.1) K195q.1) K212q.1) Q212_2 hc150_c17_z4 hc150_c17_z5 hc150_c17_z7 hc150_c17_z8 hc150_c24_z4 hc150_c24_z5 hc150_c24_z7 hc150_c24_z8 hc150_z27 hc150_z28 hc150_c43_z4 hc150_c43_z5 hc150_c43_z7 hc150_c43_z8 hc150_c50_z4 hc150_c50_z5 hc150_c50_z7 hc150_c50_z8 hc150_z53 hc150_z54 c150_nn27 c150_br29 c150_nn53 c150_br55) hZ (hw _ (List.mem_of_getElem? (i := 33) rfl)) (hw _ (List.mem_of_getElem? (i := 21) rfl)) (by decide) (by decide)) (g := (mkF m 150 #[.val (.int p0), .val (.int p1), .val (.int p2), .val (.int (2 : Int32)), .val (.ref b149), .val (.ref b153)] [(.int p2), (.int p1), (.int (2 : Int32)), (.int (2 : Int32)), (.ref rb151_b14)])) rfl (by rw [hml]; rfl) (argsL := [(.ref rb151_b14), (.int (2 : Int32)), (.int (2 : Int32)), (.int p1), (.int p2)]) (rest := []) (lenOf pd_4 rfl) rfl (by show 2 * 0 + _ ≤ _; exact Nat.le_of_eq rfl) (hb hby at_150) (fun _ _ => ⟨rfl, e222, (by decide : 10 + 0 ≤ _), (by decide : 24 + 0 ≤ _)⟩)
    dsimp only [Pt.U, Pt.locs, Pt.cells, Pt.slots] at X223 ql223 qy223 qz223 st223 hQ223
    subst ql223 qy223 qz223
    obtain ⟨rfl, N223q, e223⟩ := hQ223
    have N223 := Fr.app N220 N223q
    have f224 := (f210.keep K212q (ninS (Nat.ne_of_lt (Nat.lt_of_lt_of_le (A149).lt gz151_b2)) (ninS (Nat.ne_of_lt (Nat.lt_of_lt_of_le (A149).lt gz151_b8)) (ninS (Nat.ne_of_lt (Nat.lt_of_lt_of_le (A149).lt gz151_b14)) (ninS (Nat.ne_of_lt (Nat.lt_of_lt_of_le (A149).lt gz151_b20)) nin0)))))
    obtain ⟨T225, X225, e225, st225⟩ := getF X223 hx hZ hown (host := "") (Or.inl (hw _ (List.mem_of_getElem? (i := 25) rfl))) Via.refl e223 f224 (g := (mkF m 158 #[.val (.int p0), .val (.int p1), .val (.int p2), .val (.int (2 : Int32)), .val (.ref b149), .val (.ref b153)] [(.ref b149)])) rfl rfl (hb hby at_158)
    have c165_nn27 := nnAdd (vv hc165_c17_z4 hc165_c17_z5 hc165_c17_z7 hc165_c17_z8) (vv hc165_c24_z4 hc165_c24_z5 hc165_c24_z7 hc165_c24_z8) hc165_z27
    have c165_br29 := sums (vv hc61_c10_z4 hc61_c10_z5 hc61_c10_z7 hc61_c10_z8) (vv hc101_c10_z4 hc101_c10_z5 hc101_c10_z7 hc101_c10_z8) (vv hc165_c17_z4 hc165_c17_z5 hc165_c17_z7 hc165_c17_z8) (vv hc165_c24_z4 hc165_c24_z5 hc165_c24_z7 hc165_c24_z8) hc108_z69 hc165_z27 hc165_z28
    have c165_nn53 := nnAdd (vv hc165_c43_z4 hc165_c43_z5 hc165_c43_z7 hc165_c43_z8) (vv hc165_c50_z4 hc165_c50_z5 hc165_c50_z7 hc165_c50_z8) hc165_z53
    have c165_br55 := sums (vv hc61_c25_z4 hc61_c25_z5 hc61_c25_z7 hc61_c25_z8) (vv hc101_c25_z4 hc101_c25_z5 hc101_c25_z7 hc101_c25_z8) (vv hc165_c43_z4 hc165_c43_z5 hc165_c43_z7 hc165_c43_z8) (vv hc165_c50_z4 hc165_c50_z5 hc165_c50_z7 hc165_c50_z8) hc108_z69_2 hc165_z53 hc165_z54
    obtain ⟨_, _, ⟨T226, L226, k226, n226⟩, -, X226, ⟨Lc226, hQ226, ql226, qy226, qz226⟩, st226⟩ := Jvm.LawKit.callS X225 hx (y := (⟨"com/example/lumenstand/lumenstand/light/InterceptionAddPinLaw", "sum", "([DIIII)Z"⟩ : MethodName)) hown (mvT hZ (hw _ (List.mem_of_getElem? (i := 31) rfl))) (mvT hZ (hw _ (List.mem_of_getElem? (i := 32) rfl))) (mvT hZ (hw _ (List.mem_of_getElem? (i := 21) rfl))) (mvT hZ (hw _ (List.mem_of_getElem? (i := 33) rfl))) (by decide) (backOf (W := 0) (rm5_2 l Z a0 hw [] rb151_b20 (3 : Int32) p1 p2 kk151_k20 c108_z69 c108_z69_2 c165_c17_z4 c165_c17_z5 c165_c17_z7 c165_c17_z8 c165_c24_z4 c165_c24_z5 c165_c24_z7 c165_c24_z8 c165_z27 c165_z28 c165_c43_z4 c165_c43_z5 c165_c43_z7 c165_c43_z8 c165_c50_z4 c165_c50_z5 c165_c50_z7 c165_c50_z8 c165_z53 c165_z54 T212.heap n0 (Nat.le_trans (Nat.le_trans (Nat.le_trans (Nat.le_trans (Nat.le_trans (Nat.le_trans (Nat.le_trans (Nat.le_trans (Nat.le_trans (Nat.le_trans (Nat.le_trans (Nat.le_trans (Nat.le_trans Z0 E149.1) K151q.1) E153.1) K155q.1) K160q.1) K165q.1) K170q.1) K175q.1) K180q.1) K185q.1) K190q.1) K195q.1) K212q.1) Q212_3 hc165_c17_z4 hc165_c17_z5 hc165_c17_z7 hc165_c17_z8 hc165_c24_z4 hc165_c24_z5 hc165_c24_z7 hc165_c24_z8 hc165_z27 hc165_z28 hc165_c43_z4 hc165_c43_z5 hc165_c43_z7 hc165_c43_z8 hc165_c50_z4 hc165_c50_z5 hc165_c50_z7 hc165_c50_z8 hc165_z53 hc165_z54 c165_nn27 c165_br29 c165_nn53 c165_br55) hZ (hw _ (List.mem_of_getElem? (i := 33) rfl)) (hw _ (List.mem_of_getElem? (i := 21) rfl)) (by decide) (by decide)) (g := (mkF m 165 #[.val (.int p0), .val (.int p1), .val (.int p2), .val (.int (2 : Int32)), .val (.ref b149), .val (.ref b153)] [(.int p2), (.int p1), (.int (3 : Int32)), (.int (2 : Int32)), (.ref rb151_b20)])) rfl (by rw [hml]; rfl) (argsL := [(.ref rb151_b20), (.int (2 : Int32)), (.int (3 : Int32)), (.int p1), (.int p2)]) (rest := []) (lenOf pd_4 rfl) rfl (by show 2 * 0 + _ ≤ _; exact Nat.le_of_eq rfl) (hb hby at_165) (fun _ _ => ⟨rfl, e225, (by decide : 10 + 0 ≤ _), (by decide : 24 + 0 ≤ _)⟩)
    dsimp only [Pt.U, Pt.locs, Pt.cells, Pt.slots] at X226 ql226 qy226 qz226 st226 hQ226
    subst ql226 qy226 qz226
    obtain ⟨rfl, N226q, e226⟩ := hQ226
    have N226 := Fr.app N223 N226q
    have f227 := (f205.keep K212q (ninS (Ne.symm (Nat.ne_of_lt (Nat.lt_of_lt_of_le (Q151_5).lt (Nat.le_of_eq g153.symm)))) (ninS (Ne.symm (Nat.ne_of_lt (Nat.lt_of_lt_of_le (Q151_6).lt (Nat.le_of_eq g153.symm)))) (ninS (Ne.symm (Nat.ne_of_lt (Nat.lt_of_lt_of_le (Q151_7).lt (Nat.le_of_eq g153.symm)))) (ninS (Ne.symm (Nat.ne_of_lt (Nat.lt_of_lt_of_le (Q151_8).lt (Nat.le_of_eq g153.symm)))) nin0)))))
    obtain ⟨T228, X228, e228, st228⟩ := getF X226 hx hZ hown (host := "") (Or.inl (hw _ (List.mem_of_getElem? (i := 18) rfl))) Via.refl e226 f227 (g := (mkF m 173 #[.val (.int p0), .val (.int p1), .val (.int p2), .val (.int (2 : Int32)), .val (.ref b149), .val (.ref b153)] [(.ref b153)])) rfl rfl (hb hby at_173)
    have c179_br21 := same (vv hc71_c10_z4 hc71_c10_z5 hc71_c10_z7 hc71_c10_z8) (vv hc179_c17_z4 hc179_c17_z5 hc179_c17_z7 hc179_c17_z8) hc179_z20
    have c179_br39 := same (vv hc71_c25_z4 hc71_c25_z5 hc71_c25_z7 hc71_c25_z8) (vv hc179_c35_z4 hc179_c35_z5 hc179_c35_z7 hc179_c35_z8) hc179_z38
    have f229 := (f198.keep K212q (ninS (Ne.symm (Nat.ne_of_lt (Nat.lt_of_lt_of_le ((Q151_5.ext E153)).lt gz155_b2))) (ninS (Ne.symm (Nat.ne_of_lt (Nat.lt_of_lt_of_le ((Q151_6.ext E153)).lt gz155_b2))) (ninS (Ne.symm (Nat.ne_of_lt (Nat.lt_of_lt_of_le ((Q151_7.ext E153)).lt gz155_b2))) (ninS (Ne.symm (Nat.ne_of_lt (Nat.lt_of_lt_of_le ((Q151_8.ext E153)).lt gz155_b2))) nin0)))))
    obtain ⟨_, _, ⟨T230, L230, k230, n230⟩, -, X230, ⟨Lc230, hQ230, ql230, qy230, qz230⟩, st230⟩ := Jvm.LawKit.callS X228 hx (y := (⟨"com/example/lumenstand/lumenstand/light/InterceptionAddPinLaw", "kept", "([DIII)Z"⟩ : MethodName)) hown (mvT hZ (hw _ (List.mem_of_getElem? (i := 34) rfl))) (mvT hZ (hw _ (List.mem_of_getElem? (i := 35) rfl))) (mvT hZ (hw _ (List.mem_of_getElem? (i := 21) rfl))) (mvT hZ (hw _ (List.mem_of_getElem? (i := 36) rfl))) (by decide) (backOf (W := 0) (rm6_2 l Z a0 hw [] rb155_b2 (0 : Int32) p2 kk155_k2 c71_c10_z8 c71_c25_z8 c179_c17_z4 c179_c17_z5 c179_c17_z7 c179_c17_z8 c179_z20 c179_c35_z4 c179_c35_z5 c179_c35_z7 c179_c35_z8 c179_z38 T212.heap n0 (Nat.le_trans (Nat.le_trans (Nat.le_trans (Nat.le_trans (Nat.le_trans (Nat.le_trans (Nat.le_trans (Nat.le_trans (Nat.le_trans (Nat.le_trans (Nat.le_trans (Nat.le_trans (Nat.le_trans Z0 E149.1) K151q.1) E153.1) K155q.1) K160q.1) K165q.1) K170q.1) K175q.1) K180q.1) K185q.1) K190q.1) K195q.1) K212q.1) f229 hc179_c17_z4 hc179_c17_z5 hc179_c17_z7 hc179_c17_z8 hc179_z20 hc179_c35_z4 hc179_c35_z5 hc179_c35_z7 hc179_c35_z8 hc179_z38 c179_br21 c179_br39) hZ (hw _ (List.mem_of_getElem? (i := 36) rfl)) (hw _ (List.mem_of_getElem? (i := 21) rfl)) (by decide) (by decide)) (g := (mkF m 179 #[.val (.int p0), .val (.int p1), .val (.int p2), .val (.int (2 : Int32)), .val (.ref b149), .val (.ref b153)] [(.int p2), (.int (0 : Int32)), (.int (2 : Int32)), (.ref rb155_b2)])) rfl (by rw [hml]; rfl) (argsL := [(.ref rb155_b2), (.int (2 : Int32)), (.int (0 : Int32)), (.int p2)]) (rest := []) (lenOf pd_5 rfl) rfl (by show 2 * 0 + _ ≤ _; exact Nat.le_of_eq rfl) (hb hby at_179) (fun _ _ => ⟨rfl, e228, (by decide : 10 + 0 ≤ _), (by decide : 24 + 0 ≤ _)⟩)
    dsimp only [Pt.U, Pt.locs, Pt.cells, Pt.slots] at X230 ql230 qy230 qz230 st230 hQ230
    subst ql230 qy230 qz230
    obtain ⟨rfl, N230q, e230⟩ := hQ230
    have N230 := Fr.app N226 N230q
    have f231 := (f207.keep K212q (ninS (Ne.symm (Nat.ne_of_lt (Nat.lt_of_lt_of_le (Q151_5).lt (Nat.le_of_eq g153.symm)))) (ninS (Ne.symm (Nat.ne_of_lt (Nat.lt_of_lt_of_le (Q151_6).lt (Nat.le_of_eq g153.symm)))) (ninS (Ne.symm (Nat.ne_of_lt (Nat.lt_of_lt_of_le (Q151_7).lt (Nat.le_of_eq g153.symm)))) (ninS (Ne.symm (Nat.ne_of_lt (Nat.lt_of_lt_of_le (Q151_8).lt (Nat.le_of_eq g153.symm)))) nin0)))))
    obtain ⟨T232, X232, e232, st232⟩ := getF X230 hx hZ hown (host := "") (Or.inl (hw _ (List.mem_of_getElem? (i := 23) rfl))) Via.refl e230 f231 (g := (mkF m 187 #[.val (.int p0), .val (.int p1), .val (.int p2), .val (.int (2 : Int32)), .val (.ref b149), .val (.ref b153)] [(.ref b153)])) rfl rfl (hb hby at_187)
    have c193_br21 := same (vv hc81_c10_z4 hc81_c10_z5 hc81_c10_z7 hc81_c10_z8) (vv hc193_c17_z4 hc193_c17_z5 hc193_c17_z7 hc193_c17_z8) hc193_z20
    have c193_br39 := same (vv hc81_c25_z4 hc81_c25_z5 hc81_c25_z7 hc81_c25_z8) (vv hc193_c35_z4 hc193_c35_z5 hc193_c35_z7 hc193_c35_z8) hc193_z38
    have f233 := (f200.keep K212q (ninS (Ne.symm (Nat.ne_of_lt (Nat.lt_of_lt_of_le ((Q151_5.ext E153)).lt gz155_b8))) (ninS (Ne.symm (Nat.ne_of_lt (Nat.lt_of_lt_of_le ((Q151_6.ext E153)).lt gz155_b8))) (ninS (Ne.symm (Nat.ne_of_lt (Nat.lt_of_lt_of_le ((Q151_7.ext E153)).lt gz155_b8))) (ninS (Ne.symm (Nat.ne_of_lt (Nat.lt_of_lt_of_le ((Q151_8.ext E153)).lt gz155_b8))) nin0)))))
    obtain ⟨_, _, ⟨T234, L234, k234, n234⟩, -, X234, ⟨Lc234, hQ234, ql234, qy234, qz234⟩, st234⟩ := Jvm.LawKit.callS X232 hx (y := (⟨"com/example/lumenstand/lumenstand/light/InterceptionAddPinLaw", "kept", "([DIII)Z"⟩ : MethodName)) hown (mvT hZ (hw _ (List.mem_of_getElem? (i := 34) rfl))) (mvT hZ (hw _ (List.mem_of_getElem? (i := 35) rfl))) (mvT hZ (hw _ (List.mem_of_getElem? (i := 21) rfl))) (mvT hZ (hw _ (List.mem_of_getElem? (i := 36) rfl))) (by decide) (backOf (W := 0) (rm6_2 l Z a0 hw [] rb155_b8 (1 : Int32) p2 kk155_k8 c81_c10_z8 c81_c25_z8 c193_c17_z4 c193_c17_z5 c193_c17_z7 c193_c17_z8 c193_z20 c193_c35_z4 c193_c35_z5 c193_c35_z7 c193_c35_z8 c193_z38 T212.heap n0 (Nat.le_trans (Nat.le_trans (Nat.le_trans (Nat.le_trans (Nat.le_trans (Nat.le_trans (Nat.le_trans (Nat.le_trans (Nat.le_trans (Nat.le_trans (Nat.le_trans (Nat.le_trans (Nat.le_trans Z0 E149.1) K151q.1) E153.1) K155q.1) K160q.1) K165q.1) K170q.1) K175q.1) K180q.1) K185q.1) K190q.1) K195q.1) K212q.1) f233 hc193_c17_z4 hc193_c17_z5 hc193_c17_z7 hc193_c17_z8 hc193_z20 hc193_c35_z4 hc193_c35_z5 hc193_c35_z7 hc193_c35_z8 hc193_z38 c193_br21 c193_br39) hZ (hw _ (List.mem_of_getElem? (i := 36) rfl)) (hw _ (List.mem_of_getElem? (i := 21) rfl)) (by decide) (by decide)) (g := (mkF m 193 #[.val (.int p0), .val (.int p1), .val (.int p2), .val (.int (2 : Int32)), .val (.ref b149), .val (.ref b153)] [(.int p2), (.int (1 : Int32)), (.int (2 : Int32)), (.ref rb155_b8)])) rfl (by rw [hml]; rfl) (argsL := [(.ref rb155_b8), (.int (2 : Int32)), (.int (1 : Int32)), (.int p2)]) (rest := []) (lenOf pd_5 rfl) rfl (by show 2 * 0 + _ ≤ _; exact Nat.le_of_eq rfl) (hb hby at_193) (fun _ _ => ⟨rfl, e232, (by decide : 10 + 0 ≤ _), (by decide : 24 + 0 ≤ _)⟩)
    dsimp only [Pt.U, Pt.locs, Pt.cells, Pt.slots] at X234 ql234 qy234 qz234 st234 hQ234
    subst ql234 qy234 qz234
    obtain ⟨rfl, N234q, e234⟩ := hQ234
    have N234 := Fr.app N230 N234q
    have f235 := (f209.keep K212q (ninS (Ne.symm (Nat.ne_of_lt (Nat.lt_of_lt_of_le (Q151_5).lt (Nat.le_of_eq g153.symm)))) (ninS (Ne.symm (Nat.ne_of_lt (Nat.lt_of_lt_of_le (Q151_6).lt (Nat.le_of_eq g153.symm)))) (ninS (Ne.symm (Nat.ne_of_lt (Nat.lt_of_lt_of_le (Q151_7).lt (Nat.le_of_eq g153.symm)))) (ninS (Ne.symm (Nat.ne_of_lt (Nat.lt_of_lt_of_le (Q151_8).lt (Nat.le_of_eq g153.symm)))) nin0)))))
    obtain ⟨T236, X236, e236, st236⟩ := getF X234 hx hZ hown (host := "") (Or.inl (hw _ (List.mem_of_getElem? (i := 24) rfl))) Via.refl e234 f235 (g := (mkF m 201 #[.val (.int p0), .val (.int p1), .val (.int p2), .val (.int (2 : Int32)), .val (.ref b149), .val (.ref b153)] [(.ref b153)])) rfl rfl (hb hby at_201)
    have c207_br21 := same (vv hc91_c10_z4 hc91_c10_z5 hc91_c10_z7 hc91_c10_z8) (vv hc207_c17_z4 hc207_c17_z5 hc207_c17_z7 hc207_c17_z8) hc207_z20
    have c207_br39 := same (vv hc91_c25_z4 hc91_c25_z5 hc91_c25_z7 hc91_c25_z8) (vv hc207_c35_z4 hc207_c35_z5 hc207_c35_z7 hc207_c35_z8) hc207_z38
    have f237 := (f202.keep K212q (ninS (Ne.symm (Nat.ne_of_lt (Nat.lt_of_lt_of_le ((Q151_5.ext E153)).lt gz155_b14))) (ninS (Ne.symm (Nat.ne_of_lt (Nat.lt_of_lt_of_le ((Q151_6.ext E153)).lt gz155_b14))) (ninS (Ne.symm (Nat.ne_of_lt (Nat.lt_of_lt_of_le ((Q151_7.ext E153)).lt gz155_b14))) (ninS (Ne.symm (Nat.ne_of_lt (Nat.lt_of_lt_of_le ((Q151_8.ext E153)).lt gz155_b14))) nin0)))))
    obtain ⟨_, _, ⟨T238, L238, k238, n238⟩, -, X238, ⟨Lc238, hQ238, ql238, qy238, qz238⟩, st238⟩ := Jvm.LawKit.callS X236 hx (y := (⟨"com/example/lumenstand/lumenstand/light/InterceptionAddPinLaw", "kept", "([DIII)Z"⟩ : MethodName)) hown (mvT hZ (hw _ (List.mem_of_getElem? (i := 34) rfl))) (mvT hZ (hw _ (List.mem_of_getElem? (i := 35) rfl))) (mvT hZ (hw _ (List.mem_of_getElem? (i := 21) rfl))) (mvT hZ (hw _ (List.mem_of_getElem? (i := 36) rfl))) (by decide) (backOf (W := 0) (rm6_2 l Z a0 hw [] rb155_b14 (2 : Int32) p2 kk155_k14 c91_c10_z8 c91_c25_z8 c207_c17_z4 c207_c17_z5 c207_c17_z7 c207_c17_z8 c207_z20 c207_c35_z4 c207_c35_z5 c207_c35_z7 c207_c35_z8 c207_z38 T212.heap n0 (Nat.le_trans (Nat.le_trans (Nat.le_trans (Nat.le_trans (Nat.le_trans (Nat.le_trans (Nat.le_trans (Nat.le_trans (Nat.le_trans (Nat.le_trans (Nat.le_trans (Nat.le_trans (Nat.le_trans Z0 E149.1) K151q.1) E153.1) K155q.1) K160q.1) K165q.1) K170q.1) K175q.1) K180q.1) K185q.1) K190q.1) K195q.1) K212q.1) f237 hc207_c17_z4 hc207_c17_z5 hc207_c17_z7 hc207_c17_z8 hc207_z20 hc207_c35_z4 hc207_c35_z5 hc207_c35_z7 hc207_c35_z8 hc207_z38 c207_br21 c207_br39) hZ (hw _ (List.mem_of_getElem? (i := 36) rfl)) (hw _ (List.mem_of_getElem? (i := 21) rfl)) (by decide) (by decide)) (g := (mkF m 207 #[.val (.int p0), .val (.int p1), .val (.int p2), .val (.int (2 : Int32)), .val (.ref b149), .val (.ref b153)] [(.int p2), (.int (2 : Int32)), (.int (2 : Int32)), (.ref rb155_b14)])) rfl (by rw [hml]; rfl) (argsL := [(.ref rb155_b14), (.int (2 : Int32)), (.int (2 : Int32)), (.int p2)]) (rest := []) (lenOf pd_5 rfl) rfl (by show 2 * 0 + _ ≤ _; exact Nat.le_of_eq rfl) (hb hby at_207) (fun _ _ => ⟨rfl, e236, (by decide : 10 + 0 ≤ _), (by decide : 24 + 0 ≤ _)⟩)
    dsimp only [Pt.U, Pt.locs, Pt.cells, Pt.slots] at X238 ql238 qy238 qz238 st238 hQ238
    subst ql238 qy238 qz238
    obtain ⟨rfl, N238q, e238⟩ := hQ238
    have N238 := Fr.app N234 N238q
    have f239 := (f211.keep K212q (ninS (Ne.symm (Nat.ne_of_lt (Nat.lt_of_lt_of_le (Q151_5).lt (Nat.le_of_eq g153.symm)))) (ninS (Ne.symm (Nat.ne_of_lt (Nat.lt_of_lt_of_le (Q151_6).lt (Nat.le_of_eq g153.symm)))) (ninS (Ne.symm (Nat.ne_of_lt (Nat.lt_of_lt_of_le (Q151_7).lt (Nat.le_of_eq g153.symm)))) (ninS (Ne.symm (Nat.ne_of_lt (Nat.lt_of_lt_of_le (Q151_8).lt (Nat.le_of_eq g153.symm)))) nin0)))))
    obtain ⟨T240, X240, e240, st240⟩ := getF X238 hx hZ hown (host := "") (Or.inl (hw _ (List.mem_of_getElem? (i := 25) rfl))) Via.refl e238 f239 (g := (mkF m 215 #[.val (.int p0), .val (.int p1), .val (.int p2), .val (.int (2 : Int32)), .val (.ref b149), .val (.ref b153)] [(.ref b153)])) rfl rfl (hb hby at_215)
    have c221_br21 := same (vv hc101_c10_z4 hc101_c10_z5 hc101_c10_z7 hc101_c10_z8) (vv hc221_c17_z4 hc221_c17_z5 hc221_c17_z7 hc221_c17_z8) hc221_z20
    have c221_br39 := same (vv hc101_c25_z4 hc101_c25_z5 hc101_c25_z7 hc101_c25_z8) (vv hc221_c35_z4 hc221_c35_z5 hc221_c35_z7 hc221_c35_z8) hc221_z38
    have f241 := (Q195_0.keep K212q (ninS (Ne.symm (Nat.ne_of_lt (Nat.lt_of_lt_of_le ((Q151_5.ext E153)).lt gz155_b20))) (ninS (Ne.symm (Nat.ne_of_lt (Nat.lt_of_lt_of_le ((Q151_6.ext E153)).lt gz155_b20))) (ninS (Ne.symm (Nat.ne_of_lt (Nat.lt_of_lt_of_le ((Q151_7.ext E153)).lt gz155_b20))) (ninS (Ne.symm (Nat.ne_of_lt (Nat.lt_of_lt_of_le ((Q151_8.ext E153)).lt gz155_b20))) nin0)))))
    obtain ⟨_, _, ⟨T242, L242, k242, n242⟩, -, X242, ⟨Lc242, hQ242, ql242, qy242, qz242⟩, st242⟩ := Jvm.LawKit.callS X240 hx (y := (⟨"com/example/lumenstand/lumenstand/light/InterceptionAddPinLaw", "kept", "([DIII)Z"⟩ : MethodName)) hown (mvT hZ (hw _ (List.mem_of_getElem? (i := 34) rfl))) (mvT hZ (hw _ (List.mem_of_getElem? (i := 35) rfl))) (mvT hZ (hw _ (List.mem_of_getElem? (i := 21) rfl))) (mvT hZ (hw _ (List.mem_of_getElem? (i := 36) rfl))) (by decide) (backOf (W := 0) (rm6_2 l Z a0 hw [] rb155_b20 (3 : Int32) p2 kk155_k20 c101_c10_z8 c101_c25_z8 c221_c17_z4 c221_c17_z5 c221_c17_z7 c221_c17_z8 c221_z20 c221_c35_z4 c221_c35_z5 c221_c35_z7 c221_c35_z8 c221_z38 T212.heap n0 (Nat.le_trans (Nat.le_trans (Nat.le_trans (Nat.le_trans (Nat.le_trans (Nat.le_trans (Nat.le_trans (Nat.le_trans (Nat.le_trans (Nat.le_trans (Nat.le_trans (Nat.le_trans (Nat.le_trans Z0 E149.1) K151q.1) E153.1) K155q.1) K160q.1) K165q.1) K170q.1) K175q.1) K180q.1) K185q.1) K190q.1) K195q.1) K212q.1) f241 hc221_c17_z4 hc221_c17_z5 hc221_c17_z7 hc221_c17_z8 hc221_z20 hc221_c35_z4 hc221_c35_z5 hc221_c35_z7 hc221_c35_z8 hc221_z38 c221_br21 c221_br39) hZ (hw _ (List.mem_of_getElem? (i := 36) rfl)) (hw _ (List.mem_of_getElem? (i := 21) rfl)) (by decide) (by decide)) (g := (mkF m 221 #[.val (.int p0), .val (.int p1), .val (.int p2), .val (.int (2 : Int32)), .val (.ref b149), .val (.ref b153)] [(.int p2), (.int (3 : Int32)), (.int (2 : Int32)), (.ref rb155_b20)])) rfl (by rw [hml]; rfl) (argsL := [(.ref rb155_b20), (.int (2 : Int32)), (.int (3 : Int32)), (.int p2)]) (rest := []) (lenOf pd_5 rfl) rfl (by show 2 * 0 + _ ≤ _; exact Nat.le_of_eq rfl) (hb hby at_221) (fun _ _ => ⟨rfl, e240, (by decide : 10 + 0 ≤ _), (by decide : 24 + 0 ≤ _)⟩)
    dsimp only [Pt.U, Pt.locs, Pt.cells, Pt.slots] at X242 ql242 qy242 qz242 st242 hQ242
    subst ql242 qy242 qz242
    obtain ⟨rfl, N242q, e242⟩ := hQ242
    have N242 := Fr.app N238 N242q
    have c243 : ∀ t, Steps p.tables e below (T242.setTop (mkF m 232 #[.val (.int p0), .val (.int p1), .val (.int p2), .val (.int (2 : Int32)), .val (.ref b149), .val (.ref b153)] [(.int (1 : Int32))])) t → Steps p.tables e below (s₁.setTop (entryFrame m #[(.int p0), (.int p1), (.int p2)] maxLocals)) t := by
      intro t k
      refine c1 t ?_
      show Steps p.tables e below (s₁.setTop (mkF m 4 #[.val (.int p0), .val (.int p1), .val (.int p2), .val (.int (2 : Int32)), .unset, .unset] [])) _
      refine st149 _ ?_
      show Steps p.tables e below (T149.setTop (mkF m 7 #[.val (.int p0), .val (.int p1), .val (.int p2), .val (.int (2 : Int32)), .unset, .unset] [(.ref b149)])) _
      refine XS.dup X149.here hx rfl (hb hby at_7) rfl rfl ?_
      show Steps p.tables e below (T149.setTop (mkF m 8 #[.val (.int p0), .val (.int p1), .val (.int p2), .val (.int (2 : Int32)), .unset, .unset] [(.ref b149), (.ref b149)])) _
      refine XS.iloadN X149.here hx rfl (hb hby at_8) rfl ?_
      show Steps p.tables e below (T149.setTop (mkF m 9 #[.val (.int p0), .val (.int p1), .val (.int p2), .val (.int (2 : Int32)), .unset, .unset] [(.int (2 : Int32)), (.ref b149), (.ref b149)])) _
      refine st151.trans ?_
      show Steps p.tables e below (T151.setTop (mkF m 12 #[.val (.int p0), .val (.int p1), .val (.int p2), .val (.int (2 : Int32)), .unset, .unset] [(.ref b149)])) _
      refine XS.astore X151.here hx rfl (hb hby at_12) rfl rfl (l' := #[.val (.int p0), .val (.int p1), .val (.int p2), .val (.int (2 : Int32)), .val (.ref b149), .unset]) rfl ?_
      show Steps p.tables e below (T151.setTop (mkF m 14 #[.val (.int p0), .val (.int p1), .val (.int p2), .val (.int (2 : Int32)), .val (.ref b149), .unset] [])) _
      refine st153 _ ?_
      show Steps p.tables e below (T153.setTop (mkF m 17 #[.val (.int p0), .val (.int p1), .val (.int p2), .val (.int (2 : Int32)), .val (.ref b149), .unset] [(.ref b153)])) _
      refine XS.dup X153.here hx rfl (hb hby at_17) rfl rfl ?_
      show Steps p.tables e below (T153.setTop (mkF m 18 #[.val (.int p0), .val (.int p1), .val (.int p2), .val (.int (2 : Int32)), .val (.ref b149), .unset] [(.ref b153), (.ref b153)])) _
      refine XS.iloadN X153.here hx rfl (hb hby at_18) rfl ?_
      show Steps p.tables e below (T153.setTop (mkF m 19 #[.val (.int p0), .val (.int p1), .val (.int p2), .val (.int (2 : Int32)), .val (.ref b149), .unset] [(.int (2 : Int32)), (.ref b153), (.ref b153)])) _
      refine st155.trans ?_
      show Steps p.tables e below (T155.setTop (mkF m 22 #[.val (.int p0), .val (.int p1), .val (.int p2), .val (.int (2 : Int32)), .val (.ref b149), .unset] [(.ref b153)])) _
      refine XS.astore X155.here hx rfl (hb hby at_22) rfl rfl (l' := #[.val (.int p0), .val (.int p1), .val (.int p2), .val (.int (2 : Int32)), .val (.ref b149), .val (.ref b153)]) rfl ?_
      show Steps p.tables e below (T155.setTop (mkF m 24 #[.val (.int p0), .val (.int p1), .val (.int p2), .val (.int (2 : Int32)), .val (.ref b149), .val (.ref b153)] [])) _
      refine XS.aload X155.here hx rfl (hb hby at_24) rfl rfl ?_
      show Steps p.tables e below (T155.setTop (mkF m 26 #[.val (.int p0), .val (.int p1), .val (.int p2), .val (.int (2 : Int32)), .val (.ref b149), .val (.ref b153)] [(.ref b149)])) _
      refine st158 _ ?_
      show Steps p.tables e below (T158.setTop (mkF m 29 #[.val (.int p0), .val (.int p1), .val (.int p2), .val (.int (2 : Int32)), .val (.ref b149), .val (.ref b153)] [(.ref rb151_b2)])) _
      refine XS.iconst X158.here hx rfl (hb hby at_29) ?_
      show Steps p.tables e below (T158.setTop (mkF m 30 #[.val (.int p0), .val (.int p1), .val (.int p2), .val (.int (2 : Int32)), .val (.ref b149), .val (.ref b153)] [(.int (0 : Int32)), (.ref rb151_b2)])) _
      refine XS.iloadN X158.here hx rfl (hb hby at_30) rfl ?_
      show Steps p.tables e below (T158.setTop (mkF m 31 #[.val (.int p0), .val (.int p1), .val (.int p2), .val (.int (2 : Int32)), .val (.ref b149), .val (.ref b153)] [(.int p1), (.int (0 : Int32)), (.ref rb151_b2)])) _
      refine st160 _ ?_
      show Steps p.tables e below (T160.setTop (mkF m 34 #[.val (.int p0), .val (.int p1), .val (.int p2), .val (.int (2 : Int32)), .val (.ref b149), .val (.ref b153)] [])) _
      refine XS.aload X160.here hx rfl (hb hby at_34) rfl rfl ?_
      show Steps p.tables e below (T160.setTop (mkF m 36 #[.val (.int p0), .val (.int p1), .val (.int p2), .val (.int (2 : Int32)), .val (.ref b149), .val (.ref b153)] [(.ref b149)])) _
      refine st163 _ ?_
      show Steps p.tables e below (T163.setTop (mkF m 39 #[.val (.int p0), .val (.int p1), .val (.int p2), .val (.int (2 : Int32)), .val (.ref b149), .val (.ref b153)] [(.ref rb151_b8)])) _
      refine XS.iconst X163.here hx rfl (hb hby at_39) ?_
      show Steps p.tables e below (T163.setTop (mkF m 40 #[.val (.int p0), .val (.int p1), .val (.int p2), .val (.int (2 : Int32)), .val (.ref b149), .val (.ref b153)] [(.int (1 : Int32)), (.ref rb151_b8)])) _
      refine XS.iloadN X163.here hx rfl (hb hby at_40) rfl ?_
      show Steps p.tables e below (T163.setTop (mkF m 41 #[.val (.int p0), .val (.int p1), .val (.int p2), .val (.int (2 : Int32)), .val (.ref b149), .val (.ref b153)] [(.int p1), (.int (1 : Int32)), (.ref rb151_b8)])) _
      refine st165 _ ?_
      show Steps p.tables e below (T165.setTop (mkF m 44 #[.val (.int p0), .val (.int p1), .val (.int p2), .val (.int (2 : Int32)), .val (.ref b149), .val (.ref b153)] [])) _
      refine XS.aload X165.here hx rfl (hb hby at_44) rfl rfl ?_
      show Steps p.tables e below (T165.setTop (mkF m 46 #[.val (.int p0), .val (.int p1), .val (.int p2), .val (.int (2 : Int32)), .val (.ref b149), .val (.ref b153)] [(.ref b149)])) _
      refine st168 _ ?_
      show Steps p.tables e below (T168.setTop (mkF m 49 #[.val (.int p0), .val (.int p1), .val (.int p2), .val (.int (2 : Int32)), .val (.ref b149), .val (.ref b153)] [(.ref rb151_b14)])) _
      refine XS.iconst X168.here hx rfl (hb hby at_49) ?_
      show Steps p.tables e below (T168.setTop (mkF m 50 #[.val (.int p0), .val (.int p1), .val (.int p2), .val (.int (2 : Int32)), .val (.ref b149), .val (.ref b153)] [(.int (2 : Int32)), (.ref rb151_b14)])) _
      refine XS.iloadN X168.here hx rfl (hb hby at_50) rfl ?_
      show Steps p.tables e below (T168.setTop (mkF m 51 #[.val (.int p0), .val (.int p1), .val (.int p2), .val (.int (2 : Int32)), .val (.ref b149), .val (.ref b153)] [(.int p1), (.int (2 : Int32)), (.ref rb151_b14)])) _
      refine st170 _ ?_
      show Steps p.tables e below (T170.setTop (mkF m 54 #[.val (.int p0), .val (.int p1), .val (.int p2), .val (.int (2 : Int32)), .val (.ref b149), .val (.ref b153)] [])) _
      refine XS.aload X170.here hx rfl (hb hby at_54) rfl rfl ?_
      show Steps p.tables e below (T170.setTop (mkF m 56 #[.val (.int p0), .val (.int p1), .val (.int p2), .val (.int (2 : Int32)), .val (.ref b149), .val (.ref b153)] [(.ref b149)])) _
      refine st173 _ ?_
      show Steps p.tables e below (T173.setTop (mkF m 59 #[.val (.int p0), .val (.int p1), .val (.int p2), .val (.int (2 : Int32)), .val (.ref b149), .val (.ref b153)] [(.ref rb151_b20)])) _
      refine XS.iconst X173.here hx rfl (hb hby at_59) ?_
      show Steps p.tables e below (T173.setTop (mkF m 60 #[.val (.int p0), .val (.int p1), .val (.int p2), .val (.int (2 : Int32)), .val (.ref b149), .val (.ref b153)] [(.int (3 : Int32)), (.ref rb151_b20)])) _
      refine XS.iloadN X173.here hx rfl (hb hby at_60) rfl ?_
      show Steps p.tables e below (T173.setTop (mkF m 61 #[.val (.int p0), .val (.int p1), .val (.int p2), .val (.int (2 : Int32)), .val (.ref b149), .val (.ref b153)] [(.int p1), (.int (3 : Int32)), (.ref rb151_b20)])) _
      refine st175 _ ?_
      show Steps p.tables e below (T175.setTop (mkF m 64 #[.val (.int p0), .val (.int p1), .val (.int p2), .val (.int (2 : Int32)), .val (.ref b149), .val (.ref b153)] [])) _
      refine XS.aload X175.here hx rfl (hb hby at_64) rfl rfl ?_
      show Steps p.tables e below (T175.setTop (mkF m 66 #[.val (.int p0), .val (.int p1), .val (.int p2), .val (.int (2 : Int32)), .val (.ref b149), .val (.ref b153)] [(.ref b153)])) _
      refine st178 _ ?_
      show Steps p.tables e below (T178.setTop (mkF m 69 #[.val (.int p0), .val (.int p1), .val (.int p2), .val (.int (2 : Int32)), .val (.ref b149), .val (.ref b153)] [(.ref rb155_b2)])) _
      refine XS.iconst X178.here hx rfl (hb hby at_69) ?_
      show Steps p.tables e below (T178.setTop (mkF m 70 #[.val (.int p0), .val (.int p1), .val (.int p2), .val (.int (2 : Int32)), .val (.ref b149), .val (.ref b153)] [(.int (0 : Int32)), (.ref rb155_b2)])) _
      refine XS.iloadN X178.here hx rfl (hb hby at_70) rfl ?_
      show Steps p.tables e below (T178.setTop (mkF m 71 #[.val (.int p0), .val (.int p1), .val (.int p2), .val (.int (2 : Int32)), .val (.ref b149), .val (.ref b153)] [(.int p2), (.int (0 : Int32)), (.ref rb155_b2)])) _
      refine st180 _ ?_
      show Steps p.tables e below (T180.setTop (mkF m 74 #[.val (.int p0), .val (.int p1), .val (.int p2), .val (.int (2 : Int32)), .val (.ref b149), .val (.ref b153)] [])) _
      refine XS.aload X180.here hx rfl (hb hby at_74) rfl rfl ?_
      show Steps p.tables e below (T180.setTop (mkF m 76 #[.val (.int p0), .val (.int p1), .val (.int p2), .val (.int (2 : Int32)), .val (.ref b149), .val (.ref b153)] [(.ref b153)])) _
      refine st183 _ ?_
      show Steps p.tables e below (T183.setTop (mkF m 79 #[.val (.int p0), .val (.int p1), .val (.int p2), .val (.int (2 : Int32)), .val (.ref b149), .val (.ref b153)] [(.ref rb155_b8)])) _
      refine XS.iconst X183.here hx rfl (hb hby at_79) ?_
      show Steps p.tables e below (T183.setTop (mkF m 80 #[.val (.int p0), .val (.int p1), .val (.int p2), .val (.int (2 : Int32)), .val (.ref b149), .val (.ref b153)] [(.int (1 : Int32)), (.ref rb155_b8)])) _
      refine XS.iloadN X183.here hx rfl (hb hby at_80) rfl ?_
      show Steps p.tables e below (T183.setTop (mkF m 81 #[.val (.int p0), .val (.int p1), .val (.int p2), .val (.int (2 : Int32)), .val (.ref b149), .val (.ref b153)] [(.int p2), (.int (1 : Int32)), (.ref rb155_b8)])) _
      refine st185 _ ?_
      show Steps p.tables e below (T185.setTop (mkF m 84 #[.val (.int p0), .val (.int p1), .val (.int p2), .val (.int (2 : Int32)), .val (.ref b149), .val (.ref b153)] [])) _
      refine XS.aload X185.here hx rfl (hb hby at_84) rfl rfl ?_
      show Steps p.tables e below (T185.setTop (mkF m 86 #[.val (.int p0), .val (.int p1), .val (.int p2), .val (.int (2 : Int32)), .val (.ref b149), .val (.ref b153)] [(.ref b153)])) _
      refine st188 _ ?_
      show Steps p.tables e below (T188.setTop (mkF m 89 #[.val (.int p0), .val (.int p1), .val (.int p2), .val (.int (2 : Int32)), .val (.ref b149), .val (.ref b153)] [(.ref rb155_b14)])) _
      refine XS.iconst X188.here hx rfl (hb hby at_89) ?_
      show Steps p.tables e below (T188.setTop (mkF m 90 #[.val (.int p0), .val (.int p1), .val (.int p2), .val (.int (2 : Int32)), .val (.ref b149), .val (.ref b153)] [(.int (2 : Int32)), (.ref rb155_b14)])) _
      refine XS.iloadN X188.here hx rfl (hb hby at_90) rfl ?_
      show Steps p.tables e below (T188.setTop (mkF m 91 #[.val (.int p0), .val (.int p1), .val (.int p2), .val (.int (2 : Int32)), .val (.ref b149), .val (.ref b153)] [(.int p2), (.int (2 : Int32)), (.ref rb155_b14)])) _
      refine st190 _ ?_
      show Steps p.tables e below (T190.setTop (mkF m 94 #[.val (.int p0), .val (.int p1), .val (.int p2), .val (.int (2 : Int32)), .val (.ref b149), .val (.ref b153)] [])) _
      refine XS.aload X190.here hx rfl (hb hby at_94) rfl rfl ?_
      show Steps p.tables e below (T190.setTop (mkF m 96 #[.val (.int p0), .val (.int p1), .val (.int p2), .val (.int (2 : Int32)), .val (.ref b149), .val (.ref b153)] [(.ref b153)])) _
      refine st193 _ ?_
      show Steps p.tables e below (T193.setTop (mkF m 99 #[.val (.int p0), .val (.int p1), .val (.int p2), .val (.int (2 : Int32)), .val (.ref b149), .val (.ref b153)] [(.ref rb155_b20)])) _
      refine XS.iconst X193.here hx rfl (hb hby at_99) ?_
      show Steps p.tables e below (T193.setTop (mkF m 100 #[.val (.int p0), .val (.int p1), .val (.int p2), .val (.int (2 : Int32)), .val (.ref b149), .val (.ref b153)] [(.int (3 : Int32)), (.ref rb155_b20)])) _
      refine XS.iloadN X193.here hx rfl (hb hby at_100) rfl ?_
      show Steps p.tables e below (T193.setTop (mkF m 101 #[.val (.int p0), .val (.int p1), .val (.int p2), .val (.int (2 : Int32)), .val (.ref b149), .val (.ref b153)] [(.int p2), (.int (3 : Int32)), (.ref rb155_b20)])) _
      refine st195 _ ?_
      show Steps p.tables e below (T195.setTop (mkF m 104 #[.val (.int p0), .val (.int p1), .val (.int p2), .val (.int (2 : Int32)), .val (.ref b149), .val (.ref b153)] [])) _
      refine XS.aload X195.here hx rfl (hb hby at_104) rfl rfl ?_
      show Steps p.tables e below (T195.setTop (mkF m 106 #[.val (.int p0), .val (.int p1), .val (.int p2), .val (.int (2 : Int32)), .val (.ref b149), .val (.ref b153)] [(.ref b149)])) _
      refine XS.aload X195.here hx rfl (hb hby at_106) rfl rfl ?_
      show Steps p.tables e below (T195.setTop (mkF m 108 #[.val (.int p0), .val (.int p1), .val (.int p2), .val (.int (2 : Int32)), .val (.ref b149), .val (.ref b153)] [(.ref b153), (.ref b149)])) _
      refine st212.trans ?_
      show Steps p.tables e below (T212.setTop (mkF m 111 #[.val (.int p0), .val (.int p1), .val (.int p2), .val (.int (2 : Int32)), .val (.ref b149), .val (.ref b153)] [])) _
      refine XS.aload X212.here hx rfl (hb hby at_111) rfl rfl ?_
      show Steps p.tables e below (T212.setTop (mkF m 113 #[.val (.int p0), .val (.int p1), .val (.int p2), .val (.int (2 : Int32)), .val (.ref b149), .val (.ref b153)] [(.ref b149)])) _
      refine st216 _ ?_
      show Steps p.tables e below (T216.setTop (mkF m 116 #[.val (.int p0), .val (.int p1), .val (.int p2), .val (.int (2 : Int32)), .val (.ref b149), .val (.ref b153)] [(.ref rb151_b2)])) _
      refine XS.iloadN X216.here hx rfl (hb hby at_116) rfl ?_
      show Steps p.tables e below (T216.setTop (mkF m 117 #[.val (.int p0), .val (.int p1), .val (.int p2), .val (.int (2 : Int32)), .val (.ref b149), .val (.ref b153)] [(.int (2 : Int32)), (.ref rb151_b2)])) _
      refine XS.iconst X216.here hx rfl (hb hby at_117) ?_
      show Steps p.tables e below (T216.setTop (mkF m 118 #[.val (.int p0), .val (.int p1), .val (.int p2), .val (.int (2 : Int32)), .val (.ref b149), .val (.ref b153)] [(.int (0 : Int32)), (.int (2 : Int32)), (.ref rb151_b2)])) _
      refine XS.iloadN X216.here hx rfl (hb hby at_118) rfl ?_
      show Steps p.tables e below (T216.setTop (mkF m 119 #[.val (.int p0), .val (.int p1), .val (.int p2), .val (.int (2 : Int32)), .val (.ref b149), .val (.ref b153)] [(.int p1), (.int (0 : Int32)), (.int (2 : Int32)), (.ref rb151_b2)])) _
      refine XS.iloadN X216.here hx rfl (hb hby at_119) rfl ?_
      show Steps p.tables e below (T216.setTop (mkF m 120 #[.val (.int p0), .val (.int p1), .val (.int p2), .val (.int (2 : Int32)), .val (.ref b149), .val (.ref b153)] [(.int p2), (.int p1), (.int (0 : Int32)), (.int (2 : Int32)), (.ref rb151_b2)])) _
      refine st217 _ ?_
      show Steps p.tables e below (T217.setTop (mkF m 123 #[.val (.int p0), .val (.int p1), .val (.int p2), .val (.int (2 : Int32)), .val (.ref b149), .val (.ref b153)] [(.int (1 : Int32))])) _
      refine XS.ifNo X217.here hx rfl (hb hby at_123) rfl (Jvm.Free.XT.i0_eq_f (by decide)) ?_
      show Steps p.tables e below (T217.setTop (mkF m 126 #[.val (.int p0), .val (.int p1), .val (.int p2), .val (.int (2 : Int32)), .val (.ref b149), .val (.ref b153)] [])) _
      refine XS.aload X217.here hx rfl (hb hby at_126) rfl rfl ?_
      show Steps p.tables e below (T217.setTop (mkF m 128 #[.val (.int p0), .val (.int p1), .val (.int p2), .val (.int (2 : Int32)), .val (.ref b149), .val (.ref b153)] [(.ref b149)])) _
      refine st219 _ ?_
      show Steps p.tables e below (T219.setTop (mkF m 131 #[.val (.int p0), .val (.int p1), .val (.int p2), .val (.int (2 : Int32)), .val (.ref b149), .val (.ref b153)] [(.ref rb151_b8)])) _
      refine XS.iloadN X219.here hx rfl (hb hby at_131) rfl ?_
      show Steps p.tables e below (T219.setTop (mkF m 132 #[.val (.int p0), .val (.int p1), .val (.int p2), .val (.int (2 : Int32)), .val (.ref b149), .val (.ref b153)] [(.int (2 : Int32)), (.ref rb151_b8)])) _
      refine XS.iconst X219.here hx rfl (hb hby at_132) ?_
      show Steps p.tables e below (T219.setTop (mkF m 133 #[.val (.int p0), .val (.int p1), .val (.int p2), .val (.int (2 : Int32)), .val (.ref b149), .val (.ref b153)] [(.int (1 : Int32)), (.int (2 : Int32)), (.ref rb151_b8)])) _
      refine XS.iloadN X219.here hx rfl (hb hby at_133) rfl ?_
      show Steps p.tables e below (T219.setTop (mkF m 134 #[.val (.int p0), .val (.int p1), .val (.int p2), .val (.int (2 : Int32)), .val (.ref b149), .val (.ref b153)] [(.int p1), (.int (1 : Int32)), (.int (2 : Int32)), (.ref rb151_b8)])) _
      refine XS.iloadN X219.here hx rfl (hb hby at_134) rfl ?_
      show Steps p.tables e below (T219.setTop (mkF m 135 #[.val (.int p0), .val (.int p1), .val (.int p2), .val (.int (2 : Int32)), .val (.ref b149), .val (.ref b153)] [(.int p2), (.int p1), (.int (1 : Int32)), (.int (2 : Int32)), (.ref rb151_b8)])) _
      refine st220 _ ?_
      show Steps p.tables e below (T220.setTop (mkF m 138 #[.val (.int p0), .val (.int p1), .val (.int p2), .val (.int (2 : Int32)), .val (.ref b149), .val (.ref b153)] [(.int (1 : Int32))])) _
      refine XS.ifNo X220.here hx rfl (hb hby at_138) rfl (Jvm.Free.XT.i0_eq_f (by decide)) ?_
      show Steps p.tables e below (T220.setTop (mkF m 141 #[.val (.int p0), .val (.int p1), .val (.int p2), .val (.int (2 : Int32)), .val (.ref b149), .val (.ref b153)] [])) _
      refine XS.aload X220.here hx rfl (hb hby at_141) rfl rfl ?_
      show Steps p.tables e below (T220.setTop (mkF m 143 #[.val (.int p0), .val (.int p1), .val (.int p2), .val (.int (2 : Int32)), .val (.ref b149), .val (.ref b153)] [(.ref b149)])) _
      refine st222 _ ?_
      show Steps p.tables e below (T222.setTop (mkF m 146 #[.val (.int p0), .val (.int p1), .val (.int p2), .val (.int (2 : Int32)), .val (.ref b149), .val (.ref b153)] [(.ref rb151_b14)])) _
      refine XS.iloadN X222.here hx rfl (hb hby at_146) rfl ?_
      show Steps p.tables e below (T222.setTop (mkF m 147 #[.val (.int p0), .val (.int p1), .val (.int p2), .val (.int (2 : Int32)), .val (.ref b149), .val (.ref b153)] [(.int (2 : Int32)), (.ref rb151_b14)])) _
      refine XS.iconst X222.here hx rfl (hb hby at_147) ?_
      show Steps p.tables e below (T222.setTop (mkF m 148 #[.val (.int p0), .val (.int p1), .val (.int p2), .val (.int (2 : Int32)), .val (.ref b149), .val (.ref b153)] [(.int (2 : Int32)), (.int (2 : Int32)), (.ref rb151_b14)])) _
      refine XS.iloadN X222.here hx rfl (hb hby at_148) rfl ?_
      show Steps p.tables e below (T222.setTop (mkF m 149 #[.val (.int p0), .val (.int p1), .val (.int p2), .val (.int (2 : Int32)), .val (.ref b149), .val (.ref b153)] [(.int p1), (.int (2 : Int32)), (.int (2 : Int32)), (.ref rb151_b14)])) _
      refine XS.iloadN X222.here hx rfl (hb hby at_149) rfl ?_
      show Steps p.tables e below (T222.setTop (mkF m 150 #[.val (.int p0), .val (.int p1), .val (.int p2), .val (.int (2 : Int32)), .val (.ref b149), .val (.ref b153)] [(.int p2), (.int p1), (.int (2 : Int32)), (.int (2 : Int32)), (.ref rb151_b14)])) _
      refine st223 _ ?_
      show Steps p.tables e below (T223.setTop (mkF m 153 #[.val (.int p0), .val (.int p1), .val (.int p2), .val (.int (2 : Int32)), .val (.ref b149), .val (.ref b153)] [(.int (1 : Int32))])) _
      refine XS.ifNo X223.here hx rfl (hb hby at_153) rfl (Jvm.Free.XT.i0_eq_f (by decide)) ?_
      show Steps p.tables e below (T223.setTop (mkF m 156 #[.val (.int p0), .val (.int p1), .val (.int p2), .val (.int (2 : Int32)), .val (.ref b149), .val (.ref b153)] [])) _
      refine XS.aload X223.here hx rfl (hb hby at_156) rfl rfl ?_
      show Steps p.tables e below (T223.setTop (mkF m 158 #[.val (.int p0), .val (.int p1), .val (.int p2), .val (.int (2 : Int32)), .val (.ref b149), .val (.ref b153)] [(.ref b149)])) _
      refine st225 _ ?_
      show Steps p.tables e below (T225.setTop (mkF m 161 #[.val (.int p0), .val (.int p1), .val (.int p2), .val (.int (2 : Int32)), .val (.ref b149), .val (.ref b153)] [(.ref rb151_b20)])) _
      refine XS.iloadN X225.here hx rfl (hb hby at_161) rfl ?_
      show Steps p.tables e below (T225.setTop (mkF m 162 #[.val (.int p0), .val (.int p1), .val (.int p2), .val (.int (2 : Int32)), .val (.ref b149), .val (.ref b153)] [(.int (2 : Int32)), (.ref rb151_b20)])) _
      refine XS.iconst X225.here hx rfl (hb hby at_162) ?_
      show Steps p.tables e below (T225.setTop (mkF m 163 #[.val (.int p0), .val (.int p1), .val (.int p2), .val (.int (2 : Int32)), .val (.ref b149), .val (.ref b153)] [(.int (3 : Int32)), (.int (2 : Int32)), (.ref rb151_b20)])) _
      refine XS.iloadN X225.here hx rfl (hb hby at_163) rfl ?_
      show Steps p.tables e below (T225.setTop (mkF m 164 #[.val (.int p0), .val (.int p1), .val (.int p2), .val (.int (2 : Int32)), .val (.ref b149), .val (.ref b153)] [(.int p1), (.int (3 : Int32)), (.int (2 : Int32)), (.ref rb151_b20)])) _
      refine XS.iloadN X225.here hx rfl (hb hby at_164) rfl ?_
      show Steps p.tables e below (T225.setTop (mkF m 165 #[.val (.int p0), .val (.int p1), .val (.int p2), .val (.int (2 : Int32)), .val (.ref b149), .val (.ref b153)] [(.int p2), (.int p1), (.int (3 : Int32)), (.int (2 : Int32)), (.ref rb151_b20)])) _
      refine st226 _ ?_
      show Steps p.tables e below (T226.setTop (mkF m 168 #[.val (.int p0), .val (.int p1), .val (.int p2), .val (.int (2 : Int32)), .val (.ref b149), .val (.ref b153)] [(.int (1 : Int32))])) _
      refine XS.ifNo X226.here hx rfl (hb hby at_168) rfl (Jvm.Free.XT.i0_eq_f (by decide)) ?_
      show Steps p.tables e below (T226.setTop (mkF m 171 #[.val (.int p0), .val (.int p1), .val (.int p2), .val (.int (2 : Int32)), .val (.ref b149), .val (.ref b153)] [])) _
      refine XS.aload X226.here hx rfl (hb hby at_171) rfl rfl ?_
      show Steps p.tables e below (T226.setTop (mkF m 173 #[.val (.int p0), .val (.int p1), .val (.int p2), .val (.int (2 : Int32)), .val (.ref b149), .val (.ref b153)] [(.ref b153)])) _
      refine st228 _ ?_
      show Steps p.tables e below (T228.setTop (mkF m 176 #[.val (.int p0), .val (.int p1), .val (.int p2), .val (.int (2 : Int32)), .val (.ref b149), .val (.ref b153)] [(.ref rb155_b2)])) _
      refine XS.iloadN X228.here hx rfl (hb hby at_176) rfl ?_
      show Steps p.tables e below (T228.setTop (mkF m 177 #[.val (.int p0), .val (.int p1), .val (.int p2), .val (.int (2 : Int32)), .val (.ref b149), .val (.ref b153)] [(.int (2 : Int32)), (.ref rb155_b2)])) _
      refine XS.iconst X228.here hx rfl (hb hby at_177) ?_
      show Steps p.tables e below (T228.setTop (mkF m 178 #[.val (.int p0), .val (.int p1), .val (.int p2), .val (.int (2 : Int32)), .val (.ref b149), .val (.ref b153)] [(.int (0 : Int32)), (.int (2 : Int32)), (.ref rb155_b2)])) _
      refine XS.iloadN X228.here hx rfl (hb hby at_178) rfl ?_
      show Steps p.tables e below (T228.setTop (mkF m 179 #[.val (.int p0), .val (.int p1), .val (.int p2), .val (.int (2 : Int32)), .val (.ref b149), .val (.ref b153)] [(.int p2), (.int (0 : Int32)), (.int (2 : Int32)), (.ref rb155_b2)])) _
      refine st230 _ ?_
      show Steps p.tables e below (T230.setTop (mkF m 182 #[.val (.int p0), .val (.int p1), .val (.int p2), .val (.int (2 : Int32)), .val (.ref b149), .val (.ref b153)] [(.int (1 : Int32))])) _
      refine XS.ifNo X230.here hx rfl (hb hby at_182) rfl (Jvm.Free.XT.i0_eq_f (by decide)) ?_
      show Steps p.tables e below (T230.setTop (mkF m 185 #[.val (.int p0), .val (.int p1), .val (.int p2), .val (.int (2 : Int32)), .val (.ref b149), .val (.ref b153)] [])) _
      refine XS.aload X230.here hx rfl (hb hby at_185) rfl rfl ?_
      show Steps p.tables e below (T230.setTop (mkF m 187 #[.val (.int p0), .val (.int p1), .val (.int p2), .val (.int (2 : Int32)), .val (.ref b149), .val (.ref b153)] [(.ref b153)])) _
      refine st232 _ ?_
      show Steps p.tables e below (T232.setTop (mkF m 190 #[.val (.int p0), .val (.int p1), .val (.int p2), .val (.int (2 : Int32)), .val (.ref b149), .val (.ref b153)] [(.ref rb155_b8)])) _
      refine XS.iloadN X232.here hx rfl (hb hby at_190) rfl ?_
      show Steps p.tables e below (T232.setTop (mkF m 191 #[.val (.int p0), .val (.int p1), .val (.int p2), .val (.int (2 : Int32)), .val (.ref b149), .val (.ref b153)] [(.int (2 : Int32)), (.ref rb155_b8)])) _
      refine XS.iconst X232.here hx rfl (hb hby at_191) ?_
      show Steps p.tables e below (T232.setTop (mkF m 192 #[.val (.int p0), .val (.int p1), .val (.int p2), .val (.int (2 : Int32)), .val (.ref b149), .val (.ref b153)] [(.int (1 : Int32)), (.int (2 : Int32)), (.ref rb155_b8)])) _
      refine XS.iloadN X232.here hx rfl (hb hby at_192) rfl ?_
      show Steps p.tables e below (T232.setTop (mkF m 193 #[.val (.int p0), .val (.int p1), .val (.int p2), .val (.int (2 : Int32)), .val (.ref b149), .val (.ref b153)] [(.int p2), (.int (1 : Int32)), (.int (2 : Int32)), (.ref rb155_b8)])) _
      refine st234 _ ?_
      show Steps p.tables e below (T234.setTop (mkF m 196 #[.val (.int p0), .val (.int p1), .val (.int p2), .val (.int (2 : Int32)), .val (.ref b149), .val (.ref b153)] [(.int (1 : Int32))])) _
      refine XS.ifNo X234.here hx rfl (hb hby at_196) rfl (Jvm.Free.XT.i0_eq_f (by decide)) ?_
      show Steps p.tables e below (T234.setTop (mkF m 199 #[.val (.int p0), .val (.int p1), .val (.int p2), .val (.int (2 : Int32)), .val (.ref b149), .val (.ref b153)] [])) _
      refine XS.aload X234.here hx rfl (hb hby at_199) rfl rfl ?_
      show Steps p.tables e below (T234.setTop (mkF m 201 #[.val (.int p0), .val (.int p1), .val (.int p2), .val (.int (2 : Int32)), .val (.ref b149), .val (.ref b153)] [(.ref b153)])) _
      refine st236 _ ?_
      show Steps p.tables e below (T236.setTop (mkF m 204 #[.val (.int p0), .val (.int p1), .val (.int p2), .val (.int (2 : Int32)), .val (.ref b149), .val (.ref b153)] [(.ref rb155_b14)])) _
      refine XS.iloadN X236.here hx rfl (hb hby at_204) rfl ?_
      show Steps p.tables e below (T236.setTop (mkF m 205 #[.val (.int p0), .val (.int p1), .val (.int p2), .val (.int (2 : Int32)), .val (.ref b149), .val (.ref b153)] [(.int (2 : Int32)), (.ref rb155_b14)])) _
      refine XS.iconst X236.here hx rfl (hb hby at_205) ?_
      show Steps p.tables e below (T236.setTop (mkF m 206 #[.val (.int p0), .val (.int p1), .val (.int p2), .val (.int (2 : Int32)), .val (.ref b149), .val (.ref b153)] [(.int (2 : Int32)), (.int (2 : Int32)), (.ref rb155_b14)])) _
      refine XS.iloadN X236.here hx rfl (hb hby at_206) rfl ?_
      show Steps p.tables e below (T236.setTop (mkF m 207 #[.val (.int p0), .val (.int p1), .val (.int p2), .val (.int (2 : Int32)), .val (.ref b149), .val (.ref b153)] [(.int p2), (.int (2 : Int32)), (.int (2 : Int32)), (.ref rb155_b14)])) _
      refine st238 _ ?_
      show Steps p.tables e below (T238.setTop (mkF m 210 #[.val (.int p0), .val (.int p1), .val (.int p2), .val (.int (2 : Int32)), .val (.ref b149), .val (.ref b153)] [(.int (1 : Int32))])) _
      refine XS.ifNo X238.here hx rfl (hb hby at_210) rfl (Jvm.Free.XT.i0_eq_f (by decide)) ?_
      show Steps p.tables e below (T238.setTop (mkF m 213 #[.val (.int p0), .val (.int p1), .val (.int p2), .val (.int (2 : Int32)), .val (.ref b149), .val (.ref b153)] [])) _
      refine XS.aload X238.here hx rfl (hb hby at_213) rfl rfl ?_
      show Steps p.tables e below (T238.setTop (mkF m 215 #[.val (.int p0), .val (.int p1), .val (.int p2), .val (.int (2 : Int32)), .val (.ref b149), .val (.ref b153)] [(.ref b153)])) _
      refine st240 _ ?_
      show Steps p.tables e below (T240.setTop (mkF m 218 #[.val (.int p0), .val (.int p1), .val (.int p2), .val (.int (2 : Int32)), .val (.ref b149), .val (.ref b153)] [(.ref rb155_b20)])) _
      refine XS.iloadN X240.here hx rfl (hb hby at_218) rfl ?_
      show Steps p.tables e below (T240.setTop (mkF m 219 #[.val (.int p0), .val (.int p1), .val (.int p2), .val (.int (2 : Int32)), .val (.ref b149), .val (.ref b153)] [(.int (2 : Int32)), (.ref rb155_b20)])) _
      refine XS.iconst X240.here hx rfl (hb hby at_219) ?_
      show Steps p.tables e below (T240.setTop (mkF m 220 #[.val (.int p0), .val (.int p1), .val (.int p2), .val (.int (2 : Int32)), .val (.ref b149), .val (.ref b153)] [(.int (3 : Int32)), (.int (2 : Int32)), (.ref rb155_b20)])) _
      refine XS.iloadN X240.here hx rfl (hb hby at_220) rfl ?_
      show Steps p.tables e below (T240.setTop (mkF m 221 #[.val (.int p0), .val (.int p1), .val (.int p2), .val (.int (2 : Int32)), .val (.ref b149), .val (.ref b153)] [(.int p2), (.int (3 : Int32)), (.int (2 : Int32)), (.ref rb155_b20)])) _
      refine st242 _ ?_
      show Steps p.tables e below (T242.setTop (mkF m 224 #[.val (.int p0), .val (.int p1), .val (.int p2), .val (.int (2 : Int32)), .val (.ref b149), .val (.ref b153)] [(.int (1 : Int32))])) _
      refine XS.ifNo X242.here hx rfl (hb hby at_224) rfl (Jvm.Free.XT.i0_eq_f (by decide)) ?_
      show Steps p.tables e below (T242.setTop (mkF m 227 #[.val (.int p0), .val (.int p1), .val (.int p2), .val (.int (2 : Int32)), .val (.ref b149), .val (.ref b153)] [])) _
      refine XS.iconst X242.here hx rfl (hb hby at_227) ?_
      show Steps p.tables e below (T242.setTop (mkF m 228 #[.val (.int p0), .val (.int p1), .val (.int p2), .val (.int (2 : Int32)), .val (.ref b149), .val (.ref b153)] [(.int (1 : Int32))])) _
      refine XS.goto X242.here hx rfl (pc0 := 228) (pc' := 232) rfl (hb hby at_228) (by decide) (by decide) ?_
      exact k
    obtain ⟨fs, hr, hrun, hended, hW, hsame⟩ := X242.leave (v := some (.int (1 : Int32))) (fun h => by rw [Bd.returns] at h; cases h)
    refine ⟨_, _, c243 _ ?_, hrun, hended, _, _, rfl, ?_, ⟨_, rfl⟩, hW, hsame.mono (by decide) (by decide)⟩
    · show Steps p.tables e below (T242.setTop (mkF m 232 #[.val (.int p0), .val (.int p1), .val (.int p2), .val (.int (2 : Int32)), .val (.ref b149), .val (.ref b153)] [(.int (1 : Int32))])) _
      exact retOut X242 hx Bd.returns rfl (Or.inl ⟨rfl, by simp, _, rfl⟩) (hb hby at_232) hr
    · show Q0 n0 _ T242.heap _
      rw [e242]
      exact ⟨rfl, by first | assumption | exact N0⟩
  · obtain rfl := q2
    obtain ⟨c31_c10_z4, hc31_c10_z4⟩ : ∃ z : Int32, (16 : Int32) * (0 : Int32) = z := ⟨_, rfl⟩
    obtain ⟨c31_c10_z5, hc31_c10_z5⟩ : ∃ z : Int32, p1 + c31_c10_z4 = z := ⟨_, rfl⟩
    obtain ⟨c31_c10_z7, hc31_c10_z7⟩ : ∃ z : Int32, c31_c10_z5 + (0 : Int32) = z := ⟨_, rfl⟩
    obtain ⟨c31_c10_z8, hc31_c10_z8⟩ : ∃ z : UInt64, FP.i2d c31_c10_z7 = z := ⟨_, rfl⟩
    obtain ⟨c31_c25_z4, hc31_c25_z4⟩ : ∃ z : Int32, (16 : Int32) * (0 : Int32) = z := ⟨_, rfl⟩
    obtain ⟨c31_c25_z5, hc31_c25_z5⟩ : ∃ z : Int32, p1 + c31_c25_z4 = z := ⟨_, rfl⟩
    obtain ⟨c31_c25_z7, hc31_c25_z7⟩ : ∃ z : Int32, c31_c25_z5 + (1 : Int32) = z := ⟨_, rfl⟩
    obtain ⟨c31_c25_z8, hc31_c25_z8⟩ : ∃ z : UInt64, FP.i2d c31_c25_z7 = z := ⟨_, rfl⟩
    obtain ⟨c31_c40_z4, hc31_c40_z4⟩ : ∃ z : Int32, (16 : Int32) * (0 : Int32) = z := ⟨_, rfl⟩
    obtain ⟨c31_c40_z5, hc31_c40_z5⟩ : ∃ z : Int32, p1 + c31_c40_z4 = z := ⟨_, rfl⟩
    obtain ⟨c31_c40_z7, hc31_c40_z7⟩ : ∃ z : Int32, c31_c40_z5 + (2 : Int32) = z := ⟨_, rfl⟩
    obtain ⟨c31_c40_z8, hc31_c40_z8⟩ : ∃ z : UInt64, FP.i2d c31_c40_z7 = z := ⟨_, rfl⟩
    obtain ⟨c41_c10_z4, hc41_c10_z4⟩ : ∃ z : Int32, (16 : Int32) * (1 : Int32) = z := ⟨_, rfl⟩
    obtain ⟨c41_c10_z5, hc41_c10_z5⟩ : ∃ z : Int32, p1 + c41_c10_z4 = z := ⟨_, rfl⟩
    obtain ⟨c41_c10_z7, hc41_c10_z7⟩ : ∃ z : Int32, c41_c10_z5 + (0 : Int32) = z := ⟨_, rfl⟩
    obtain ⟨c41_c10_z8, hc41_c10_z8⟩ : ∃ z : UInt64, FP.i2d c41_c10_z7 = z := ⟨_, rfl⟩
    obtain ⟨c41_c25_z4, hc41_c25_z4⟩ : ∃ z : Int32, (16 : Int32) * (1 : Int32) = z := ⟨_, rfl⟩
    obtain ⟨c41_c25_z5, hc41_c25_z5⟩ : ∃ z : Int32, p1 + c41_c25_z4 = z := ⟨_, rfl⟩
    obtain ⟨c41_c25_z7, hc41_c25_z7⟩ : ∃ z : Int32, c41_c25_z5 + (1 : Int32) = z := ⟨_, rfl⟩
    obtain ⟨c41_c25_z8, hc41_c25_z8⟩ : ∃ z : UInt64, FP.i2d c41_c25_z7 = z := ⟨_, rfl⟩
    obtain ⟨c41_c40_z4, hc41_c40_z4⟩ : ∃ z : Int32, (16 : Int32) * (1 : Int32) = z := ⟨_, rfl⟩
    obtain ⟨c41_c40_z5, hc41_c40_z5⟩ : ∃ z : Int32, p1 + c41_c40_z4 = z := ⟨_, rfl⟩
    obtain ⟨c41_c40_z7, hc41_c40_z7⟩ : ∃ z : Int32, c41_c40_z5 + (2 : Int32) = z := ⟨_, rfl⟩
    obtain ⟨c41_c40_z8, hc41_c40_z8⟩ : ∃ z : UInt64, FP.i2d c41_c40_z7 = z := ⟨_, rfl⟩
    obtain ⟨c51_c10_z4, hc51_c10_z4⟩ : ∃ z : Int32, (16 : Int32) * (2 : Int32) = z := ⟨_, rfl⟩
    obtain ⟨c51_c10_z5, hc51_c10_z5⟩ : ∃ z : Int32, p1 + c51_c10_z4 = z := ⟨_, rfl⟩
    obtain ⟨c51_c10_z7, hc51_c10_z7⟩ : ∃ z : Int32, c51_c10_z5 + (0 : Int32) = z := ⟨_, rfl⟩
    obtain ⟨c51_c10_z8, hc51_c10_z8⟩ : ∃ z : UInt64, FP.i2d c51_c10_z7 = z := ⟨_, rfl⟩
    obtain ⟨c51_c25_z4, hc51_c25_z4⟩ : ∃ z : Int32, (16 : Int32) * (2 : Int32) = z := ⟨_, rfl⟩
    obtain ⟨c51_c25_z5, hc51_c25_z5⟩ : ∃ z : Int32, p1 + c51_c25_z4 = z := ⟨_, rfl⟩
    obtain ⟨c51_c25_z7, hc51_c25_z7⟩ : ∃ z : Int32, c51_c25_z5 + (1 : Int32) = z := ⟨_, rfl⟩
    obtain ⟨c51_c25_z8, hc51_c25_z8⟩ : ∃ z : UInt64, FP.i2d c51_c25_z7 = z := ⟨_, rfl⟩
    obtain ⟨c51_c40_z4, hc51_c40_z4⟩ : ∃ z : Int32, (16 : Int32) * (2 : Int32) = z := ⟨_, rfl⟩
    obtain ⟨c51_c40_z5, hc51_c40_z5⟩ : ∃ z : Int32, p1 + c51_c40_z4 = z := ⟨_, rfl⟩
    obtain ⟨c51_c40_z7, hc51_c40_z7⟩ : ∃ z : Int32, c51_c40_z5 + (2 : Int32) = z := ⟨_, rfl⟩
    obtain ⟨c51_c40_z8, hc51_c40_z8⟩ : ∃ z : UInt64, FP.i2d c51_c40_z7 = z := ⟨_, rfl⟩
    obtain ⟨c61_c10_z4, hc61_c10_z4⟩ : ∃ z : Int32, (16 : Int32) * (3 : Int32) = z := ⟨_, rfl⟩
    obtain ⟨c61_c10_z5, hc61_c10_z5⟩ : ∃ z : Int32, p1 + c61_c10_z4 = z := ⟨_, rfl⟩
    obtain ⟨c61_c10_z7, hc61_c10_z7⟩ : ∃ z : Int32, c61_c10_z5 + (0 : Int32) = z := ⟨_, rfl⟩
    obtain ⟨c61_c10_z8, hc61_c10_z8⟩ : ∃ z : UInt64, FP.i2d c61_c10_z7 = z := ⟨_, rfl⟩
    obtain ⟨c61_c25_z4, hc61_c25_z4⟩ : ∃ z : Int32, (16 : Int32) * (3 : Int32) = z := ⟨_, rfl⟩
    obtain ⟨c61_c25_z5, hc61_c25_z5⟩ : ∃ z : Int32, p1 + c61_c25_z4 = z := ⟨_, rfl⟩
    obtain ⟨c61_c25_z7, hc61_c25_z7⟩ : ∃ z : Int32, c61_c25_z5 + (1 : Int32) = z := ⟨_, rfl⟩
    obtain ⟨c61_c25_z8, hc61_c25_z8⟩ : ∃ z : UInt64, FP.i2d c61_c25_z7 = z := ⟨_, rfl⟩
    obtain ⟨c61_c40_z4, hc61_c40_z4⟩ : ∃ z : Int32, (16 : Int32) * (3 : Int32) = z := ⟨_, rfl⟩
    obtain ⟨c61_c40_z5, hc61_c40_z5⟩ : ∃ z : Int32, p1 + c61_c40_z4 = z := ⟨_, rfl⟩
    obtain ⟨c61_c40_z7, hc61_c40_z7⟩ : ∃ z : Int32, c61_c40_z5 + (2 : Int32) = z := ⟨_, rfl⟩
    obtain ⟨c61_c40_z8, hc61_c40_z8⟩ : ∃ z : UInt64, FP.i2d c61_c40_z7 = z := ⟨_, rfl⟩
    obtain ⟨c71_c10_z4, hc71_c10_z4⟩ : ∃ z : Int32, (16 : Int32) * (0 : Int32) = z := ⟨_, rfl⟩
    obtain ⟨c71_c10_z5, hc71_c10_z5⟩ : ∃ z : Int32, p2 + c71_c10_z4 = z := ⟨_, rfl⟩
    obtain ⟨c71_c10_z7, hc71_c10_z7⟩ : ∃ z : Int32, c71_c10_z5 + (0 : Int32) = z := ⟨_, rfl⟩
    obtain ⟨c71_c10_z8, hc71_c10_z8⟩ : ∃ z : UInt64, FP.i2d c71_c10_z7 = z := ⟨_, rfl⟩
    obtain ⟨c71_c25_z4, hc71_c25_z4⟩ : ∃ z : Int32, (16 : Int32) * (0 : Int32) = z := ⟨_, rfl⟩
    obtain ⟨c71_c25_z5, hc71_c25_z5⟩ : ∃ z : Int32, p2 + c71_c25_z4 = z := ⟨_, rfl⟩
    obtain ⟨c71_c25_z7, hc71_c25_z7⟩ : ∃ z : Int32, c71_c25_z5 + (1 : Int32) = z := ⟨_, rfl⟩
    obtain ⟨c71_c25_z8, hc71_c25_z8⟩ : ∃ z : UInt64, FP.i2d c71_c25_z7 = z := ⟨_, rfl⟩
    obtain ⟨c71_c40_z4, hc71_c40_z4⟩ : ∃ z : Int32, (16 : Int32) * (0 : Int32) = z := ⟨_, rfl⟩
    obtain ⟨c71_c40_z5, hc71_c40_z5⟩ : ∃ z : Int32, p2 + c71_c40_z4 = z := ⟨_, rfl⟩
    obtain ⟨c71_c40_z7, hc71_c40_z7⟩ : ∃ z : Int32, c71_c40_z5 + (2 : Int32) = z := ⟨_, rfl⟩
    obtain ⟨c71_c40_z8, hc71_c40_z8⟩ : ∃ z : UInt64, FP.i2d c71_c40_z7 = z := ⟨_, rfl⟩
    obtain ⟨c81_c10_z4, hc81_c10_z4⟩ : ∃ z : Int32, (16 : Int32) * (1 : Int32) = z := ⟨_, rfl⟩
    obtain ⟨c81_c10_z5, hc81_c10_z5⟩ : ∃ z : Int32, p2 + c81_c10_z4 = z := ⟨_, rfl⟩
    obtain ⟨c81_c10_z7, hc81_c10_z7⟩ : ∃ z : Int32, c81_c10_z5 + (0 : Int32) = z := ⟨_, rfl⟩
    obtain ⟨c81_c10_z8, hc81_c10_z8⟩ : ∃ z : UInt64, FP.i2d c81_c10_z7 = z := ⟨_, rfl⟩
    obtain ⟨c81_c25_z4, hc81_c25_z4⟩ : ∃ z : Int32, (16 : Int32) * (1 : Int32) = z := ⟨_, rfl⟩
    obtain ⟨c81_c25_z5, hc81_c25_z5⟩ : ∃ z : Int32, p2 + c81_c25_z4 = z := ⟨_, rfl⟩
    obtain ⟨c81_c25_z7, hc81_c25_z7⟩ : ∃ z : Int32, c81_c25_z5 + (1 : Int32) = z := ⟨_, rfl⟩
    obtain ⟨c81_c25_z8, hc81_c25_z8⟩ : ∃ z : UInt64, FP.i2d c81_c25_z7 = z := ⟨_, rfl⟩
    obtain ⟨c81_c40_z4, hc81_c40_z4⟩ : ∃ z : Int32, (16 : Int32) * (1 : Int32) = z := ⟨_, rfl⟩
    obtain ⟨c81_c40_z5, hc81_c40_z5⟩ : ∃ z : Int32, p2 + c81_c40_z4 = z := ⟨_, rfl⟩
    obtain ⟨c81_c40_z7, hc81_c40_z7⟩ : ∃ z : Int32, c81_c40_z5 + (2 : Int32) = z := ⟨_, rfl⟩
    obtain ⟨c81_c40_z8, hc81_c40_z8⟩ : ∃ z : UInt64, FP.i2d c81_c40_z7 = z := ⟨_, rfl⟩
    obtain ⟨c91_c10_z4, hc91_c10_z4⟩ : ∃ z : Int32, (16 : Int32) * (2 : Int32) = z := ⟨_, rfl⟩
    obtain ⟨c91_c10_z5, hc91_c10_z5⟩ : ∃ z : Int32, p2 + c91_c10_z4 = z := ⟨_, rfl⟩
    obtain ⟨c91_c10_z7, hc91_c10_z7⟩ : ∃ z : Int32, c91_c10_z5 + (0 : Int32) = z := ⟨_, rfl⟩
    obtain ⟨c91_c10_z8, hc91_c10_z8⟩ : ∃ z : UInt64, FP.i2d c91_c10_z7 = z := ⟨_, rfl⟩
    obtain ⟨c91_c25_z4, hc91_c25_z4⟩ : ∃ z : Int32, (16 : Int32) * (2 : Int32) = z := ⟨_, rfl⟩
    obtain ⟨c91_c25_z5, hc91_c25_z5⟩ : ∃ z : Int32, p2 + c91_c25_z4 = z := ⟨_, rfl⟩
    obtain ⟨c91_c25_z7, hc91_c25_z7⟩ : ∃ z : Int32, c91_c25_z5 + (1 : Int32) = z := ⟨_, rfl⟩
    obtain ⟨c91_c25_z8, hc91_c25_z8⟩ : ∃ z : UInt64, FP.i2d c91_c25_z7 = z := ⟨_, rfl⟩
    obtain ⟨c91_c40_z4, hc91_c40_z4⟩ : ∃ z : Int32, (16 : Int32) * (2 : Int32) = z := ⟨_, rfl⟩
    obtain ⟨c91_c40_z5, hc91_c40_z5⟩ : ∃ z : Int32, p2 + c91_c40_z4 = z := ⟨_, rfl⟩
    obtain ⟨c91_c40_z7, hc91_c40_z7⟩ : ∃ z : Int32, c91_c40_z5 + (2 : Int32) = z := ⟨_, rfl⟩
    obtain ⟨c91_c40_z8, hc91_c40_z8⟩ : ∃ z : UInt64, FP.i2d c91_c40_z7 = z := ⟨_, rfl⟩
    obtain ⟨c101_c10_z4, hc101_c10_z4⟩ : ∃ z : Int32, (16 : Int32) * (3 : Int32) = z := ⟨_, rfl⟩
    obtain ⟨c101_c10_z5, hc101_c10_z5⟩ : ∃ z : Int32, p2 + c101_c10_z4 = z := ⟨_, rfl⟩
    obtain ⟨c101_c10_z7, hc101_c10_z7⟩ : ∃ z : Int32, c101_c10_z5 + (0 : Int32) = z := ⟨_, rfl⟩
    obtain ⟨c101_c10_z8, hc101_c10_z8⟩ : ∃ z : UInt64, FP.i2d c101_c10_z7 = z := ⟨_, rfl⟩
    obtain ⟨c101_c25_z4, hc101_c25_z4⟩ : ∃ z : Int32, (16 : Int32) * (3 : Int32) = z := ⟨_, rfl⟩
    obtain ⟨c101_c25_z5, hc101_c25_z5⟩ : ∃ z : Int32, p2 + c101_c25_z4 = z := ⟨_, rfl⟩
    obtain ⟨c101_c25_z7, hc101_c25_z7⟩ : ∃ z : Int32, c101_c25_z5 + (1 : Int32) = z := ⟨_, rfl⟩
    obtain ⟨c101_c25_z8, hc101_c25_z8⟩ : ∃ z : UInt64, FP.i2d c101_c25_z7 = z := ⟨_, rfl⟩
    obtain ⟨c101_c40_z4, hc101_c40_z4⟩ : ∃ z : Int32, (16 : Int32) * (3 : Int32) = z := ⟨_, rfl⟩
    obtain ⟨c101_c40_z5, hc101_c40_z5⟩ : ∃ z : Int32, p2 + c101_c40_z4 = z := ⟨_, rfl⟩
    obtain ⟨c101_c40_z7, hc101_c40_z7⟩ : ∃ z : Int32, c101_c40_z5 + (2 : Int32) = z := ⟨_, rfl⟩
    obtain ⟨c101_c40_z8, hc101_c40_z8⟩ : ∃ z : UInt64, FP.i2d c101_c40_z7 = z := ⟨_, rfl⟩
    obtain ⟨c108_z24, hc108_z24⟩ : ∃ z : UInt64, FP.dadd c31_c10_z8 c71_c10_z8 = z := ⟨_, rfl⟩
    obtain ⟨c108_z39, hc108_z39⟩ : ∃ z : UInt64, FP.dadd c41_c10_z8 c81_c10_z8 = z := ⟨_, rfl⟩
    obtain ⟨c108_z54, hc108_z54⟩ : ∃ z : UInt64, FP.dadd c51_c10_z8 c91_c10_z8 = z := ⟨_, rfl⟩
    obtain ⟨c108_z69, hc108_z69⟩ : ∃ z : UInt64, FP.dadd c61_c10_z8 c101_c10_z8 = z := ⟨_, rfl⟩
    obtain ⟨c108_z24_2, hc108_z24_2⟩ : ∃ z : UInt64, FP.dadd c31_c25_z8 c71_c25_z8 = z := ⟨_, rfl⟩
    obtain ⟨c108_z39_2, hc108_z39_2⟩ : ∃ z : UInt64, FP.dadd c41_c25_z8 c81_c25_z8 = z := ⟨_, rfl⟩
    obtain ⟨c108_z54_2, hc108_z54_2⟩ : ∃ z : UInt64, FP.dadd c51_c25_z8 c91_c25_z8 = z := ⟨_, rfl⟩
    obtain ⟨c108_z69_2, hc108_z69_2⟩ : ∃ z : UInt64, FP.dadd c61_c25_z8 c101_c25_z8 = z := ⟨_, rfl⟩
    obtain ⟨c108_z24_3, hc108_z24_3⟩ : ∃ z : UInt64, FP.dadd c31_c40_z8 c71_c40_z8 = z := ⟨_, rfl⟩
    obtain ⟨c108_z39_3, hc108_z39_3⟩ : ∃ z : UInt64, FP.dadd c41_c40_z8 c81_c40_z8 = z := ⟨_, rfl⟩
    obtain ⟨c108_z54_3, hc108_z54_3⟩ : ∃ z : UInt64, FP.dadd c51_c40_z8 c91_c40_z8 = z := ⟨_, rfl⟩
    obtain ⟨c108_z69_3, hc108_z69_3⟩ : ∃ z : UInt64, FP.dadd c61_c40_z8 c101_c40_z8 = z := ⟨_, rfl⟩
    obtain ⟨c120_c17_z4, hc120_c17_z4⟩ : ∃ z : Int32, (16 : Int32) * (0 : Int32) = z := ⟨_, rfl⟩
    obtain ⟨c120_c17_z5, hc120_c17_z5⟩ : ∃ z : Int32, p1 + c120_c17_z4 = z := ⟨_, rfl⟩
    obtain ⟨c120_c17_z7, hc120_c17_z7⟩ : ∃ z : Int32, c120_c17_z5 + (0 : Int32) = z := ⟨_, rfl⟩
    obtain ⟨c120_c17_z8, hc120_c17_z8⟩ : ∃ z : UInt64, FP.i2d c120_c17_z7 = z := ⟨_, rfl⟩
    obtain ⟨c120_c24_z4, hc120_c24_z4⟩ : ∃ z : Int32, (16 : Int32) * (0 : Int32) = z := ⟨_, rfl⟩
    obtain ⟨c120_c24_z5, hc120_c24_z5⟩ : ∃ z : Int32, p2 + c120_c24_z4 = z := ⟨_, rfl⟩
    obtain ⟨c120_c24_z7, hc120_c24_z7⟩ : ∃ z : Int32, c120_c24_z5 + (0 : Int32) = z := ⟨_, rfl⟩
    obtain ⟨c120_c24_z8, hc120_c24_z8⟩ : ∃ z : UInt64, FP.i2d c120_c24_z7 = z := ⟨_, rfl⟩
    obtain ⟨c120_z27, hc120_z27⟩ : ∃ z : UInt64, FP.dadd c120_c17_z8 c120_c24_z8 = z := ⟨_, rfl⟩
    obtain ⟨c120_z28, hc120_z28⟩ : ∃ z : Int32, cmpValue (FP.dcmp c108_z24 c120_z27) .l = z := ⟨_, rfl⟩
    obtain ⟨c120_c43_z4, hc120_c43_z4⟩ : ∃ z : Int32, (16 : Int32) * (0 : Int32) = z := ⟨_, rfl⟩
    obtain ⟨c120_c43_z5, hc120_c43_z5⟩ : ∃ z : Int32, p1 + c120_c43_z4 = z := ⟨_, rfl⟩
    obtain ⟨c120_c43_z7, hc120_c43_z7⟩ : ∃ z : Int32, c120_c43_z5 + (1 : Int32) = z := ⟨_, rfl⟩
    obtain ⟨c120_c43_z8, hc120_c43_z8⟩ : ∃ z : UInt64, FP.i2d c120_c43_z7 = z := ⟨_, rfl⟩
    obtain ⟨c120_c50_z4, hc120_c50_z4⟩ : ∃ z : Int32, (16 : Int32) * (0 : Int32) = z := ⟨_, rfl⟩
    obtain ⟨c120_c50_z5, hc120_c50_z5⟩ : ∃ z : Int32, p2 + c120_c50_z4 = z := ⟨_, rfl⟩
    obtain ⟨c120_c50_z7, hc120_c50_z7⟩ : ∃ z : Int32, c120_c50_z5 + (1 : Int32) = z := ⟨_, rfl⟩
    obtain ⟨c120_c50_z8, hc120_c50_z8⟩ : ∃ z : UInt64, FP.i2d c120_c50_z7 = z := ⟨_, rfl⟩
    obtain ⟨c120_z53, hc120_z53⟩ : ∃ z : UInt64, FP.dadd c120_c43_z8 c120_c50_z8 = z := ⟨_, rfl⟩
    obtain ⟨c120_z54, hc120_z54⟩ : ∃ z : Int32, cmpValue (FP.dcmp c108_z24_2 c120_z53) .l = z := ⟨_, rfl⟩
    obtain ⟨c120_c69_z4, hc120_c69_z4⟩ : ∃ z : Int32, (16 : Int32) * (0 : Int32) = z := ⟨_, rfl⟩
    obtain ⟨c120_c69_z5, hc120_c69_z5⟩ : ∃ z : Int32, p1 + c120_c69_z4 = z := ⟨_, rfl⟩
    obtain ⟨c120_c69_z7, hc120_c69_z7⟩ : ∃ z : Int32, c120_c69_z5 + (2 : Int32) = z := ⟨_, rfl⟩
    obtain ⟨c120_c69_z8, hc120_c69_z8⟩ : ∃ z : UInt64, FP.i2d c120_c69_z7 = z := ⟨_, rfl⟩
    obtain ⟨c120_c76_z4, hc120_c76_z4⟩ : ∃ z : Int32, (16 : Int32) * (0 : Int32) = z := ⟨_, rfl⟩
    obtain ⟨c120_c76_z5, hc120_c76_z5⟩ : ∃ z : Int32, p2 + c120_c76_z4 = z := ⟨_, rfl⟩
    obtain ⟨c120_c76_z7, hc120_c76_z7⟩ : ∃ z : Int32, c120_c76_z5 + (2 : Int32) = z := ⟨_, rfl⟩
    obtain ⟨c120_c76_z8, hc120_c76_z8⟩ : ∃ z : UInt64, FP.i2d c120_c76_z7 = z := ⟨_, rfl⟩
    obtain ⟨c120_z79, hc120_z79⟩ : ∃ z : UInt64, FP.dadd c120_c69_z8 c120_c76_z8 = z := ⟨_, rfl⟩
    obtain ⟨c120_z80, hc120_z80⟩ : ∃ z : Int32, cmpValue (FP.dcmp c108_z24_3 c120_z79) .l = z := ⟨_, rfl⟩
    obtain ⟨c135_c17_z4, hc135_c17_z4⟩ : ∃ z : Int32, (16 : Int32) * (1 : Int32) = z := ⟨_, rfl⟩
    obtain ⟨c135_c17_z5, hc135_c17_z5⟩ : ∃ z : Int32, p1 + c135_c17_z4 = z := ⟨_, rfl⟩
    obtain ⟨c135_c17_z7, hc135_c17_z7⟩ : ∃ z : Int32, c135_c17_z5 + (0 : Int32) = z := ⟨_, rfl⟩
    obtain ⟨c135_c17_z8, hc135_c17_z8⟩ : ∃ z : UInt64, FP.i2d c135_c17_z7 = z := ⟨_, rfl⟩
    obtain ⟨c135_c24_z4, hc135_c24_z4⟩ : ∃ z : Int32, (16 : Int32) * (1 : Int32) = z := ⟨_, rfl⟩
    obtain ⟨c135_c24_z5, hc135_c24_z5⟩ : ∃ z : Int32, p2 + c135_c24_z4 = z := ⟨_, rfl⟩
    obtain ⟨c135_c24_z7, hc135_c24_z7⟩ : ∃ z : Int32, c135_c24_z5 + (0 : Int32) = z := ⟨_, rfl⟩
    obtain ⟨c135_c24_z8, hc135_c24_z8⟩ : ∃ z : UInt64, FP.i2d c135_c24_z7 = z := ⟨_, rfl⟩
    obtain ⟨c135_z27, hc135_z27⟩ : ∃ z : UInt64, FP.dadd c135_c17_z8 c135_c24_z8 = z := ⟨_, rfl⟩
    obtain ⟨c135_z28, hc135_z28⟩ : ∃ z : Int32, cmpValue (FP.dcmp c108_z39 c135_z27) .l = z := ⟨_, rfl⟩
    obtain ⟨c135_c43_z4, hc135_c43_z4⟩ : ∃ z : Int32, (16 : Int32) * (1 : Int32) = z := ⟨_, rfl⟩
    obtain ⟨c135_c43_z5, hc135_c43_z5⟩ : ∃ z : Int32, p1 + c135_c43_z4 = z := ⟨_, rfl⟩
    obtain ⟨c135_c43_z7, hc135_c43_z7⟩ : ∃ z : Int32, c135_c43_z5 + (1 : Int32) = z := ⟨_, rfl⟩
    obtain ⟨c135_c43_z8, hc135_c43_z8⟩ : ∃ z : UInt64, FP.i2d c135_c43_z7 = z := ⟨_, rfl⟩
    obtain ⟨c135_c50_z4, hc135_c50_z4⟩ : ∃ z : Int32, (16 : Int32) * (1 : Int32) = z := ⟨_, rfl⟩
    obtain ⟨c135_c50_z5, hc135_c50_z5⟩ : ∃ z : Int32, p2 + c135_c50_z4 = z := ⟨_, rfl⟩
    obtain ⟨c135_c50_z7, hc135_c50_z7⟩ : ∃ z : Int32, c135_c50_z5 + (1 : Int32) = z := ⟨_, rfl⟩
    obtain ⟨c135_c50_z8, hc135_c50_z8⟩ : ∃ z : UInt64, FP.i2d c135_c50_z7 = z := ⟨_, rfl⟩
    obtain ⟨c135_z53, hc135_z53⟩ : ∃ z : UInt64, FP.dadd c135_c43_z8 c135_c50_z8 = z := ⟨_, rfl⟩
    obtain ⟨c135_z54, hc135_z54⟩ : ∃ z : Int32, cmpValue (FP.dcmp c108_z39_2 c135_z53) .l = z := ⟨_, rfl⟩
    obtain ⟨c135_c69_z4, hc135_c69_z4⟩ : ∃ z : Int32, (16 : Int32) * (1 : Int32) = z := ⟨_, rfl⟩
    obtain ⟨c135_c69_z5, hc135_c69_z5⟩ : ∃ z : Int32, p1 + c135_c69_z4 = z := ⟨_, rfl⟩
    obtain ⟨c135_c69_z7, hc135_c69_z7⟩ : ∃ z : Int32, c135_c69_z5 + (2 : Int32) = z := ⟨_, rfl⟩
    obtain ⟨c135_c69_z8, hc135_c69_z8⟩ : ∃ z : UInt64, FP.i2d c135_c69_z7 = z := ⟨_, rfl⟩
    obtain ⟨c135_c76_z4, hc135_c76_z4⟩ : ∃ z : Int32, (16 : Int32) * (1 : Int32) = z := ⟨_, rfl⟩
    obtain ⟨c135_c76_z5, hc135_c76_z5⟩ : ∃ z : Int32, p2 + c135_c76_z4 = z := ⟨_, rfl⟩
    obtain ⟨c135_c76_z7, hc135_c76_z7⟩ : ∃ z : Int32, c135_c76_z5 + (2 : Int32) = z := ⟨_, rfl⟩
    obtain ⟨c135_c76_z8, hc135_c76_z8⟩ : ∃ z : UInt64, FP.i2d c135_c76_z7 = z := ⟨_, rfl⟩
    obtain ⟨c135_z79, hc135_z79⟩ : ∃ z : UInt64, FP.dadd c135_c69_z8 c135_c76_z8 = z := ⟨_, rfl⟩
    obtain ⟨c135_z80, hc135_z80⟩ : ∃ z : Int32, cmpValue (FP.dcmp c108_z39_3 c135_z79) .l = z := ⟨_, rfl⟩
    obtain ⟨c150_c17_z4, hc150_c17_z4⟩ : ∃ z : Int32, (16 : Int32) * (2 : Int32) = z := ⟨_, rfl⟩
    obtain ⟨c150_c17_z5, hc150_c17_z5⟩ : ∃ z : Int32, p1 + c150_c17_z4 = z := ⟨_, rfl⟩
    obtain ⟨c150_c17_z7, hc150_c17_z7⟩ : ∃ z : Int32, c150_c17_z5 + (0 : Int32) = z := ⟨_, rfl⟩
    obtain ⟨c150_c17_z8, hc150_c17_z8⟩ : ∃ z : UInt64, FP.i2d c150_c17_z7 = z := ⟨_, rfl⟩
    obtain ⟨c150_c24_z4, hc150_c24_z4⟩ : ∃ z : Int32, (16 : Int32) * (2 : Int32) = z := ⟨_, rfl⟩
    obtain ⟨c150_c24_z5, hc150_c24_z5⟩ : ∃ z : Int32, p2 + c150_c24_z4 = z := ⟨_, rfl⟩
    obtain ⟨c150_c24_z7, hc150_c24_z7⟩ : ∃ z : Int32, c150_c24_z5 + (0 : Int32) = z := ⟨_, rfl⟩
    obtain ⟨c150_c24_z8, hc150_c24_z8⟩ : ∃ z : UInt64, FP.i2d c150_c24_z7 = z := ⟨_, rfl⟩
    obtain ⟨c150_z27, hc150_z27⟩ : ∃ z : UInt64, FP.dadd c150_c17_z8 c150_c24_z8 = z := ⟨_, rfl⟩
    obtain ⟨c150_z28, hc150_z28⟩ : ∃ z : Int32, cmpValue (FP.dcmp c108_z54 c150_z27) .l = z := ⟨_, rfl⟩
    obtain ⟨c150_c43_z4, hc150_c43_z4⟩ : ∃ z : Int32, (16 : Int32) * (2 : Int32) = z := ⟨_, rfl⟩
    obtain ⟨c150_c43_z5, hc150_c43_z5⟩ : ∃ z : Int32, p1 + c150_c43_z4 = z := ⟨_, rfl⟩
    obtain ⟨c150_c43_z7, hc150_c43_z7⟩ : ∃ z : Int32, c150_c43_z5 + (1 : Int32) = z := ⟨_, rfl⟩
    obtain ⟨c150_c43_z8, hc150_c43_z8⟩ : ∃ z : UInt64, FP.i2d c150_c43_z7 = z := ⟨_, rfl⟩
    obtain ⟨c150_c50_z4, hc150_c50_z4⟩ : ∃ z : Int32, (16 : Int32) * (2 : Int32) = z := ⟨_, rfl⟩
    obtain ⟨c150_c50_z5, hc150_c50_z5⟩ : ∃ z : Int32, p2 + c150_c50_z4 = z := ⟨_, rfl⟩
    obtain ⟨c150_c50_z7, hc150_c50_z7⟩ : ∃ z : Int32, c150_c50_z5 + (1 : Int32) = z := ⟨_, rfl⟩
    obtain ⟨c150_c50_z8, hc150_c50_z8⟩ : ∃ z : UInt64, FP.i2d c150_c50_z7 = z := ⟨_, rfl⟩
    obtain ⟨c150_z53, hc150_z53⟩ : ∃ z : UInt64, FP.dadd c150_c43_z8 c150_c50_z8 = z := ⟨_, rfl⟩
    obtain ⟨c150_z54, hc150_z54⟩ : ∃ z : Int32, cmpValue (FP.dcmp c108_z54_2 c150_z53) .l = z := ⟨_, rfl⟩
    obtain ⟨c150_c69_z4, hc150_c69_z4⟩ : ∃ z : Int32, (16 : Int32) * (2 : Int32) = z := ⟨_, rfl⟩
    obtain ⟨c150_c69_z5, hc150_c69_z5⟩ : ∃ z : Int32, p1 + c150_c69_z4 = z := ⟨_, rfl⟩
    obtain ⟨c150_c69_z7, hc150_c69_z7⟩ : ∃ z : Int32, c150_c69_z5 + (2 : Int32) = z := ⟨_, rfl⟩
    obtain ⟨c150_c69_z8, hc150_c69_z8⟩ : ∃ z : UInt64, FP.i2d c150_c69_z7 = z := ⟨_, rfl⟩
    obtain ⟨c150_c76_z4, hc150_c76_z4⟩ : ∃ z : Int32, (16 : Int32) * (2 : Int32) = z := ⟨_, rfl⟩
    obtain ⟨c150_c76_z5, hc150_c76_z5⟩ : ∃ z : Int32, p2 + c150_c76_z4 = z := ⟨_, rfl⟩
    obtain ⟨c150_c76_z7, hc150_c76_z7⟩ : ∃ z : Int32, c150_c76_z5 + (2 : Int32) = z := ⟨_, rfl⟩
    obtain ⟨c150_c76_z8, hc150_c76_z8⟩ : ∃ z : UInt64, FP.i2d c150_c76_z7 = z := ⟨_, rfl⟩
    obtain ⟨c150_z79, hc150_z79⟩ : ∃ z : UInt64, FP.dadd c150_c69_z8 c150_c76_z8 = z := ⟨_, rfl⟩
    obtain ⟨c150_z80, hc150_z80⟩ : ∃ z : Int32, cmpValue (FP.dcmp c108_z54_3 c150_z79) .l = z := ⟨_, rfl⟩
    obtain ⟨c165_c17_z4, hc165_c17_z4⟩ : ∃ z : Int32, (16 : Int32) * (3 : Int32) = z := ⟨_, rfl⟩
    obtain ⟨c165_c17_z5, hc165_c17_z5⟩ : ∃ z : Int32, p1 + c165_c17_z4 = z := ⟨_, rfl⟩
    obtain ⟨c165_c17_z7, hc165_c17_z7⟩ : ∃ z : Int32, c165_c17_z5 + (0 : Int32) = z := ⟨_, rfl⟩
    obtain ⟨c165_c17_z8, hc165_c17_z8⟩ : ∃ z : UInt64, FP.i2d c165_c17_z7 = z := ⟨_, rfl⟩
    obtain ⟨c165_c24_z4, hc165_c24_z4⟩ : ∃ z : Int32, (16 : Int32) * (3 : Int32) = z := ⟨_, rfl⟩
    obtain ⟨c165_c24_z5, hc165_c24_z5⟩ : ∃ z : Int32, p2 + c165_c24_z4 = z := ⟨_, rfl⟩
    obtain ⟨c165_c24_z7, hc165_c24_z7⟩ : ∃ z : Int32, c165_c24_z5 + (0 : Int32) = z := ⟨_, rfl⟩
    obtain ⟨c165_c24_z8, hc165_c24_z8⟩ : ∃ z : UInt64, FP.i2d c165_c24_z7 = z := ⟨_, rfl⟩
    obtain ⟨c165_z27, hc165_z27⟩ : ∃ z : UInt64, FP.dadd c165_c17_z8 c165_c24_z8 = z := ⟨_, rfl⟩
    obtain ⟨c165_z28, hc165_z28⟩ : ∃ z : Int32, cmpValue (FP.dcmp c108_z69 c165_z27) .l = z := ⟨_, rfl⟩
    obtain ⟨c165_c43_z4, hc165_c43_z4⟩ : ∃ z : Int32, (16 : Int32) * (3 : Int32) = z := ⟨_, rfl⟩
    obtain ⟨c165_c43_z5, hc165_c43_z5⟩ : ∃ z : Int32, p1 + c165_c43_z4 = z := ⟨_, rfl⟩
    obtain ⟨c165_c43_z7, hc165_c43_z7⟩ : ∃ z : Int32, c165_c43_z5 + (1 : Int32) = z := ⟨_, rfl⟩
    obtain ⟨c165_c43_z8, hc165_c43_z8⟩ : ∃ z : UInt64, FP.i2d c165_c43_z7 = z := ⟨_, rfl⟩
    obtain ⟨c165_c50_z4, hc165_c50_z4⟩ : ∃ z : Int32, (16 : Int32) * (3 : Int32) = z := ⟨_, rfl⟩
    obtain ⟨c165_c50_z5, hc165_c50_z5⟩ : ∃ z : Int32, p2 + c165_c50_z4 = z := ⟨_, rfl⟩
    obtain ⟨c165_c50_z7, hc165_c50_z7⟩ : ∃ z : Int32, c165_c50_z5 + (1 : Int32) = z := ⟨_, rfl⟩
    obtain ⟨c165_c50_z8, hc165_c50_z8⟩ : ∃ z : UInt64, FP.i2d c165_c50_z7 = z := ⟨_, rfl⟩
    obtain ⟨c165_z53, hc165_z53⟩ : ∃ z : UInt64, FP.dadd c165_c43_z8 c165_c50_z8 = z := ⟨_, rfl⟩
    obtain ⟨c165_z54, hc165_z54⟩ : ∃ z : Int32, cmpValue (FP.dcmp c108_z69_2 c165_z53) .l = z := ⟨_, rfl⟩
    obtain ⟨c165_c69_z4, hc165_c69_z4⟩ : ∃ z : Int32, (16 : Int32) * (3 : Int32) = z := ⟨_, rfl⟩
    obtain ⟨c165_c69_z5, hc165_c69_z5⟩ : ∃ z : Int32, p1 + c165_c69_z4 = z := ⟨_, rfl⟩
    obtain ⟨c165_c69_z7, hc165_c69_z7⟩ : ∃ z : Int32, c165_c69_z5 + (2 : Int32) = z := ⟨_, rfl⟩
    obtain ⟨c165_c69_z8, hc165_c69_z8⟩ : ∃ z : UInt64, FP.i2d c165_c69_z7 = z := ⟨_, rfl⟩
    obtain ⟨c165_c76_z4, hc165_c76_z4⟩ : ∃ z : Int32, (16 : Int32) * (3 : Int32) = z := ⟨_, rfl⟩
    obtain ⟨c165_c76_z5, hc165_c76_z5⟩ : ∃ z : Int32, p2 + c165_c76_z4 = z := ⟨_, rfl⟩
    obtain ⟨c165_c76_z7, hc165_c76_z7⟩ : ∃ z : Int32, c165_c76_z5 + (2 : Int32) = z := ⟨_, rfl⟩
    obtain ⟨c165_c76_z8, hc165_c76_z8⟩ : ∃ z : UInt64, FP.i2d c165_c76_z7 = z := ⟨_, rfl⟩
    obtain ⟨c165_z79, hc165_z79⟩ : ∃ z : UInt64, FP.dadd c165_c69_z8 c165_c76_z8 = z := ⟨_, rfl⟩
    obtain ⟨c165_z80, hc165_z80⟩ : ∃ z : Int32, cmpValue (FP.dcmp c108_z69_3 c165_z79) .l = z := ⟨_, rfl⟩
    obtain ⟨c179_c17_z4, hc179_c17_z4⟩ : ∃ z : Int32, (16 : Int32) * (0 : Int32) = z := ⟨_, rfl⟩
    obtain ⟨c179_c17_z5, hc179_c17_z5⟩ : ∃ z : Int32, p2 + c179_c17_z4 = z := ⟨_, rfl⟩
    obtain ⟨c179_c17_z7, hc179_c17_z7⟩ : ∃ z : Int32, c179_c17_z5 + (0 : Int32) = z := ⟨_, rfl⟩
    obtain ⟨c179_c17_z8, hc179_c17_z8⟩ : ∃ z : UInt64, FP.i2d c179_c17_z7 = z := ⟨_, rfl⟩
    obtain ⟨c179_z20, hc179_z20⟩ : ∃ z : Int32, cmpValue (FP.dcmp c71_c10_z8 c179_c17_z8) .l = z := ⟨_, rfl⟩
    obtain ⟨c179_c35_z4, hc179_c35_z4⟩ : ∃ z : Int32, (16 : Int32) * (0 : Int32) = z := ⟨_, rfl⟩
    obtain ⟨c179_c35_z5, hc179_c35_z5⟩ : ∃ z : Int32, p2 + c179_c35_z4 = z := ⟨_, rfl⟩
    obtain ⟨c179_c35_z7, hc179_c35_z7⟩ : ∃ z : Int32, c179_c35_z5 + (1 : Int32) = z := ⟨_, rfl⟩
    obtain ⟨c179_c35_z8, hc179_c35_z8⟩ : ∃ z : UInt64, FP.i2d c179_c35_z7 = z := ⟨_, rfl⟩
    obtain ⟨c179_z38, hc179_z38⟩ : ∃ z : Int32, cmpValue (FP.dcmp c71_c25_z8 c179_c35_z8) .l = z := ⟨_, rfl⟩
    obtain ⟨c179_c53_z4, hc179_c53_z4⟩ : ∃ z : Int32, (16 : Int32) * (0 : Int32) = z := ⟨_, rfl⟩
    obtain ⟨c179_c53_z5, hc179_c53_z5⟩ : ∃ z : Int32, p2 + c179_c53_z4 = z := ⟨_, rfl⟩
    obtain ⟨c179_c53_z7, hc179_c53_z7⟩ : ∃ z : Int32, c179_c53_z5 + (2 : Int32) = z := ⟨_, rfl⟩
    obtain ⟨c179_c53_z8, hc179_c53_z8⟩ : ∃ z : UInt64, FP.i2d c179_c53_z7 = z := ⟨_, rfl⟩
    obtain ⟨c179_z56, hc179_z56⟩ : ∃ z : Int32, cmpValue (FP.dcmp c71_c40_z8 c179_c53_z8) .l = z := ⟨_, rfl⟩
    obtain ⟨c193_c17_z4, hc193_c17_z4⟩ : ∃ z : Int32, (16 : Int32) * (1 : Int32) = z := ⟨_, rfl⟩
    obtain ⟨c193_c17_z5, hc193_c17_z5⟩ : ∃ z : Int32, p2 + c193_c17_z4 = z := ⟨_, rfl⟩
    obtain ⟨c193_c17_z7, hc193_c17_z7⟩ : ∃ z : Int32, c193_c17_z5 + (0 : Int32) = z := ⟨_, rfl⟩
    obtain ⟨c193_c17_z8, hc193_c17_z8⟩ : ∃ z : UInt64, FP.i2d c193_c17_z7 = z := ⟨_, rfl⟩
    obtain ⟨c193_z20, hc193_z20⟩ : ∃ z : Int32, cmpValue (FP.dcmp c81_c10_z8 c193_c17_z8) .l = z := ⟨_, rfl⟩
    obtain ⟨c193_c35_z4, hc193_c35_z4⟩ : ∃ z : Int32, (16 : Int32) * (1 : Int32) = z := ⟨_, rfl⟩
    obtain ⟨c193_c35_z5, hc193_c35_z5⟩ : ∃ z : Int32, p2 + c193_c35_z4 = z := ⟨_, rfl⟩
    obtain ⟨c193_c35_z7, hc193_c35_z7⟩ : ∃ z : Int32, c193_c35_z5 + (1 : Int32) = z := ⟨_, rfl⟩
    obtain ⟨c193_c35_z8, hc193_c35_z8⟩ : ∃ z : UInt64, FP.i2d c193_c35_z7 = z := ⟨_, rfl⟩
    obtain ⟨c193_z38, hc193_z38⟩ : ∃ z : Int32, cmpValue (FP.dcmp c81_c25_z8 c193_c35_z8) .l = z := ⟨_, rfl⟩
    obtain ⟨c193_c53_z4, hc193_c53_z4⟩ : ∃ z : Int32, (16 : Int32) * (1 : Int32) = z := ⟨_, rfl⟩
    obtain ⟨c193_c53_z5, hc193_c53_z5⟩ : ∃ z : Int32, p2 + c193_c53_z4 = z := ⟨_, rfl⟩
    obtain ⟨c193_c53_z7, hc193_c53_z7⟩ : ∃ z : Int32, c193_c53_z5 + (2 : Int32) = z := ⟨_, rfl⟩
    obtain ⟨c193_c53_z8, hc193_c53_z8⟩ : ∃ z : UInt64, FP.i2d c193_c53_z7 = z := ⟨_, rfl⟩
    obtain ⟨c193_z56, hc193_z56⟩ : ∃ z : Int32, cmpValue (FP.dcmp c81_c40_z8 c193_c53_z8) .l = z := ⟨_, rfl⟩
    obtain ⟨c207_c17_z4, hc207_c17_z4⟩ : ∃ z : Int32, (16 : Int32) * (2 : Int32) = z := ⟨_, rfl⟩
    obtain ⟨c207_c17_z5, hc207_c17_z5⟩ : ∃ z : Int32, p2 + c207_c17_z4 = z := ⟨_, rfl⟩
    obtain ⟨c207_c17_z7, hc207_c17_z7⟩ : ∃ z : Int32, c207_c17_z5 + (0 : Int32) = z := ⟨_, rfl⟩
    obtain ⟨c207_c17_z8, hc207_c17_z8⟩ : ∃ z : UInt64, FP.i2d c207_c17_z7 = z := ⟨_, rfl⟩
    obtain ⟨c207_z20, hc207_z20⟩ : ∃ z : Int32, cmpValue (FP.dcmp c91_c10_z8 c207_c17_z8) .l = z := ⟨_, rfl⟩
    obtain ⟨c207_c35_z4, hc207_c35_z4⟩ : ∃ z : Int32, (16 : Int32) * (2 : Int32) = z := ⟨_, rfl⟩
    obtain ⟨c207_c35_z5, hc207_c35_z5⟩ : ∃ z : Int32, p2 + c207_c35_z4 = z := ⟨_, rfl⟩
    obtain ⟨c207_c35_z7, hc207_c35_z7⟩ : ∃ z : Int32, c207_c35_z5 + (1 : Int32) = z := ⟨_, rfl⟩
    obtain ⟨c207_c35_z8, hc207_c35_z8⟩ : ∃ z : UInt64, FP.i2d c207_c35_z7 = z := ⟨_, rfl⟩
    obtain ⟨c207_z38, hc207_z38⟩ : ∃ z : Int32, cmpValue (FP.dcmp c91_c25_z8 c207_c35_z8) .l = z := ⟨_, rfl⟩
    obtain ⟨c207_c53_z4, hc207_c53_z4⟩ : ∃ z : Int32, (16 : Int32) * (2 : Int32) = z := ⟨_, rfl⟩
    obtain ⟨c207_c53_z5, hc207_c53_z5⟩ : ∃ z : Int32, p2 + c207_c53_z4 = z := ⟨_, rfl⟩
    obtain ⟨c207_c53_z7, hc207_c53_z7⟩ : ∃ z : Int32, c207_c53_z5 + (2 : Int32) = z := ⟨_, rfl⟩
    obtain ⟨c207_c53_z8, hc207_c53_z8⟩ : ∃ z : UInt64, FP.i2d c207_c53_z7 = z := ⟨_, rfl⟩
    obtain ⟨c207_z56, hc207_z56⟩ : ∃ z : Int32, cmpValue (FP.dcmp c91_c40_z8 c207_c53_z8) .l = z := ⟨_, rfl⟩
    obtain ⟨c221_c17_z4, hc221_c17_z4⟩ : ∃ z : Int32, (16 : Int32) * (3 : Int32) = z := ⟨_, rfl⟩
    obtain ⟨c221_c17_z5, hc221_c17_z5⟩ : ∃ z : Int32, p2 + c221_c17_z4 = z := ⟨_, rfl⟩
    obtain ⟨c221_c17_z7, hc221_c17_z7⟩ : ∃ z : Int32, c221_c17_z5 + (0 : Int32) = z := ⟨_, rfl⟩
    obtain ⟨c221_c17_z8, hc221_c17_z8⟩ : ∃ z : UInt64, FP.i2d c221_c17_z7 = z := ⟨_, rfl⟩
    obtain ⟨c221_z20, hc221_z20⟩ : ∃ z : Int32, cmpValue (FP.dcmp c101_c10_z8 c221_c17_z8) .l = z := ⟨_, rfl⟩
    obtain ⟨c221_c35_z4, hc221_c35_z4⟩ : ∃ z : Int32, (16 : Int32) * (3 : Int32) = z := ⟨_, rfl⟩
    obtain ⟨c221_c35_z5, hc221_c35_z5⟩ : ∃ z : Int32, p2 + c221_c35_z4 = z := ⟨_, rfl⟩
    obtain ⟨c221_c35_z7, hc221_c35_z7⟩ : ∃ z : Int32, c221_c35_z5 + (1 : Int32) = z := ⟨_, rfl⟩
    obtain ⟨c221_c35_z8, hc221_c35_z8⟩ : ∃ z : UInt64, FP.i2d c221_c35_z7 = z := ⟨_, rfl⟩
    obtain ⟨c221_z38, hc221_z38⟩ : ∃ z : Int32, cmpValue (FP.dcmp c101_c25_z8 c221_c35_z8) .l = z := ⟨_, rfl⟩
    obtain ⟨c221_c53_z4, hc221_c53_z4⟩ : ∃ z : Int32, (16 : Int32) * (3 : Int32) = z := ⟨_, rfl⟩
    obtain ⟨c221_c53_z5, hc221_c53_z5⟩ : ∃ z : Int32, p2 + c221_c53_z4 = z := ⟨_, rfl⟩
    obtain ⟨c221_c53_z7, hc221_c53_z7⟩ : ∃ z : Int32, c221_c53_z5 + (2 : Int32) = z := ⟨_, rfl⟩
    obtain ⟨c221_c53_z8, hc221_c53_z8⟩ : ∃ z : UInt64, FP.i2d c221_c53_z7 = z := ⟨_, rfl⟩
    obtain ⟨c221_z56, hc221_z56⟩ : ∃ z : Int32, cmpValue (FP.dcmp c101_c40_z8 c221_c53_z8) .l = z := ⟨_, rfl⟩
    obtain ⟨T244, h244, X244, e244, E244, A244, D244, -, st244⟩ := newO X0 hx hZ hown (hw _ (List.mem_of_getElem? (i := 0) rfl)) (hw _ (List.mem_of_getElem? (i := 1) rfl)) (hw _ (List.mem_of_getElem? (i := 2) rfl)) e0 (g := (mkF m 4 #[.val (.int p0), .val (.int p1), .val (.int p2), .val (.int (3 : Int32)), .unset, .unset] [])) rfl (hb hby at_4) (by decide) (by decide)
    obtain ⟨b244, g244⟩ : ∃ z, z = h0.size := ⟨_, rfl⟩
    rw [← g244] at A244 D244 st244
    have gn244 : n0 ≤ b244 := Nat.le_trans Z0 (Nat.le_of_eq g244.symm)
    have gz244 : h0.size ≤ b244 := Nat.le_trans ((Keep.refl h0 [])).1 (Nat.le_of_eq g244.symm)
    have K245 : Keep h0 h244 [] := (Keep.refl h0 []).ext E244
    have F244_direct : Fld Z h244 b244 "com/example/lumenstand/lumenstand/light/Interception" "direct" "[D" .null := D244 (Or.inr (hw _ (List.mem_of_getElem? (i := 11) rfl))) (ty := (.array .double)) (by decide)
    have F244_diffuse : Fld Z h244 b244 "com/example/lumenstand/lumenstand/light/Interception" "diffuse" "[D" .null := D244 (Or.inr (hw _ (List.mem_of_getElem? (i := 13) rfl))) (ty := (.array .double)) (by decide)
    have F244_potential : Fld Z h244 b244 "com/example/lumenstand/lumenstand/light/Interception" "potential" "[D" .null := D244 (Or.inr (hw _ (List.mem_of_getElem? (i := 15) rfl))) (ty := (.array .double)) (by decide)
    have F244_trunk : Fld Z h244 b244 "com/example/lumenstand/lumenstand/light/Interception" "trunk" "[D" .null := D244 (Or.inr (hw _ (List.mem_of_getElem? (i := 17) rfl))) (ty := (.array .double)) (by decide)
    obtain ⟨_, _, ⟨T246, L246, k246, n246⟩, -, X246, ⟨Lc246, hQ246, ql246, qy246, qz246⟩, st246⟩ := X244.specialBack hx (y := (⟨"com/example/lumenstand/lumenstand/light/Interception", "<init>", "(I)V"⟩ : MethodName)) rfl hown (mvT hZ (hw _ (List.mem_of_getElem? (i := 3) rfl))) (mvT hZ (hw _ (List.mem_of_getElem? (i := 4) rfl))) (mvT hZ (hw _ (List.mem_of_getElem? (i := 5) rfl))) (by decide) (backOf (W := 1) (rm1_3 l Z a0 hw [] b244 (.null) (.null) (.null) (.null)  h244 n0 (Nat.le_trans Z0 E244.1) A244 F244_direct gn244 F244_diffuse F244_potential F244_trunk) hZ (hw _ (List.mem_of_getElem? (i := 5) rfl)) (hw _ (List.mem_of_getElem? (i := 2) rfl)) (by decide) (by decide)) (g := (mkF m 9 #[.val (.int p0), .val (.int p1), .val (.int p2), .val (.int (3 : Int32)), .unset, .unset] [(.int (3 : Int32)), (.ref b244), (.ref b244)])) rfl (by rw [hml]; rfl) (Steps.refl _) (a := b244) (argsL := [(.int (3 : Int32))]) (rest := [(.ref b244)]) (lenOf pd_1 rfl) rfl (by show 2 * 0 + _ ≤ _; exact Nat.le_of_eq rfl) (hb hby at_9) (fun _ _ => ⟨rfl, e244, (by decide : 1 + 4 ≤ _), (by decide : 4 + 12 ≤ _)⟩)
    dsimp only [Pt.U, Pt.locs, Pt.cells, Pt.slots] at X246 ql246 qy246 qz246 st246 hQ246
    subst ql246 qy246 qz246
    obtain ⟨rb246_b2, rb246_b8, rb246_b14, rb246_b20, kk246_k2, kk246_k8, kk246_k14, kk246_k20, rfl, N246q, gz246_b2, gz246_b8, gz246_b14, gz246_b20, K246q, Q246_0, Q246_1, Q246_2, Q246_3, Q246_4, Q246_5, Q246_6, Q246_7, Q246_8, D246_0, D246_1, D246_2, D246_3, D246_4, D246_5⟩ := hQ246
    have N246 := Fr.app N0 N246q
    have gn246_b2 : n0 ≤ rb246_b2 := Nat.le_trans (Nat.le_trans Z0 E244.1) gz246_b2
    have gy246_b2 : h0.size ≤ rb246_b2 := Nat.le_trans (K245).1 gz246_b2
    have gn246_b8 : n0 ≤ rb246_b8 := Nat.le_trans (Nat.le_trans Z0 E244.1) gz246_b8
    have gy246_b8 : h0.size ≤ rb246_b8 := Nat.le_trans (K245).1 gz246_b8
    have gn246_b14 : n0 ≤ rb246_b14 := Nat.le_trans (Nat.le_trans Z0 E244.1) gz246_b14
    have gy246_b14 : h0.size ≤ rb246_b14 := Nat.le_trans (K245).1 gz246_b14
    have gn246_b20 : n0 ≤ rb246_b20 := Nat.le_trans (Nat.le_trans Z0 E244.1) gz246_b20
    have gy246_b20 : h0.size ≤ rb246_b20 := Nat.le_trans (K245).1 gz246_b20
    have K247 : Keep h0 T246.heap [] := Keep.trans K245 K246q (allS (Or.inr gz244) all0)
    obtain ⟨T248, h248, X248, e248, E248, A248, D248, -, st248⟩ := newO X246 hx hZ hown (hw _ (List.mem_of_getElem? (i := 0) rfl)) (hw _ (List.mem_of_getElem? (i := 1) rfl)) (hw _ (List.mem_of_getElem? (i := 2) rfl)) rfl (g := (mkF m 14 #[.val (.int p0), .val (.int p1), .val (.int p2), .val (.int (3 : Int32)), .val (.ref b244), .unset] [])) rfl (hb hby at_14) (by decide) (by decide)
    obtain ⟨b248, g248⟩ : ∃ z, z = T246.heap.size := ⟨_, rfl⟩
    rw [← g248] at A248 D248 st248
    have gn248 : n0 ≤ b248 := Nat.le_trans (Nat.le_trans (Nat.le_trans Z0 E244.1) K246q.1) (Nat.le_of_eq g248.symm)
    have gz248 : h0.size ≤ b248 := Nat.le_trans (K247).1 (Nat.le_of_eq g248.symm)
    have K249 : Keep h0 h248 [] := K247.ext E248
    have F248_direct : Fld Z h248 b248 "com/example/lumenstand/lumenstand/light/Interception" "direct" "[D" .null := D248 (Or.inr (hw _ (List.mem_of_getElem? (i := 11) rfl))) (ty := (.array .double)) (by decide)
    have F248_diffuse : Fld Z h248 b248 "com/example/lumenstand/lumenstand/light/Interception" "diffuse" "[D" .null := D248 (Or.inr (hw _ (List.mem_of_getElem? (i := 13) rfl))) (ty := (.array .double)) (by decide)
    have F248_potential : Fld Z h248 b248 "com/example/lumenstand/lumenstand/light/Interception" "potential" "[D" .null := D248 (Or.inr (hw _ (List.mem_of_getElem? (i := 15) rfl))) (ty := (.array .double)) (by decide)
    have F248_trunk : Fld Z h248 b248 "com/example/lumenstand/lumenstand/light/Interception" "trunk" "[D" .null := D248 (Or.inr (hw _ (List.mem_of_getElem? (i := 17) rfl))) (ty := (.array .double)) (by decide)
    obtain ⟨_, _, ⟨T250, L250, k250, n250⟩, -, X250, ⟨Lc250, hQ250, ql250, qy250, qz250⟩, st250⟩ := X248.specialBack hx (y := (⟨"com/example/lumenstand/lumenstand/light/Interception", "<init>", "(I)V"⟩ : MethodName)) rfl hown (mvT hZ (hw _ (List.mem_of_getElem? (i := 3) rfl))) (mvT hZ (hw _ (List.mem_of_getElem? (i := 4) rfl))) (mvT hZ (hw _ (List.mem_of_getElem? (i := 5) rfl))) (by decide) (backOf (W := 1) (rm1_3 l Z a0 hw [] b248 (.null) (.null) (.null) (.null)  h248 n0 (Nat.le_trans (Nat.le_trans (Nat.le_trans Z0 E244.1) K246q.1) E248.1) A248 F248_direct gn248 F248_diffuse F248_potential F248_trunk) hZ (hw _ (List.mem_of_getElem? (i := 5) rfl)) (hw _ (List.mem_of_getElem? (i := 2) rfl)) (by decide) (by decide)) (g := (mkF m 19 #[.val (.int p0), .val (.int p1), .val (.int p2), .val (.int (3 : Int32)), .val (.ref b244), .unset] [(.int (3 : Int32)), (.ref b248), (.ref b248)])) rfl (by rw [hml]; rfl) (Steps.refl _) (a := b248) (argsL := [(.int (3 : Int32))]) (rest := [(.ref b248)]) (lenOf pd_1 rfl) rfl (by show 2 * 0 + _ ≤ _; exact Nat.le_of_eq rfl) (hb hby at_19) (fun _ _ => ⟨rfl, e248, (by decide : 6 + 4 ≤ _), (by decide : 20 + 12 ≤ _)⟩)
    dsimp only [Pt.U, Pt.locs, Pt.cells, Pt.slots] at X250 ql250 qy250 qz250 st250 hQ250
    subst ql250 qy250 qz250
    obtain ⟨rb250_b2, rb250_b8, rb250_b14, rb250_b20, kk250_k2, kk250_k8, kk250_k14, kk250_k20, rfl, N250q, gz250_b2, gz250_b8, gz250_b14, gz250_b20, K250q, Q250_0, Q250_1, Q250_2, Q250_3, Q250_4, Q250_5, Q250_6, Q250_7, Q250_8, D250_0, D250_1, D250_2, D250_3, D250_4, D250_5⟩ := hQ250
    have N250 := Fr.app N246 N250q
    have gn250_b2 : n0 ≤ rb250_b2 := Nat.le_trans (Nat.le_trans (Nat.le_trans (Nat.le_trans Z0 E244.1) K246q.1) E248.1) gz250_b2
    have gy250_b2 : h0.size ≤ rb250_b2 := Nat.le_trans (K249).1 gz250_b2
    have gn250_b8 : n0 ≤ rb250_b8 := Nat.le_trans (Nat.le_trans (Nat.le_trans (Nat.le_trans Z0 E244.1) K246q.1) E248.1) gz250_b8
    have gy250_b8 : h0.size ≤ rb250_b8 := Nat.le_trans (K249).1 gz250_b8
    have gn250_b14 : n0 ≤ rb250_b14 := Nat.le_trans (Nat.le_trans (Nat.le_trans (Nat.le_trans Z0 E244.1) K246q.1) E248.1) gz250_b14
    have gy250_b14 : h0.size ≤ rb250_b14 := Nat.le_trans (K249).1 gz250_b14
    have gn250_b20 : n0 ≤ rb250_b20 := Nat.le_trans (Nat.le_trans (Nat.le_trans (Nat.le_trans Z0 E244.1) K246q.1) E248.1) gz250_b20
    have gy250_b20 : h0.size ≤ rb250_b20 := Nat.le_trans (K249).1 gz250_b20
    have K251 : Keep h0 T250.heap [] := Keep.trans K249 K250q (allS (Or.inr gz248) all0)
    have f252 := ((Q246_1.ext E248).keep K250q (ninS (Nat.ne_of_lt (Nat.lt_of_lt_of_le (Q246_0).lt (Nat.le_of_eq g248.symm))) nin0))
    obtain ⟨T253, X253, e253, st253⟩ := getF X250 hx hZ hown (host := "") (Or.inl (hw _ (List.mem_of_getElem? (i := 18) rfl))) Via.refl rfl f252 (g := (mkF m 26 #[.val (.int p0), .val (.int p1), .val (.int p2), .val (.int (3 : Int32)), .val (.ref b244), .val (.ref b248)] [(.ref b244)])) rfl rfl (hb hby at_26)
    have f254 := ((Q246_5.ext E248).keep K250q (ninS (Nat.ne_of_lt (Nat.lt_of_lt_of_le (Q246_5).lt (Nat.le_of_eq g248.symm))) nin0))
    obtain ⟨_, _, ⟨T255, L255, k255, n255⟩, -, X255, ⟨Lc255, hQ255, ql255, qy255, qz255⟩, st255⟩ := Jvm.LawKit.callS X253 hx (y := (⟨"com/example/lumenstand/lumenstand/light/InterceptionAddPinLaw", "put", "([DII)V"⟩ : MethodName)) hown (mvT hZ (hw _ (List.mem_of_getElem? (i := 19) rfl))) (mvT hZ (hw _ (List.mem_of_getElem? (i := 20) rfl))) (mvT hZ (hw _ (List.mem_of_getElem? (i := 21) rfl))) (mvT hZ (hw _ (List.mem_of_getElem? (i := 22) rfl))) (by decide) (backOf (W := 0) (rm3_3 l Z a0 hw [] rb246_b2 (0 : Int32) p1 kk246_k2 (0 : UInt64) (0 : UInt64) (0 : UInt64) c31_c10_z4 c31_c10_z5 c31_c10_z7 c31_c10_z8 c31_c25_z4 c31_c25_z5 c31_c25_z7 c31_c25_z8 c31_c40_z4 c31_c40_z5 c31_c40_z7 c31_c40_z8 T250.heap n0 (Nat.le_trans (Nat.le_trans (Nat.le_trans (Nat.le_trans Z0 E244.1) K246q.1) E248.1) K250q.1) f254 gn246_b2 hc31_c10_z4 hc31_c10_z5 hc31_c10_z7 hc31_c10_z8 hc31_c25_z4 hc31_c25_z5 hc31_c25_z7 hc31_c25_z8 hc31_c40_z4 hc31_c40_z5 hc31_c40_z7 hc31_c40_z8) hZ (hw _ (List.mem_of_getElem? (i := 22) rfl)) (hw _ (List.mem_of_getElem? (i := 21) rfl)) (by decide) (by decide)) (g := (mkF m 31 #[.val (.int p0), .val (.int p1), .val (.int p2), .val (.int (3 : Int32)), .val (.ref b244), .val (.ref b248)] [(.int p1), (.int (0 : Int32)), (.ref rb246_b2)])) rfl (by rw [hml]; rfl) (argsL := [(.ref rb246_b2), (.int (0 : Int32)), (.int p1)]) (rest := []) (lenOf pd_2 rfl) rfl (by show 2 * 0 + _ ≤ _; exact Nat.le_of_eq rfl) (hb hby at_31) (fun _ _ => ⟨rfl, e253, (by decide : 10 + 0 ≤ _), (by decide : 32 + 0 ≤ _)⟩)
    dsimp only [Pt.U, Pt.locs, Pt.cells, Pt.slots] at X255 ql255 qy255 qz255 st255 hQ255
    subst ql255 qy255 qz255
    obtain ⟨rfl, N255q, K255q, Q255_0⟩ := hQ255
    have N255 := Fr.app N250 N255q
    have K256 : Keep h0 T255.heap [] := Keep.trans K251 K255q (allS (Or.inr gy246_b2) all0)
    have f257 := (((Q246_2.ext E248).keep K250q (ninS (Nat.ne_of_lt (Nat.lt_of_lt_of_le (Q246_0).lt (Nat.le_of_eq g248.symm))) nin0)).keep K255q (ninS (Nat.ne_of_lt (Nat.lt_of_lt_of_le (A244).lt gz246_b2)) nin0))
    obtain ⟨T258, X258, e258, st258⟩ := getF X255 hx hZ hown (host := "") (Or.inl (hw _ (List.mem_of_getElem? (i := 23) rfl))) Via.refl rfl f257 (g := (mkF m 36 #[.val (.int p0), .val (.int p1), .val (.int p2), .val (.int (3 : Int32)), .val (.ref b244), .val (.ref b248)] [(.ref b244)])) rfl rfl (hb hby at_36)
    have f259 := (((Q246_6.ext E248).keep K250q (ninS (Nat.ne_of_lt (Nat.lt_of_lt_of_le (Q246_6).lt (Nat.le_of_eq g248.symm))) nin0)).keep K255q (ninS (Ne.symm D246_0) nin0))
    obtain ⟨_, _, ⟨T260, L260, k260, n260⟩, -, X260, ⟨Lc260, hQ260, ql260, qy260, qz260⟩, st260⟩ := Jvm.LawKit.callS X258 hx (y := (⟨"com/example/lumenstand/lumenstand/light/InterceptionAddPinLaw", "put", "([DII)V"⟩ : MethodName)) hown (mvT hZ (hw _ (List.mem_of_getElem? (i := 19) rfl))) (mvT hZ (hw _ (List.mem_of_getElem? (i := 20) rfl))) (mvT hZ (hw _ (List.mem_of_getElem? (i := 21) rfl))) (mvT hZ (hw _ (List.mem_of_getElem? (i := 22) rfl))) (by decide) (backOf (W := 0) (rm3_3 l Z a0 hw [] rb246_b8 (1 : Int32) p1 kk246_k8 (0 : UInt64) (0 : UInt64) (0 : UInt64) c41_c10_z4 c41_c10_z5 c41_c10_z7 c41_c10_z8 c41_c25_z4 c41_c25_z5 c41_c25_z7 c41_c25_z8 c41_c40_z4 c41_c40_z5 c41_c40_z7 c41_c40_z8 T255.heap n0 (Nat.le_trans (Nat.le_trans (Nat.le_trans (Nat.le_trans (Nat.le_trans Z0 E244.1) K246q.1) E248.1) K250q.1) K255q.1) f259 gn246_b8 hc41_c10_z4 hc41_c10_z5 hc41_c10_z7 hc41_c10_z8 hc41_c25_z4 hc41_c25_z5 hc41_c25_z7 hc41_c25_z8 hc41_c40_z4 hc41_c40_z5 hc41_c40_z7 hc41_c40_z8) hZ (hw _ (List.mem_of_getElem? (i := 22) rfl)) (hw _ (List.mem_of_getElem? (i := 21) rfl)) (by decide) (by decide)) (g := (mkF m 41 #[.val (.int p0), .val (.int p1), .val (.int p2), .val (.int (3 : Int32)), .val (.ref b244), .val (.ref b248)] [(.int p1), (.int (1 : Int32)), (.ref rb246_b8)])) rfl (by rw [hml]; rfl) (argsL := [(.ref rb246_b8), (.int (1 : Int32)), (.int p1)]) (rest := []) (lenOf pd_2 rfl) rfl (by show 2 * 0 + _ ≤ _; exact Nat.le_of_eq rfl) (hb hby at_41) (fun _ _ => ⟨rfl, e258, (by decide : 10 + 0 ≤ _), (by decide : 32 + 0 ≤ _)⟩)
    dsimp only [Pt.U, Pt.locs, Pt.cells, Pt.slots] at X260 ql260 qy260 qz260 st260 hQ260
    subst ql260 qy260 qz260
    obtain ⟨rfl, N260q, K260q, Q260_0⟩ := hQ260
    have N260 := Fr.app N255 N260q
    have K261 : Keep h0 T260.heap [] := Keep.trans K256 K260q (allS (Or.inr gy246_b8) all0)
    have f262 := ((((Q246_3.ext E248).keep K250q (ninS (Nat.ne_of_lt (Nat.lt_of_lt_of_le (Q246_0).lt (Nat.le_of_eq g248.symm))) nin0)).keep K255q (ninS (Nat.ne_of_lt (Nat.lt_of_lt_of_le (A244).lt gz246_b2)) nin0)).keep K260q (ninS (Nat.ne_of_lt (Nat.lt_of_lt_of_le (A244).lt gz246_b8)) nin0))
    obtain ⟨T263, X263, e263, st263⟩ := getF X260 hx hZ hown (host := "") (Or.inl (hw _ (List.mem_of_getElem? (i := 24) rfl))) Via.refl rfl f262 (g := (mkF m 46 #[.val (.int p0), .val (.int p1), .val (.int p2), .val (.int (3 : Int32)), .val (.ref b244), .val (.ref b248)] [(.ref b244)])) rfl rfl (hb hby at_46)
    have f264 := ((((Q246_7.ext E248).keep K250q (ninS (Nat.ne_of_lt (Nat.lt_of_lt_of_le (Q246_7).lt (Nat.le_of_eq g248.symm))) nin0)).keep K255q (ninS (Ne.symm D246_1) nin0)).keep K260q (ninS (Ne.symm D246_3) nin0))
    obtain ⟨_, _, ⟨T265, L265, k265, n265⟩, -, X265, ⟨Lc265, hQ265, ql265, qy265, qz265⟩, st265⟩ := Jvm.LawKit.callS X263 hx (y := (⟨"com/example/lumenstand/lumenstand/light/InterceptionAddPinLaw", "put", "([DII)V"⟩ : MethodName)) hown (mvT hZ (hw _ (List.mem_of_getElem? (i := 19) rfl))) (mvT hZ (hw _ (List.mem_of_getElem? (i := 20) rfl))) (mvT hZ (hw _ (List.mem_of_getElem? (i := 21) rfl))) (mvT hZ (hw _ (List.mem_of_getElem? (i := 22) rfl))) (by decide) (backOf (W := 0) (rm3_3 l Z a0 hw [] rb246_b14 (2 : Int32) p1 kk246_k14 (0 : UInt64) (0 : UInt64) (0 : UInt64) c51_c10_z4 c51_c10_z5 c51_c10_z7 c51_c10_z8 c51_c25_z4 c51_c25_z5 c51_c25_z7 c51_c25_z8 c51_c40_z4 c51_c40_z5 c51_c40_z7 c51_c40_z8 T260.heap n0 (Nat.le_trans (Nat.le_trans (Nat.le_trans (Nat.le_trans (Nat.le_trans (Nat.le_trans Z0 E244.1) K246q.1) E248.1) K250q.1) K255q.1) K260q.1) f264 gn246_b14 hc51_c10_z4 hc51_c10_z5 hc51_c10_z7 hc51_c10_z8 hc51_c25_z4 hc51_c25_z5 hc51_c25_z7 hc51_c25_z8 hc51_c40_z4 hc51_c40_z5 hc51_c40_z7 hc51_c40_z8) hZ (hw _ (List.mem_of_getElem? (i := 22) rfl)) (hw _ (List.mem_of_getElem? (i := 21) rfl)) (by decide) (by decide)) (g := (mkF m 51 #[.val (.int p0), .val (.int p1), .val (.int p2), .val (.int (3 : Int32)), .val (.ref b244), .val (.ref b248)] [(.int p1), (.int (2 : Int32)), (.ref rb246_b14)])) rfl (by rw [hml]; rfl) (argsL := [(.ref rb246_b14), (.int (2 : Int32)), (.int p1)]) (rest := []) (lenOf pd_2 rfl) rfl (by show 2 * 0 + _ ≤ _; exact Nat.le_of_eq rfl) (hb hby at_51) (fun _ _ => ⟨rfl, e263, (by decide : 10 + 0 ≤ _), (by decide : 32 + 0 ≤ _)⟩)
    dsimp only [Pt.U, Pt.locs, Pt.cells, Pt.slots] at X265 ql265 qy265 qz265 st265 hQ265
    subst ql265 qy265 qz265
    obtain ⟨rfl, N265q, K265q, Q265_0⟩ := hQ265
    have N265 := Fr.app N260 N265q
    have K266 : Keep h0 T265.heap [] := Keep.trans K261 K265q (allS (Or.inr gy246_b14) all0)
    have f267 := (((((Q246_4.ext E248).keep K250q (ninS (Nat.ne_of_lt (Nat.lt_of_lt_of_le (Q246_0).lt (Nat.le_of_eq g248.symm))) nin0)).keep K255q (ninS (Nat.ne_of_lt (Nat.lt_of_lt_of_le (A244).lt gz246_b2)) nin0)).keep K260q (ninS (Nat.ne_of_lt (Nat.lt_of_lt_of_le (A244).lt gz246_b8)) nin0)).keep K265q (ninS (Nat.ne_of_lt (Nat.lt_of_lt_of_le (A244).lt gz246_b14)) nin0))
    obtain ⟨T268, X268, e268, st268⟩ := getF X265 hx hZ hown (host := "") (Or.inl (hw _ (List.mem_of_getElem? (i := 25) rfl))) Via.refl rfl f267 (g := (mkF m 56 #[.val (.int p0), .val (.int p1), .val (.int p2), .val (.int (3 : Int32)), .val (.ref b244), .val (.ref b248)] [(.ref b244)])) rfl rfl (hb hby at_56)
    have f269 := (((((Q246_8.ext E248).keep K250q (ninS (Nat.ne_of_lt (Nat.lt_of_lt_of_le (Q246_8).lt (Nat.le_of_eq g248.symm))) nin0)).keep K255q (ninS (Ne.symm D246_2) nin0)).keep K260q (ninS (Ne.symm D246_4) nin0)).keep K265q (ninS (Ne.symm D246_5) nin0))
    obtain ⟨_, _, ⟨T270, L270, k270, n270⟩, -, X270, ⟨Lc270, hQ270, ql270, qy270, qz270⟩, st270⟩ := Jvm.LawKit.callS X268 hx (y := (⟨"com/example/lumenstand/lumenstand/light/InterceptionAddPinLaw", "put", "([DII)V"⟩ : MethodName)) hown (mvT hZ (hw _ (List.mem_of_getElem? (i := 19) rfl))) (mvT hZ (hw _ (List.mem_of_getElem? (i := 20) rfl))) (mvT hZ (hw _ (List.mem_of_getElem? (i := 21) rfl))) (mvT hZ (hw _ (List.mem_of_getElem? (i := 22) rfl))) (by decide) (backOf (W := 0) (rm3_3 l Z a0 hw [] rb246_b20 (3 : Int32) p1 kk246_k20 (0 : UInt64) (0 : UInt64) (0 : UInt64) c61_c10_z4 c61_c10_z5 c61_c10_z7 c61_c10_z8 c61_c25_z4 c61_c25_z5 c61_c25_z7 c61_c25_z8 c61_c40_z4 c61_c40_z5 c61_c40_z7 c61_c40_z8 T265.heap n0 (Nat.le_trans (Nat.le_trans (Nat.le_trans (Nat.le_trans (Nat.le_trans (Nat.le_trans (Nat.le_trans Z0 E244.1) K246q.1) E248.1) K250q.1) K255q.1) K260q.1) K265q.1) f269 gn246_b20 hc61_c10_z4 hc61_c10_z5 hc61_c10_z7 hc61_c10_z8 hc61_c25_z4 hc61_c25_z5 hc61_c25_z7 hc61_c25_z8 hc61_c40_z4 hc61_c40_z5 hc61_c40_z7 hc61_c40_z8) hZ (hw _ (List.mem_of_getElem? (i := 22) rfl)) (hw _ (List.mem_of_getElem? (i := 21) rfl)) (by decide) (by decide)) (g := (mkF m 61 #[.val (.int p0), .val (.int p1), .val (.int p2), .val (.int (3 : Int32)), .val (.ref b244), .val (.ref b248)] [(.int p1), (.int (3 : Int32)), (.ref rb246_b20)])) rfl (by rw [hml]; rfl) (argsL := [(.ref rb246_b20), (.int (3 : Int32)), (.int p1)]) (rest := []) (lenOf pd_2 rfl) rfl (by show 2 * 0 + _ ≤ _; exact Nat.le_of_eq rfl) (hb hby at_61) (fun _ _ => ⟨rfl, e268, (by decide : 10 + 0 ≤ _), (by decide : 32 + 0 ≤ _)⟩)
    dsimp only [Pt.U, Pt.locs, Pt.cells, Pt.slots] at X270 ql270 qy270 qz270 st270 hQ270
    subst ql270 qy270 qz270
    obtain ⟨rfl, N270q, K270q, Q270_0⟩ := hQ270
    have N270 := Fr.app N265 N270q
    have K271 : Keep h0 T270.heap [] := Keep.trans K266 K270q (allS (Or.inr gy246_b20) all0)
    have f272 := ((((Q250_1.keep K255q (ninS (Ne.symm (Nat.ne_of_lt (Nat.lt_of_lt_of_le (Q246_5).lt (Nat.le_of_eq g248.symm)))) nin0)).keep K260q (ninS (Ne.symm (Nat.ne_of_lt (Nat.lt_of_lt_of_le (Q246_6).lt (Nat.le_of_eq g248.symm)))) nin0)).keep K265q (ninS (Ne.symm (Nat.ne_of_lt (Nat.lt_of_lt_of_le (Q246_7).lt (Nat.le_of_eq g248.symm)))) nin0)).keep K270q (ninS (Ne.symm (Nat.ne_of_lt (Nat.lt_of_lt_of_le (Q246_8).lt (Nat.le_of_eq g248.symm)))) nin0))
    obtain ⟨T273, X273, e273, st273⟩ := getF X270 hx hZ hown (host := "") (Or.inl (hw _ (List.mem_of_getElem? (i := 18) rfl))) Via.refl rfl f272 (g := (mkF m 66 #[.val (.int p0), .val (.int p1), .val (.int p2), .val (.int (3 : Int32)), .val (.ref b244), .val (.ref b248)] [(.ref b248)])) rfl rfl (hb hby at_66)
    have f274 := ((((Q250_5.keep K255q (ninS (Ne.symm (Nat.ne_of_lt (Nat.lt_of_lt_of_le ((Q246_5.ext E248)).lt gz250_b2))) nin0)).keep K260q (ninS (Ne.symm (Nat.ne_of_lt (Nat.lt_of_lt_of_le ((Q246_6.ext E248)).lt gz250_b2))) nin0)).keep K265q (ninS (Ne.symm (Nat.ne_of_lt (Nat.lt_of_lt_of_le ((Q246_7.ext E248)).lt gz250_b2))) nin0)).keep K270q (ninS (Ne.symm (Nat.ne_of_lt (Nat.lt_of_lt_of_le ((Q246_8.ext E248)).lt gz250_b2))) nin0))
    obtain ⟨_, _, ⟨T275, L275, k275, n275⟩, -, X275, ⟨Lc275, hQ275, ql275, qy275, qz275⟩, st275⟩ := Jvm.LawKit.callS X273 hx (y := (⟨"com/example/lumenstand/lumenstand/light/InterceptionAddPinLaw", "put", "([DII)V"⟩ : MethodName)) hown (mvT hZ (hw _ (List.mem_of_getElem? (i := 19) rfl))) (mvT hZ (hw _ (List.mem_of_getElem? (i := 20) rfl))) (mvT hZ (hw _ (List.mem_of_getElem? (i := 21) rfl))) (mvT hZ (hw _ (List.mem_of_getElem? (i := 22) rfl))) (by decide) (backOf (W := 0) (rm3_3 l Z a0 hw [] rb250_b2 (0 : Int32) p2 kk250_k2 (0 : UInt64) (0 : UInt64) (0 : UInt64) c71_c10_z4 c71_c10_z5 c71_c10_z7 c71_c10_z8 c71_c25_z4 c71_c25_z5 c71_c25_z7 c71_c25_z8 c71_c40_z4 c71_c40_z5 c71_c40_z7 c71_c40_z8 T270.heap n0 (Nat.le_trans (Nat.le_trans (Nat.le_trans (Nat.le_trans (Nat.le_trans (Nat.le_trans (Nat.le_trans (Nat.le_trans Z0 E244.1) K246q.1) E248.1) K250q.1) K255q.1) K260q.1) K265q.1) K270q.1) f274 gn250_b2 hc71_c10_z4 hc71_c10_z5 hc71_c10_z7 hc71_c10_z8 hc71_c25_z4 hc71_c25_z5 hc71_c25_z7 hc71_c25_z8 hc71_c40_z4 hc71_c40_z5 hc71_c40_z7 hc71_c40_z8) hZ (hw _ (List.mem_of_getElem? (i := 22) rfl)) (hw _ (List.mem_of_getElem? (i := 21) rfl)) (by decide) (by decide)) (g := (mkF m 71 #[.val (.int p0), .val (.int p1), .val (.int p2), .val (.int (3 : Int32)), .val (.ref b244), .val (.ref b248)] [(.int p2), (.int (0 : Int32)), (.ref rb250_b2)])) rfl (by rw [hml]; rfl) (argsL := [(.ref rb250_b2), (.int (0 : Int32)), (.int p2)]) (rest := []) (lenOf pd_2 rfl) rfl (by show 2 * 0 + _ ≤ _; exact Nat.le_of_eq rfl) (hb hby at_71) (fun _ _ => ⟨rfl, e273, (by decide : 10 + 0 ≤ _), (by decide : 32 + 0 ≤ _)⟩)
    dsimp only [Pt.U, Pt.locs, Pt.cells, Pt.slots] at X275 ql275 qy275 qz275 st275 hQ275
    subst ql275 qy275 qz275
    obtain ⟨rfl, N275q, K275q, Q275_0⟩ := hQ275
    have N275 := Fr.app N270 N275q
    have K276 : Keep h0 T275.heap [] := Keep.trans K271 K275q (allS (Or.inr gy250_b2) all0)
    have f277 := (((((Q250_2.keep K255q (ninS (Ne.symm (Nat.ne_of_lt (Nat.lt_of_lt_of_le (Q246_5).lt (Nat.le_of_eq g248.symm)))) nin0)).keep K260q (ninS (Ne.symm (Nat.ne_of_lt (Nat.lt_of_lt_of_le (Q246_6).lt (Nat.le_of_eq g248.symm)))) nin0)).keep K265q (ninS (Ne.symm (Nat.ne_of_lt (Nat.lt_of_lt_of_le (Q246_7).lt (Nat.le_of_eq g248.symm)))) nin0)).keep K270q (ninS (Ne.symm (Nat.ne_of_lt (Nat.lt_of_lt_of_le (Q246_8).lt (Nat.le_of_eq g248.symm)))) nin0)).keep K275q (ninS (Nat.ne_of_lt (Nat.lt_of_lt_of_le (A248).lt gz250_b2)) nin0))
    obtain ⟨T278, X278, e278, st278⟩ := getF X275 hx hZ hown (host := "") (Or.inl (hw _ (List.mem_of_getElem? (i := 23) rfl))) Via.refl rfl f277 (g := (mkF m 76 #[.val (.int p0), .val (.int p1), .val (.int p2), .val (.int (3 : Int32)), .val (.ref b244), .val (.ref b248)] [(.ref b248)])) rfl rfl (hb hby at_76)
    have f279 := (((((Q250_6.keep K255q (ninS (Ne.symm (Nat.ne_of_lt (Nat.lt_of_lt_of_le ((Q246_5.ext E248)).lt gz250_b8))) nin0)).keep K260q (ninS (Ne.symm (Nat.ne_of_lt (Nat.lt_of_lt_of_le ((Q246_6.ext E248)).lt gz250_b8))) nin0)).keep K265q (ninS (Ne.symm (Nat.ne_of_lt (Nat.lt_of_lt_of_le ((Q246_7.ext E248)).lt gz250_b8))) nin0)).keep K270q (ninS (Ne.symm (Nat.ne_of_lt (Nat.lt_of_lt_of_le ((Q246_8.ext E248)).lt gz250_b8))) nin0)).keep K275q (ninS (Ne.symm D250_0) nin0))
    obtain ⟨_, _, ⟨T280, L280, k280, n280⟩, -, X280, ⟨Lc280, hQ280, ql280, qy280, qz280⟩, st280⟩ := Jvm.LawKit.callS X278 hx (y := (⟨"com/example/lumenstand/lumenstand/light/InterceptionAddPinLaw", "put", "([DII)V"⟩ : MethodName)) hown (mvT hZ (hw _ (List.mem_of_getElem? (i := 19) rfl))) (mvT hZ (hw _ (List.mem_of_getElem? (i := 20) rfl))) (mvT hZ (hw _ (List.mem_of_getElem? (i := 21) rfl))) (mvT hZ (hw _ (List.mem_of_getElem? (i := 22) rfl))) (by decide) (backOf (W := 0) (rm3_3 l Z a0 hw [] rb250_b8 (1 : Int32) p2 kk250_k8 (0 : UInt64) (0 : UInt64) (0 : UInt64) c81_c10_z4 c81_c10_z5 c81_c10_z7 c81_c10_z8 c81_c25_z4 c81_c25_z5 c81_c25_z7 c81_c25_z8 c81_c40_z4 c81_c40_z5 c81_c40_z7 c81_c40_z8 T275.heap n0 (Nat.le_trans (Nat.le_trans (Nat.le_trans (Nat.le_trans (Nat.le_trans (Nat.le_trans (Nat.le_trans (Nat.le_trans (Nat.le_trans Z0 E244.1) K246q.1) E248.1) K250q.1) K255q.1) K260q.1) K265q.1) K270q.1) K275q.1) f279 gn250_b8 hc81_c10_z4 hc81_c10_z5 hc81_c10_z7 hc81_c10_z8 hc81_c25_z4 hc81_c25_z5 hc81_c25_z7 hc81_c25_z8 hc81_c40_z4 hc81_c40_z5 hc81_c40_z7 hc81_c40_z8) hZ (hw _ (List.mem_of_getElem? (i := 22) rfl)) (hw _ (List.mem_of_getElem? (i := 21) rfl)) (by decide) (by decide)) (g := (mkF m 81 #[.val (.int p0), .val (.int p1), .val (.int p2), .val (.int (3 : Int32)), .val (.ref b244), .val (.ref b248)] [(.int p2), (.int (1 : Int32)), (.ref rb250_b8)])) rfl (by rw [hml]; rfl) (argsL := [(.ref rb250_b8), (.int (1 : Int32)), (.int p2)]) (rest := []) (lenOf pd_2 rfl) rfl (by show 2 * 0 + _ ≤ _; exact Nat.le_of_eq rfl) (hb hby at_81) (fun _ _ => ⟨rfl, e278, (by decide : 10 + 0 ≤ _), (by decide : 32 + 0 ≤ _)⟩)
    dsimp only [Pt.U, Pt.locs, Pt.cells, Pt.slots] at X280 ql280 qy280 qz280 st280 hQ280
    subst ql280 qy280 qz280
    obtain ⟨rfl, N280q, K280q, Q280_0⟩ := hQ280
    have N280 := Fr.app N275 N280q
    have K281 : Keep h0 T280.heap [] := Keep.trans K276 K280q (allS (Or.inr gy250_b8) all0)
    have f282 := ((((((Q250_3.keep K255q (ninS (Ne.symm (Nat.ne_of_lt (Nat.lt_of_lt_of_le (Q246_5).lt (Nat.le_of_eq g248.symm)))) nin0)).keep K260q (ninS (Ne.symm (Nat.ne_of_lt (Nat.lt_of_lt_of_le (Q246_6).lt (Nat.le_of_eq g248.symm)))) nin0)).keep K265q (ninS (Ne.symm (Nat.ne_of_lt (Nat.lt_of_lt_of_le (Q246_7).lt (Nat.le_of_eq g248.symm)))) nin0)).keep K270q (ninS (Ne.symm (Nat.ne_of_lt (Nat.lt_of_lt_of_le (Q246_8).lt (Nat.le_of_eq g248.symm)))) nin0)).keep K275q (ninS (Nat.ne_of_lt (Nat.lt_of_lt_of_le (A248).lt gz250_b2)) nin0)).keep K280q (ninS (Nat.ne_of_lt (Nat.lt_of_lt_of_le (A248).lt gz250_b8)) nin0))
    obtain ⟨T283, X283, e283, st283⟩ := getF X280 hx hZ hown (host := "") (Or.inl (hw _ (List.mem_of_getElem? (i := 24) rfl))) Via.refl rfl f282 (g := (mkF m 86 #[.val (.int p0), .val (.int p1), .val (.int p2), .val (.int (3 : Int32)), .val (.ref b244), .val (.ref b248)] [(.ref b248)])) rfl rfl (hb hby at_86)
    have f284 := ((((((Q250_7.keep K255q (ninS (Ne.symm (Nat.ne_of_lt (Nat.lt_of_lt_of_le ((Q246_5.ext E248)).lt gz250_b14))) nin0)).keep K260q (ninS (Ne.symm (Nat.ne_of_lt (Nat.lt_of_lt_of_le ((Q246_6.ext E248)).lt gz250_b14))) nin0)).keep K265q (ninS (Ne.symm (Nat.ne_of_lt (Nat.lt_of_lt_of_le ((Q246_7.ext E248)).lt gz250_b14))) nin0)).keep K270q (ninS (Ne.symm (Nat.ne_of_lt (Nat.lt_of_lt_of_le ((Q246_8.ext E248)).lt gz250_b14))) nin0)).keep K275q (ninS (Ne.symm D250_1) nin0)).keep K280q (ninS (Ne.symm D250_3) nin0))
    obtain ⟨_, _, ⟨T285, L285, k285, n285⟩, -, X285, ⟨Lc285, hQ285, ql285, qy285, qz285⟩, st285⟩ := Jvm.LawKit.callS X283 hx (y := (⟨"com/example/lumenstand/lumenstand/light/InterceptionAddPinLaw", "put", "([DII)V"⟩ : MethodName)) hown (mvT hZ (hw _ (List.mem_of_getElem? (i := 19) rfl))) (mvT hZ (hw _ (List.mem_of_getElem? (i := 20) rfl))) (mvT hZ (hw _ (List.mem_of_getElem? (i := 21) rfl))) (mvT hZ (hw _ (List.mem_of_getElem? (i := 22) rfl))) (by decide) (backOf (W := 0) (rm3_3 l Z a0 hw [] rb250_b14 (2 : Int32) p2 kk250_k14 (0 : UInt64) (0 : UInt64) (0 : UInt64) c91_c10_z4 c91_c10_z5 c91_c10_z7 c91_c10_z8 c91_c25_z4 c91_c25_z5 c91_c25_z7 c91_c25_z8 c91_c40_z4 c91_c40_z5 c91_c40_z7 c91_c40_z8 T280.heap n0 (Nat.le_trans (Nat.le_trans (Nat.le_trans (Nat.le_trans (Nat.le_trans (Nat.le_trans (Nat.le_trans (Nat.le_trans (Nat.le_trans (Nat.le_trans Z0 E244.1) K246q.1) E248.1) K250q.1) K255q.1) K260q.1) K265q.1) K270q.1) K275q.1) K280q.1) f284 gn250_b14 hc91_c10_z4 hc91_c10_z5 hc91_c10_z7 hc91_c10_z8 hc91_c25_z4 hc91_c25_z5 hc91_c25_z7 hc91_c25_z8 hc91_c40_z4 hc91_c40_z5 hc91_c40_z7 hc91_c40_z8) hZ (hw _ (List.mem_of_getElem? (i := 22) rfl)) (hw _ (List.mem_of_getElem? (i := 21) rfl)) (by decide) (by decide)) (g := (mkF m 91 #[.val (.int p0), .val (.int p1), .val (.int p2), .val (.int (3 : Int32)), .val (.ref b244), .val (.ref b248)] [(.int p2), (.int (2 : Int32)), (.ref rb250_b14)])) rfl (by rw [hml]; rfl) (argsL := [(.ref rb250_b14), (.int (2 : Int32)), (.int p2)]) (rest := []) (lenOf pd_2 rfl) rfl (by show 2 * 0 + _ ≤ _; exact Nat.le_of_eq rfl) (hb hby at_91) (fun _ _ => ⟨rfl, e283, (by decide : 10 + 0 ≤ _), (by decide : 32 + 0 ≤ _)⟩)
    dsimp only [Pt.U, Pt.locs, Pt.cells, Pt.slots] at X285 ql285 qy285 qz285 st285 hQ285
    subst ql285 qy285 qz285
    obtain ⟨rfl, N285q, K285q, Q285_0⟩ := hQ285
    have N285 := Fr.app N280 N285q
    have K286 : Keep h0 T285.heap [] := Keep.trans K281 K285q (allS (Or.inr gy250_b14) all0)
    have f287 := (((((((Q250_4.keep K255q (ninS (Ne.symm (Nat.ne_of_lt (Nat.lt_of_lt_of_le (Q246_5).lt (Nat.le_of_eq g248.symm)))) nin0)).keep K260q (ninS (Ne.symm (Nat.ne_of_lt (Nat.lt_of_lt_of_le (Q246_6).lt (Nat.le_of_eq g248.symm)))) nin0)).keep K265q (ninS (Ne.symm (Nat.ne_of_lt (Nat.lt_of_lt_of_le (Q246_7).lt (Nat.le_of_eq g248.symm)))) nin0)).keep K270q (ninS (Ne.symm (Nat.ne_of_lt (Nat.lt_of_lt_of_le (Q246_8).lt (Nat.le_of_eq g248.symm)))) nin0)).keep K275q (ninS (Nat.ne_of_lt (Nat.lt_of_lt_of_le (A248).lt gz250_b2)) nin0)).keep K280q (ninS (Nat.ne_of_lt (Nat.lt_of_lt_of_le (A248).lt gz250_b8)) nin0)).keep K285q (ninS (Nat.ne_of_lt (Nat.lt_of_lt_of_le (A248).lt gz250_b14)) nin0))
    obtain ⟨T288, X288, e288, st288⟩ := getF X285 hx hZ hown (host := "") (Or.inl (hw _ (List.mem_of_getElem? (i := 25) rfl))) Via.refl rfl f287 (g := (mkF m 96 #[.val (.int p0), .val (.int p1), .val (.int p2), .val (.int (3 : Int32)), .val (.ref b244), .val (.ref b248)] [(.ref b248)])) rfl rfl (hb hby at_96)
    have f289 := (((((((Q250_8.keep K255q (ninS (Ne.symm (Nat.ne_of_lt (Nat.lt_of_lt_of_le ((Q246_5.ext E248)).lt gz250_b20))) nin0)).keep K260q (ninS (Ne.symm (Nat.ne_of_lt (Nat.lt_of_lt_of_le ((Q246_6.ext E248)).lt gz250_b20))) nin0)).keep K265q (ninS (Ne.symm (Nat.ne_of_lt (Nat.lt_of_lt_of_le ((Q246_7.ext E248)).lt gz250_b20))) nin0)).keep K270q (ninS (Ne.symm (Nat.ne_of_lt (Nat.lt_of_lt_of_le ((Q246_8.ext E248)).lt gz250_b20))) nin0)).keep K275q (ninS (Ne.symm D250_2) nin0)).keep K280q (ninS (Ne.symm D250_4) nin0)).keep K285q (ninS (Ne.symm D250_5) nin0))
    obtain ⟨_, _, ⟨T290, L290, k290, n290⟩, -, X290, ⟨Lc290, hQ290, ql290, qy290, qz290⟩, st290⟩ := Jvm.LawKit.callS X288 hx (y := (⟨"com/example/lumenstand/lumenstand/light/InterceptionAddPinLaw", "put", "([DII)V"⟩ : MethodName)) hown (mvT hZ (hw _ (List.mem_of_getElem? (i := 19) rfl))) (mvT hZ (hw _ (List.mem_of_getElem? (i := 20) rfl))) (mvT hZ (hw _ (List.mem_of_getElem? (i := 21) rfl))) (mvT hZ (hw _ (List.mem_of_getElem? (i := 22) rfl))) (by decide) (backOf (W := 0) (rm3_3 l Z a0 hw [] rb250_b20 (3 : Int32) p2 kk250_k20 (0 : UInt64) (0 : UInt64) (0 : UInt64) c101_c10_z4 c101_c10_z5 c101_c10_z7 c101_c10_z8 c101_c25_z4 c101_c25_z5 c101_c25_z7 c101_c25_z8 c101_c40_z4 c101_c40_z5 c101_c40_z7 c101_c40_z8 T285.heap n0 (Nat.le_trans (Nat.le_trans (Nat.le_trans (Nat.le_trans (Nat.le_trans (Nat.le_trans (Nat.le_trans (Nat.le_trans (Nat.le_trans (Nat.le_trans (Nat.le_trans Z0 E244.1) K246q.1) E248.1) K250q.1) K255q.1) K260q.1) K265q.1) K270q.1) K275q.1) K280q.1) K285q.1) f289 gn250_b20 hc101_c10_z4 hc101_c10_z5 hc101_c10_z7 hc101_c10_z8 hc101_c25_z4 hc101_c25_z5 hc101_c25_z7 hc101_c25_z8 hc101_c40_z4 hc101_c40_z5 hc101_c40_z7 hc101_c40_z8) hZ (hw _ (List.mem_of_getElem? (i := 22) rfl)) (hw _ (List.mem_of_getElem? (i := 21) rfl)) (by decide) (by decide)) (g := (mkF m 101 #[.val (.int p0), .val (.int p1), .val (.int p2), .val (.int (3 : Int32)), .val (.ref b244), .val (.ref b248)] [(.int p2), (.int (3 : Int32)), (.ref rb250_b20)])) rfl (by rw [hml]; rfl) (argsL := [(.ref rb250_b20), (.int (3 : Int32)), (.int p2)]) (rest := []) (lenOf pd_2 rfl) rfl (by show 2 * 0 + _ ≤ _; exact Nat.le_of_eq rfl) (hb hby at_101) (fun _ _ => ⟨rfl, e288, (by decide : 10 + 0 ≤ _), (by decide : 32 + 0 ≤ _)⟩)
    dsimp only [Pt.U, Pt.locs, Pt.cells, Pt.slots] at X290 ql290 qy290 qz290 st290 hQ290
    subst ql290 qy290 qz290
    obtain ⟨rfl, N290q, K290q, Q290_0⟩ := hQ290
    have N290 := Fr.app N285 N290q
    have K291 : Keep h0 T290.heap [] := Keep.trans K286 K290q (allS (Or.inr gy250_b20) all0)
    have c108_nn24 := nnAdd (vv hc31_c10_z4 hc31_c10_z5 hc31_c10_z7 hc31_c10_z8) (vv hc71_c10_z4 hc71_c10_z5 hc71_c10_z7 hc71_c10_z8) hc108_z24
    have c108_nn24_2 := nnAdd (vv hc31_c25_z4 hc31_c25_z5 hc31_c25_z7 hc31_c25_z8) (vv hc71_c25_z4 hc71_c25_z5 hc71_c25_z7 hc71_c25_z8) hc108_z24_2
    have c108_nn24_3 := nnAdd (vv hc31_c40_z4 hc31_c40_z5 hc31_c40_z7 hc31_c40_z8) (vv hc71_c40_z4 hc71_c40_z5 hc71_c40_z7 hc71_c40_z8) hc108_z24_3
    have c108_nn39 := nnAdd (vv hc41_c10_z4 hc41_c10_z5 hc41_c10_z7 hc41_c10_z8) (vv hc81_c10_z4 hc81_c10_z5 hc81_c10_z7 hc81_c10_z8) hc108_z39
    have c108_nn39_2 := nnAdd (vv hc41_c25_z4 hc41_c25_z5 hc41_c25_z7 hc41_c25_z8) (vv hc81_c25_z4 hc81_c25_z5 hc81_c25_z7 hc81_c25_z8) hc108_z39_2
    have c108_nn39_3 := nnAdd (vv hc41_c40_z4 hc41_c40_z5 hc41_c40_z7 hc41_c40_z8) (vv hc81_c40_z4 hc81_c40_z5 hc81_c40_z7 hc81_c40_z8) hc108_z39_3
    have c108_nn54 := nnAdd (vv hc51_c10_z4 hc51_c10_z5 hc51_c10_z7 hc51_c10_z8) (vv hc91_c10_z4 hc91_c10_z5 hc91_c10_z7 hc91_c10_z8) hc108_z54
    have c108_nn54_2 := nnAdd (vv hc51_c25_z4 hc51_c25_z5 hc51_c25_z7 hc51_c25_z8) (vv hc91_c25_z4 hc91_c25_z5 hc91_c25_z7 hc91_c25_z8) hc108_z54_2
    have c108_nn54_3 := nnAdd (vv hc51_c40_z4 hc51_c40_z5 hc51_c40_z7 hc51_c40_z8) (vv hc91_c40_z4 hc91_c40_z5 hc91_c40_z7 hc91_c40_z8) hc108_z54_3
    have c108_nn69 := nnAdd (vv hc61_c10_z4 hc61_c10_z5 hc61_c10_z7 hc61_c10_z8) (vv hc101_c10_z4 hc101_c10_z5 hc101_c10_z7 hc101_c10_z8) hc108_z69
    have c108_nn69_2 := nnAdd (vv hc61_c25_z4 hc61_c25_z5 hc61_c25_z7 hc61_c25_z8) (vv hc101_c25_z4 hc101_c25_z5 hc101_c25_z7 hc101_c25_z8) hc108_z69_2
    have c108_nn69_3 := nnAdd (vv hc61_c40_z4 hc61_c40_z5 hc61_c40_z7 hc61_c40_z8) (vv hc101_c40_z4 hc101_c40_z5 hc101_c40_z7 hc101_c40_z8) hc108_z69_3
    have f292 := (((((((Q255_0.keep K260q (ninS D246_0 nin0)).keep K265q (ninS D246_1 nin0)).keep K270q (ninS D246_2 nin0)).keep K275q (ninS (Nat.ne_of_lt (Nat.lt_of_lt_of_le ((Q246_5.ext E248)).lt gz250_b2)) nin0)).keep K280q (ninS (Nat.ne_of_lt (Nat.lt_of_lt_of_le ((Q246_5.ext E248)).lt gz250_b8)) nin0)).keep K285q (ninS (Nat.ne_of_lt (Nat.lt_of_lt_of_le ((Q246_5.ext E248)).lt gz250_b14)) nin0)).keep K290q (ninS (Nat.ne_of_lt (Nat.lt_of_lt_of_le ((Q246_5.ext E248)).lt gz250_b20)) nin0))
    have f293 := (((Q275_0.keep K280q (ninS D250_0 nin0)).keep K285q (ninS D250_1 nin0)).keep K290q (ninS D250_2 nin0))
    have f294 := ((((((Q260_0.keep K265q (ninS D246_3 nin0)).keep K270q (ninS D246_4 nin0)).keep K275q (ninS (Nat.ne_of_lt (Nat.lt_of_lt_of_le ((Q246_6.ext E248)).lt gz250_b2)) nin0)).keep K280q (ninS (Nat.ne_of_lt (Nat.lt_of_lt_of_le ((Q246_6.ext E248)).lt gz250_b8)) nin0)).keep K285q (ninS (Nat.ne_of_lt (Nat.lt_of_lt_of_le ((Q246_6.ext E248)).lt gz250_b14)) nin0)).keep K290q (ninS (Nat.ne_of_lt (Nat.lt_of_lt_of_le ((Q246_6.ext E248)).lt gz250_b20)) nin0))
    have f295 := ((Q280_0.keep K285q (ninS D250_3 nin0)).keep K290q (ninS D250_4 nin0))
    have f296 := (((((Q265_0.keep K270q (ninS D246_5 nin0)).keep K275q (ninS (Nat.ne_of_lt (Nat.lt_of_lt_of_le ((Q246_7.ext E248)).lt gz250_b2)) nin0)).keep K280q (ninS (Nat.ne_of_lt (Nat.lt_of_lt_of_le ((Q246_7.ext E248)).lt gz250_b8)) nin0)).keep K285q (ninS (Nat.ne_of_lt (Nat.lt_of_lt_of_le ((Q246_7.ext E248)).lt gz250_b14)) nin0)).keep K290q (ninS (Nat.ne_of_lt (Nat.lt_of_lt_of_le ((Q246_7.ext E248)).lt gz250_b20)) nin0))
    have f297 := (Q285_0.keep K290q (ninS D250_5 nin0))
    have f298 := ((((Q270_0.keep K275q (ninS (Nat.ne_of_lt (Nat.lt_of_lt_of_le ((Q246_8.ext E248)).lt gz250_b2)) nin0)).keep K280q (ninS (Nat.ne_of_lt (Nat.lt_of_lt_of_le ((Q246_8.ext E248)).lt gz250_b8)) nin0)).keep K285q (ninS (Nat.ne_of_lt (Nat.lt_of_lt_of_le ((Q246_8.ext E248)).lt gz250_b14)) nin0)).keep K290q (ninS (Nat.ne_of_lt (Nat.lt_of_lt_of_le ((Q246_8.ext E248)).lt gz250_b20)) nin0))
    have f299 := ((((((((f252.keep K255q (ninS (Nat.ne_of_lt (Nat.lt_of_lt_of_le (A244).lt gz246_b2)) nin0)).keep K260q (ninS (Nat.ne_of_lt (Nat.lt_of_lt_of_le (A244).lt gz246_b8)) nin0)).keep K265q (ninS (Nat.ne_of_lt (Nat.lt_of_lt_of_le (A244).lt gz246_b14)) nin0)).keep K270q (ninS (Nat.ne_of_lt (Nat.lt_of_lt_of_le (A244).lt gz246_b20)) nin0)).keep K275q (ninS (Nat.ne_of_lt (Nat.lt_of_lt_of_le ((Q246_0.ext E248)).lt gz250_b2)) nin0)).keep K280q (ninS (Nat.ne_of_lt (Nat.lt_of_lt_of_le ((Q246_0.ext E248)).lt gz250_b8)) nin0)).keep K285q (ninS (Nat.ne_of_lt (Nat.lt_of_lt_of_le ((Q246_0.ext E248)).lt gz250_b14)) nin0)).keep K290q (ninS (Nat.ne_of_lt (Nat.lt_of_lt_of_le ((Q246_0.ext E248)).lt gz250_b20)) nin0))
    have f300 := ((((f272.keep K275q (ninS (Nat.ne_of_lt (Nat.lt_of_lt_of_le (A248).lt gz250_b2)) nin0)).keep K280q (ninS (Nat.ne_of_lt (Nat.lt_of_lt_of_le (A248).lt gz250_b8)) nin0)).keep K285q (ninS (Nat.ne_of_lt (Nat.lt_of_lt_of_le (A248).lt gz250_b14)) nin0)).keep K290q (ninS (Nat.ne_of_lt (Nat.lt_of_lt_of_le (A248).lt gz250_b20)) nin0))
    have f301 := (((((((f257.keep K260q (ninS (Nat.ne_of_lt (Nat.lt_of_lt_of_le (A244).lt gz246_b8)) nin0)).keep K265q (ninS (Nat.ne_of_lt (Nat.lt_of_lt_of_le (A244).lt gz246_b14)) nin0)).keep K270q (ninS (Nat.ne_of_lt (Nat.lt_of_lt_of_le (A244).lt gz246_b20)) nin0)).keep K275q (ninS (Nat.ne_of_lt (Nat.lt_of_lt_of_le ((Q246_0.ext E248)).lt gz250_b2)) nin0)).keep K280q (ninS (Nat.ne_of_lt (Nat.lt_of_lt_of_le ((Q246_0.ext E248)).lt gz250_b8)) nin0)).keep K285q (ninS (Nat.ne_of_lt (Nat.lt_of_lt_of_le ((Q246_0.ext E248)).lt gz250_b14)) nin0)).keep K290q (ninS (Nat.ne_of_lt (Nat.lt_of_lt_of_le ((Q246_0.ext E248)).lt gz250_b20)) nin0))
    have f302 := (((f277.keep K280q (ninS (Nat.ne_of_lt (Nat.lt_of_lt_of_le (A248).lt gz250_b8)) nin0)).keep K285q (ninS (Nat.ne_of_lt (Nat.lt_of_lt_of_le (A248).lt gz250_b14)) nin0)).keep K290q (ninS (Nat.ne_of_lt (Nat.lt_of_lt_of_le (A248).lt gz250_b20)) nin0))
    have f303 := ((((((f262.keep K265q (ninS (Nat.ne_of_lt (Nat.lt_of_lt_of_le (A244).lt gz246_b14)) nin0)).keep K270q (ninS (Nat.ne_of_lt (Nat.lt_of_lt_of_le (A244).lt gz246_b20)) nin0)).keep K275q (ninS (Nat.ne_of_lt (Nat.lt_of_lt_of_le ((Q246_0.ext E248)).lt gz250_b2)) nin0)).keep K280q (ninS (Nat.ne_of_lt (Nat.lt_of_lt_of_le ((Q246_0.ext E248)).lt gz250_b8)) nin0)).keep K285q (ninS (Nat.ne_of_lt (Nat.lt_of_lt_of_le ((Q246_0.ext E248)).lt gz250_b14)) nin0)).keep K290q (ninS (Nat.ne_of_lt (Nat.lt_of_lt_of_le ((Q246_0.ext E248)).lt gz250_b20)) nin0))
    have f304 := ((f282.keep K285q (ninS (Nat.ne_of_lt (Nat.lt_of_lt_of_le (A248).lt gz250_b14)) nin0)).keep K290q (ninS (Nat.ne_of_lt (Nat.lt_of_lt_of_le (A248).lt gz250_b20)) nin0))
    have f305 := (((((f267.keep K270q (ninS (Nat.ne_of_lt (Nat.lt_of_lt_of_le (A244).lt gz246_b20)) nin0)).keep K275q (ninS (Nat.ne_of_lt (Nat.lt_of_lt_of_le ((Q246_0.ext E248)).lt gz250_b2)) nin0)).keep K280q (ninS (Nat.ne_of_lt (Nat.lt_of_lt_of_le ((Q246_0.ext E248)).lt gz250_b8)) nin0)).keep K285q (ninS (Nat.ne_of_lt (Nat.lt_of_lt_of_le ((Q246_0.ext E248)).lt gz250_b14)) nin0)).keep K290q (ninS (Nat.ne_of_lt (Nat.lt_of_lt_of_le ((Q246_0.ext E248)).lt gz250_b20)) nin0))
    have f306 := (f287.keep K290q (ninS (Nat.ne_of_lt (Nat.lt_of_lt_of_le (A248).lt gz250_b20)) nin0))
    have f308 := ((((((((((Q246_0.ext E248).keep K250q).keep K255q).keep K260q).keep K265q).keep K270q).keep K275q).keep K280q).keep K285q).keep K290q)
    obtain ⟨cq307, kq307, q307a, q307b, q307c⟩ := isOf hZ rfl f308
    obtain ⟨_, _, ⟨T307, L307, k307, n307⟩, -, X307, ⟨Lc307, hQ307, ql307, qy307, qz307⟩, st307⟩ := X290.virtualBack hx (y := (⟨"com/example/lumenstand/lumenstand/light/Interception", "add", "(Lcom/example/lumenstand/lumenstand/light/Interception;)V"⟩ : MethodName)) (z := (⟨"com/example/lumenstand/lumenstand/light/Interception", "add", "(Lcom/example/lumenstand/lumenstand/light/Interception;)V"⟩ : MethodName)) hown (mvT hZ (hw _ (List.mem_of_getElem? (i := 26) rfl))) (mvT hZ (hw _ (List.mem_of_getElem? (i := 27) rfl))) (notFace_of_selects (args := #[]) (mvT hZ (hw _ (List.mem_of_getElem? (i := 29) rfl)))) (mvT hZ (hw _ (List.mem_of_getElem? (i := 29) rfl))) (mvT hZ (hw _ (List.mem_of_getElem? (i := 28) rfl))) (by decide) (backOf (W := 0) (rm4_3 l Z a0 hw [] b244 b248 kk246_k2 c31_c10_z8 c31_c25_z8 c31_c40_z8 kk250_k2 c71_c10_z8 c71_c25_z8 c71_c40_z8 kk246_k8 c41_c10_z8 c41_c25_z8 c41_c40_z8 kk250_k8 c81_c10_z8 c81_c25_z8 c81_c40_z8 kk246_k14 c51_c10_z8 c51_c25_z8 c51_c40_z8 kk250_k14 c91_c10_z8 c91_c25_z8 c91_c40_z8 kk246_k20 c61_c10_z8 c61_c25_z8 c61_c40_z8 kk250_k20 c101_c10_z8 c101_c25_z8 c101_c40_z8 rb246_b2 rb250_b2 rb246_b8 rb250_b8 rb246_b14 rb250_b14 rb246_b20 rb250_b20 c108_z24 c108_z39 c108_z54 c108_z69 c108_z24_2 c108_z39_2 c108_z54_2 c108_z69_2 c108_z24_3 c108_z39_3 c108_z54_3 c108_z69_3 T290.heap n0 (Nat.le_trans (Nat.le_trans (Nat.le_trans (Nat.le_trans (Nat.le_trans (Nat.le_trans (Nat.le_trans (Nat.le_trans (Nat.le_trans (Nat.le_trans (Nat.le_trans (Nat.le_trans Z0 E244.1) K246q.1) E248.1) K250q.1) K255q.1) K260q.1) K265q.1) K270q.1) K275q.1) K280q.1) K285q.1) K290q.1) f292 f293 f294 f295 f296 f297 f298 Q290_0 ((Nat.ne_of_lt (Nat.lt_of_lt_of_le (A244).lt gz246_b2))) ((Ne.symm (Nat.ne_of_lt (Nat.lt_of_lt_of_le (Q246_5).lt (Nat.le_of_eq g248.symm))))) ((Nat.ne_of_lt (Nat.lt_of_lt_of_le (A244).lt gz246_b8))) ((Ne.symm (Nat.ne_of_lt (Nat.lt_of_lt_of_le (Q246_6).lt (Nat.le_of_eq g248.symm))))) ((Nat.ne_of_lt (Nat.lt_of_lt_of_le (A244).lt gz246_b14))) ((Ne.symm (Nat.ne_of_lt (Nat.lt_of_lt_of_le (Q246_7).lt (Nat.le_of_eq g248.symm))))) ((Nat.ne_of_lt (Nat.lt_of_lt_of_le (A244).lt gz246_b20))) ((Ne.symm (Nat.ne_of_lt (Nat.lt_of_lt_of_le (Q246_8).lt (Nat.le_of_eq g248.symm))))) D246_0 D246_1 D246_2 D246_3 D246_4 D246_5 ((Nat.ne_of_lt (Nat.lt_of_lt_of_le ((Q246_5.ext E248)).lt gz250_b2))) ((Nat.ne_of_lt (Nat.lt_of_lt_of_le ((Q246_5.ext E248)).lt gz250_b8))) ((Nat.ne_of_lt (Nat.lt_of_lt_of_le ((Q246_5.ext E248)).lt gz250_b14))) ((Nat.ne_of_lt (Nat.lt_of_lt_of_le ((Q246_5.ext E248)).lt gz250_b20))) ((Nat.ne_of_lt (Nat.lt_of_lt_of_le ((Q246_6.ext E248)).lt gz250_b2))) ((Nat.ne_of_lt (Nat.lt_of_lt_of_le ((Q246_6.ext E248)).lt gz250_b8))) ((Nat.ne_of_lt (Nat.lt_of_lt_of_le ((Q246_6.ext E248)).lt gz250_b14))) ((Nat.ne_of_lt (Nat.lt_of_lt_of_le ((Q246_6.ext E248)).lt gz250_b20))) ((Nat.ne_of_lt (Nat.lt_of_lt_of_le ((Q246_7.ext E248)).lt gz250_b2))) ((Nat.ne_of_lt (Nat.lt_of_lt_of_le ((Q246_7.ext E248)).lt gz250_b8))) ((Nat.ne_of_lt (Nat.lt_of_lt_of_le ((Q246_7.ext E248)).lt gz250_b14))) ((Nat.ne_of_lt (Nat.lt_of_lt_of_le ((Q246_7.ext E248)).lt gz250_b20))) ((Nat.ne_of_lt (Nat.lt_of_lt_of_le ((Q246_8.ext E248)).lt gz250_b2))) ((Nat.ne_of_lt (Nat.lt_of_lt_of_le ((Q246_8.ext E248)).lt gz250_b8))) ((Nat.ne_of_lt (Nat.lt_of_lt_of_le ((Q246_8.ext E248)).lt gz250_b14))) ((Nat.ne_of_lt (Nat.lt_of_lt_of_le ((Q246_8.ext E248)).lt gz250_b20))) gn246_b2 gn246_b8 gn246_b14 gn246_b20 f299 f300 f301 f302 f303 f304 f305 f306 hc108_z24 hc108_z39 hc108_z54 hc108_z69 hc108_z24_2 hc108_z39_2 hc108_z54_2 hc108_z69_2 hc108_z24_3 hc108_z39_3 hc108_z54_3 hc108_z69_3 c108_nn24 c108_nn39 c108_nn54 c108_nn69 c108_nn24_2 c108_nn39_2 c108_nn54_2 c108_nn69_2 c108_nn24_3 c108_nn39_3 c108_nn54_3 c108_nn69_3) hZ (hw _ (List.mem_of_getElem? (i := 30) rfl)) (hw _ (List.mem_of_getElem? (i := 2) rfl)) (by decide) (by decide)) q307a q307c (g := (mkF m 108 #[.val (.int p0), .val (.int p1), .val (.int p2), .val (.int (3 : Int32)), .val (.ref b244), .val (.ref b248)] [(.ref b248), (.ref b244)])) rfl (by rw [hml]; rfl) (Steps.refl _) (argsL := [(.ref b248)]) (rest := []) (lenOf pd_3 rfl) rfl (by show 2 * 0 + _ ≤ _; exact Nat.le_of_eq rfl) (hb hby at_108) (fun _ _ => ⟨rfl, rfl, (by decide : 10 + 0 ≤ _), (by decide : 32 + 0 ≤ _)⟩)
    dsimp only [Pt.U, Pt.locs, Pt.cells, Pt.slots] at X307 ql307 qy307 qz307 st307 hQ307
    subst ql307 qy307 qz307
    obtain ⟨rfl, N307q, K307q, Q307_0, Q307_1, Q307_2, Q307_3⟩ := hQ307
    have N307 := Fr.app N290 N307q
    have K309 : Keep h0 T307.heap [] := Keep.trans K291 K307q (allS (Or.inr gy246_b2) (allS (Or.inr gy246_b8) (allS (Or.inr gy246_b14) (allS (Or.inr gy246_b20) all0))))
    have f310 := (f299.keep K307q (ninS (Nat.ne_of_lt (Nat.lt_of_lt_of_le (A244).lt gz246_b2)) (ninS (Nat.ne_of_lt (Nat.lt_of_lt_of_le (A244).lt gz246_b8)) (ninS (Nat.ne_of_lt (Nat.lt_of_lt_of_le (A244).lt gz246_b14)) (ninS (Nat.ne_of_lt (Nat.lt_of_lt_of_le (A244).lt gz246_b20)) nin0)))))
    obtain ⟨T311, X311, e311, st311⟩ := getF X307 hx hZ hown (host := "") (Or.inl (hw _ (List.mem_of_getElem? (i := 18) rfl))) Via.refl rfl f310 (g := (mkF m 113 #[.val (.int p0), .val (.int p1), .val (.int p2), .val (.int (3 : Int32)), .val (.ref b244), .val (.ref b248)] [(.ref b244)])) rfl rfl (hb hby at_113)
    have c120_nn27 := nnAdd (vv hc120_c17_z4 hc120_c17_z5 hc120_c17_z7 hc120_c17_z8) (vv hc120_c24_z4 hc120_c24_z5 hc120_c24_z7 hc120_c24_z8) hc120_z27
    have c120_br29 := sums (vv hc31_c10_z4 hc31_c10_z5 hc31_c10_z7 hc31_c10_z8) (vv hc71_c10_z4 hc71_c10_z5 hc71_c10_z7 hc71_c10_z8) (vv hc120_c17_z4 hc120_c17_z5 hc120_c17_z7 hc120_c17_z8) (vv hc120_c24_z4 hc120_c24_z5 hc120_c24_z7 hc120_c24_z8) hc108_z24 hc120_z27 hc120_z28
    have c120_nn53 := nnAdd (vv hc120_c43_z4 hc120_c43_z5 hc120_c43_z7 hc120_c43_z8) (vv hc120_c50_z4 hc120_c50_z5 hc120_c50_z7 hc120_c50_z8) hc120_z53
    have c120_br55 := sums (vv hc31_c25_z4 hc31_c25_z5 hc31_c25_z7 hc31_c25_z8) (vv hc71_c25_z4 hc71_c25_z5 hc71_c25_z7 hc71_c25_z8) (vv hc120_c43_z4 hc120_c43_z5 hc120_c43_z7 hc120_c43_z8) (vv hc120_c50_z4 hc120_c50_z5 hc120_c50_z7 hc120_c50_z8) hc108_z24_2 hc120_z53 hc120_z54
    have c120_nn79 := nnAdd (vv hc120_c69_z4 hc120_c69_z5 hc120_c69_z7 hc120_c69_z8) (vv hc120_c76_z4 hc120_c76_z5 hc120_c76_z7 hc120_c76_z8) hc120_z79
    have c120_br81 := sums (vv hc31_c40_z4 hc31_c40_z5 hc31_c40_z7 hc31_c40_z8) (vv hc71_c40_z4 hc71_c40_z5 hc71_c40_z7 hc71_c40_z8) (vv hc120_c69_z4 hc120_c69_z5 hc120_c69_z7 hc120_c69_z8) (vv hc120_c76_z4 hc120_c76_z5 hc120_c76_z7 hc120_c76_z8) hc108_z24_3 hc120_z79 hc120_z80
    obtain ⟨_, _, ⟨T312, L312, k312, n312⟩, -, X312, ⟨Lc312, hQ312, ql312, qy312, qz312⟩, st312⟩ := Jvm.LawKit.callS X311 hx (y := (⟨"com/example/lumenstand/lumenstand/light/InterceptionAddPinLaw", "sum", "([DIIII)Z"⟩ : MethodName)) hown (mvT hZ (hw _ (List.mem_of_getElem? (i := 31) rfl))) (mvT hZ (hw _ (List.mem_of_getElem? (i := 32) rfl))) (mvT hZ (hw _ (List.mem_of_getElem? (i := 21) rfl))) (mvT hZ (hw _ (List.mem_of_getElem? (i := 33) rfl))) (by decide) (backOf (W := 0) (rm5_3 l Z a0 hw [] rb246_b2 (0 : Int32) p1 p2 kk246_k2 c108_z24 c108_z24_2 c108_z24_3 c120_c17_z4 c120_c17_z5 c120_c17_z7 c120_c17_z8 c120_c24_z4 c120_c24_z5 c120_c24_z7 c120_c24_z8 c120_z27 c120_z28 c120_c43_z4 c120_c43_z5 c120_c43_z7 c120_c43_z8 c120_c50_z4 c120_c50_z5 c120_c50_z7 c120_c50_z8 c120_z53 c120_z54 c120_c69_z4 c120_c69_z5 c120_c69_z7 c120_c69_z8 c120_c76_z4 c120_c76_z5 c120_c76_z7 c120_c76_z8 c120_z79 c120_z80 T307.heap n0 (Nat.le_trans (Nat.le_trans (Nat.le_trans (Nat.le_trans (Nat.le_trans (Nat.le_trans (Nat.le_trans (Nat.le_trans (Nat.le_trans (Nat.le_trans (Nat.le_trans (Nat.le_trans (Nat.le_trans Z0 E244.1) K246q.1) E248.1) K250q.1) K255q.1) K260q.1) K265q.1) K270q.1) K275q.1) K280q.1) K285q.1) K290q.1) K307q.1) Q307_0 hc120_c17_z4 hc120_c17_z5 hc120_c17_z7 hc120_c17_z8 hc120_c24_z4 hc120_c24_z5 hc120_c24_z7 hc120_c24_z8 hc120_z27 hc120_z28 hc120_c43_z4 hc120_c43_z5 hc120_c43_z7 hc120_c43_z8 hc120_c50_z4 hc120_c50_z5 hc120_c50_z7 hc120_c50_z8 hc120_z53 hc120_z54 hc120_c69_z4 hc120_c69_z5 hc120_c69_z7 hc120_c69_z8 hc120_c76_z4 hc120_c76_z5 hc120_c76_z7 hc120_c76_z8 hc120_z79 hc120_z80 c120_nn27 c120_br29 c120_nn53 c120_br55 c120_nn79 c120_br81) hZ (hw _ (List.mem_of_getElem? (i := 33) rfl)) (hw _ (List.mem_of_getElem? (i := 21) rfl)) (by decide) (by decide)) (g := (mkF m 120 #[.val (.int p0), .val (.int p1), .val (.int p2), .val (.int (3 : Int32)), .val (.ref b244), .val (.ref b248)] [(.int p2), (.int p1), (.int (0 : Int32)), (.int (3 : Int32)), (.ref rb246_b2)])) rfl (by rw [hml]; rfl) (argsL := [(.ref rb246_b2), (.int (3 : Int32)), (.int (0 : Int32)), (.int p1), (.int p2)]) (rest := []) (lenOf pd_4 rfl) rfl (by show 2 * 0 + _ ≤ _; exact Nat.le_of_eq rfl) (hb hby at_120) (fun _ _ => ⟨rfl, e311, (by decide : 10 + 0 ≤ _), (by decide : 32 + 0 ≤ _)⟩)
    dsimp only [Pt.U, Pt.locs, Pt.cells, Pt.slots] at X312 ql312 qy312 qz312 st312 hQ312
    subst ql312 qy312 qz312
    obtain ⟨rfl, N312q, e312⟩ := hQ312
    have N312 := Fr.app N307 N312q
    have f313 := (f301.keep K307q (ninS (Nat.ne_of_lt (Nat.lt_of_lt_of_le (A244).lt gz246_b2)) (ninS (Nat.ne_of_lt (Nat.lt_of_lt_of_le (A244).lt gz246_b8)) (ninS (Nat.ne_of_lt (Nat.lt_of_lt_of_le (A244).lt gz246_b14)) (ninS (Nat.ne_of_lt (Nat.lt_of_lt_of_le (A244).lt gz246_b20)) nin0)))))
    obtain ⟨T314, X314, e314, st314⟩ := getF X312 hx hZ hown (host := "") (Or.inl (hw _ (List.mem_of_getElem? (i := 23) rfl))) Via.refl e312 f313 (g := (mkF m 128 #[.val (.int p0), .val (.int p1), .val (.int p2), .val (.int (3 : Int32)), .val (.ref b244), .val (.ref b248)] [(.ref b244)])) rfl rfl (hb hby at_128)
    have c135_nn27 := nnAdd (vv hc135_c17_z4 hc135_c17_z5 hc135_c17_z7 hc135_c17_z8) (vv hc135_c24_z4 hc135_c24_z5 hc135_c24_z7 hc135_c24_z8) hc135_z27
    have c135_br29 := sums (vv hc41_c10_z4 hc41_c10_z5 hc41_c10_z7 hc41_c10_z8) (vv hc81_c10_z4 hc81_c10_z5 hc81_c10_z7 hc81_c10_z8) (vv hc135_c17_z4 hc135_c17_z5 hc135_c17_z7 hc135_c17_z8) (vv hc135_c24_z4 hc135_c24_z5 hc135_c24_z7 hc135_c24_z8) hc108_z39 hc135_z27 hc135_z28
    have c135_nn53 := nnAdd (vv hc135_c43_z4 hc135_c43_z5 hc135_c43_z7 hc135_c43_z8) (vv hc135_c50_z4 hc135_c50_z5 hc135_c50_z7 hc135_c50_z8) hc135_z53
    have c135_br55 := sums (vv hc41_c25_z4 hc41_c25_z5 hc41_c25_z7 hc41_c25_z8) (vv hc81_c25_z4 hc81_c25_z5 hc81_c25_z7 hc81_c25_z8) (vv hc135_c43_z4 hc135_c43_z5 hc135_c43_z7 hc135_c43_z8) (vv hc135_c50_z4 hc135_c50_z5 hc135_c50_z7 hc135_c50_z8) hc108_z39_2 hc135_z53 hc135_z54
    have c135_nn79 := nnAdd (vv hc135_c69_z4 hc135_c69_z5 hc135_c69_z7 hc135_c69_z8) (vv hc135_c76_z4 hc135_c76_z5 hc135_c76_z7 hc135_c76_z8) hc135_z79
    have c135_br81 := sums (vv hc41_c40_z4 hc41_c40_z5 hc41_c40_z7 hc41_c40_z8) (vv hc81_c40_z4 hc81_c40_z5 hc81_c40_z7 hc81_c40_z8) (vv hc135_c69_z4 hc135_c69_z5 hc135_c69_z7 hc135_c69_z8) (vv hc135_c76_z4 hc135_c76_z5 hc135_c76_z7 hc135_c76_z8) hc108_z39_3 hc135_z79 hc135_z80
    obtain ⟨_, _, ⟨T315, L315, k315, n315⟩, -, X315, ⟨Lc315, hQ315, ql315, qy315, qz315⟩, st315⟩ := Jvm.LawKit.callS X314 hx (y := (⟨"com/example/lumenstand/lumenstand/light/InterceptionAddPinLaw", "sum", "([DIIII)Z"⟩ : MethodName)) hown (mvT hZ (hw _ (List.mem_of_getElem? (i := 31) rfl))) (mvT hZ (hw _ (List.mem_of_getElem? (i := 32) rfl))) (mvT hZ (hw _ (List.mem_of_getElem? (i := 21) rfl))) (mvT hZ (hw _ (List.mem_of_getElem? (i := 33) rfl))) (by decide) (backOf (W := 0) (rm5_3 l Z a0 hw [] rb246_b8 (1 : Int32) p1 p2 kk246_k8 c108_z39 c108_z39_2 c108_z39_3 c135_c17_z4 c135_c17_z5 c135_c17_z7 c135_c17_z8 c135_c24_z4 c135_c24_z5 c135_c24_z7 c135_c24_z8 c135_z27 c135_z28 c135_c43_z4 c135_c43_z5 c135_c43_z7 c135_c43_z8 c135_c50_z4 c135_c50_z5 c135_c50_z7 c135_c50_z8 c135_z53 c135_z54 c135_c69_z4 c135_c69_z5 c135_c69_z7 c135_c69_z8 c135_c76_z4 c135_c76_z5 c135_c76_z7 c135_c76_z8 c135_z79 c135_z80 T307.heap n0 (Nat.le_trans (Nat.le_trans (Nat.le_trans (Nat.le_trans (Nat.le_trans (Nat.le_trans (Nat.le_trans (Nat.le_trans (Nat.le_trans (Nat.le_trans (Nat.le_trans (Nat.le_trans (Nat.le_trans Z0 E244.1) K246q.1) E248.1) K250q.1) K255q.1) K260q.1) K265q.1) K270q.1) K275q.1) K280q.1) K285q.1) K290q.1) K307q.1) Q307_1 hc135_c17_z4 hc135_c17_z5 hc135_c17_z7 hc135_c17_z8 hc135_c24_z4 hc135_c24_z5 hc135_c24_z7 hc135_c24_z8 hc135_z27 hc135_z28 hc135_c43_z4 hc135_c43_z5 hc135_c43_z7 hc135_c43_z8 hc135_c50_z4 hc135_c50_z5 hc135_c50_z7 hc135_c50_z8 hc135_z53 hc135_z54 hc135_c69_z4 hc135_c69_z5 hc135_c69_z7 hc135_c69_z8 hc135_c76_z4 hc135_c76_z5 hc135_c76_z7 hc135_c76_z8 hc135_z79 hc135_z80 c135_nn27 c135_br29 c135_nn53 c135_br55 c135_nn79 c135_br81) hZ (hw _ (List.mem_of_getElem? (i := 33) rfl)) (hw _ (List.mem_of_getElem? (i := 21) rfl)) (by decide) (by decide)) (g := (mkF m 135 #[.val (.int p0), .val (.int p1), .val (.int p2), .val (.int (3 : Int32)), .val (.ref b244), .val (.ref b248)] [(.int p2), (.int p1), (.int (1 : Int32)), (.int (3 : Int32)), (.ref rb246_b8)])) rfl (by rw [hml]; rfl) (argsL := [(.ref rb246_b8), (.int (3 : Int32)), (.int (1 : Int32)), (.int p1), (.int p2)]) (rest := []) (lenOf pd_4 rfl) rfl (by show 2 * 0 + _ ≤ _; exact Nat.le_of_eq rfl) (hb hby at_135) (fun _ _ => ⟨rfl, e314, (by decide : 10 + 0 ≤ _), (by decide : 32 + 0 ≤ _)⟩)
    dsimp only [Pt.U, Pt.locs, Pt.cells, Pt.slots] at X315 ql315 qy315 qz315 st315 hQ315
    subst ql315 qy315 qz315
    obtain ⟨rfl, N315q, e315⟩ := hQ315
    have N315 := Fr.app N312 N315q
    have f316 := (f303.keep K307q (ninS (Nat.ne_of_lt (Nat.lt_of_lt_of_le (A244).lt gz246_b2)) (ninS (Nat.ne_of_lt (Nat.lt_of_lt_of_le (A244).lt gz246_b8)) (ninS (Nat.ne_of_lt (Nat.lt_of_lt_of_le (A244).lt gz246_b14)) (ninS (Nat.ne_of_lt (Nat.lt_of_lt_of_le (A244).lt gz246_b20)) nin0)))))
    obtain ⟨T317, X317, e317, st317⟩ := getF X315 hx hZ hown (host := "") (Or.inl (hw _ (List.mem_of_getElem? (i := 24) rfl))) Via.refl e315 f316 (g := (mkF m 143 #[.val (.int p0), .val (.int p1), .val (.int p2), .val (.int (3 : Int32)), .val (.ref b244), .val (.ref b248)] [(.ref b244)])) rfl rfl (hb hby at_143)
    have c150_nn27 := nnAdd (vv hc150_c17_z4 hc150_c17_z5 hc150_c17_z7 hc150_c17_z8) (vv hc150_c24_z4 hc150_c24_z5 hc150_c24_z7 hc150_c24_z8) hc150_z27
    have c150_br29 := sums (vv hc51_c10_z4 hc51_c10_z5 hc51_c10_z7 hc51_c10_z8) (vv hc91_c10_z4 hc91_c10_z5 hc91_c10_z7 hc91_c10_z8) (vv hc150_c17_z4 hc150_c17_z5 hc150_c17_z7 hc150_c17_z8) (vv hc150_c24_z4 hc150_c24_z5 hc150_c24_z7 hc150_c24_z8) hc108_z54 hc150_z27 hc150_z28
    have c150_nn53 := nnAdd (vv hc150_c43_z4 hc150_c43_z5 hc150_c43_z7 hc150_c43_z8) (vv hc150_c50_z4 hc150_c50_z5 hc150_c50_z7 hc150_c50_z8) hc150_z53
    have c150_br55 := sums (vv hc51_c25_z4 hc51_c25_z5 hc51_c25_z7 hc51_c25_z8) (vv hc91_c25_z4 hc91_c25_z5 hc91_c25_z7 hc91_c25_z8) (vv hc150_c43_z4 hc150_c43_z5 hc150_c43_z7 hc150_c43_z8) (vv hc150_c50_z4 hc150_c50_z5 hc150_c50_z7 hc150_c50_z8) hc108_z54_2 hc150_z53 hc150_z54
    have c150_nn79 := nnAdd (vv hc150_c69_z4 hc150_c69_z5 hc150_c69_z7 hc150_c69_z8) (vv hc150_c76_z4 hc150_c76_z5 hc150_c76_z7 hc150_c76_z8) hc150_z79
    have c150_br81 := sums (vv hc51_c40_z4 hc51_c40_z5 hc51_c40_z7 hc51_c40_z8) (vv hc91_c40_z4 hc91_c40_z5 hc91_c40_z7 hc91_c40_z8) (vv hc150_c69_z4 hc150_c69_z5 hc150_c69_z7 hc150_c69_z8) (vv hc150_c76_z4 hc150_c76_z5 hc150_c76_z7 hc150_c76_z8) hc108_z54_3 hc150_z79 hc150_z80
    obtain ⟨_, _, ⟨T318, L318, k318, n318⟩, -, X318, ⟨Lc318, hQ318, ql318, qy318, qz318⟩, st318⟩ := Jvm.LawKit.callS X317 hx (y := (⟨"com/example/lumenstand/lumenstand/light/InterceptionAddPinLaw", "sum", "([DIIII)Z"⟩ : MethodName)) hown (mvT hZ (hw _ (List.mem_of_getElem? (i := 31) rfl))) (mvT hZ (hw _ (List.mem_of_getElem? (i := 32) rfl))) (mvT hZ (hw _ (List.mem_of_getElem? (i := 21) rfl))) (mvT hZ (hw _ (List.mem_of_getElem? (i := 33) rfl))) (by decide) (backOf (W := 0) (rm5_3 l Z a0 hw [] rb246_b14 (2 : Int32) p1 p2 kk246_k14 c108_z54 c108_z54_2 c108_z54_3 c150_c17_z4 c150_c17_z5 c150_c17_z7 c150_c17_z8 c150_c24_z4 c150_c24_z5 c150_c24_z7 c150_c24_z8 c150_z27 c150_z28 c150_c43_z4 c150_c43_z5 c150_c43_z7 c150_c43_z8 c150_c50_z4 c150_c50_z5 c150_c50_z7 c150_c50_z8 c150_z53 c150_z54 c150_c69_z4 c150_c69_z5 c150_c69_z7 c150_c69_z8 c150_c76_z4 c150_c76_z5 c150_c76_z7 c150_c76_z8 c150_z79 c150_z80 T307.heap n0 (Nat.le_trans (Nat.le_trans (Nat.le_trans (Nat.le_trans (Nat.le_trans (Nat.le_trans (Nat.le_trans (Nat.le_trans (Nat.le_trans (Nat.le_trans (Nat.le_trans (Nat.le_trans (Nat.le_trans Z0 E244.1) K246q.1) E248.1) K250q.1) K255q.1) K260q.1) K265q.1) K270q.1) K275q.1) K280q.1) K285q.1) K290q.1) K307q.1) Q307_2 hc150_c17_z4 hc150_c17_z5 hc150_c17_z7 hc150_c17_z8 hc150_c24_z4 hc150_c24_z5 hc150_c24_z7 hc150_c24_z8 hc150_z27 hc150_z28 hc150_c43_z4 hc150_c43_z5 hc150_c43_z7 hc150_c43_z8 hc150_c50_z4 hc150_c50_z5 hc150_c50_z7 hc150_c50_z8 hc150_z53 hc150_z54 hc150_c69_z4 hc150_c69_z5 hc150_c69_z7 hc150_c69_z8 hc150_c76_z4 hc150_c76_z5 hc150_c76_z7 hc150_c76_z8 hc150_z79 hc150_z80 c150_nn27 c150_br29 c150_nn53 c150_br55 c150_nn79 c150_br81) hZ (hw _ (List.mem_of_getElem? (i := 33) rfl)) (hw _ (List.mem_of_getElem? (i := 21) rfl)) (by decide) (by decide)) (g := (mkF m 150 #[.val (.int p0), .val (.int p1), .val (.int p2), .val (.int (3 : Int32)), .val (.ref b244), .val (.ref b248)] [(.int p2), (.int p1), (.int (2 : Int32)), (.int (3 : Int32)), (.ref rb246_b14)])) rfl (by rw [hml]; rfl) (argsL := [(.ref rb246_b14), (.int (3 : Int32)), (.int (2 : Int32)), (.int p1), (.int p2)]) (rest := []) (lenOf pd_4 rfl) rfl (by show 2 * 0 + _ ≤ _; exact Nat.le_of_eq rfl) (hb hby at_150) (fun _ _ => ⟨rfl, e317, (by decide : 10 + 0 ≤ _), (by decide : 32 + 0 ≤ _)⟩)
    dsimp only [Pt.U, Pt.locs, Pt.cells, Pt.slots] at X318 ql318 qy318 qz318 st318 hQ318
    subst ql318 qy318 qz318
    obtain ⟨rfl, N318q, e318⟩ := hQ318
    have N318 := Fr.app N315 N318q
    have f319 := (f305.keep K307q (ninS (Nat.ne_of_lt (Nat.lt_of_lt_of_le (A244).lt gz246_b2)) (ninS (Nat.ne_of_lt (Nat.lt_of_lt_of_le (A244).lt gz246_b8)) (ninS (Nat.ne_of_lt (Nat.lt_of_lt_of_le (A244).lt gz246_b14)) (ninS (Nat.ne_of_lt (Nat.lt_of_lt_of_le (A244).lt gz246_b20)) nin0)))))
    obtain ⟨T320, X320, e320, st320⟩ := getF X318 hx hZ hown (host := "") (Or.inl (hw _ (List.mem_of_getElem? (i := 25) rfl))) Via.refl e318 f319 (g := (mkF m 158 #[.val (.int p0), .val (.int p1), .val (.int p2), .val (.int (3 : Int32)), .val (.ref b244), .val (.ref b248)] [(.ref b244)])) rfl rfl (hb hby at_158)
    have c165_nn27 := nnAdd (vv hc165_c17_z4 hc165_c17_z5 hc165_c17_z7 hc165_c17_z8) (vv hc165_c24_z4 hc165_c24_z5 hc165_c24_z7 hc165_c24_z8) hc165_z27
    have c165_br29 := sums (vv hc61_c10_z4 hc61_c10_z5 hc61_c10_z7 hc61_c10_z8) (vv hc101_c10_z4 hc101_c10_z5 hc101_c10_z7 hc101_c10_z8) (vv hc165_c17_z4 hc165_c17_z5 hc165_c17_z7 hc165_c17_z8) (vv hc165_c24_z4 hc165_c24_z5 hc165_c24_z7 hc165_c24_z8) hc108_z69 hc165_z27 hc165_z28
    have c165_nn53 := nnAdd (vv hc165_c43_z4 hc165_c43_z5 hc165_c43_z7 hc165_c43_z8) (vv hc165_c50_z4 hc165_c50_z5 hc165_c50_z7 hc165_c50_z8) hc165_z53
    have c165_br55 := sums (vv hc61_c25_z4 hc61_c25_z5 hc61_c25_z7 hc61_c25_z8) (vv hc101_c25_z4 hc101_c25_z5 hc101_c25_z7 hc101_c25_z8) (vv hc165_c43_z4 hc165_c43_z5 hc165_c43_z7 hc165_c43_z8) (vv hc165_c50_z4 hc165_c50_z5 hc165_c50_z7 hc165_c50_z8) hc108_z69_2 hc165_z53 hc165_z54
    have c165_nn79 := nnAdd (vv hc165_c69_z4 hc165_c69_z5 hc165_c69_z7 hc165_c69_z8) (vv hc165_c76_z4 hc165_c76_z5 hc165_c76_z7 hc165_c76_z8) hc165_z79
    have c165_br81 := sums (vv hc61_c40_z4 hc61_c40_z5 hc61_c40_z7 hc61_c40_z8) (vv hc101_c40_z4 hc101_c40_z5 hc101_c40_z7 hc101_c40_z8) (vv hc165_c69_z4 hc165_c69_z5 hc165_c69_z7 hc165_c69_z8) (vv hc165_c76_z4 hc165_c76_z5 hc165_c76_z7 hc165_c76_z8) hc108_z69_3 hc165_z79 hc165_z80
    obtain ⟨_, _, ⟨T321, L321, k321, n321⟩, -, X321, ⟨Lc321, hQ321, ql321, qy321, qz321⟩, st321⟩ := Jvm.LawKit.callS X320 hx (y := (⟨"com/example/lumenstand/lumenstand/light/InterceptionAddPinLaw", "sum", "([DIIII)Z"⟩ : MethodName)) hown (mvT hZ (hw _ (List.mem_of_getElem? (i := 31) rfl))) (mvT hZ (hw _ (List.mem_of_getElem? (i := 32) rfl))) (mvT hZ (hw _ (List.mem_of_getElem? (i := 21) rfl))) (mvT hZ (hw _ (List.mem_of_getElem? (i := 33) rfl))) (by decide) (backOf (W := 0) (rm5_3 l Z a0 hw [] rb246_b20 (3 : Int32) p1 p2 kk246_k20 c108_z69 c108_z69_2 c108_z69_3 c165_c17_z4 c165_c17_z5 c165_c17_z7 c165_c17_z8 c165_c24_z4 c165_c24_z5 c165_c24_z7 c165_c24_z8 c165_z27 c165_z28 c165_c43_z4 c165_c43_z5 c165_c43_z7 c165_c43_z8 c165_c50_z4 c165_c50_z5 c165_c50_z7 c165_c50_z8 c165_z53 c165_z54 c165_c69_z4 c165_c69_z5 c165_c69_z7 c165_c69_z8 c165_c76_z4 c165_c76_z5 c165_c76_z7 c165_c76_z8 c165_z79 c165_z80 T307.heap n0 (Nat.le_trans (Nat.le_trans (Nat.le_trans (Nat.le_trans (Nat.le_trans (Nat.le_trans (Nat.le_trans (Nat.le_trans (Nat.le_trans (Nat.le_trans (Nat.le_trans (Nat.le_trans (Nat.le_trans Z0 E244.1) K246q.1) E248.1) K250q.1) K255q.1) K260q.1) K265q.1) K270q.1) K275q.1) K280q.1) K285q.1) K290q.1) K307q.1) Q307_3 hc165_c17_z4 hc165_c17_z5 hc165_c17_z7 hc165_c17_z8 hc165_c24_z4 hc165_c24_z5 hc165_c24_z7 hc165_c24_z8 hc165_z27 hc165_z28 hc165_c43_z4 hc165_c43_z5 hc165_c43_z7 hc165_c43_z8 hc165_c50_z4 hc165_c50_z5 hc165_c50_z7 hc165_c50_z8 hc165_z53 hc165_z54 hc165_c69_z4 hc165_c69_z5 hc165_c69_z7 hc165_c69_z8 hc165_c76_z4 hc165_c76_z5 hc165_c76_z7 hc165_c76_z8 hc165_z79 hc165_z80 c165_nn27 c165_br29 c165_nn53 c165_br55 c165_nn79 c165_br81) hZ (hw _ (List.mem_of_getElem? (i := 33) rfl)) (hw _ (List.mem_of_getElem? (i := 21) rfl)) (by decide) (by decide)) (g := (mkF m 165 #[.val (.int p0), .val (.int p1), .val (.int p2), .val (.int (3 : Int32)), .val (.ref b244), .val (.ref b248)] [(.int p2), (.int p1), (.int (3 : Int32)), (.int (3 : Int32)), (.ref rb246_b20)])) rfl (by rw [hml]; rfl) (argsL := [(.ref rb246_b20), (.int (3 : Int32)), (.int (3 : Int32)), (.int p1), (.int p2)]) (rest := []) (lenOf pd_4 rfl) rfl (by show 2 * 0 + _ ≤ _; exact Nat.le_of_eq rfl) (hb hby at_165) (fun _ _ => ⟨rfl, e320, (by decide : 10 + 0 ≤ _), (by decide : 32 + 0 ≤ _)⟩)
    dsimp only [Pt.U, Pt.locs, Pt.cells, Pt.slots] at X321 ql321 qy321 qz321 st321 hQ321
    subst ql321 qy321 qz321
    obtain ⟨rfl, N321q, e321⟩ := hQ321
    have N321 := Fr.app N318 N321q
    have f322 := (f300.keep K307q (ninS (Ne.symm (Nat.ne_of_lt (Nat.lt_of_lt_of_le (Q246_5).lt (Nat.le_of_eq g248.symm)))) (ninS (Ne.symm (Nat.ne_of_lt (Nat.lt_of_lt_of_le (Q246_6).lt (Nat.le_of_eq g248.symm)))) (ninS (Ne.symm (Nat.ne_of_lt (Nat.lt_of_lt_of_le (Q246_7).lt (Nat.le_of_eq g248.symm)))) (ninS (Ne.symm (Nat.ne_of_lt (Nat.lt_of_lt_of_le (Q246_8).lt (Nat.le_of_eq g248.symm)))) nin0)))))
    obtain ⟨T323, X323, e323, st323⟩ := getF X321 hx hZ hown (host := "") (Or.inl (hw _ (List.mem_of_getElem? (i := 18) rfl))) Via.refl e321 f322 (g := (mkF m 173 #[.val (.int p0), .val (.int p1), .val (.int p2), .val (.int (3 : Int32)), .val (.ref b244), .val (.ref b248)] [(.ref b248)])) rfl rfl (hb hby at_173)
    have c179_br21 := same (vv hc71_c10_z4 hc71_c10_z5 hc71_c10_z7 hc71_c10_z8) (vv hc179_c17_z4 hc179_c17_z5 hc179_c17_z7 hc179_c17_z8) hc179_z20
    have c179_br39 := same (vv hc71_c25_z4 hc71_c25_z5 hc71_c25_z7 hc71_c25_z8) (vv hc179_c35_z4 hc179_c35_z5 hc179_c35_z7 hc179_c35_z8) hc179_z38
    have c179_br57 := same (vv hc71_c40_z4 hc71_c40_z5 hc71_c40_z7 hc71_c40_z8) (vv hc179_c53_z4 hc179_c53_z5 hc179_c53_z7 hc179_c53_z8) hc179_z56
    have f324 := (f293.keep K307q (ninS (Ne.symm (Nat.ne_of_lt (Nat.lt_of_lt_of_le ((Q246_5.ext E248)).lt gz250_b2))) (ninS (Ne.symm (Nat.ne_of_lt (Nat.lt_of_lt_of_le ((Q246_6.ext E248)).lt gz250_b2))) (ninS (Ne.symm (Nat.ne_of_lt (Nat.lt_of_lt_of_le ((Q246_7.ext E248)).lt gz250_b2))) (ninS (Ne.symm (Nat.ne_of_lt (Nat.lt_of_lt_of_le ((Q246_8.ext E248)).lt gz250_b2))) nin0)))))
    obtain ⟨_, _, ⟨T325, L325, k325, n325⟩, -, X325, ⟨Lc325, hQ325, ql325, qy325, qz325⟩, st325⟩ := Jvm.LawKit.callS X323 hx (y := (⟨"com/example/lumenstand/lumenstand/light/InterceptionAddPinLaw", "kept", "([DIII)Z"⟩ : MethodName)) hown (mvT hZ (hw _ (List.mem_of_getElem? (i := 34) rfl))) (mvT hZ (hw _ (List.mem_of_getElem? (i := 35) rfl))) (mvT hZ (hw _ (List.mem_of_getElem? (i := 21) rfl))) (mvT hZ (hw _ (List.mem_of_getElem? (i := 36) rfl))) (by decide) (backOf (W := 0) (rm6_3 l Z a0 hw [] rb250_b2 (0 : Int32) p2 kk250_k2 c71_c10_z8 c71_c25_z8 c71_c40_z8 c179_c17_z4 c179_c17_z5 c179_c17_z7 c179_c17_z8 c179_z20 c179_c35_z4 c179_c35_z5 c179_c35_z7 c179_c35_z8 c179_z38 c179_c53_z4 c179_c53_z5 c179_c53_z7 c179_c53_z8 c179_z56 T307.heap n0 (Nat.le_trans (Nat.le_trans (Nat.le_trans (Nat.le_trans (Nat.le_trans (Nat.le_trans (Nat.le_trans (Nat.le_trans (Nat.le_trans (Nat.le_trans (Nat.le_trans (Nat.le_trans (Nat.le_trans Z0 E244.1) K246q.1) E248.1) K250q.1) K255q.1) K260q.1) K265q.1) K270q.1) K275q.1) K280q.1) K285q.1) K290q.1) K307q.1) f324 hc179_c17_z4 hc179_c17_z5 hc179_c17_z7 hc179_c17_z8 hc179_z20 hc179_c35_z4 hc179_c35_z5 hc179_c35_z7 hc179_c35_z8 hc179_z38 hc179_c53_z4 hc179_c53_z5 hc179_c53_z7 hc179_c53_z8 hc179_z56 c179_br21 c179_br39 c179_br57) hZ (hw _ (List.mem_of_getElem? (i := 36) rfl)) (hw _ (List.mem_of_getElem? (i := 21) rfl)) (by decide) (by decide)) (g := (mkF m 179 #[.val (.int p0), .val (.int p1), .val (.int p2), .val (.int (3 : Int32)), .val (.ref b244), .val (.ref b248)] [(.int p2), (.int (0 : Int32)), (.int (3 : Int32)), (.ref rb250_b2)])) rfl (by rw [hml]; rfl) (argsL := [(.ref rb250_b2), (.int (3 : Int32)), (.int (0 : Int32)), (.int p2)]) (rest := []) (lenOf pd_5 rfl) rfl (by show 2 * 0 + _ ≤ _; exact Nat.le_of_eq rfl) (hb hby at_179) (fun _ _ => ⟨rfl, e323, (by decide : 10 + 0 ≤ _), (by decide : 32 + 0 ≤ _)⟩)
    dsimp only [Pt.U, Pt.locs, Pt.cells, Pt.slots] at X325 ql325 qy325 qz325 st325 hQ325
    subst ql325 qy325 qz325
    obtain ⟨rfl, N325q, e325⟩ := hQ325
    have N325 := Fr.app N321 N325q
    have f326 := (f302.keep K307q (ninS (Ne.symm (Nat.ne_of_lt (Nat.lt_of_lt_of_le (Q246_5).lt (Nat.le_of_eq g248.symm)))) (ninS (Ne.symm (Nat.ne_of_lt (Nat.lt_of_lt_of_le (Q246_6).lt (Nat.le_of_eq g248.symm)))) (ninS (Ne.symm (Nat.ne_of_lt (Nat.lt_of_lt_of_le (Q246_7).lt (Nat.le_of_eq g248.symm)))) (ninS (Ne.symm (Nat.ne_of_lt (Nat.lt_of_lt_of_le (Q246_8).lt (Nat.le_of_eq g248.symm)))) nin0)))))
    obtain ⟨T327, X327, e327, st327⟩ := getF X325 hx hZ hown (host := "") (Or.inl (hw _ (List.mem_of_getElem? (i := 23) rfl))) Via.refl e325 f326 (g := (mkF m 187 #[.val (.int p0), .val (.int p1), .val (.int p2), .val (.int (3 : Int32)), .val (.ref b244), .val (.ref b248)] [(.ref b248)])) rfl rfl (hb hby at_187)
    have c193_br21 := same (vv hc81_c10_z4 hc81_c10_z5 hc81_c10_z7 hc81_c10_z8) (vv hc193_c17_z4 hc193_c17_z5 hc193_c17_z7 hc193_c17_z8) hc193_z20
    have c193_br39 := same (vv hc81_c25_z4 hc81_c25_z5 hc81_c25_z7 hc81_c25_z8) (vv hc193_c35_z4 hc193_c35_z5 hc193_c35_z7 hc193_c35_z8) hc193_z38
    have c193_br57 := same (vv hc81_c40_z4 hc81_c40_z5 hc81_c40_z7 hc81_c40_z8) (vv hc193_c53_z4 hc193_c53_z5 hc193_c53_z7 hc193_c53_z8) hc193_z56
    have f328 := (f295.keep K307q (ninS (Ne.symm (Nat.ne_of_lt (Nat.lt_of_lt_of_le ((Q246_5.ext E248)).lt gz250_b8))) (ninS (Ne.symm (Nat.ne_of_lt (Nat.lt_of_lt_of_le ((Q246_6.ext E248)).lt gz250_b8))) (ninS (Ne.symm (Nat.ne_of_lt (Nat.lt_of_lt_of_le ((Q246_7.ext E248)).lt gz250_b8))) (ninS (Ne.symm (Nat.ne_of_lt (Nat.lt_of_lt_of_le ((Q246_8.ext E248)).lt gz250_b8))) nin0)))))
    obtain ⟨_, _, ⟨T329, L329, k329, n329⟩, -, X329, ⟨Lc329, hQ329, ql329, qy329, qz329⟩, st329⟩ := Jvm.LawKit.callS X327 hx (y := (⟨"com/example/lumenstand/lumenstand/light/InterceptionAddPinLaw", "kept", "([DIII)Z"⟩ : MethodName)) hown (mvT hZ (hw _ (List.mem_of_getElem? (i := 34) rfl))) (mvT hZ (hw _ (List.mem_of_getElem? (i := 35) rfl))) (mvT hZ (hw _ (List.mem_of_getElem? (i := 21) rfl))) (mvT hZ (hw _ (List.mem_of_getElem? (i := 36) rfl))) (by decide) (backOf (W := 0) (rm6_3 l Z a0 hw [] rb250_b8 (1 : Int32) p2 kk250_k8 c81_c10_z8 c81_c25_z8 c81_c40_z8 c193_c17_z4 c193_c17_z5 c193_c17_z7 c193_c17_z8 c193_z20 c193_c35_z4 c193_c35_z5 c193_c35_z7 c193_c35_z8 c193_z38 c193_c53_z4 c193_c53_z5 c193_c53_z7 c193_c53_z8 c193_z56 T307.heap n0 (Nat.le_trans (Nat.le_trans (Nat.le_trans (Nat.le_trans (Nat.le_trans (Nat.le_trans (Nat.le_trans (Nat.le_trans (Nat.le_trans (Nat.le_trans (Nat.le_trans (Nat.le_trans (Nat.le_trans Z0 E244.1) K246q.1) E248.1) K250q.1) K255q.1) K260q.1) K265q.1) K270q.1) K275q.1) K280q.1) K285q.1) K290q.1) K307q.1) f328 hc193_c17_z4 hc193_c17_z5 hc193_c17_z7 hc193_c17_z8 hc193_z20 hc193_c35_z4 hc193_c35_z5 hc193_c35_z7 hc193_c35_z8 hc193_z38 hc193_c53_z4 hc193_c53_z5 hc193_c53_z7 hc193_c53_z8 hc193_z56 c193_br21 c193_br39 c193_br57) hZ (hw _ (List.mem_of_getElem? (i := 36) rfl)) (hw _ (List.mem_of_getElem? (i := 21) rfl)) (by decide) (by decide)) (g := (mkF m 193 #[.val (.int p0), .val (.int p1), .val (.int p2), .val (.int (3 : Int32)), .val (.ref b244), .val (.ref b248)] [(.int p2), (.int (1 : Int32)), (.int (3 : Int32)), (.ref rb250_b8)])) rfl (by rw [hml]; rfl) (argsL := [(.ref rb250_b8), (.int (3 : Int32)), (.int (1 : Int32)), (.int p2)]) (rest := []) (lenOf pd_5 rfl) rfl (by show 2 * 0 + _ ≤ _; exact Nat.le_of_eq rfl) (hb hby at_193) (fun _ _ => ⟨rfl, e327, (by decide : 10 + 0 ≤ _), (by decide : 32 + 0 ≤ _)⟩)
    dsimp only [Pt.U, Pt.locs, Pt.cells, Pt.slots] at X329 ql329 qy329 qz329 st329 hQ329
    subst ql329 qy329 qz329
    obtain ⟨rfl, N329q, e329⟩ := hQ329
    have N329 := Fr.app N325 N329q
    have f330 := (f304.keep K307q (ninS (Ne.symm (Nat.ne_of_lt (Nat.lt_of_lt_of_le (Q246_5).lt (Nat.le_of_eq g248.symm)))) (ninS (Ne.symm (Nat.ne_of_lt (Nat.lt_of_lt_of_le (Q246_6).lt (Nat.le_of_eq g248.symm)))) (ninS (Ne.symm (Nat.ne_of_lt (Nat.lt_of_lt_of_le (Q246_7).lt (Nat.le_of_eq g248.symm)))) (ninS (Ne.symm (Nat.ne_of_lt (Nat.lt_of_lt_of_le (Q246_8).lt (Nat.le_of_eq g248.symm)))) nin0)))))
    obtain ⟨T331, X331, e331, st331⟩ := getF X329 hx hZ hown (host := "") (Or.inl (hw _ (List.mem_of_getElem? (i := 24) rfl))) Via.refl e329 f330 (g := (mkF m 201 #[.val (.int p0), .val (.int p1), .val (.int p2), .val (.int (3 : Int32)), .val (.ref b244), .val (.ref b248)] [(.ref b248)])) rfl rfl (hb hby at_201)
    have c207_br21 := same (vv hc91_c10_z4 hc91_c10_z5 hc91_c10_z7 hc91_c10_z8) (vv hc207_c17_z4 hc207_c17_z5 hc207_c17_z7 hc207_c17_z8) hc207_z20
    have c207_br39 := same (vv hc91_c25_z4 hc91_c25_z5 hc91_c25_z7 hc91_c25_z8) (vv hc207_c35_z4 hc207_c35_z5 hc207_c35_z7 hc207_c35_z8) hc207_z38
    have c207_br57 := same (vv hc91_c40_z4 hc91_c40_z5 hc91_c40_z7 hc91_c40_z8) (vv hc207_c53_z4 hc207_c53_z5 hc207_c53_z7 hc207_c53_z8) hc207_z56
    have f332 := (f297.keep K307q (ninS (Ne.symm (Nat.ne_of_lt (Nat.lt_of_lt_of_le ((Q246_5.ext E248)).lt gz250_b14))) (ninS (Ne.symm (Nat.ne_of_lt (Nat.lt_of_lt_of_le ((Q246_6.ext E248)).lt gz250_b14))) (ninS (Ne.symm (Nat.ne_of_lt (Nat.lt_of_lt_of_le ((Q246_7.ext E248)).lt gz250_b14))) (ninS (Ne.symm (Nat.ne_of_lt (Nat.lt_of_lt_of_le ((Q246_8.ext E248)).lt gz250_b14))) nin0)))))
    obtain ⟨_, _, ⟨T333, L333, k333, n333⟩, -, X333, ⟨Lc333, hQ333, ql333, qy333, qz333⟩, st333⟩ := Jvm.LawKit.callS X331 hx (y := (⟨"com/example/lumenstand/lumenstand/light/InterceptionAddPinLaw", "kept", "([DIII)Z"⟩ : MethodName)) hown (mvT hZ (hw _ (List.mem_of_getElem? (i := 34) rfl))) (mvT hZ (hw _ (List.mem_of_getElem? (i := 35) rfl))) (mvT hZ (hw _ (List.mem_of_getElem? (i := 21) rfl))) (mvT hZ (hw _ (List.mem_of_getElem? (i := 36) rfl))) (by decide) (backOf (W := 0) (rm6_3 l Z a0 hw [] rb250_b14 (2 : Int32) p2 kk250_k14 c91_c10_z8 c91_c25_z8 c91_c40_z8 c207_c17_z4 c207_c17_z5 c207_c17_z7 c207_c17_z8 c207_z20 c207_c35_z4 c207_c35_z5 c207_c35_z7 c207_c35_z8 c207_z38 c207_c53_z4 c207_c53_z5 c207_c53_z7 c207_c53_z8 c207_z56 T307.heap n0 (Nat.le_trans (Nat.le_trans (Nat.le_trans (Nat.le_trans (Nat.le_trans (Nat.le_trans (Nat.le_trans (Nat.le_trans (Nat.le_trans (Nat.le_trans (Nat.le_trans (Nat.le_trans (Nat.le_trans Z0 E244.1) K246q.1) E248.1) K250q.1) K255q.1) K260q.1) K265q.1) K270q.1) K275q.1) K280q.1) K285q.1) K290q.1) K307q.1) f332 hc207_c17_z4 hc207_c17_z5 hc207_c17_z7 hc207_c17_z8 hc207_z20 hc207_c35_z4 hc207_c35_z5 hc207_c35_z7 hc207_c35_z8 hc207_z38 hc207_c53_z4 hc207_c53_z5 hc207_c53_z7 hc207_c53_z8 hc207_z56 c207_br21 c207_br39 c207_br57) hZ (hw _ (List.mem_of_getElem? (i := 36) rfl)) (hw _ (List.mem_of_getElem? (i := 21) rfl)) (by decide) (by decide)) (g := (mkF m 207 #[.val (.int p0), .val (.int p1), .val (.int p2), .val (.int (3 : Int32)), .val (.ref b244), .val (.ref b248)] [(.int p2), (.int (2 : Int32)), (.int (3 : Int32)), (.ref rb250_b14)])) rfl (by rw [hml]; rfl) (argsL := [(.ref rb250_b14), (.int (3 : Int32)), (.int (2 : Int32)), (.int p2)]) (rest := []) (lenOf pd_5 rfl) rfl (by show 2 * 0 + _ ≤ _; exact Nat.le_of_eq rfl) (hb hby at_207) (fun _ _ => ⟨rfl, e331, (by decide : 10 + 0 ≤ _), (by decide : 32 + 0 ≤ _)⟩)
    dsimp only [Pt.U, Pt.locs, Pt.cells, Pt.slots] at X333 ql333 qy333 qz333 st333 hQ333
    subst ql333 qy333 qz333
    obtain ⟨rfl, N333q, e333⟩ := hQ333
    have N333 := Fr.app N329 N333q
    have f334 := (f306.keep K307q (ninS (Ne.symm (Nat.ne_of_lt (Nat.lt_of_lt_of_le (Q246_5).lt (Nat.le_of_eq g248.symm)))) (ninS (Ne.symm (Nat.ne_of_lt (Nat.lt_of_lt_of_le (Q246_6).lt (Nat.le_of_eq g248.symm)))) (ninS (Ne.symm (Nat.ne_of_lt (Nat.lt_of_lt_of_le (Q246_7).lt (Nat.le_of_eq g248.symm)))) (ninS (Ne.symm (Nat.ne_of_lt (Nat.lt_of_lt_of_le (Q246_8).lt (Nat.le_of_eq g248.symm)))) nin0)))))
    obtain ⟨T335, X335, e335, st335⟩ := getF X333 hx hZ hown (host := "") (Or.inl (hw _ (List.mem_of_getElem? (i := 25) rfl))) Via.refl e333 f334 (g := (mkF m 215 #[.val (.int p0), .val (.int p1), .val (.int p2), .val (.int (3 : Int32)), .val (.ref b244), .val (.ref b248)] [(.ref b248)])) rfl rfl (hb hby at_215)
    have c221_br21 := same (vv hc101_c10_z4 hc101_c10_z5 hc101_c10_z7 hc101_c10_z8) (vv hc221_c17_z4 hc221_c17_z5 hc221_c17_z7 hc221_c17_z8) hc221_z20
    have c221_br39 := same (vv hc101_c25_z4 hc101_c25_z5 hc101_c25_z7 hc101_c25_z8) (vv hc221_c35_z4 hc221_c35_z5 hc221_c35_z7 hc221_c35_z8) hc221_z38
    have c221_br57 := same (vv hc101_c40_z4 hc101_c40_z5 hc101_c40_z7 hc101_c40_z8) (vv hc221_c53_z4 hc221_c53_z5 hc221_c53_z7 hc221_c53_z8) hc221_z56
    have f336 := (Q290_0.keep K307q (ninS (Ne.symm (Nat.ne_of_lt (Nat.lt_of_lt_of_le ((Q246_5.ext E248)).lt gz250_b20))) (ninS (Ne.symm (Nat.ne_of_lt (Nat.lt_of_lt_of_le ((Q246_6.ext E248)).lt gz250_b20))) (ninS (Ne.symm (Nat.ne_of_lt (Nat.lt_of_lt_of_le ((Q246_7.ext E248)).lt gz250_b20))) (ninS (Ne.symm (Nat.ne_of_lt (Nat.lt_of_lt_of_le ((Q246_8.ext E248)).lt gz250_b20))) nin0)))))
    obtain ⟨_, _, ⟨T337, L337, k337, n337⟩, -, X337, ⟨Lc337, hQ337, ql337, qy337, qz337⟩, st337⟩ := Jvm.LawKit.callS X335 hx (y := (⟨"com/example/lumenstand/lumenstand/light/InterceptionAddPinLaw", "kept", "([DIII)Z"⟩ : MethodName)) hown (mvT hZ (hw _ (List.mem_of_getElem? (i := 34) rfl))) (mvT hZ (hw _ (List.mem_of_getElem? (i := 35) rfl))) (mvT hZ (hw _ (List.mem_of_getElem? (i := 21) rfl))) (mvT hZ (hw _ (List.mem_of_getElem? (i := 36) rfl))) (by decide) (backOf (W := 0) (rm6_3 l Z a0 hw [] rb250_b20 (3 : Int32) p2 kk250_k20 c101_c10_z8 c101_c25_z8 c101_c40_z8 c221_c17_z4 c221_c17_z5 c221_c17_z7 c221_c17_z8 c221_z20 c221_c35_z4 c221_c35_z5 c221_c35_z7 c221_c35_z8 c221_z38 c221_c53_z4 c221_c53_z5 c221_c53_z7 c221_c53_z8 c221_z56 T307.heap n0 (Nat.le_trans (Nat.le_trans (Nat.le_trans (Nat.le_trans (Nat.le_trans (Nat.le_trans (Nat.le_trans (Nat.le_trans (Nat.le_trans (Nat.le_trans (Nat.le_trans (Nat.le_trans (Nat.le_trans Z0 E244.1) K246q.1) E248.1) K250q.1) K255q.1) K260q.1) K265q.1) K270q.1) K275q.1) K280q.1) K285q.1) K290q.1) K307q.1) f336 hc221_c17_z4 hc221_c17_z5 hc221_c17_z7 hc221_c17_z8 hc221_z20 hc221_c35_z4 hc221_c35_z5 hc221_c35_z7 hc221_c35_z8 hc221_z38 hc221_c53_z4 hc221_c53_z5 hc221_c53_z7 hc221_c53_z8 hc221_z56 c221_br21 c221_br39 c221_br57) hZ (hw _ (List.mem_of_getElem? (i := 36) rfl)) (hw _ (List.mem_of_getElem? (i := 21) rfl)) (by decide) (by decide)) (g := (mkF m 221 #[.val (.int p0), .val (.int p1), .val (.int p2), .val (.int (3 : Int32)), .val (.ref b244), .val (.ref b248)] [(.int p2), (.int (3 : Int32)), (.int (3 : Int32)), (.ref rb250_b20)])) rfl (by rw [hml]; rfl) (argsL := [(.ref rb250_b20), (.int (3 : Int32)), (.int (3 : Int32)), (.int p2)]) (rest := []) (lenOf pd_5 rfl) rfl (by show 2 * 0 + _ ≤ _; exact Nat.le_of_eq rfl) (hb hby at_221) (fun _ _ => ⟨rfl, e335, (by decide : 10 + 0 ≤ _), (by decide : 32 + 0 ≤ _)⟩)
    dsimp only [Pt.U, Pt.locs, Pt.cells, Pt.slots] at X337 ql337 qy337 qz337 st337 hQ337
    subst ql337 qy337 qz337
    obtain ⟨rfl, N337q, e337⟩ := hQ337
    have N337 := Fr.app N333 N337q
    have c338 : ∀ t, Steps p.tables e below (T337.setTop (mkF m 232 #[.val (.int p0), .val (.int p1), .val (.int p2), .val (.int (3 : Int32)), .val (.ref b244), .val (.ref b248)] [(.int (1 : Int32))])) t → Steps p.tables e below (s₁.setTop (entryFrame m #[(.int p0), (.int p1), (.int p2)] maxLocals)) t := by
      intro t k
      refine c1 t ?_
      show Steps p.tables e below (s₁.setTop (mkF m 4 #[.val (.int p0), .val (.int p1), .val (.int p2), .val (.int (3 : Int32)), .unset, .unset] [])) _
      refine st244 _ ?_
      show Steps p.tables e below (T244.setTop (mkF m 7 #[.val (.int p0), .val (.int p1), .val (.int p2), .val (.int (3 : Int32)), .unset, .unset] [(.ref b244)])) _
      refine XS.dup X244.here hx rfl (hb hby at_7) rfl rfl ?_
      show Steps p.tables e below (T244.setTop (mkF m 8 #[.val (.int p0), .val (.int p1), .val (.int p2), .val (.int (3 : Int32)), .unset, .unset] [(.ref b244), (.ref b244)])) _
      refine XS.iloadN X244.here hx rfl (hb hby at_8) rfl ?_
      show Steps p.tables e below (T244.setTop (mkF m 9 #[.val (.int p0), .val (.int p1), .val (.int p2), .val (.int (3 : Int32)), .unset, .unset] [(.int (3 : Int32)), (.ref b244), (.ref b244)])) _
      refine st246.trans ?_
      show Steps p.tables e below (T246.setTop (mkF m 12 #[.val (.int p0), .val (.int p1), .val (.int p2), .val (.int (3 : Int32)), .unset, .unset] [(.ref b244)])) _
      refine XS.astore X246.here hx rfl (hb hby at_12) rfl rfl (l' := #[.val (.int p0), .val (.int p1), .val (.int p2), .val (.int (3 : Int32)), .val (.ref b244), .unset]) rfl ?_
      show Steps p.tables e below (T246.setTop (mkF m 14 #[.val (.int p0), .val (.int p1), .val (.int p2), .val (.int (3 : Int32)), .val (.ref b244), .unset] [])) _
      refine st248 _ ?_
      show Steps p.tables e below (T248.setTop (mkF m 17 #[.val (.int p0), .val (.int p1), .val (.int p2), .val (.int (3 : Int32)), .val (.ref b244), .unset] [(.ref b248)])) _
      refine XS.dup X248.here hx rfl (hb hby at_17) rfl rfl ?_
      show Steps p.tables e below (T248.setTop (mkF m 18 #[.val (.int p0), .val (.int p1), .val (.int p2), .val (.int (3 : Int32)), .val (.ref b244), .unset] [(.ref b248), (.ref b248)])) _
      refine XS.iloadN X248.here hx rfl (hb hby at_18) rfl ?_
      show Steps p.tables e below (T248.setTop (mkF m 19 #[.val (.int p0), .val (.int p1), .val (.int p2), .val (.int (3 : Int32)), .val (.ref b244), .unset] [(.int (3 : Int32)), (.ref b248), (.ref b248)])) _
      refine st250.trans ?_
      show Steps p.tables e below (T250.setTop (mkF m 22 #[.val (.int p0), .val (.int p1), .val (.int p2), .val (.int (3 : Int32)), .val (.ref b244), .unset] [(.ref b248)])) _
      refine XS.astore X250.here hx rfl (hb hby at_22) rfl rfl (l' := #[.val (.int p0), .val (.int p1), .val (.int p2), .val (.int (3 : Int32)), .val (.ref b244), .val (.ref b248)]) rfl ?_
      show Steps p.tables e below (T250.setTop (mkF m 24 #[.val (.int p0), .val (.int p1), .val (.int p2), .val (.int (3 : Int32)), .val (.ref b244), .val (.ref b248)] [])) _
      refine XS.aload X250.here hx rfl (hb hby at_24) rfl rfl ?_
      show Steps p.tables e below (T250.setTop (mkF m 26 #[.val (.int p0), .val (.int p1), .val (.int p2), .val (.int (3 : Int32)), .val (.ref b244), .val (.ref b248)] [(.ref b244)])) _
      refine st253 _ ?_
      show Steps p.tables e below (T253.setTop (mkF m 29 #[.val (.int p0), .val (.int p1), .val (.int p2), .val (.int (3 : Int32)), .val (.ref b244), .val (.ref b248)] [(.ref rb246_b2)])) _
      refine XS.iconst X253.here hx rfl (hb hby at_29) ?_
      show Steps p.tables e below (T253.setTop (mkF m 30 #[.val (.int p0), .val (.int p1), .val (.int p2), .val (.int (3 : Int32)), .val (.ref b244), .val (.ref b248)] [(.int (0 : Int32)), (.ref rb246_b2)])) _
      refine XS.iloadN X253.here hx rfl (hb hby at_30) rfl ?_
      show Steps p.tables e below (T253.setTop (mkF m 31 #[.val (.int p0), .val (.int p1), .val (.int p2), .val (.int (3 : Int32)), .val (.ref b244), .val (.ref b248)] [(.int p1), (.int (0 : Int32)), (.ref rb246_b2)])) _
      refine st255 _ ?_
      show Steps p.tables e below (T255.setTop (mkF m 34 #[.val (.int p0), .val (.int p1), .val (.int p2), .val (.int (3 : Int32)), .val (.ref b244), .val (.ref b248)] [])) _
      refine XS.aload X255.here hx rfl (hb hby at_34) rfl rfl ?_
      show Steps p.tables e below (T255.setTop (mkF m 36 #[.val (.int p0), .val (.int p1), .val (.int p2), .val (.int (3 : Int32)), .val (.ref b244), .val (.ref b248)] [(.ref b244)])) _
      refine st258 _ ?_
      show Steps p.tables e below (T258.setTop (mkF m 39 #[.val (.int p0), .val (.int p1), .val (.int p2), .val (.int (3 : Int32)), .val (.ref b244), .val (.ref b248)] [(.ref rb246_b8)])) _
      refine XS.iconst X258.here hx rfl (hb hby at_39) ?_
      show Steps p.tables e below (T258.setTop (mkF m 40 #[.val (.int p0), .val (.int p1), .val (.int p2), .val (.int (3 : Int32)), .val (.ref b244), .val (.ref b248)] [(.int (1 : Int32)), (.ref rb246_b8)])) _
      refine XS.iloadN X258.here hx rfl (hb hby at_40) rfl ?_
      show Steps p.tables e below (T258.setTop (mkF m 41 #[.val (.int p0), .val (.int p1), .val (.int p2), .val (.int (3 : Int32)), .val (.ref b244), .val (.ref b248)] [(.int p1), (.int (1 : Int32)), (.ref rb246_b8)])) _
      refine st260 _ ?_
      show Steps p.tables e below (T260.setTop (mkF m 44 #[.val (.int p0), .val (.int p1), .val (.int p2), .val (.int (3 : Int32)), .val (.ref b244), .val (.ref b248)] [])) _
      refine XS.aload X260.here hx rfl (hb hby at_44) rfl rfl ?_
      show Steps p.tables e below (T260.setTop (mkF m 46 #[.val (.int p0), .val (.int p1), .val (.int p2), .val (.int (3 : Int32)), .val (.ref b244), .val (.ref b248)] [(.ref b244)])) _
      refine st263 _ ?_
      show Steps p.tables e below (T263.setTop (mkF m 49 #[.val (.int p0), .val (.int p1), .val (.int p2), .val (.int (3 : Int32)), .val (.ref b244), .val (.ref b248)] [(.ref rb246_b14)])) _
      refine XS.iconst X263.here hx rfl (hb hby at_49) ?_
      show Steps p.tables e below (T263.setTop (mkF m 50 #[.val (.int p0), .val (.int p1), .val (.int p2), .val (.int (3 : Int32)), .val (.ref b244), .val (.ref b248)] [(.int (2 : Int32)), (.ref rb246_b14)])) _
      refine XS.iloadN X263.here hx rfl (hb hby at_50) rfl ?_
      show Steps p.tables e below (T263.setTop (mkF m 51 #[.val (.int p0), .val (.int p1), .val (.int p2), .val (.int (3 : Int32)), .val (.ref b244), .val (.ref b248)] [(.int p1), (.int (2 : Int32)), (.ref rb246_b14)])) _
      refine st265 _ ?_
      show Steps p.tables e below (T265.setTop (mkF m 54 #[.val (.int p0), .val (.int p1), .val (.int p2), .val (.int (3 : Int32)), .val (.ref b244), .val (.ref b248)] [])) _
      refine XS.aload X265.here hx rfl (hb hby at_54) rfl rfl ?_
      show Steps p.tables e below (T265.setTop (mkF m 56 #[.val (.int p0), .val (.int p1), .val (.int p2), .val (.int (3 : Int32)), .val (.ref b244), .val (.ref b248)] [(.ref b244)])) _
      refine st268 _ ?_
      show Steps p.tables e below (T268.setTop (mkF m 59 #[.val (.int p0), .val (.int p1), .val (.int p2), .val (.int (3 : Int32)), .val (.ref b244), .val (.ref b248)] [(.ref rb246_b20)])) _
      refine XS.iconst X268.here hx rfl (hb hby at_59) ?_
      show Steps p.tables e below (T268.setTop (mkF m 60 #[.val (.int p0), .val (.int p1), .val (.int p2), .val (.int (3 : Int32)), .val (.ref b244), .val (.ref b248)] [(.int (3 : Int32)), (.ref rb246_b20)])) _
      refine XS.iloadN X268.here hx rfl (hb hby at_60) rfl ?_
      show Steps p.tables e below (T268.setTop (mkF m 61 #[.val (.int p0), .val (.int p1), .val (.int p2), .val (.int (3 : Int32)), .val (.ref b244), .val (.ref b248)] [(.int p1), (.int (3 : Int32)), (.ref rb246_b20)])) _
      refine st270 _ ?_
      show Steps p.tables e below (T270.setTop (mkF m 64 #[.val (.int p0), .val (.int p1), .val (.int p2), .val (.int (3 : Int32)), .val (.ref b244), .val (.ref b248)] [])) _
      refine XS.aload X270.here hx rfl (hb hby at_64) rfl rfl ?_
      show Steps p.tables e below (T270.setTop (mkF m 66 #[.val (.int p0), .val (.int p1), .val (.int p2), .val (.int (3 : Int32)), .val (.ref b244), .val (.ref b248)] [(.ref b248)])) _
      refine st273 _ ?_
      show Steps p.tables e below (T273.setTop (mkF m 69 #[.val (.int p0), .val (.int p1), .val (.int p2), .val (.int (3 : Int32)), .val (.ref b244), .val (.ref b248)] [(.ref rb250_b2)])) _
      refine XS.iconst X273.here hx rfl (hb hby at_69) ?_
      show Steps p.tables e below (T273.setTop (mkF m 70 #[.val (.int p0), .val (.int p1), .val (.int p2), .val (.int (3 : Int32)), .val (.ref b244), .val (.ref b248)] [(.int (0 : Int32)), (.ref rb250_b2)])) _
      refine XS.iloadN X273.here hx rfl (hb hby at_70) rfl ?_
      show Steps p.tables e below (T273.setTop (mkF m 71 #[.val (.int p0), .val (.int p1), .val (.int p2), .val (.int (3 : Int32)), .val (.ref b244), .val (.ref b248)] [(.int p2), (.int (0 : Int32)), (.ref rb250_b2)])) _
      refine st275 _ ?_
      show Steps p.tables e below (T275.setTop (mkF m 74 #[.val (.int p0), .val (.int p1), .val (.int p2), .val (.int (3 : Int32)), .val (.ref b244), .val (.ref b248)] [])) _
      refine XS.aload X275.here hx rfl (hb hby at_74) rfl rfl ?_
      show Steps p.tables e below (T275.setTop (mkF m 76 #[.val (.int p0), .val (.int p1), .val (.int p2), .val (.int (3 : Int32)), .val (.ref b244), .val (.ref b248)] [(.ref b248)])) _
      refine st278 _ ?_
      show Steps p.tables e below (T278.setTop (mkF m 79 #[.val (.int p0), .val (.int p1), .val (.int p2), .val (.int (3 : Int32)), .val (.ref b244), .val (.ref b248)] [(.ref rb250_b8)])) _
      refine XS.iconst X278.here hx rfl (hb hby at_79) ?_
      show Steps p.tables e below (T278.setTop (mkF m 80 #[.val (.int p0), .val (.int p1), .val (.int p2), .val (.int (3 : Int32)), .val (.ref b244), .val (.ref b248)] [(.int (1 : Int32)), (.ref rb250_b8)])) _
      refine XS.iloadN X278.here hx rfl (hb hby at_80) rfl ?_
      show Steps p.tables e below (T278.setTop (mkF m 81 #[.val (.int p0), .val (.int p1), .val (.int p2), .val (.int (3 : Int32)), .val (.ref b244), .val (.ref b248)] [(.int p2), (.int (1 : Int32)), (.ref rb250_b8)])) _
      refine st280 _ ?_
      show Steps p.tables e below (T280.setTop (mkF m 84 #[.val (.int p0), .val (.int p1), .val (.int p2), .val (.int (3 : Int32)), .val (.ref b244), .val (.ref b248)] [])) _
      refine XS.aload X280.here hx rfl (hb hby at_84) rfl rfl ?_
      show Steps p.tables e below (T280.setTop (mkF m 86 #[.val (.int p0), .val (.int p1), .val (.int p2), .val (.int (3 : Int32)), .val (.ref b244), .val (.ref b248)] [(.ref b248)])) _
      refine st283 _ ?_
      show Steps p.tables e below (T283.setTop (mkF m 89 #[.val (.int p0), .val (.int p1), .val (.int p2), .val (.int (3 : Int32)), .val (.ref b244), .val (.ref b248)] [(.ref rb250_b14)])) _
      refine XS.iconst X283.here hx rfl (hb hby at_89) ?_
      show Steps p.tables e below (T283.setTop (mkF m 90 #[.val (.int p0), .val (.int p1), .val (.int p2), .val (.int (3 : Int32)), .val (.ref b244), .val (.ref b248)] [(.int (2 : Int32)), (.ref rb250_b14)])) _
      refine XS.iloadN X283.here hx rfl (hb hby at_90) rfl ?_
      show Steps p.tables e below (T283.setTop (mkF m 91 #[.val (.int p0), .val (.int p1), .val (.int p2), .val (.int (3 : Int32)), .val (.ref b244), .val (.ref b248)] [(.int p2), (.int (2 : Int32)), (.ref rb250_b14)])) _
      refine st285 _ ?_
      show Steps p.tables e below (T285.setTop (mkF m 94 #[.val (.int p0), .val (.int p1), .val (.int p2), .val (.int (3 : Int32)), .val (.ref b244), .val (.ref b248)] [])) _
      refine XS.aload X285.here hx rfl (hb hby at_94) rfl rfl ?_
      show Steps p.tables e below (T285.setTop (mkF m 96 #[.val (.int p0), .val (.int p1), .val (.int p2), .val (.int (3 : Int32)), .val (.ref b244), .val (.ref b248)] [(.ref b248)])) _
      refine st288 _ ?_
      show Steps p.tables e below (T288.setTop (mkF m 99 #[.val (.int p0), .val (.int p1), .val (.int p2), .val (.int (3 : Int32)), .val (.ref b244), .val (.ref b248)] [(.ref rb250_b20)])) _
      refine XS.iconst X288.here hx rfl (hb hby at_99) ?_
      show Steps p.tables e below (T288.setTop (mkF m 100 #[.val (.int p0), .val (.int p1), .val (.int p2), .val (.int (3 : Int32)), .val (.ref b244), .val (.ref b248)] [(.int (3 : Int32)), (.ref rb250_b20)])) _
      refine XS.iloadN X288.here hx rfl (hb hby at_100) rfl ?_
      show Steps p.tables e below (T288.setTop (mkF m 101 #[.val (.int p0), .val (.int p1), .val (.int p2), .val (.int (3 : Int32)), .val (.ref b244), .val (.ref b248)] [(.int p2), (.int (3 : Int32)), (.ref rb250_b20)])) _
      refine st290 _ ?_
      show Steps p.tables e below (T290.setTop (mkF m 104 #[.val (.int p0), .val (.int p1), .val (.int p2), .val (.int (3 : Int32)), .val (.ref b244), .val (.ref b248)] [])) _
      refine XS.aload X290.here hx rfl (hb hby at_104) rfl rfl ?_
      show Steps p.tables e below (T290.setTop (mkF m 106 #[.val (.int p0), .val (.int p1), .val (.int p2), .val (.int (3 : Int32)), .val (.ref b244), .val (.ref b248)] [(.ref b244)])) _
      refine XS.aload X290.here hx rfl (hb hby at_106) rfl rfl ?_
      show Steps p.tables e below (T290.setTop (mkF m 108 #[.val (.int p0), .val (.int p1), .val (.int p2), .val (.int (3 : Int32)), .val (.ref b244), .val (.ref b248)] [(.ref b248), (.ref b244)])) _
      refine st307.trans ?_
      show Steps p.tables e below (T307.setTop (mkF m 111 #[.val (.int p0), .val (.int p1), .val (.int p2), .val (.int (3 : Int32)), .val (.ref b244), .val (.ref b248)] [])) _
      refine XS.aload X307.here hx rfl (hb hby at_111) rfl rfl ?_
      show Steps p.tables e below (T307.setTop (mkF m 113 #[.val (.int p0), .val (.int p1), .val (.int p2), .val (.int (3 : Int32)), .val (.ref b244), .val (.ref b248)] [(.ref b244)])) _
      refine st311 _ ?_
      show Steps p.tables e below (T311.setTop (mkF m 116 #[.val (.int p0), .val (.int p1), .val (.int p2), .val (.int (3 : Int32)), .val (.ref b244), .val (.ref b248)] [(.ref rb246_b2)])) _
      refine XS.iloadN X311.here hx rfl (hb hby at_116) rfl ?_
      show Steps p.tables e below (T311.setTop (mkF m 117 #[.val (.int p0), .val (.int p1), .val (.int p2), .val (.int (3 : Int32)), .val (.ref b244), .val (.ref b248)] [(.int (3 : Int32)), (.ref rb246_b2)])) _
      refine XS.iconst X311.here hx rfl (hb hby at_117) ?_
      show Steps p.tables e below (T311.setTop (mkF m 118 #[.val (.int p0), .val (.int p1), .val (.int p2), .val (.int (3 : Int32)), .val (.ref b244), .val (.ref b248)] [(.int (0 : Int32)), (.int (3 : Int32)), (.ref rb246_b2)])) _
      refine XS.iloadN X311.here hx rfl (hb hby at_118) rfl ?_
      show Steps p.tables e below (T311.setTop (mkF m 119 #[.val (.int p0), .val (.int p1), .val (.int p2), .val (.int (3 : Int32)), .val (.ref b244), .val (.ref b248)] [(.int p1), (.int (0 : Int32)), (.int (3 : Int32)), (.ref rb246_b2)])) _
      refine XS.iloadN X311.here hx rfl (hb hby at_119) rfl ?_
      show Steps p.tables e below (T311.setTop (mkF m 120 #[.val (.int p0), .val (.int p1), .val (.int p2), .val (.int (3 : Int32)), .val (.ref b244), .val (.ref b248)] [(.int p2), (.int p1), (.int (0 : Int32)), (.int (3 : Int32)), (.ref rb246_b2)])) _
      refine st312 _ ?_
      show Steps p.tables e below (T312.setTop (mkF m 123 #[.val (.int p0), .val (.int p1), .val (.int p2), .val (.int (3 : Int32)), .val (.ref b244), .val (.ref b248)] [(.int (1 : Int32))])) _
      refine XS.ifNo X312.here hx rfl (hb hby at_123) rfl (Jvm.Free.XT.i0_eq_f (by decide)) ?_
      show Steps p.tables e below (T312.setTop (mkF m 126 #[.val (.int p0), .val (.int p1), .val (.int p2), .val (.int (3 : Int32)), .val (.ref b244), .val (.ref b248)] [])) _
      refine XS.aload X312.here hx rfl (hb hby at_126) rfl rfl ?_
      show Steps p.tables e below (T312.setTop (mkF m 128 #[.val (.int p0), .val (.int p1), .val (.int p2), .val (.int (3 : Int32)), .val (.ref b244), .val (.ref b248)] [(.ref b244)])) _
      refine st314 _ ?_
      show Steps p.tables e below (T314.setTop (mkF m 131 #[.val (.int p0), .val (.int p1), .val (.int p2), .val (.int (3 : Int32)), .val (.ref b244), .val (.ref b248)] [(.ref rb246_b8)])) _
      refine XS.iloadN X314.here hx rfl (hb hby at_131) rfl ?_
      show Steps p.tables e below (T314.setTop (mkF m 132 #[.val (.int p0), .val (.int p1), .val (.int p2), .val (.int (3 : Int32)), .val (.ref b244), .val (.ref b248)] [(.int (3 : Int32)), (.ref rb246_b8)])) _
      refine XS.iconst X314.here hx rfl (hb hby at_132) ?_
      show Steps p.tables e below (T314.setTop (mkF m 133 #[.val (.int p0), .val (.int p1), .val (.int p2), .val (.int (3 : Int32)), .val (.ref b244), .val (.ref b248)] [(.int (1 : Int32)), (.int (3 : Int32)), (.ref rb246_b8)])) _
      refine XS.iloadN X314.here hx rfl (hb hby at_133) rfl ?_
      show Steps p.tables e below (T314.setTop (mkF m 134 #[.val (.int p0), .val (.int p1), .val (.int p2), .val (.int (3 : Int32)), .val (.ref b244), .val (.ref b248)] [(.int p1), (.int (1 : Int32)), (.int (3 : Int32)), (.ref rb246_b8)])) _
      refine XS.iloadN X314.here hx rfl (hb hby at_134) rfl ?_
      show Steps p.tables e below (T314.setTop (mkF m 135 #[.val (.int p0), .val (.int p1), .val (.int p2), .val (.int (3 : Int32)), .val (.ref b244), .val (.ref b248)] [(.int p2), (.int p1), (.int (1 : Int32)), (.int (3 : Int32)), (.ref rb246_b8)])) _
      refine st315 _ ?_
      show Steps p.tables e below (T315.setTop (mkF m 138 #[.val (.int p0), .val (.int p1), .val (.int p2), .val (.int (3 : Int32)), .val (.ref b244), .val (.ref b248)] [(.int (1 : Int32))])) _
      refine XS.ifNo X315.here hx rfl (hb hby at_138) rfl (Jvm.Free.XT.i0_eq_f (by decide)) ?_
      show Steps p.tables e below (T315.setTop (mkF m 141 #[.val (.int p0), .val (.int p1), .val (.int p2), .val (.int (3 : Int32)), .val (.ref b244), .val (.ref b248)] [])) _
      refine XS.aload X315.here hx rfl (hb hby at_141) rfl rfl ?_
      show Steps p.tables e below (T315.setTop (mkF m 143 #[.val (.int p0), .val (.int p1), .val (.int p2), .val (.int (3 : Int32)), .val (.ref b244), .val (.ref b248)] [(.ref b244)])) _
      refine st317 _ ?_
      show Steps p.tables e below (T317.setTop (mkF m 146 #[.val (.int p0), .val (.int p1), .val (.int p2), .val (.int (3 : Int32)), .val (.ref b244), .val (.ref b248)] [(.ref rb246_b14)])) _
      refine XS.iloadN X317.here hx rfl (hb hby at_146) rfl ?_
      show Steps p.tables e below (T317.setTop (mkF m 147 #[.val (.int p0), .val (.int p1), .val (.int p2), .val (.int (3 : Int32)), .val (.ref b244), .val (.ref b248)] [(.int (3 : Int32)), (.ref rb246_b14)])) _
      refine XS.iconst X317.here hx rfl (hb hby at_147) ?_
      show Steps p.tables e below (T317.setTop (mkF m 148 #[.val (.int p0), .val (.int p1), .val (.int p2), .val (.int (3 : Int32)), .val (.ref b244), .val (.ref b248)] [(.int (2 : Int32)), (.int (3 : Int32)), (.ref rb246_b14)])) _
      refine XS.iloadN X317.here hx rfl (hb hby at_148) rfl ?_
      show Steps p.tables e below (T317.setTop (mkF m 149 #[.val (.int p0), .val (.int p1), .val (.int p2), .val (.int (3 : Int32)), .val (.ref b244), .val (.ref b248)] [(.int p1), (.int (2 : Int32)), (.int (3 : Int32)), (.ref rb246_b14)])) _
      refine XS.iloadN X317.here hx rfl (hb hby at_149) rfl ?_
      show Steps p.tables e below (T317.setTop (mkF m 150 #[.val (.int p0), .val (.int p1), .val (.int p2), .val (.int (3 : Int32)), .val (.ref b244), .val (.ref b248)] [(.int p2), (.int p1), (.int (2 : Int32)), (.int (3 : Int32)), (.ref rb246_b14)])) _
      refine st318 _ ?_
      show Steps p.tables e below (T318.setTop (mkF m 153 #[.val (.int p0), .val (.int p1), .val (.int p2), .val (.int (3 : Int32)), .val (.ref b244), .val (.ref b248)] [(.int (1 : Int32))])) _
      refine XS.ifNo X318.here hx rfl (hb hby at_153) rfl (Jvm.Free.XT.i0_eq_f (by decide)) ?_
      show Steps p.tables e below (T318.setTop (mkF m 156 #[.val (.int p0), .val (.int p1), .val (.int p2), .val (.int (3 : Int32)), .val (.ref b244), .val (.ref b248)] [])) _
      refine XS.aload X318.here hx rfl (hb hby at_156) rfl rfl ?_
      show Steps p.tables e below (T318.setTop (mkF m 158 #[.val (.int p0), .val (.int p1), .val (.int p2), .val (.int (3 : Int32)), .val (.ref b244), .val (.ref b248)] [(.ref b244)])) _
      refine st320 _ ?_
      show Steps p.tables e below (T320.setTop (mkF m 161 #[.val (.int p0), .val (.int p1), .val (.int p2), .val (.int (3 : Int32)), .val (.ref b244), .val (.ref b248)] [(.ref rb246_b20)])) _
      refine XS.iloadN X320.here hx rfl (hb hby at_161) rfl ?_
      show Steps p.tables e below (T320.setTop (mkF m 162 #[.val (.int p0), .val (.int p1), .val (.int p2), .val (.int (3 : Int32)), .val (.ref b244), .val (.ref b248)] [(.int (3 : Int32)), (.ref rb246_b20)])) _
      refine XS.iconst X320.here hx rfl (hb hby at_162) ?_
      show Steps p.tables e below (T320.setTop (mkF m 163 #[.val (.int p0), .val (.int p1), .val (.int p2), .val (.int (3 : Int32)), .val (.ref b244), .val (.ref b248)] [(.int (3 : Int32)), (.int (3 : Int32)), (.ref rb246_b20)])) _
      refine XS.iloadN X320.here hx rfl (hb hby at_163) rfl ?_
      show Steps p.tables e below (T320.setTop (mkF m 164 #[.val (.int p0), .val (.int p1), .val (.int p2), .val (.int (3 : Int32)), .val (.ref b244), .val (.ref b248)] [(.int p1), (.int (3 : Int32)), (.int (3 : Int32)), (.ref rb246_b20)])) _
      refine XS.iloadN X320.here hx rfl (hb hby at_164) rfl ?_
      show Steps p.tables e below (T320.setTop (mkF m 165 #[.val (.int p0), .val (.int p1), .val (.int p2), .val (.int (3 : Int32)), .val (.ref b244), .val (.ref b248)] [(.int p2), (.int p1), (.int (3 : Int32)), (.int (3 : Int32)), (.ref rb246_b20)])) _
      refine st321 _ ?_
      show Steps p.tables e below (T321.setTop (mkF m 168 #[.val (.int p0), .val (.int p1), .val (.int p2), .val (.int (3 : Int32)), .val (.ref b244), .val (.ref b248)] [(.int (1 : Int32))])) _
      refine XS.ifNo X321.here hx rfl (hb hby at_168) rfl (Jvm.Free.XT.i0_eq_f (by decide)) ?_
      show Steps p.tables e below (T321.setTop (mkF m 171 #[.val (.int p0), .val (.int p1), .val (.int p2), .val (.int (3 : Int32)), .val (.ref b244), .val (.ref b248)] [])) _
      refine XS.aload X321.here hx rfl (hb hby at_171) rfl rfl ?_
      show Steps p.tables e below (T321.setTop (mkF m 173 #[.val (.int p0), .val (.int p1), .val (.int p2), .val (.int (3 : Int32)), .val (.ref b244), .val (.ref b248)] [(.ref b248)])) _
      refine st323 _ ?_
      show Steps p.tables e below (T323.setTop (mkF m 176 #[.val (.int p0), .val (.int p1), .val (.int p2), .val (.int (3 : Int32)), .val (.ref b244), .val (.ref b248)] [(.ref rb250_b2)])) _
      refine XS.iloadN X323.here hx rfl (hb hby at_176) rfl ?_
      show Steps p.tables e below (T323.setTop (mkF m 177 #[.val (.int p0), .val (.int p1), .val (.int p2), .val (.int (3 : Int32)), .val (.ref b244), .val (.ref b248)] [(.int (3 : Int32)), (.ref rb250_b2)])) _
      refine XS.iconst X323.here hx rfl (hb hby at_177) ?_
      show Steps p.tables e below (T323.setTop (mkF m 178 #[.val (.int p0), .val (.int p1), .val (.int p2), .val (.int (3 : Int32)), .val (.ref b244), .val (.ref b248)] [(.int (0 : Int32)), (.int (3 : Int32)), (.ref rb250_b2)])) _
      refine XS.iloadN X323.here hx rfl (hb hby at_178) rfl ?_
      show Steps p.tables e below (T323.setTop (mkF m 179 #[.val (.int p0), .val (.int p1), .val (.int p2), .val (.int (3 : Int32)), .val (.ref b244), .val (.ref b248)] [(.int p2), (.int (0 : Int32)), (.int (3 : Int32)), (.ref rb250_b2)])) _
      refine st325 _ ?_
      show Steps p.tables e below (T325.setTop (mkF m 182 #[.val (.int p0), .val (.int p1), .val (.int p2), .val (.int (3 : Int32)), .val (.ref b244), .val (.ref b248)] [(.int (1 : Int32))])) _
      refine XS.ifNo X325.here hx rfl (hb hby at_182) rfl (Jvm.Free.XT.i0_eq_f (by decide)) ?_
      show Steps p.tables e below (T325.setTop (mkF m 185 #[.val (.int p0), .val (.int p1), .val (.int p2), .val (.int (3 : Int32)), .val (.ref b244), .val (.ref b248)] [])) _
      refine XS.aload X325.here hx rfl (hb hby at_185) rfl rfl ?_
      show Steps p.tables e below (T325.setTop (mkF m 187 #[.val (.int p0), .val (.int p1), .val (.int p2), .val (.int (3 : Int32)), .val (.ref b244), .val (.ref b248)] [(.ref b248)])) _
      refine st327 _ ?_
      show Steps p.tables e below (T327.setTop (mkF m 190 #[.val (.int p0), .val (.int p1), .val (.int p2), .val (.int (3 : Int32)), .val (.ref b244), .val (.ref b248)] [(.ref rb250_b8)])) _
      refine XS.iloadN X327.here hx rfl (hb hby at_190) rfl ?_
      show Steps p.tables e below (T327.setTop (mkF m 191 #[.val (.int p0), .val (.int p1), .val (.int p2), .val (.int (3 : Int32)), .val (.ref b244), .val (.ref b248)] [(.int (3 : Int32)), (.ref rb250_b8)])) _
      refine XS.iconst X327.here hx rfl (hb hby at_191) ?_
      show Steps p.tables e below (T327.setTop (mkF m 192 #[.val (.int p0), .val (.int p1), .val (.int p2), .val (.int (3 : Int32)), .val (.ref b244), .val (.ref b248)] [(.int (1 : Int32)), (.int (3 : Int32)), (.ref rb250_b8)])) _
      refine XS.iloadN X327.here hx rfl (hb hby at_192) rfl ?_
      show Steps p.tables e below (T327.setTop (mkF m 193 #[.val (.int p0), .val (.int p1), .val (.int p2), .val (.int (3 : Int32)), .val (.ref b244), .val (.ref b248)] [(.int p2), (.int (1 : Int32)), (.int (3 : Int32)), (.ref rb250_b8)])) _
      refine st329 _ ?_
      show Steps p.tables e below (T329.setTop (mkF m 196 #[.val (.int p0), .val (.int p1), .val (.int p2), .val (.int (3 : Int32)), .val (.ref b244), .val (.ref b248)] [(.int (1 : Int32))])) _
      refine XS.ifNo X329.here hx rfl (hb hby at_196) rfl (Jvm.Free.XT.i0_eq_f (by decide)) ?_
      show Steps p.tables e below (T329.setTop (mkF m 199 #[.val (.int p0), .val (.int p1), .val (.int p2), .val (.int (3 : Int32)), .val (.ref b244), .val (.ref b248)] [])) _
      refine XS.aload X329.here hx rfl (hb hby at_199) rfl rfl ?_
      show Steps p.tables e below (T329.setTop (mkF m 201 #[.val (.int p0), .val (.int p1), .val (.int p2), .val (.int (3 : Int32)), .val (.ref b244), .val (.ref b248)] [(.ref b248)])) _
      refine st331 _ ?_
      show Steps p.tables e below (T331.setTop (mkF m 204 #[.val (.int p0), .val (.int p1), .val (.int p2), .val (.int (3 : Int32)), .val (.ref b244), .val (.ref b248)] [(.ref rb250_b14)])) _
      refine XS.iloadN X331.here hx rfl (hb hby at_204) rfl ?_
      show Steps p.tables e below (T331.setTop (mkF m 205 #[.val (.int p0), .val (.int p1), .val (.int p2), .val (.int (3 : Int32)), .val (.ref b244), .val (.ref b248)] [(.int (3 : Int32)), (.ref rb250_b14)])) _
      refine XS.iconst X331.here hx rfl (hb hby at_205) ?_
      show Steps p.tables e below (T331.setTop (mkF m 206 #[.val (.int p0), .val (.int p1), .val (.int p2), .val (.int (3 : Int32)), .val (.ref b244), .val (.ref b248)] [(.int (2 : Int32)), (.int (3 : Int32)), (.ref rb250_b14)])) _
      refine XS.iloadN X331.here hx rfl (hb hby at_206) rfl ?_
      show Steps p.tables e below (T331.setTop (mkF m 207 #[.val (.int p0), .val (.int p1), .val (.int p2), .val (.int (3 : Int32)), .val (.ref b244), .val (.ref b248)] [(.int p2), (.int (2 : Int32)), (.int (3 : Int32)), (.ref rb250_b14)])) _
      refine st333 _ ?_
      show Steps p.tables e below (T333.setTop (mkF m 210 #[.val (.int p0), .val (.int p1), .val (.int p2), .val (.int (3 : Int32)), .val (.ref b244), .val (.ref b248)] [(.int (1 : Int32))])) _
      refine XS.ifNo X333.here hx rfl (hb hby at_210) rfl (Jvm.Free.XT.i0_eq_f (by decide)) ?_
      show Steps p.tables e below (T333.setTop (mkF m 213 #[.val (.int p0), .val (.int p1), .val (.int p2), .val (.int (3 : Int32)), .val (.ref b244), .val (.ref b248)] [])) _
      refine XS.aload X333.here hx rfl (hb hby at_213) rfl rfl ?_
      show Steps p.tables e below (T333.setTop (mkF m 215 #[.val (.int p0), .val (.int p1), .val (.int p2), .val (.int (3 : Int32)), .val (.ref b244), .val (.ref b248)] [(.ref b248)])) _
      refine st335 _ ?_
      show Steps p.tables e below (T335.setTop (mkF m 218 #[.val (.int p0), .val (.int p1), .val (.int p2), .val (.int (3 : Int32)), .val (.ref b244), .val (.ref b248)] [(.ref rb250_b20)])) _
      refine XS.iloadN X335.here hx rfl (hb hby at_218) rfl ?_
      show Steps p.tables e below (T335.setTop (mkF m 219 #[.val (.int p0), .val (.int p1), .val (.int p2), .val (.int (3 : Int32)), .val (.ref b244), .val (.ref b248)] [(.int (3 : Int32)), (.ref rb250_b20)])) _
      refine XS.iconst X335.here hx rfl (hb hby at_219) ?_
      show Steps p.tables e below (T335.setTop (mkF m 220 #[.val (.int p0), .val (.int p1), .val (.int p2), .val (.int (3 : Int32)), .val (.ref b244), .val (.ref b248)] [(.int (3 : Int32)), (.int (3 : Int32)), (.ref rb250_b20)])) _
      refine XS.iloadN X335.here hx rfl (hb hby at_220) rfl ?_
      show Steps p.tables e below (T335.setTop (mkF m 221 #[.val (.int p0), .val (.int p1), .val (.int p2), .val (.int (3 : Int32)), .val (.ref b244), .val (.ref b248)] [(.int p2), (.int (3 : Int32)), (.int (3 : Int32)), (.ref rb250_b20)])) _
      refine st337 _ ?_
      show Steps p.tables e below (T337.setTop (mkF m 224 #[.val (.int p0), .val (.int p1), .val (.int p2), .val (.int (3 : Int32)), .val (.ref b244), .val (.ref b248)] [(.int (1 : Int32))])) _
      refine XS.ifNo X337.here hx rfl (hb hby at_224) rfl (Jvm.Free.XT.i0_eq_f (by decide)) ?_
      show Steps p.tables e below (T337.setTop (mkF m 227 #[.val (.int p0), .val (.int p1), .val (.int p2), .val (.int (3 : Int32)), .val (.ref b244), .val (.ref b248)] [])) _
      refine XS.iconst X337.here hx rfl (hb hby at_227) ?_
      show Steps p.tables e below (T337.setTop (mkF m 228 #[.val (.int p0), .val (.int p1), .val (.int p2), .val (.int (3 : Int32)), .val (.ref b244), .val (.ref b248)] [(.int (1 : Int32))])) _
      refine XS.goto X337.here hx rfl (pc0 := 228) (pc' := 232) rfl (hb hby at_228) (by decide) (by decide) ?_
      exact k
    obtain ⟨fs, hr, hrun, hended, hW, hsame⟩ := X337.leave (v := some (.int (1 : Int32))) (fun h => by rw [Bd.returns] at h; cases h)
    refine ⟨_, _, c338 _ ?_, hrun, hended, _, _, rfl, ?_, ⟨_, rfl⟩, hW, hsame.mono (by decide) (by decide)⟩
    · show Steps p.tables e below (T337.setTop (mkF m 232 #[.val (.int p0), .val (.int p1), .val (.int p2), .val (.int (3 : Int32)), .val (.ref b244), .val (.ref b248)] [(.int (1 : Int32))])) _
      exact retOut X337 hx Bd.returns rfl (Or.inl ⟨rfl, by simp, _, rfl⟩) (hb hby at_232) hr
    · show Q0 n0 _ T337.heap _
      rw [e337]
      exact ⟨rfl, by first | assumption | exact N0⟩
set_option maxRecDepth 65536 in
set_option maxHeartbeats 40000000 in
theorem comes_1 {Post : Tables → Env → Array Value → State → Outcome → State → Prop} (hpost : ∀ tb e args s v u, (limb_1_1.after args s (.returned v) u = true ∧ limb_1_2.after args s (.returned v) u = true ∧ True) → FrameEnd s (.returned v) u (Jvm.fieldLocs frame_1_writes args s ++ Jvm.arrayLocs frame_1_arrays args s ++ Jvm.staticLocs frame_1_statics s) 32 128 → Post tb e args s (.returned v) u) :
    ArmFor flags0 classFile x code maxLocals ret World_1 tables_1 room_1 Calls_1 rest_1 Pre_1 Post := by
  intro l hfl _ _ p e ha hc hk s m args below hf hA hF happ hP
  obtain ⟨hcalls, hrest, hpre⟩ := hP
  obtain ⟨-, -, -, hnamed, -, -, -, hat⟩ := (Spec.applies_iff hf).mp happ
  obtain ⟨hg, hn⟩ := and_e (Cond.before_iff.mp (show (Jvm.Cond.and given_1 narrow_1).before args s = true from hpre))
  obtain ⟨g1, g2⟩ := and_e hg
  obtain ⟨g3, g4⟩ := and_e g2
  obtain ⟨g5, g6⟩ := and_e g4
  obtain ⟨w0, w1, w2, rfl⟩ : ∃ w0 w1 w2 : Value, args = #[w0, w1, w2] := by
    have hs : args.size = 3 := by simpa [Cond.value, given_1] using g1
    obtain ⟨L⟩ := args
    match L, hs with
    | [w0, w1, w2], _ => exact ⟨w0, w1, w2, rfl⟩
  have hw := fun d (hd : d ∈ tables_1) => atoms_spec (ws := Jvm.Cond.code x code maxLocals ret :: tables_1) hat d (List.mem_cons_of_mem _ hd)
  have hfit : Fit s := fun {y c} hc i hi => by
    obtain ⟨ha, rfl⟩ := Array.getElem?_eq_some_iff.mp hc
    have q := List.all_eq_true.mp ((Array.all_eq_true_iff_forall_mem.mp hF) _ (Array.getElem_mem ha)) i (List.mem_range.mpr hi)
    simpa [Array.getElem?_eq_getElem hi] using q
  obtain ⟨i0, ei0⟩ := is_v g3
  obtain rfl : w0 = (.int i0) := Option.some.inj ei0
  obtain ⟨i1, ei1⟩ := is_v g5
  obtain rfl : w1 = (.int i1) := Option.some.inj ei1
  obtain ⟨i2, ei2⟩ := is_v g6
  obtain rfl : w2 = (.int i2) := Option.some.inj ei2
  obtain ⟨n, o, h1, h2, h3, _, L, rfl, ⟨rfl, N⟩, hq⟩ := rm0 l s _ hw tables_1 i0 i1 i2  s.heap s.heap.size (Nat.le_refl _)  p e ha hc hk s m _ below hf ((Spec.applies_iff_loose hf).mp happ).1 ⟨rfl, State.Warmed39.refl s, rfl⟩ trivial
  refine ⟨n, _, h1, h2, h3, hpost _ _ _ _ _ _ ⟨Cond.after_iff.mpr rfl, Cond.after_iff.mpr (eq_i res_at (Term.int_eval (1)) rfl), trivial⟩ ⟨hq.1, hq.2.1, (hq.2.2.sift fun y hy => Or.inr (N y hy)).mono (by decide) (by decide)⟩⟩
theorem main_1_1 : Claimed_1_1 := comes_1 fun _ _ _ _ _ _ h hF => ⟨h.1, hF⟩
theorem main_1_2 : Claimed_1_2 := comes_1 fun _ _ _ _ _ _ h hF => ⟨h.2.1, hF⟩
end Jvm.Pilot.@@N@@
namespace Jvm.Pilot.@@N@@
open Jvm Jvm.ClassFile Sem Op Lib Jvm.Free Jvm.Stand Jvm.Pilot.@@N@@.Jvm.D
/-! MADE BY PROGRAM (witnessworld.py) out of the Statement's table words and the real class files: 11 classes; the members and pool entries that the words name. The judged class is class 1, her method 1. -/
namespace start1
open Jvm.ClassFile
def u (s : String) : CpInfo := .utf8 (stringToUtf16 s)
/-- a pool by its gaps: so many unusable entries, then the entry; so many at the end -/
def gap : Nat → List CpInfo → List CpInfo
  | 0, r => r
  | n + 1, r => .unusable :: gap n r
def poolList (es : List (Nat × CpInfo)) (last : Nat) : List CpInfo := es.foldr (fun e r => gap e.1 (e.2 :: r)) (gap last [])
def pool (es : List (Nat × CpInfo)) (last : Nat) : Array CpInfo := ⟨poolList es last⟩
def fileOf (pool : Array CpInfo) (this : Nat) (attrs : Array Attribute := #[]) (ms : Array MethodInfo := #[]) (fl : Nat := 33) (sup : Nat := 0) (ifs : Array Nat := #[]) (fds : Array FieldInfo := #[]) : ClassFile where
  minorVersion := 0
  majorVersion := 65
  constantPool := pool
  accessFlags := fl
  thisClass := this
  superClass := sup
  interfaces := ifs
  fields := fds
  methods := ms
  attributes := attrs
def plain (name : String) (sup : Option ClassId) : Class where
  name := name
  kind := .ordinary
  loader := none
  accessFlags := 33
  super := sup
  interfaces := #[]
  cf := none
  fields := #[]
  methods := #[]
  instanceTypes := #[]
  staticTypes := #[]
  resolved := #[]
  callSites := []
  init := .initialized
  statics := none
  mirror := none

def pool0 : Array CpInfo := pool [(5, u "<init>"), (0, u "()V"), (1, .class_ 10), (1, u "java/lang/Object")] 113

def k0c0 : Code := { maxStack := 0, maxLocals := 1, code := object_method_1_code, exceptionTable := #[], attributes := #[] }
def k0m0 : Method := { name := "<init>", desc := "()V", sig := { parameters := [], returnType := none }, accessFlags := 1, code := some k0c0 }
/-- java/lang/Object -/
def k0 : Class := { plain "java/lang/Object" none with
  accessFlags := 33
  interfaces := #[]
  cf := some (fileOf pool0 8 #[] #[{ accessFlags := 1, nameIndex := 5, descriptorIndex := 6, attributes := #[] }] 33 0 #[] #[])
  fields := #[]
  methods := #[k0m0]
  instanceTypes := #[]
  staticTypes := #[]
  resolved := Array.replicate 124 none
  statics := none }

def pool1 : Array CpInfo := pool [(2, .class_ 4), (1, u "java/lang/Object"), (0, u "<init>"), (0, u "()V"), (0, .class_ 8), (0, u "com/example/lumenstand/lumenstand/light/Interception"), (0, .methodref 7 10), (0, .nameAndType 5 11), (0, u "(I)V"), (0, .fieldref 7 13), (0, .nameAndType 14 15), (0, u "direct"), (0, u "[D"), (0, .methodref 17 18), (0, .class_ 19), (0, .nameAndType 20 21), (0, u "com/example/lumenstand/lumenstand/light/InterceptionAddPinLaw"), (0, u "put"), (0, u "([DII)V"), (0, .fieldref 7 23), (0, .nameAndType 24 15), (0, u "diffuse"), (0, .fieldref 7 26), (0, .nameAndType 27 15), (0, u "potential"), (0, .fieldref 7 29), (0, .nameAndType 30 15), (0, u "trunk"), (0, .methodref 7 32), (0, .nameAndType 33 34), (0, u "add"), (0, u "(Lcom/example/lumenstand/lumenstand/light/Interception;)V"), (0, .methodref 17 36), (0, .nameAndType 37 38), (0, u "sum"), (0, u "([DIIII)Z"), (0, .methodref 17 40), (0, .nameAndType 41 42), (0, u "kept"), (0, u "([DIII)Z"), (0, .methodref 17 44), (0, .nameAndType 45 46), (0, u "v"), (0, u "(III)D"), (2, u "law"), (0, u "(III)Z")] 3

def k1m0 : Method := { name := "<init>", desc := "()V", sig := { parameters := [], returnType := none }, accessFlags := 2, code := none }
def k1c1 : Code := { maxStack := 5, maxLocals := 6, code := code, exceptionTable := #[], attributes := #[] }
def k1m1 : Method := { name := "law", desc := "(III)Z", sig := { parameters := [.int, .int, .int], returnType := some .boolean }, accessFlags := 9, code := some k1c1 }
def k1c2 : Code := { maxStack := 3, maxLocals := 3, code := method_3_code, exceptionTable := #[], attributes := #[] }
def k1m2 : Method := { name := "v", desc := "(III)D", sig := { parameters := [.int, .int, .int], returnType := some .double }, accessFlags := 10, code := some k1c2 }
def k1c3 : Code := { maxStack := 5, maxLocals := 3, code := method_4_code, exceptionTable := #[], attributes := #[] }
def k1m3 : Method := { name := "put", desc := "([DII)V", sig := { parameters := [(.array .double), .int, .int], returnType := none }, accessFlags := 10, code := some k1c3 }
def k1c4 : Code := { maxStack := 7, maxLocals := 5, code := method_5_code, exceptionTable := #[], attributes := #[] }
def k1m4 : Method := { name := "sum", desc := "([DIIII)Z", sig := { parameters := [(.array .double), .int, .int, .int, .int], returnType := some .boolean }, accessFlags := 10, code := some k1c4 }
def k1c5 : Code := { maxStack := 5, maxLocals := 4, code := method_6_code, exceptionTable := #[], attributes := #[] }
def k1m5 : Method := { name := "kept", desc := "([DIII)Z", sig := { parameters := [(.array .double), .int, .int, .int], returnType := some .boolean }, accessFlags := 10, code := some k1c5 }
/-- com/example/lumenstand/lumenstand/light/InterceptionAddPinLaw -/
def k1 : Class := { plain "com/example/lumenstand/lumenstand/light/InterceptionAddPinLaw" (some 0) with
  accessFlags := 49
  interfaces := #[]
  cf := some (fileOf pool1 17 #[] #[{ accessFlags := 2, nameIndex := 5, descriptorIndex := 6, attributes := #[] }, { accessFlags := 9, nameIndex := 49, descriptorIndex := 50, attributes := #[] }, { accessFlags := 10, nameIndex := 45, descriptorIndex := 46, attributes := #[] }, { accessFlags := 10, nameIndex := 20, descriptorIndex := 21, attributes := #[] }, { accessFlags := 10, nameIndex := 37, descriptorIndex := 38, attributes := #[] }, { accessFlags := 10, nameIndex := 41, descriptorIndex := 42, attributes := #[] }] 49 2 #[] #[])
  fields := #[]
  methods := #[k1m0, k1m1, k1m2, k1m3, k1m4, k1m5]
  instanceTypes := #[]
  staticTypes := #[]
  resolved := Array.replicate 54 none
  statics := none }

def pool2 : Array CpInfo := pool [(1, .methodref 2 3), (0, .class_ 4), (0, .nameAndType 5 6), (0, u "java/lang/Object"), (0, u "<init>"), (0, u "()V"), (0, .fieldref 8 9), (0, .class_ 10), (0, .nameAndType 11 12), (0, u "com/example/lumenstand/lumenstand/light/Interception"), (0, u "direct"), (0, u "[D"), (0, .fieldref 8 14), (0, .nameAndType 15 12), (0, u "diffuse"), (0, .fieldref 8 17), (0, .nameAndType 18 12), (0, u "potential"), (0, .fieldref 8 20), (0, .nameAndType 21 12), (0, u "trunk"), (10, u "(I)V"), (17, u "add"), (3, u "(Lcom/example/lumenstand/lumenstand/light/Interception;)V")] 7

def k2c0 : Code := { maxStack := 2, maxLocals := 2, code := prog_14_method_1_code, exceptionTable := #[], attributes := #[] }
def k2m0 : Method := { name := "<init>", desc := "(I)V", sig := { parameters := [.int], returnType := none }, accessFlags := 0, code := some k2c0 }
def k2c1 : Code := { maxStack := 6, maxLocals := 3, code := prog_14_method_2_code, exceptionTable := #[], attributes := #[] }
def k2m1 : Method := { name := "add", desc := "(Lcom/example/lumenstand/lumenstand/light/Interception;)V", sig := { parameters := [(.object "com/example/lumenstand/lumenstand/light/Interception")], returnType := none }, accessFlags := 0, code := some k2c1 }
/-- com/example/lumenstand/lumenstand/light/Interception -/
def k2 : Class := { plain "com/example/lumenstand/lumenstand/light/Interception" (some 0) with
  accessFlags := 48
  interfaces := #[]
  cf := some (fileOf pool2 8 #[] #[{ accessFlags := 0, nameIndex := 5, descriptorIndex := 32, attributes := #[] }, { accessFlags := 0, nameIndex := 50, descriptorIndex := 54, attributes := #[] }] 48 2 #[] #[{ accessFlags := 16, nameIndex := 11, descriptorIndex := 12, attributes := #[] }, { accessFlags := 16, nameIndex := 15, descriptorIndex := 12, attributes := #[] }, { accessFlags := 16, nameIndex := 18, descriptorIndex := 12, attributes := #[] }, { accessFlags := 16, nameIndex := 21, descriptorIndex := 12, attributes := #[] }])
  fields := #[{ name := "direct", type := (.array .double), accessFlags := 16, slot := 0, constantValue := 0 }, { name := "diffuse", type := (.array .double), accessFlags := 16, slot := 1, constantValue := 0 }, { name := "potential", type := (.array .double), accessFlags := 16, slot := 2, constantValue := 0 }, { name := "trunk", type := (.array .double), accessFlags := 16, slot := 3, constantValue := 0 }]
  methods := #[k2m0, k2m1]
  instanceTypes := #[(.array .double), (.array .double), (.array .double), (.array .double)]
  staticTypes := #[]
  resolved := Array.replicate 62 none
  statics := none }

def pool3 : Array CpInfo := pool [(1, u "java/lang/Cloneable"), (0, .class_ 1), (0, u "java/lang/Object"), (0, .class_ 3)] 3

/-- java/lang/Cloneable -/
def k3 : Class := { plain "java/lang/Cloneable" (some 0) with
  accessFlags := 1537
  interfaces := #[]
  cf := some (fileOf pool3 2 #[] #[] 1537 4 #[] #[])
  fields := #[]
  methods := #[]
  instanceTypes := #[]
  staticTypes := #[]
  resolved := Array.replicate 8 none
  statics := none }

def pool4 : Array CpInfo := pool [(1, u "java/io/Serializable"), (0, .class_ 1), (0, u "java/lang/Object"), (0, .class_ 3)] 3

/-- java/io/Serializable -/
def k4 : Class := { plain "java/io/Serializable" (some 0) with
  accessFlags := 1537
  interfaces := #[]
  cf := some (fileOf pool4 2 #[] #[] 1537 4 #[] #[])
  fields := #[]
  methods := #[]
  instanceTypes := #[]
  staticTypes := #[]
  resolved := Array.replicate 8 none
  statics := none }

/-- the primitive byte -/
def k5 : Class := { plain "byte" none with kind := .primitive 'B', accessFlags := 0x411 }
/-- [B -/
def k6 : Class := { plain "[B" (some 0) with kind := .array 5 .byte, interfaces := #[3, 4], accessFlags := 1041 }

/-- the primitive double -/
def k7 : Class := { plain "double" none with kind := .primitive 'D', accessFlags := 0x411 }
/-- [D -/
def k8 : Class := { plain "[D" (some 0) with kind := .array 7 .double, interfaces := #[3, 4], accessFlags := 1041 }

/-- the primitive int -/
def k9 : Class := { plain "int" none with kind := .primitive 'I', accessFlags := 0x411 }
/-- [I -/
def k10 : Class := { plain "[I" (some 0) with kind := .array 9 .int, interfaces := #[3, 4], accessFlags := 1041 }

def heap : Heap := #[]
def classes : Array Class := #[k0, k1, k2, k3, k4, k5, k6, k7, k8, k9, k10]
def interned : List (Array UInt16 × Addr) := []
def slotsUsed : Nat := 0
def theMethod : MethodId := ⟨1, 1⟩
def args0 : Array Value := #[.int 5, .int 5, .int 5]
def aboutOver (below : List Frame) : State where
  vm := { classes := classes, interned := interned.toArray }
  heap := heap
  slotsUsed := slotsUsed
  threads := #[{ frames := .invoking theMethod args0 :: below }]
def below0 : List Frame := [.native { method := ⟨0, 0⟩, args := #[] }]
def about1 : State := aboutOver below0
def p0 : Program := .bare "" "" ""
def e0 : Env := launch0.env 0 0 0
theorem w_frames : about1.frames = Frame.invoking theMethod args0 :: below0 := rfl
set_option maxRecDepth 65536 in
theorem w_args : argsFit about1.vm theMethod args0 = true := by decide +kernel
set_option maxRecDepth 65536 in
theorem w_heap : heapFits about1 = true := by decide +kernel
set_option maxRecDepth 65536 in
theorem w_runnable : about1.curStatus? = some .runnable := by decide +kernel
set_option maxRecDepth 65536 in
theorem w_alone : about1.alone = true := by decide +kernel
set_option maxRecDepth 65536 in
theorem w_named : about1.methodNamed? x = some theMethod := by decide +kernel
set_option maxRecDepth 65536 in
theorem w_hears : about1.hears theMethod below0 = true := by decide +kernel
set_option maxRecDepth 65536 in
theorem w_ripe : about1.ripe theMethod args0 below0 = true := by decide +kernel
theorem w_running : about1.status = .running := rfl
set_option maxRecDepth 65536 in
theorem w_room : about1.hasRoom e0.platform room_1 = true :=
  launch0.hasRoom_least _ room_1 (by decide +kernel) (by decide +kernel) (by decide +kernel) (by decide +kernel) (by decide +kernel) (by decide +kernel)
theorem allAtoms_all (ts : List Jvm.Cond) (a : Array Jvm.Value) (st : Jvm.State) : (allAtoms ts).before a st = ts.all (fun c => c.before a st) := by
  induction ts with
  | nil => rfl
  | cons c t ih =>
    show (Jvm.Cond.and c (allAtoms t)).before a st = _
    rw [Jvm.Cond.before_and, ih, List.all_cons]
def words1 : List Jvm.Cond := Jvm.Cond.code x code maxLocals ret :: tables_1
/-- a 'code' word, met by the world's own term for the bytes: nothing is compared byte by byte -/
theorem code_word {y : MethodName} {bytes : ByteArray} {mx : Nat} {rt : Option FieldType} {a : Array Value} {s : State} {m : MethodId} {meth : Method} {c : Code} (h1 : s.methodNamed? y = some m) (h2 : s.vm.method? m = some meth) (h3 : meth.code = some c) (h4 : c.code = bytes)
    (h5 : (c.maxLocals == mx && c.exceptionTable.isEmpty && decide (c.maxStack ≤ mostOperands) && decide (meth.sig.returnType = rt) && !meth.locks && decide (parseMethodDescriptor y.desc = some meth.sig)) = true) : (Jvm.Cond.code y bytes mx rt).before a s = true := by
  simp only [Bool.and_eq_true, beq_iff_eq, Bool.not_eq_true', decide_eq_true_eq] at h5
  obtain ⟨⟨⟨⟨⟨g1, g2⟩, g3⟩, g4⟩, g5⟩, g6⟩ := h5
  simp [Cond.before, Cond.holds, Cond.value, h1, h2, h3, h4, g1, g2, g3, g4, g5, g6]
def isCode : Jvm.Cond → Bool
  | .code _ _ _ _ => true
  | _ => false
theorem all_split {L : List Jvm.Cond} {P : Jvm.Cond → Bool} (h1 : L.all (fun c => isCode c || P c) = true) (h2 : ∀ c ∈ L.filter isCode, P c = true) : L.all P = true := by
  refine List.all_eq_true.mpr fun c hc => ?_
  have h := List.all_eq_true.mp h1 c hc
  rcases Bool.eq_false_or_eq_true (isCode c) with hi | hi
  · exact h2 c (List.mem_filter.mpr ⟨hc, hi⟩)
  · simpa [hi] using h
set_option maxRecDepth 65536 in
theorem w_c0 : (Jvm.Cond.code x code maxLocals ret).before args0 about1 = true := code_word (m := ⟨1, 1⟩) (meth := k1m1) (c := k1c1) (by decide +kernel) rfl rfl rfl (by decide +kernel)
set_option maxRecDepth 65536 in
theorem w_c1 : (Jvm.Cond.code ({ cls := "com/example/lumenstand/lumenstand/light/Interception", name := "<init>", desc := "(I)V" } : Jvm.MethodName) prog_14_method_1_code (2 : Nat) (Option.none : Option Jvm.ClassFile.FieldType)).before args0 about1 = true := code_word (m := ⟨2, 0⟩) (meth := k2m0) (c := k2c0) (by decide +kernel) rfl rfl rfl (by decide +kernel)
set_option maxRecDepth 65536 in
theorem w_c2 : (Jvm.Cond.code ({ cls := "java/lang/Object", name := "<init>", desc := "()V" } : Jvm.MethodName) object_method_1_code (1 : Nat) (Option.none : Option Jvm.ClassFile.FieldType)).before args0 about1 = true := code_word (m := ⟨0, 0⟩) (meth := k0m0) (c := k0c0) (by decide +kernel) rfl rfl rfl (by decide +kernel)
set_option maxRecDepth 65536 in
theorem w_c3 : (Jvm.Cond.code ({ cls := "com/example/lumenstand/lumenstand/light/InterceptionAddPinLaw", name := "put", desc := "([DII)V" } : Jvm.MethodName) method_4_code (3 : Nat) (Option.none : Option Jvm.ClassFile.FieldType)).before args0 about1 = true := code_word (m := ⟨1, 3⟩) (meth := k1m3) (c := k1c3) (by decide +kernel) rfl rfl rfl (by decide +kernel)
set_option maxRecDepth 65536 in
theorem w_c4 : (Jvm.Cond.code ({ cls := "com/example/lumenstand/lumenstand/light/Interception", name := "add", desc := "(Lcom/example/lumenstand/lumenstand/light/Interception;)V" } : Jvm.MethodName) prog_14_method_2_code (3 : Nat) (Option.none : Option Jvm.ClassFile.FieldType)).before args0 about1 = true := code_word (m := ⟨2, 1⟩) (meth := k2m1) (c := k2c1) (by decide +kernel) rfl rfl rfl (by decide +kernel)
set_option maxRecDepth 65536 in
theorem w_c5 : (Jvm.Cond.code ({ cls := "com/example/lumenstand/lumenstand/light/InterceptionAddPinLaw", name := "sum", desc := "([DIIII)Z" } : Jvm.MethodName) method_5_code (5 : Nat) (Option.some Jvm.ClassFile.FieldType.boolean)).before args0 about1 = true := code_word (m := ⟨1, 4⟩) (meth := k1m4) (c := k1c4) (by decide +kernel) rfl rfl rfl (by decide +kernel)
set_option maxRecDepth 65536 in
theorem w_c6 : (Jvm.Cond.code ({ cls := "com/example/lumenstand/lumenstand/light/InterceptionAddPinLaw", name := "kept", desc := "([DIII)Z" } : Jvm.MethodName) method_6_code (4 : Nat) (Option.some Jvm.ClassFile.FieldType.boolean)).before args0 about1 = true := code_word (m := ⟨1, 5⟩) (meth := k1m5) (c := k1c5) (by decide +kernel) rfl rfl rfl (by decide +kernel)
set_option maxRecDepth 65536 in
theorem w_c7 : (Jvm.Cond.code ({ cls := "com/example/lumenstand/lumenstand/light/InterceptionAddPinLaw", name := "v", desc := "(III)D" } : Jvm.MethodName) method_3_code (3 : Nat) (Option.some Jvm.ClassFile.FieldType.double)).before args0 about1 = true := code_word (m := ⟨1, 2⟩) (meth := k1m2) (c := k1c2) (by decide +kernel) rfl rfl rfl (by decide +kernel)
def codes1 : List Jvm.Cond := [Jvm.Cond.code x code maxLocals ret, Jvm.Cond.code ({ cls := "com/example/lumenstand/lumenstand/light/Interception", name := "<init>", desc := "(I)V" } : Jvm.MethodName) prog_14_method_1_code (2 : Nat) (Option.none : Option Jvm.ClassFile.FieldType), Jvm.Cond.code ({ cls := "java/lang/Object", name := "<init>", desc := "()V" } : Jvm.MethodName) object_method_1_code (1 : Nat) (Option.none : Option Jvm.ClassFile.FieldType), Jvm.Cond.code ({ cls := "com/example/lumenstand/lumenstand/light/InterceptionAddPinLaw", name := "put", desc := "([DII)V" } : Jvm.MethodName) method_4_code (3 : Nat) (Option.none : Option Jvm.ClassFile.FieldType), Jvm.Cond.code ({ cls := "com/example/lumenstand/lumenstand/light/Interception", name := "add", desc := "(Lcom/example/lumenstand/lumenstand/light/Interception;)V" } : Jvm.MethodName) prog_14_method_2_code (3 : Nat) (Option.none : Option Jvm.ClassFile.FieldType), Jvm.Cond.code ({ cls := "com/example/lumenstand/lumenstand/light/InterceptionAddPinLaw", name := "sum", desc := "([DIIII)Z" } : Jvm.MethodName) method_5_code (5 : Nat) (Option.some Jvm.ClassFile.FieldType.boolean), Jvm.Cond.code ({ cls := "com/example/lumenstand/lumenstand/light/InterceptionAddPinLaw", name := "kept", desc := "([DIII)Z" } : Jvm.MethodName) method_6_code (4 : Nat) (Option.some Jvm.ClassFile.FieldType.boolean), Jvm.Cond.code ({ cls := "com/example/lumenstand/lumenstand/light/InterceptionAddPinLaw", name := "v", desc := "(III)D" } : Jvm.MethodName) method_3_code (3 : Nat) (Option.some Jvm.ClassFile.FieldType.double)]
set_option maxRecDepth 65536 in
theorem codes_eq : words1.filter isCode = codes1 := rfl
theorem w_codes : ∀ c ∈ words1.filter isCode, c.before args0 about1 = true := by
  rw [codes_eq]
  intro c hc
  simp only [codes1, List.mem_cons, List.not_mem_nil, or_false] at hc
  rcases hc with rfl | rfl | rfl | rfl | rfl | rfl | rfl | rfl
  · exact w_c0
  · exact w_c1
  · exact w_c2
  · exact w_c3
  · exact w_c4
  · exact w_c5
  · exact w_c6
  · exact w_c7
set_option maxRecDepth 65536 in
theorem w_t1 : (words1.take 24).all (fun c => isCode c || c.before args0 about1) = true := by decide +kernel
set_option maxRecDepth 65536 in
theorem w_t2 : (words1.drop 24).all (fun c => isCode c || c.before args0 about1) = true := by decide +kernel
theorem w_tables : (allAtoms (Jvm.Cond.code x code maxLocals ret :: tables_1)).before args0 about1 = true := by
  rw [allAtoms_all]
  show words1.all (fun c => c.before args0 about1) = true
  refine all_split ?_ w_codes
  rw [← List.take_append_drop 24 words1, List.all_append, w_t1, w_t2]
  rfl
set_option maxRecDepth 65536 in
theorem w_case : (Jvm.Cond.and given_1 narrow_1).before args0 about1 = true := by decide +kernel
theorem w_applies : (headSpec (Jvm.Cond.code x code maxLocals ret :: tables_1) room_1).applies x e0.platform about1 = true :=
  (Spec.applies_iff w_frames).mpr ⟨w_running, w_runnable, w_alone, w_named, w_hears, w_ripe, w_room, w_tables⟩
theorem atStart : AtStart classFile x code maxLocals ret World_1 tables_1 room_1 Calls_1 rest_1 Pre_1 launch0 p0 e0 about1 theMethod args0 below0 :=
  ⟨lists_1, trivial, launch0.admits_env _ _ _, launch0.least_env, fairChoices_fair.cas, fairChoices_fair.clock, w_frames, w_args, w_heap, w_applies, trivial, trivial, w_case⟩
end start1
theorem witness_1 : WitnessClaimed_1 := ⟨start1.p0, start1.e0, start1.about1, start1.theMethod, start1.args0, start1.below0, start1.atStart⟩
end Jvm.Pilot.@@N@@
