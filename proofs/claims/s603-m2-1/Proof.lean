import JvmDerived
import JvmDerived.Pilot.@@N@@Statement
import JvmDerived.Pilot.@@N@@Code
set_option linter.unusedVariables false
set_option linter.unusedSimpArgs false
set_option maxHeartbeats 4000000
namespace Jvm.OwnK
open Sem ClassFile Op Lib Jvm.Free Jvm.Stand Jvm.LawKit Jvm.RoadKit
theorem iadd {tb : Tables} [Ours tb] {e : Env} {below : List Frame} {T target : State} {m : MethodId} {c : Code} {g : JFrame} (h : At T m c below) (hx : tb.exec = Jvm.exec) (hg : g.method = m) {x v : Int32} {y : Int32} {rest : List Value} (hd : decode c.code g.pc = .ok (.iadd, 1)) (hs : g.stack = .int y :: .int x :: rest) (hv : x + y = v)
    (hr : Steps tb e below (T.setTop { g with pc := g.pc + 1, stack := .int v :: rest }) target) : Steps tb e below (T.setTop g) target := by
  subst hv
  exact XS.iadd h hx hg hd hs hr
theorem isub {tb : Tables} [Ours tb] {e : Env} {below : List Frame} {T target : State} {m : MethodId} {c : Code} {g : JFrame} (h : At T m c below) (hx : tb.exec = Jvm.exec) (hg : g.method = m) {x v : Int32} {y : Int32} {rest : List Value} (hd : decode c.code g.pc = .ok (.isub, 1)) (hs : g.stack = .int y :: .int x :: rest) (hv : x - y = v)
    (hr : Steps tb e below (T.setTop { g with pc := g.pc + 1, stack := .int v :: rest }) target) : Steps tb e below (T.setTop g) target := by
  subst hv
  exact XS.isub h hx hg hd hs hr
theorem imul {tb : Tables} [Ours tb] {e : Env} {below : List Frame} {T target : State} {m : MethodId} {c : Code} {g : JFrame} (h : At T m c below) (hx : tb.exec = Jvm.exec) (hg : g.method = m) {x v : Int32} {y : Int32} {rest : List Value} (hd : decode c.code g.pc = .ok (.imul, 1)) (hs : g.stack = .int y :: .int x :: rest) (hv : x * y = v)
    (hr : Steps tb e below (T.setTop { g with pc := g.pc + 1, stack := .int v :: rest }) target) : Steps tb e below (T.setTop g) target := by
  subst hv
  exact XS.imul h hx hg hd hs hr
theorem iand {tb : Tables} [Ours tb] {e : Env} {below : List Frame} {T target : State} {m : MethodId} {c : Code} {g : JFrame} (h : At T m c below) (hx : tb.exec = Jvm.exec) (hg : g.method = m) {x v : Int32} {y : Int32} {rest : List Value} (hd : decode c.code g.pc = .ok (.iand, 1)) (hs : g.stack = .int y :: .int x :: rest) (hv : x &&& y = v)
    (hr : Steps tb e below (T.setTop { g with pc := g.pc + 1, stack := .int v :: rest }) target) : Steps tb e below (T.setTop g) target := by
  subst hv
  exact XS.iand h hx hg hd hs hr
theorem ior {tb : Tables} [Ours tb] {e : Env} {below : List Frame} {T target : State} {m : MethodId} {c : Code} {g : JFrame} (h : At T m c below) (hx : tb.exec = Jvm.exec) (hg : g.method = m) {x v : Int32} {y : Int32} {rest : List Value} (hd : decode c.code g.pc = .ok (.ior, 1)) (hs : g.stack = .int y :: .int x :: rest) (hv : x ||| y = v)
    (hr : Steps tb e below (T.setTop { g with pc := g.pc + 1, stack := .int v :: rest }) target) : Steps tb e below (T.setTop g) target := by
  subst hv
  exact XS.ior h hx hg hd hs hr
theorem ixor {tb : Tables} [Ours tb] {e : Env} {below : List Frame} {T target : State} {m : MethodId} {c : Code} {g : JFrame} (h : At T m c below) (hx : tb.exec = Jvm.exec) (hg : g.method = m) {x v : Int32} {y : Int32} {rest : List Value} (hd : decode c.code g.pc = .ok (.ixor, 1)) (hs : g.stack = .int y :: .int x :: rest) (hv : x ^^^ y = v)
    (hr : Steps tb e below (T.setTop { g with pc := g.pc + 1, stack := .int v :: rest }) target) : Steps tb e below (T.setTop g) target := by
  subst hv
  exact XS.ixor h hx hg hd hs hr
theorem ishl {tb : Tables} [Ours tb] {e : Env} {below : List Frame} {T target : State} {m : MethodId} {c : Code} {g : JFrame} (h : At T m c below) (hx : tb.exec = Jvm.exec) (hg : g.method = m) {x v : Int32} {y : Int32} {rest : List Value} (hd : decode c.code g.pc = .ok (.ishl, 1)) (hs : g.stack = .int y :: .int x :: rest) (hv : x <<< (y &&& 31) = v)
    (hr : Steps tb e below (T.setTop { g with pc := g.pc + 1, stack := .int v :: rest }) target) : Steps tb e below (T.setTop g) target := by
  subst hv
  exact XS.ishl h hx hg hd hs hr
theorem ishr {tb : Tables} [Ours tb] {e : Env} {below : List Frame} {T target : State} {m : MethodId} {c : Code} {g : JFrame} (h : At T m c below) (hx : tb.exec = Jvm.exec) (hg : g.method = m) {x v : Int32} {y : Int32} {rest : List Value} (hd : decode c.code g.pc = .ok (.ishr, 1)) (hs : g.stack = .int y :: .int x :: rest) (hv : x >>> (y &&& 31) = v)
    (hr : Steps tb e below (T.setTop { g with pc := g.pc + 1, stack := .int v :: rest }) target) : Steps tb e below (T.setTop g) target := by
  subst hv
  exact XS.ishr h hx hg hd hs hr
theorem iushr {tb : Tables} [Ours tb] {e : Env} {below : List Frame} {T target : State} {m : MethodId} {c : Code} {g : JFrame} (h : At T m c below) (hx : tb.exec = Jvm.exec) (hg : g.method = m) {x v : Int32} {y : Int32} {rest : List Value} (hd : decode c.code g.pc = .ok (.iushr, 1)) (hs : g.stack = .int y :: .int x :: rest) (hv : (x.toUInt32 >>> (y &&& 31).toUInt32).toInt32 = v)
    (hr : Steps tb e below (T.setTop { g with pc := g.pc + 1, stack := .int v :: rest }) target) : Steps tb e below (T.setTop g) target := by
  subst hv
  exact XS.iushr h hx hg hd hs hr
theorem idiv {tb : Tables} [Ours tb] {e : Env} {below : List Frame} {T target : State} {m : MethodId} {c : Code} {g : JFrame} (h : At T m c below) (hx : tb.exec = Jvm.exec) (hg : g.method = m) {x v : Int32} {y : Int32} {rest : List Value} (hd : decode c.code g.pc = .ok (.idiv, 1)) (hs : g.stack = .int y :: .int x :: rest) (hy : ¬ y = 0) (hv : x / y = v)
    (hr : Steps tb e below (T.setTop { g with pc := g.pc + 1, stack := .int v :: rest }) target) : Steps tb e below (T.setTop g) target := by
  subst hv
  exact XS.idiv h hx hg hd hs hy hr
theorem irem {tb : Tables} [Ours tb] {e : Env} {below : List Frame} {T target : State} {m : MethodId} {c : Code} {g : JFrame} (h : At T m c below) (hx : tb.exec = Jvm.exec) (hg : g.method = m) {x v : Int32} {y : Int32} {rest : List Value} (hd : decode c.code g.pc = .ok (.irem, 1)) (hs : g.stack = .int y :: .int x :: rest) (hy : ¬ y = 0) (hv : x % y = v)
    (hr : Steps tb e below (T.setTop { g with pc := g.pc + 1, stack := .int v :: rest }) target) : Steps tb e below (T.setTop g) target := by
  subst hv
  have q : x - x / y * y = x % y := irem_eq_mod x y
  exact XS.irem h hx hg hd hs hy (by rw [q]; exact hr)
theorem ladd {tb : Tables} [Ours tb] {e : Env} {below : List Frame} {T target : State} {m : MethodId} {c : Code} {g : JFrame} (h : At T m c below) (hx : tb.exec = Jvm.exec) (hg : g.method = m) {x v : Int64} {y : Int64} {rest : List Value} (hd : decode c.code g.pc = .ok (.ladd, 1)) (hs : g.stack = .long y :: .long x :: rest) (hv : x + y = v)
    (hr : Steps tb e below (T.setTop { g with pc := g.pc + 1, stack := .long v :: rest }) target) : Steps tb e below (T.setTop g) target := by
  subst hv
  exact XS.ladd h hx hg hd hs hr
theorem lsub {tb : Tables} [Ours tb] {e : Env} {below : List Frame} {T target : State} {m : MethodId} {c : Code} {g : JFrame} (h : At T m c below) (hx : tb.exec = Jvm.exec) (hg : g.method = m) {x v : Int64} {y : Int64} {rest : List Value} (hd : decode c.code g.pc = .ok (.lsub, 1)) (hs : g.stack = .long y :: .long x :: rest) (hv : x - y = v)
    (hr : Steps tb e below (T.setTop { g with pc := g.pc + 1, stack := .long v :: rest }) target) : Steps tb e below (T.setTop g) target := by
  subst hv
  exact XS.lsub h hx hg hd hs hr
theorem lmul {tb : Tables} [Ours tb] {e : Env} {below : List Frame} {T target : State} {m : MethodId} {c : Code} {g : JFrame} (h : At T m c below) (hx : tb.exec = Jvm.exec) (hg : g.method = m) {x v : Int64} {y : Int64} {rest : List Value} (hd : decode c.code g.pc = .ok (.lmul, 1)) (hs : g.stack = .long y :: .long x :: rest) (hv : x * y = v)
    (hr : Steps tb e below (T.setTop { g with pc := g.pc + 1, stack := .long v :: rest }) target) : Steps tb e below (T.setTop g) target := by
  subst hv
  exact XS.lmul h hx hg hd hs hr
theorem land {tb : Tables} [Ours tb] {e : Env} {below : List Frame} {T target : State} {m : MethodId} {c : Code} {g : JFrame} (h : At T m c below) (hx : tb.exec = Jvm.exec) (hg : g.method = m) {x v : Int64} {y : Int64} {rest : List Value} (hd : decode c.code g.pc = .ok (.land, 1)) (hs : g.stack = .long y :: .long x :: rest) (hv : x &&& y = v)
    (hr : Steps tb e below (T.setTop { g with pc := g.pc + 1, stack := .long v :: rest }) target) : Steps tb e below (T.setTop g) target := by
  subst hv
  exact XS.land h hx hg hd hs hr
theorem lor {tb : Tables} [Ours tb] {e : Env} {below : List Frame} {T target : State} {m : MethodId} {c : Code} {g : JFrame} (h : At T m c below) (hx : tb.exec = Jvm.exec) (hg : g.method = m) {x v : Int64} {y : Int64} {rest : List Value} (hd : decode c.code g.pc = .ok (.lor, 1)) (hs : g.stack = .long y :: .long x :: rest) (hv : x ||| y = v)
    (hr : Steps tb e below (T.setTop { g with pc := g.pc + 1, stack := .long v :: rest }) target) : Steps tb e below (T.setTop g) target := by
  subst hv
  exact XS.lor h hx hg hd hs hr
theorem lxor {tb : Tables} [Ours tb] {e : Env} {below : List Frame} {T target : State} {m : MethodId} {c : Code} {g : JFrame} (h : At T m c below) (hx : tb.exec = Jvm.exec) (hg : g.method = m) {x v : Int64} {y : Int64} {rest : List Value} (hd : decode c.code g.pc = .ok (.lxor, 1)) (hs : g.stack = .long y :: .long x :: rest) (hv : x ^^^ y = v)
    (hr : Steps tb e below (T.setTop { g with pc := g.pc + 1, stack := .long v :: rest }) target) : Steps tb e below (T.setTop g) target := by
  subst hv
  exact XS.lxor h hx hg hd hs hr
theorem lshl {tb : Tables} [Ours tb] {e : Env} {below : List Frame} {T target : State} {m : MethodId} {c : Code} {g : JFrame} (h : At T m c below) (hx : tb.exec = Jvm.exec) (hg : g.method = m) {x v : Int64} {y : Int32} {rest : List Value} (hd : decode c.code g.pc = .ok (.lshl, 1)) (hs : g.stack = .int y :: .long x :: rest) (hv : x <<< (y &&& 0x3f).toInt64 = v)
    (hr : Steps tb e below (T.setTop { g with pc := g.pc + 1, stack := .long v :: rest }) target) : Steps tb e below (T.setTop g) target := by
  subst hv
  exact XS.lshl h hx hg hd hs hr
theorem lshr {tb : Tables} [Ours tb] {e : Env} {below : List Frame} {T target : State} {m : MethodId} {c : Code} {g : JFrame} (h : At T m c below) (hx : tb.exec = Jvm.exec) (hg : g.method = m) {x v : Int64} {y : Int32} {rest : List Value} (hd : decode c.code g.pc = .ok (.lshr, 1)) (hs : g.stack = .int y :: .long x :: rest) (hv : x >>> (y &&& 0x3f).toInt64 = v)
    (hr : Steps tb e below (T.setTop { g with pc := g.pc + 1, stack := .long v :: rest }) target) : Steps tb e below (T.setTop g) target := by
  subst hv
  exact XS.lshr h hx hg hd hs hr
theorem lushr {tb : Tables} [Ours tb] {e : Env} {below : List Frame} {T target : State} {m : MethodId} {c : Code} {g : JFrame} (h : At T m c below) (hx : tb.exec = Jvm.exec) (hg : g.method = m) {x v : Int64} {y : Int32} {rest : List Value} (hd : decode c.code g.pc = .ok (.lushr, 1)) (hs : g.stack = .int y :: .long x :: rest) (hv : (x.toUInt64 >>> (y &&& 0x3f).toInt64.toUInt64).toInt64 = v)
    (hr : Steps tb e below (T.setTop { g with pc := g.pc + 1, stack := .long v :: rest }) target) : Steps tb e below (T.setTop g) target := by
  subst hv
  exact XS.lushr h hx hg hd hs hr
theorem ldiv {tb : Tables} [Ours tb] {e : Env} {below : List Frame} {T target : State} {m : MethodId} {c : Code} {g : JFrame} (h : At T m c below) (hx : tb.exec = Jvm.exec) (hg : g.method = m) {x v : Int64} {y : Int64} {rest : List Value} (hd : decode c.code g.pc = .ok (.ldiv, 1)) (hs : g.stack = .long y :: .long x :: rest) (hy : ¬ y = 0) (hv : x / y = v)
    (hr : Steps tb e below (T.setTop { g with pc := g.pc + 1, stack := .long v :: rest }) target) : Steps tb e below (T.setTop g) target := by
  subst hv
  exact XS.ldiv h hx hg hd hs hy hr
theorem lrem {tb : Tables} [Ours tb] {e : Env} {below : List Frame} {T target : State} {m : MethodId} {c : Code} {g : JFrame} (h : At T m c below) (hx : tb.exec = Jvm.exec) (hg : g.method = m) {x v : Int64} {y : Int64} {rest : List Value} (hd : decode c.code g.pc = .ok (.lrem, 1)) (hs : g.stack = .long y :: .long x :: rest) (hy : ¬ y = 0) (hv : x % y = v)
    (hr : Steps tb e below (T.setTop { g with pc := g.pc + 1, stack := .long v :: rest }) target) : Steps tb e below (T.setTop g) target := by
  subst hv
  have q : x - x / y * y = x % y := lrem_mod x y
  exact XS.lrem h hx hg hd hs hy (by rw [q]; exact hr)
theorem ineg {tb : Tables} [Ours tb] {e : Env} {below : List Frame} {T target : State} {m : MethodId} {c : Code} {g : JFrame} (h : At T m c below) (hx : tb.exec = Jvm.exec) (hg : g.method = m) {x : Int32} {v : Int32} {rest : List Value} (hd : decode c.code g.pc = .ok (.ineg, 1)) (hs : g.stack = .int x :: rest) (hv : -x = v)
    (hr : Steps tb e below (T.setTop { g with pc := g.pc + 1, stack := .int v :: rest }) target) : Steps tb e below (T.setTop g) target := by
  subst hv
  exact XS.ineg h hx hg hd hs hr
theorem lneg {tb : Tables} [Ours tb] {e : Env} {below : List Frame} {T target : State} {m : MethodId} {c : Code} {g : JFrame} (h : At T m c below) (hx : tb.exec = Jvm.exec) (hg : g.method = m) {x : Int64} {v : Int64} {rest : List Value} (hd : decode c.code g.pc = .ok (.lneg, 1)) (hs : g.stack = .long x :: rest) (hv : -x = v)
    (hr : Steps tb e below (T.setTop { g with pc := g.pc + 1, stack := .long v :: rest }) target) : Steps tb e below (T.setTop g) target := by
  subst hv
  exact XS.lneg h hx hg hd hs hr
theorem i2l {tb : Tables} [Ours tb] {e : Env} {below : List Frame} {T target : State} {m : MethodId} {c : Code} {g : JFrame} (h : At T m c below) (hx : tb.exec = Jvm.exec) (hg : g.method = m) {x : Int32} {v : Int64} {rest : List Value} (hd : decode c.code g.pc = .ok (.i2l, 1)) (hs : g.stack = .int x :: rest) (hv : x.toInt64 = v)
    (hr : Steps tb e below (T.setTop { g with pc := g.pc + 1, stack := .long v :: rest }) target) : Steps tb e below (T.setTop g) target := by
  subst hv
  exact XS.i2l h hx hg hd hs hr
theorem l2i {tb : Tables} [Ours tb] {e : Env} {below : List Frame} {T target : State} {m : MethodId} {c : Code} {g : JFrame} (h : At T m c below) (hx : tb.exec = Jvm.exec) (hg : g.method = m) {x : Int64} {v : Int32} {rest : List Value} (hd : decode c.code g.pc = .ok (.l2i, 1)) (hs : g.stack = .long x :: rest) (hv : x.toInt32 = v)
    (hr : Steps tb e below (T.setTop { g with pc := g.pc + 1, stack := .int v :: rest }) target) : Steps tb e below (T.setTop g) target := by
  subst hv
  exact XS.l2i h hx hg hd hs hr
theorem i2b {tb : Tables} [Ours tb] {e : Env} {below : List Frame} {T target : State} {m : MethodId} {c : Code} {g : JFrame} (h : At T m c below) (hx : tb.exec = Jvm.exec) (hg : g.method = m) {x : Int32} {v : Int32} {rest : List Value} (hd : decode c.code g.pc = .ok (.i2b, 1)) (hs : g.stack = .int x :: rest) (hv : x.toInt8.toInt32 = v)
    (hr : Steps tb e below (T.setTop { g with pc := g.pc + 1, stack := .int v :: rest }) target) : Steps tb e below (T.setTop g) target := by
  subst hv
  exact XS.i2b h hx hg hd hs hr
theorem i2s {tb : Tables} [Ours tb] {e : Env} {below : List Frame} {T target : State} {m : MethodId} {c : Code} {g : JFrame} (h : At T m c below) (hx : tb.exec = Jvm.exec) (hg : g.method = m) {x : Int32} {v : Int32} {rest : List Value} (hd : decode c.code g.pc = .ok (.i2s, 1)) (hs : g.stack = .int x :: rest) (hv : x.toInt16.toInt32 = v)
    (hr : Steps tb e below (T.setTop { g with pc := g.pc + 1, stack := .int v :: rest }) target) : Steps tb e below (T.setTop g) target := by
  subst hv
  exact XS.i2s h hx hg hd hs hr
theorem dadd {tb : Tables} [Ours tb] {e : Env} {below : List Frame} {T target : State} {m : MethodId} {c : Code} {g : JFrame} (h : At T m c below) (hx : tb.exec = Jvm.exec) (hg : g.method = m) {x y v : UInt64} {rest : List Value} (hd : decode c.code g.pc = .ok (.dadd, 1)) (hs : g.stack = .double y :: .double x :: rest) (hv : FP.dadd x y = v) (hn : Jvm.Free.Fl.NoNaN64 v)
    (hr : Steps tb e below (T.setTop { g with pc := g.pc + 1, stack := .double v :: rest }) target) : Steps tb e below (T.setTop g) target := by
  subst hv
  exact XS.daddS h hx hg hd hs hn rfl hr
theorem dsub {tb : Tables} [Ours tb] {e : Env} {below : List Frame} {T target : State} {m : MethodId} {c : Code} {g : JFrame} (h : At T m c below) (hx : tb.exec = Jvm.exec) (hg : g.method = m) {x y v : UInt64} {rest : List Value} (hd : decode c.code g.pc = .ok (.dsub, 1)) (hs : g.stack = .double y :: .double x :: rest) (hv : FP.dsub x y = v) (hn : Jvm.Free.Fl.NoNaN64 v)
    (hr : Steps tb e below (T.setTop { g with pc := g.pc + 1, stack := .double v :: rest }) target) : Steps tb e below (T.setTop g) target := by
  subst hv
  exact XS.dsubS h hx hg hd hs hn rfl hr
theorem dmul {tb : Tables} [Ours tb] {e : Env} {below : List Frame} {T target : State} {m : MethodId} {c : Code} {g : JFrame} (h : At T m c below) (hx : tb.exec = Jvm.exec) (hg : g.method = m) {x y v : UInt64} {rest : List Value} (hd : decode c.code g.pc = .ok (.dmul, 1)) (hs : g.stack = .double y :: .double x :: rest) (hv : FP.dmul x y = v) (hn : Jvm.Free.Fl.NoNaN64 v)
    (hr : Steps tb e below (T.setTop { g with pc := g.pc + 1, stack := .double v :: rest }) target) : Steps tb e below (T.setTop g) target := by
  subst hv
  exact XS.dmulS h hx hg hd hs hn rfl hr
theorem ddiv {tb : Tables} [Ours tb] {e : Env} {below : List Frame} {T target : State} {m : MethodId} {c : Code} {g : JFrame} (h : At T m c below) (hx : tb.exec = Jvm.exec) (hg : g.method = m) {x y v : UInt64} {rest : List Value} (hd : decode c.code g.pc = .ok (.ddiv, 1)) (hs : g.stack = .double y :: .double x :: rest) (hv : FP.ddiv x y = v) (hn : Jvm.Free.Fl.NoNaN64 v)
    (hr : Steps tb e below (T.setTop { g with pc := g.pc + 1, stack := .double v :: rest }) target) : Steps tb e below (T.setTop g) target := by
  subst hv
  exact XS.ddivS h hx hg hd hs hn rfl hr
theorem drem {tb : Tables} [Ours tb] {e : Env} {below : List Frame} {T target : State} {m : MethodId} {c : Code} {g : JFrame} (h : At T m c below) (hx : tb.exec = Jvm.exec) (hg : g.method = m) {x y v : UInt64} {rest : List Value} (hd : decode c.code g.pc = .ok (.drem, 1)) (hs : g.stack = .double y :: .double x :: rest) (hv : FP.drem x y = v) (hn : Jvm.Free.Fl.NoNaN64 v)
    (hr : Steps tb e below (T.setTop { g with pc := g.pc + 1, stack := .double v :: rest }) target) : Steps tb e below (T.setTop g) target := by
  subst hg
  subst hv
  obtain ⟨gm, gp, gl, gs, gk, ge, gr⟩ := g
  simp only at hs hd
  subst hs
  jvm_step h [h.top, hx, hd, Op.drem.at_number h.top hn]
  exact hr
theorem lcmp {tb : Tables} [Ours tb] {e : Env} {below : List Frame} {T target : State} {m : MethodId} {c : Code} {g : JFrame} (h : At T m c below) (hx : tb.exec = Jvm.exec) (hg : g.method = m) {x y : Int64} {v : Int32} {rest : List Value} (hd : decode c.code g.pc = .ok (.lcmp, 1)) (hs : g.stack = .long y :: .long x :: rest) (hv : lcmpW x y = v)
    (hr : Steps tb e below (T.setTop { g with pc := g.pc + 1, stack := .int v :: rest }) target) : Steps tb e below (T.setTop g) target := by
  subst hv
  exact XS.lcmp h hx hg hd hs hr
theorem iinc {tb : Tables} [Ours tb] {e : Env} {below : List Frame} {T target : State} {m : MethodId} {c : Code} {g : JFrame} (h : At T m c below) (hx : tb.exec = Jvm.exec) (hg : g.method = m) {k : Nat} {cst : Int} {x v : Int32} {l' : Array Slot} (hd : decode c.code g.pc = .ok (.iinc k cst, 3)) (hl : g.locals[k]? = some (.val (.int x))) (hv : x + Int32.ofInt cst = v) (hl' : storeLocals g.locals k (.int v) = some l')
    (hr : Steps tb e below (T.setTop { g with pc := g.pc + 3, locals := l' }) target) : Steps tb e below (T.setTop g) target := by
  subst hv
  exact XS.iinc h hx hg hd hl hl' hr
theorem dup2 {tb : Tables} [Ours tb] {e : Env} {below : List Frame} {T target : State} {m : MethodId} {c : Code} {g : JFrame} (h : At T m c below) (hx : tb.exec = Jvm.exec) (hg : g.method = m) {x y : Value} {rest : List Value} (hd : decode c.code g.pc = .ok (.dup2, 1)) (hs : g.stack = x :: y :: rest) (hc : x.category = 1) (hc' : y.category = 1)
    (hr : Steps tb e below (T.setTop { g with pc := g.pc + 1, stack := x :: y :: x :: y :: rest }) target) : Steps tb e below (T.setTop g) target := Jvm.Free.XT.dup2 h hx hg hd hs hc hc' hr
theorem dup2W {tb : Tables} [Ours tb] {e : Env} {below : List Frame} {T target : State} {m : MethodId} {c : Code} {g : JFrame} (h : At T m c below) (hx : tb.exec = Jvm.exec) (hg : g.method = m) {x : Value} {rest : List Value} (hd : decode c.code g.pc = .ok (.dup2, 1)) (hs : g.stack = x :: rest) (hc : x.category = 2)
    (hr : Steps tb e below (T.setTop { g with pc := g.pc + 1, stack := x :: x :: rest }) target) : Steps tb e below (T.setTop g) target := by
  subst hg
  jvm_step h [h.top, hx, hd, hs, hc]
  exact hr
theorem Sta_keep {Z : State} {h h' : Heap} {C n d : String} {w : Value} {ws : List Addr} (F : Sta Z h C n d w) (K : Keep h h' ws) (hn : ∀ x ∈ ws, ∀ cell : Cell, h[x]? = some cell → cell.vm.isStatics = false) : Sta Z h' C n d w := by
  obtain ⟨cf, i, k, f, st, cell, h1, h2, h3, h4, h5, h6, h7⟩ := F
  refine ⟨cf, i, k, f, st, cell, h1, h2, h3, h4, K.2.1 st cell h5 (fun q => ?_), h6, h7⟩
  rw [hn st q cell h5] at h6; cases h6
end Jvm.OwnK
namespace Jvm.OwnF
open Jvm.FP Jvm.FP.Core
/-! doubles as whole numbers of units of 2^-1074 -/
def V (a : UInt64) : Int := zval b64 (val64 a)
def BIG : Nat := 2 ^ 2000
/-- the rounding of n / d, in units -/
def rnd (n : Int) (d : Nat) : Int := zval b64 (roundRatio b64 (decide (n < 0)) n.natAbs d (-1074))
theorem zval_zero (s : Bool) (d : Nat) (e : Int) : zval b64 (roundRatio b64 s 0 d e) = 0 := by
  unfold roundRatio
  rw [if_pos rfl]
  show signed s (0 * 2 ^ (b64.qmin - b64.qmin).toNat) = 0
  rw [Nat.zero_mul, signed_zero]
theorem rnd_signed (s : Bool) (N d : Nat) : zval b64 (roundRatio b64 s N d (-1074)) = rnd (signed s N) d := by
  unfold rnd
  rw [natAbs_signed]
  by_cases h : N = 0
  · subst h; rw [zval_zero, zval_zero]
  · rw [signed_lt_zero s (by omega)]
theorem signed_natAbs (n : Int) : signed (decide (n < 0)) n.natAbs = n := by
  unfold signed
  by_cases h : n < 0 <;> simp [h] <;> omega
theorem bigV : Jvm.FP.Core.fits b64 (.fin false (2 ^ 52) 874) := by refine ⟨?_, ?_, ?_, ?_⟩ <;> decide
theorem bigZ : zmag b64 (.fin false (2 ^ 52) 874) = BIG := by
  show 2 ^ 52 * 2 ^ (874 - b64.qmin).toNat = 2 ^ 2000
  rw [qmin_b64, show (874 - (-1074) : Int).toNat = 1948 from rfl, ← Nat.pow_add]
theorem big_lt : BIG < b64.tails * 2 ^ (b64.exps - 2) := by
  rw [tails_b64, show b64.exps - 2 = 2046 by decide, ← Nat.pow_add]
  exact Nat.pow_lt_pow_right (by decide) (by decide)
theorem un0 (A : Nat) : inUnits A (-1074) (-1074) = A := by unfold inUnits; simp
theorem round_le_big {s : Bool} {A B : Nat} (hB : 0 < B) (h : A ≤ BIG * B) : zmag b64 (roundRatio b64 s A B (-1074)) ≤ BIG := by
  have := zmag_roundRatio_le good_b64 (s := s) (A := A) (B := B) (e := -1074) (e0 := -1074) hB bigV Datum.noConfusion (by rw [qmin_b64]; decide) (by decide) (by rw [bigZ, un0, qmin_b64]; simpa using h)
  rwa [bigZ] at this
theorem fin_round {s : Bool} {A B : Nat} (hB : 0 < B) (h : A ≤ BIG * B) : ∃ c q, roundRatio b64 s A B (-1074) = .fin s c q := by
  rcases roundRatio_cases b64 s A B (-1074) with h1 | h1
  · exact h1
  · exfalso
    have h2 := round_le_big (s := s) hB h
    rw [h1] at h2
    have h3 : zmag b64 (.inf s) = b64.tails * 2 ^ (b64.exps - 2) := rfl
    have := big_lt
    omega
theorem noNaN_fin {a : UInt64} (h : DFin a) : Jvm.Free.Fl.NoNaN64 a := by
  rw [Jvm.Free.Fl.val64_no]; obtain ⟨s, c, q, e⟩ := h; rw [e]; exact Datum.noConfusion
theorem V_dadd {a b : UInt64} (ha : DFin a) (hb : DFin b) (h : (V a + V b).natAbs ≤ BIG) : DFin (FP.dadd a b) ∧ V (FP.dadd a b) = rnd (V a + V b) 1 := by
  obtain ⟨s, c, q, ea⟩ := ha
  obtain ⟨t, d, r, eb⟩ := hb
  have fa : Jvm.FP.Core.fits b64 (.fin s c q) := ea ▸ val64_fits a
  have fb : Jvm.FP.Core.fits b64 (.fin t d r) := eb ▸ val64_fits b
  obtain ⟨sg, n, e, p1, p2, p3⟩ := sum_units fa fb
  rw [qmin_b64] at p2 p3
  have hv : val64 (FP.dadd a b) = roundRatio b64 sg (inUnits n e (-1074)) 1 (-1074) := by
    rw [show FP.dadd a b = Core.dadd a b from rfl, val64_dadd, ea, eb, p1]
    show roundRatio b64 sg n 1 e = _
    refine roundRatio_congr (by decide) (by decide) ?_
    rw [show (-1074 - e).toNat = 0 by omega]
    unfold inUnits; simp
  have hS : signed sg (inUnits n e (-1074)) = V a + V b := by unfold V; rw [ea, eb]; exact p3
  have hN : inUnits n e (-1074) = (V a + V b).natAbs := by rw [← hS, natAbs_signed]
  obtain ⟨c', q', hh⟩ := fin_round (s := sg) (A := inUnits n e (-1074)) (B := 1) (by decide) (by rw [Nat.mul_one, hN]; exact h)
  refine ⟨⟨sg, c', q', hv.trans hh⟩, ?_⟩
  show zval b64 (val64 (FP.dadd a b)) = _
  rw [hv, rnd_signed, hS]
theorem V_neg (a : UInt64) : V (Core.dneg a) = -V a := by unfold V; rw [Core.val64_dneg, zval_negate]
theorem fin_neg {a : UInt64} (h : DFin a) : DFin (Core.dneg a) := by
  obtain ⟨s, c, q, e⟩ := h
  exact ⟨!s, c, q, by rw [Core.val64_dneg, e]; rfl⟩
theorem V_dsub {a b : UInt64} (ha : DFin a) (hb : DFin b) (h : (V a - V b).natAbs ≤ BIG) : DFin (FP.dsub a b) ∧ V (FP.dsub a b) = rnd (V a - V b) 1 := by
  have e : FP.dsub a b = FP.dadd a (Core.dneg b) := dsub_eq a b
  rw [e]
  have := V_dadd ha (fin_neg hb) (by rw [V_neg]; exact h)
  rw [V_neg] at this
  exact this
theorem zmag_V (a : UInt64) : zmag b64 (val64 a) = (V a).natAbs := by unfold V zval; rw [natAbs_signed]
theorem V_dmul {a b : UInt64} (ha : DFin a) (hb : DFin b) (h : (V a * V b).natAbs ≤ BIG * one64) : DFin (FP.dmul a b) ∧ V (FP.dmul a b) = rnd (V a * V b) one64 := by
  have za := zmag_V a
  have zb := zmag_V b
  obtain ⟨s, c, q, ea⟩ := ha
  obtain ⟨t, d, r, eb⟩ := hb
  have fa : Jvm.FP.Core.fits b64 (.fin s c q) := ea ▸ val64_fits a
  have fb : Jvm.FP.Core.fits b64 (.fin t d r) := eb ▸ val64_fits b
  obtain ⟨p1, p2, p3⟩ := product_units fa fb
  rw [← ea, ← eb, za, zb, ← Int.natAbs_mul] at p3
  rw [qmin_b64] at p2 p3
  have hv : val64 (FP.dmul a b) = roundRatio b64 (s != t) (V a * V b).natAbs one64 (-1074) := by
    rw [show FP.dmul a b = Core.dmul a b from rfl, val64_dmul, ea, eb, p1]
    show roundRatio b64 (s != t) (c * d) 1 (q + r) = _
    refine roundRatio_congr (by decide) one64_pos ?_
    rw [← p3]
    unfold inUnits one64
    rw [Nat.mul_one, Nat.mul_assoc (c * d), Nat.mul_assoc (c * d), ← Nat.pow_add, ← Nat.pow_add]
    congr 2
    omega
  have hS : signed (s != t) (V a * V b).natAbs = V a * V b := by
    rw [Int.natAbs_mul, signed_xor, ← za, ← zb]
    unfold V zval
    rw [ea, eb]
    rfl
  obtain ⟨c', q', hh⟩ := fin_round (s := s != t) (A := (V a * V b).natAbs) (B := one64) one64_pos h
  refine ⟨⟨_, c', q', hv.trans hh⟩, ?_⟩
  show zval b64 (val64 (FP.dmul a b)) = _
  rw [hv, rnd_signed, hS]
theorem pw2 (c d x y : Nat) : c * (d * 2 ^ x) * 2 ^ y = c * d * 2 ^ (x + y) := by rw [Nat.pow_add]; ac_rfl
theorem pw3 (c d x y z : Nat) : c * 2 ^ x * 2 ^ y * d * 2 ^ z = c * d * 2 ^ (x + y + z) := by rw [Nat.pow_add, Nat.pow_add]; ac_rfl
theorem V_ddiv {a b : UInt64} (ha : DFin a) (hb : DFin b) (h0 : V b ≠ 0) (h : (V a).natAbs * one64 ≤ BIG * (V b).natAbs) : DFin (FP.ddiv a b) ∧ V (FP.ddiv a b) = rnd (V a * (one64 : Int) * (V b).sign) (V b).natAbs := by
  have za := zmag_V a
  have zb := zmag_V b
  have sb : (V b).sign = signed (sgn (val64 b)) 1 := by
    unfold V zval at h0 ⊢
    cases hsg : sgn (val64 b) <;> rw [hsg] at h0 <;> simp only [signed, if_true, Bool.false_eq_true, if_false] at h0 ⊢
    · exact Int.sign_eq_one_of_pos (by omega)
    · exact Int.sign_eq_neg_one_of_neg (by omega)
  obtain ⟨s, c, q, ea⟩ := ha
  obtain ⟨t, d, r, eb⟩ := hb
  have fa : Jvm.FP.Core.fits b64 (.fin s c q) := ea ▸ val64_fits a
  have fb : Jvm.FP.Core.fits b64 (.fin t d r) := eb ▸ val64_fits b
  have hq1 := fa.2.1
  have hr1 := fb.2.1
  rw [qmin_b64] at hq1 hr1
  have ma : (V a).natAbs = c * 2 ^ (q - (-1074)).toNat := by rw [← za, ea]; show inUnits c q b64.qmin = _; rw [qmin_b64]; rfl
  have mb : (V b).natAbs = d * 2 ^ (r - (-1074)).toNat := by rw [← zb, eb]; show inUnits d r b64.qmin = _; rw [qmin_b64]; rfl
  have hd0 : d ≠ 0 := by
    rintro rfl
    rw [Nat.zero_mul] at mb; omega
  have hBp : 0 < (V b).natAbs := by omega
  have hv : val64 (FP.ddiv a b) = roundRatio b64 (s != t) ((V a).natAbs * one64) (V b).natAbs (-1074) := by
    rw [show FP.ddiv a b = Core.ddiv a b from rfl, val64_ddiv, ea, eb]
    simp only [quotient, if_neg hd0]
    refine roundRatio_congr (by omega) hBp ?_
    rw [ma, mb]
    unfold one64
    rw [pw2, pw3]
    congr 2
    omega
  have hS : signed (s != t) ((V a).natAbs * one64) = V a * (one64 : Int) * (V b).sign := by
    rw [sb, eb]
    show _ = _ * signed t 1
    have : signed (s != t) ((V a).natAbs * one64 * 1) = signed s ((V a).natAbs * one64) * signed t 1 := signed_xor s t _ 1
    rw [Nat.mul_one] at this
    rw [this, signed_mul]
    congr 2
    rw [← za]
    unfold V zval
    rw [ea]
    rfl
  obtain ⟨c', q', hh⟩ := fin_round (s := s != t) (A := (V a).natAbs * one64) (B := (V b).natAbs) hBp h
  refine ⟨⟨_, c', q', hv.trans hh⟩, ?_⟩
  show zval b64 (val64 (FP.ddiv a b)) = _
  rw [hv, rnd_signed, hS]
theorem V_of_int {a : UInt64} {n : Int} (ha : val64 a = round b64 (ofInt n)) (h : n.natAbs ≤ 2 ^ 64) : DFin a ∧ V a = rnd (n * (one64 : Int)) 1 := by
  have hv : val64 a = roundRatio b64 (decide (n < 0)) (n.natAbs * one64) 1 (-1074) := by
    rw [ha]
    show roundRatio b64 (decide (n < 0)) n.natAbs 1 0 = _
    refine roundRatio_congr (by decide) (by decide) ?_
    unfold one64
    rw [show (0 - (-1074) : Int).toNat = 1074 from rfl, show (-1074 - 0 : Int).toNat = 0 from rfl]
    simp
  have hS : signed (decide (n < 0)) (n.natAbs * one64) = n * (one64 : Int) := by rw [signed_mul, signed_natAbs]
  have hB : n.natAbs * one64 ≤ BIG := by
    refine Nat.le_trans (Nat.mul_le_mul_right _ h) ?_
    unfold one64 BIG
    rw [← Nat.pow_add]
    exact Nat.pow_le_pow_right (by decide) (by decide)
  obtain ⟨c', q', hh⟩ := fin_round (s := decide (n < 0)) (A := n.natAbs * one64) (B := 1) (by decide) (by rw [Nat.mul_one]; exact hB)
  refine ⟨⟨_, c', q', hv.trans hh⟩, ?_⟩
  show zval b64 (val64 a) = _
  rw [hv, rnd_signed, hS]
theorem V_l2d (n : Int64) : DFin (FP.l2d n) ∧ V (FP.l2d n) = rnd (n.toInt * (one64 : Int)) 1 :=
  V_of_int (val64_l2d n) (Nat.le_trans (int64_abs n) (by decide))
theorem V_i2d (n : Int32) : DFin (FP.i2d n) ∧ V (FP.i2d n) = rnd (n.toInt * (one64 : Int)) 1 :=
  V_of_int (val64_i2d n) (Nat.le_trans (int32_abs n) (by decide))
theorem V_drem {a b : UInt64} (ha : DFin a) (hb : DFin b) (h0 : V b ≠ 0) : DFin (FP.drem a b) ∧ V (FP.drem a b) = (V a).tmod (V b) := by
  have za := zmag_V a
  have zb := zmag_V b
  obtain ⟨s, c, q, ea⟩ := ha
  obtain ⟨t, d, r, eb⟩ := hb
  have fa : Jvm.FP.Core.fits b64 (.fin s c q) := ea ▸ val64_fits a
  have fb : Jvm.FP.Core.fits b64 (.fin t d r) := eb ▸ val64_fits b
  have hd0 : d ≠ 0 := by
    rintro rfl
    rw [eb] at zb
    have : zmag b64 (.fin t 0 r) = 0 := Nat.zero_mul _
    omega
  obtain ⟨c', q', h1, h2⟩ := remainder_exact good_b64 fa fb hd0
  have hv : val64 (FP.drem a b) = .fin s c' q' := by rw [show FP.drem a b = Core.drem a b from rfl, val64_drem, ea, eb, h1]
  refine ⟨⟨_, _, _, hv⟩, ?_⟩
  have h3 : zmag b64 (.fin s c' q') = (V a).natAbs % (V b).natAbs := by rw [← za, ← zb, ea, eb]; exact h2
  have hVa : V a = signed s (V a).natAbs := by rw [← za]; unfold V zval; rw [ea]; rfl
  show zval b64 (val64 (FP.drem a b)) = _
  rw [hv]
  show signed s (zmag b64 (.fin s c' q')) = _
  rw [h3]
  have hb2 : ∀ x : Int, x.tmod (V b) = x.tmod ((V b).natAbs : Int) := by
    intro x
    rcases Int.natAbs_eq (V b) with e | e
    · rw [← e]
    · rw [e, Int.tmod_neg]; simp
  rw [hb2]
  generalize (V b).natAbs = B at *
  generalize (V a).natAbs = A at *
  rw [hVa]
  cases s <;> simp [signed] <;> exact (Int.tmod_eq_emod_of_nonneg (Int.natCast_nonneg A)).symm
theorem cmp_V {a b : UInt64} (ha : DFin a) (hb : DFin b) : FP.dcmp a b = some (compare (V a) (V b)) := by
  obtain ⟨s, c, q, ea⟩ := ha
  obtain ⟨t, d, r, eb⟩ := hb
  exact dcmp_zval (by rw [ea]; exact Datum.noConfusion) (by rw [eb]; exact Datum.noConfusion)
/-! the rounding -/
theorem rnd_congr {n n' : Int} {d d' : Nat} (hd : 0 < d) (hd' : 0 < d') (h : n * (d' : Int) = n' * (d : Int)) : rnd n d = rnd n' d' := by
  have hs : (n < 0) ↔ (n' < 0) := by
    have p1 : (0 : Int) < d := by omega
    have p2 : (0 : Int) < d' := by omega
    constructor
    · intro q
      have := Int.mul_neg_of_neg_of_pos q p2
      refine Int.lt_of_not_ge fun q' => ?_
      have := Int.mul_nonneg q' (Int.le_of_lt p1)
      omega
    · intro q
      have := Int.mul_neg_of_neg_of_pos q p1
      refine Int.lt_of_not_ge fun q' => ?_
      have := Int.mul_nonneg q' (Int.le_of_lt p2)
      omega
  have hm : n.natAbs * d' = n'.natAbs * d := by
    have := congrArg Int.natAbs h
    rwa [Int.natAbs_mul, Int.natAbs_mul, Int.natAbs_natCast, Int.natAbs_natCast] at this
  unfold rnd
  rw [show decide (n < 0) = decide (n' < 0) from decide_eq_decide.mpr hs]
  congr 1
  exact roundRatio_congr hd hd' (by simpa using hm)
/-- at most 53 binary digits -/
def Rep (r : Int) : Prop := ∃ (m : Int) (e : Nat), r = m * ((2 ^ e : Nat) : Int) ∧ m.natAbs < 2 ^ 53 ∧ e ≤ 2045
theorem rnd_exact {n : Int} {d : Nat} {r : Int} (hd : 0 < d) (h : n = r * (d : Int)) (hr : Rep r) : rnd n d = r := by
  rw [rnd_congr (n' := r) (d' := 1) hd (by decide) (by rw [h]; simp)]
  obtain ⟨m, e, rfl, hm, he⟩ := hr
  have hsg : ∀ k : Nat, signed (decide (m < 0)) (m.natAbs * k) = m * (k : Int) := fun k => by rw [signed_mul, signed_natAbs]
  have h1 : rnd (m * ((2 ^ e : Nat) : Int)) 1 = zval b64 (roundRatio b64 (decide (m < 0)) (m.natAbs * 2 ^ e) 1 (-1074)) := by rw [rnd_signed, hsg]
  rw [h1]
  obtain ⟨c', q', h2, h3⟩ := round_exact good_b64 (decide (m < 0)) (c := m.natAbs) (q := (e : Int) - 1074) hm (by rw [qmin_b64]; omega) (by rw [show b64.qmax = 971 by decide]; omega)
  have h4 : roundRatio b64 (decide (m < 0)) (m.natAbs * 2 ^ e) 1 (-1074) = roundRatio b64 (decide (m < 0)) m.natAbs 1 ((e : Int) - 1074) := by
    refine roundRatio_congr (by decide) (by decide) ?_
    rw [show (-1074 - ((e : Int) - 1074)).toNat = 0 by omega, show ((e : Int) - 1074 - -1074).toNat = e by omega]
    simp
  rw [h4]
  have h5 : roundRatio b64 (decide (m < 0)) m.natAbs 1 ((e : Int) - 1074) = .fin (decide (m < 0)) c' q' := h2
  rw [h5]
  show signed _ (inUnits c' q' b64.qmin) = _
  rw [h3, ← hsg]
  unfold inUnits
  rw [qmin_b64, show ((e : Int) - 1074 - -1074).toNat = e by omega]
  rfl
theorem rep_V {a : UInt64} (ha : DFin a) : Rep (V a) := by
  obtain ⟨s, c, q, ea⟩ := ha
  have fa : Jvm.FP.Core.fits b64 (.fin s c q) := ea ▸ val64_fits a
  obtain ⟨h1, h2, h3, -⟩ := fa
  rw [qmin_b64] at h2
  rw [show b64.qmax = 971 by decide] at h3
  refine ⟨signed s c, (q - (-1074)).toNat, ?_, by rw [natAbs_signed]; exact h1, by omega⟩
  unfold V zval
  rw [ea]
  show signed s (c * 2 ^ (q - b64.qmin).toNat) = _
  rw [signed_mul, qmin_b64]
theorem V_le {a : UInt64} : (V a).natAbs ≤ (V a).natAbs := Nat.le_refl _
end Jvm.OwnF
namespace Jvm.OwnF
open Jvm.FP Jvm.FP.Core
/-! exact values: a is n / 2^k -/
def R53 (n : Int) : Prop := ∃ (m : Int) (e : Nat), n = m * ((2 ^ e : Nat) : Int) ∧ m.natAbs ≤ 2 ^ 53 ∧ e ≤ 800
def DV (n : Int) (k : Nat) (a : UInt64) : Prop := DFin a ∧ k ≤ 1074 ∧ V a = n * ((2 ^ (1074 - k) : Nat) : Int)
theorem r53 {n : Int} (h : n.natAbs ≤ 2 ^ 53) : R53 n := ⟨n, 0, by simp, h, by decide⟩
theorem rep_of {m : Int} {e : Nat} (hm : m.natAbs ≤ 2 ^ 53) (he : e ≤ 1900) : Rep (m * ((2 ^ e : Nat) : Int)) := by
  by_cases h : m.natAbs < 2 ^ 53
  · exact ⟨m, e, rfl, h, by omega⟩
  · refine ⟨m.sign, e + 53, ?_, ?_, by omega⟩
    · have h1 : m.natAbs = 2 ^ 53 := by omega
      have h2 : m = m.sign * (m.natAbs : Int) := (Int.sign_mul_natAbs m).symm
      conv => lhs; rw [h2, h1]
      rw [Nat.pow_add, Int.natCast_mul, Int.mul_assoc]
      congr 1
      rw [Int.mul_comm]
    · have : m.sign.natAbs ≤ 1 := by
        rcases Int.lt_trichotomy m 0 with q | q | q
        · rw [Int.sign_eq_neg_one_of_neg q]; decide
        · rw [q]; decide
        · rw [Int.sign_eq_one_of_pos q]; decide
      omega
theorem rep_R {n : Int} (h : R53 n) {k : Nat} (hk : k ≤ 1074) : Rep (n * ((2 ^ k : Nat) : Int)) := by
  obtain ⟨m, e, rfl, hm, he⟩ := h
  rw [Int.mul_assoc, ← Int.natCast_mul, ← Nat.pow_add]
  exact rep_of hm (by omega)
theorem big_R {n : Int} (h : R53 n) {k : Nat} (hk : k ≤ 1074) : (n * ((2 ^ k : Nat) : Int)).natAbs ≤ BIG := by
  obtain ⟨m, e, rfl, hm, he⟩ := h
  rw [Int.natAbs_mul, Int.natAbs_mul, Int.natAbs_natCast, Int.natAbs_natCast, Nat.mul_assoc, ← Nat.pow_add]
  refine Nat.le_trans (Nat.mul_le_mul_right _ hm) ?_
  unfold BIG
  rw [← Nat.pow_add]
  exact Nat.pow_le_pow_right (by decide) (by omega)
theorem DV.fin {n : Int} {k : Nat} {a : UInt64} (h : DV n k a) : DFin a := h.1
theorem DV.nn {n : Int} {k : Nat} {a : UInt64} (h : DV n k a) : Jvm.Free.Fl.NoNaN64 a := noNaN_fin h.1
theorem DV.of_eq {n m : Int} {k : Nat} {a : UInt64} (h : DV n k a) (e : n = m) : DV m k a := e ▸ h
theorem DV.up {n : Int} {k : Nat} {a : UInt64} (h : DV n k a) (j : Nat) (hj : k + j ≤ 1074) : DV (n * ((2 ^ j : Nat) : Int)) (k + j) a := by
  refine ⟨h.1, hj, ?_⟩
  rw [h.2.2, Int.mul_assoc, ← Int.natCast_mul, ← Nat.pow_add]
  congr 4
  omega
theorem DV.down {n : Int} {k j : Nat} {a : UInt64} (h : DV (n * ((2 ^ j : Nat) : Int)) (k + j) a) : DV n k a := by
  refine ⟨h.1, by have := h.2.1; omega, ?_⟩
  rw [h.2.2, Int.mul_assoc, ← Int.natCast_mul, ← Nat.pow_add]
  congr 4
  have := h.2.1; omega
theorem DV_of_V {n : Int} {k : Nat} {a : UInt64} (hf : DFin a) (hk : k ≤ 1074) (hn : R53 n) (h : V a = rnd (n * ((2 ^ (1074 - k) : Nat) : Int)) 1) : DV n k a :=
  ⟨hf, hk, by rw [h]; exact rnd_exact (by decide) (by simp) (rep_R hn (by omega))⟩
theorem DV_add {n m : Int} {k : Nat} {a b : UInt64} (ha : DV n k a) (hb : DV m k b) (h : R53 (n + m)) : DV (n + m) k (FP.dadd a b) := by
  have e : V a + V b = (n + m) * ((2 ^ (1074 - k) : Nat) : Int) := by rw [ha.2.2, hb.2.2, Int.add_mul]
  obtain ⟨h1, h2⟩ := V_dadd ha.1 hb.1 (by rw [e]; exact big_R h (by omega))
  exact DV_of_V h1 ha.2.1 h (by rw [h2, e])
theorem DV_sub {n m : Int} {k : Nat} {a b : UInt64} (ha : DV n k a) (hb : DV m k b) (h : R53 (n - m)) : DV (n - m) k (FP.dsub a b) := by
  have e : V a - V b = (n - m) * ((2 ^ (1074 - k) : Nat) : Int) := by rw [ha.2.2, hb.2.2, Int.sub_mul]
  obtain ⟨h1, h2⟩ := V_dsub ha.1 hb.1 (by rw [e]; exact big_R h (by omega))
  exact DV_of_V h1 ha.2.1 h (by rw [h2, e])
theorem DV_mul {n m : Int} {k j : Nat} {a b : UInt64} (ha : DV n k a) (hb : DV m j b) (hkj : k + j ≤ 1074) (h : R53 (n * m)) : DV (n * m) (k + j) (FP.dmul a b) := by
  have e : V a * V b = (n * m) * ((2 ^ (1074 - (k + j)) : Nat) : Int) * (one64 : Int) := by
    rw [ha.2.2, hb.2.2]
    have : ((2 ^ (1074 - (k + j)) : Nat) : Int) * (one64 : Int) = ((2 ^ (1074 - k) : Nat) : Int) * ((2 ^ (1074 - j) : Nat) : Int) := by
      rw [← Int.natCast_mul, ← Int.natCast_mul]
      unfold one64
      rw [← Nat.pow_add, ← Nat.pow_add]
      congr 2
      have := ha.2.1; have := hb.2.1; omega
    rw [Int.mul_assoc (n * m), this]
    ac_rfl
  obtain ⟨h1, h2⟩ := V_dmul ha.1 hb.1 (by
    rw [e, Int.natAbs_mul, Int.natAbs_natCast]
    exact Nat.mul_le_mul_right _ (big_R h (by omega)))
  refine ⟨h1, hkj, ?_⟩
  rw [h2]
  exact rnd_exact one64_pos e (rep_R h (by omega))
theorem divalg {n c m P Q X U I J : Int} (h : n * P = c * m * Q) (e2 : X * Q = U) (e3 : I * J * P = U * U) : n * X * U * (Q * P) = c * I * (m * J) * (Q * P) := by
  have l : n * X * U * (Q * P) = (n * P) * (X * Q) * U := by ac_rfl
  have r : c * I * (m * J) * (Q * P) = c * m * Q * (I * J * P) := by ac_rfl
  rw [l, r, h, e2, e3, Int.mul_assoc (c * m * Q)]
theorem DV_div {n m c : Int} {k j i : Nat} {a b : UInt64} (ha : DV n k a) (hb : DV m j b) (hi : i ≤ 1074) (hm : m ≠ 0) (hc : R53 c) (h : n * ((2 ^ (j + i) : Nat) : Int) = c * m * ((2 ^ k : Nat) : Int)) : DV c i (FP.ddiv a b) := by
  have hb0 : V b ≠ 0 := by
    rw [hb.2.2]
    intro q
    rcases Int.mul_eq_zero.mp q with q | q
    · exact hm q
    · have := Nat.two_pow_pos (1074 - j); omega
  have hk := ha.2.1
  have hj := hb.2.1
  -- V a * U = (c * 2^(1074 - i)) * V b
  have e : V a * (one64 : Int) = c * ((2 ^ (1074 - i) : Nat) : Int) * V b := by
    have pp : ((2 ^ (k + j + i) : Nat) : Int) ≠ 0 := by have := Nat.two_pow_pos (k + j + i); omega
    refine Int.eq_of_mul_eq_mul_right pp ?_
    rw [ha.2.2, hb.2.2]
    have e1 : ((2 ^ (k + j + i) : Nat) : Int) = ((2 ^ k : Nat) : Int) * ((2 ^ (j + i) : Nat) : Int) := by rw [← Int.natCast_mul, ← Nat.pow_add, Nat.add_assoc]
    have e2 : ((2 ^ (1074 - k) : Nat) : Int) * ((2 ^ k : Nat) : Int) = (one64 : Int) := by rw [← Int.natCast_mul, ← Nat.pow_add, Nat.sub_add_cancel hk]; rfl
    have e3 : ((2 ^ (1074 - i) : Nat) : Int) * ((2 ^ (1074 - j) : Nat) : Int) * ((2 ^ (j + i) : Nat) : Int) = (one64 : Int) * (one64 : Int) := by
      rw [← Int.natCast_mul, ← Int.natCast_mul, ← Int.natCast_mul]
      unfold one64
      rw [← Nat.pow_add, ← Nat.pow_add, ← Nat.pow_add]
      congr 2
      omega
    rw [e1]
    exact divalg h e2 e3
  have ea : (V a).natAbs * one64 = (c * ((2 ^ (1074 - i) : Nat) : Int)).natAbs * (V b).natAbs := by
    have := congrArg Int.natAbs e
    rwa [Int.natAbs_mul, Int.natAbs_mul, Int.natAbs_natCast] at this
  obtain ⟨h1, h2⟩ := V_ddiv ha.1 hb.1 hb0 (by rw [ea]; exact Nat.mul_le_mul_right _ (big_R hc (by omega)))
  refine ⟨h1, hi, ?_⟩
  rw [h2]
  refine rnd_exact (by omega) ?_ (rep_R hc (by omega))
  rw [e, Int.mul_assoc, Int.mul_sign_self]
theorem DV_l2d {n : Int64} (h : R53 n.toInt) : DV n.toInt 0 (FP.l2d n) := by
  obtain ⟨h1, h2⟩ := V_l2d n
  exact DV_of_V h1 (by decide) h h2
theorem DV_i2d (n : Int32) : DV n.toInt 0 (FP.i2d n) := by
  obtain ⟨h1, h2⟩ := V_i2d n
  exact DV_of_V h1 (by decide) (r53 (Nat.le_trans (int32_abs n) (by decide))) h2
theorem DV_const {a : UInt64} {n : Int} {k : Nat} (h1 : a.toNat % 2 ^ 63 < 9218868437227405312) (hk : k ≤ 1074) (h2 : V a = n * ((2 ^ (1074 - k) : Nat) : Int)) : DV n k a := ⟨(fin_bits a).mpr h1, hk, h2⟩
theorem DV_0 : DV 0 0 FP.dconst0 := DV_const (by decide) (by decide) (by decide +kernel)
theorem DV_1 : DV 1 0 FP.dconst1 := DV_const (by decide) (by decide) (by decide +kernel)
theorem DV_z : DV 0 0 (0 : UInt64) := DV_const (by decide) (by decide) (by decide +kernel)
theorem cmpv_V {a b : UInt64} (ha : DFin a) (hb : DFin b) (o : ClassFile.CmpOp) : (V a < V b → Op.cmpValue (FP.dcmp a b) o = -1) ∧ (V a = V b → Op.cmpValue (FP.dcmp a b) o = 0) ∧ (V b < V a → Op.cmpValue (FP.dcmp a b) o = 1) := by
  rw [cmp_V ha hb]
  refine ⟨fun h => ?_, fun h => ?_, fun h => ?_⟩
  · rw [(compare_lt_iff _ _).mpr h]; rfl
  · rw [(compare_eq_iff _ _).mpr h]; rfl
  · rw [(compare_gt_iff _ _).mpr h]; rfl
theorem DV_le {n m : Int} {k : Nat} {a b : UInt64} (ha : DV n k a) (hb : DV m k b) : (V a < V b ↔ n < m) ∧ (V a = V b ↔ n = m) := by
  rw [ha.2.2, hb.2.2]
  have hp : (0 : Int) < ((2 ^ (1074 - k) : Nat) : Int) := by have := Nat.two_pow_pos (1074 - k); omega
  exact ⟨Int.mul_lt_mul_right hp, ⟨fun q => Int.eq_of_mul_eq_mul_right (by omega) q, fun q => by rw [q]⟩⟩
theorem DV_cmp {n m : Int} {k : Nat} {a b : UInt64} (ha : DV n k a) (hb : DV m k b) (o : ClassFile.CmpOp) : (n < m → Op.cmpValue (FP.dcmp a b) o = -1) ∧ (n = m → Op.cmpValue (FP.dcmp a b) o = 0) ∧ (m < n → Op.cmpValue (FP.dcmp a b) o = 1) := by
  obtain ⟨h1, h2, h3⟩ := cmpv_V ha.1 hb.1 o
  exact ⟨fun q => h1 ((DV_le ha hb).1.mpr q), fun q => h2 ((DV_le ha hb).2.mpr q), fun q => h3 ((DV_le hb ha).1.mpr q)⟩
theorem DV_eq0 {n : Int} {k : Nat} {a b : UInt64} (ha : DV n k a) (hb : DV n k b) (o : ClassFile.CmpOp) : Op.cmpValue (FP.dcmp a b) o = 0 := (DV_cmp ha hb o).2.1 rfl
theorem DV_d2l {n : Int} {a : UInt64} (h : DV n 0 a) (h1 : -9223372036854775808 ≤ n) (h2 : n < 9223372036854775808) : (FP.d2l a).toInt = n := by
  obtain ⟨hf, -, hv⟩ := h
  have hn : val64 a ≠ .nan := by obtain ⟨s, c, q, e⟩ := hf; rw [e]; exact Datum.noConfusion
  rw [show FP.d2l a = Core.d2l a from rfl, d2l_val hn, zmag_V]
  have hs : signed (sgn (val64 a)) (V a).natAbs = V a := by rw [← zmag_V]; rfl
  have ho : (1074 - 0 : Nat) = 1074 := rfl
  rw [ho, show (2 ^ 1074 : Nat) = one64 from rfl] at hv
  have hm : (V a).natAbs = n.natAbs * one64 := by rw [hv, Int.natAbs_mul, Int.natAbs_natCast]
  have hd : (V a).natAbs / one64 = n.natAbs := by rw [hm, Nat.mul_div_cancel _ one64_pos]
  rw [hd]
  have hsn : signed (sgn (val64 a)) n.natAbs = n := by
    rw [hm, signed_mul, hv] at hs
    exact Int.eq_of_mul_eq_mul_right (by have := one64_pos; omega) hs
  rw [hsn]
  omega
end Jvm.OwnF
namespace Jvm.OwnF
open Jvm.RoadKit
/-! ints and longs as whole numbers -/
theorem mul_bd {a b : Int} {A B : Nat} (ha : a.natAbs ≤ A) (hb : b.natAbs ≤ B) : (a * b).natAbs ≤ A * B := by rw [Int.natAbs_mul]; exact Nat.mul_le_mul ha hb
theorem iadd_v {x y z : Int32} (h : x + y = z) (hb : (x.toInt + y.toInt).natAbs < 2147483648) : z.toInt = x.toInt + y.toInt := by rw [← h, Int32.toInt_add]; exact Int.bmod_eq_of_le (by omega) (by omega)
theorem isub_v {x y z : Int32} (h : x - y = z) (hb : (x.toInt - y.toInt).natAbs < 2147483648) : z.toInt = x.toInt - y.toInt := by rw [← h, Int32.toInt_sub]; exact Int.bmod_eq_of_le (by omega) (by omega)
theorem imul_v {x y z : Int32} (h : x * y = z) (hb : (x.toInt * y.toInt).natAbs < 2147483648) : z.toInt = x.toInt * y.toInt := by rw [← h, Int32.toInt_mul]; exact Int.bmod_eq_of_le (by omega) (by omega)
theorem ladd_v {x y z : Int64} (h : x + y = z) (hb : (x.toInt + y.toInt).natAbs < 9223372036854775808) : z.toInt = x.toInt + y.toInt := by rw [← h, Int64.toInt_add]; exact Int.bmod_eq_of_le (by omega) (by omega)
theorem lsub_v {x y z : Int64} (h : x - y = z) (hb : (x.toInt - y.toInt).natAbs < 9223372036854775808) : z.toInt = x.toInt - y.toInt := by rw [← h, Int64.toInt_sub]; exact Int.bmod_eq_of_le (by omega) (by omega)
theorem lmul_v {x y z : Int64} (h : x * y = z) (hb : (x.toInt * y.toInt).natAbs < 9223372036854775808) : z.toInt = x.toInt * y.toInt := by rw [← h, Int64.toInt_mul]; exact Int.bmod_eq_of_le (by omega) (by omega)
theorem i2l_v {x : Int32} {z : Int64} (h : x.toInt64 = z) : z.toInt = x.toInt := by rw [← h]; exact c_i2l x
theorem l2i_v {x : Int64} {z : Int32} (h : x.toInt32 = z) (hb : -2147483648 ≤ x.toInt ∧ x.toInt < 2147483648) : z.toInt = x.toInt := by
  rw [← h]; have h1 := c_l2i x; have h2 := rng32 x.toInt32; omega
theorem rng32b (x : Int32) : x.toInt.natAbs ≤ 2147483648 := by have := rng32 x; omega
theorem rng64b (x : Int64) : x.toInt.natAbs ≤ 9223372036854775808 := by have := rng64 x; omega
theorem ishr16 {p z : Int32} (h : p >>> ((16 : Int32) &&& 31) = z) : z.toInt = p.toInt / 65536 := by
  rw [← h, c_ishr p 16 16 (by decide)]; rfl
theorem i2s_b {x z : Int32} (h : x.toInt16.toInt32 = z) : -32768 ≤ z.toInt ∧ z.toInt < 32768 := by rw [← h]; exact (c_i2s x).2
/-- x % y, y > 0, x ≥ 0 -/
theorem irem_v {x y z : Int32} (h : x % y = z) (hx : 0 ≤ x.toInt) : z.toInt = x.toInt % y.toInt := by rw [← h, Int32.toInt_mod]; exact Int.tmod_eq_emod_of_nonneg hx
theorem lrem_v {x y z : Int64} (h : x % y = z) (hx : 0 ≤ x.toInt) : z.toInt = x.toInt % y.toInt := by rw [← h, Int64.toInt_mod]; exact Int.tmod_eq_emod_of_nonneg hx
theorem mask31 {x z : Int32} (h : x &&& (2147483647 : Int32) = z) : 0 ≤ z.toInt ∧ z.toInt < 2147483648 := by
  rw [← h, c_mask x 2147483647 31 (by decide) (by decide)]
  have e : ((2 ^ 31 : Nat) : Int) = 2147483648 := by decide
  rw [e]; omega
/-- x << q, q < 64, no overflow -/
theorem lshl_v {x z : Int64} {q : Int32} (h : x <<< (q &&& 0x3f).toInt64 = z) {k : Nat} (hq : q.toInt = (k : Int)) (hk : k < 64) (hb : (x.toInt * ((2 ^ k : Nat) : Int)).natAbs < 9223372036854775808) : z.toInt = x.toInt * ((2 ^ k : Nat) : Int) := by
  have hn : q.toBitVec.toNat % 64 = k := by
    have e : q.toBitVec.toNat = k := by
      have h1 : q.toBitVec.toInt = (k : Int) := hq
      have h2 := BitVec.toInt_eq_toNat_bmod q.toBitVec
      rw [h1] at h2
      have h3 := q.toBitVec.isLt
      have h4 := Int.bmod_emod (x := (q.toBitVec.toNat : Int)) (m := 2 ^ 32)
      omega
    omega
  have := c_lshl x q k hn
  rw [h] at this
  have r := rng64 z
  omega
end Jvm.OwnF
namespace Jvm.OwnF
open Jvm.RoadKit
theorem nat32 {q : Int32} {k : Nat} (hq : q.toInt = (k : Int)) : q.toBitVec.toNat = k := by
  have h1 : q.toBitVec.toInt = (k : Int) := hq
  have h2 := BitVec.toInt_eq_toNat_bmod q.toBitVec
  rw [h1] at h2
  have h3 := q.toBitVec.isLt
  have h5 := rng32 q
  have h4 := Int.bmod_emod (x := (q.toBitVec.toNat : Int)) (m := 2 ^ 32)
  omega
theorem ishl_v {x z q : Int32} (h : x <<< (q &&& 31) = z) {k : Nat} (hq : q.toInt = (k : Int)) (hk : k < 32) (hb : (x.toInt * ((2 ^ k : Nat) : Int)).natAbs < 2147483648) : z.toInt = x.toInt * ((2 ^ k : Nat) : Int) := by
  have hn : q.toBitVec.toNat % 32 = k := by rw [nat32 hq]; omega
  have := c_ishl x q k hn
  rw [h] at this
  have r := rng32 z
  omega
theorem ishl_1 {z q : Int32} (h : (1 : Int32) <<< (q &&& 31) = z) {k : Nat} (hq : q.toInt = (k : Int)) (hk : k < 31) : z.toInt = ((2 ^ k : Nat) : Int) := by
  have p : 2 ^ k ≤ 2 ^ 30 := Nat.pow_le_pow_right (by decide) (by omega)
  have := ishl_v h hq (by omega) (by rw [show (1 : Int32).toInt = 1 by decide, Int.one_mul, Int.natAbs_natCast]; omega)
  rw [show (1 : Int32).toInt = 1 by decide, Int.one_mul] at this
  exact this
end Jvm.OwnF
namespace Jvm.OwnF
open Jvm.FP Jvm.FP.Core
/-! the rounding is a nearest one; the sum's error -/
def RepU (r : Int) : Prop := ∃ (m : Int) (e : Nat), r = m * ((2 ^ e : Nat) : Int) ∧ m.natAbs < 2 ^ 53
theorem Rep.u {r : Int} (h : Rep r) : RepU r := by obtain ⟨m, e, h1, h2, -⟩ := h; exact ⟨m, e, h1, h2⟩
theorem RepU.rep {r : Int} (h : RepU r) (hb : r.natAbs ≤ BIG) : Rep r := by
  obtain ⟨m, e, rfl, hm⟩ := h
  by_cases h0 : m = 0
  · subst h0; exact ⟨0, 0, by simp, by decide, by decide⟩
  · refine ⟨m, e, rfl, hm, ?_⟩
    rw [Int.natAbs_mul, Int.natAbs_natCast] at hb
    have h1 : 1 ≤ m.natAbs := by omega
    have h2 : 2 ^ e ≤ 2 ^ 2000 := Nat.le_trans (Nat.le_mul_of_pos_left _ h1) hb
    have := (Nat.pow_le_pow_iff_right (by decide : 1 < 2)).mp h2
    omega
theorem RepU.neg {r : Int} (h : RepU r) : RepU (-r) := by
  obtain ⟨m, e, rfl, hm⟩ := h
  exact ⟨-m, e, by rw [Int.neg_mul], by rwa [Int.natAbs_neg]⟩
theorem RepU.zero : RepU 0 := ⟨0, 0, by simp, by decide⟩
theorem repU_of {m : Int} {e : Nat} (hm : m.natAbs ≤ 2 ^ 53) : RepU (m * ((2 ^ e : Nat) : Int)) := by
  by_cases h : m.natAbs < 2 ^ 53
  · exact ⟨m, e, rfl, h⟩
  · refine ⟨m.sign, e + 53, ?_, ?_⟩
    · have h1 : m.natAbs = 2 ^ 53 := by omega
      have h2 : m = m.sign * (m.natAbs : Int) := (Int.sign_mul_natAbs m).symm
      conv => lhs; rw [h2, h1]
      rw [Nat.pow_add, Int.natCast_mul, Int.mul_assoc]
      congr 1
      rw [Int.mul_comm]
    · have : m.sign.natAbs ≤ 1 := by
        rcases Int.lt_trichotomy m 0 with q | q | q
        · rw [Int.sign_eq_neg_one_of_neg q]; decide
        · rw [q]; decide
        · rw [Int.sign_eq_one_of_pos q]; decide
      omega
theorem rnd_fin {n : Int} {d : Nat} (hd : 0 < d) (hn : n.natAbs ≤ BIG * d) : ∃ c q, roundRatio b64 (decide (n < 0)) n.natAbs d (-1074) = .fin (decide (n < 0)) c q ∧ Jvm.FP.Core.fits b64 (.fin (decide (n < 0)) c q) ∧ rnd n d = signed (decide (n < 0)) (inUnits c q (-1074)) := by
  obtain ⟨c, q, h⟩ := fin_round (s := decide (n < 0)) hd hn
  refine ⟨c, q, h, h ▸ roundRatio_fits good_b64 _ _ hd _, ?_⟩
  unfold rnd
  rw [h]
  show signed _ (inUnits c q b64.qmin) = _
  rw [qmin_b64]
  rfl
theorem rnd_rep {n : Int} {d : Nat} (hd : 0 < d) (hn : n.natAbs ≤ BIG * d) : RepU (rnd n d) := by
  obtain ⟨c, q, -, h2, h3⟩ := rnd_fin hd hn
  rw [h3]
  unfold inUnits
  rw [signed_mul]
  exact ⟨_, _, rfl, by rw [natAbs_signed]; exact h2.1⟩
theorem rnd_near {n : Int} {d : Nat} {r : Int} (hd : 0 < d) (hn : n.natAbs ≤ BIG * d) (hr : RepU r) : (n - rnd n d * (d : Int)).natAbs ≤ (n - r * (d : Int)).natAbs := by
  obtain ⟨c, q, h1, h2, h3⟩ := rnd_fin hd hn
  have near : ∀ (c' : Nat) (e' : Nat), c' < 2 ^ 53 → ((n.natAbs : Int) - (inUnits c q (-1074) : Int) * (d : Int)).natAbs ≤ ((n.natAbs : Int) - ((c' * 2 ^ e' : Nat) : Int) * (d : Int)).natAbs := by
    intro c' e' hc'
    have := roundRatio_nearest good_b64 (e0 := -1074) (q' := (e' : Int) - 1074) hd h1 (c' := c') hc' (by rw [qmin_b64]; omega) (by rw [qmin_b64]; decide) (by decide)
    unfold distance at this
    rw [un0] at this
    unfold inUnits at this ⊢
    rw [show ((e' : Int) - 1074 - -1074).toNat = e' by omega] at this
    exact this
  have hrn : rnd n d * (d : Int) = signed (decide (n < 0)) (inUnits c q (-1074) * d) := by rw [h3, signed_mul]
  rw [hrn]
  have n0 := near 0 0 (by decide)
  obtain ⟨m, e, rfl, hm⟩ := hr
  have nm := near m.natAbs e hm
  have e1 : ((inUnits c q (-1074) : Nat) : Int) * (d : Int) = ((inUnits c q (-1074) * d : Nat) : Int) := by simp
  have e2 : ((m.natAbs * 2 ^ e : Nat) : Int) * (d : Int) = ((m.natAbs * 2 ^ e * d : Nat) : Int) := by simp
  rw [e1] at n0 nm
  rw [e2] at nm
  have e3 : m * ((2 ^ e : Nat) : Int) * (d : Int) = signed (decide (m < 0)) (m.natAbs * 2 ^ e * d) := by rw [Nat.mul_assoc, signed_mul, signed_natAbs, Int.natCast_mul, Int.mul_assoc]
  rw [e3]
  simp only [Nat.zero_mul, Int.natCast_zero, Int.zero_mul, Int.sub_zero] at n0
  generalize inUnits c q (-1074) * d = x at *
  generalize m.natAbs * 2 ^ e * d = y at *
  by_cases hn0 : n < 0 <;> by_cases hm0 : m < 0 <;> simp only [hn0, hm0, decide_true, decide_false, signed, if_true, Bool.false_eq_true, if_false] <;> omega
theorem rnd_mono {n n' : Int} {d d' : Nat} (hd : 0 < d) (hd' : 0 < d') (hn : n.natAbs ≤ BIG * d) (hn' : n'.natAbs ≤ BIG * d') (h : n * (d' : Int) ≤ n' * (d : Int)) : rnd n d ≤ rnd n' d' := by
  refine Int.le_of_not_gt fun hlt => ?_
  have r1 := rnd_near hd hn (rnd_rep hd' hn')
  have r2 := rnd_near hd' hn' (rnd_rep hd hn)
  have hne : n * (d' : Int) ≠ n' * (d : Int) := fun q => by
    have := rnd_congr hd hd' q
    omega
  generalize rnd n d = a at *
  generalize rnd n' d' = b at *
  have pd : (0 : Int) < d := by omega
  have pd' : (0 : Int) < d' := by omega
  have k1 : b * (d : Int) < a * (d : Int) := Int.mul_lt_mul_of_pos_right hlt pd
  have k2 : b * (d' : Int) < a * (d' : Int) := Int.mul_lt_mul_of_pos_right hlt pd'
  -- 2 n ≥ (a + b) d and 2 n' ≤ (a + b) d'
  have q1 : (a + b) * (d : Int) ≤ 2 * n := by rw [Int.add_mul]; omega
  have q2 : 2 * n' ≤ (a + b) * (d' : Int) := by rw [Int.add_mul]; omega
  have q3 := Int.mul_le_mul_of_nonneg_right q1 (Int.le_of_lt pd')
  have q4 := Int.mul_le_mul_of_nonneg_right q2 (Int.le_of_lt pd)
  have q3' : (a + b) * ((d : Int) * (d' : Int)) ≤ 2 * (n * (d' : Int)) := by rw [← Int.mul_assoc (a + b), ← Int.mul_assoc 2 n]; exact q3
  have q4' : 2 * (n' * (d : Int)) ≤ (a + b) * ((d : Int) * (d' : Int)) := by rw [← Int.mul_assoc 2 n', Int.mul_comm (d : Int) d', ← Int.mul_assoc (a + b)]; exact q4
  omega
theorem rnd_neg (n : Int) {d : Nat} (hd : 0 < d) : rnd (-n) d = -rnd n d := by
  by_cases h0 : n = 0
  · subst h0
    have : rnd 0 d = 0 := zval_zero _ _ _
    simp [this]
  · unfold rnd
    rw [Int.natAbs_neg, ← zval_negate, negate_roundRatio]
    congr 2
    by_cases h : n < 0
    · simp [h, show ¬ (0 < n) by omega]
    · simp [h, show 0 < n by omega]
/-- multiples of 2^e up to 2^53 of them -/
theorem g1 {r : Int} {e : Nat} (h : ((2 ^ e : Nat) : Int) ∣ r) (hb : r.natAbs ≤ 2 ^ 53 * 2 ^ e) : RepU r := by
  obtain ⟨k, rfl⟩ := h
  rw [Int.mul_comm]
  refine repU_of ?_
  rw [Int.natAbs_mul, Int.natAbs_natCast, Nat.mul_comm] at hb
  exact Nat.le_of_mul_le_mul_right hb (Nat.two_pow_pos e)
theorem g2 {r : Int} {e : Nat} (h : RepU r) (hb : 2 ^ 52 * 2 ^ e ≤ r.natAbs) : ((2 ^ e : Nat) : Int) ∣ r := by
  obtain ⟨m, f, rfl, hm⟩ := h
  rw [Int.natAbs_mul, Int.natAbs_natCast] at hb
  have h1 : 2 ^ (52 + e) < 2 ^ (53 + f) := by
    rw [Nat.pow_add, Nat.pow_add]
    exact Nat.lt_of_le_of_lt hb (Nat.mul_lt_mul_of_pos_right hm (Nat.two_pow_pos f))
  have h2 := (Nat.pow_lt_pow_iff_right (by decide : 1 < 2)).mp h1
  have h3 : 2 ^ f = 2 ^ e * 2 ^ (f - e) := by rw [← Nat.pow_add]; congr 1; omega
  rw [h3, Int.natCast_mul, ← Int.mul_assoc, Int.mul_comm m, Int.mul_assoc]
  exact Int.dvd_mul_right _ _
theorem floor_bd {n G : Int} (hp : 0 < G) (hb : (n.natAbs : Int) ≤ G * 9007199254740992) (hz : n % G ≠ 0) : -9007199254740992 ≤ n / G ∧ n / G < 9007199254740992 := by
  have hdm := Int.mul_ediv_add_emod n G
  have h0 := Int.emod_nonneg n (Int.ne_of_gt hp)
  have h1 := Int.emod_lt_of_pos n hp
  generalize n / G = k at *
  generalize n % G = x at *
  constructor
  · refine Int.le_of_not_gt fun q => ?_
    have : G * k ≤ G * (-9007199254740993) := Int.mul_le_mul_of_nonneg_left (by omega) (Int.le_of_lt hp)
    rw [Int.mul_neg] at this
    have e1 : G * 9007199254740993 = G * 9007199254740992 + G := by rw [show (9007199254740993 : Int) = 9007199254740992 + 1 from rfl, Int.mul_add, Int.mul_one]
    omega
  · refine Int.lt_of_not_ge fun q => ?_
    have : G * 9007199254740992 ≤ G * k := Int.mul_le_mul_of_nonneg_left q (Int.le_of_lt hp)
    omega
theorem g3 {n : Int} {e : Nat} (hn : n.natAbs ≤ BIG) (hb : n.natAbs ≤ 2 ^ 53 * 2 ^ e) : 2 * (n - rnd n 1).natAbs ≤ 2 ^ e := by
  have hn' : n.natAbs ≤ BIG * 1 := by omega
  have hp : (0 : Int) < ((2 ^ e : Nat) : Int) := by have := Nat.two_pow_pos e; omega
  have near : ∀ {r : Int}, RepU r → (n - rnd n 1).natAbs ≤ (n - r).natAbs := fun {r} hr => by
    have := rnd_near (by decide) hn' hr
    simpa using this
  by_cases hz : n % ((2 ^ e : Nat) : Int) = 0
  · have := near (g1 (Int.dvd_of_emod_eq_zero hz) hb)
    rw [Int.sub_self] at this
    have h2 : (n - rnd n 1).natAbs = 0 := by simpa using this
    rw [h2]; exact Nat.zero_le _
  · have hbI : (n.natAbs : Int) ≤ ((2 ^ e : Nat) : Int) * 9007199254740992 := by
      have : ((n.natAbs : Nat) : Int) ≤ ((2 ^ 53 * 2 ^ e : Nat) : Int) := Int.ofNat_le.mpr hb
      rw [Int.natCast_mul, Int.mul_comm] at this
      exact this
    obtain ⟨k1, k2⟩ := floor_bd hp hbI hz
    have lo := near (repU_of (m := n / ((2 ^ e : Nat) : Int)) (e := e) (by omega))
    have hi := near (repU_of (m := n / ((2 ^ e : Nat) : Int) + 1) (e := e) (by omega))
    have hdm := Int.mul_ediv_add_emod n ((2 ^ e : Nat) : Int)
    have h0 := Int.emod_nonneg n (Int.ne_of_gt hp)
    have h1 := Int.emod_lt_of_pos n hp
    rw [Int.add_mul, Int.one_mul] at hi
    rw [Int.mul_comm] at lo hi
    generalize ((2 ^ e : Nat) : Int) * (n / ((2 ^ e : Nat) : Int)) = f at *
    generalize n % ((2 ^ e : Nat) : Int) = x at *
    generalize (n - rnd n 1).natAbs = w at *
    generalize 2 ^ e = G at *
    omega
theorem near1 {n r : Int} (hn : n.natAbs ≤ BIG) (hr : RepU r) : (n - rnd n 1).natAbs ≤ (n - r).natAbs := by
  have := rnd_near (n := n) (d := 1) (by decide) (by omega) hr
  simpa using this
theorem rep1 {n : Int} (hn : n.natAbs ≤ BIG) : RepU (rnd n 1) := rnd_rep (by decide) (by omega)
theorem exact1 {n : Int} (hn : n.natAbs ≤ BIG) (hr : RepU n) : rnd n 1 = n := rnd_exact (by decide) (by simp) (hr.rep hn)
theorem twice1 {n : Int} (hn : n.natAbs ≤ BIG) : (rnd n 1).natAbs ≤ 2 * n.natAbs := by
  have := near1 hn RepU.zero
  rw [Int.sub_zero] at this
  omega
/-- a number as great as a power rounds to one as great -/
theorem ge1 {n : Int} {e : Nat} (hn : n.natAbs ≤ BIG) (h : 2 ^ e ≤ n.natAbs) : 2 ^ e ≤ (rnd n 1).natAbs := by
  have r1 : RepU ((2 ^ e : Nat) : Int) := ⟨1, e, by simp, by decide⟩
  have n1 := near1 hn r1
  have n2 := near1 hn r1.neg
  omega
/-- the least grid for a number: 2^f with |n| ≤ 2^53 * 2^f, and |n| > 2^52 * 2^f unless f = 0 -/
theorem grid (n : Nat) : ∃ f : Nat, n ≤ 2 ^ 53 * 2 ^ f ∧ (f = 0 ∨ 2 ^ 52 * 2 ^ f < n) := by
  by_cases h : n ≤ 2 ^ 53
  · exact ⟨0, by omega, Or.inl rfl⟩
  · have h1 : 2 ^ (n - 1).log2 ≤ n - 1 := Nat.log2_self_le (by omega)
    have h2 : n - 1 < 2 ^ ((n - 1).log2 + 1) := Nat.lt_log2_self
    have h3 : 53 ≤ (n - 1).log2 := by
      refine Nat.le_of_not_lt fun q => ?_
      have : 2 ^ ((n - 1).log2 + 1) ≤ 2 ^ 53 := Nat.pow_le_pow_right (by decide) (by omega)
      omega
    refine ⟨(n - 1).log2 - 52, ?_, Or.inr ?_⟩
    · rw [← Nat.pow_add, show 53 + ((n - 1).log2 - 52) = (n - 1).log2 + 1 by omega]; omega
    · rw [← Nat.pow_add, show 52 + ((n - 1).log2 - 52) = (n - 1).log2 by omega]; omega
theorem dvd_le {a b : Nat} (h : a ≤ b) : ((2 ^ a : Nat) : Int) ∣ ((2 ^ b : Nat) : Int) := Int.natCast_dvd_natCast.mpr (Nat.pow_dvd_pow 2 h)
/-- the error of a sum is a double -/
theorem err_rep {a b : Int} (ha : RepU a) (hb : RepU b) (hn : (a + b).natAbs ≤ BIG) : RepU (a + b - rnd (a + b) 1) := by
  have na := near1 hn ha
  have nb := near1 hn hb
  obtain ⟨ma, ea, ea', hma⟩ := id ha
  obtain ⟨mb, eb, eb', hmb⟩ := id hb
  -- the lesser of the two exponents
  have key : ∀ e : Nat, e ≤ ea → e ≤ eb → (a.natAbs ≤ 2 ^ 53 * 2 ^ e ∨ b.natAbs ≤ 2 ^ 53 * 2 ^ e) → RepU (a + b - rnd (a + b) 1) := by
    intro e h1 h2 h3
    have da : ((2 ^ e : Nat) : Int) ∣ a := by rw [ea']; exact Int.dvd_trans (dvd_le h1) (Int.dvd_mul_left _ _)
    have db : ((2 ^ e : Nat) : Int) ∣ b := by rw [eb']; exact Int.dvd_trans (dvd_le h2) (Int.dvd_mul_left _ _)
    have ds : ((2 ^ e : Nat) : Int) ∣ a + b := Int.dvd_add da db
    by_cases hs : (a + b).natAbs ≤ 2 ^ 53 * 2 ^ e
    · rw [exact1 hn (g1 ds hs), Int.sub_self]; exact RepU.zero
    · have h4 : 2 ^ (52 + e) ≤ (a + b).natAbs := by rw [Nat.pow_add]; omega
      have h5 := ge1 hn h4
      rw [Nat.pow_add] at h5
      have dr := g2 (rep1 hn) h5
      refine g1 (Int.dvd_sub ds dr) ?_
      rw [show a + b - a = b by omega] at na
      rw [show a + b - b = a by omega] at nb
      omega
  by_cases hle : ea ≤ eb
  · refine key ea (Nat.le_refl _) hle (Or.inl ?_)
    rw [ea', Int.natAbs_mul, Int.natAbs_natCast]
    exact Nat.mul_le_mul_right _ (Nat.le_of_lt hma)
  · refine key eb (by omega) (Nat.le_refl _) (Or.inr ?_)
    rw [eb', Int.natAbs_mul, Int.natAbs_natCast]
    exact Nat.mul_le_mul_right _ (Nat.le_of_lt hmb)
/-- the greater summand taken off the rounded sum leaves a double -/
theorem fast_rep {a b : Int} (ha : RepU a) (hb : RepU b) (hab : b.natAbs ≤ a.natAbs) (hn : (a + b).natAbs ≤ BIG) : RepU (rnd (a + b) 1 - a) := by
  obtain ⟨f, hf1, hf2⟩ := grid (a + b).natAbs
  rcases Nat.eq_zero_or_pos f with h0 | h0
  · subst h0
    have : RepU (a + b) := g1 (e := 0) (by simp) hf1
    rw [exact1 hn this, show a + b - a = b by omega]; exact hb
  · have hf3 : 2 ^ 52 * 2 ^ f < (a + b).natAbs := by omega
    have hG : 2 ^ f = 2 * 2 ^ (f - 1) := by conv => lhs; rw [show f = f - 1 + 1 by omega, Nat.pow_succ, Nat.mul_comm]
    have h5 : 2 ^ 52 * 2 ^ f ≤ (rnd (a + b) 1).natAbs := by
      rw [← Nat.pow_add]
      exact ge1 hn (by rw [Nat.pow_add]; omega)
    have d3 := g3 hn hf1
    have ds := g2 (rep1 hn) h5
    by_cases hbig : 2 ^ 53 * 2 ^ (f - 1) ≤ b.natAbs
    · -- both lie on the grid of the sum: it is exact
      have db := g2 (e := f) hb (by omega)
      have da := g2 (e := f) ha (by omega)
      rw [exact1 hn (g1 (Int.dvd_add da db) hf1), show a + b - a = b by omega]; exact hb
    · have da : ((2 ^ (f - 1) : Nat) : Int) ∣ a := g2 (e := f - 1) ha (by omega)
      have ds' : ((2 ^ (f - 1) : Nat) : Int) ∣ rnd (a + b) 1 := Int.dvd_trans (dvd_le (by omega)) ds
      have dd := Int.dvd_sub ds' da
      obtain ⟨k, hk⟩ := dd
      rw [hk, Int.mul_comm]
      refine repU_of ?_
      have hkn : (rnd (a + b) 1 - a).natAbs = 2 ^ (f - 1) * k.natAbs := by rw [hk, Int.natAbs_mul, Int.natAbs_natCast]
      have hlt : 2 ^ (f - 1) * k.natAbs < 2 ^ (f - 1) * (2 ^ 53 + 1) := by
        rw [← hkn, Nat.mul_add, Nat.mul_one, Nat.mul_comm (2 ^ (f - 1)) (2 ^ 53)]
        generalize rnd (a + b) 1 = s at *
        omega
      have := Nat.lt_of_mul_lt_mul_left hlt
      omega
/-- the smaller summand first: what is taken from the rounded sum lies near the greater one -/
theorem near_rep {a b : Int} (ha : RepU a) (hb : RepU b) (hab : a.natAbs ≤ b.natAbs) (hn : (a + b).natAbs ≤ BIG) (hn2 : (rnd (a + b) 1 - a).natAbs ≤ BIG) : RepU (b - rnd (rnd (a + b) 1 - a) 1) := by
  obtain ⟨f, hf1, hf2⟩ := grid b.natAbs
  have d1 := g3 (e := f + 1) hn (by rw [Nat.pow_succ]; omega)
  rw [Nat.pow_succ] at d1
  have d2 := near1 hn2 hb
  have rx := rep1 hn2
  generalize hs : rnd (a + b) 1 = s at *
  generalize hx : rnd (s - a) 1 = x at *
  have hbx : (b - x).natAbs ≤ 2 * 2 ^ f := by omega
  rcases Nat.eq_zero_or_pos f with h0 | h0
  · subst h0
    exact g1 (e := 0) (by simp) (by omega)
  · have hG : 2 ^ f = 2 * 2 ^ (f - 1) := by conv => lhs; rw [show f = f - 1 + 1 by omega, Nat.pow_succ, Nat.mul_comm]
    have db := g2 (e := f - 1) hb (by omega)
    have hp := Nat.two_pow_pos (f - 1)
    have dx := g2 (e := f - 1) rx (by omega)
    exact g1 (Int.dvd_sub db dx) (by omega)
/-- KNUTH's two-sum -/
theorem two_sum {a b : Int} (ha : RepU a) (hb : RepU b) (ba : a.natAbs ≤ 2 ^ 1900) (bb : b.natAbs ≤ 2 ^ 1900) {s x aa da db r : Int} (hs : s = rnd (a + b) 1) (hx : x = rnd (s - a) 1) (haa : aa = rnd (s - x) 1) (hda : da = rnd (a - aa) 1) (hdb : db = rnd (b - x) 1) (hr : r = rnd (da + db) 1) : r = a + b - s := by
  have hB : 64 * 2 ^ 1900 ≤ BIG := by unfold BIG; rw [show (64 : Nat) = 2 ^ 6 from rfl, ← Nat.pow_add]; exact Nat.pow_le_pow_right (by decide) (by decide)
  generalize 2 ^ 1900 = M at *
  have n1 : (a + b).natAbs ≤ BIG := by omega
  have s2 : s.natAbs ≤ 4 * M := by have := twice1 n1; rw [← hs] at this; omega
  have n2 : (s - a).natAbs ≤ BIG := by omega
  have x2 : x.natAbs ≤ 10 * M := by have := twice1 n2; rw [← hx] at this; omega
  have n3 : (s - x).natAbs ≤ BIG := by omega
  have n4 : (b - x).natAbs ≤ BIG := by omega
  have rs : RepU s := hs ▸ rep1 n1
  have err := err_rep ha hb n1
  rw [← hs] at err
  have eb : (a + b - s).natAbs ≤ BIG := by omega
  -- what suffices: the three differences are exact
  have fin : aa = s - x → da = a - aa → db = b - x → r = a + b - s := by
    intro e1 e2 e3
    rw [hr, e2, e3, e1, show a - (s - x) + (b - x) = a + b - s by omega]
    exact exact1 eb err
  by_cases hab : b.natAbs ≤ a.natAbs
  · have rx := fast_rep ha hb hab n1
    rw [← hs] at rx
    have ex : x = s - a := by rw [hx]; exact exact1 n2 rx
    have e1 : aa = s - x := by rw [haa, ex, show s - (s - a) = a by omega]; exact exact1 (by omega) ha
    refine fin e1 ?_ ?_
    · rw [hda, e1, ex, show a - (s - (s - a)) = 0 by omega]; exact exact1 (Nat.zero_le _) RepU.zero
    · rw [hdb, ex, show b - (s - a) = a + b - s by omega]; exact exact1 eb err
  · have e3 : db = b - x := by
      have := near_rep ha hb (by omega) n1 (by rw [← hs]; exact n2)
      rw [← hs, ← hx] at this
      rw [hdb]; exact exact1 n4 this
    -- either the sum is exact, or it is as great as a
    have alt : s = a + b ∨ a.natAbs ≤ s.natAbs := by
      obtain ⟨f, hf1, hf2⟩ := grid a.natAbs
      have da' : ((2 ^ f : Nat) : Int) ∣ a := by
        rcases hf2 with h0 | h0
        · subst h0; simp
        · exact g2 ha (by omega)
      have db' : ((2 ^ f : Nat) : Int) ∣ b := by
        rcases hf2 with h0 | h0
        · subst h0; simp
        · exact g2 hb (by omega)
      by_cases hsm : (a + b).natAbs ≤ 2 ^ 53 * 2 ^ f
      · exact Or.inl (hs.trans (exact1 n1 (g1 (Int.dvd_add da' db') hsm)))
      · right
        have : 2 ^ (53 + f) ≤ (a + b).natAbs := by rw [Nat.pow_add]; omega
        have := ge1 n1 this
        rw [← hs, Nat.pow_add] at this
        omega
    rcases alt with es | hge
    · have ex : x = b := by rw [hx, es, show a + b - a = b by omega]; exact exact1 (by omega) hb
      have e1 : aa = s - x := by rw [haa, ex, es, show a + b - b = a by omega]; exact exact1 (by omega) ha
      refine fin e1 ?_ e3
      rw [hda, e1, ex, es, show a - (a + b - b) = 0 by omega]; exact exact1 (Nat.zero_le _) RepU.zero
    · have n2' : (s + -a).natAbs ≤ BIG := by rw [← Int.sub_eq_add_neg]; exact n2
      have r1 := fast_rep rs ha.neg (by rw [Int.natAbs_neg]; exact hge) n2'
      have r2 := err_rep rs ha.neg n2'
      rw [← Int.sub_eq_add_neg, ← hx] at r1 r2
      have e1 : aa = s - x := by
        rw [haa]; exact exact1 n3 (by have := r1.neg; rwa [show -(x - s) = s - x by omega] at this)
      refine fin e1 ?_ e3
      rw [hda, e1]
      exact exact1 (by omega) (by have := r2.neg; rwa [show -(s - a - x) = a - (s - x) by omega] at this)
/-- DEKKER's fast two-sum -/
theorem fast_two {a b : Int} (ha : RepU a) (hb : RepU b) (ba : a.natAbs ≤ 2 ^ 1900) (hab : b.natAbs ≤ a.natAbs) {s x r : Int} (hs : s = rnd (a + b) 1) (hx : x = rnd (s - a) 1) (hr : r = rnd (b - x) 1) : r = a + b - s := by
  have hB : 64 * 2 ^ 1900 ≤ BIG := by unfold BIG; rw [show (64 : Nat) = 2 ^ 6 from rfl, ← Nat.pow_add]; exact Nat.pow_le_pow_right (by decide) (by decide)
  generalize 2 ^ 1900 = M at *
  have n1 : (a + b).natAbs ≤ BIG := by omega
  have s2 : s.natAbs ≤ 4 * M := by have := twice1 n1; rw [← hs] at this; omega
  have n2 : (s - a).natAbs ≤ BIG := by omega
  have err := err_rep ha hb n1
  rw [← hs] at err
  have rx := fast_rep ha hb hab n1
  rw [← hs] at rx
  have ex : x = s - a := by rw [hx]; exact exact1 n2 rx
  rw [hr, ex, show b - (s - a) = a + b - s by omega]
  exact exact1 (by omega) err
end Jvm.OwnF
namespace Jvm.OwnF
open Jvm.FP Jvm.FP.Core
/-! rounded whole numbers; two-sum on doubles -/
theorem le1 {n : Int} {e : Nat} (hn : n.natAbs ≤ BIG) (h : n.natAbs ≤ 2 ^ e) : (rnd n 1).natAbs ≤ 2 ^ e := by
  have r1 : RepU ((2 ^ e : Nat) : Int) := ⟨1, e, by simp, by decide⟩
  have n1 := near1 hn r1
  have n2 := near1 hn r1.neg
  have n3 := near1 hn RepU.zero
  generalize 2 ^ e = P at *
  omega
theorem pow_big {k : Nat} (h : k ≤ 2000) : 2 ^ k ≤ BIG := by unfold BIG; exact Nat.pow_le_pow_right (by decide) h
theorem mulU {n : Int} {k : Nat} (h : n.natAbs ≤ 2 ^ k) (j : Nat) : (n * ((2 ^ j : Nat) : Int)).natAbs ≤ 2 ^ (k + j) := by
  rw [Int.natAbs_mul, Int.natAbs_natCast, Nat.pow_add]; exact Nat.mul_le_mul_right _ h
/-- rounding keeps the grid that both stand on -/
theorem dvd_round {n : Int} {j : Nat} (hn : n.natAbs ≤ BIG) (hd : ((2 ^ j : Nat) : Int) ∣ n) : ((2 ^ j : Nat) : Int) ∣ rnd n 1 := by
  by_cases h : n.natAbs ≤ 2 ^ 53 * 2 ^ j
  · rw [exact1 hn (g1 hd h)]; exact hd
  · have h1 : 2 ^ (53 + j) ≤ n.natAbs := by rw [Nat.pow_add]; omega
    have h2 := ge1 hn h1
    rw [Nat.pow_add] at h2
    exact g2 (rep1 hn) (by omega)
theorem DV.fl {n : Int} {k : Nat} {a : UInt64} (h : DV n k a) : RepU (V a) := (rep_V h.1).u
theorem DV_of_dvd {a : UInt64} {k : Nat} (hf : DFin a) (hk : k ≤ 1074) (hd : ((2 ^ (1074 - k) : Nat) : Int) ∣ V a) : ∃ n, DV n k a := by
  obtain ⟨n, hn⟩ := hd
  exact ⟨n, hf, hk, by rw [hn, Int.mul_comm]⟩
/-- a rounded value on the grid 2^-k -/
theorem round_int {a : UInt64} {n : Int} {k j : Nat} (hk : k ≤ 1074) (hj : j ≤ 900) (hf : DFin a) (hn : n.natAbs ≤ 2 ^ j) (hv : V a = rnd (n * ((2 ^ (1074 - k) : Nat) : Int)) 1) : ∃ A : Int, DV A k a ∧ A.natAbs ≤ 2 ^ j := by
  have hb : (n * ((2 ^ (1074 - k) : Nat) : Int)).natAbs ≤ 2 ^ (j + (1074 - k)) := mulU hn _
  have hB : (n * ((2 ^ (1074 - k) : Nat) : Int)).natAbs ≤ BIG := Nat.le_trans hb (pow_big (by omega))
  have hd := dvd_round hB (Int.dvd_mul_left n ((2 ^ (1074 - k) : Nat) : Int))
  rw [← hv] at hd
  obtain ⟨A, hA⟩ := DV_of_dvd hf hk hd
  refine ⟨A, hA, ?_⟩
  have := le1 hB hb
  rw [← hv, hA.2.2, Int.natAbs_mul, Int.natAbs_natCast, Nat.pow_add] at this
  exact Nat.le_of_mul_le_mul_right this (Nat.two_pow_pos _)
theorem V_bd {n : Int} {k j : Nat} {a : UInt64} (h : DV n k a) (hn : n.natAbs ≤ 2 ^ j) : (V a).natAbs ≤ 2 ^ (j + 1074) := by
  rw [h.2.2]
  exact Nat.le_trans (mulU hn _) (Nat.pow_le_pow_right (by decide) (by omega))
theorem V_dadd' {a b z : UInt64} (h : FP.dadd a b = z) (ha : DFin a) (hb : DFin b) (hB : (V a + V b).natAbs ≤ BIG) : DFin z ∧ V z = rnd (V a + V b) 1 := h ▸ V_dadd ha hb hB
theorem V_dsub' {a b z : UInt64} (h : FP.dsub a b = z) (ha : DFin a) (hb : DFin b) (hB : (V a - V b).natAbs ≤ BIG) : DFin z ∧ V z = rnd (V a - V b) 1 := h ▸ V_dsub ha hb hB
theorem bigM : 64 * 2 ^ 1900 ≤ BIG := by unfold BIG; rw [show (64 : Nat) = 2 ^ 6 from rfl, ← Nat.pow_add]; exact Nat.pow_le_pow_right (by decide) (by decide)
theorem tw {n : Int} {z : UInt64} {K : Nat} (hv : V z = rnd n 1) (hn : n.natAbs ≤ BIG) (h : n.natAbs ≤ K) : (V z).natAbs ≤ 2 * K := by
  have := twice1 hn; rw [← hv] at this; omega
theorem DV_two {a b s x aa da db r : UInt64} (fa : DFin a) (fb : DFin b) (ba : (V a).natAbs ≤ 2 ^ 1800) (bb : (V b).natAbs ≤ 2 ^ 1800) (hs : FP.dadd a b = s) (hx : FP.dsub s a = x) (haa : FP.dsub s x = aa) (hda : FP.dsub a aa = da) (hdb : FP.dsub b x = db) (hr : FP.dadd da db = r) :
    DFin s ∧ DFin x ∧ DFin aa ∧ DFin da ∧ DFin db ∧ DFin r ∧ V r = V a + V b - V s := by
  have hB : 1000 * 2 ^ 1800 ≤ BIG := by unfold BIG; refine Nat.le_trans (Nat.mul_le_mul_right _ (show 1000 ≤ 2 ^ 10 by decide)) ?_; rw [← Nat.pow_add]; exact Nat.pow_le_pow_right (by decide) (by decide)
  have hM : 2 ^ 1800 ≤ 2 ^ 1900 := Nat.pow_le_pow_right (by decide) (by decide)
  obtain ⟨fs, vs⟩ := V_dadd' hs fa fb (by omega)
  have b1 := tw (K := 2 * 2 ^ 1800) vs (by omega) (by omega)
  obtain ⟨fx, vx⟩ := V_dsub' hx fs fa (by omega)
  have b2 := tw (K := 5 * 2 ^ 1800) vx (by omega) (by omega)
  obtain ⟨faa, vaa⟩ := V_dsub' haa fs fx (by omega)
  have b3 := tw (K := 14 * 2 ^ 1800) vaa (by omega) (by omega)
  obtain ⟨fda, vda⟩ := V_dsub' hda fa faa (by omega)
  have b4 := tw (K := 29 * 2 ^ 1800) vda (by omega) (by omega)
  obtain ⟨fdb, vdb⟩ := V_dsub' hdb fb fx (by omega)
  have b5 := tw (K := 11 * 2 ^ 1800) vdb (by omega) (by omega)
  obtain ⟨fr, vr⟩ := V_dadd' hr fda fdb (by omega)
  exact ⟨fs, fx, faa, fda, fdb, fr, two_sum (rep_V fa).u (rep_V fb).u (by omega) (by omega) vs vx vaa vda vdb vr⟩
end Jvm.OwnF
namespace Jvm.OwnF
open Jvm.FP Jvm.FP.Core
/-! scaling by a power of two -/
theorem settle_shift {s : Bool} {c : Nat} {q : Int} {j : Nat} {t : Bool} {c' : Nat} {q' : Int} (h : settle b64 s c q = .fin t c' q') (hq : q + 1 + (j : Int) ≤ b64.qmax) : settle b64 s c (q + j) = .fin t c' (q' + j) := by
  unfold settle bound at h ⊢
  by_cases h1 : c < 2 ^ b64.p
  · rw [if_pos h1] at h ⊢
    rw [if_pos (by omega)] at h ⊢
    cases h; rfl
  · rw [if_neg h1] at h ⊢
    rw [if_pos (by omega)] at h ⊢
    cases h
    rw [show q + (j : Int) + 1 = q + 1 + (j : Int) by omega]
theorem rr_shift {s : Bool} {A B : Nat} {j : Nat} {c' : Nat} {q' : Int} {t : Bool} (hA : 0 < A) (hB : 0 < B) (hlead : 53 ≤ leading A B) (hup : leading A B + (j : Int) ≤ 1900) (h : roundRatio b64 s A B (-1074) = .fin t c' q') : roundRatio b64 s A B (-1074 + (j : Int)) = .fin t c' (q' + j) := by
  unfold roundRatio at h ⊢
  rw [if_neg (by omega)] at h ⊢
  have hq : quantum b64 A B (-1074 + (j : Int)) = quantum b64 A B (-1074) + j := by
    unfold quantum
    rw [qmin_b64, show ((b64.p : Nat) : Int) = 53 from rfl]
    omega
  have hqv : quantum b64 A B (-1074) = leading A B - 1126 := by
    unfold quantum
    rw [qmin_b64, show ((b64.p : Nat) : Int) = 53 from rfl]
    omega
  rw [hq]
  unfold roundAt at h ⊢
  have e1 : unitsNum A (-1074 + (j : Int)) (quantum b64 A B (-1074) + j) = unitsNum A (-1074) (quantum b64 A B (-1074)) := by
    unfold unitsNum; congr 3; omega
  have e2 : unitsDen B (-1074 + (j : Int)) (quantum b64 A B (-1074) + j) = unitsDen B (-1074) (quantum b64 A B (-1074)) := by
    unfold unitsDen; congr 3; omega
  rw [e1, e2]
  refine settle_shift h ?_
  rw [hqv, show b64.qmax = 971 by decide]
  omega
theorem leading_ge {A B k : Nat} (hA : 0 < A) (hB : 0 < B) (h : 2 ^ k * B ≤ A) : (k : Int) ≤ leading A B := by
  have h2 := (leading_spec hA hB).2
  refine Int.le_of_not_gt fun q => ?_
  have h3 : Below A B (k : Int) := below_mono (by omega) h2
  unfold Below at h3
  rw [show (-(k : Int)).toNat = 0 by omega, show (k : Int).toNat = k by omega, Nat.mul_comm] at h3
  rw [Nat.mul_comm B] at h3
  omega
theorem leading_le {A B k : Nat} (hA : 0 < A) (hB : 0 < B) (h : A < 2 ^ k * B) : leading A B < (k : Int) := by
  have h2 := (leading_spec hA hB).1
  refine Int.lt_of_not_ge fun q => ?_
  refine h2 (below_mono (a := (k : Int)) q ?_)
  unfold Below
  rw [show (-(k : Int)).toNat = 0 by omega, show (k : Int).toNat = k by omega]
  rw [Nat.mul_comm B]
  omega
/-- above the subnormals scaling by 2^j commutes with rounding -/
theorem rnd_scale {n : Int} {d j K : Nat} (hd : 0 < d) (h1 : 2 ^ 53 * d ≤ n.natAbs) (h2 : n.natAbs < 2 ^ K * d) (hj : K + j ≤ 1900) : rnd (n * ((2 ^ j : Nat) : Int)) d = rnd n d * ((2 ^ j : Nat) : Int) := by
  have hA : 0 < n.natAbs := Nat.lt_of_lt_of_le (Nat.mul_pos (by decide) hd) h1
  have hb : n.natAbs ≤ BIG * d := Nat.le_trans (Nat.le_of_lt h2) (Nat.mul_le_mul_right _ (pow_big (by omega)))
  have hP : (0 : Int) < ((2 ^ j : Nat) : Int) := by have := Nat.two_pow_pos j; omega
  obtain ⟨c, q, e1, e2, e3⟩ := rnd_fin hd hb
  have hl1 := leading_ge hA hd h1
  have hl2 := leading_le hA hd h2
  have hs := rr_shift (j := j) hA hd hl1 (by omega) e1
  have hneg : decide (n * ((2 ^ j : Nat) : Int) < 0) = decide (n < 0) := by
    rw [decide_eq_decide]
    constructor
    · intro t
      refine Int.lt_of_not_ge fun u => ?_
      have := Int.mul_nonneg u (Int.le_of_lt hP)
      omega
    · intro t; exact Int.mul_neg_of_neg_of_pos t hP
  have e4 : rnd (n * ((2 ^ j : Nat) : Int)) d = zval b64 (roundRatio b64 (decide (n < 0)) n.natAbs d (-1074 + (j : Int))) := by
    unfold rnd
    rw [hneg, Int.natAbs_mul, Int.natAbs_natCast]
    congr 1
    refine roundRatio_congr hd hd ?_
    rw [show (-1074 - (-1074 + (j : Int))).toNat = 0 by omega, show (-1074 + (j : Int) - -1074).toNat = j by omega, Nat.pow_zero, Nat.mul_one]
    ac_rfl
  rw [e4, hs, e3]
  show signed _ (inUnits c (q + j) b64.qmin) = _
  rw [← signed_mul, qmin_b64]
  congr 1
  unfold inUnits
  rw [Nat.mul_assoc, ← Nat.pow_add]
  congr 2
  have := e2.2.1
  rw [qmin_b64] at this
  omega
/-- on whole numbers of units scaling always commutes -/
theorem rnd_scale1 {n : Int} {j K : Nat} (h2 : n.natAbs < 2 ^ K) (hj : K + j ≤ 1900) (hj2 : j ≤ 1074) : rnd (n * ((2 ^ j : Nat) : Int)) 1 = rnd n 1 * ((2 ^ j : Nat) : Int) := by
  by_cases h : 2 ^ 53 ≤ n.natAbs
  · exact rnd_scale (K := K) (by decide) (by omega) (by omega) hj
  · have hr : R53 n := r53 (by omega)
    have b0 : n.natAbs ≤ BIG := Nat.le_trans (Nat.le_of_lt h2) (pow_big (by omega))
    have r0 : RepU n := by have := rep_R hr (k := 0) (by decide); rw [Nat.pow_zero] at this; simpa using this.u
    rw [exact1 b0 r0]
    exact exact1 (big_R hr (by omega)) (rep_R hr (by omega)).u
theorem DV.r53 {n : Int} {k j : Nat} {a : UInt64} (h : DV n k a) (hj : j ≤ 700) (hn : n.natAbs ≤ 2 ^ j) : R53 n := by
  obtain ⟨m, e, hm, hb⟩ := h.fl
  rw [h.2.2] at hm
  have hk := h.2.1
  have hP := Nat.two_pow_pos (1074 - k)
  by_cases hle : 1074 - k ≤ e
  · have e1 : n = m * ((2 ^ (e - (1074 - k)) : Nat) : Int) := by
      refine Int.eq_of_mul_eq_mul_right (a := ((2 ^ (1074 - k) : Nat) : Int)) (by omega) ?_
      rw [hm, Int.mul_assoc, ← Int.natCast_mul, ← Nat.pow_add]
      congr 4; omega
    by_cases hm0 : m = 0
    · exact ⟨0, 0, by rw [e1, hm0]; simp, by decide, by decide⟩
    · refine ⟨m, _, e1, Nat.le_of_lt hb, ?_⟩
      have h3 : 2 ^ (e - (1074 - k)) ≤ n.natAbs := by
        rw [e1, Int.natAbs_mul, Int.natAbs_natCast]; exact Nat.le_mul_of_pos_left _ (by omega)
      have h4 := (Nat.pow_le_pow_iff_right (by decide : 1 < 2)).mp (Nat.le_trans h3 hn)
      omega
  · refine Jvm.OwnF.r53 ?_
    have e1 : n * ((2 ^ (1074 - k - e) : Nat) : Int) = m := by
      have he := Nat.two_pow_pos e
      refine Int.eq_of_mul_eq_mul_right (a := ((2 ^ e : Nat) : Int)) (by omega) ?_
      rw [← hm, Int.mul_assoc, ← Int.natCast_mul, ← Nat.pow_add]
      congr 4; omega
    have h5 : n.natAbs ≤ m.natAbs := by
      rw [← e1, Int.natAbs_mul, Int.natAbs_natCast]; exact Nat.le_mul_of_pos_right _ (Nat.two_pow_pos _)
    omega
end Jvm.OwnF
namespace Jvm.OwnF
open Jvm.FP Jvm.FP.Core
theorem le_rep {n : Int} {r : Int} (hn : n.natAbs ≤ BIG) (hr : RepU r) (h : n.natAbs ≤ r.natAbs) : (rnd n 1).natAbs ≤ r.natAbs := by
  have n1 := near1 hn hr
  have n2 := near1 hn hr.neg
  have n3 := near1 hn RepU.zero
  omega
theorem round_int' {a : UInt64} {n B : Int} {k : Nat} (hk : k ≤ 1074) (hB : R53 B) (hf : DFin a) (hn : n.natAbs ≤ B.natAbs) (hv : V a = rnd (n * ((2 ^ (1074 - k) : Nat) : Int)) 1) : ∃ A : Int, DV A k a ∧ A.natAbs ≤ B.natAbs := by
  have hb : (n * ((2 ^ (1074 - k) : Nat) : Int)).natAbs ≤ (B * ((2 ^ (1074 - k) : Nat) : Int)).natAbs := by
    rw [Int.natAbs_mul, Int.natAbs_mul]; exact Nat.mul_le_mul_right _ hn
  have hBB := big_R hB (k := 1074 - k) (by omega)
  have hnB := Nat.le_trans hb hBB
  have hd := dvd_round hnB (Int.dvd_mul_left n ((2 ^ (1074 - k) : Nat) : Int))
  rw [← hv] at hd
  obtain ⟨A, hA⟩ := DV_of_dvd hf hk hd
  refine ⟨A, hA, ?_⟩
  have := le_rep hnB (rep_R hB (by omega)).u hb
  rw [← hv, hA.2.2, Int.natAbs_mul, Int.natAbs_mul, Int.natAbs_natCast] at this
  exact Nat.le_of_mul_le_mul_right this (Nat.two_pow_pos _)
theorem R53.mulp {n : Int} (h : n.natAbs ≤ 2 ^ 53) {e : Nat} (he : e ≤ 800) : R53 (n * ((2 ^ e : Nat) : Int)) := ⟨n, e, rfl, h, he⟩
theorem i32n {z : Int32} {K : Int} (h1 : 0 ≤ z.toInt) (h2 : z.toInt < K) : z.toInt = ((z.toInt.toNat : Nat) : Int) ∧ ((z.toInt.toNat : Nat) : Int) < K := by omega
theorem p2le {a b : Nat} (h : a ≤ b) : (2 : Nat) ^ a ≤ 2 ^ b := Nat.pow_le_pow_right (by decide) h
end Jvm.OwnF
namespace Jvm.OwnF
open Jvm.FP Jvm.FP.Core
/-- a quotient by a whole number -/
theorem V_divi {a c z : UInt64} {D : Int} (dc : DV D 0 c) (hD : 0 < D) (h : FP.ddiv a c = z) (ha : DFin a) (hb : (V a).natAbs ≤ BIG * D.natAbs) : DFin z ∧ V z = rnd (V a) D.natAbs := by
  have hU : (0 : Int) < (one64 : Int) := by have := one64_pos; omega
  have hvc : V c = D * (one64 : Int) := dc.2.2
  have hc0 : V c ≠ 0 := by rw [hvc]; exact Int.ne_of_gt (Int.mul_pos hD hU)
  have hcn : (V c).natAbs = D.natAbs * one64 := by rw [hvc, Int.natAbs_mul, Int.natAbs_natCast]
  have hDp : 0 < D.natAbs := by omega
  obtain ⟨fs, vs⟩ := V_ddiv ha dc.1 hc0 (by rw [hcn, ← Nat.mul_assoc]; exact Nat.mul_le_mul_right _ hb)
  rw [h] at fs vs
  have hsg : (V c).sign = 1 := by rw [hvc]; exact Int.sign_eq_one_of_pos (Int.mul_pos hD hU)
  refine ⟨fs, ?_⟩
  rw [vs, hsg, Int.mul_one, hcn]
  exact rnd_congr (Nat.mul_pos hDp one64_pos) hDp (by rw [Int.natCast_mul, Int.mul_assoc, Int.mul_comm (one64 : Int)])
/-- a positive divisor -/
theorem V_divp {a c z : UInt64} (fc : DFin c) (hc : 0 < V c) (h : FP.ddiv a c = z) (ha : DFin a) (hb : (V a).natAbs * one64 ≤ BIG * (V c).natAbs) : DFin z ∧ V z = rnd (V a * (one64 : Int)) (V c).natAbs := by
  obtain ⟨fs, vs⟩ := V_ddiv ha fc (by omega) hb
  rw [h] at fs vs
  rw [Int.sign_eq_one_of_pos hc, Int.mul_one] at vs
  exact ⟨fs, vs⟩
theorem V_dmul' {a b z : UInt64} (h : FP.dmul a b = z) (ha : DFin a) (hb : DFin b) (hB : (V a * V b).natAbs ≤ BIG * one64) : DFin z ∧ V z = rnd (V a * V b) one64 := h ▸ V_dmul ha hb hB
theorem leR {n : Int} {d e : Nat} (hd : 0 < d) (he : e ≤ 2000) (h : n.natAbs ≤ 2 ^ e * d) : (rnd n d).natAbs ≤ 2 ^ e := by
  have hn : n.natAbs ≤ BIG * d := Nat.le_trans h (Nat.mul_le_mul_right _ (pow_big he))
  have r1 : RepU ((2 ^ e : Nat) : Int) := ⟨1, e, by simp, by decide⟩
  have e1 : rnd ((2 ^ e : Nat) : Int) 1 = ((2 ^ e : Nat) : Int) := exact1 (by rw [Int.natAbs_natCast]; exact pow_big he) r1
  have b1 : (((2 ^ e : Nat) : Int)).natAbs ≤ BIG * 1 := by rw [Nat.mul_one, Int.natAbs_natCast]; exact pow_big he
  have hI : (n.natAbs : Int) ≤ ((2 ^ e : Nat) : Int) * (d : Int) := by rw [← Int.natCast_mul]; exact Int.ofNat_le.mpr h
  have u := rnd_mono hd (by decide) hn b1 (by rw [Int.natCast_one, Int.mul_one]; omega)
  have l := rnd_mono (n := -((2 ^ e : Nat) : Int)) (d := 1) (by decide) hd (by rw [Int.natAbs_neg]; exact b1) hn (by rw [Int.natCast_one, Int.mul_one, Int.neg_mul]; omega)
  rw [rnd_neg _ (by decide), e1] at l
  rw [e1] at u
  omega
theorem rnd_nonneg {n : Int} {d : Nat} (hd : 0 < d) (hn : n.natAbs ≤ BIG * d) (h : 0 ≤ n) : 0 ≤ rnd n d := by
  have e0 : rnd 0 1 = 0 := zval_zero _ _ _
  rw [← e0]
  exact rnd_mono (by decide) hd (Nat.zero_le _) hn (by simpa using h)
end Jvm.OwnF
namespace Jvm.Pilot.@@N@@
open Jvm Jvm.ClassFile Sem Op Lib Jvm.Free Jvm.Stand Jvm.LawKit Jvm.RoadKit Bundle Jvm.Pilot.@@N@@.Jvm.D
open Jvm.OwnF Jvm.FP.Core in
theorem k360 : DV 360 0 (4645040803167600640 : UInt64) := DV_const (by decide) (by decide) (by decide +kernel)
open Jvm.OwnF Jvm.FP.Core in
theorem tmod_mul (a b c : Int) (hc : 0 < c) : (a * c).tmod (b * c) = a.tmod b * c := by
  rw [Int.tmod_def, Int.tmod_def, Int.mul_tdiv_mul_of_pos_left _ _ hc, Int.sub_mul]
  congr 1
  ac_rfl
open Jvm.OwnF Jvm.FP.Core in
/-- the remainder by 360 of v / 2^s -/
theorem rem360 {v : Int} {s : Nat} {d z : UInt64} (hs : s ≤ 100) (dv : DV v s d) (h : FP.drem d (4645040803167600640 : UInt64) = z) : DV (v.tmod (360 * ((2 ^ s : Nat) : Int))) s z := by
  have hU : (0 : Int) < (one64 : Int) := by have := one64_pos; omega
  have hv : V (4645040803167600640 : UInt64) = 360 * (one64 : Int) := k360.2.2
  obtain ⟨f, e⟩ := V_drem dv.1 k360.1 (by rw [hv]; omega)
  rw [h] at f e
  refine ⟨f, by omega, ?_⟩
  rw [e, hv, dv.2.2]
  have e1 : 360 * (one64 : Int) = 360 * ((2 ^ s : Nat) : Int) * ((2 ^ (1074 - s) : Nat) : Int) := by
    rw [Int.mul_assoc, ← Int.natCast_mul, ← Nat.pow_add, show s + (1074 - s) = 1074 by omega]; rfl
  rw [e1, tmod_mul]
  have := Nat.two_pow_pos (1074 - s); omega
open Jvm.OwnF Jvm.FP.Core in
theorem up0 (s : Nat) (hs : s ≤ 1074) : DV 0 s FP.dconst0 := by have := DV_0.up s (by omega); rw [Int.zero_mul, Nat.zero_add] at this; exact this
open Jvm.OwnF Jvm.FP.Core in
theorem up360 (s : Nat) (hs : s ≤ 1074) : DV (360 * ((2 ^ s : Nat) : Int)) s (4645040803167600640 : UInt64) := by have := k360.up s (by omega); rw [Nat.zero_add] at this; exact this
open Jvm.OwnF Jvm.FP.Core in
/-- the remainder isn't below 0 -/
theorem plT {v : Int} {s : Nat} {d z4 z28 : UInt64} {z8 z22 : Int32} (hs : s ≤ 100) (dv : DV v s d) (h4 : FP.drem d (4645040803167600640 : UInt64) = z4) (hr : 0 ≤ v.tmod (360 * ((2 ^ s : Nat) : Int))) (hb : v.natAbs ≤ 2 ^ 53 ∨ s ≤ 31)
    (h8 : cmpValue (FP.dcmp z4 FP.dconst0) .g = z8) (h22 : cmpValue (FP.dcmp z4 (4645040803167600640 : UInt64)) .g = z22) (h28 : FP.dadd z4 FP.dconst0 = z28) :
    Jvm.Free.Fl.NoNaN64 z4 ∧ ¬ z8 < 0 ∧ z22 < 0 ∧ Jvm.Free.Fl.NoNaN64 z28 ∧ DV (v.tmod (360 * ((2 ^ s : Nat) : Int))) s z28 := by
  have hp := Nat.two_pow_pos s
  have d4 := rem360 hs dv h4
  have lt : v.tmod (360 * ((2 ^ s : Nat) : Int)) < 360 * ((2 ^ s : Nat) : Int) := Int.tmod_lt_of_pos _ (by omega)
  have bnd : (v.tmod (360 * ((2 ^ s : Nat) : Int))).natAbs ≤ 2 ^ 53 := by
    rcases hb with q | q
    · have := Int.natAbs_tmod v (360 * ((2 ^ s : Nat) : Int))
      rw [this]
      exact Nat.le_trans (Nat.mod_le _ _) q
    · have := p2le q; omega
  have d28 : DV (v.tmod (360 * ((2 ^ s : Nat) : Int))) s z28 := by
    have := h28 ▸ DV_add d4 (up0 s (by omega)) (by rw [Int.add_zero]; exact r53 bnd)
    rw [Int.add_zero] at this; exact this
  have k1 := DV_cmp d4 (up0 s (by omega)) .g
  have k2 := DV_cmp d4 (up360 s (by omega)) .g
  refine ⟨d4.nn, ?_, by rw [← h22, k2.1 lt]; decide, d28.nn, d28⟩
  rcases Int.lt_or_eq_of_le hr with t | t
  · rw [← h8, k1.2.2 t]; decide
  · rw [← h8, k1.2.1 t.symm]; decide
open Jvm.OwnF Jvm.FP.Core in
/-- the remainder is below 0, on a coarse grid -/
theorem plF {v : Int} {s : Nat} {d z4 z16 z28 : UInt64} {z8 z22 : Int32} (hs : s ≤ 31) (dv : DV v s d) (h4 : FP.drem d (4645040803167600640 : UInt64) = z4) (hr : v.tmod (360 * ((2 ^ s : Nat) : Int)) < 0)
    (h8 : cmpValue (FP.dcmp z4 FP.dconst0) .g = z8) (h16 : FP.dadd z4 (4645040803167600640 : UInt64) = z16) (h22 : cmpValue (FP.dcmp z16 (4645040803167600640 : UInt64)) .g = z22) (h28 : FP.dadd z16 FP.dconst0 = z28) :
    Jvm.Free.Fl.NoNaN64 z4 ∧ z8 < 0 ∧ Jvm.Free.Fl.NoNaN64 z16 ∧ z22 < 0 ∧ Jvm.Free.Fl.NoNaN64 z28 ∧ DV (v.tmod (360 * ((2 ^ s : Nat) : Int)) + 360 * ((2 ^ s : Nat) : Int)) s z28 := by
  have hp := Nat.two_pow_pos s
  have p31 := p2le hs
  have d4 := rem360 (by omega) dv h4
  have gt : -(360 * ((2 ^ s : Nat) : Int)) < v.tmod (360 * ((2 ^ s : Nat) : Int)) := by
    have := Int.lt_tmod_of_pos v (show 0 < 360 * ((2 ^ s : Nat) : Int) by omega)
    exact this
  have d16 : DV (v.tmod (360 * ((2 ^ s : Nat) : Int)) + 360 * ((2 ^ s : Nat) : Int)) s z16 := h16 ▸ DV_add d4 (up360 s (by omega)) (r53 (by omega))
  have d28 : DV (v.tmod (360 * ((2 ^ s : Nat) : Int)) + 360 * ((2 ^ s : Nat) : Int)) s z28 := by
    have := h28 ▸ DV_add d16 (up0 s (by omega)) (by rw [Int.add_zero]; exact r53 (by omega))
    rw [Int.add_zero] at this; exact this
  have k1 := DV_cmp d4 (up0 s (by omega)) .g
  have k2 := DV_cmp d16 (up360 s (by omega)) .g
  exact ⟨d4.nn, by rw [← h8, k1.1 hr]; decide, d16.nn, by rw [← h22, k2.1 (by omega)]; decide, d28.nn, d28⟩
open Jvm.OwnF Jvm.FP.Core in
/-- a tiny number -/
theorem tiny {k : Int32} {z7 z11 z15 : UInt64} (h7 : FP.i2d k = z7) (h11 : FP.ddiv z7 (4787326403894837248 : UInt64) = z11) (h15 : FP.ddiv z11 (4787326403894837248 : UInt64) = z15) : Jvm.Free.Fl.NoNaN64 z11 ∧ Jvm.Free.Fl.NoNaN64 z15 ∧ DV k.toInt 80 z15 := by
  have hk : DV ((2 ^ 40 : Nat) : Int) 0 (4787326403894837248 : UInt64) := DV_const (by decide) (by decide) (by decide +kernel)
  have r := rng32b k
  have d11 : DV k.toInt 40 z11 := h11 ▸ h7 ▸ DV_div (DV_i2d k) hk (by decide) (by decide) (r53 (by omega)) (by simp)
  have d15 : DV k.toInt 80 z15 := h15 ▸ DV_div d11 hk (by decide) (by decide) (r53 (by omega)) (by
    rw [show (0 + 80 : Nat) = 40 + 40 from rfl, Nat.pow_add, Int.natCast_mul, Int.mul_assoc])
  exact ⟨d11.nn, d15.nn, d15⟩
open Jvm.OwnF Jvm.FP.Core in
theorem tinyrem (k : Int32) : k.toInt.tmod (360 * ((2 ^ 80 : Nat) : Int)) = k.toInt := by
  have r := rng32b k
  have e : (360 * ((2 ^ 80 : Nat) : Int)) = 435213295061266502894223360 := by decide
  rw [e]
  rcases Int.lt_or_le k.toInt 0 with h | h
  · have := Int.neg_tmod (-k.toInt) 435213295061266502894223360
    rw [Int.neg_neg] at this
    rw [this, Int.tmod_eq_emod_of_nonneg (by omega), Int.emod_eq_of_lt (by omega) (by omega)]; omega
  · rw [Int.tmod_eq_emod_of_nonneg h, Int.emod_eq_of_lt h (by omega)]
open Jvm.OwnF Jvm.FP.Core in
/-- a tiny number below 0: one turn more rounds to a whole turn -/
theorem plN {k : Int32} {d z4 z16 : UInt64} {z8 z22 : Int32} (dv : DV k.toInt 80 d) (hk : k.toInt < 0) (h4 : FP.drem d (4645040803167600640 : UInt64) = z4) (h8 : cmpValue (FP.dcmp z4 FP.dconst0) .g = z8) (h16 : FP.dadd z4 (4645040803167600640 : UInt64) = z16) (h22 : cmpValue (FP.dcmp z16 (4645040803167600640 : UInt64)) .g = z22) :
    Jvm.Free.Fl.NoNaN64 z4 ∧ z8 < 0 ∧ Jvm.Free.Fl.NoNaN64 z16 ∧ ¬ z22 < 0 := by
  have r := rng32b k
  have d4 := rem360 (by decide) dv h4
  rw [tinyrem] at d4
  have k1 := DV_cmp d4 (up0 80 (by decide)) .g
  have v4 := d4.2.2
  have v3 := (up360 0 (by decide)).2.2
  have e360 : V (4645040803167600640 : UInt64) = 360 * ((2 ^ 1074 : Nat) : Int) := k360.2.2
  -- in units
  have b1 : (V z4).natAbs ≤ 2 ^ 1025 := by rw [v4]; exact Nat.le_trans (mulU (k := 31) (by omega) _) (Nat.pow_le_pow_right (by decide) (by decide))
  have hM : 2 ^ 1074 = 2 ^ 1025 * 2 ^ 49 := by rw [← Nat.pow_add]
  have bS : (V z4 + V (4645040803167600640 : UInt64)).natAbs ≤ BIG := by
    rw [e360]
    have : 1000 * 2 ^ 1074 ≤ BIG := by unfold BIG; refine Nat.le_trans (Nat.mul_le_mul_right _ (show 1000 ≤ 2 ^ 10 by decide)) ?_; rw [← Nat.pow_add]; exact Nat.pow_le_pow_right (by decide) (by decide)
    have : 2 ^ 1025 ≤ 2 ^ 1074 := Nat.pow_le_pow_right (by decide) (by decide)
    omega
  obtain ⟨f16, v16⟩ := V_dadd' h16 d4.1 k360.1 bS
  have near := near1 bS (rep_V k360.1).u
  have r16 := (rep_V f16).u
  rw [← v16] at near
  have e16 : V z16 = V (4645040803167600640 : UInt64) := by
    have big : 2 ^ 52 * 2 ^ 1030 ≤ (V z16).natAbs := by
      have e1 : 2 ^ 52 * 2 ^ 1030 = 256 * 2 ^ 1074 := by rw [← Nat.pow_add, show (256 : Nat) = 2 ^ 8 from rfl, ← Nat.pow_add]
      rw [e1]
      rw [e360] at near
      omega
    have dv16 := g2 r16 big
    have dv360 : ((2 ^ 1030 : Nat) : Int) ∣ V (4645040803167600640 : UInt64) := by
      rw [e360]
      exact Int.dvd_trans (dvd_le (show 1030 ≤ 1074 by decide)) (Int.dvd_mul_left _ _)
    obtain ⟨q, hq⟩ := Int.dvd_sub dv16 dv360
    have small : (V z16 - V (4645040803167600640 : UInt64)).natAbs ≤ 2 * 2 ^ 1025 := by omega
    rw [hq, Int.natAbs_mul, Int.natAbs_natCast] at small
    have e2 : 2 ^ 1030 = 32 * 2 ^ 1025 := by rw [show (32 : Nat) = 2 ^ 5 from rfl, ← Nat.pow_add]
    rw [e2] at small
    have hp := Nat.two_pow_pos 1025
    have q0 : q = 0 := by
      refine Int.natAbs_eq_zero.mp (Nat.eq_zero_of_not_pos fun hqp => ?_)
      have : 32 * 2 ^ 1025 * 1 ≤ 32 * 2 ^ 1025 * q.natAbs := Nat.mul_le_mul_left _ hqp
      omega
    rw [q0, Int.mul_zero] at hq
    omega
  have k2 := cmpv_V f16 k360.1 .g
  exact ⟨d4.nn, by rw [← h8, k1.1 hk]; decide, noNaN_fin f16, by rw [← h22, k2.2.1 e16]; decide⟩
open Jvm.OwnF Jvm.FP.Core in
/-- the reference: the floored remainder -/
theorem refr {v m z118 z121 z124 : Int64} {M : Int} (hM : m.toInt = M) (hp : 0 < M) (hb : M ≤ 2 ^ 40) (h118 : v % m = z118) (h121 : z118 + m = z121) (h124 : z121 % m = z124) :
    z118.toInt = v.toInt.tmod M ∧ (z118.toInt < 0 → z124.toInt = v.toInt.tmod M + M) ∧ (¬ z118.toInt < 0 → z124.toInt = v.toInt.tmod M) := by
  have i118 : z118.toInt = v.toInt.tmod M := by rw [← h118, Int64.toInt_mod, hM]
  have lt : v.toInt.tmod M < M := Int.tmod_lt_of_pos _ hp
  have gt : -M < v.toInt.tmod M := Int.lt_tmod_of_pos _ hp
  have i121 := ladd_v h121 (by rw [i118, hM]; omega)
  rw [i118, hM] at i121
  have i124 := lrem_v h124 (by omega)
  rw [hM, i121] at i124
  refine ⟨i118, fun q => ?_, fun q => ?_⟩
  · rw [i124]; exact Int.emod_eq_of_lt (by omega) (by omega)
  · rw [i124, Int.add_emod_right]; exact Int.emod_eq_of_lt (by omega) (by omega)
theorem d1_0 : decode prog_30_method_4_code 0 = .ok (.dload_n 0, 1) := by decide +kernel
theorem d1_1 : decode prog_30_method_4_code 1 = .ok (.ldc2_w 13, 3) := by decide +kernel
theorem d1_4 : decode prog_30_method_4_code 4 = .ok (.drem, 1) := by decide +kernel
theorem d1_5 : decode prog_30_method_4_code 5 = .ok (.dstore_n 2, 1) := by decide +kernel
theorem d1_6 : decode prog_30_method_4_code 6 = .ok (.dload_n 2, 1) := by decide +kernel
theorem d1_7 : decode prog_30_method_4_code 7 = .ok (.dconst 0, 1) := by decide +kernel
theorem d1_8 : decode prog_30_method_4_code 8 = .ok (.dcmp .g, 1) := by decide +kernel
theorem d1_9 : decode prog_30_method_4_code 9 = .ok (.ifCond .ge 9, 3) := by decide +kernel
theorem d1_18 : decode prog_30_method_4_code 18 = .ok (.dload_n 2, 1) := by decide +kernel
theorem d1_19 : decode prog_30_method_4_code 19 = .ok (.ldc2_w 13, 3) := by decide +kernel
theorem d1_22 : decode prog_30_method_4_code 22 = .ok (.dcmp .g, 1) := by decide +kernel
theorem d1_23 : decode prog_30_method_4_code 23 = .ok (.ifCond .ge 9, 3) := by decide +kernel
theorem d1_26 : decode prog_30_method_4_code 26 = .ok (.dload_n 2, 1) := by decide +kernel
theorem d1_27 : decode prog_30_method_4_code 27 = .ok (.dconst 0, 1) := by decide +kernel
theorem d1_28 : decode prog_30_method_4_code 28 = .ok (.dadd, 1) := by decide +kernel
theorem d1_29 : decode prog_30_method_4_code 29 = .ok (.goto 4, 3) := by decide +kernel
theorem d1_33 : decode prog_30_method_4_code 33 = .ok (.dreturn, 1) := by decide +kernel
theorem pn_0 : plainName "com/example/lumenstand/lumenstand/scenario/Degrees" = true := by first | (simp [plainName, overriddenIn]; done) | decide +kernel
theorem ef_rm1_tf (m : MethodId) (d0 : UInt64) : entryFrame m #[(.double d0)] 4 = mkF m 0 #[.val (.double d0), .second, .unset, .unset] [] := by first | (simp [entryFrame, mkF, argsToLocals, Value.category]; done) | rfl
theorem d1_12 : decode prog_30_method_4_code 12 = .ok (.dload_n 2, 1) := by decide +kernel
theorem d1_13 : decode prog_30_method_4_code 13 = .ok (.ldc2_w 13, 3) := by decide +kernel
theorem d1_16 : decode prog_30_method_4_code 16 = .ok (.dadd, 1) := by decide +kernel
theorem d1_17 : decode prog_30_method_4_code 17 = .ok (.dstore_n 2, 1) := by decide +kernel
theorem ef_rm1_ff (m : MethodId) (d0 : UInt64) : entryFrame m #[(.double d0)] 4 = mkF m 0 #[.val (.double d0), .second, .unset, .unset] [] := by first | (simp [entryFrame, mkF, argsToLocals, Value.category]; done) | rfl
theorem d1_32 : decode prog_30_method_4_code 32 = .ok (.dconst 0, 1) := by decide +kernel
theorem ef_rm1_ft (m : MethodId) (d0 : UInt64) : entryFrame m #[(.double d0)] 4 = mkF m 0 #[.val (.double d0), .second, .unset, .unset] [] := by first | (simp [entryFrame, mkF, argsToLocals, Value.category]; done) | rfl
theorem pd_0 : parseMethodDescriptor "(D)D" = some ⟨[.double], some .double⟩ := by decide +kernel
theorem pn_1 : plainName "com/example/lumenstand/lumenstand/scenario/DegreesBearingPinLaw" = true := by first | (simp [plainName, overriddenIn]; done) | decide +kernel
theorem ef_rm0 (m : MethodId) (p0 : Int32) (p1 : Int32) (p2 : Int32) : entryFrame m #[(.int p0), (.int p1), (.int p2)] maxLocals = mkF m 0 #[.val (.int p0), .val (.int p1), .val (.int p2), .unset, .unset, .unset, .unset, .unset, .unset, .unset, .unset, .unset, .unset, .unset, .unset, .unset, .unset, .unset] [] := by first | (simp [entryFrame, mkF, argsToLocals, Value.category, maxLocals]; done) | rfl
def Q1_tf (Z : State) (d0 : UInt64) (z4 : UInt64) (z8 : Int32) (z22 : Int32) (z28 : UInt64) (h0 : Heap) (n0 : Nat) (v : Option Value) (h : Heap) (L : List Loc) : Prop := v = some (.double z28) ∧ Fr n0 L ∧ h = h0
set_option maxRecDepth 65536 in
set_option maxHeartbeats 40000000 in
theorem rm1_tf (l : Launch) (Z : State) (a0 : Array Value) (hw : ∀ d ∈ tables_1, d.before a0 Z = true) (ws : List Jvm.Cond) (d0 : UInt64) (z4 : UInt64) (z8 : Int32) (z22 : Int32) (z28 : UInt64) (h0 : Heap) (n0 : Nat) (Z0 : n0 ≤ h0.size) (hz4 : FP.drem d0 (4645040803167600640 : UInt64) = z4) (hz8 : cmpValue (FP.dcmp z4 FP.dconst0) .g = z8) (hz22 : cmpValue (FP.dcmp z4 (4645040803167600640 : UInt64)) .g = z22) (hz28 : FP.dadd z4 FP.dconst0 = z28) (nn4 : Jvm.Free.Fl.NoNaN64 z4) (br9 : ¬ z8 < (0 : Int32)) (br23 : z22 < (0 : Int32)) (nn28 : Jvm.Free.Fl.NoNaN64 z28) :
    MetFree l (⟨"com/example/lumenstand/lumenstand/scenario/Degrees", "bearing", "(D)D"⟩ : MethodName) (head1 (Jvm.Cond.code (⟨"com/example/lumenstand/lumenstand/scenario/Degrees", "bearing", "(D)D"⟩ : MethodName) prog_30_method_4_code 4 (some .double) :: ws) ({ frames := 0, cells := 0, slots := 0, locals := 0 } : Room)) (fun a U => a = #[(.double d0)] ∧ Z.Warmed39 U.vm ∧ U.heap = h0) (fun _ _ _ _ _ => True) (fun _ U o U' => ∃ v L, o = .returned v ∧ Q1_tf Z d0 z4 z8 z22 z28 h0 n0 v U'.heap L ∧ FrameEnd U o U' L ({ frames := 0, cells := 0, slots := 0, locals := 0 } : Room).cells ({ frames := 0, cells := 0, slots := 0, locals := 0 } : Room).slots) := by
  refine MetFree.of_bodySF (plainFor_of_name pn_0) hisR ?_
  intro p e s m args below meth c s₁ Bd hml0 hP hK
  obtain ⟨rfl, hZ, hh⟩ := hP
  have hx := Bd.exec
  have hby := Bd.bytes
  have hml : c.maxLocals = 4 := hml0
  have hown : s.vm.findClass "com/example/lumenstand/lumenstand/scenario/Degrees" = some m.cls := findClass_of_methodNamed Bd.named
  have hnm := (name_of_methodNamed Bd.named Bd.method).1
  have X0 : Stand p l e ({ frames := 0, cells := 0, slots := 0, locals := 0 } : Room) s m #[(.double d0)] below meth c s₁ [] 0 0 := Stand.of_body Bd
  have e0 : s₁.heap = h0 := by rw [← hh, Bd.state]; rfl
  have N0 := Fr.nil n0
  have c0 : ∀ t, Steps p.tables e below (s₁.setTop (mkF m 0 #[.val (.double d0), .second, .unset, .unset] [])) t → Steps p.tables e below (s₁.setTop (entryFrame m #[(.double d0)] 4)) t := fun t k => castTop (ef_rm1_tf m d0) k
  have c1 : ∀ t, Steps p.tables e below (s₁.setTop (mkF m 33 #[.val (.double d0), .second, .val (.double z4), .second] [(.double z28)])) t → Steps p.tables e below (s₁.setTop (entryFrame m #[(.double d0)] 4)) t := by
    intro t k
    refine c0 t ?_
    show Steps p.tables e below (s₁.setTop (mkF m 0 #[.val (.double d0), .second, .unset, .unset] [])) _
    refine XS.dloadN X0.here hx rfl (hb hby d1_0) rfl ?_
    show Steps p.tables e below (s₁.setTop (mkF m 1 #[.val (.double d0), .second, .unset, .unset] [(.double d0)])) _
    refine X0.ldc2DoubleC hx hown (mvT hZ (hw _ (List.mem_of_getElem? (i := 5) rfl))) (g := (mkF m 1 #[.val (.double d0), .second, .unset, .unset] [(.double d0)])) rfl (hb hby d1_1) _ ?_
    show Steps p.tables e below (s₁.setTop (mkF m 4 #[.val (.double d0), .second, .unset, .unset] [(.double (4645040803167600640 : UInt64)), (.double d0)])) _
    refine Jvm.OwnK.drem X0.here hx rfl (hb hby d1_4) rfl hz4 nn4 ?_
    show Steps p.tables e below (s₁.setTop (mkF m 5 #[.val (.double d0), .second, .unset, .unset] [(.double z4)])) _
    refine XS.dstoreN X0.here hx rfl (hb hby d1_5) rfl (l' := #[.val (.double d0), .second, .val (.double z4), .second]) rfl ?_
    show Steps p.tables e below (s₁.setTop (mkF m 6 #[.val (.double d0), .second, .val (.double z4), .second] [])) _
    refine XS.dloadN X0.here hx rfl (hb hby d1_6) rfl ?_
    show Steps p.tables e below (s₁.setTop (mkF m 7 #[.val (.double d0), .second, .val (.double z4), .second] [(.double z4)])) _
    refine XS.dconst0 X0.here hx rfl (hb hby d1_7) (v := FP.dconst0) rfl ?_
    show Steps p.tables e below (s₁.setTop (mkF m 8 #[.val (.double d0), .second, .val (.double z4), .second] [(.double FP.dconst0), (.double z4)])) _
    refine XS.dcmpS X0.here hx rfl (hb hby d1_8) rfl hz8 ?_
    show Steps p.tables e below (s₁.setTop (mkF m 9 #[.val (.double d0), .second, .val (.double z4), .second] [(.int z8)])) _
    refine XS.ifYes X0.here hx rfl (pc0 := 9) (pc' := 18) rfl (hb hby d1_9) rfl (Jvm.Free.XT.i0_ge_t br9) (by decide) (by decide) ?_
    show Steps p.tables e below (s₁.setTop (mkF m 18 #[.val (.double d0), .second, .val (.double z4), .second] [])) _
    refine XS.dloadN X0.here hx rfl (hb hby d1_18) rfl ?_
    show Steps p.tables e below (s₁.setTop (mkF m 19 #[.val (.double d0), .second, .val (.double z4), .second] [(.double z4)])) _
    refine X0.ldc2DoubleC hx hown (mvT hZ (hw _ (List.mem_of_getElem? (i := 5) rfl))) (g := (mkF m 19 #[.val (.double d0), .second, .val (.double z4), .second] [(.double z4)])) rfl (hb hby d1_19) _ ?_
    show Steps p.tables e below (s₁.setTop (mkF m 22 #[.val (.double d0), .second, .val (.double z4), .second] [(.double (4645040803167600640 : UInt64)), (.double z4)])) _
    refine XS.dcmpS X0.here hx rfl (hb hby d1_22) rfl hz22 ?_
    show Steps p.tables e below (s₁.setTop (mkF m 23 #[.val (.double d0), .second, .val (.double z4), .second] [(.int z22)])) _
    refine XS.ifNo X0.here hx rfl (hb hby d1_23) rfl (Jvm.Free.XT.i0_ge_f br23) ?_
    show Steps p.tables e below (s₁.setTop (mkF m 26 #[.val (.double d0), .second, .val (.double z4), .second] [])) _
    refine XS.dloadN X0.here hx rfl (hb hby d1_26) rfl ?_
    show Steps p.tables e below (s₁.setTop (mkF m 27 #[.val (.double d0), .second, .val (.double z4), .second] [(.double z4)])) _
    refine XS.dconst0 X0.here hx rfl (hb hby d1_27) (v := FP.dconst0) rfl ?_
    show Steps p.tables e below (s₁.setTop (mkF m 28 #[.val (.double d0), .second, .val (.double z4), .second] [(.double FP.dconst0), (.double z4)])) _
    refine Jvm.OwnK.dadd X0.here hx rfl (hb hby d1_28) rfl hz28 nn28 ?_
    show Steps p.tables e below (s₁.setTop (mkF m 29 #[.val (.double d0), .second, .val (.double z4), .second] [(.double z28)])) _
    refine XS.goto X0.here hx rfl (pc0 := 29) (pc' := 33) rfl (hb hby d1_29) (by decide) (by decide) ?_
    exact k
  obtain ⟨fs, hr, hrun, hended, hW, hsame⟩ := X0.leave (v := some (.double z28)) (fun h => by rw [Bd.returns] at h; cases h)
  refine ⟨_, _, c1 _ ?_, hrun, hended, _, _, rfl, ?_, ⟨_, rfl⟩, hW, hsame.mono (by decide) (by decide)⟩
  · show Steps p.tables e below (s₁.setTop (mkF m 33 #[.val (.double d0), .second, .val (.double z4), .second] [(.double z28)])) _
    exact retOut X0 hx Bd.returns rfl (Or.inr (Or.inr (Or.inl ⟨rfl, rfl, _, rfl⟩))) (hb hby d1_33) hr
  · show Q1_tf Z d0 z4 z8 z22 z28 h0 n0 _ s₁.heap _
    rw [e0]
    exact ⟨rfl, N0, rfl⟩
def Q1_ff (Z : State) (d0 : UInt64) (z4 : UInt64) (z8 : Int32) (z16 : UInt64) (z22 : Int32) (z28 : UInt64) (h0 : Heap) (n0 : Nat) (v : Option Value) (h : Heap) (L : List Loc) : Prop := v = some (.double z28) ∧ Fr n0 L ∧ h = h0
set_option maxRecDepth 65536 in
set_option maxHeartbeats 40000000 in
theorem rm1_ff (l : Launch) (Z : State) (a0 : Array Value) (hw : ∀ d ∈ tables_1, d.before a0 Z = true) (ws : List Jvm.Cond) (d0 : UInt64) (z4 : UInt64) (z8 : Int32) (z16 : UInt64) (z22 : Int32) (z28 : UInt64) (h0 : Heap) (n0 : Nat) (Z0 : n0 ≤ h0.size) (hz4 : FP.drem d0 (4645040803167600640 : UInt64) = z4) (hz8 : cmpValue (FP.dcmp z4 FP.dconst0) .g = z8) (hz16 : FP.dadd z4 (4645040803167600640 : UInt64) = z16) (hz22 : cmpValue (FP.dcmp z16 (4645040803167600640 : UInt64)) .g = z22) (hz28 : FP.dadd z16 FP.dconst0 = z28) (nn4 : Jvm.Free.Fl.NoNaN64 z4) (br9 : z8 < (0 : Int32)) (nn16 : Jvm.Free.Fl.NoNaN64 z16) (br23 : z22 < (0 : Int32)) (nn28 : Jvm.Free.Fl.NoNaN64 z28) :
    MetFree l (⟨"com/example/lumenstand/lumenstand/scenario/Degrees", "bearing", "(D)D"⟩ : MethodName) (head1 (Jvm.Cond.code (⟨"com/example/lumenstand/lumenstand/scenario/Degrees", "bearing", "(D)D"⟩ : MethodName) prog_30_method_4_code 4 (some .double) :: ws) ({ frames := 0, cells := 0, slots := 0, locals := 0 } : Room)) (fun a U => a = #[(.double d0)] ∧ Z.Warmed39 U.vm ∧ U.heap = h0) (fun _ _ _ _ _ => True) (fun _ U o U' => ∃ v L, o = .returned v ∧ Q1_ff Z d0 z4 z8 z16 z22 z28 h0 n0 v U'.heap L ∧ FrameEnd U o U' L ({ frames := 0, cells := 0, slots := 0, locals := 0 } : Room).cells ({ frames := 0, cells := 0, slots := 0, locals := 0 } : Room).slots) := by
  refine MetFree.of_bodySF (plainFor_of_name pn_0) hisR ?_
  intro p e s m args below meth c s₁ Bd hml0 hP hK
  obtain ⟨rfl, hZ, hh⟩ := hP
  have hx := Bd.exec
  have hby := Bd.bytes
  have hml : c.maxLocals = 4 := hml0
  have hown : s.vm.findClass "com/example/lumenstand/lumenstand/scenario/Degrees" = some m.cls := findClass_of_methodNamed Bd.named
  have hnm := (name_of_methodNamed Bd.named Bd.method).1
  have X0 : Stand p l e ({ frames := 0, cells := 0, slots := 0, locals := 0 } : Room) s m #[(.double d0)] below meth c s₁ [] 0 0 := Stand.of_body Bd
  have e0 : s₁.heap = h0 := by rw [← hh, Bd.state]; rfl
  have N0 := Fr.nil n0
  have c0 : ∀ t, Steps p.tables e below (s₁.setTop (mkF m 0 #[.val (.double d0), .second, .unset, .unset] [])) t → Steps p.tables e below (s₁.setTop (entryFrame m #[(.double d0)] 4)) t := fun t k => castTop (ef_rm1_ff m d0) k
  have c1 : ∀ t, Steps p.tables e below (s₁.setTop (mkF m 33 #[.val (.double d0), .second, .val (.double z16), .second] [(.double z28)])) t → Steps p.tables e below (s₁.setTop (entryFrame m #[(.double d0)] 4)) t := by
    intro t k
    refine c0 t ?_
    show Steps p.tables e below (s₁.setTop (mkF m 0 #[.val (.double d0), .second, .unset, .unset] [])) _
    refine XS.dloadN X0.here hx rfl (hb hby d1_0) rfl ?_
    show Steps p.tables e below (s₁.setTop (mkF m 1 #[.val (.double d0), .second, .unset, .unset] [(.double d0)])) _
    refine X0.ldc2DoubleC hx hown (mvT hZ (hw _ (List.mem_of_getElem? (i := 5) rfl))) (g := (mkF m 1 #[.val (.double d0), .second, .unset, .unset] [(.double d0)])) rfl (hb hby d1_1) _ ?_
    show Steps p.tables e below (s₁.setTop (mkF m 4 #[.val (.double d0), .second, .unset, .unset] [(.double (4645040803167600640 : UInt64)), (.double d0)])) _
    refine Jvm.OwnK.drem X0.here hx rfl (hb hby d1_4) rfl hz4 nn4 ?_
    show Steps p.tables e below (s₁.setTop (mkF m 5 #[.val (.double d0), .second, .unset, .unset] [(.double z4)])) _
    refine XS.dstoreN X0.here hx rfl (hb hby d1_5) rfl (l' := #[.val (.double d0), .second, .val (.double z4), .second]) rfl ?_
    show Steps p.tables e below (s₁.setTop (mkF m 6 #[.val (.double d0), .second, .val (.double z4), .second] [])) _
    refine XS.dloadN X0.here hx rfl (hb hby d1_6) rfl ?_
    show Steps p.tables e below (s₁.setTop (mkF m 7 #[.val (.double d0), .second, .val (.double z4), .second] [(.double z4)])) _
    refine XS.dconst0 X0.here hx rfl (hb hby d1_7) (v := FP.dconst0) rfl ?_
    show Steps p.tables e below (s₁.setTop (mkF m 8 #[.val (.double d0), .second, .val (.double z4), .second] [(.double FP.dconst0), (.double z4)])) _
    refine XS.dcmpS X0.here hx rfl (hb hby d1_8) rfl hz8 ?_
    show Steps p.tables e below (s₁.setTop (mkF m 9 #[.val (.double d0), .second, .val (.double z4), .second] [(.int z8)])) _
    refine XS.ifNo X0.here hx rfl (hb hby d1_9) rfl (Jvm.Free.XT.i0_ge_f br9) ?_
    show Steps p.tables e below (s₁.setTop (mkF m 12 #[.val (.double d0), .second, .val (.double z4), .second] [])) _
    refine XS.dloadN X0.here hx rfl (hb hby d1_12) rfl ?_
    show Steps p.tables e below (s₁.setTop (mkF m 13 #[.val (.double d0), .second, .val (.double z4), .second] [(.double z4)])) _
    refine X0.ldc2DoubleC hx hown (mvT hZ (hw _ (List.mem_of_getElem? (i := 5) rfl))) (g := (mkF m 13 #[.val (.double d0), .second, .val (.double z4), .second] [(.double z4)])) rfl (hb hby d1_13) _ ?_
    show Steps p.tables e below (s₁.setTop (mkF m 16 #[.val (.double d0), .second, .val (.double z4), .second] [(.double (4645040803167600640 : UInt64)), (.double z4)])) _
    refine Jvm.OwnK.dadd X0.here hx rfl (hb hby d1_16) rfl hz16 nn16 ?_
    show Steps p.tables e below (s₁.setTop (mkF m 17 #[.val (.double d0), .second, .val (.double z4), .second] [(.double z16)])) _
    refine XS.dstoreN X0.here hx rfl (hb hby d1_17) rfl (l' := #[.val (.double d0), .second, .val (.double z16), .second]) rfl ?_
    show Steps p.tables e below (s₁.setTop (mkF m 18 #[.val (.double d0), .second, .val (.double z16), .second] [])) _
    refine XS.dloadN X0.here hx rfl (hb hby d1_18) rfl ?_
    show Steps p.tables e below (s₁.setTop (mkF m 19 #[.val (.double d0), .second, .val (.double z16), .second] [(.double z16)])) _
    refine X0.ldc2DoubleC hx hown (mvT hZ (hw _ (List.mem_of_getElem? (i := 5) rfl))) (g := (mkF m 19 #[.val (.double d0), .second, .val (.double z16), .second] [(.double z16)])) rfl (hb hby d1_19) _ ?_
    show Steps p.tables e below (s₁.setTop (mkF m 22 #[.val (.double d0), .second, .val (.double z16), .second] [(.double (4645040803167600640 : UInt64)), (.double z16)])) _
    refine XS.dcmpS X0.here hx rfl (hb hby d1_22) rfl hz22 ?_
    show Steps p.tables e below (s₁.setTop (mkF m 23 #[.val (.double d0), .second, .val (.double z16), .second] [(.int z22)])) _
    refine XS.ifNo X0.here hx rfl (hb hby d1_23) rfl (Jvm.Free.XT.i0_ge_f br23) ?_
    show Steps p.tables e below (s₁.setTop (mkF m 26 #[.val (.double d0), .second, .val (.double z16), .second] [])) _
    refine XS.dloadN X0.here hx rfl (hb hby d1_26) rfl ?_
    show Steps p.tables e below (s₁.setTop (mkF m 27 #[.val (.double d0), .second, .val (.double z16), .second] [(.double z16)])) _
    refine XS.dconst0 X0.here hx rfl (hb hby d1_27) (v := FP.dconst0) rfl ?_
    show Steps p.tables e below (s₁.setTop (mkF m 28 #[.val (.double d0), .second, .val (.double z16), .second] [(.double FP.dconst0), (.double z16)])) _
    refine Jvm.OwnK.dadd X0.here hx rfl (hb hby d1_28) rfl hz28 nn28 ?_
    show Steps p.tables e below (s₁.setTop (mkF m 29 #[.val (.double d0), .second, .val (.double z16), .second] [(.double z28)])) _
    refine XS.goto X0.here hx rfl (pc0 := 29) (pc' := 33) rfl (hb hby d1_29) (by decide) (by decide) ?_
    exact k
  obtain ⟨fs, hr, hrun, hended, hW, hsame⟩ := X0.leave (v := some (.double z28)) (fun h => by rw [Bd.returns] at h; cases h)
  refine ⟨_, _, c1 _ ?_, hrun, hended, _, _, rfl, ?_, ⟨_, rfl⟩, hW, hsame.mono (by decide) (by decide)⟩
  · show Steps p.tables e below (s₁.setTop (mkF m 33 #[.val (.double d0), .second, .val (.double z16), .second] [(.double z28)])) _
    exact retOut X0 hx Bd.returns rfl (Or.inr (Or.inr (Or.inl ⟨rfl, rfl, _, rfl⟩))) (hb hby d1_33) hr
  · show Q1_ff Z d0 z4 z8 z16 z22 z28 h0 n0 _ s₁.heap _
    rw [e0]
    exact ⟨rfl, N0, rfl⟩
def Q1_ft (Z : State) (d0 : UInt64) (z4 : UInt64) (z8 : Int32) (z16 : UInt64) (z22 : Int32) (h0 : Heap) (n0 : Nat) (v : Option Value) (h : Heap) (L : List Loc) : Prop := v = some (.double FP.dconst0) ∧ Fr n0 L ∧ h = h0
set_option maxRecDepth 65536 in
set_option maxHeartbeats 40000000 in
theorem rm1_ft (l : Launch) (Z : State) (a0 : Array Value) (hw : ∀ d ∈ tables_1, d.before a0 Z = true) (ws : List Jvm.Cond) (d0 : UInt64) (z4 : UInt64) (z8 : Int32) (z16 : UInt64) (z22 : Int32) (h0 : Heap) (n0 : Nat) (Z0 : n0 ≤ h0.size) (hz4 : FP.drem d0 (4645040803167600640 : UInt64) = z4) (hz8 : cmpValue (FP.dcmp z4 FP.dconst0) .g = z8) (hz16 : FP.dadd z4 (4645040803167600640 : UInt64) = z16) (hz22 : cmpValue (FP.dcmp z16 (4645040803167600640 : UInt64)) .g = z22) (nn4 : Jvm.Free.Fl.NoNaN64 z4) (br9 : z8 < (0 : Int32)) (nn16 : Jvm.Free.Fl.NoNaN64 z16) (br23 : ¬ z22 < (0 : Int32)) :
    MetFree l (⟨"com/example/lumenstand/lumenstand/scenario/Degrees", "bearing", "(D)D"⟩ : MethodName) (head1 (Jvm.Cond.code (⟨"com/example/lumenstand/lumenstand/scenario/Degrees", "bearing", "(D)D"⟩ : MethodName) prog_30_method_4_code 4 (some .double) :: ws) ({ frames := 0, cells := 0, slots := 0, locals := 0 } : Room)) (fun a U => a = #[(.double d0)] ∧ Z.Warmed39 U.vm ∧ U.heap = h0) (fun _ _ _ _ _ => True) (fun _ U o U' => ∃ v L, o = .returned v ∧ Q1_ft Z d0 z4 z8 z16 z22 h0 n0 v U'.heap L ∧ FrameEnd U o U' L ({ frames := 0, cells := 0, slots := 0, locals := 0 } : Room).cells ({ frames := 0, cells := 0, slots := 0, locals := 0 } : Room).slots) := by
  refine MetFree.of_bodySF (plainFor_of_name pn_0) hisR ?_
  intro p e s m args below meth c s₁ Bd hml0 hP hK
  obtain ⟨rfl, hZ, hh⟩ := hP
  have hx := Bd.exec
  have hby := Bd.bytes
  have hml : c.maxLocals = 4 := hml0
  have hown : s.vm.findClass "com/example/lumenstand/lumenstand/scenario/Degrees" = some m.cls := findClass_of_methodNamed Bd.named
  have hnm := (name_of_methodNamed Bd.named Bd.method).1
  have X0 : Stand p l e ({ frames := 0, cells := 0, slots := 0, locals := 0 } : Room) s m #[(.double d0)] below meth c s₁ [] 0 0 := Stand.of_body Bd
  have e0 : s₁.heap = h0 := by rw [← hh, Bd.state]; rfl
  have N0 := Fr.nil n0
  have c0 : ∀ t, Steps p.tables e below (s₁.setTop (mkF m 0 #[.val (.double d0), .second, .unset, .unset] [])) t → Steps p.tables e below (s₁.setTop (entryFrame m #[(.double d0)] 4)) t := fun t k => castTop (ef_rm1_ft m d0) k
  have c1 : ∀ t, Steps p.tables e below (s₁.setTop (mkF m 33 #[.val (.double d0), .second, .val (.double z16), .second] [(.double FP.dconst0)])) t → Steps p.tables e below (s₁.setTop (entryFrame m #[(.double d0)] 4)) t := by
    intro t k
    refine c0 t ?_
    show Steps p.tables e below (s₁.setTop (mkF m 0 #[.val (.double d0), .second, .unset, .unset] [])) _
    refine XS.dloadN X0.here hx rfl (hb hby d1_0) rfl ?_
    show Steps p.tables e below (s₁.setTop (mkF m 1 #[.val (.double d0), .second, .unset, .unset] [(.double d0)])) _
    refine X0.ldc2DoubleC hx hown (mvT hZ (hw _ (List.mem_of_getElem? (i := 5) rfl))) (g := (mkF m 1 #[.val (.double d0), .second, .unset, .unset] [(.double d0)])) rfl (hb hby d1_1) _ ?_
    show Steps p.tables e below (s₁.setTop (mkF m 4 #[.val (.double d0), .second, .unset, .unset] [(.double (4645040803167600640 : UInt64)), (.double d0)])) _
    refine Jvm.OwnK.drem X0.here hx rfl (hb hby d1_4) rfl hz4 nn4 ?_
    show Steps p.tables e below (s₁.setTop (mkF m 5 #[.val (.double d0), .second, .unset, .unset] [(.double z4)])) _
    refine XS.dstoreN X0.here hx rfl (hb hby d1_5) rfl (l' := #[.val (.double d0), .second, .val (.double z4), .second]) rfl ?_
    show Steps p.tables e below (s₁.setTop (mkF m 6 #[.val (.double d0), .second, .val (.double z4), .second] [])) _
    refine XS.dloadN X0.here hx rfl (hb hby d1_6) rfl ?_
    show Steps p.tables e below (s₁.setTop (mkF m 7 #[.val (.double d0), .second, .val (.double z4), .second] [(.double z4)])) _
    refine XS.dconst0 X0.here hx rfl (hb hby d1_7) (v := FP.dconst0) rfl ?_
    show Steps p.tables e below (s₁.setTop (mkF m 8 #[.val (.double d0), .second, .val (.double z4), .second] [(.double FP.dconst0), (.double z4)])) _
    refine XS.dcmpS X0.here hx rfl (hb hby d1_8) rfl hz8 ?_
    show Steps p.tables e below (s₁.setTop (mkF m 9 #[.val (.double d0), .second, .val (.double z4), .second] [(.int z8)])) _
    refine XS.ifNo X0.here hx rfl (hb hby d1_9) rfl (Jvm.Free.XT.i0_ge_f br9) ?_
    show Steps p.tables e below (s₁.setTop (mkF m 12 #[.val (.double d0), .second, .val (.double z4), .second] [])) _
    refine XS.dloadN X0.here hx rfl (hb hby d1_12) rfl ?_
    show Steps p.tables e below (s₁.setTop (mkF m 13 #[.val (.double d0), .second, .val (.double z4), .second] [(.double z4)])) _
    refine X0.ldc2DoubleC hx hown (mvT hZ (hw _ (List.mem_of_getElem? (i := 5) rfl))) (g := (mkF m 13 #[.val (.double d0), .second, .val (.double z4), .second] [(.double z4)])) rfl (hb hby d1_13) _ ?_
    show Steps p.tables e below (s₁.setTop (mkF m 16 #[.val (.double d0), .second, .val (.double z4), .second] [(.double (4645040803167600640 : UInt64)), (.double z4)])) _
    refine Jvm.OwnK.dadd X0.here hx rfl (hb hby d1_16) rfl hz16 nn16 ?_
    show Steps p.tables e below (s₁.setTop (mkF m 17 #[.val (.double d0), .second, .val (.double z4), .second] [(.double z16)])) _
    refine XS.dstoreN X0.here hx rfl (hb hby d1_17) rfl (l' := #[.val (.double d0), .second, .val (.double z16), .second]) rfl ?_
    show Steps p.tables e below (s₁.setTop (mkF m 18 #[.val (.double d0), .second, .val (.double z16), .second] [])) _
    refine XS.dloadN X0.here hx rfl (hb hby d1_18) rfl ?_
    show Steps p.tables e below (s₁.setTop (mkF m 19 #[.val (.double d0), .second, .val (.double z16), .second] [(.double z16)])) _
    refine X0.ldc2DoubleC hx hown (mvT hZ (hw _ (List.mem_of_getElem? (i := 5) rfl))) (g := (mkF m 19 #[.val (.double d0), .second, .val (.double z16), .second] [(.double z16)])) rfl (hb hby d1_19) _ ?_
    show Steps p.tables e below (s₁.setTop (mkF m 22 #[.val (.double d0), .second, .val (.double z16), .second] [(.double (4645040803167600640 : UInt64)), (.double z16)])) _
    refine XS.dcmpS X0.here hx rfl (hb hby d1_22) rfl hz22 ?_
    show Steps p.tables e below (s₁.setTop (mkF m 23 #[.val (.double d0), .second, .val (.double z16), .second] [(.int z22)])) _
    refine XS.ifYes X0.here hx rfl (pc0 := 23) (pc' := 32) rfl (hb hby d1_23) rfl (Jvm.Free.XT.i0_ge_t br23) (by decide) (by decide) ?_
    show Steps p.tables e below (s₁.setTop (mkF m 32 #[.val (.double d0), .second, .val (.double z16), .second] [])) _
    refine XS.dconst0 X0.here hx rfl (hb hby d1_32) (v := FP.dconst0) rfl ?_
    exact k
  obtain ⟨fs, hr, hrun, hended, hW, hsame⟩ := X0.leave (v := some (.double FP.dconst0)) (fun h => by rw [Bd.returns] at h; cases h)
  refine ⟨_, _, c1 _ ?_, hrun, hended, _, _, rfl, ?_, ⟨_, rfl⟩, hW, hsame.mono (by decide) (by decide)⟩
  · show Steps p.tables e below (s₁.setTop (mkF m 33 #[.val (.double d0), .second, .val (.double z16), .second] [(.double FP.dconst0)])) _
    exact retOut X0 hx Bd.returns rfl (Or.inr (Or.inr (Or.inl ⟨rfl, rfl, _, rfl⟩))) (hb hby d1_33) hr
  · show Q1_ft Z d0 z4 z8 z16 z22 h0 n0 _ s₁.heap _
    rw [e0]
    exact ⟨rfl, N0, rfl⟩
def Q0 (n0 : Nat) (v : Option Value) (h : Heap) (L : List Loc) : Prop := v = some (.int 1) ∧ Fr n0 L
set_option maxRecDepth 65536 in
set_option maxHeartbeats 40000000 in
theorem rm0 (l : Launch) (Z : State) (a0 : Array Value) (hw : ∀ d ∈ tables_1, d.before a0 Z = true) (ws : List Jvm.Cond) (p0 : Int32) (p1 : Int32) (p2 : Int32)  (h0 : Heap) (n0 : Nat) (Z0 : n0 ≤ h0.size)  :
    MetFree l x (head1 (Jvm.Cond.code x code maxLocals ret :: ws) room_1) (fun a U => a = #[(.int p0), (.int p1), (.int p2)] ∧ Z.Warmed39 U.vm ∧ U.heap = h0) (fun _ _ _ _ _ => True) (fun _ U o U' => ∃ v L, o = .returned v ∧ Q0 n0 v U'.heap L ∧ FrameEnd U o U' L room_1.cells room_1.slots) := by
  refine MetFree.of_bodySF (plainFor_of_name pn_1) hisR ?_
  intro p e s m args below meth c s₁ Bd hml0 hP hK
  obtain ⟨rfl, hZ, hh⟩ := hP
  have hx := Bd.exec
  have hby := Bd.bytes
  have hml : c.maxLocals = 18 := hml0
  have hown : s.vm.findClass "com/example/lumenstand/lumenstand/scenario/DegreesBearingPinLaw" = some m.cls := findClass_of_methodNamed Bd.named
  have hnm := (name_of_methodNamed Bd.named Bd.method).1
  have X0 : Stand p l e room_1 s m #[(.int p0), (.int p1), (.int p2)] below meth c s₁ [] 0 0 := Stand.of_body Bd
  have e0 : s₁.heap = h0 := by rw [← hh, Bd.state]; rfl
  have N0 := Fr.nil n0
  have c0 : ∀ t, Steps p.tables e below (s₁.setTop (mkF m 0 #[.val (.int p0), .val (.int p1), .val (.int p2), .unset, .unset, .unset, .unset, .unset, .unset, .unset, .unset, .unset, .unset, .unset, .unset, .unset, .unset, .unset] [])) t → Steps p.tables e below (s₁.setTop (entryFrame m #[(.int p0), (.int p1), (.int p2)] maxLocals)) t := fun t k => castTop (ef_rm0 m p0 p1 p2) k
  obtain ⟨z2, hz2⟩ : ∃ z : Int32, p2 &&& (1 : Int32) = z := ⟨_, rfl⟩
  have c1 : ∀ t, Steps p.tables e below (s₁.setTop (mkF m 3 #[.val (.int p0), .val (.int p1), .val (.int p2), .unset, .unset, .unset, .unset, .unset, .unset, .unset, .unset, .unset, .unset, .unset, .unset, .unset, .unset, .unset] [(.int z2)])) t → Steps p.tables e below (s₁.setTop (entryFrame m #[(.int p0), (.int p1), (.int p2)] maxLocals)) t := by
    intro t k
    refine c0 t ?_
    show Steps p.tables e below (s₁.setTop (mkF m 0 #[.val (.int p0), .val (.int p1), .val (.int p2), .unset, .unset, .unset, .unset, .unset, .unset, .unset, .unset, .unset, .unset, .unset, .unset, .unset, .unset, .unset] [])) _
    refine XS.iloadN X0.here hx rfl (hb hby at_0) rfl ?_
    show Steps p.tables e below (s₁.setTop (mkF m 1 #[.val (.int p0), .val (.int p1), .val (.int p2), .unset, .unset, .unset, .unset, .unset, .unset, .unset, .unset, .unset, .unset, .unset, .unset, .unset, .unset, .unset] [(.int p2)])) _
    refine XS.iconst X0.here hx rfl (hb hby at_1) ?_
    show Steps p.tables e below (s₁.setTop (mkF m 2 #[.val (.int p0), .val (.int p1), .val (.int p2), .unset, .unset, .unset, .unset, .unset, .unset, .unset, .unset, .unset, .unset, .unset, .unset, .unset, .unset, .unset] [(.int (1 : Int32)), (.int p2)])) _
    refine Jvm.OwnK.iand X0.here hx rfl (hb hby at_2) rfl hz2 ?_
    exact k
  by_cases hb3 : z2 = (0 : Int32)
  · skip
    obtain ⟨z56, hz56⟩ : ∃ z : Int32, p1 &&& (63 : Int32) = z := ⟨_, rfl⟩
    have c2 : ∀ t, Steps p.tables e below (s₁.setTop (mkF m 61 #[.val (.int p0), .val (.int p1), .val (.int p2), .val (.int z56), .unset, .unset, .unset, .unset, .unset, .unset, .unset, .unset, .unset, .unset, .unset, .unset, .unset, .unset] [(.int (32 : Int32)), (.int z56)])) t → Steps p.tables e below (s₁.setTop (entryFrame m #[(.int p0), (.int p1), (.int p2)] maxLocals)) t := by
      intro t k
      refine c1 t ?_
      show Steps p.tables e below (s₁.setTop (mkF m 3 #[.val (.int p0), .val (.int p1), .val (.int p2), .unset, .unset, .unset, .unset, .unset, .unset, .unset, .unset, .unset, .unset, .unset, .unset, .unset, .unset, .unset] [(.int z2)])) _
      refine XS.ifYes X0.here hx rfl (pc0 := 3) (pc' := 53) rfl (hb hby at_3) rfl (Jvm.Free.XT.i0_eq_t hb3) (by decide) (by decide) ?_
      show Steps p.tables e below (s₁.setTop (mkF m 53 #[.val (.int p0), .val (.int p1), .val (.int p2), .unset, .unset, .unset, .unset, .unset, .unset, .unset, .unset, .unset, .unset, .unset, .unset, .unset, .unset, .unset] [])) _
      refine XS.iloadN X0.here hx rfl (hb hby at_53) rfl ?_
      show Steps p.tables e below (s₁.setTop (mkF m 54 #[.val (.int p0), .val (.int p1), .val (.int p2), .unset, .unset, .unset, .unset, .unset, .unset, .unset, .unset, .unset, .unset, .unset, .unset, .unset, .unset, .unset] [(.int p1)])) _
      refine XS.bipush X0.here hx rfl (hb hby at_54) ?_
      show Steps p.tables e below (s₁.setTop (mkF m 56 #[.val (.int p0), .val (.int p1), .val (.int p2), .unset, .unset, .unset, .unset, .unset, .unset, .unset, .unset, .unset, .unset, .unset, .unset, .unset, .unset, .unset] [(.int (63 : Int32)), (.int p1)])) _
      refine Jvm.OwnK.iand X0.here hx rfl (hb hby at_56) rfl hz56 ?_
      show Steps p.tables e below (s₁.setTop (mkF m 57 #[.val (.int p0), .val (.int p1), .val (.int p2), .unset, .unset, .unset, .unset, .unset, .unset, .unset, .unset, .unset, .unset, .unset, .unset, .unset, .unset, .unset] [(.int z56)])) _
      refine XS.istoreN X0.here hx rfl (hb hby at_57) rfl (l' := #[.val (.int p0), .val (.int p1), .val (.int p2), .val (.int z56), .unset, .unset, .unset, .unset, .unset, .unset, .unset, .unset, .unset, .unset, .unset, .unset, .unset, .unset]) rfl ?_
      show Steps p.tables e below (s₁.setTop (mkF m 58 #[.val (.int p0), .val (.int p1), .val (.int p2), .val (.int z56), .unset, .unset, .unset, .unset, .unset, .unset, .unset, .unset, .unset, .unset, .unset, .unset, .unset, .unset] [])) _
      refine XS.iloadN X0.here hx rfl (hb hby at_58) rfl ?_
      show Steps p.tables e below (s₁.setTop (mkF m 59 #[.val (.int p0), .val (.int p1), .val (.int p2), .val (.int z56), .unset, .unset, .unset, .unset, .unset, .unset, .unset, .unset, .unset, .unset, .unset, .unset, .unset, .unset] [(.int z56)])) _
      refine XS.bipush X0.here hx rfl (hb hby at_59) ?_
      exact k
    by_cases hb61 : z56 < (32 : Int32)
    · skip
      obtain ⟨z65, hz65⟩ : ∃ z : Int64, p0.toInt64 = z := ⟨_, rfl⟩
      obtain ⟨z67, hz67⟩ : ∃ z : Int64, z65 <<< (z56 &&& 0x3f).toInt64 = z := ⟨_, rfl⟩
      obtain ⟨z108, hz108⟩ : ∃ z : UInt64, FP.l2d z67 = z := ⟨_, rfl⟩
      obtain ⟨z111, hz111⟩ : ∃ z : UInt64, FP.ddiv z108 FP.dconst1 = z := ⟨_, rfl⟩
      obtain ⟨z118, hz118⟩ : ∃ z : Int64, z67 % (360 : Int64) = z := ⟨_, rfl⟩
      obtain ⟨z121, hz121⟩ : ∃ z : Int64, z118 + (360 : Int64) = z := ⟨_, rfl⟩
      obtain ⟨z124, hz124⟩ : ∃ z : Int64, z121 % (360 : Int64) = z := ⟨_, rfl⟩
      obtain ⟨z129, hz129⟩ : ∃ z : UInt64, FP.l2d z124 = z := ⟨_, rfl⟩
      obtain ⟨z132, hz132⟩ : ∃ z : UInt64, FP.ddiv z129 FP.dconst1 = z := ⟨_, rfl⟩
      have m56 := c_mask p1 63 6 (by decide) (by decide)
      rw [hz56, show ((2 ^ 6 : Nat) : Int) = 64 by decide] at m56
      have lt32 : z56.toInt < 32 := by rw [Int32.lt_iff_toInt_lt] at hb61; exact hb61
      obtain ⟨ee, he⟩ : ∃ e : Nat, z56.toInt = (e : Int) := ⟨z56.toInt.toNat, by omega⟩
      have pe := Jvm.OwnF.p2le (show ee ≤ 31 by omega)
      have be : (p0.toInt * ((2 ^ ee : Nat) : Int)).natAbs ≤ 2147483648 * 2147483648 := Jvm.OwnF.mul_bd (Jvm.OwnF.rng32b p0) (by rw [Int.natAbs_natCast]; omega)
      have i67 := Jvm.OwnF.lshl_v (k := ee) hz67 he (by omega) (by rw [Jvm.OwnF.i2l_v hz65]; omega)
      rw [Jvm.OwnF.i2l_v hz65] at i67
      have rv : Jvm.OwnF.R53 z67.toInt := by rw [i67]; exact Jvm.OwnF.R53.mulp (by have := Jvm.OwnF.rng32b p0; omega) (by omega)
      obtain ⟨s, hs, dsc, hM⟩ : ∃ s : Nat, s ≤ 31 ∧ Jvm.OwnF.DV ((2 ^ s : Nat) : Int) 0 FP.dconst1 ∧ (360 : Int64).toInt = 360 * ((2 ^ s : Nat) : Int) := ⟨0, by decide, Jvm.OwnF.DV_1, by decide⟩
      have ps := Nat.two_pow_pos s
      have pe31 := Jvm.OwnF.p2le hs
      have dd : Jvm.OwnF.DV z67.toInt s z111 := hz111 ▸ hz108 ▸ Jvm.OwnF.DV_div (Jvm.OwnF.DV_l2d rv) dsc (by omega) (by omega) rv (by rw [Nat.zero_add]; simp)
      have nn111 := dd.nn
      have hMp : 0 < 360 * ((2 ^ s : Nat) : Int) := by omega
      have nz118 : ¬ (360 : Int64) = 0 := fun q => by rw [q, show (0 : Int64).toInt = 0 by decide] at hM; omega
      have nz124 := nz118
      obtain ⟨R1, R2, R3⟩ := refr hM hMp (by omega) hz118 hz121 hz124
      have lt : z67.toInt.tmod (360 * ((2 ^ s : Nat) : Int)) < 360 * ((2 ^ s : Nat) : Int) := Int.tmod_lt_of_pos _ hMp
      have gt : -(360 * ((2 ^ s : Nat) : Int)) < z67.toInt.tmod (360 * ((2 ^ s : Nat) : Int)) := Int.lt_tmod_of_pos _ hMp
      have bz : z124.toInt.natAbs ≤ 2 ^ 53 := by
        by_cases q : z118.toInt < 0
        · rw [R2 q]; omega
        · rw [R3 q]; omega
      have de : Jvm.OwnF.DV z124.toInt s z132 := hz132 ▸ hz129 ▸ Jvm.OwnF.DV_div (Jvm.OwnF.DV_l2d (Jvm.OwnF.r53 bz)) dsc (by omega) (by omega) (Jvm.OwnF.r53 bz) (by rw [Nat.zero_add]; simp)
      have nn132 := de.nn
      have c3 : ∀ t, Steps p.tables e below (s₁.setTop (mkF m 137 #[.val (.int p0), .val (.int p1), .val (.int p2), .val (.int z56), .val (.long z67), .second, .val (.long (360 : Int64)), .second, .val (.double FP.dconst1), .second, .val (.double z111), .second, .val (.long z124), .second, .val (.double z132), .second, .unset, .unset] [(.double z111)])) t → Steps p.tables e below (s₁.setTop (entryFrame m #[(.int p0), (.int p1), (.int p2)] maxLocals)) t := by
        intro t k
        refine c2 t ?_
        show Steps p.tables e below (s₁.setTop (mkF m 61 #[.val (.int p0), .val (.int p1), .val (.int p2), .val (.int z56), .unset, .unset, .unset, .unset, .unset, .unset, .unset, .unset, .unset, .unset, .unset, .unset, .unset, .unset] [(.int (32 : Int32)), (.int z56)])) _
        refine XS.icmpNo X0.here hx rfl (hb hby at_61) rfl (Jvm.Free.XT.ii_ge_f hb61) ?_
        show Steps p.tables e below (s₁.setTop (mkF m 64 #[.val (.int p0), .val (.int p1), .val (.int p2), .val (.int z56), .unset, .unset, .unset, .unset, .unset, .unset, .unset, .unset, .unset, .unset, .unset, .unset, .unset, .unset] [])) _
        refine XS.iloadN X0.here hx rfl (hb hby at_64) rfl ?_
        show Steps p.tables e below (s₁.setTop (mkF m 65 #[.val (.int p0), .val (.int p1), .val (.int p2), .val (.int z56), .unset, .unset, .unset, .unset, .unset, .unset, .unset, .unset, .unset, .unset, .unset, .unset, .unset, .unset] [(.int p0)])) _
        refine Jvm.OwnK.i2l X0.here hx rfl (hb hby at_65) rfl hz65 ?_
        show Steps p.tables e below (s₁.setTop (mkF m 66 #[.val (.int p0), .val (.int p1), .val (.int p2), .val (.int z56), .unset, .unset, .unset, .unset, .unset, .unset, .unset, .unset, .unset, .unset, .unset, .unset, .unset, .unset] [(.long z65)])) _
        refine XS.iloadN X0.here hx rfl (hb hby at_66) rfl ?_
        show Steps p.tables e below (s₁.setTop (mkF m 67 #[.val (.int p0), .val (.int p1), .val (.int p2), .val (.int z56), .unset, .unset, .unset, .unset, .unset, .unset, .unset, .unset, .unset, .unset, .unset, .unset, .unset, .unset] [(.int z56), (.long z65)])) _
        refine Jvm.OwnK.lshl X0.here hx rfl (hb hby at_67) rfl hz67 ?_
        show Steps p.tables e below (s₁.setTop (mkF m 68 #[.val (.int p0), .val (.int p1), .val (.int p2), .val (.int z56), .unset, .unset, .unset, .unset, .unset, .unset, .unset, .unset, .unset, .unset, .unset, .unset, .unset, .unset] [(.long z67)])) _
        refine XS.lstore X0.here hx rfl (hb hby at_68) rfl (l' := #[.val (.int p0), .val (.int p1), .val (.int p2), .val (.int z56), .val (.long z67), .second, .unset, .unset, .unset, .unset, .unset, .unset, .unset, .unset, .unset, .unset, .unset, .unset]) rfl ?_
        show Steps p.tables e below (s₁.setTop (mkF m 70 #[.val (.int p0), .val (.int p1), .val (.int p2), .val (.int z56), .val (.long z67), .second, .unset, .unset, .unset, .unset, .unset, .unset, .unset, .unset, .unset, .unset, .unset, .unset] [])) _
        refine X0.ldc2Long hx hown (mvT hZ (hw _ (List.mem_of_getElem? (i := 0) rfl))) (g := (mkF m 70 #[.val (.int p0), .val (.int p1), .val (.int p2), .val (.int z56), .val (.long z67), .second, .unset, .unset, .unset, .unset, .unset, .unset, .unset, .unset, .unset, .unset, .unset, .unset] [])) rfl (hb hby at_70) _ ?_
        show Steps p.tables e below (s₁.setTop (mkF m 73 #[.val (.int p0), .val (.int p1), .val (.int p2), .val (.int z56), .val (.long z67), .second, .unset, .unset, .unset, .unset, .unset, .unset, .unset, .unset, .unset, .unset, .unset, .unset] [(.long (360 : Int64))])) _
        refine XS.lstore X0.here hx rfl (hb hby at_73) rfl (l' := #[.val (.int p0), .val (.int p1), .val (.int p2), .val (.int z56), .val (.long z67), .second, .val (.long (360 : Int64)), .second, .unset, .unset, .unset, .unset, .unset, .unset, .unset, .unset, .unset, .unset]) rfl ?_
        show Steps p.tables e below (s₁.setTop (mkF m 75 #[.val (.int p0), .val (.int p1), .val (.int p2), .val (.int z56), .val (.long z67), .second, .val (.long (360 : Int64)), .second, .unset, .unset, .unset, .unset, .unset, .unset, .unset, .unset, .unset, .unset] [])) _
        refine XS.dconst1 X0.here hx rfl (hb hby at_75) (v := FP.dconst1) rfl ?_
        show Steps p.tables e below (s₁.setTop (mkF m 76 #[.val (.int p0), .val (.int p1), .val (.int p2), .val (.int z56), .val (.long z67), .second, .val (.long (360 : Int64)), .second, .unset, .unset, .unset, .unset, .unset, .unset, .unset, .unset, .unset, .unset] [(.double FP.dconst1)])) _
        refine XS.dstore X0.here hx rfl (hb hby at_76) rfl (l' := #[.val (.int p0), .val (.int p1), .val (.int p2), .val (.int z56), .val (.long z67), .second, .val (.long (360 : Int64)), .second, .val (.double FP.dconst1), .second, .unset, .unset, .unset, .unset, .unset, .unset, .unset, .unset]) rfl ?_
        show Steps p.tables e below (s₁.setTop (mkF m 78 #[.val (.int p0), .val (.int p1), .val (.int p2), .val (.int z56), .val (.long z67), .second, .val (.long (360 : Int64)), .second, .val (.double FP.dconst1), .second, .unset, .unset, .unset, .unset, .unset, .unset, .unset, .unset] [])) _
        refine XS.goto X0.here hx rfl (pc0 := 78) (pc' := 106) rfl (hb hby at_78) (by decide) (by decide) ?_
        show Steps p.tables e below (s₁.setTop (mkF m 106 #[.val (.int p0), .val (.int p1), .val (.int p2), .val (.int z56), .val (.long z67), .second, .val (.long (360 : Int64)), .second, .val (.double FP.dconst1), .second, .unset, .unset, .unset, .unset, .unset, .unset, .unset, .unset] [])) _
        refine XS.lload X0.here hx rfl (hb hby at_106) rfl ?_
        show Steps p.tables e below (s₁.setTop (mkF m 108 #[.val (.int p0), .val (.int p1), .val (.int p2), .val (.int z56), .val (.long z67), .second, .val (.long (360 : Int64)), .second, .val (.double FP.dconst1), .second, .unset, .unset, .unset, .unset, .unset, .unset, .unset, .unset] [(.long z67)])) _
        refine XS.l2dS X0.here hx rfl (hb hby at_108) rfl hz108 ?_
        show Steps p.tables e below (s₁.setTop (mkF m 109 #[.val (.int p0), .val (.int p1), .val (.int p2), .val (.int z56), .val (.long z67), .second, .val (.long (360 : Int64)), .second, .val (.double FP.dconst1), .second, .unset, .unset, .unset, .unset, .unset, .unset, .unset, .unset] [(.double z108)])) _
        refine XS.dload X0.here hx rfl (hb hby at_109) rfl ?_
        show Steps p.tables e below (s₁.setTop (mkF m 111 #[.val (.int p0), .val (.int p1), .val (.int p2), .val (.int z56), .val (.long z67), .second, .val (.long (360 : Int64)), .second, .val (.double FP.dconst1), .second, .unset, .unset, .unset, .unset, .unset, .unset, .unset, .unset] [(.double FP.dconst1), (.double z108)])) _
        refine Jvm.OwnK.ddiv X0.here hx rfl (hb hby at_111) rfl hz111 nn111 ?_
        show Steps p.tables e below (s₁.setTop (mkF m 112 #[.val (.int p0), .val (.int p1), .val (.int p2), .val (.int z56), .val (.long z67), .second, .val (.long (360 : Int64)), .second, .val (.double FP.dconst1), .second, .unset, .unset, .unset, .unset, .unset, .unset, .unset, .unset] [(.double z111)])) _
        refine XS.dstore X0.here hx rfl (hb hby at_112) rfl (l' := #[.val (.int p0), .val (.int p1), .val (.int p2), .val (.int z56), .val (.long z67), .second, .val (.long (360 : Int64)), .second, .val (.double FP.dconst1), .second, .val (.double z111), .second, .unset, .unset, .unset, .unset, .unset, .unset]) rfl ?_
        show Steps p.tables e below (s₁.setTop (mkF m 114 #[.val (.int p0), .val (.int p1), .val (.int p2), .val (.int z56), .val (.long z67), .second, .val (.long (360 : Int64)), .second, .val (.double FP.dconst1), .second, .val (.double z111), .second, .unset, .unset, .unset, .unset, .unset, .unset] [])) _
        refine XS.lload X0.here hx rfl (hb hby at_114) rfl ?_
        show Steps p.tables e below (s₁.setTop (mkF m 116 #[.val (.int p0), .val (.int p1), .val (.int p2), .val (.int z56), .val (.long z67), .second, .val (.long (360 : Int64)), .second, .val (.double FP.dconst1), .second, .val (.double z111), .second, .unset, .unset, .unset, .unset, .unset, .unset] [(.long z67)])) _
        refine XS.lload X0.here hx rfl (hb hby at_116) rfl ?_
        show Steps p.tables e below (s₁.setTop (mkF m 118 #[.val (.int p0), .val (.int p1), .val (.int p2), .val (.int z56), .val (.long z67), .second, .val (.long (360 : Int64)), .second, .val (.double FP.dconst1), .second, .val (.double z111), .second, .unset, .unset, .unset, .unset, .unset, .unset] [(.long (360 : Int64)), (.long z67)])) _
        refine Jvm.OwnK.lrem X0.here hx rfl (hb hby at_118) rfl (by decide) hz118 ?_
        show Steps p.tables e below (s₁.setTop (mkF m 119 #[.val (.int p0), .val (.int p1), .val (.int p2), .val (.int z56), .val (.long z67), .second, .val (.long (360 : Int64)), .second, .val (.double FP.dconst1), .second, .val (.double z111), .second, .unset, .unset, .unset, .unset, .unset, .unset] [(.long z118)])) _
        refine XS.lload X0.here hx rfl (hb hby at_119) rfl ?_
        show Steps p.tables e below (s₁.setTop (mkF m 121 #[.val (.int p0), .val (.int p1), .val (.int p2), .val (.int z56), .val (.long z67), .second, .val (.long (360 : Int64)), .second, .val (.double FP.dconst1), .second, .val (.double z111), .second, .unset, .unset, .unset, .unset, .unset, .unset] [(.long (360 : Int64)), (.long z118)])) _
        refine Jvm.OwnK.ladd X0.here hx rfl (hb hby at_121) rfl hz121 ?_
        show Steps p.tables e below (s₁.setTop (mkF m 122 #[.val (.int p0), .val (.int p1), .val (.int p2), .val (.int z56), .val (.long z67), .second, .val (.long (360 : Int64)), .second, .val (.double FP.dconst1), .second, .val (.double z111), .second, .unset, .unset, .unset, .unset, .unset, .unset] [(.long z121)])) _
        refine XS.lload X0.here hx rfl (hb hby at_122) rfl ?_
        show Steps p.tables e below (s₁.setTop (mkF m 124 #[.val (.int p0), .val (.int p1), .val (.int p2), .val (.int z56), .val (.long z67), .second, .val (.long (360 : Int64)), .second, .val (.double FP.dconst1), .second, .val (.double z111), .second, .unset, .unset, .unset, .unset, .unset, .unset] [(.long (360 : Int64)), (.long z121)])) _
        refine Jvm.OwnK.lrem X0.here hx rfl (hb hby at_124) rfl (by decide) hz124 ?_
        show Steps p.tables e below (s₁.setTop (mkF m 125 #[.val (.int p0), .val (.int p1), .val (.int p2), .val (.int z56), .val (.long z67), .second, .val (.long (360 : Int64)), .second, .val (.double FP.dconst1), .second, .val (.double z111), .second, .unset, .unset, .unset, .unset, .unset, .unset] [(.long z124)])) _
        refine XS.lstore X0.here hx rfl (hb hby at_125) rfl (l' := #[.val (.int p0), .val (.int p1), .val (.int p2), .val (.int z56), .val (.long z67), .second, .val (.long (360 : Int64)), .second, .val (.double FP.dconst1), .second, .val (.double z111), .second, .val (.long z124), .second, .unset, .unset, .unset, .unset]) rfl ?_
        show Steps p.tables e below (s₁.setTop (mkF m 127 #[.val (.int p0), .val (.int p1), .val (.int p2), .val (.int z56), .val (.long z67), .second, .val (.long (360 : Int64)), .second, .val (.double FP.dconst1), .second, .val (.double z111), .second, .val (.long z124), .second, .unset, .unset, .unset, .unset] [])) _
        refine XS.lload X0.here hx rfl (hb hby at_127) rfl ?_
        show Steps p.tables e below (s₁.setTop (mkF m 129 #[.val (.int p0), .val (.int p1), .val (.int p2), .val (.int z56), .val (.long z67), .second, .val (.long (360 : Int64)), .second, .val (.double FP.dconst1), .second, .val (.double z111), .second, .val (.long z124), .second, .unset, .unset, .unset, .unset] [(.long z124)])) _
        refine XS.l2dS X0.here hx rfl (hb hby at_129) rfl hz129 ?_
        show Steps p.tables e below (s₁.setTop (mkF m 130 #[.val (.int p0), .val (.int p1), .val (.int p2), .val (.int z56), .val (.long z67), .second, .val (.long (360 : Int64)), .second, .val (.double FP.dconst1), .second, .val (.double z111), .second, .val (.long z124), .second, .unset, .unset, .unset, .unset] [(.double z129)])) _
        refine XS.dload X0.here hx rfl (hb hby at_130) rfl ?_
        show Steps p.tables e below (s₁.setTop (mkF m 132 #[.val (.int p0), .val (.int p1), .val (.int p2), .val (.int z56), .val (.long z67), .second, .val (.long (360 : Int64)), .second, .val (.double FP.dconst1), .second, .val (.double z111), .second, .val (.long z124), .second, .unset, .unset, .unset, .unset] [(.double FP.dconst1), (.double z129)])) _
        refine Jvm.OwnK.ddiv X0.here hx rfl (hb hby at_132) rfl hz132 nn132 ?_
        show Steps p.tables e below (s₁.setTop (mkF m 133 #[.val (.int p0), .val (.int p1), .val (.int p2), .val (.int z56), .val (.long z67), .second, .val (.long (360 : Int64)), .second, .val (.double FP.dconst1), .second, .val (.double z111), .second, .val (.long z124), .second, .unset, .unset, .unset, .unset] [(.double z132)])) _
        refine XS.dstore X0.here hx rfl (hb hby at_133) rfl (l' := #[.val (.int p0), .val (.int p1), .val (.int p2), .val (.int z56), .val (.long z67), .second, .val (.long (360 : Int64)), .second, .val (.double FP.dconst1), .second, .val (.double z111), .second, .val (.long z124), .second, .val (.double z132), .second, .unset, .unset]) rfl ?_
        show Steps p.tables e below (s₁.setTop (mkF m 135 #[.val (.int p0), .val (.int p1), .val (.int p2), .val (.int z56), .val (.long z67), .second, .val (.long (360 : Int64)), .second, .val (.double FP.dconst1), .second, .val (.double z111), .second, .val (.long z124), .second, .val (.double z132), .second, .unset, .unset] [])) _
        refine XS.dload X0.here hx rfl (hb hby at_135) rfl ?_
        exact k
      by_cases hs137 : z118.toInt < 0
      · skip
        obtain ⟨c137_z4, hc137_z4⟩ : ∃ z : UInt64, FP.drem z111 (4645040803167600640 : UInt64) = z := ⟨_, rfl⟩
        obtain ⟨c137_z8, hc137_z8⟩ : ∃ z : Int32, cmpValue (FP.dcmp c137_z4 FP.dconst0) .g = z := ⟨_, rfl⟩
        obtain ⟨c137_z16, hc137_z16⟩ : ∃ z : UInt64, FP.dadd c137_z4 (4645040803167600640 : UInt64) = z := ⟨_, rfl⟩
        obtain ⟨c137_z22, hc137_z22⟩ : ∃ z : Int32, cmpValue (FP.dcmp c137_z16 (4645040803167600640 : UInt64)) .g = z := ⟨_, rfl⟩
        obtain ⟨c137_z28, hc137_z28⟩ : ∃ z : UInt64, FP.dadd c137_z16 FP.dconst0 = z := ⟨_, rfl⟩
        obtain ⟨z146, hz146⟩ : ∃ z : Int32, cmpValue (FP.dcmp c137_z28 z132) .l = z := ⟨_, rfl⟩
        obtain ⟨c137_nn4, c137_br9, c137_nn16, c137_br23, c137_nn28, dr⟩ := plF hs dd hc137_z4 (by rw [← R1]; exact hs137) hc137_z8 hc137_z16 hc137_z22 hc137_z28
        have br147 : z146 = 0 := hz146.symm.trans (Jvm.OwnF.DV_eq0 dr (de.of_eq (R2 hs137)) _)
        obtain ⟨_, _, ⟨T4, L4, k4, n4⟩, -, X4, ⟨Lc4, hQ4, ql4, qy4, qz4⟩, st4⟩ := Jvm.LawKit.callS X0 hx (y := (⟨"com/example/lumenstand/lumenstand/scenario/Degrees", "bearing", "(D)D"⟩ : MethodName)) hown (mvT hZ (hw _ (List.mem_of_getElem? (i := 1) rfl))) (mvT hZ (hw _ (List.mem_of_getElem? (i := 2) rfl))) (mvT hZ (hw _ (List.mem_of_getElem? (i := 3) rfl))) (mvT hZ (hw _ (List.mem_of_getElem? (i := 4) rfl))) (by decide) (backOf (W := 0) (rm1_ff l Z a0 hw [] z111 c137_z4 c137_z8 c137_z16 c137_z22 c137_z28 h0 n0 Z0 hc137_z4 hc137_z8 hc137_z16 hc137_z22 hc137_z28 c137_nn4 c137_br9 c137_nn16 c137_br23 c137_nn28) hZ (hw _ (List.mem_of_getElem? (i := 4) rfl)) (hw _ (List.mem_of_getElem? (i := 3) rfl)) (by decide) (by decide)) (g := (mkF m 137 #[.val (.int p0), .val (.int p1), .val (.int p2), .val (.int z56), .val (.long z67), .second, .val (.long (360 : Int64)), .second, .val (.double FP.dconst1), .second, .val (.double z111), .second, .val (.long z124), .second, .val (.double z132), .second, .unset, .unset] [(.double z111)])) rfl (by rw [hml]; rfl) (argsL := [(.double z111)]) (rest := []) (lenOf pd_0 rfl) rfl (by show 2 * 0 + _ ≤ _; exact Nat.le_of_eq rfl) (hb hby at_137) (fun _ _ => ⟨rfl, e0, (by decide : 0 + 0 ≤ _), (by decide : 0 + 0 ≤ _)⟩)
        dsimp only [Pt.U, Pt.locs, Pt.cells, Pt.slots] at X4 ql4 qy4 qz4 st4 hQ4
        subst ql4 qy4 qz4
        obtain ⟨rfl, N4q, e4⟩ := hQ4
        have N4 := Fr.app N0 N4q
        have c5 : ∀ t, Steps p.tables e below (T4.setTop (mkF m 155 #[.val (.int p0), .val (.int p1), .val (.int p2), .val (.int z56), .val (.long z67), .second, .val (.long (360 : Int64)), .second, .val (.double FP.dconst1), .second, .val (.double z111), .second, .val (.long z124), .second, .val (.double z132), .second, .val (.double c137_z28), .second] [(.int (1 : Int32))])) t → Steps p.tables e below (s₁.setTop (entryFrame m #[(.int p0), (.int p1), (.int p2)] maxLocals)) t := by
          intro t k
          refine c3 t ?_
          show Steps p.tables e below (s₁.setTop (mkF m 137 #[.val (.int p0), .val (.int p1), .val (.int p2), .val (.int z56), .val (.long z67), .second, .val (.long (360 : Int64)), .second, .val (.double FP.dconst1), .second, .val (.double z111), .second, .val (.long z124), .second, .val (.double z132), .second, .unset, .unset] [(.double z111)])) _
          refine st4 _ ?_
          show Steps p.tables e below (T4.setTop (mkF m 140 #[.val (.int p0), .val (.int p1), .val (.int p2), .val (.int z56), .val (.long z67), .second, .val (.long (360 : Int64)), .second, .val (.double FP.dconst1), .second, .val (.double z111), .second, .val (.long z124), .second, .val (.double z132), .second, .unset, .unset] [(.double c137_z28)])) _
          refine XS.dstore X4.here hx rfl (hb hby at_140) rfl (l' := #[.val (.int p0), .val (.int p1), .val (.int p2), .val (.int z56), .val (.long z67), .second, .val (.long (360 : Int64)), .second, .val (.double FP.dconst1), .second, .val (.double z111), .second, .val (.long z124), .second, .val (.double z132), .second, .val (.double c137_z28), .second]) rfl ?_
          show Steps p.tables e below (T4.setTop (mkF m 142 #[.val (.int p0), .val (.int p1), .val (.int p2), .val (.int z56), .val (.long z67), .second, .val (.long (360 : Int64)), .second, .val (.double FP.dconst1), .second, .val (.double z111), .second, .val (.long z124), .second, .val (.double z132), .second, .val (.double c137_z28), .second] [])) _
          refine XS.dload X4.here hx rfl (hb hby at_142) rfl ?_
          show Steps p.tables e below (T4.setTop (mkF m 144 #[.val (.int p0), .val (.int p1), .val (.int p2), .val (.int z56), .val (.long z67), .second, .val (.long (360 : Int64)), .second, .val (.double FP.dconst1), .second, .val (.double z111), .second, .val (.long z124), .second, .val (.double z132), .second, .val (.double c137_z28), .second] [(.double c137_z28)])) _
          refine XS.dload X4.here hx rfl (hb hby at_144) rfl ?_
          show Steps p.tables e below (T4.setTop (mkF m 146 #[.val (.int p0), .val (.int p1), .val (.int p2), .val (.int z56), .val (.long z67), .second, .val (.long (360 : Int64)), .second, .val (.double FP.dconst1), .second, .val (.double z111), .second, .val (.long z124), .second, .val (.double z132), .second, .val (.double c137_z28), .second] [(.double z132), (.double c137_z28)])) _
          refine XS.dcmpS X4.here hx rfl (hb hby at_146) rfl hz146 ?_
          show Steps p.tables e below (T4.setTop (mkF m 147 #[.val (.int p0), .val (.int p1), .val (.int p2), .val (.int z56), .val (.long z67), .second, .val (.long (360 : Int64)), .second, .val (.double FP.dconst1), .second, .val (.double z111), .second, .val (.long z124), .second, .val (.double z132), .second, .val (.double c137_z28), .second] [(.int z146)])) _
          refine XS.ifNo X4.here hx rfl (hb hby at_147) rfl (Jvm.Free.XT.i0_ne_f br147) ?_
          show Steps p.tables e below (T4.setTop (mkF m 150 #[.val (.int p0), .val (.int p1), .val (.int p2), .val (.int z56), .val (.long z67), .second, .val (.long (360 : Int64)), .second, .val (.double FP.dconst1), .second, .val (.double z111), .second, .val (.long z124), .second, .val (.double z132), .second, .val (.double c137_z28), .second] [])) _
          refine XS.iconst X4.here hx rfl (hb hby at_150) ?_
          show Steps p.tables e below (T4.setTop (mkF m 151 #[.val (.int p0), .val (.int p1), .val (.int p2), .val (.int z56), .val (.long z67), .second, .val (.long (360 : Int64)), .second, .val (.double FP.dconst1), .second, .val (.double z111), .second, .val (.long z124), .second, .val (.double z132), .second, .val (.double c137_z28), .second] [(.int (1 : Int32))])) _
          refine XS.goto X4.here hx rfl (pc0 := 151) (pc' := 155) rfl (hb hby at_151) (by decide) (by decide) ?_
          exact k
        obtain ⟨fs, hr, hrun, hended, hW, hsame⟩ := X4.leave (v := some (.int (1 : Int32))) (fun h => by rw [Bd.returns] at h; cases h)
        refine ⟨_, _, c5 _ ?_, hrun, hended, _, _, rfl, ?_, ⟨_, rfl⟩, hW, hsame.mono (by decide) (by decide)⟩
        · show Steps p.tables e below (T4.setTop (mkF m 155 #[.val (.int p0), .val (.int p1), .val (.int p2), .val (.int z56), .val (.long z67), .second, .val (.long (360 : Int64)), .second, .val (.double FP.dconst1), .second, .val (.double z111), .second, .val (.long z124), .second, .val (.double z132), .second, .val (.double c137_z28), .second] [(.int (1 : Int32))])) _
          exact retOut X4 hx Bd.returns rfl (Or.inl ⟨rfl, by simp, _, rfl⟩) (hb hby at_155) hr
        · show Q0 n0 _ T4.heap _
          rw [e4]
          exact ⟨rfl, by first | assumption | exact N0⟩
      · skip
        obtain ⟨c137_z4, hc137_z4⟩ : ∃ z : UInt64, FP.drem z111 (4645040803167600640 : UInt64) = z := ⟨_, rfl⟩
        obtain ⟨c137_z8, hc137_z8⟩ : ∃ z : Int32, cmpValue (FP.dcmp c137_z4 FP.dconst0) .g = z := ⟨_, rfl⟩
        obtain ⟨c137_z22, hc137_z22⟩ : ∃ z : Int32, cmpValue (FP.dcmp c137_z4 (4645040803167600640 : UInt64)) .g = z := ⟨_, rfl⟩
        obtain ⟨c137_z28, hc137_z28⟩ : ∃ z : UInt64, FP.dadd c137_z4 FP.dconst0 = z := ⟨_, rfl⟩
        obtain ⟨z146, hz146⟩ : ∃ z : Int32, cmpValue (FP.dcmp c137_z28 z132) .l = z := ⟨_, rfl⟩
        obtain ⟨c137_nn4, c137_br9, c137_br23, c137_nn28, dr⟩ := plT (by omega) dd hc137_z4 (by rw [← R1]; exact Int.not_lt.mp hs137) (Or.inr hs) hc137_z8 hc137_z22 hc137_z28
        have br147 : z146 = 0 := hz146.symm.trans (Jvm.OwnF.DV_eq0 dr (de.of_eq (R3 hs137)) _)
        obtain ⟨_, _, ⟨T6, L6, k6, n6⟩, -, X6, ⟨Lc6, hQ6, ql6, qy6, qz6⟩, st6⟩ := Jvm.LawKit.callS X0 hx (y := (⟨"com/example/lumenstand/lumenstand/scenario/Degrees", "bearing", "(D)D"⟩ : MethodName)) hown (mvT hZ (hw _ (List.mem_of_getElem? (i := 1) rfl))) (mvT hZ (hw _ (List.mem_of_getElem? (i := 2) rfl))) (mvT hZ (hw _ (List.mem_of_getElem? (i := 3) rfl))) (mvT hZ (hw _ (List.mem_of_getElem? (i := 4) rfl))) (by decide) (backOf (W := 0) (rm1_tf l Z a0 hw [] z111 c137_z4 c137_z8 c137_z22 c137_z28 h0 n0 Z0 hc137_z4 hc137_z8 hc137_z22 hc137_z28 c137_nn4 c137_br9 c137_br23 c137_nn28) hZ (hw _ (List.mem_of_getElem? (i := 4) rfl)) (hw _ (List.mem_of_getElem? (i := 3) rfl)) (by decide) (by decide)) (g := (mkF m 137 #[.val (.int p0), .val (.int p1), .val (.int p2), .val (.int z56), .val (.long z67), .second, .val (.long (360 : Int64)), .second, .val (.double FP.dconst1), .second, .val (.double z111), .second, .val (.long z124), .second, .val (.double z132), .second, .unset, .unset] [(.double z111)])) rfl (by rw [hml]; rfl) (argsL := [(.double z111)]) (rest := []) (lenOf pd_0 rfl) rfl (by show 2 * 0 + _ ≤ _; exact Nat.le_of_eq rfl) (hb hby at_137) (fun _ _ => ⟨rfl, e0, (by decide : 0 + 0 ≤ _), (by decide : 0 + 0 ≤ _)⟩)
        dsimp only [Pt.U, Pt.locs, Pt.cells, Pt.slots] at X6 ql6 qy6 qz6 st6 hQ6
        subst ql6 qy6 qz6
        obtain ⟨rfl, N6q, e6⟩ := hQ6
        have N6 := Fr.app N0 N6q
        have c7 : ∀ t, Steps p.tables e below (T6.setTop (mkF m 155 #[.val (.int p0), .val (.int p1), .val (.int p2), .val (.int z56), .val (.long z67), .second, .val (.long (360 : Int64)), .second, .val (.double FP.dconst1), .second, .val (.double z111), .second, .val (.long z124), .second, .val (.double z132), .second, .val (.double c137_z28), .second] [(.int (1 : Int32))])) t → Steps p.tables e below (s₁.setTop (entryFrame m #[(.int p0), (.int p1), (.int p2)] maxLocals)) t := by
          intro t k
          refine c3 t ?_
          show Steps p.tables e below (s₁.setTop (mkF m 137 #[.val (.int p0), .val (.int p1), .val (.int p2), .val (.int z56), .val (.long z67), .second, .val (.long (360 : Int64)), .second, .val (.double FP.dconst1), .second, .val (.double z111), .second, .val (.long z124), .second, .val (.double z132), .second, .unset, .unset] [(.double z111)])) _
          refine st6 _ ?_
          show Steps p.tables e below (T6.setTop (mkF m 140 #[.val (.int p0), .val (.int p1), .val (.int p2), .val (.int z56), .val (.long z67), .second, .val (.long (360 : Int64)), .second, .val (.double FP.dconst1), .second, .val (.double z111), .second, .val (.long z124), .second, .val (.double z132), .second, .unset, .unset] [(.double c137_z28)])) _
          refine XS.dstore X6.here hx rfl (hb hby at_140) rfl (l' := #[.val (.int p0), .val (.int p1), .val (.int p2), .val (.int z56), .val (.long z67), .second, .val (.long (360 : Int64)), .second, .val (.double FP.dconst1), .second, .val (.double z111), .second, .val (.long z124), .second, .val (.double z132), .second, .val (.double c137_z28), .second]) rfl ?_
          show Steps p.tables e below (T6.setTop (mkF m 142 #[.val (.int p0), .val (.int p1), .val (.int p2), .val (.int z56), .val (.long z67), .second, .val (.long (360 : Int64)), .second, .val (.double FP.dconst1), .second, .val (.double z111), .second, .val (.long z124), .second, .val (.double z132), .second, .val (.double c137_z28), .second] [])) _
          refine XS.dload X6.here hx rfl (hb hby at_142) rfl ?_
          show Steps p.tables e below (T6.setTop (mkF m 144 #[.val (.int p0), .val (.int p1), .val (.int p2), .val (.int z56), .val (.long z67), .second, .val (.long (360 : Int64)), .second, .val (.double FP.dconst1), .second, .val (.double z111), .second, .val (.long z124), .second, .val (.double z132), .second, .val (.double c137_z28), .second] [(.double c137_z28)])) _
          refine XS.dload X6.here hx rfl (hb hby at_144) rfl ?_
          show Steps p.tables e below (T6.setTop (mkF m 146 #[.val (.int p0), .val (.int p1), .val (.int p2), .val (.int z56), .val (.long z67), .second, .val (.long (360 : Int64)), .second, .val (.double FP.dconst1), .second, .val (.double z111), .second, .val (.long z124), .second, .val (.double z132), .second, .val (.double c137_z28), .second] [(.double z132), (.double c137_z28)])) _
          refine XS.dcmpS X6.here hx rfl (hb hby at_146) rfl hz146 ?_
          show Steps p.tables e below (T6.setTop (mkF m 147 #[.val (.int p0), .val (.int p1), .val (.int p2), .val (.int z56), .val (.long z67), .second, .val (.long (360 : Int64)), .second, .val (.double FP.dconst1), .second, .val (.double z111), .second, .val (.long z124), .second, .val (.double z132), .second, .val (.double c137_z28), .second] [(.int z146)])) _
          refine XS.ifNo X6.here hx rfl (hb hby at_147) rfl (Jvm.Free.XT.i0_ne_f br147) ?_
          show Steps p.tables e below (T6.setTop (mkF m 150 #[.val (.int p0), .val (.int p1), .val (.int p2), .val (.int z56), .val (.long z67), .second, .val (.long (360 : Int64)), .second, .val (.double FP.dconst1), .second, .val (.double z111), .second, .val (.long z124), .second, .val (.double z132), .second, .val (.double c137_z28), .second] [])) _
          refine XS.iconst X6.here hx rfl (hb hby at_150) ?_
          show Steps p.tables e below (T6.setTop (mkF m 151 #[.val (.int p0), .val (.int p1), .val (.int p2), .val (.int z56), .val (.long z67), .second, .val (.long (360 : Int64)), .second, .val (.double FP.dconst1), .second, .val (.double z111), .second, .val (.long z124), .second, .val (.double z132), .second, .val (.double c137_z28), .second] [(.int (1 : Int32))])) _
          refine XS.goto X6.here hx rfl (pc0 := 151) (pc' := 155) rfl (hb hby at_151) (by decide) (by decide) ?_
          exact k
        obtain ⟨fs, hr, hrun, hended, hW, hsame⟩ := X6.leave (v := some (.int (1 : Int32))) (fun h => by rw [Bd.returns] at h; cases h)
        refine ⟨_, _, c7 _ ?_, hrun, hended, _, _, rfl, ?_, ⟨_, rfl⟩, hW, hsame.mono (by decide) (by decide)⟩
        · show Steps p.tables e below (T6.setTop (mkF m 155 #[.val (.int p0), .val (.int p1), .val (.int p2), .val (.int z56), .val (.long z67), .second, .val (.long (360 : Int64)), .second, .val (.double FP.dconst1), .second, .val (.double z111), .second, .val (.long z124), .second, .val (.double z132), .second, .val (.double c137_z28), .second] [(.int (1 : Int32))])) _
          exact retOut X6 hx Bd.returns rfl (Or.inl ⟨rfl, by simp, _, rfl⟩) (hb hby at_155) hr
        · show Q0 n0 _ T6.heap _
          rw [e6]
          exact ⟨rfl, by first | assumption | exact N0⟩
    · skip
      obtain ⟨z84, hz84⟩ : ∃ z : Int32, z56 - (32 : Int32) = z := ⟨_, rfl⟩
      obtain ⟨z88, hz88⟩ : ∃ z : Int64, p0.toInt64 = z := ⟨_, rfl⟩
      obtain ⟨z96, hz96⟩ : ∃ z : Int64, (360 : Int64) <<< (z84 &&& 0x3f).toInt64 = z := ⟨_, rfl⟩
      obtain ⟨z102, hz102⟩ : ∃ z : Int64, (1 : Int64) <<< (z84 &&& 0x3f).toInt64 = z := ⟨_, rfl⟩
      obtain ⟨z103, hz103⟩ : ∃ z : UInt64, FP.l2d z102 = z := ⟨_, rfl⟩
      obtain ⟨z108, hz108⟩ : ∃ z : UInt64, FP.l2d z88 = z := ⟨_, rfl⟩
      obtain ⟨z111, hz111⟩ : ∃ z : UInt64, FP.ddiv z108 z103 = z := ⟨_, rfl⟩
      obtain ⟨z118, hz118⟩ : ∃ z : Int64, z88 % z96 = z := ⟨_, rfl⟩
      obtain ⟨z121, hz121⟩ : ∃ z : Int64, z118 + z96 = z := ⟨_, rfl⟩
      obtain ⟨z124, hz124⟩ : ∃ z : Int64, z121 % z96 = z := ⟨_, rfl⟩
      obtain ⟨z129, hz129⟩ : ∃ z : UInt64, FP.l2d z124 = z := ⟨_, rfl⟩
      obtain ⟨z132, hz132⟩ : ∃ z : UInt64, FP.ddiv z129 z103 = z := ⟨_, rfl⟩
      have m56 := c_mask p1 63 6 (by decide) (by decide)
      rw [hz56, show ((2 ^ 6 : Nat) : Int) = 64 by decide] at m56
      have ge32 : ¬ z56.toInt < 32 := by rw [Int32.lt_iff_toInt_lt] at hb61; exact hb61
      have i84 := Jvm.OwnF.isub_v hz84 (by rw [show (32 : Int32).toInt = 32 by decide]; omega)
      rw [show (32 : Int32).toInt = 32 by decide] at i84
      obtain ⟨s, he⟩ : ∃ e : Nat, z84.toInt = (e : Int) := ⟨z84.toInt.toNat, by omega⟩
      have hs : s ≤ 31 := by omega
      have pe := Jvm.OwnF.p2le hs
      have ps0 := Nat.two_pow_pos s
      have hM := Jvm.OwnF.lshl_v (k := s) hz96 he (by omega) (by rw [show (360 : Int64).toInt = 360 by decide]; omega)
      rw [show (360 : Int64).toInt = 360 by decide] at hM
      have i102 := Jvm.OwnF.lshl_v (k := s) hz102 he (by omega) (by rw [show (1 : Int64).toInt = 1 by decide, Int.one_mul, Int.natAbs_natCast]; omega)
      rw [show (1 : Int64).toInt = 1 by decide, Int.one_mul] at i102
      have dsc : Jvm.OwnF.DV ((2 ^ s : Nat) : Int) 0 z103 := hz103 ▸ (Jvm.OwnF.DV_l2d (Jvm.OwnF.r53 (by rw [i102, Int.natAbs_natCast]; omega))).of_eq i102
      have rv : Jvm.OwnF.R53 z88.toInt := by rw [Jvm.OwnF.i2l_v hz88]; exact Jvm.OwnF.r53 (by have := Jvm.OwnF.rng32b p0; omega)
      have ps := Nat.two_pow_pos s
      have pe31 := Jvm.OwnF.p2le hs
      have dd : Jvm.OwnF.DV z88.toInt s z111 := hz111 ▸ hz108 ▸ Jvm.OwnF.DV_div (Jvm.OwnF.DV_l2d rv) dsc (by omega) (by omega) rv (by rw [Nat.zero_add]; simp)
      have nn111 := dd.nn
      have hMp : 0 < 360 * ((2 ^ s : Nat) : Int) := by omega
      have nz118 : ¬ (z96 : Int64) = 0 := fun q => by rw [q, show (0 : Int64).toInt = 0 by decide] at hM; omega
      have nz124 := nz118
      obtain ⟨R1, R2, R3⟩ := refr hM hMp (by omega) hz118 hz121 hz124
      have lt : z88.toInt.tmod (360 * ((2 ^ s : Nat) : Int)) < 360 * ((2 ^ s : Nat) : Int) := Int.tmod_lt_of_pos _ hMp
      have gt : -(360 * ((2 ^ s : Nat) : Int)) < z88.toInt.tmod (360 * ((2 ^ s : Nat) : Int)) := Int.lt_tmod_of_pos _ hMp
      have bz : z124.toInt.natAbs ≤ 2 ^ 53 := by
        by_cases q : z118.toInt < 0
        · rw [R2 q]; omega
        · rw [R3 q]; omega
      have de : Jvm.OwnF.DV z124.toInt s z132 := hz132 ▸ hz129 ▸ Jvm.OwnF.DV_div (Jvm.OwnF.DV_l2d (Jvm.OwnF.r53 bz)) dsc (by omega) (by omega) (Jvm.OwnF.r53 bz) (by rw [Nat.zero_add]; simp)
      have nn132 := de.nn
      have c8 : ∀ t, Steps p.tables e below (s₁.setTop (mkF m 137 #[.val (.int p0), .val (.int p1), .val (.int p2), .val (.int z56), .val (.long z88), .second, .val (.long z96), .second, .val (.double z103), .second, .val (.double z111), .second, .val (.long z124), .second, .val (.double z132), .second, .unset, .unset] [(.double z111)])) t → Steps p.tables e below (s₁.setTop (entryFrame m #[(.int p0), (.int p1), (.int p2)] maxLocals)) t := by
        intro t k
        refine c2 t ?_
        show Steps p.tables e below (s₁.setTop (mkF m 61 #[.val (.int p0), .val (.int p1), .val (.int p2), .val (.int z56), .unset, .unset, .unset, .unset, .unset, .unset, .unset, .unset, .unset, .unset, .unset, .unset, .unset, .unset] [(.int (32 : Int32)), (.int z56)])) _
        refine XS.icmpYes X0.here hx rfl (pc0 := 61) (pc' := 81) rfl (hb hby at_61) rfl (Jvm.Free.XT.ii_ge_t hb61) (by decide) (by decide) ?_
        show Steps p.tables e below (s₁.setTop (mkF m 81 #[.val (.int p0), .val (.int p1), .val (.int p2), .val (.int z56), .unset, .unset, .unset, .unset, .unset, .unset, .unset, .unset, .unset, .unset, .unset, .unset, .unset, .unset] [])) _
        refine XS.iloadN X0.here hx rfl (hb hby at_81) rfl ?_
        show Steps p.tables e below (s₁.setTop (mkF m 82 #[.val (.int p0), .val (.int p1), .val (.int p2), .val (.int z56), .unset, .unset, .unset, .unset, .unset, .unset, .unset, .unset, .unset, .unset, .unset, .unset, .unset, .unset] [(.int z56)])) _
        refine XS.bipush X0.here hx rfl (hb hby at_82) ?_
        show Steps p.tables e below (s₁.setTop (mkF m 84 #[.val (.int p0), .val (.int p1), .val (.int p2), .val (.int z56), .unset, .unset, .unset, .unset, .unset, .unset, .unset, .unset, .unset, .unset, .unset, .unset, .unset, .unset] [(.int (32 : Int32)), (.int z56)])) _
        refine Jvm.OwnK.isub X0.here hx rfl (hb hby at_84) rfl hz84 ?_
        show Steps p.tables e below (s₁.setTop (mkF m 85 #[.val (.int p0), .val (.int p1), .val (.int p2), .val (.int z56), .unset, .unset, .unset, .unset, .unset, .unset, .unset, .unset, .unset, .unset, .unset, .unset, .unset, .unset] [(.int z84)])) _
        refine XS.istore X0.here hx rfl (hb hby at_85) rfl (l' := #[.val (.int p0), .val (.int p1), .val (.int p2), .val (.int z56), .unset, .unset, .unset, .unset, .unset, .unset, .val (.int z84), .unset, .unset, .unset, .unset, .unset, .unset, .unset]) rfl ?_
        show Steps p.tables e below (s₁.setTop (mkF m 87 #[.val (.int p0), .val (.int p1), .val (.int p2), .val (.int z56), .unset, .unset, .unset, .unset, .unset, .unset, .val (.int z84), .unset, .unset, .unset, .unset, .unset, .unset, .unset] [])) _
        refine XS.iloadN X0.here hx rfl (hb hby at_87) rfl ?_
        show Steps p.tables e below (s₁.setTop (mkF m 88 #[.val (.int p0), .val (.int p1), .val (.int p2), .val (.int z56), .unset, .unset, .unset, .unset, .unset, .unset, .val (.int z84), .unset, .unset, .unset, .unset, .unset, .unset, .unset] [(.int p0)])) _
        refine Jvm.OwnK.i2l X0.here hx rfl (hb hby at_88) rfl hz88 ?_
        show Steps p.tables e below (s₁.setTop (mkF m 89 #[.val (.int p0), .val (.int p1), .val (.int p2), .val (.int z56), .unset, .unset, .unset, .unset, .unset, .unset, .val (.int z84), .unset, .unset, .unset, .unset, .unset, .unset, .unset] [(.long z88)])) _
        refine XS.lstore X0.here hx rfl (hb hby at_89) rfl (l' := #[.val (.int p0), .val (.int p1), .val (.int p2), .val (.int z56), .val (.long z88), .second, .unset, .unset, .unset, .unset, .val (.int z84), .unset, .unset, .unset, .unset, .unset, .unset, .unset]) rfl ?_
        show Steps p.tables e below (s₁.setTop (mkF m 91 #[.val (.int p0), .val (.int p1), .val (.int p2), .val (.int z56), .val (.long z88), .second, .unset, .unset, .unset, .unset, .val (.int z84), .unset, .unset, .unset, .unset, .unset, .unset, .unset] [])) _
        refine X0.ldc2Long hx hown (mvT hZ (hw _ (List.mem_of_getElem? (i := 0) rfl))) (g := (mkF m 91 #[.val (.int p0), .val (.int p1), .val (.int p2), .val (.int z56), .val (.long z88), .second, .unset, .unset, .unset, .unset, .val (.int z84), .unset, .unset, .unset, .unset, .unset, .unset, .unset] [])) rfl (hb hby at_91) _ ?_
        show Steps p.tables e below (s₁.setTop (mkF m 94 #[.val (.int p0), .val (.int p1), .val (.int p2), .val (.int z56), .val (.long z88), .second, .unset, .unset, .unset, .unset, .val (.int z84), .unset, .unset, .unset, .unset, .unset, .unset, .unset] [(.long (360 : Int64))])) _
        refine XS.iload X0.here hx rfl (hb hby at_94) rfl ?_
        show Steps p.tables e below (s₁.setTop (mkF m 96 #[.val (.int p0), .val (.int p1), .val (.int p2), .val (.int z56), .val (.long z88), .second, .unset, .unset, .unset, .unset, .val (.int z84), .unset, .unset, .unset, .unset, .unset, .unset, .unset] [(.int z84), (.long (360 : Int64))])) _
        refine Jvm.OwnK.lshl X0.here hx rfl (hb hby at_96) rfl hz96 ?_
        show Steps p.tables e below (s₁.setTop (mkF m 97 #[.val (.int p0), .val (.int p1), .val (.int p2), .val (.int z56), .val (.long z88), .second, .unset, .unset, .unset, .unset, .val (.int z84), .unset, .unset, .unset, .unset, .unset, .unset, .unset] [(.long z96)])) _
        refine XS.lstore X0.here hx rfl (hb hby at_97) rfl (l' := #[.val (.int p0), .val (.int p1), .val (.int p2), .val (.int z56), .val (.long z88), .second, .val (.long z96), .second, .unset, .unset, .val (.int z84), .unset, .unset, .unset, .unset, .unset, .unset, .unset]) rfl ?_
        show Steps p.tables e below (s₁.setTop (mkF m 99 #[.val (.int p0), .val (.int p1), .val (.int p2), .val (.int z56), .val (.long z88), .second, .val (.long z96), .second, .unset, .unset, .val (.int z84), .unset, .unset, .unset, .unset, .unset, .unset, .unset] [])) _
        refine XS.lconst X0.here hx rfl (hb hby at_99) ?_
        show Steps p.tables e below (s₁.setTop (mkF m 100 #[.val (.int p0), .val (.int p1), .val (.int p2), .val (.int z56), .val (.long z88), .second, .val (.long z96), .second, .unset, .unset, .val (.int z84), .unset, .unset, .unset, .unset, .unset, .unset, .unset] [(.long (1 : Int64))])) _
        refine XS.iload X0.here hx rfl (hb hby at_100) rfl ?_
        show Steps p.tables e below (s₁.setTop (mkF m 102 #[.val (.int p0), .val (.int p1), .val (.int p2), .val (.int z56), .val (.long z88), .second, .val (.long z96), .second, .unset, .unset, .val (.int z84), .unset, .unset, .unset, .unset, .unset, .unset, .unset] [(.int z84), (.long (1 : Int64))])) _
        refine Jvm.OwnK.lshl X0.here hx rfl (hb hby at_102) rfl hz102 ?_
        show Steps p.tables e below (s₁.setTop (mkF m 103 #[.val (.int p0), .val (.int p1), .val (.int p2), .val (.int z56), .val (.long z88), .second, .val (.long z96), .second, .unset, .unset, .val (.int z84), .unset, .unset, .unset, .unset, .unset, .unset, .unset] [(.long z102)])) _
        refine XS.l2dS X0.here hx rfl (hb hby at_103) rfl hz103 ?_
        show Steps p.tables e below (s₁.setTop (mkF m 104 #[.val (.int p0), .val (.int p1), .val (.int p2), .val (.int z56), .val (.long z88), .second, .val (.long z96), .second, .unset, .unset, .val (.int z84), .unset, .unset, .unset, .unset, .unset, .unset, .unset] [(.double z103)])) _
        refine XS.dstore X0.here hx rfl (hb hby at_104) rfl (l' := #[.val (.int p0), .val (.int p1), .val (.int p2), .val (.int z56), .val (.long z88), .second, .val (.long z96), .second, .val (.double z103), .second, .val (.int z84), .unset, .unset, .unset, .unset, .unset, .unset, .unset]) rfl ?_
        show Steps p.tables e below (s₁.setTop (mkF m 106 #[.val (.int p0), .val (.int p1), .val (.int p2), .val (.int z56), .val (.long z88), .second, .val (.long z96), .second, .val (.double z103), .second, .val (.int z84), .unset, .unset, .unset, .unset, .unset, .unset, .unset] [])) _
        refine XS.lload X0.here hx rfl (hb hby at_106) rfl ?_
        show Steps p.tables e below (s₁.setTop (mkF m 108 #[.val (.int p0), .val (.int p1), .val (.int p2), .val (.int z56), .val (.long z88), .second, .val (.long z96), .second, .val (.double z103), .second, .val (.int z84), .unset, .unset, .unset, .unset, .unset, .unset, .unset] [(.long z88)])) _
        refine XS.l2dS X0.here hx rfl (hb hby at_108) rfl hz108 ?_
        show Steps p.tables e below (s₁.setTop (mkF m 109 #[.val (.int p0), .val (.int p1), .val (.int p2), .val (.int z56), .val (.long z88), .second, .val (.long z96), .second, .val (.double z103), .second, .val (.int z84), .unset, .unset, .unset, .unset, .unset, .unset, .unset] [(.double z108)])) _
        refine XS.dload X0.here hx rfl (hb hby at_109) rfl ?_
        show Steps p.tables e below (s₁.setTop (mkF m 111 #[.val (.int p0), .val (.int p1), .val (.int p2), .val (.int z56), .val (.long z88), .second, .val (.long z96), .second, .val (.double z103), .second, .val (.int z84), .unset, .unset, .unset, .unset, .unset, .unset, .unset] [(.double z103), (.double z108)])) _
        refine Jvm.OwnK.ddiv X0.here hx rfl (hb hby at_111) rfl hz111 nn111 ?_
        show Steps p.tables e below (s₁.setTop (mkF m 112 #[.val (.int p0), .val (.int p1), .val (.int p2), .val (.int z56), .val (.long z88), .second, .val (.long z96), .second, .val (.double z103), .second, .val (.int z84), .unset, .unset, .unset, .unset, .unset, .unset, .unset] [(.double z111)])) _
        refine XS.dstore X0.here hx rfl (hb hby at_112) rfl (l' := #[.val (.int p0), .val (.int p1), .val (.int p2), .val (.int z56), .val (.long z88), .second, .val (.long z96), .second, .val (.double z103), .second, .val (.double z111), .second, .unset, .unset, .unset, .unset, .unset, .unset]) rfl ?_
        show Steps p.tables e below (s₁.setTop (mkF m 114 #[.val (.int p0), .val (.int p1), .val (.int p2), .val (.int z56), .val (.long z88), .second, .val (.long z96), .second, .val (.double z103), .second, .val (.double z111), .second, .unset, .unset, .unset, .unset, .unset, .unset] [])) _
        refine XS.lload X0.here hx rfl (hb hby at_114) rfl ?_
        show Steps p.tables e below (s₁.setTop (mkF m 116 #[.val (.int p0), .val (.int p1), .val (.int p2), .val (.int z56), .val (.long z88), .second, .val (.long z96), .second, .val (.double z103), .second, .val (.double z111), .second, .unset, .unset, .unset, .unset, .unset, .unset] [(.long z88)])) _
        refine XS.lload X0.here hx rfl (hb hby at_116) rfl ?_
        show Steps p.tables e below (s₁.setTop (mkF m 118 #[.val (.int p0), .val (.int p1), .val (.int p2), .val (.int z56), .val (.long z88), .second, .val (.long z96), .second, .val (.double z103), .second, .val (.double z111), .second, .unset, .unset, .unset, .unset, .unset, .unset] [(.long z96), (.long z88)])) _
        refine Jvm.OwnK.lrem X0.here hx rfl (hb hby at_118) rfl nz118 hz118 ?_
        show Steps p.tables e below (s₁.setTop (mkF m 119 #[.val (.int p0), .val (.int p1), .val (.int p2), .val (.int z56), .val (.long z88), .second, .val (.long z96), .second, .val (.double z103), .second, .val (.double z111), .second, .unset, .unset, .unset, .unset, .unset, .unset] [(.long z118)])) _
        refine XS.lload X0.here hx rfl (hb hby at_119) rfl ?_
        show Steps p.tables e below (s₁.setTop (mkF m 121 #[.val (.int p0), .val (.int p1), .val (.int p2), .val (.int z56), .val (.long z88), .second, .val (.long z96), .second, .val (.double z103), .second, .val (.double z111), .second, .unset, .unset, .unset, .unset, .unset, .unset] [(.long z96), (.long z118)])) _
        refine Jvm.OwnK.ladd X0.here hx rfl (hb hby at_121) rfl hz121 ?_
        show Steps p.tables e below (s₁.setTop (mkF m 122 #[.val (.int p0), .val (.int p1), .val (.int p2), .val (.int z56), .val (.long z88), .second, .val (.long z96), .second, .val (.double z103), .second, .val (.double z111), .second, .unset, .unset, .unset, .unset, .unset, .unset] [(.long z121)])) _
        refine XS.lload X0.here hx rfl (hb hby at_122) rfl ?_
        show Steps p.tables e below (s₁.setTop (mkF m 124 #[.val (.int p0), .val (.int p1), .val (.int p2), .val (.int z56), .val (.long z88), .second, .val (.long z96), .second, .val (.double z103), .second, .val (.double z111), .second, .unset, .unset, .unset, .unset, .unset, .unset] [(.long z96), (.long z121)])) _
        refine Jvm.OwnK.lrem X0.here hx rfl (hb hby at_124) rfl nz124 hz124 ?_
        show Steps p.tables e below (s₁.setTop (mkF m 125 #[.val (.int p0), .val (.int p1), .val (.int p2), .val (.int z56), .val (.long z88), .second, .val (.long z96), .second, .val (.double z103), .second, .val (.double z111), .second, .unset, .unset, .unset, .unset, .unset, .unset] [(.long z124)])) _
        refine XS.lstore X0.here hx rfl (hb hby at_125) rfl (l' := #[.val (.int p0), .val (.int p1), .val (.int p2), .val (.int z56), .val (.long z88), .second, .val (.long z96), .second, .val (.double z103), .second, .val (.double z111), .second, .val (.long z124), .second, .unset, .unset, .unset, .unset]) rfl ?_
        show Steps p.tables e below (s₁.setTop (mkF m 127 #[.val (.int p0), .val (.int p1), .val (.int p2), .val (.int z56), .val (.long z88), .second, .val (.long z96), .second, .val (.double z103), .second, .val (.double z111), .second, .val (.long z124), .second, .unset, .unset, .unset, .unset] [])) _
        refine XS.lload X0.here hx rfl (hb hby at_127) rfl ?_
        show Steps p.tables e below (s₁.setTop (mkF m 129 #[.val (.int p0), .val (.int p1), .val (.int p2), .val (.int z56), .val (.long z88), .second, .val (.long z96), .second, .val (.double z103), .second, .val (.double z111), .second, .val (.long z124), .second, .unset, .unset, .unset, .unset] [(.long z124)])) _
        refine XS.l2dS X0.here hx rfl (hb hby at_129) rfl hz129 ?_
        show Steps p.tables e below (s₁.setTop (mkF m 130 #[.val (.int p0), .val (.int p1), .val (.int p2), .val (.int z56), .val (.long z88), .second, .val (.long z96), .second, .val (.double z103), .second, .val (.double z111), .second, .val (.long z124), .second, .unset, .unset, .unset, .unset] [(.double z129)])) _
        refine XS.dload X0.here hx rfl (hb hby at_130) rfl ?_
        show Steps p.tables e below (s₁.setTop (mkF m 132 #[.val (.int p0), .val (.int p1), .val (.int p2), .val (.int z56), .val (.long z88), .second, .val (.long z96), .second, .val (.double z103), .second, .val (.double z111), .second, .val (.long z124), .second, .unset, .unset, .unset, .unset] [(.double z103), (.double z129)])) _
        refine Jvm.OwnK.ddiv X0.here hx rfl (hb hby at_132) rfl hz132 nn132 ?_
        show Steps p.tables e below (s₁.setTop (mkF m 133 #[.val (.int p0), .val (.int p1), .val (.int p2), .val (.int z56), .val (.long z88), .second, .val (.long z96), .second, .val (.double z103), .second, .val (.double z111), .second, .val (.long z124), .second, .unset, .unset, .unset, .unset] [(.double z132)])) _
        refine XS.dstore X0.here hx rfl (hb hby at_133) rfl (l' := #[.val (.int p0), .val (.int p1), .val (.int p2), .val (.int z56), .val (.long z88), .second, .val (.long z96), .second, .val (.double z103), .second, .val (.double z111), .second, .val (.long z124), .second, .val (.double z132), .second, .unset, .unset]) rfl ?_
        show Steps p.tables e below (s₁.setTop (mkF m 135 #[.val (.int p0), .val (.int p1), .val (.int p2), .val (.int z56), .val (.long z88), .second, .val (.long z96), .second, .val (.double z103), .second, .val (.double z111), .second, .val (.long z124), .second, .val (.double z132), .second, .unset, .unset] [])) _
        refine XS.dload X0.here hx rfl (hb hby at_135) rfl ?_
        exact k
      by_cases hs137 : z118.toInt < 0
      · skip
        obtain ⟨c137_z4, hc137_z4⟩ : ∃ z : UInt64, FP.drem z111 (4645040803167600640 : UInt64) = z := ⟨_, rfl⟩
        obtain ⟨c137_z8, hc137_z8⟩ : ∃ z : Int32, cmpValue (FP.dcmp c137_z4 FP.dconst0) .g = z := ⟨_, rfl⟩
        obtain ⟨c137_z16, hc137_z16⟩ : ∃ z : UInt64, FP.dadd c137_z4 (4645040803167600640 : UInt64) = z := ⟨_, rfl⟩
        obtain ⟨c137_z22, hc137_z22⟩ : ∃ z : Int32, cmpValue (FP.dcmp c137_z16 (4645040803167600640 : UInt64)) .g = z := ⟨_, rfl⟩
        obtain ⟨c137_z28, hc137_z28⟩ : ∃ z : UInt64, FP.dadd c137_z16 FP.dconst0 = z := ⟨_, rfl⟩
        obtain ⟨z146, hz146⟩ : ∃ z : Int32, cmpValue (FP.dcmp c137_z28 z132) .l = z := ⟨_, rfl⟩
        obtain ⟨c137_nn4, c137_br9, c137_nn16, c137_br23, c137_nn28, dr⟩ := plF hs dd hc137_z4 (by rw [← R1]; exact hs137) hc137_z8 hc137_z16 hc137_z22 hc137_z28
        have br147 : z146 = 0 := hz146.symm.trans (Jvm.OwnF.DV_eq0 dr (de.of_eq (R2 hs137)) _)
        obtain ⟨_, _, ⟨T9, L9, k9, n9⟩, -, X9, ⟨Lc9, hQ9, ql9, qy9, qz9⟩, st9⟩ := Jvm.LawKit.callS X0 hx (y := (⟨"com/example/lumenstand/lumenstand/scenario/Degrees", "bearing", "(D)D"⟩ : MethodName)) hown (mvT hZ (hw _ (List.mem_of_getElem? (i := 1) rfl))) (mvT hZ (hw _ (List.mem_of_getElem? (i := 2) rfl))) (mvT hZ (hw _ (List.mem_of_getElem? (i := 3) rfl))) (mvT hZ (hw _ (List.mem_of_getElem? (i := 4) rfl))) (by decide) (backOf (W := 0) (rm1_ff l Z a0 hw [] z111 c137_z4 c137_z8 c137_z16 c137_z22 c137_z28 h0 n0 Z0 hc137_z4 hc137_z8 hc137_z16 hc137_z22 hc137_z28 c137_nn4 c137_br9 c137_nn16 c137_br23 c137_nn28) hZ (hw _ (List.mem_of_getElem? (i := 4) rfl)) (hw _ (List.mem_of_getElem? (i := 3) rfl)) (by decide) (by decide)) (g := (mkF m 137 #[.val (.int p0), .val (.int p1), .val (.int p2), .val (.int z56), .val (.long z88), .second, .val (.long z96), .second, .val (.double z103), .second, .val (.double z111), .second, .val (.long z124), .second, .val (.double z132), .second, .unset, .unset] [(.double z111)])) rfl (by rw [hml]; rfl) (argsL := [(.double z111)]) (rest := []) (lenOf pd_0 rfl) rfl (by show 2 * 0 + _ ≤ _; exact Nat.le_of_eq rfl) (hb hby at_137) (fun _ _ => ⟨rfl, e0, (by decide : 0 + 0 ≤ _), (by decide : 0 + 0 ≤ _)⟩)
        dsimp only [Pt.U, Pt.locs, Pt.cells, Pt.slots] at X9 ql9 qy9 qz9 st9 hQ9
        subst ql9 qy9 qz9
        obtain ⟨rfl, N9q, e9⟩ := hQ9
        have N9 := Fr.app N0 N9q
        have c10 : ∀ t, Steps p.tables e below (T9.setTop (mkF m 155 #[.val (.int p0), .val (.int p1), .val (.int p2), .val (.int z56), .val (.long z88), .second, .val (.long z96), .second, .val (.double z103), .second, .val (.double z111), .second, .val (.long z124), .second, .val (.double z132), .second, .val (.double c137_z28), .second] [(.int (1 : Int32))])) t → Steps p.tables e below (s₁.setTop (entryFrame m #[(.int p0), (.int p1), (.int p2)] maxLocals)) t := by
          intro t k
          refine c8 t ?_
          show Steps p.tables e below (s₁.setTop (mkF m 137 #[.val (.int p0), .val (.int p1), .val (.int p2), .val (.int z56), .val (.long z88), .second, .val (.long z96), .second, .val (.double z103), .second, .val (.double z111), .second, .val (.long z124), .second, .val (.double z132), .second, .unset, .unset] [(.double z111)])) _
          refine st9 _ ?_
          show Steps p.tables e below (T9.setTop (mkF m 140 #[.val (.int p0), .val (.int p1), .val (.int p2), .val (.int z56), .val (.long z88), .second, .val (.long z96), .second, .val (.double z103), .second, .val (.double z111), .second, .val (.long z124), .second, .val (.double z132), .second, .unset, .unset] [(.double c137_z28)])) _
          refine XS.dstore X9.here hx rfl (hb hby at_140) rfl (l' := #[.val (.int p0), .val (.int p1), .val (.int p2), .val (.int z56), .val (.long z88), .second, .val (.long z96), .second, .val (.double z103), .second, .val (.double z111), .second, .val (.long z124), .second, .val (.double z132), .second, .val (.double c137_z28), .second]) rfl ?_
          show Steps p.tables e below (T9.setTop (mkF m 142 #[.val (.int p0), .val (.int p1), .val (.int p2), .val (.int z56), .val (.long z88), .second, .val (.long z96), .second, .val (.double z103), .second, .val (.double z111), .second, .val (.long z124), .second, .val (.double z132), .second, .val (.double c137_z28), .second] [])) _
          refine XS.dload X9.here hx rfl (hb hby at_142) rfl ?_
          show Steps p.tables e below (T9.setTop (mkF m 144 #[.val (.int p0), .val (.int p1), .val (.int p2), .val (.int z56), .val (.long z88), .second, .val (.long z96), .second, .val (.double z103), .second, .val (.double z111), .second, .val (.long z124), .second, .val (.double z132), .second, .val (.double c137_z28), .second] [(.double c137_z28)])) _
          refine XS.dload X9.here hx rfl (hb hby at_144) rfl ?_
          show Steps p.tables e below (T9.setTop (mkF m 146 #[.val (.int p0), .val (.int p1), .val (.int p2), .val (.int z56), .val (.long z88), .second, .val (.long z96), .second, .val (.double z103), .second, .val (.double z111), .second, .val (.long z124), .second, .val (.double z132), .second, .val (.double c137_z28), .second] [(.double z132), (.double c137_z28)])) _
          refine XS.dcmpS X9.here hx rfl (hb hby at_146) rfl hz146 ?_
          show Steps p.tables e below (T9.setTop (mkF m 147 #[.val (.int p0), .val (.int p1), .val (.int p2), .val (.int z56), .val (.long z88), .second, .val (.long z96), .second, .val (.double z103), .second, .val (.double z111), .second, .val (.long z124), .second, .val (.double z132), .second, .val (.double c137_z28), .second] [(.int z146)])) _
          refine XS.ifNo X9.here hx rfl (hb hby at_147) rfl (Jvm.Free.XT.i0_ne_f br147) ?_
          show Steps p.tables e below (T9.setTop (mkF m 150 #[.val (.int p0), .val (.int p1), .val (.int p2), .val (.int z56), .val (.long z88), .second, .val (.long z96), .second, .val (.double z103), .second, .val (.double z111), .second, .val (.long z124), .second, .val (.double z132), .second, .val (.double c137_z28), .second] [])) _
          refine XS.iconst X9.here hx rfl (hb hby at_150) ?_
          show Steps p.tables e below (T9.setTop (mkF m 151 #[.val (.int p0), .val (.int p1), .val (.int p2), .val (.int z56), .val (.long z88), .second, .val (.long z96), .second, .val (.double z103), .second, .val (.double z111), .second, .val (.long z124), .second, .val (.double z132), .second, .val (.double c137_z28), .second] [(.int (1 : Int32))])) _
          refine XS.goto X9.here hx rfl (pc0 := 151) (pc' := 155) rfl (hb hby at_151) (by decide) (by decide) ?_
          exact k
        obtain ⟨fs, hr, hrun, hended, hW, hsame⟩ := X9.leave (v := some (.int (1 : Int32))) (fun h => by rw [Bd.returns] at h; cases h)
        refine ⟨_, _, c10 _ ?_, hrun, hended, _, _, rfl, ?_, ⟨_, rfl⟩, hW, hsame.mono (by decide) (by decide)⟩
        · show Steps p.tables e below (T9.setTop (mkF m 155 #[.val (.int p0), .val (.int p1), .val (.int p2), .val (.int z56), .val (.long z88), .second, .val (.long z96), .second, .val (.double z103), .second, .val (.double z111), .second, .val (.long z124), .second, .val (.double z132), .second, .val (.double c137_z28), .second] [(.int (1 : Int32))])) _
          exact retOut X9 hx Bd.returns rfl (Or.inl ⟨rfl, by simp, _, rfl⟩) (hb hby at_155) hr
        · show Q0 n0 _ T9.heap _
          rw [e9]
          exact ⟨rfl, by first | assumption | exact N0⟩
      · skip
        obtain ⟨c137_z4, hc137_z4⟩ : ∃ z : UInt64, FP.drem z111 (4645040803167600640 : UInt64) = z := ⟨_, rfl⟩
        obtain ⟨c137_z8, hc137_z8⟩ : ∃ z : Int32, cmpValue (FP.dcmp c137_z4 FP.dconst0) .g = z := ⟨_, rfl⟩
        obtain ⟨c137_z22, hc137_z22⟩ : ∃ z : Int32, cmpValue (FP.dcmp c137_z4 (4645040803167600640 : UInt64)) .g = z := ⟨_, rfl⟩
        obtain ⟨c137_z28, hc137_z28⟩ : ∃ z : UInt64, FP.dadd c137_z4 FP.dconst0 = z := ⟨_, rfl⟩
        obtain ⟨z146, hz146⟩ : ∃ z : Int32, cmpValue (FP.dcmp c137_z28 z132) .l = z := ⟨_, rfl⟩
        obtain ⟨c137_nn4, c137_br9, c137_br23, c137_nn28, dr⟩ := plT (by omega) dd hc137_z4 (by rw [← R1]; exact Int.not_lt.mp hs137) (Or.inr hs) hc137_z8 hc137_z22 hc137_z28
        have br147 : z146 = 0 := hz146.symm.trans (Jvm.OwnF.DV_eq0 dr (de.of_eq (R3 hs137)) _)
        obtain ⟨_, _, ⟨T11, L11, k11, n11⟩, -, X11, ⟨Lc11, hQ11, ql11, qy11, qz11⟩, st11⟩ := Jvm.LawKit.callS X0 hx (y := (⟨"com/example/lumenstand/lumenstand/scenario/Degrees", "bearing", "(D)D"⟩ : MethodName)) hown (mvT hZ (hw _ (List.mem_of_getElem? (i := 1) rfl))) (mvT hZ (hw _ (List.mem_of_getElem? (i := 2) rfl))) (mvT hZ (hw _ (List.mem_of_getElem? (i := 3) rfl))) (mvT hZ (hw _ (List.mem_of_getElem? (i := 4) rfl))) (by decide) (backOf (W := 0) (rm1_tf l Z a0 hw [] z111 c137_z4 c137_z8 c137_z22 c137_z28 h0 n0 Z0 hc137_z4 hc137_z8 hc137_z22 hc137_z28 c137_nn4 c137_br9 c137_br23 c137_nn28) hZ (hw _ (List.mem_of_getElem? (i := 4) rfl)) (hw _ (List.mem_of_getElem? (i := 3) rfl)) (by decide) (by decide)) (g := (mkF m 137 #[.val (.int p0), .val (.int p1), .val (.int p2), .val (.int z56), .val (.long z88), .second, .val (.long z96), .second, .val (.double z103), .second, .val (.double z111), .second, .val (.long z124), .second, .val (.double z132), .second, .unset, .unset] [(.double z111)])) rfl (by rw [hml]; rfl) (argsL := [(.double z111)]) (rest := []) (lenOf pd_0 rfl) rfl (by show 2 * 0 + _ ≤ _; exact Nat.le_of_eq rfl) (hb hby at_137) (fun _ _ => ⟨rfl, e0, (by decide : 0 + 0 ≤ _), (by decide : 0 + 0 ≤ _)⟩)
        dsimp only [Pt.U, Pt.locs, Pt.cells, Pt.slots] at X11 ql11 qy11 qz11 st11 hQ11
        subst ql11 qy11 qz11
        obtain ⟨rfl, N11q, e11⟩ := hQ11
        have N11 := Fr.app N0 N11q
        have c12 : ∀ t, Steps p.tables e below (T11.setTop (mkF m 155 #[.val (.int p0), .val (.int p1), .val (.int p2), .val (.int z56), .val (.long z88), .second, .val (.long z96), .second, .val (.double z103), .second, .val (.double z111), .second, .val (.long z124), .second, .val (.double z132), .second, .val (.double c137_z28), .second] [(.int (1 : Int32))])) t → Steps p.tables e below (s₁.setTop (entryFrame m #[(.int p0), (.int p1), (.int p2)] maxLocals)) t := by
          intro t k
          refine c8 t ?_
          show Steps p.tables e below (s₁.setTop (mkF m 137 #[.val (.int p0), .val (.int p1), .val (.int p2), .val (.int z56), .val (.long z88), .second, .val (.long z96), .second, .val (.double z103), .second, .val (.double z111), .second, .val (.long z124), .second, .val (.double z132), .second, .unset, .unset] [(.double z111)])) _
          refine st11 _ ?_
          show Steps p.tables e below (T11.setTop (mkF m 140 #[.val (.int p0), .val (.int p1), .val (.int p2), .val (.int z56), .val (.long z88), .second, .val (.long z96), .second, .val (.double z103), .second, .val (.double z111), .second, .val (.long z124), .second, .val (.double z132), .second, .unset, .unset] [(.double c137_z28)])) _
          refine XS.dstore X11.here hx rfl (hb hby at_140) rfl (l' := #[.val (.int p0), .val (.int p1), .val (.int p2), .val (.int z56), .val (.long z88), .second, .val (.long z96), .second, .val (.double z103), .second, .val (.double z111), .second, .val (.long z124), .second, .val (.double z132), .second, .val (.double c137_z28), .second]) rfl ?_
          show Steps p.tables e below (T11.setTop (mkF m 142 #[.val (.int p0), .val (.int p1), .val (.int p2), .val (.int z56), .val (.long z88), .second, .val (.long z96), .second, .val (.double z103), .second, .val (.double z111), .second, .val (.long z124), .second, .val (.double z132), .second, .val (.double c137_z28), .second] [])) _
          refine XS.dload X11.here hx rfl (hb hby at_142) rfl ?_
          show Steps p.tables e below (T11.setTop (mkF m 144 #[.val (.int p0), .val (.int p1), .val (.int p2), .val (.int z56), .val (.long z88), .second, .val (.long z96), .second, .val (.double z103), .second, .val (.double z111), .second, .val (.long z124), .second, .val (.double z132), .second, .val (.double c137_z28), .second] [(.double c137_z28)])) _
          refine XS.dload X11.here hx rfl (hb hby at_144) rfl ?_
          show Steps p.tables e below (T11.setTop (mkF m 146 #[.val (.int p0), .val (.int p1), .val (.int p2), .val (.int z56), .val (.long z88), .second, .val (.long z96), .second, .val (.double z103), .second, .val (.double z111), .second, .val (.long z124), .second, .val (.double z132), .second, .val (.double c137_z28), .second] [(.double z132), (.double c137_z28)])) _
          refine XS.dcmpS X11.here hx rfl (hb hby at_146) rfl hz146 ?_
          show Steps p.tables e below (T11.setTop (mkF m 147 #[.val (.int p0), .val (.int p1), .val (.int p2), .val (.int z56), .val (.long z88), .second, .val (.long z96), .second, .val (.double z103), .second, .val (.double z111), .second, .val (.long z124), .second, .val (.double z132), .second, .val (.double c137_z28), .second] [(.int z146)])) _
          refine XS.ifNo X11.here hx rfl (hb hby at_147) rfl (Jvm.Free.XT.i0_ne_f br147) ?_
          show Steps p.tables e below (T11.setTop (mkF m 150 #[.val (.int p0), .val (.int p1), .val (.int p2), .val (.int z56), .val (.long z88), .second, .val (.long z96), .second, .val (.double z103), .second, .val (.double z111), .second, .val (.long z124), .second, .val (.double z132), .second, .val (.double c137_z28), .second] [])) _
          refine XS.iconst X11.here hx rfl (hb hby at_150) ?_
          show Steps p.tables e below (T11.setTop (mkF m 151 #[.val (.int p0), .val (.int p1), .val (.int p2), .val (.int z56), .val (.long z88), .second, .val (.long z96), .second, .val (.double z103), .second, .val (.double z111), .second, .val (.long z124), .second, .val (.double z132), .second, .val (.double c137_z28), .second] [(.int (1 : Int32))])) _
          refine XS.goto X11.here hx rfl (pc0 := 151) (pc' := 155) rfl (hb hby at_151) (by decide) (by decide) ?_
          exact k
        obtain ⟨fs, hr, hrun, hended, hW, hsame⟩ := X11.leave (v := some (.int (1 : Int32))) (fun h => by rw [Bd.returns] at h; cases h)
        refine ⟨_, _, c12 _ ?_, hrun, hended, _, _, rfl, ?_, ⟨_, rfl⟩, hW, hsame.mono (by decide) (by decide)⟩
        · show Steps p.tables e below (T11.setTop (mkF m 155 #[.val (.int p0), .val (.int p1), .val (.int p2), .val (.int z56), .val (.long z88), .second, .val (.long z96), .second, .val (.double z103), .second, .val (.double z111), .second, .val (.long z124), .second, .val (.double z132), .second, .val (.double c137_z28), .second] [(.int (1 : Int32))])) _
          exact retOut X11 hx Bd.returns rfl (Or.inl ⟨rfl, by simp, _, rfl⟩) (hb hby at_155) hr
        · show Q0 n0 _ T11.heap _
          rw [e11]
          exact ⟨rfl, by first | assumption | exact N0⟩
  · skip
    obtain ⟨z7, hz7⟩ : ∃ z : UInt64, FP.i2d p0 = z := ⟨_, rfl⟩
    obtain ⟨z11, hz11⟩ : ∃ z : UInt64, FP.ddiv z7 (4787326403894837248 : UInt64) = z := ⟨_, rfl⟩
    obtain ⟨z15, hz15⟩ : ∃ z : UInt64, FP.ddiv z11 (4787326403894837248 : UInt64) = z := ⟨_, rfl⟩
    obtain ⟨nn11, nn15, dt⟩ := tiny hz7 hz11 hz15
    have c13 : ∀ t, Steps p.tables e below (s₁.setTop (mkF m 18 #[.val (.int p0), .val (.int p1), .val (.int p2), .val (.double z15), .second, .unset, .unset, .unset, .unset, .unset, .unset, .unset, .unset, .unset, .unset, .unset, .unset, .unset] [(.double z15)])) t → Steps p.tables e below (s₁.setTop (entryFrame m #[(.int p0), (.int p1), (.int p2)] maxLocals)) t := by
      intro t k
      refine c1 t ?_
      show Steps p.tables e below (s₁.setTop (mkF m 3 #[.val (.int p0), .val (.int p1), .val (.int p2), .unset, .unset, .unset, .unset, .unset, .unset, .unset, .unset, .unset, .unset, .unset, .unset, .unset, .unset, .unset] [(.int z2)])) _
      refine XS.ifNo X0.here hx rfl (hb hby at_3) rfl (Jvm.Free.XT.i0_eq_f hb3) ?_
      show Steps p.tables e below (s₁.setTop (mkF m 6 #[.val (.int p0), .val (.int p1), .val (.int p2), .unset, .unset, .unset, .unset, .unset, .unset, .unset, .unset, .unset, .unset, .unset, .unset, .unset, .unset, .unset] [])) _
      refine XS.iloadN X0.here hx rfl (hb hby at_6) rfl ?_
      show Steps p.tables e below (s₁.setTop (mkF m 7 #[.val (.int p0), .val (.int p1), .val (.int p2), .unset, .unset, .unset, .unset, .unset, .unset, .unset, .unset, .unset, .unset, .unset, .unset, .unset, .unset, .unset] [(.int p0)])) _
      refine XS.i2dS X0.here hx rfl (hb hby at_7) rfl hz7 ?_
      show Steps p.tables e below (s₁.setTop (mkF m 8 #[.val (.int p0), .val (.int p1), .val (.int p2), .unset, .unset, .unset, .unset, .unset, .unset, .unset, .unset, .unset, .unset, .unset, .unset, .unset, .unset, .unset] [(.double z7)])) _
      refine X0.ldc2DoubleC hx hown (mvT hZ (hw _ (List.mem_of_getElem? (i := 6) rfl))) (g := (mkF m 8 #[.val (.int p0), .val (.int p1), .val (.int p2), .unset, .unset, .unset, .unset, .unset, .unset, .unset, .unset, .unset, .unset, .unset, .unset, .unset, .unset, .unset] [(.double z7)])) rfl (hb hby at_8) _ ?_
      show Steps p.tables e below (s₁.setTop (mkF m 11 #[.val (.int p0), .val (.int p1), .val (.int p2), .unset, .unset, .unset, .unset, .unset, .unset, .unset, .unset, .unset, .unset, .unset, .unset, .unset, .unset, .unset] [(.double (4787326403894837248 : UInt64)), (.double z7)])) _
      refine Jvm.OwnK.ddiv X0.here hx rfl (hb hby at_11) rfl hz11 nn11 ?_
      show Steps p.tables e below (s₁.setTop (mkF m 12 #[.val (.int p0), .val (.int p1), .val (.int p2), .unset, .unset, .unset, .unset, .unset, .unset, .unset, .unset, .unset, .unset, .unset, .unset, .unset, .unset, .unset] [(.double z11)])) _
      refine X0.ldc2DoubleC hx hown (mvT hZ (hw _ (List.mem_of_getElem? (i := 6) rfl))) (g := (mkF m 12 #[.val (.int p0), .val (.int p1), .val (.int p2), .unset, .unset, .unset, .unset, .unset, .unset, .unset, .unset, .unset, .unset, .unset, .unset, .unset, .unset, .unset] [(.double z11)])) rfl (hb hby at_12) _ ?_
      show Steps p.tables e below (s₁.setTop (mkF m 15 #[.val (.int p0), .val (.int p1), .val (.int p2), .unset, .unset, .unset, .unset, .unset, .unset, .unset, .unset, .unset, .unset, .unset, .unset, .unset, .unset, .unset] [(.double (4787326403894837248 : UInt64)), (.double z11)])) _
      refine Jvm.OwnK.ddiv X0.here hx rfl (hb hby at_15) rfl hz15 nn15 ?_
      show Steps p.tables e below (s₁.setTop (mkF m 16 #[.val (.int p0), .val (.int p1), .val (.int p2), .unset, .unset, .unset, .unset, .unset, .unset, .unset, .unset, .unset, .unset, .unset, .unset, .unset, .unset, .unset] [(.double z15)])) _
      refine XS.dstoreN X0.here hx rfl (hb hby at_16) rfl (l' := #[.val (.int p0), .val (.int p1), .val (.int p2), .val (.double z15), .second, .unset, .unset, .unset, .unset, .unset, .unset, .unset, .unset, .unset, .unset, .unset, .unset, .unset]) rfl ?_
      show Steps p.tables e below (s₁.setTop (mkF m 17 #[.val (.int p0), .val (.int p1), .val (.int p2), .val (.double z15), .second, .unset, .unset, .unset, .unset, .unset, .unset, .unset, .unset, .unset, .unset, .unset, .unset, .unset] [])) _
      refine XS.dloadN X0.here hx rfl (hb hby at_17) rfl ?_
      exact k
    by_cases hs18 : p0 < 0
    · skip
      obtain ⟨c18_z4, hc18_z4⟩ : ∃ z : UInt64, FP.drem z15 (4645040803167600640 : UInt64) = z := ⟨_, rfl⟩
      obtain ⟨c18_z8, hc18_z8⟩ : ∃ z : Int32, cmpValue (FP.dcmp c18_z4 FP.dconst0) .g = z := ⟨_, rfl⟩
      obtain ⟨c18_z16, hc18_z16⟩ : ∃ z : UInt64, FP.dadd c18_z4 (4645040803167600640 : UInt64) = z := ⟨_, rfl⟩
      obtain ⟨c18_z22, hc18_z22⟩ : ∃ z : Int32, cmpValue (FP.dcmp c18_z16 (4645040803167600640 : UInt64)) .g = z := ⟨_, rfl⟩
      obtain ⟨z43, hz43⟩ : ∃ z : Int32, cmpValue (FP.dcmp FP.dconst0 FP.dconst0) .l = z := ⟨_, rfl⟩
      obtain ⟨c18_nn4, c18_br9, c18_nn16, c18_br23⟩ := plN dt (by rw [Int32.lt_iff_toInt_lt] at hs18; exact hs18) hc18_z4 hc18_z8 hc18_z16 hc18_z22
      have br44 : z43 = 0 := hz43.symm.trans (Jvm.OwnF.DV_eq0 Jvm.OwnF.DV_0 Jvm.OwnF.DV_0 _)
      obtain ⟨_, _, ⟨T14, L14, k14, n14⟩, -, X14, ⟨Lc14, hQ14, ql14, qy14, qz14⟩, st14⟩ := Jvm.LawKit.callS X0 hx (y := (⟨"com/example/lumenstand/lumenstand/scenario/Degrees", "bearing", "(D)D"⟩ : MethodName)) hown (mvT hZ (hw _ (List.mem_of_getElem? (i := 1) rfl))) (mvT hZ (hw _ (List.mem_of_getElem? (i := 2) rfl))) (mvT hZ (hw _ (List.mem_of_getElem? (i := 3) rfl))) (mvT hZ (hw _ (List.mem_of_getElem? (i := 4) rfl))) (by decide) (backOf (W := 0) (rm1_ft l Z a0 hw [] z15 c18_z4 c18_z8 c18_z16 c18_z22 h0 n0 Z0 hc18_z4 hc18_z8 hc18_z16 hc18_z22 c18_nn4 c18_br9 c18_nn16 c18_br23) hZ (hw _ (List.mem_of_getElem? (i := 4) rfl)) (hw _ (List.mem_of_getElem? (i := 3) rfl)) (by decide) (by decide)) (g := (mkF m 18 #[.val (.int p0), .val (.int p1), .val (.int p2), .val (.double z15), .second, .unset, .unset, .unset, .unset, .unset, .unset, .unset, .unset, .unset, .unset, .unset, .unset, .unset] [(.double z15)])) rfl (by rw [hml]; rfl) (argsL := [(.double z15)]) (rest := []) (lenOf pd_0 rfl) rfl (by show 2 * 0 + _ ≤ _; exact Nat.le_of_eq rfl) (hb hby at_18) (fun _ _ => ⟨rfl, e0, (by decide : 0 + 0 ≤ _), (by decide : 0 + 0 ≤ _)⟩)
      dsimp only [Pt.U, Pt.locs, Pt.cells, Pt.slots] at X14 ql14 qy14 qz14 st14 hQ14
      subst ql14 qy14 qz14
      obtain ⟨rfl, N14q, e14⟩ := hQ14
      have N14 := Fr.app N0 N14q
      have c15 : ∀ t, Steps p.tables e below (T14.setTop (mkF m 52 #[.val (.int p0), .val (.int p1), .val (.int p2), .val (.double z15), .second, .val (.double FP.dconst0), .second, .unset, .unset, .unset, .unset, .unset, .unset, .unset, .unset, .unset, .unset, .unset] [(.int (1 : Int32))])) t → Steps p.tables e below (s₁.setTop (entryFrame m #[(.int p0), (.int p1), (.int p2)] maxLocals)) t := by
        intro t k
        refine c13 t ?_
        show Steps p.tables e below (s₁.setTop (mkF m 18 #[.val (.int p0), .val (.int p1), .val (.int p2), .val (.double z15), .second, .unset, .unset, .unset, .unset, .unset, .unset, .unset, .unset, .unset, .unset, .unset, .unset, .unset] [(.double z15)])) _
        refine st14 _ ?_
        show Steps p.tables e below (T14.setTop (mkF m 21 #[.val (.int p0), .val (.int p1), .val (.int p2), .val (.double z15), .second, .unset, .unset, .unset, .unset, .unset, .unset, .unset, .unset, .unset, .unset, .unset, .unset, .unset] [(.double FP.dconst0)])) _
        refine XS.dstore X14.here hx rfl (hb hby at_21) rfl (l' := #[.val (.int p0), .val (.int p1), .val (.int p2), .val (.double z15), .second, .val (.double FP.dconst0), .second, .unset, .unset, .unset, .unset, .unset, .unset, .unset, .unset, .unset, .unset, .unset]) rfl ?_
        show Steps p.tables e below (T14.setTop (mkF m 23 #[.val (.int p0), .val (.int p1), .val (.int p2), .val (.double z15), .second, .val (.double FP.dconst0), .second, .unset, .unset, .unset, .unset, .unset, .unset, .unset, .unset, .unset, .unset, .unset] [])) _
        refine XS.iloadN X14.here hx rfl (hb hby at_23) rfl ?_
        show Steps p.tables e below (T14.setTop (mkF m 24 #[.val (.int p0), .val (.int p1), .val (.int p2), .val (.double z15), .second, .val (.double FP.dconst0), .second, .unset, .unset, .unset, .unset, .unset, .unset, .unset, .unset, .unset, .unset, .unset] [(.int p0)])) _
        refine XS.ifYes X14.here hx rfl (pc0 := 24) (pc' := 40) rfl (hb hby at_24) rfl (Jvm.Free.XT.i0_lt_t hs18) (by decide) (by decide) ?_
        show Steps p.tables e below (T14.setTop (mkF m 40 #[.val (.int p0), .val (.int p1), .val (.int p2), .val (.double z15), .second, .val (.double FP.dconst0), .second, .unset, .unset, .unset, .unset, .unset, .unset, .unset, .unset, .unset, .unset, .unset] [])) _
        refine XS.dload X14.here hx rfl (hb hby at_40) rfl ?_
        show Steps p.tables e below (T14.setTop (mkF m 42 #[.val (.int p0), .val (.int p1), .val (.int p2), .val (.double z15), .second, .val (.double FP.dconst0), .second, .unset, .unset, .unset, .unset, .unset, .unset, .unset, .unset, .unset, .unset, .unset] [(.double FP.dconst0)])) _
        refine XS.dconst0 X14.here hx rfl (hb hby at_42) (v := FP.dconst0) rfl ?_
        show Steps p.tables e below (T14.setTop (mkF m 43 #[.val (.int p0), .val (.int p1), .val (.int p2), .val (.double z15), .second, .val (.double FP.dconst0), .second, .unset, .unset, .unset, .unset, .unset, .unset, .unset, .unset, .unset, .unset, .unset] [(.double FP.dconst0), (.double FP.dconst0)])) _
        refine XS.dcmpS X14.here hx rfl (hb hby at_43) rfl hz43 ?_
        show Steps p.tables e below (T14.setTop (mkF m 44 #[.val (.int p0), .val (.int p1), .val (.int p2), .val (.double z15), .second, .val (.double FP.dconst0), .second, .unset, .unset, .unset, .unset, .unset, .unset, .unset, .unset, .unset, .unset, .unset] [(.int z43)])) _
        refine XS.ifNo X14.here hx rfl (hb hby at_44) rfl (Jvm.Free.XT.i0_ne_f br44) ?_
        show Steps p.tables e below (T14.setTop (mkF m 47 #[.val (.int p0), .val (.int p1), .val (.int p2), .val (.double z15), .second, .val (.double FP.dconst0), .second, .unset, .unset, .unset, .unset, .unset, .unset, .unset, .unset, .unset, .unset, .unset] [])) _
        refine XS.iconst X14.here hx rfl (hb hby at_47) ?_
        show Steps p.tables e below (T14.setTop (mkF m 48 #[.val (.int p0), .val (.int p1), .val (.int p2), .val (.double z15), .second, .val (.double FP.dconst0), .second, .unset, .unset, .unset, .unset, .unset, .unset, .unset, .unset, .unset, .unset, .unset] [(.int (1 : Int32))])) _
        refine XS.goto X14.here hx rfl (pc0 := 48) (pc' := 52) rfl (hb hby at_48) (by decide) (by decide) ?_
        exact k
      obtain ⟨fs, hr, hrun, hended, hW, hsame⟩ := X14.leave (v := some (.int (1 : Int32))) (fun h => by rw [Bd.returns] at h; cases h)
      refine ⟨_, _, c15 _ ?_, hrun, hended, _, _, rfl, ?_, ⟨_, rfl⟩, hW, hsame.mono (by decide) (by decide)⟩
      · show Steps p.tables e below (T14.setTop (mkF m 52 #[.val (.int p0), .val (.int p1), .val (.int p2), .val (.double z15), .second, .val (.double FP.dconst0), .second, .unset, .unset, .unset, .unset, .unset, .unset, .unset, .unset, .unset, .unset, .unset] [(.int (1 : Int32))])) _
        exact retOut X14 hx Bd.returns rfl (Or.inl ⟨rfl, by simp, _, rfl⟩) (hb hby at_52) hr
      · show Q0 n0 _ T14.heap _
        rw [e14]
        exact ⟨rfl, by first | assumption | exact N0⟩
    · skip
      obtain ⟨c18_z4, hc18_z4⟩ : ∃ z : UInt64, FP.drem z15 (4645040803167600640 : UInt64) = z := ⟨_, rfl⟩
      obtain ⟨c18_z8, hc18_z8⟩ : ∃ z : Int32, cmpValue (FP.dcmp c18_z4 FP.dconst0) .g = z := ⟨_, rfl⟩
      obtain ⟨c18_z22, hc18_z22⟩ : ∃ z : Int32, cmpValue (FP.dcmp c18_z4 (4645040803167600640 : UInt64)) .g = z := ⟨_, rfl⟩
      obtain ⟨c18_z28, hc18_z28⟩ : ∃ z : UInt64, FP.dadd c18_z4 FP.dconst0 = z := ⟨_, rfl⟩
      obtain ⟨z30, hz30⟩ : ∃ z : Int32, cmpValue (FP.dcmp c18_z28 z15) .l = z := ⟨_, rfl⟩
      obtain ⟨c18_nn4, c18_br9, c18_br23, c18_nn28, dr⟩ := plT (s := 80) (by decide) dt hc18_z4 (by rw [tinyrem]; rw [Int32.lt_iff_toInt_lt] at hs18; exact Int.not_lt.mp hs18) (Or.inl (by have := Jvm.OwnF.rng32b p0; omega)) hc18_z8 hc18_z22 hc18_z28
      rw [tinyrem] at dr
      have br31 : z30 = 0 := hz30.symm.trans (Jvm.OwnF.DV_eq0 dr dt _)
      obtain ⟨_, _, ⟨T16, L16, k16, n16⟩, -, X16, ⟨Lc16, hQ16, ql16, qy16, qz16⟩, st16⟩ := Jvm.LawKit.callS X0 hx (y := (⟨"com/example/lumenstand/lumenstand/scenario/Degrees", "bearing", "(D)D"⟩ : MethodName)) hown (mvT hZ (hw _ (List.mem_of_getElem? (i := 1) rfl))) (mvT hZ (hw _ (List.mem_of_getElem? (i := 2) rfl))) (mvT hZ (hw _ (List.mem_of_getElem? (i := 3) rfl))) (mvT hZ (hw _ (List.mem_of_getElem? (i := 4) rfl))) (by decide) (backOf (W := 0) (rm1_tf l Z a0 hw [] z15 c18_z4 c18_z8 c18_z22 c18_z28 h0 n0 Z0 hc18_z4 hc18_z8 hc18_z22 hc18_z28 c18_nn4 c18_br9 c18_br23 c18_nn28) hZ (hw _ (List.mem_of_getElem? (i := 4) rfl)) (hw _ (List.mem_of_getElem? (i := 3) rfl)) (by decide) (by decide)) (g := (mkF m 18 #[.val (.int p0), .val (.int p1), .val (.int p2), .val (.double z15), .second, .unset, .unset, .unset, .unset, .unset, .unset, .unset, .unset, .unset, .unset, .unset, .unset, .unset] [(.double z15)])) rfl (by rw [hml]; rfl) (argsL := [(.double z15)]) (rest := []) (lenOf pd_0 rfl) rfl (by show 2 * 0 + _ ≤ _; exact Nat.le_of_eq rfl) (hb hby at_18) (fun _ _ => ⟨rfl, e0, (by decide : 0 + 0 ≤ _), (by decide : 0 + 0 ≤ _)⟩)
      dsimp only [Pt.U, Pt.locs, Pt.cells, Pt.slots] at X16 ql16 qy16 qz16 st16 hQ16
      subst ql16 qy16 qz16
      obtain ⟨rfl, N16q, e16⟩ := hQ16
      have N16 := Fr.app N0 N16q
      have c17 : ∀ t, Steps p.tables e below (T16.setTop (mkF m 39 #[.val (.int p0), .val (.int p1), .val (.int p2), .val (.double z15), .second, .val (.double c18_z28), .second, .unset, .unset, .unset, .unset, .unset, .unset, .unset, .unset, .unset, .unset, .unset] [(.int (1 : Int32))])) t → Steps p.tables e below (s₁.setTop (entryFrame m #[(.int p0), (.int p1), (.int p2)] maxLocals)) t := by
        intro t k
        refine c13 t ?_
        show Steps p.tables e below (s₁.setTop (mkF m 18 #[.val (.int p0), .val (.int p1), .val (.int p2), .val (.double z15), .second, .unset, .unset, .unset, .unset, .unset, .unset, .unset, .unset, .unset, .unset, .unset, .unset, .unset] [(.double z15)])) _
        refine st16 _ ?_
        show Steps p.tables e below (T16.setTop (mkF m 21 #[.val (.int p0), .val (.int p1), .val (.int p2), .val (.double z15), .second, .unset, .unset, .unset, .unset, .unset, .unset, .unset, .unset, .unset, .unset, .unset, .unset, .unset] [(.double c18_z28)])) _
        refine XS.dstore X16.here hx rfl (hb hby at_21) rfl (l' := #[.val (.int p0), .val (.int p1), .val (.int p2), .val (.double z15), .second, .val (.double c18_z28), .second, .unset, .unset, .unset, .unset, .unset, .unset, .unset, .unset, .unset, .unset, .unset]) rfl ?_
        show Steps p.tables e below (T16.setTop (mkF m 23 #[.val (.int p0), .val (.int p1), .val (.int p2), .val (.double z15), .second, .val (.double c18_z28), .second, .unset, .unset, .unset, .unset, .unset, .unset, .unset, .unset, .unset, .unset, .unset] [])) _
        refine XS.iloadN X16.here hx rfl (hb hby at_23) rfl ?_
        show Steps p.tables e below (T16.setTop (mkF m 24 #[.val (.int p0), .val (.int p1), .val (.int p2), .val (.double z15), .second, .val (.double c18_z28), .second, .unset, .unset, .unset, .unset, .unset, .unset, .unset, .unset, .unset, .unset, .unset] [(.int p0)])) _
        refine XS.ifNo X16.here hx rfl (hb hby at_24) rfl (Jvm.Free.XT.i0_lt_f hs18) ?_
        show Steps p.tables e below (T16.setTop (mkF m 27 #[.val (.int p0), .val (.int p1), .val (.int p2), .val (.double z15), .second, .val (.double c18_z28), .second, .unset, .unset, .unset, .unset, .unset, .unset, .unset, .unset, .unset, .unset, .unset] [])) _
        refine XS.dload X16.here hx rfl (hb hby at_27) rfl ?_
        show Steps p.tables e below (T16.setTop (mkF m 29 #[.val (.int p0), .val (.int p1), .val (.int p2), .val (.double z15), .second, .val (.double c18_z28), .second, .unset, .unset, .unset, .unset, .unset, .unset, .unset, .unset, .unset, .unset, .unset] [(.double c18_z28)])) _
        refine XS.dloadN X16.here hx rfl (hb hby at_29) rfl ?_
        show Steps p.tables e below (T16.setTop (mkF m 30 #[.val (.int p0), .val (.int p1), .val (.int p2), .val (.double z15), .second, .val (.double c18_z28), .second, .unset, .unset, .unset, .unset, .unset, .unset, .unset, .unset, .unset, .unset, .unset] [(.double z15), (.double c18_z28)])) _
        refine XS.dcmpS X16.here hx rfl (hb hby at_30) rfl hz30 ?_
        show Steps p.tables e below (T16.setTop (mkF m 31 #[.val (.int p0), .val (.int p1), .val (.int p2), .val (.double z15), .second, .val (.double c18_z28), .second, .unset, .unset, .unset, .unset, .unset, .unset, .unset, .unset, .unset, .unset, .unset] [(.int z30)])) _
        refine XS.ifNo X16.here hx rfl (hb hby at_31) rfl (Jvm.Free.XT.i0_ne_f br31) ?_
        show Steps p.tables e below (T16.setTop (mkF m 34 #[.val (.int p0), .val (.int p1), .val (.int p2), .val (.double z15), .second, .val (.double c18_z28), .second, .unset, .unset, .unset, .unset, .unset, .unset, .unset, .unset, .unset, .unset, .unset] [])) _
        refine XS.iconst X16.here hx rfl (hb hby at_34) ?_
        show Steps p.tables e below (T16.setTop (mkF m 35 #[.val (.int p0), .val (.int p1), .val (.int p2), .val (.double z15), .second, .val (.double c18_z28), .second, .unset, .unset, .unset, .unset, .unset, .unset, .unset, .unset, .unset, .unset, .unset] [(.int (1 : Int32))])) _
        refine XS.goto X16.here hx rfl (pc0 := 35) (pc' := 39) rfl (hb hby at_35) (by decide) (by decide) ?_
        exact k
      obtain ⟨fs, hr, hrun, hended, hW, hsame⟩ := X16.leave (v := some (.int (1 : Int32))) (fun h => by rw [Bd.returns] at h; cases h)
      refine ⟨_, _, c17 _ ?_, hrun, hended, _, _, rfl, ?_, ⟨_, rfl⟩, hW, hsame.mono (by decide) (by decide)⟩
      · show Steps p.tables e below (T16.setTop (mkF m 39 #[.val (.int p0), .val (.int p1), .val (.int p2), .val (.double z15), .second, .val (.double c18_z28), .second, .unset, .unset, .unset, .unset, .unset, .unset, .unset, .unset, .unset, .unset, .unset] [(.int (1 : Int32))])) _
        exact retOut X16 hx Bd.returns rfl (Or.inl ⟨rfl, by simp, _, rfl⟩) (hb hby at_39) hr
      · show Q0 n0 _ T16.heap _
        rw [e16]
        exact ⟨rfl, by first | assumption | exact N0⟩
set_option maxRecDepth 65536 in
set_option maxHeartbeats 40000000 in
theorem comes_1 {Post : Tables → Env → Array Value → State → Outcome → State → Prop} (hpost : ∀ tb e args s v u, (limb_1_1.after args s (.returned v) u = true ∧ limb_1_2.after args s (.returned v) u = true ∧ True) → FrameEnd s (.returned v) u (Jvm.fieldLocs frame_1_writes args s ++ Jvm.arrayLocs frame_1_arrays args s ++ Jvm.staticLocs frame_1_statics s) 0 0 → Post tb e args s (.returned v) u) :
    ArmFor flags0 classFile x code maxLocals ret World_1 tables_1 room_1 Calls_1 rest_1 Pre_1 Post := by
  intro l hfl _ _ p e ha hc hk s m args below hf hA hF happ hP
  obtain ⟨hcalls, hrest, hpre⟩ := hP
  obtain ⟨-, -, -, hnamed, -, -, -, hat⟩ := (Spec.applies_iff hf).mp happ
  obtain ⟨hg, hn⟩ := and_e (Cond.before_iff.mp (show (Jvm.Cond.and given_1 narrow_1).before args s = true from hpre))
  obtain ⟨g1, g2⟩ := and_e hg
  obtain ⟨g3, g4⟩ := and_e g2
  obtain ⟨g5, g6⟩ := and_e g4
  obtain ⟨w0, w1, w2, rfl⟩ : ∃ w0 w1 w2 : Value, args = #[w0, w1, w2] := by
    have hs : args.size = 3 := by simpa [Cond.value, given_1] using g1
    obtain ⟨L⟩ := args
    match L, hs with
    | [w0, w1, w2], _ => exact ⟨w0, w1, w2, rfl⟩
  have hw := fun d (hd : d ∈ tables_1) => atoms_spec (ws := Jvm.Cond.code x code maxLocals ret :: tables_1) hat d (List.mem_cons_of_mem _ hd)
  have hfit : Fit s := fun {y c} hc i hi => by
    obtain ⟨ha, rfl⟩ := Array.getElem?_eq_some_iff.mp hc
    have q := List.all_eq_true.mp ((Array.all_eq_true_iff_forall_mem.mp hF) _ (Array.getElem_mem ha)) i (List.mem_range.mpr hi)
    simpa [Array.getElem?_eq_getElem hi] using q
  obtain ⟨i0, ei0⟩ := is_v g3
  obtain rfl : w0 = (.int i0) := Option.some.inj ei0
  obtain ⟨i1, ei1⟩ := is_v g5
  obtain rfl : w1 = (.int i1) := Option.some.inj ei1
  obtain ⟨i2, ei2⟩ := is_v g6
  obtain rfl : w2 = (.int i2) := Option.some.inj ei2
  obtain ⟨n, o, h1, h2, h3, _, L, rfl, ⟨rfl, N⟩, hq⟩ := rm0 l s _ hw tables_1 i0 i1 i2  s.heap s.heap.size (Nat.le_refl _)  p e ha hc hk s m _ below hf ((Spec.applies_iff_loose hf).mp happ).1 ⟨rfl, State.Warmed39.refl s, rfl⟩ trivial
  refine ⟨n, _, h1, h2, h3, hpost _ _ _ _ _ _ ⟨Cond.after_iff.mpr rfl, Cond.after_iff.mpr (eq_i res_at (Term.int_eval (1)) rfl), trivial⟩ ⟨hq.1, hq.2.1, (hq.2.2.sift fun y hy => Or.inr (N y hy)).mono (by decide) (by decide)⟩⟩
theorem main_1_1 : Claimed_1_1 := comes_1 fun _ _ _ _ _ _ h hF => ⟨h.1, hF⟩
theorem main_1_2 : Claimed_1_2 := comes_1 fun _ _ _ _ _ _ h hF => ⟨h.2.1, hF⟩
end Jvm.Pilot.@@N@@
namespace Jvm.Pilot.@@N@@
open Jvm Jvm.ClassFile Sem Op Lib Jvm.Free Jvm.Stand Jvm.Pilot.@@N@@.Jvm.D
/-! MADE BY PROGRAM (witnessworld.py) out of the Statement's table words and the real class files: 9 classes; the members and pool entries that the words name. The judged class is class 1, her method 1. -/
namespace start1
open Jvm.ClassFile
def u (s : String) : CpInfo := .utf8 (stringToUtf16 s)
/-- a pool by its gaps: so many unusable entries, then the entry; so many at the end -/
def gap : Nat → List CpInfo → List CpInfo
  | 0, r => r
  | n + 1, r => .unusable :: gap n r
def poolList (es : List (Nat × CpInfo)) (last : Nat) : List CpInfo := es.foldr (fun e r => gap e.1 (e.2 :: r)) (gap last [])
def pool (es : List (Nat × CpInfo)) (last : Nat) : Array CpInfo := ⟨poolList es last⟩
def fileOf (pool : Array CpInfo) (this : Nat) (attrs : Array Attribute := #[]) (ms : Array MethodInfo := #[]) (fl : Nat := 33) (sup : Nat := 0) (ifs : Array Nat := #[]) (fds : Array FieldInfo := #[]) : ClassFile where
  minorVersion := 0
  majorVersion := 65
  constantPool := pool
  accessFlags := fl
  thisClass := this
  superClass := sup
  interfaces := ifs
  fields := fds
  methods := ms
  attributes := attrs
def plain (name : String) (sup : Option ClassId) : Class where
  name := name
  kind := .ordinary
  loader := none
  accessFlags := 33
  super := sup
  interfaces := #[]
  cf := none
  fields := #[]
  methods := #[]
  instanceTypes := #[]
  staticTypes := #[]
  resolved := #[]
  callSites := []
  init := .initialized
  statics := none
  mirror := none

def pool0 : Array CpInfo := pool [(5, u "<init>"), (0, u "()V"), (1, .class_ 10), (1, u "java/lang/Object")] 113

def k0m0 : Method := { name := "<init>", desc := "()V", sig := { parameters := [], returnType := none }, accessFlags := 1, code := none }
/-- java/lang/Object -/
def k0 : Class := { plain "java/lang/Object" none with
  accessFlags := 33
  interfaces := #[]
  cf := some (fileOf pool0 8 #[] #[{ accessFlags := 1, nameIndex := 5, descriptorIndex := 6, attributes := #[] }] 33 0 #[] #[])
  fields := #[]
  methods := #[k0m0]
  instanceTypes := #[]
  staticTypes := #[]
  resolved := Array.replicate 124 none
  statics := none }

def pool1 : Array CpInfo := pool [(2, .class_ 4), (1, u "java/lang/Object"), (0, u "<init>"), (0, u "()V"), (0, .double 4787326403894837248), (1, .methodref 10 11), (0, .class_ 12), (0, .nameAndType 13 14), (0, u "com/example/lumenstand/lumenstand/scenario/Degrees"), (0, u "bearing"), (0, u "(D)D"), (0, .long 360), (1, .class_ 18), (0, u "com/example/lumenstand/lumenstand/scenario/DegreesBearingPinLaw"), (2, u "law"), (0, u "(III)Z")] 3

def k1m0 : Method := { name := "<init>", desc := "()V", sig := { parameters := [], returnType := none }, accessFlags := 2, code := none }
def k1c1 : Code := { maxStack := 4, maxLocals := 18, code := code, exceptionTable := #[], attributes := #[] }
def k1m1 : Method := { name := "law", desc := "(III)Z", sig := { parameters := [.int, .int, .int], returnType := some .boolean }, accessFlags := 9, code := some k1c1 }
/-- com/example/lumenstand/lumenstand/scenario/DegreesBearingPinLaw -/
def k1 : Class := { plain "com/example/lumenstand/lumenstand/scenario/DegreesBearingPinLaw" (some 0) with
  accessFlags := 49
  interfaces := #[]
  cf := some (fileOf pool1 17 #[] #[{ accessFlags := 2, nameIndex := 5, descriptorIndex := 6, attributes := #[] }, { accessFlags := 9, nameIndex := 21, descriptorIndex := 22, attributes := #[] }] 49 2 #[] #[])
  fields := #[]
  methods := #[k1m0, k1m1]
  instanceTypes := #[]
  staticTypes := #[]
  resolved := Array.replicate 26 none
  statics := none }

def pool2 : Array CpInfo := pool [(2, .class_ 4), (1, u "java/lang/Object"), (0, u "<init>"), (0, u "()V"), (1, .class_ 10), (1, u "com/example/lumenstand/lumenstand/scenario/Degrees"), (2, .double 4645040803167600640), (8, u "(D)D"), (8, u "bearing")] 3

def k2m0 : Method := { name := "<init>", desc := "()V", sig := { parameters := [], returnType := none }, accessFlags := 2, code := none }
def k2c1 : Code := { maxStack := 4, maxLocals := 4, code := prog_30_method_4_code, exceptionTable := #[], attributes := #[] }
def k2m1 : Method := { name := "bearing", desc := "(D)D", sig := { parameters := [.double], returnType := some .double }, accessFlags := 9, code := some k2c1 }
/-- com/example/lumenstand/lumenstand/scenario/Degrees -/
def k2 : Class := { plain "com/example/lumenstand/lumenstand/scenario/Degrees" (some 0) with
  accessFlags := 49
  interfaces := #[]
  cf := some (fileOf pool2 8 #[] #[{ accessFlags := 2, nameIndex := 5, descriptorIndex := 6, attributes := #[] }, { accessFlags := 9, nameIndex := 31, descriptorIndex := 22, attributes := #[] }] 49 2 #[] #[])
  fields := #[]
  methods := #[k2m0, k2m1]
  instanceTypes := #[]
  staticTypes := #[]
  resolved := Array.replicate 35 none
  statics := none }

def pool3 : Array CpInfo := pool [(1, u "java/lang/Cloneable"), (0, .class_ 1), (0, u "java/lang/Object"), (0, .class_ 3)] 3

/-- java/lang/Cloneable -/
def k3 : Class := { plain "java/lang/Cloneable" (some 0) with
  accessFlags := 1537
  interfaces := #[]
  cf := some (fileOf pool3 2 #[] #[] 1537 4 #[] #[])
  fields := #[]
  methods := #[]
  instanceTypes := #[]
  staticTypes := #[]
  resolved := Array.replicate 8 none
  statics := none }

def pool4 : Array CpInfo := pool [(1, u "java/io/Serializable"), (0, .class_ 1), (0, u "java/lang/Object"), (0, .class_ 3)] 3

/-- java/io/Serializable -/
def k4 : Class := { plain "java/io/Serializable" (some 0) with
  accessFlags := 1537
  interfaces := #[]
  cf := some (fileOf pool4 2 #[] #[] 1537 4 #[] #[])
  fields := #[]
  methods := #[]
  instanceTypes := #[]
  staticTypes := #[]
  resolved := Array.replicate 8 none
  statics := none }

/-- the primitive byte -/
def k5 : Class := { plain "byte" none with kind := .primitive 'B', accessFlags := 0x411 }
/-- [B -/
def k6 : Class := { plain "[B" (some 0) with kind := .array 5 .byte, interfaces := #[3, 4], accessFlags := 1041 }

/-- the primitive int -/
def k7 : Class := { plain "int" none with kind := .primitive 'I', accessFlags := 0x411 }
/-- [I -/
def k8 : Class := { plain "[I" (some 0) with kind := .array 7 .int, interfaces := #[3, 4], accessFlags := 1041 }

def heap : Heap := #[]
def classes : Array Class := #[k0, k1, k2, k3, k4, k5, k6, k7, k8]
def interned : List (Array UInt16 × Addr) := []
def slotsUsed : Nat := 0
def theMethod : MethodId := ⟨1, 1⟩
def args0 : Array Value := #[.int 5, .int 5, .int 5]
def aboutOver (below : List Frame) : State where
  vm := { classes := classes, interned := interned.toArray }
  heap := heap
  slotsUsed := slotsUsed
  threads := #[{ frames := .invoking theMethod args0 :: below }]
def below0 : List Frame := [.native { method := ⟨0, 0⟩, args := #[] }]
def about1 : State := aboutOver below0
def p0 : Program := .bare "" "" ""
def e0 : Env := launch0.env 0 0 0
theorem w_frames : about1.frames = Frame.invoking theMethod args0 :: below0 := rfl
set_option maxRecDepth 65536 in
theorem w_args : argsFit about1.vm theMethod args0 = true := by decide +kernel
set_option maxRecDepth 65536 in
theorem w_heap : heapFits about1 = true := by decide +kernel
set_option maxRecDepth 65536 in
theorem w_runnable : about1.curStatus? = some .runnable := by decide +kernel
set_option maxRecDepth 65536 in
theorem w_alone : about1.alone = true := by decide +kernel
set_option maxRecDepth 65536 in
theorem w_named : about1.methodNamed? x = some theMethod := by decide +kernel
set_option maxRecDepth 65536 in
theorem w_hears : about1.hears theMethod below0 = true := by decide +kernel
set_option maxRecDepth 65536 in
theorem w_ripe : about1.ripe theMethod args0 below0 = true := by decide +kernel
theorem w_running : about1.status = .running := rfl
set_option maxRecDepth 65536 in
theorem w_room : about1.hasRoom e0.platform room_1 = true :=
  launch0.hasRoom_least _ room_1 (by decide +kernel) (by decide +kernel) (by decide +kernel) (by decide +kernel) (by decide +kernel) (by decide +kernel)
theorem allAtoms_all (ts : List Jvm.Cond) (a : Array Jvm.Value) (st : Jvm.State) : (allAtoms ts).before a st = ts.all (fun c => c.before a st) := by
  induction ts with
  | nil => rfl
  | cons c t ih =>
    show (Jvm.Cond.and c (allAtoms t)).before a st = _
    rw [Jvm.Cond.before_and, ih, List.all_cons]
def words1 : List Jvm.Cond := Jvm.Cond.code x code maxLocals ret :: tables_1
/-- a 'code' word, met by the world's own term for the bytes: nothing is compared byte by byte -/
theorem code_word {y : MethodName} {bytes : ByteArray} {mx : Nat} {rt : Option FieldType} {a : Array Value} {s : State} {m : MethodId} {meth : Method} {c : Code} (h1 : s.methodNamed? y = some m) (h2 : s.vm.method? m = some meth) (h3 : meth.code = some c) (h4 : c.code = bytes)
    (h5 : (c.maxLocals == mx && c.exceptionTable.isEmpty && decide (c.maxStack ≤ mostOperands) && decide (meth.sig.returnType = rt) && !meth.locks && decide (parseMethodDescriptor y.desc = some meth.sig)) = true) : (Jvm.Cond.code y bytes mx rt).before a s = true := by
  simp only [Bool.and_eq_true, beq_iff_eq, Bool.not_eq_true', decide_eq_true_eq] at h5
  obtain ⟨⟨⟨⟨⟨g1, g2⟩, g3⟩, g4⟩, g5⟩, g6⟩ := h5
  simp [Cond.before, Cond.holds, Cond.value, h1, h2, h3, h4, g1, g2, g3, g4, g5, g6]
def isCode : Jvm.Cond → Bool
  | .code _ _ _ _ => true
  | _ => false
theorem all_split {L : List Jvm.Cond} {P : Jvm.Cond → Bool} (h1 : L.all (fun c => isCode c || P c) = true) (h2 : ∀ c ∈ L.filter isCode, P c = true) : L.all P = true := by
  refine List.all_eq_true.mpr fun c hc => ?_
  have h := List.all_eq_true.mp h1 c hc
  rcases Bool.eq_false_or_eq_true (isCode c) with hi | hi
  · exact h2 c (List.mem_filter.mpr ⟨hc, hi⟩)
  · simpa [hi] using h
set_option maxRecDepth 65536 in
theorem w_c0 : (Jvm.Cond.code x code maxLocals ret).before args0 about1 = true := code_word (m := ⟨1, 1⟩) (meth := k1m1) (c := k1c1) (by decide +kernel) rfl rfl rfl (by decide +kernel)
set_option maxRecDepth 65536 in
theorem w_c1 : (Jvm.Cond.code ({ cls := "com/example/lumenstand/lumenstand/scenario/Degrees", name := "bearing", desc := "(D)D" } : Jvm.MethodName) prog_30_method_4_code (4 : Nat) (Option.some Jvm.ClassFile.FieldType.double)).before args0 about1 = true := code_word (m := ⟨2, 1⟩) (meth := k2m1) (c := k2c1) (by decide +kernel) rfl rfl rfl (by decide +kernel)
def codes1 : List Jvm.Cond := [Jvm.Cond.code x code maxLocals ret, Jvm.Cond.code ({ cls := "com/example/lumenstand/lumenstand/scenario/Degrees", name := "bearing", desc := "(D)D" } : Jvm.MethodName) prog_30_method_4_code (4 : Nat) (Option.some Jvm.ClassFile.FieldType.double)]
set_option maxRecDepth 65536 in
theorem codes_eq : words1.filter isCode = codes1 := rfl
theorem w_codes : ∀ c ∈ words1.filter isCode, c.before args0 about1 = true := by
  rw [codes_eq]
  intro c hc
  simp only [codes1, List.mem_cons, List.not_mem_nil, or_false] at hc
  rcases hc with rfl | rfl
  · exact w_c0
  · exact w_c1
set_option maxRecDepth 65536 in
theorem w_t1 : words1.all (fun c => isCode c || c.before args0 about1) = true := by decide +kernel
theorem w_tables : (allAtoms (Jvm.Cond.code x code maxLocals ret :: tables_1)).before args0 about1 = true := by
  rw [allAtoms_all]
  show words1.all (fun c => c.before args0 about1) = true
  refine all_split ?_ w_codes
  rw [w_t1]
set_option maxRecDepth 65536 in
theorem w_case : (Jvm.Cond.and given_1 narrow_1).before args0 about1 = true := by decide +kernel
theorem w_applies : (headSpec (Jvm.Cond.code x code maxLocals ret :: tables_1) room_1).applies x e0.platform about1 = true :=
  (Spec.applies_iff w_frames).mpr ⟨w_running, w_runnable, w_alone, w_named, w_hears, w_ripe, w_room, w_tables⟩
theorem atStart : AtStart classFile x code maxLocals ret World_1 tables_1 room_1 Calls_1 rest_1 Pre_1 launch0 p0 e0 about1 theMethod args0 below0 :=
  ⟨lists_1, trivial, launch0.admits_env _ _ _, launch0.least_env, fairChoices_fair.cas, fairChoices_fair.clock, w_frames, w_args, w_heap, w_applies, trivial, trivial, w_case⟩
end start1
theorem witness_1 : WitnessClaimed_1 := ⟨start1.p0, start1.e0, start1.about1, start1.theMethod, start1.args0, start1.below0, start1.atStart⟩
end Jvm.Pilot.@@N@@
