import JvmDerived
import JvmDerived.Pilot.@@N@@Statement
import JvmDerived.Pilot.@@N@@Code
set_option linter.unusedVariables false
set_option linter.unusedSimpArgs false
set_option maxHeartbeats 4000000
namespace Jvm.OwnK
open Sem ClassFile Op Lib Jvm.Free Jvm.Stand Jvm.LawKit Jvm.RoadKit
theorem iadd {tb : Tables} [Ours tb] {e : Env} {below : List Frame} {T target : State} {m : MethodId} {c : Code} {g : JFrame} (h : At T m c below) (hx : tb.exec = Jvm.exec) (hg : g.method = m) {x v : Int32} {y : Int32} {rest : List Value} (hd : decode c.code g.pc = .ok (.iadd, 1)) (hs : g.stack = .int y :: .int x :: rest) (hv : x + y = v)
    (hr : Steps tb e below (T.setTop { g with pc := g.pc + 1, stack := .int v :: rest }) target) : Steps tb e below (T.setTop g) target := by
  subst hv
  exact XS.iadd h hx hg hd hs hr
theorem isub {tb : Tables} [Ours tb] {e : Env} {below : List Frame} {T target : State} {m : MethodId} {c : Code} {g : JFrame} (h : At T m c below) (hx : tb.exec = Jvm.exec) (hg : g.method = m) {x v : Int32} {y : Int32} {rest : List Value} (hd : decode c.code g.pc = .ok (.isub, 1)) (hs : g.stack = .int y :: .int x :: rest) (hv : x - y = v)
    (hr : Steps tb e below (T.setTop { g with pc := g.pc + 1, stack := .int v :: rest }) target) : Steps tb e below (T.setTop g) target := by
  subst hv
  exact XS.isub h hx hg hd hs hr
theorem imul {tb : Tables} [Ours tb] {e : Env} {below : List Frame} {T target : State} {m : MethodId} {c : Code} {g : JFrame} (h : At T m c below) (hx : tb.exec = Jvm.exec) (hg : g.method = m) {x v : Int32} {y : Int32} {rest : List Value} (hd : decode c.code g.pc = .ok (.imul, 1)) (hs : g.stack = .int y :: .int x :: rest) (hv : x * y = v)
    (hr : Steps tb e below (T.setTop { g with pc := g.pc + 1, stack := .int v :: rest }) target) : Steps tb e below (T.setTop g) target := by
  subst hv
  exact XS.imul h hx hg hd hs hr
theorem iand {tb : Tables} [Ours tb] {e : Env} {below : List Frame} {T target : State} {m : MethodId} {c : Code} {g : JFrame} (h : At T m c below) (hx : tb.exec = Jvm.exec) (hg : g.method = m) {x v : Int32} {y : Int32} {rest : List Value} (hd : decode c.code g.pc = .ok (.iand, 1)) (hs : g.stack = .int y :: .int x :: rest) (hv : x &&& y = v)
    (hr : Steps tb e below (T.setTop { g with pc := g.pc + 1, stack := .int v :: rest }) target) : Steps tb e below (T.setTop g) target := by
  subst hv
  exact XS.iand h hx hg hd hs hr
theorem ior {tb : Tables} [Ours tb] {e : Env} {below : List Frame} {T target : State} {m : MethodId} {c : Code} {g : JFrame} (h : At T m c below) (hx : tb.exec = Jvm.exec) (hg : g.method = m) {x v : Int32} {y : Int32} {rest : List Value} (hd : decode c.code g.pc = .ok (.ior, 1)) (hs : g.stack = .int y :: .int x :: rest) (hv : x ||| y = v)
    (hr : Steps tb e below (T.setTop { g with pc := g.pc + 1, stack := .int v :: rest }) target) : Steps tb e below (T.setTop g) target := by
  subst hv
  exact XS.ior h hx hg hd hs hr
theorem ixor {tb : Tables} [Ours tb] {e : Env} {below : List Frame} {T target : State} {m : MethodId} {c : Code} {g : JFrame} (h : At T m c below) (hx : tb.exec = Jvm.exec) (hg : g.method = m) {x v : Int32} {y : Int32} {rest : List Value} (hd : decode c.code g.pc = .ok (.ixor, 1)) (hs : g.stack = .int y :: .int x :: rest) (hv : x ^^^ y = v)
    (hr : Steps tb e below (T.setTop { g with pc := g.pc + 1, stack := .int v :: rest }) target) : Steps tb e below (T.setTop g) target := by
  subst hv
  exact XS.ixor h hx hg hd hs hr
theorem ishl {tb : Tables} [Ours tb] {e : Env} {below : List Frame} {T target : State} {m : MethodId} {c : Code} {g : JFrame} (h : At T m c below) (hx : tb.exec = Jvm.exec) (hg : g.method = m) {x v : Int32} {y : Int32} {rest : List Value} (hd : decode c.code g.pc = .ok (.ishl, 1)) (hs : g.stack = .int y :: .int x :: rest) (hv : x <<< (y &&& 31) = v)
    (hr : Steps tb e below (T.setTop { g with pc := g.pc + 1, stack := .int v :: rest }) target) : Steps tb e below (T.setTop g) target := by
  subst hv
  exact XS.ishl h hx hg hd hs hr
theorem ishr {tb : Tables} [Ours tb] {e : Env} {below : List Frame} {T target : State} {m : MethodId} {c : Code} {g : JFrame} (h : At T m c below) (hx : tb.exec = Jvm.exec) (hg : g.method = m) {x v : Int32} {y : Int32} {rest : List Value} (hd : decode c.code g.pc = .ok (.ishr, 1)) (hs : g.stack = .int y :: .int x :: rest) (hv : x >>> (y &&& 31) = v)
    (hr : Steps tb e below (T.setTop { g with pc := g.pc + 1, stack := .int v :: rest }) target) : Steps tb e below (T.setTop g) target := by
  subst hv
  exact XS.ishr h hx hg hd hs hr
theorem iushr {tb : Tables} [Ours tb] {e : Env} {below : List Frame} {T target : State} {m : MethodId} {c : Code} {g : JFrame} (h : At T m c below) (hx : tb.exec = Jvm.exec) (hg : g.method = m) {x v : Int32} {y : Int32} {rest : List Value} (hd : decode c.code g.pc = .ok (.iushr, 1)) (hs : g.stack = .int y :: .int x :: rest) (hv : (x.toUInt32 >>> (y &&& 31).toUInt32).toInt32 = v)
    (hr : Steps tb e below (T.setTop { g with pc := g.pc + 1, stack := .int v :: rest }) target) : Steps tb e below (T.setTop g) target := by
  subst hv
  exact XS.iushr h hx hg hd hs hr
theorem idiv {tb : Tables} [Ours tb] {e : Env} {below : List Frame} {T target : State} {m : MethodId} {c : Code} {g : JFrame} (h : At T m c below) (hx : tb.exec = Jvm.exec) (hg : g.method = m) {x v : Int32} {y : Int32} {rest : List Value} (hd : decode c.code g.pc = .ok (.idiv, 1)) (hs : g.stack = .int y :: .int x :: rest) (hy : ¬ y = 0) (hv : x / y = v)
    (hr : Steps tb e below (T.setTop { g with pc := g.pc + 1, stack := .int v :: rest }) target) : Steps tb e below (T.setTop g) target := by
  subst hv
  exact XS.idiv h hx hg hd hs hy hr
theorem irem {tb : Tables} [Ours tb] {e : Env} {below : List Frame} {T target : State} {m : MethodId} {c : Code} {g : JFrame} (h : At T m c below) (hx : tb.exec = Jvm.exec) (hg : g.method = m) {x v : Int32} {y : Int32} {rest : List Value} (hd : decode c.code g.pc = .ok (.irem, 1)) (hs : g.stack = .int y :: .int x :: rest) (hy : ¬ y = 0) (hv : x % y = v)
    (hr : Steps tb e below (T.setTop { g with pc := g.pc + 1, stack := .int v :: rest }) target) : Steps tb e below (T.setTop g) target := by
  subst hv
  have q : x - x / y * y = x % y := irem_eq_mod x y
  exact XS.irem h hx hg hd hs hy (by rw [q]; exact hr)
theorem ladd {tb : Tables} [Ours tb] {e : Env} {below : List Frame} {T target : State} {m : MethodId} {c : Code} {g : JFrame} (h : At T m c below) (hx : tb.exec = Jvm.exec) (hg : g.method = m) {x v : Int64} {y : Int64} {rest : List Value} (hd : decode c.code g.pc = .ok (.ladd, 1)) (hs : g.stack = .long y :: .long x :: rest) (hv : x + y = v)
    (hr : Steps tb e below (T.setTop { g with pc := g.pc + 1, stack := .long v :: rest }) target) : Steps tb e below (T.setTop g) target := by
  subst hv
  exact XS.ladd h hx hg hd hs hr
theorem lsub {tb : Tables} [Ours tb] {e : Env} {below : List Frame} {T target : State} {m : MethodId} {c : Code} {g : JFrame} (h : At T m c below) (hx : tb.exec = Jvm.exec) (hg : g.method = m) {x v : Int64} {y : Int64} {rest : List Value} (hd : decode c.code g.pc = .ok (.lsub, 1)) (hs : g.stack = .long y :: .long x :: rest) (hv : x - y = v)
    (hr : Steps tb e below (T.setTop { g with pc := g.pc + 1, stack := .long v :: rest }) target) : Steps tb e below (T.setTop g) target := by
  subst hv
  exact XS.lsub h hx hg hd hs hr
theorem lmul {tb : Tables} [Ours tb] {e : Env} {below : List Frame} {T target : State} {m : MethodId} {c : Code} {g : JFrame} (h : At T m c below) (hx : tb.exec = Jvm.exec) (hg : g.method = m) {x v : Int64} {y : Int64} {rest : List Value} (hd : decode c.code g.pc = .ok (.lmul, 1)) (hs : g.stack = .long y :: .long x :: rest) (hv : x * y = v)
    (hr : Steps tb e below (T.setTop { g with pc := g.pc + 1, stack := .long v :: rest }) target) : Steps tb e below (T.setTop g) target := by
  subst hv
  exact XS.lmul h hx hg hd hs hr
theorem land {tb : Tables} [Ours tb] {e : Env} {below : List Frame} {T target : State} {m : MethodId} {c : Code} {g : JFrame} (h : At T m c below) (hx : tb.exec = Jvm.exec) (hg : g.method = m) {x v : Int64} {y : Int64} {rest : List Value} (hd : decode c.code g.pc = .ok (.land, 1)) (hs : g.stack = .long y :: .long x :: rest) (hv : x &&& y = v)
    (hr : Steps tb e below (T.setTop { g with pc := g.pc + 1, stack := .long v :: rest }) target) : Steps tb e below (T.setTop g) target := by
  subst hv
  exact XS.land h hx hg hd hs hr
theorem lor {tb : Tables} [Ours tb] {e : Env} {below : List Frame} {T target : State} {m : MethodId} {c : Code} {g : JFrame} (h : At T m c below) (hx : tb.exec = Jvm.exec) (hg : g.method = m) {x v : Int64} {y : Int64} {rest : List Value} (hd : decode c.code g.pc = .ok (.lor, 1)) (hs : g.stack = .long y :: .long x :: rest) (hv : x ||| y = v)
    (hr : Steps tb e below (T.setTop { g with pc := g.pc + 1, stack := .long v :: rest }) target) : Steps tb e below (T.setTop g) target := by
  subst hv
  exact XS.lor h hx hg hd hs hr
theorem lxor {tb : Tables} [Ours tb] {e : Env} {below : List Frame} {T target : State} {m : MethodId} {c : Code} {g : JFrame} (h : At T m c below) (hx : tb.exec = Jvm.exec) (hg : g.method = m) {x v : Int64} {y : Int64} {rest : List Value} (hd : decode c.code g.pc = .ok (.lxor, 1)) (hs : g.stack = .long y :: .long x :: rest) (hv : x ^^^ y = v)
    (hr : Steps tb e below (T.setTop { g with pc := g.pc + 1, stack := .long v :: rest }) target) : Steps tb e below (T.setTop g) target := by
  subst hv
  exact XS.lxor h hx hg hd hs hr
theorem lshl {tb : Tables} [Ours tb] {e : Env} {below : List Frame} {T target : State} {m : MethodId} {c : Code} {g : JFrame} (h : At T m c below) (hx : tb.exec = Jvm.exec) (hg : g.method = m) {x v : Int64} {y : Int32} {rest : List Value} (hd : decode c.code g.pc = .ok (.lshl, 1)) (hs : g.stack = .int y :: .long x :: rest) (hv : x <<< (y &&& 0x3f).toInt64 = v)
    (hr : Steps tb e below (T.setTop { g with pc := g.pc + 1, stack := .long v :: rest }) target) : Steps tb e below (T.setTop g) target := by
  subst hv
  exact XS.lshl h hx hg hd hs hr
theorem lshr {tb : Tables} [Ours tb] {e : Env} {below : List Frame} {T target : State} {m : MethodId} {c : Code} {g : JFrame} (h : At T m c below) (hx : tb.exec = Jvm.exec) (hg : g.method = m) {x v : Int64} {y : Int32} {rest : List Value} (hd : decode c.code g.pc = .ok (.lshr, 1)) (hs : g.stack = .int y :: .long x :: rest) (hv : x >>> (y &&& 0x3f).toInt64 = v)
    (hr : Steps tb e below (T.setTop { g with pc := g.pc + 1, stack := .long v :: rest }) target) : Steps tb e below (T.setTop g) target := by
  subst hv
  exact XS.lshr h hx hg hd hs hr
theorem lushr {tb : Tables} [Ours tb] {e : Env} {below : List Frame} {T target : State} {m : MethodId} {c : Code} {g : JFrame} (h : At T m c below) (hx : tb.exec = Jvm.exec) (hg : g.method = m) {x v : Int64} {y : Int32} {rest : List Value} (hd : decode c.code g.pc = .ok (.lushr, 1)) (hs : g.stack = .int y :: .long x :: rest) (hv : (x.toUInt64 >>> (y &&& 0x3f).toInt64.toUInt64).toInt64 = v)
    (hr : Steps tb e below (T.setTop { g with pc := g.pc + 1, stack := .long v :: rest }) target) : Steps tb e below (T.setTop g) target := by
  subst hv
  exact XS.lushr h hx hg hd hs hr
theorem ldiv {tb : Tables} [Ours tb] {e : Env} {below : List Frame} {T target : State} {m : MethodId} {c : Code} {g : JFrame} (h : At T m c below) (hx : tb.exec = Jvm.exec) (hg : g.method = m) {x v : Int64} {y : Int64} {rest : List Value} (hd : decode c.code g.pc = .ok (.ldiv, 1)) (hs : g.stack = .long y :: .long x :: rest) (hy : ¬ y = 0) (hv : x / y = v)
    (hr : Steps tb e below (T.setTop { g with pc := g.pc + 1, stack := .long v :: rest }) target) : Steps tb e below (T.setTop g) target := by
  subst hv
  exact XS.ldiv h hx hg hd hs hy hr
theorem lrem {tb : Tables} [Ours tb] {e : Env} {below : List Frame} {T target : State} {m : MethodId} {c : Code} {g : JFrame} (h : At T m c below) (hx : tb.exec = Jvm.exec) (hg : g.method = m) {x v : Int64} {y : Int64} {rest : List Value} (hd : decode c.code g.pc = .ok (.lrem, 1)) (hs : g.stack = .long y :: .long x :: rest) (hy : ¬ y = 0) (hv : x % y = v)
    (hr : Steps tb e below (T.setTop { g with pc := g.pc + 1, stack := .long v :: rest }) target) : Steps tb e below (T.setTop g) target := by
  subst hv
  have q : x - x / y * y = x % y := lrem_mod x y
  exact XS.lrem h hx hg hd hs hy (by rw [q]; exact hr)
theorem ineg {tb : Tables} [Ours tb] {e : Env} {below : List Frame} {T target : State} {m : MethodId} {c : Code} {g : JFrame} (h : At T m c below) (hx : tb.exec = Jvm.exec) (hg : g.method = m) {x : Int32} {v : Int32} {rest : List Value} (hd : decode c.code g.pc = .ok (.ineg, 1)) (hs : g.stack = .int x :: rest) (hv : -x = v)
    (hr : Steps tb e below (T.setTop { g with pc := g.pc + 1, stack := .int v :: rest }) target) : Steps tb e below (T.setTop g) target := by
  subst hv
  exact XS.ineg h hx hg hd hs hr
theorem lneg {tb : Tables} [Ours tb] {e : Env} {below : List Frame} {T target : State} {m : MethodId} {c : Code} {g : JFrame} (h : At T m c below) (hx : tb.exec = Jvm.exec) (hg : g.method = m) {x : Int64} {v : Int64} {rest : List Value} (hd : decode c.code g.pc = .ok (.lneg, 1)) (hs : g.stack = .long x :: rest) (hv : -x = v)
    (hr : Steps tb e below (T.setTop { g with pc := g.pc + 1, stack := .long v :: rest }) target) : Steps tb e below (T.setTop g) target := by
  subst hv
  exact XS.lneg h hx hg hd hs hr
theorem i2l {tb : Tables} [Ours tb] {e : Env} {below : List Frame} {T target : State} {m : MethodId} {c : Code} {g : JFrame} (h : At T m c below) (hx : tb.exec = Jvm.exec) (hg : g.method = m) {x : Int32} {v : Int64} {rest : List Value} (hd : decode c.code g.pc = .ok (.i2l, 1)) (hs : g.stack = .int x :: rest) (hv : x.toInt64 = v)
    (hr : Steps tb e below (T.setTop { g with pc := g.pc + 1, stack := .long v :: rest }) target) : Steps tb e below (T.setTop g) target := by
  subst hv
  exact XS.i2l h hx hg hd hs hr
theorem l2i {tb : Tables} [Ours tb] {e : Env} {below : List Frame} {T target : State} {m : MethodId} {c : Code} {g : JFrame} (h : At T m c below) (hx : tb.exec = Jvm.exec) (hg : g.method = m) {x : Int64} {v : Int32} {rest : List Value} (hd : decode c.code g.pc = .ok (.l2i, 1)) (hs : g.stack = .long x :: rest) (hv : x.toInt32 = v)
    (hr : Steps tb e below (T.setTop { g with pc := g.pc + 1, stack := .int v :: rest }) target) : Steps tb e below (T.setTop g) target := by
  subst hv
  exact XS.l2i h hx hg hd hs hr
theorem i2b {tb : Tables} [Ours tb] {e : Env} {below : List Frame} {T target : State} {m : MethodId} {c : Code} {g : JFrame} (h : At T m c below) (hx : tb.exec = Jvm.exec) (hg : g.method = m) {x : Int32} {v : Int32} {rest : List Value} (hd : decode c.code g.pc = .ok (.i2b, 1)) (hs : g.stack = .int x :: rest) (hv : x.toInt8.toInt32 = v)
    (hr : Steps tb e below (T.setTop { g with pc := g.pc + 1, stack := .int v :: rest }) target) : Steps tb e below (T.setTop g) target := by
  subst hv
  exact XS.i2b h hx hg hd hs hr
theorem i2s {tb : Tables} [Ours tb] {e : Env} {below : List Frame} {T target : State} {m : MethodId} {c : Code} {g : JFrame} (h : At T m c below) (hx : tb.exec = Jvm.exec) (hg : g.method = m) {x : Int32} {v : Int32} {rest : List Value} (hd : decode c.code g.pc = .ok (.i2s, 1)) (hs : g.stack = .int x :: rest) (hv : x.toInt16.toInt32 = v)
    (hr : Steps tb e below (T.setTop { g with pc := g.pc + 1, stack := .int v :: rest }) target) : Steps tb e below (T.setTop g) target := by
  subst hv
  exact XS.i2s h hx hg hd hs hr
theorem dadd {tb : Tables} [Ours tb] {e : Env} {below : List Frame} {T target : State} {m : MethodId} {c : Code} {g : JFrame} (h : At T m c below) (hx : tb.exec = Jvm.exec) (hg : g.method = m) {x y v : UInt64} {rest : List Value} (hd : decode c.code g.pc = .ok (.dadd, 1)) (hs : g.stack = .double y :: .double x :: rest) (hv : FP.dadd x y = v) (hn : Jvm.Free.Fl.NoNaN64 v)
    (hr : Steps tb e below (T.setTop { g with pc := g.pc + 1, stack := .double v :: rest }) target) : Steps tb e below (T.setTop g) target := by
  subst hv
  exact XS.daddS h hx hg hd hs hn rfl hr
theorem dsub {tb : Tables} [Ours tb] {e : Env} {below : List Frame} {T target : State} {m : MethodId} {c : Code} {g : JFrame} (h : At T m c below) (hx : tb.exec = Jvm.exec) (hg : g.method = m) {x y v : UInt64} {rest : List Value} (hd : decode c.code g.pc = .ok (.dsub, 1)) (hs : g.stack = .double y :: .double x :: rest) (hv : FP.dsub x y = v) (hn : Jvm.Free.Fl.NoNaN64 v)
    (hr : Steps tb e below (T.setTop { g with pc := g.pc + 1, stack := .double v :: rest }) target) : Steps tb e below (T.setTop g) target := by
  subst hv
  exact XS.dsubS h hx hg hd hs hn rfl hr
theorem dmul {tb : Tables} [Ours tb] {e : Env} {below : List Frame} {T target : State} {m : MethodId} {c : Code} {g : JFrame} (h : At T m c below) (hx : tb.exec = Jvm.exec) (hg : g.method = m) {x y v : UInt64} {rest : List Value} (hd : decode c.code g.pc = .ok (.dmul, 1)) (hs : g.stack = .double y :: .double x :: rest) (hv : FP.dmul x y = v) (hn : Jvm.Free.Fl.NoNaN64 v)
    (hr : Steps tb e below (T.setTop { g with pc := g.pc + 1, stack := .double v :: rest }) target) : Steps tb e below (T.setTop g) target := by
  subst hv
  exact XS.dmulS h hx hg hd hs hn rfl hr
theorem ddiv {tb : Tables} [Ours tb] {e : Env} {below : List Frame} {T target : State} {m : MethodId} {c : Code} {g : JFrame} (h : At T m c below) (hx : tb.exec = Jvm.exec) (hg : g.method = m) {x y v : UInt64} {rest : List Value} (hd : decode c.code g.pc = .ok (.ddiv, 1)) (hs : g.stack = .double y :: .double x :: rest) (hv : FP.ddiv x y = v) (hn : Jvm.Free.Fl.NoNaN64 v)
    (hr : Steps tb e below (T.setTop { g with pc := g.pc + 1, stack := .double v :: rest }) target) : Steps tb e below (T.setTop g) target := by
  subst hv
  exact XS.ddivS h hx hg hd hs hn rfl hr
theorem drem {tb : Tables} [Ours tb] {e : Env} {below : List Frame} {T target : State} {m : MethodId} {c : Code} {g : JFrame} (h : At T m c below) (hx : tb.exec = Jvm.exec) (hg : g.method = m) {x y v : UInt64} {rest : List Value} (hd : decode c.code g.pc = .ok (.drem, 1)) (hs : g.stack = .double y :: .double x :: rest) (hv : FP.drem x y = v) (hn : Jvm.Free.Fl.NoNaN64 v)
    (hr : Steps tb e below (T.setTop { g with pc := g.pc + 1, stack := .double v :: rest }) target) : Steps tb e below (T.setTop g) target := by
  subst hg
  subst hv
  obtain ⟨gm, gp, gl, gs, gk, ge, gr⟩ := g
  simp only at hs hd
  subst hs
  jvm_step h [h.top, hx, hd, Op.drem.at_number h.top hn]
  exact hr
theorem lcmp {tb : Tables} [Ours tb] {e : Env} {below : List Frame} {T target : State} {m : MethodId} {c : Code} {g : JFrame} (h : At T m c below) (hx : tb.exec = Jvm.exec) (hg : g.method = m) {x y : Int64} {v : Int32} {rest : List Value} (hd : decode c.code g.pc = .ok (.lcmp, 1)) (hs : g.stack = .long y :: .long x :: rest) (hv : lcmpW x y = v)
    (hr : Steps tb e below (T.setTop { g with pc := g.pc + 1, stack := .int v :: rest }) target) : Steps tb e below (T.setTop g) target := by
  subst hv
  exact XS.lcmp h hx hg hd hs hr
theorem iinc {tb : Tables} [Ours tb] {e : Env} {below : List Frame} {T target : State} {m : MethodId} {c : Code} {g : JFrame} (h : At T m c below) (hx : tb.exec = Jvm.exec) (hg : g.method = m) {k : Nat} {cst : Int} {x v : Int32} {l' : Array Slot} (hd : decode c.code g.pc = .ok (.iinc k cst, 3)) (hl : g.locals[k]? = some (.val (.int x))) (hv : x + Int32.ofInt cst = v) (hl' : storeLocals g.locals k (.int v) = some l')
    (hr : Steps tb e below (T.setTop { g with pc := g.pc + 3, locals := l' }) target) : Steps tb e below (T.setTop g) target := by
  subst hv
  exact XS.iinc h hx hg hd hl hl' hr
theorem dup2 {tb : Tables} [Ours tb] {e : Env} {below : List Frame} {T target : State} {m : MethodId} {c : Code} {g : JFrame} (h : At T m c below) (hx : tb.exec = Jvm.exec) (hg : g.method = m) {x y : Value} {rest : List Value} (hd : decode c.code g.pc = .ok (.dup2, 1)) (hs : g.stack = x :: y :: rest) (hc : x.category = 1) (hc' : y.category = 1)
    (hr : Steps tb e below (T.setTop { g with pc := g.pc + 1, stack := x :: y :: x :: y :: rest }) target) : Steps tb e below (T.setTop g) target := Jvm.Free.XT.dup2 h hx hg hd hs hc hc' hr
theorem dup2W {tb : Tables} [Ours tb] {e : Env} {below : List Frame} {T target : State} {m : MethodId} {c : Code} {g : JFrame} (h : At T m c below) (hx : tb.exec = Jvm.exec) (hg : g.method = m) {x : Value} {rest : List Value} (hd : decode c.code g.pc = .ok (.dup2, 1)) (hs : g.stack = x :: rest) (hc : x.category = 2)
    (hr : Steps tb e below (T.setTop { g with pc := g.pc + 1, stack := x :: x :: rest }) target) : Steps tb e below (T.setTop g) target := by
  subst hg
  jvm_step h [h.top, hx, hd, hs, hc]
  exact hr
theorem Sta_keep {Z : State} {h h' : Heap} {C n d : String} {w : Value} {ws : List Addr} (F : Sta Z h C n d w) (K : Keep h h' ws) (hn : ∀ x ∈ ws, ∀ cell : Cell, h[x]? = some cell → cell.vm.isStatics = false) : Sta Z h' C n d w := by
  obtain ⟨cf, i, k, f, st, cell, h1, h2, h3, h4, h5, h6, h7⟩ := F
  refine ⟨cf, i, k, f, st, cell, h1, h2, h3, h4, K.2.1 st cell h5 (fun q => ?_), h6, h7⟩
  rw [hn st q cell h5] at h6; cases h6
end Jvm.OwnK
namespace Jvm.OwnF
open Jvm.FP Jvm.FP.Core
/-! doubles as whole numbers of units of 2^-1074 -/
def V (a : UInt64) : Int := zval b64 (val64 a)
def BIG : Nat := 2 ^ 2000
/-- the rounding of n / d, in units -/
def rnd (n : Int) (d : Nat) : Int := zval b64 (roundRatio b64 (decide (n < 0)) n.natAbs d (-1074))
theorem zval_zero (s : Bool) (d : Nat) (e : Int) : zval b64 (roundRatio b64 s 0 d e) = 0 := by
  unfold roundRatio
  rw [if_pos rfl]
  show signed s (0 * 2 ^ (b64.qmin - b64.qmin).toNat) = 0
  rw [Nat.zero_mul, signed_zero]
theorem rnd_signed (s : Bool) (N d : Nat) : zval b64 (roundRatio b64 s N d (-1074)) = rnd (signed s N) d := by
  unfold rnd
  rw [natAbs_signed]
  by_cases h : N = 0
  · subst h; rw [zval_zero, zval_zero]
  · rw [signed_lt_zero s (by omega)]
theorem signed_natAbs (n : Int) : signed (decide (n < 0)) n.natAbs = n := by
  unfold signed
  by_cases h : n < 0 <;> simp [h] <;> omega
theorem bigV : Jvm.FP.Core.fits b64 (.fin false (2 ^ 52) 874) := by refine ⟨?_, ?_, ?_, ?_⟩ <;> decide
theorem bigZ : zmag b64 (.fin false (2 ^ 52) 874) = BIG := by
  show 2 ^ 52 * 2 ^ (874 - b64.qmin).toNat = 2 ^ 2000
  rw [qmin_b64, show (874 - (-1074) : Int).toNat = 1948 from rfl, ← Nat.pow_add]
theorem big_lt : BIG < b64.tails * 2 ^ (b64.exps - 2) := by
  rw [tails_b64, show b64.exps - 2 = 2046 by decide, ← Nat.pow_add]
  exact Nat.pow_lt_pow_right (by decide) (by decide)
theorem un0 (A : Nat) : inUnits A (-1074) (-1074) = A := by unfold inUnits; simp
theorem round_le_big {s : Bool} {A B : Nat} (hB : 0 < B) (h : A ≤ BIG * B) : zmag b64 (roundRatio b64 s A B (-1074)) ≤ BIG := by
  have := zmag_roundRatio_le good_b64 (s := s) (A := A) (B := B) (e := -1074) (e0 := -1074) hB bigV Datum.noConfusion (by rw [qmin_b64]; decide) (by decide) (by rw [bigZ, un0, qmin_b64]; simpa using h)
  rwa [bigZ] at this
theorem fin_round {s : Bool} {A B : Nat} (hB : 0 < B) (h : A ≤ BIG * B) : ∃ c q, roundRatio b64 s A B (-1074) = .fin s c q := by
  rcases roundRatio_cases b64 s A B (-1074) with h1 | h1
  · exact h1
  · exfalso
    have h2 := round_le_big (s := s) hB h
    rw [h1] at h2
    have h3 : zmag b64 (.inf s) = b64.tails * 2 ^ (b64.exps - 2) := rfl
    have := big_lt
    omega
theorem noNaN_fin {a : UInt64} (h : DFin a) : Jvm.Free.Fl.NoNaN64 a := by
  rw [Jvm.Free.Fl.val64_no]; obtain ⟨s, c, q, e⟩ := h; rw [e]; exact Datum.noConfusion
theorem V_dadd {a b : UInt64} (ha : DFin a) (hb : DFin b) (h : (V a + V b).natAbs ≤ BIG) : DFin (FP.dadd a b) ∧ V (FP.dadd a b) = rnd (V a + V b) 1 := by
  obtain ⟨s, c, q, ea⟩ := ha
  obtain ⟨t, d, r, eb⟩ := hb
  have fa : Jvm.FP.Core.fits b64 (.fin s c q) := ea ▸ val64_fits a
  have fb : Jvm.FP.Core.fits b64 (.fin t d r) := eb ▸ val64_fits b
  obtain ⟨sg, n, e, p1, p2, p3⟩ := sum_units fa fb
  rw [qmin_b64] at p2 p3
  have hv : val64 (FP.dadd a b) = roundRatio b64 sg (inUnits n e (-1074)) 1 (-1074) := by
    rw [show FP.dadd a b = Core.dadd a b from rfl, val64_dadd, ea, eb, p1]
    show roundRatio b64 sg n 1 e = _
    refine roundRatio_congr (by decide) (by decide) ?_
    rw [show (-1074 - e).toNat = 0 by omega]
    unfold inUnits; simp
  have hS : signed sg (inUnits n e (-1074)) = V a + V b := by unfold V; rw [ea, eb]; exact p3
  have hN : inUnits n e (-1074) = (V a + V b).natAbs := by rw [← hS, natAbs_signed]
  obtain ⟨c', q', hh⟩ := fin_round (s := sg) (A := inUnits n e (-1074)) (B := 1) (by decide) (by rw [Nat.mul_one, hN]; exact h)
  refine ⟨⟨sg, c', q', hv.trans hh⟩, ?_⟩
  show zval b64 (val64 (FP.dadd a b)) = _
  rw [hv, rnd_signed, hS]
theorem V_neg (a : UInt64) : V (Core.dneg a) = -V a := by unfold V; rw [Core.val64_dneg, zval_negate]
theorem fin_neg {a : UInt64} (h : DFin a) : DFin (Core.dneg a) := by
  obtain ⟨s, c, q, e⟩ := h
  exact ⟨!s, c, q, by rw [Core.val64_dneg, e]; rfl⟩
theorem V_dsub {a b : UInt64} (ha : DFin a) (hb : DFin b) (h : (V a - V b).natAbs ≤ BIG) : DFin (FP.dsub a b) ∧ V (FP.dsub a b) = rnd (V a - V b) 1 := by
  have e : FP.dsub a b = FP.dadd a (Core.dneg b) := dsub_eq a b
  rw [e]
  have := V_dadd ha (fin_neg hb) (by rw [V_neg]; exact h)
  rw [V_neg] at this
  exact this
theorem zmag_V (a : UInt64) : zmag b64 (val64 a) = (V a).natAbs := by unfold V zval; rw [natAbs_signed]
theorem V_dmul {a b : UInt64} (ha : DFin a) (hb : DFin b) (h : (V a * V b).natAbs ≤ BIG * one64) : DFin (FP.dmul a b) ∧ V (FP.dmul a b) = rnd (V a * V b) one64 := by
  have za := zmag_V a
  have zb := zmag_V b
  obtain ⟨s, c, q, ea⟩ := ha
  obtain ⟨t, d, r, eb⟩ := hb
  have fa : Jvm.FP.Core.fits b64 (.fin s c q) := ea ▸ val64_fits a
  have fb : Jvm.FP.Core.fits b64 (.fin t d r) := eb ▸ val64_fits b
  obtain ⟨p1, p2, p3⟩ := product_units fa fb
  rw [← ea, ← eb, za, zb, ← Int.natAbs_mul] at p3
  rw [qmin_b64] at p2 p3
  have hv : val64 (FP.dmul a b) = roundRatio b64 (s != t) (V a * V b).natAbs one64 (-1074) := by
    rw [show FP.dmul a b = Core.dmul a b from rfl, val64_dmul, ea, eb, p1]
    show roundRatio b64 (s != t) (c * d) 1 (q + r) = _
    refine roundRatio_congr (by decide) one64_pos ?_
    rw [← p3]
    unfold inUnits one64
    rw [Nat.mul_one, Nat.mul_assoc (c * d), Nat.mul_assoc (c * d), ← Nat.pow_add, ← Nat.pow_add]
    congr 2
    omega
  have hS : signed (s != t) (V a * V b).natAbs = V a * V b := by
    rw [Int.natAbs_mul, signed_xor, ← za, ← zb]
    unfold V zval
    rw [ea, eb]
    rfl
  obtain ⟨c', q', hh⟩ := fin_round (s := s != t) (A := (V a * V b).natAbs) (B := one64) one64_pos h
  refine ⟨⟨_, c', q', hv.trans hh⟩, ?_⟩
  show zval b64 (val64 (FP.dmul a b)) = _
  rw [hv, rnd_signed, hS]
theorem pw2 (c d x y : Nat) : c * (d * 2 ^ x) * 2 ^ y = c * d * 2 ^ (x + y) := by rw [Nat.pow_add]; ac_rfl
theorem pw3 (c d x y z : Nat) : c * 2 ^ x * 2 ^ y * d * 2 ^ z = c * d * 2 ^ (x + y + z) := by rw [Nat.pow_add, Nat.pow_add]; ac_rfl
theorem V_ddiv {a b : UInt64} (ha : DFin a) (hb : DFin b) (h0 : V b ≠ 0) (h : (V a).natAbs * one64 ≤ BIG * (V b).natAbs) : DFin (FP.ddiv a b) ∧ V (FP.ddiv a b) = rnd (V a * (one64 : Int) * (V b).sign) (V b).natAbs := by
  have za := zmag_V a
  have zb := zmag_V b
  have sb : (V b).sign = signed (sgn (val64 b)) 1 := by
    unfold V zval at h0 ⊢
    cases hsg : sgn (val64 b) <;> rw [hsg] at h0 <;> simp only [signed, if_true, Bool.false_eq_true, if_false] at h0 ⊢
    · exact Int.sign_eq_one_of_pos (by omega)
    · exact Int.sign_eq_neg_one_of_neg (by omega)
  obtain ⟨s, c, q, ea⟩ := ha
  obtain ⟨t, d, r, eb⟩ := hb
  have fa : Jvm.FP.Core.fits b64 (.fin s c q) := ea ▸ val64_fits a
  have fb : Jvm.FP.Core.fits b64 (.fin t d r) := eb ▸ val64_fits b
  have hq1 := fa.2.1
  have hr1 := fb.2.1
  rw [qmin_b64] at hq1 hr1
  have ma : (V a).natAbs = c * 2 ^ (q - (-1074)).toNat := by rw [← za, ea]; show inUnits c q b64.qmin = _; rw [qmin_b64]; rfl
  have mb : (V b).natAbs = d * 2 ^ (r - (-1074)).toNat := by rw [← zb, eb]; show inUnits d r b64.qmin = _; rw [qmin_b64]; rfl
  have hd0 : d ≠ 0 := by
    rintro rfl
    rw [Nat.zero_mul] at mb; omega
  have hBp : 0 < (V b).natAbs := by omega
  have hv : val64 (FP.ddiv a b) = roundRatio b64 (s != t) ((V a).natAbs * one64) (V b).natAbs (-1074) := by
    rw [show FP.ddiv a b = Core.ddiv a b from rfl, val64_ddiv, ea, eb]
    simp only [quotient, if_neg hd0]
    refine roundRatio_congr (by omega) hBp ?_
    rw [ma, mb]
    unfold one64
    rw [pw2, pw3]
    congr 2
    omega
  have hS : signed (s != t) ((V a).natAbs * one64) = V a * (one64 : Int) * (V b).sign := by
    rw [sb, eb]
    show _ = _ * signed t 1
    have : signed (s != t) ((V a).natAbs * one64 * 1) = signed s ((V a).natAbs * one64) * signed t 1 := signed_xor s t _ 1
    rw [Nat.mul_one] at this
    rw [this, signed_mul]
    congr 2
    rw [← za]
    unfold V zval
    rw [ea]
    rfl
  obtain ⟨c', q', hh⟩ := fin_round (s := s != t) (A := (V a).natAbs * one64) (B := (V b).natAbs) hBp h
  refine ⟨⟨_, c', q', hv.trans hh⟩, ?_⟩
  show zval b64 (val64 (FP.ddiv a b)) = _
  rw [hv, rnd_signed, hS]
theorem V_of_int {a : UInt64} {n : Int} (ha : val64 a = round b64 (ofInt n)) (h : n.natAbs ≤ 2 ^ 64) : DFin a ∧ V a = rnd (n * (one64 : Int)) 1 := by
  have hv : val64 a = roundRatio b64 (decide (n < 0)) (n.natAbs * one64) 1 (-1074) := by
    rw [ha]
    show roundRatio b64 (decide (n < 0)) n.natAbs 1 0 = _
    refine roundRatio_congr (by decide) (by decide) ?_
    unfold one64
    rw [show (0 - (-1074) : Int).toNat = 1074 from rfl, show (-1074 - 0 : Int).toNat = 0 from rfl]
    simp
  have hS : signed (decide (n < 0)) (n.natAbs * one64) = n * (one64 : Int) := by rw [signed_mul, signed_natAbs]
  have hB : n.natAbs * one64 ≤ BIG := by
    refine Nat.le_trans (Nat.mul_le_mul_right _ h) ?_
    unfold one64 BIG
    rw [← Nat.pow_add]
    exact Nat.pow_le_pow_right (by decide) (by decide)
  obtain ⟨c', q', hh⟩ := fin_round (s := decide (n < 0)) (A := n.natAbs * one64) (B := 1) (by decide) (by rw [Nat.mul_one]; exact hB)
  refine ⟨⟨_, c', q', hv.trans hh⟩, ?_⟩
  show zval b64 (val64 a) = _
  rw [hv, rnd_signed, hS]
theorem V_l2d (n : Int64) : DFin (FP.l2d n) ∧ V (FP.l2d n) = rnd (n.toInt * (one64 : Int)) 1 :=
  V_of_int (val64_l2d n) (Nat.le_trans (int64_abs n) (by decide))
theorem V_i2d (n : Int32) : DFin (FP.i2d n) ∧ V (FP.i2d n) = rnd (n.toInt * (one64 : Int)) 1 :=
  V_of_int (val64_i2d n) (Nat.le_trans (int32_abs n) (by decide))
theorem V_drem {a b : UInt64} (ha : DFin a) (hb : DFin b) (h0 : V b ≠ 0) : DFin (FP.drem a b) ∧ V (FP.drem a b) = (V a).tmod (V b) := by
  have za := zmag_V a
  have zb := zmag_V b
  obtain ⟨s, c, q, ea⟩ := ha
  obtain ⟨t, d, r, eb⟩ := hb
  have fa : Jvm.FP.Core.fits b64 (.fin s c q) := ea ▸ val64_fits a
  have fb : Jvm.FP.Core.fits b64 (.fin t d r) := eb ▸ val64_fits b
  have hd0 : d ≠ 0 := by
    rintro rfl
    rw [eb] at zb
    have : zmag b64 (.fin t 0 r) = 0 := Nat.zero_mul _
    omega
  obtain ⟨c', q', h1, h2⟩ := remainder_exact good_b64 fa fb hd0
  have hv : val64 (FP.drem a b) = .fin s c' q' := by rw [show FP.drem a b = Core.drem a b from rfl, val64_drem, ea, eb, h1]
  refine ⟨⟨_, _, _, hv⟩, ?_⟩
  have h3 : zmag b64 (.fin s c' q') = (V a).natAbs % (V b).natAbs := by rw [← za, ← zb, ea, eb]; exact h2
  have hVa : V a = signed s (V a).natAbs := by rw [← za]; unfold V zval; rw [ea]; rfl
  show zval b64 (val64 (FP.drem a b)) = _
  rw [hv]
  show signed s (zmag b64 (.fin s c' q')) = _
  rw [h3]
  have hb2 : ∀ x : Int, x.tmod (V b) = x.tmod ((V b).natAbs : Int) := by
    intro x
    rcases Int.natAbs_eq (V b) with e | e
    · rw [← e]
    · rw [e, Int.tmod_neg]; simp
  rw [hb2]
  generalize (V b).natAbs = B at *
  generalize (V a).natAbs = A at *
  rw [hVa]
  cases s <;> simp [signed] <;> exact (Int.tmod_eq_emod_of_nonneg (Int.natCast_nonneg A)).symm
theorem cmp_V {a b : UInt64} (ha : DFin a) (hb : DFin b) : FP.dcmp a b = some (compare (V a) (V b)) := by
  obtain ⟨s, c, q, ea⟩ := ha
  obtain ⟨t, d, r, eb⟩ := hb
  exact dcmp_zval (by rw [ea]; exact Datum.noConfusion) (by rw [eb]; exact Datum.noConfusion)
/-! the rounding -/
theorem rnd_congr {n n' : Int} {d d' : Nat} (hd : 0 < d) (hd' : 0 < d') (h : n * (d' : Int) = n' * (d : Int)) : rnd n d = rnd n' d' := by
  have hs : (n < 0) ↔ (n' < 0) := by
    have p1 : (0 : Int) < d := by omega
    have p2 : (0 : Int) < d' := by omega
    constructor
    · intro q
      have := Int.mul_neg_of_neg_of_pos q p2
      refine Int.lt_of_not_ge fun q' => ?_
      have := Int.mul_nonneg q' (Int.le_of_lt p1)
      omega
    · intro q
      have := Int.mul_neg_of_neg_of_pos q p1
      refine Int.lt_of_not_ge fun q' => ?_
      have := Int.mul_nonneg q' (Int.le_of_lt p2)
      omega
  have hm : n.natAbs * d' = n'.natAbs * d := by
    have := congrArg Int.natAbs h
    rwa [Int.natAbs_mul, Int.natAbs_mul, Int.natAbs_natCast, Int.natAbs_natCast] at this
  unfold rnd
  rw [show decide (n < 0) = decide (n' < 0) from decide_eq_decide.mpr hs]
  congr 1
  exact roundRatio_congr hd hd' (by simpa using hm)
/-- at most 53 binary digits -/
def Rep (r : Int) : Prop := ∃ (m : Int) (e : Nat), r = m * ((2 ^ e : Nat) : Int) ∧ m.natAbs < 2 ^ 53 ∧ e ≤ 2045
theorem rnd_exact {n : Int} {d : Nat} {r : Int} (hd : 0 < d) (h : n = r * (d : Int)) (hr : Rep r) : rnd n d = r := by
  rw [rnd_congr (n' := r) (d' := 1) hd (by decide) (by rw [h]; simp)]
  obtain ⟨m, e, rfl, hm, he⟩ := hr
  have hsg : ∀ k : Nat, signed (decide (m < 0)) (m.natAbs * k) = m * (k : Int) := fun k => by rw [signed_mul, signed_natAbs]
  have h1 : rnd (m * ((2 ^ e : Nat) : Int)) 1 = zval b64 (roundRatio b64 (decide (m < 0)) (m.natAbs * 2 ^ e) 1 (-1074)) := by rw [rnd_signed, hsg]
  rw [h1]
  obtain ⟨c', q', h2, h3⟩ := round_exact good_b64 (decide (m < 0)) (c := m.natAbs) (q := (e : Int) - 1074) hm (by rw [qmin_b64]; omega) (by rw [show b64.qmax = 971 by decide]; omega)
  have h4 : roundRatio b64 (decide (m < 0)) (m.natAbs * 2 ^ e) 1 (-1074) = roundRatio b64 (decide (m < 0)) m.natAbs 1 ((e : Int) - 1074) := by
    refine roundRatio_congr (by decide) (by decide) ?_
    rw [show (-1074 - ((e : Int) - 1074)).toNat = 0 by omega, show ((e : Int) - 1074 - -1074).toNat = e by omega]
    simp
  rw [h4]
  have h5 : roundRatio b64 (decide (m < 0)) m.natAbs 1 ((e : Int) - 1074) = .fin (decide (m < 0)) c' q' := h2
  rw [h5]
  show signed _ (inUnits c' q' b64.qmin) = _
  rw [h3, ← hsg]
  unfold inUnits
  rw [qmin_b64, show ((e : Int) - 1074 - -1074).toNat = e by omega]
  rfl
theorem rep_V {a : UInt64} (ha : DFin a) : Rep (V a) := by
  obtain ⟨s, c, q, ea⟩ := ha
  have fa : Jvm.FP.Core.fits b64 (.fin s c q) := ea ▸ val64_fits a
  obtain ⟨h1, h2, h3, -⟩ := fa
  rw [qmin_b64] at h2
  rw [show b64.qmax = 971 by decide] at h3
  refine ⟨signed s c, (q - (-1074)).toNat, ?_, by rw [natAbs_signed]; exact h1, by omega⟩
  unfold V zval
  rw [ea]
  show signed s (c * 2 ^ (q - b64.qmin).toNat) = _
  rw [signed_mul, qmin_b64]
theorem V_le {a : UInt64} : (V a).natAbs ≤ (V a).natAbs := Nat.le_refl _
end Jvm.OwnF
namespace Jvm.OwnF
open Jvm.FP Jvm.FP.Core
/-! exact values: a is n / 2^k -/
def R53 (n : Int) : Prop := ∃ (m : Int) (e : Nat), n = m * ((2 ^ e : Nat) : Int) ∧ m.natAbs ≤ 2 ^ 53 ∧ e ≤ 800
def DV (n : Int) (k : Nat) (a : UInt64) : Prop := DFin a ∧ k ≤ 1074 ∧ V a = n * ((2 ^ (1074 - k) : Nat) : Int)
theorem r53 {n : Int} (h : n.natAbs ≤ 2 ^ 53) : R53 n := ⟨n, 0, by simp, h, by decide⟩
theorem rep_of {m : Int} {e : Nat} (hm : m.natAbs ≤ 2 ^ 53) (he : e ≤ 1900) : Rep (m * ((2 ^ e : Nat) : Int)) := by
  by_cases h : m.natAbs < 2 ^ 53
  · exact ⟨m, e, rfl, h, by omega⟩
  · refine ⟨m.sign, e + 53, ?_, ?_, by omega⟩
    · have h1 : m.natAbs = 2 ^ 53 := by omega
      have h2 : m = m.sign * (m.natAbs : Int) := (Int.sign_mul_natAbs m).symm
      conv => lhs; rw [h2, h1]
      rw [Nat.pow_add, Int.natCast_mul, Int.mul_assoc]
      congr 1
      rw [Int.mul_comm]
    · have : m.sign.natAbs ≤ 1 := by
        rcases Int.lt_trichotomy m 0 with q | q | q
        · rw [Int.sign_eq_neg_one_of_neg q]; decide
        · rw [q]; decide
        · rw [Int.sign_eq_one_of_pos q]; decide
      omega
theorem rep_R {n : Int} (h : R53 n) {k : Nat} (hk : k ≤ 1074) : Rep (n * ((2 ^ k : Nat) : Int)) := by
  obtain ⟨m, e, rfl, hm, he⟩ := h
  rw [Int.mul_assoc, ← Int.natCast_mul, ← Nat.pow_add]
  exact rep_of hm (by omega)
theorem big_R {n : Int} (h : R53 n) {k : Nat} (hk : k ≤ 1074) : (n * ((2 ^ k : Nat) : Int)).natAbs ≤ BIG := by
  obtain ⟨m, e, rfl, hm, he⟩ := h
  rw [Int.natAbs_mul, Int.natAbs_mul, Int.natAbs_natCast, Int.natAbs_natCast, Nat.mul_assoc, ← Nat.pow_add]
  refine Nat.le_trans (Nat.mul_le_mul_right _ hm) ?_
  unfold BIG
  rw [← Nat.pow_add]
  exact Nat.pow_le_pow_right (by decide) (by omega)
theorem DV.fin {n : Int} {k : Nat} {a : UInt64} (h : DV n k a) : DFin a := h.1
theorem DV.nn {n : Int} {k : Nat} {a : UInt64} (h : DV n k a) : Jvm.Free.Fl.NoNaN64 a := noNaN_fin h.1
theorem DV.of_eq {n m : Int} {k : Nat} {a : UInt64} (h : DV n k a) (e : n = m) : DV m k a := e ▸ h
theorem DV.up {n : Int} {k : Nat} {a : UInt64} (h : DV n k a) (j : Nat) (hj : k + j ≤ 1074) : DV (n * ((2 ^ j : Nat) : Int)) (k + j) a := by
  refine ⟨h.1, hj, ?_⟩
  rw [h.2.2, Int.mul_assoc, ← Int.natCast_mul, ← Nat.pow_add]
  congr 4
  omega
theorem DV.down {n : Int} {k j : Nat} {a : UInt64} (h : DV (n * ((2 ^ j : Nat) : Int)) (k + j) a) : DV n k a := by
  refine ⟨h.1, by have := h.2.1; omega, ?_⟩
  rw [h.2.2, Int.mul_assoc, ← Int.natCast_mul, ← Nat.pow_add]
  congr 4
  have := h.2.1; omega
theorem DV_of_V {n : Int} {k : Nat} {a : UInt64} (hf : DFin a) (hk : k ≤ 1074) (hn : R53 n) (h : V a = rnd (n * ((2 ^ (1074 - k) : Nat) : Int)) 1) : DV n k a :=
  ⟨hf, hk, by rw [h]; exact rnd_exact (by decide) (by simp) (rep_R hn (by omega))⟩
theorem DV_add {n m : Int} {k : Nat} {a b : UInt64} (ha : DV n k a) (hb : DV m k b) (h : R53 (n + m)) : DV (n + m) k (FP.dadd a b) := by
  have e : V a + V b = (n + m) * ((2 ^ (1074 - k) : Nat) : Int) := by rw [ha.2.2, hb.2.2, Int.add_mul]
  obtain ⟨h1, h2⟩ := V_dadd ha.1 hb.1 (by rw [e]; exact big_R h (by omega))
  exact DV_of_V h1 ha.2.1 h (by rw [h2, e])
theorem DV_sub {n m : Int} {k : Nat} {a b : UInt64} (ha : DV n k a) (hb : DV m k b) (h : R53 (n - m)) : DV (n - m) k (FP.dsub a b) := by
  have e : V a - V b = (n - m) * ((2 ^ (1074 - k) : Nat) : Int) := by rw [ha.2.2, hb.2.2, Int.sub_mul]
  obtain ⟨h1, h2⟩ := V_dsub ha.1 hb.1 (by rw [e]; exact big_R h (by omega))
  exact DV_of_V h1 ha.2.1 h (by rw [h2, e])
theorem DV_mul {n m : Int} {k j : Nat} {a b : UInt64} (ha : DV n k a) (hb : DV m j b) (hkj : k + j ≤ 1074) (h : R53 (n * m)) : DV (n * m) (k + j) (FP.dmul a b) := by
  have e : V a * V b = (n * m) * ((2 ^ (1074 - (k + j)) : Nat) : Int) * (one64 : Int) := by
    rw [ha.2.2, hb.2.2]
    have : ((2 ^ (1074 - (k + j)) : Nat) : Int) * (one64 : Int) = ((2 ^ (1074 - k) : Nat) : Int) * ((2 ^ (1074 - j) : Nat) : Int) := by
      rw [← Int.natCast_mul, ← Int.natCast_mul]
      unfold one64
      rw [← Nat.pow_add, ← Nat.pow_add]
      congr 2
      have := ha.2.1; have := hb.2.1; omega
    rw [Int.mul_assoc (n * m), this]
    ac_rfl
  obtain ⟨h1, h2⟩ := V_dmul ha.1 hb.1 (by
    rw [e, Int.natAbs_mul, Int.natAbs_natCast]
    exact Nat.mul_le_mul_right _ (big_R h (by omega)))
  refine ⟨h1, hkj, ?_⟩
  rw [h2]
  exact rnd_exact one64_pos e (rep_R h (by omega))
theorem divalg {n c m P Q X U I J : Int} (h : n * P = c * m * Q) (e2 : X * Q = U) (e3 : I * J * P = U * U) : n * X * U * (Q * P) = c * I * (m * J) * (Q * P) := by
  have l : n * X * U * (Q * P) = (n * P) * (X * Q) * U := by ac_rfl
  have r : c * I * (m * J) * (Q * P) = c * m * Q * (I * J * P) := by ac_rfl
  rw [l, r, h, e2, e3, Int.mul_assoc (c * m * Q)]
theorem DV_div {n m c : Int} {k j i : Nat} {a b : UInt64} (ha : DV n k a) (hb : DV m j b) (hi : i ≤ 1074) (hm : m ≠ 0) (hc : R53 c) (h : n * ((2 ^ (j + i) : Nat) : Int) = c * m * ((2 ^ k : Nat) : Int)) : DV c i (FP.ddiv a b) := by
  have hb0 : V b ≠ 0 := by
    rw [hb.2.2]
    intro q
    rcases Int.mul_eq_zero.mp q with q | q
    · exact hm q
    · have := Nat.two_pow_pos (1074 - j); omega
  have hk := ha.2.1
  have hj := hb.2.1
  -- V a * U = (c * 2^(1074 - i)) * V b
  have e : V a * (one64 : Int) = c * ((2 ^ (1074 - i) : Nat) : Int) * V b := by
    have pp : ((2 ^ (k + j + i) : Nat) : Int) ≠ 0 := by have := Nat.two_pow_pos (k + j + i); omega
    refine Int.eq_of_mul_eq_mul_right pp ?_
    rw [ha.2.2, hb.2.2]
    have e1 : ((2 ^ (k + j + i) : Nat) : Int) = ((2 ^ k : Nat) : Int) * ((2 ^ (j + i) : Nat) : Int) := by rw [← Int.natCast_mul, ← Nat.pow_add, Nat.add_assoc]
    have e2 : ((2 ^ (1074 - k) : Nat) : Int) * ((2 ^ k : Nat) : Int) = (one64 : Int) := by rw [← Int.natCast_mul, ← Nat.pow_add, Nat.sub_add_cancel hk]; rfl
    have e3 : ((2 ^ (1074 - i) : Nat) : Int) * ((2 ^ (1074 - j) : Nat) : Int) * ((2 ^ (j + i) : Nat) : Int) = (one64 : Int) * (one64 : Int) := by
      rw [← Int.natCast_mul, ← Int.natCast_mul, ← Int.natCast_mul]
      unfold one64
      rw [← Nat.pow_add, ← Nat.pow_add, ← Nat.pow_add]
      congr 2
      omega
    rw [e1]
    exact divalg h e2 e3
  have ea : (V a).natAbs * one64 = (c * ((2 ^ (1074 - i) : Nat) : Int)).natAbs * (V b).natAbs := by
    have := congrArg Int.natAbs e
    rwa [Int.natAbs_mul, Int.natAbs_mul, Int.natAbs_natCast] at this
  obtain ⟨h1, h2⟩ := V_ddiv ha.1 hb.1 hb0 (by rw [ea]; exact Nat.mul_le_mul_right _ (big_R hc (by omega)))
  refine ⟨h1, hi, ?_⟩
  rw [h2]
  refine rnd_exact (by omega) ?_ (rep_R hc (by omega))
  rw [e, Int.mul_assoc, Int.mul_sign_self]
theorem DV_l2d {n : Int64} (h : R53 n.toInt) : DV n.toInt 0 (FP.l2d n) := by
  obtain ⟨h1, h2⟩ := V_l2d n
  exact DV_of_V h1 (by decide) h h2
theorem DV_i2d (n : Int32) : DV n.toInt 0 (FP.i2d n) := by
  obtain ⟨h1, h2⟩ := V_i2d n
  exact DV_of_V h1 (by decide) (r53 (Nat.le_trans (int32_abs n) (by decide))) h2
theorem DV_const {a : UInt64} {n : Int} {k : Nat} (h1 : a.toNat % 2 ^ 63 < 9218868437227405312) (hk : k ≤ 1074) (h2 : V a = n * ((2 ^ (1074 - k) : Nat) : Int)) : DV n k a := ⟨(fin_bits a).mpr h1, hk, h2⟩
theorem DV_0 : DV 0 0 FP.dconst0 := DV_const (by decide) (by decide) (by decide +kernel)
theorem DV_1 : DV 1 0 FP.dconst1 := DV_const (by decide) (by decide) (by decide +kernel)
theorem DV_z : DV 0 0 (0 : UInt64) := DV_const (by decide) (by decide) (by decide +kernel)
theorem cmpv_V {a b : UInt64} (ha : DFin a) (hb : DFin b) (o : ClassFile.CmpOp) : (V a < V b → Op.cmpValue (FP.dcmp a b) o = -1) ∧ (V a = V b → Op.cmpValue (FP.dcmp a b) o = 0) ∧ (V b < V a → Op.cmpValue (FP.dcmp a b) o = 1) := by
  rw [cmp_V ha hb]
  refine ⟨fun h => ?_, fun h => ?_, fun h => ?_⟩
  · rw [(compare_lt_iff _ _).mpr h]; rfl
  · rw [(compare_eq_iff _ _).mpr h]; rfl
  · rw [(compare_gt_iff _ _).mpr h]; rfl
theorem DV_le {n m : Int} {k : Nat} {a b : UInt64} (ha : DV n k a) (hb : DV m k b) : (V a < V b ↔ n < m) ∧ (V a = V b ↔ n = m) := by
  rw [ha.2.2, hb.2.2]
  have hp : (0 : Int) < ((2 ^ (1074 - k) : Nat) : Int) := by have := Nat.two_pow_pos (1074 - k); omega
  exact ⟨Int.mul_lt_mul_right hp, ⟨fun q => Int.eq_of_mul_eq_mul_right (by omega) q, fun q => by rw [q]⟩⟩
theorem DV_cmp {n m : Int} {k : Nat} {a b : UInt64} (ha : DV n k a) (hb : DV m k b) (o : ClassFile.CmpOp) : (n < m → Op.cmpValue (FP.dcmp a b) o = -1) ∧ (n = m → Op.cmpValue (FP.dcmp a b) o = 0) ∧ (m < n → Op.cmpValue (FP.dcmp a b) o = 1) := by
  obtain ⟨h1, h2, h3⟩ := cmpv_V ha.1 hb.1 o
  exact ⟨fun q => h1 ((DV_le ha hb).1.mpr q), fun q => h2 ((DV_le ha hb).2.mpr q), fun q => h3 ((DV_le hb ha).1.mpr q)⟩
theorem DV_eq0 {n : Int} {k : Nat} {a b : UInt64} (ha : DV n k a) (hb : DV n k b) (o : ClassFile.CmpOp) : Op.cmpValue (FP.dcmp a b) o = 0 := (DV_cmp ha hb o).2.1 rfl
theorem DV_d2l {n : Int} {a : UInt64} (h : DV n 0 a) (h1 : -9223372036854775808 ≤ n) (h2 : n < 9223372036854775808) : (FP.d2l a).toInt = n := by
  obtain ⟨hf, -, hv⟩ := h
  have hn : val64 a ≠ .nan := by obtain ⟨s, c, q, e⟩ := hf; rw [e]; exact Datum.noConfusion
  rw [show FP.d2l a = Core.d2l a from rfl, d2l_val hn, zmag_V]
  have hs : signed (sgn (val64 a)) (V a).natAbs = V a := by rw [← zmag_V]; rfl
  have ho : (1074 - 0 : Nat) = 1074 := rfl
  rw [ho, show (2 ^ 1074 : Nat) = one64 from rfl] at hv
  have hm : (V a).natAbs = n.natAbs * one64 := by rw [hv, Int.natAbs_mul, Int.natAbs_natCast]
  have hd : (V a).natAbs / one64 = n.natAbs := by rw [hm, Nat.mul_div_cancel _ one64_pos]
  rw [hd]
  have hsn : signed (sgn (val64 a)) n.natAbs = n := by
    rw [hm, signed_mul, hv] at hs
    exact Int.eq_of_mul_eq_mul_right (by have := one64_pos; omega) hs
  rw [hsn]
  omega
end Jvm.OwnF
namespace Jvm.OwnF
open Jvm.RoadKit
/-! ints and longs as whole numbers -/
theorem mul_bd {a b : Int} {A B : Nat} (ha : a.natAbs ≤ A) (hb : b.natAbs ≤ B) : (a * b).natAbs ≤ A * B := by rw [Int.natAbs_mul]; exact Nat.mul_le_mul ha hb
theorem iadd_v {x y z : Int32} (h : x + y = z) (hb : (x.toInt + y.toInt).natAbs < 2147483648) : z.toInt = x.toInt + y.toInt := by rw [← h, Int32.toInt_add]; exact Int.bmod_eq_of_le (by omega) (by omega)
theorem isub_v {x y z : Int32} (h : x - y = z) (hb : (x.toInt - y.toInt).natAbs < 2147483648) : z.toInt = x.toInt - y.toInt := by rw [← h, Int32.toInt_sub]; exact Int.bmod_eq_of_le (by omega) (by omega)
theorem imul_v {x y z : Int32} (h : x * y = z) (hb : (x.toInt * y.toInt).natAbs < 2147483648) : z.toInt = x.toInt * y.toInt := by rw [← h, Int32.toInt_mul]; exact Int.bmod_eq_of_le (by omega) (by omega)
theorem ladd_v {x y z : Int64} (h : x + y = z) (hb : (x.toInt + y.toInt).natAbs < 9223372036854775808) : z.toInt = x.toInt + y.toInt := by rw [← h, Int64.toInt_add]; exact Int.bmod_eq_of_le (by omega) (by omega)
theorem lsub_v {x y z : Int64} (h : x - y = z) (hb : (x.toInt - y.toInt).natAbs < 9223372036854775808) : z.toInt = x.toInt - y.toInt := by rw [← h, Int64.toInt_sub]; exact Int.bmod_eq_of_le (by omega) (by omega)
theorem lmul_v {x y z : Int64} (h : x * y = z) (hb : (x.toInt * y.toInt).natAbs < 9223372036854775808) : z.toInt = x.toInt * y.toInt := by rw [← h, Int64.toInt_mul]; exact Int.bmod_eq_of_le (by omega) (by omega)
theorem i2l_v {x : Int32} {z : Int64} (h : x.toInt64 = z) : z.toInt = x.toInt := by rw [← h]; exact c_i2l x
theorem l2i_v {x : Int64} {z : Int32} (h : x.toInt32 = z) (hb : -2147483648 ≤ x.toInt ∧ x.toInt < 2147483648) : z.toInt = x.toInt := by
  rw [← h]; have h1 := c_l2i x; have h2 := rng32 x.toInt32; omega
theorem rng32b (x : Int32) : x.toInt.natAbs ≤ 2147483648 := by have := rng32 x; omega
theorem rng64b (x : Int64) : x.toInt.natAbs ≤ 9223372036854775808 := by have := rng64 x; omega
theorem ishr16 {p z : Int32} (h : p >>> ((16 : Int32) &&& 31) = z) : z.toInt = p.toInt / 65536 := by
  rw [← h, c_ishr p 16 16 (by decide)]; rfl
theorem i2s_b {x z : Int32} (h : x.toInt16.toInt32 = z) : -32768 ≤ z.toInt ∧ z.toInt < 32768 := by rw [← h]; exact (c_i2s x).2
/-- x % y, y > 0, x ≥ 0 -/
theorem irem_v {x y z : Int32} (h : x % y = z) (hx : 0 ≤ x.toInt) : z.toInt = x.toInt % y.toInt := by rw [← h, Int32.toInt_mod]; exact Int.tmod_eq_emod_of_nonneg hx
theorem lrem_v {x y z : Int64} (h : x % y = z) (hx : 0 ≤ x.toInt) : z.toInt = x.toInt % y.toInt := by rw [← h, Int64.toInt_mod]; exact Int.tmod_eq_emod_of_nonneg hx
theorem mask31 {x z : Int32} (h : x &&& (2147483647 : Int32) = z) : 0 ≤ z.toInt ∧ z.toInt < 2147483648 := by
  rw [← h, c_mask x 2147483647 31 (by decide) (by decide)]
  have e : ((2 ^ 31 : Nat) : Int) = 2147483648 := by decide
  rw [e]; omega
/-- x << q, q < 64, no overflow -/
theorem lshl_v {x z : Int64} {q : Int32} (h : x <<< (q &&& 0x3f).toInt64 = z) {k : Nat} (hq : q.toInt = (k : Int)) (hk : k < 64) (hb : (x.toInt * ((2 ^ k : Nat) : Int)).natAbs < 9223372036854775808) : z.toInt = x.toInt * ((2 ^ k : Nat) : Int) := by
  have hn : q.toBitVec.toNat % 64 = k := by
    have e : q.toBitVec.toNat = k := by
      have h1 : q.toBitVec.toInt = (k : Int) := hq
      have h2 := BitVec.toInt_eq_toNat_bmod q.toBitVec
      rw [h1] at h2
      have h3 := q.toBitVec.isLt
      have h4 := Int.bmod_emod (x := (q.toBitVec.toNat : Int)) (m := 2 ^ 32)
      omega
    omega
  have := c_lshl x q k hn
  rw [h] at this
  have r := rng64 z
  omega
end Jvm.OwnF
namespace Jvm.OwnF
open Jvm.RoadKit
theorem nat32 {q : Int32} {k : Nat} (hq : q.toInt = (k : Int)) : q.toBitVec.toNat = k := by
  have h1 : q.toBitVec.toInt = (k : Int) := hq
  have h2 := BitVec.toInt_eq_toNat_bmod q.toBitVec
  rw [h1] at h2
  have h3 := q.toBitVec.isLt
  have h5 := rng32 q
  have h4 := Int.bmod_emod (x := (q.toBitVec.toNat : Int)) (m := 2 ^ 32)
  omega
theorem ishl_v {x z q : Int32} (h : x <<< (q &&& 31) = z) {k : Nat} (hq : q.toInt = (k : Int)) (hk : k < 32) (hb : (x.toInt * ((2 ^ k : Nat) : Int)).natAbs < 2147483648) : z.toInt = x.toInt * ((2 ^ k : Nat) : Int) := by
  have hn : q.toBitVec.toNat % 32 = k := by rw [nat32 hq]; omega
  have := c_ishl x q k hn
  rw [h] at this
  have r := rng32 z
  omega
theorem ishl_1 {z q : Int32} (h : (1 : Int32) <<< (q &&& 31) = z) {k : Nat} (hq : q.toInt = (k : Int)) (hk : k < 31) : z.toInt = ((2 ^ k : Nat) : Int) := by
  have p : 2 ^ k ≤ 2 ^ 30 := Nat.pow_le_pow_right (by decide) (by omega)
  have := ishl_v h hq (by omega) (by rw [show (1 : Int32).toInt = 1 by decide, Int.one_mul, Int.natAbs_natCast]; omega)
  rw [show (1 : Int32).toInt = 1 by decide, Int.one_mul] at this
  exact this
end Jvm.OwnF
namespace Jvm.Pilot.@@N@@
open Jvm Jvm.ClassFile Sem Op Lib Jvm.Free Jvm.Stand Jvm.LawKit Jvm.RoadKit Bundle Jvm.Pilot.@@N@@.Jvm.D
open Jvm.OwnF in
theorem half_v {p2 : Int32} {x d : UInt64} (h : FP.dadd (FP.i2d p2) d = x) {b : Int} (hb : b = 0 ∧ d = FP.dconst0 ∨ b = 1 ∧ d = 4602678819172646912) : DV (2 * p2.toInt + b) 1 x := by
  have hc := (DV_i2d p2).up 1 (by decide)
  have hd : DV b 1 d := by
    rcases hb with ⟨rfl, rfl⟩ | ⟨rfl, rfl⟩
    · have := DV_0.up 1 (by decide); simpa using this
    · exact DV_const (by decide) (by decide) (by decide +kernel)
  have r := rng32b p2
  have e : p2.toInt * ((2 ^ 1 : Nat) : Int) = 2 * p2.toInt := by rw [show ((2 ^ 1 : Nat) : Int) = 2 from rfl, Int.mul_comm]
  rw [e] at hc
  rw [← h]
  exact DV_add hc hd (r53 (by rcases hb with ⟨rfl, -⟩ | ⟨rfl, -⟩ <;> omega))
open Jvm.OwnF in
/-- what the bounds and the doubled x say of the two comparisons -/
theorem pl {p0 p1 p2 : Int32} {z1 z10 z11 z13 z68 z69 z80 z88 z102 : Int64} {z9 : Int32} {z52 z56 x : UInt64} {b : Int} {bl : Int64} (hbl : bl.toInt = b) (hb : b = 0 ∨ b = 1)
    (h1 : p0.toInt64 = z1) (h9 : p1 &&& (2147483647 : Int32) = z9) (h10 : z9.toInt64 = z10) (h11 : z1 + z10 = z11) (h13 : z11 + 1 = z13)
    (h52 : FP.l2d z1 = z52) (h56 : FP.l2d z13 = z56) (hx : DV (2 * p2.toInt + b) 1 x) (h68 : p2.toInt64 = z68) (h69 : 2 * z68 = z69) (h80 : z69 + bl = z80) (h88 : 2 * z1 = z88) (h102 : 2 * z13 = z102) :
    (z80 < z88 → cmpValue (FP.dcmp x z52) .l = -1) ∧ (¬ z80 < z88 → 0 ≤ (cmpValue (FP.dcmp x z52) .l).toInt) ∧ (z102 < z80 → cmpValue (FP.dcmp x z56) .g = 1) ∧ (¬ z102 < z80 → (cmpValue (FP.dcmp x z56) .g).toInt ≤ 0) := by
  have r0 := rng32 p0; have r2 := rng32 p2
  obtain ⟨m1, m2⟩ := mask31 h9
  have i1 := i2l_v h1; have i10 := i2l_v h10; have i68 := i2l_v h68
  have o1 : (1 : Int64).toInt = 1 := by decide
  have o2 : (2 : Int64).toInt = 2 := by decide
  have i11 := ladd_v h11 (by omega)
  have i13 := ladd_v h13 (by omega)
  have i69 := lmul_v h69 (by rw [o2]; omega)
  rw [o2] at i69
  have i80 := ladd_v h80 (by omega)
  have i88 := lmul_v h88 (by rw [o2]; omega)
  rw [o2] at i88
  have i102 := lmul_v h102 (by rw [o2]; omega)
  rw [o2] at i102
  have d52 : DV (z1.toInt * ((2 ^ 1 : Nat) : Int)) 1 z52 := (h52 ▸ DV_l2d (r53 (by omega)) : DV z1.toInt 0 z52).up 1 (by decide)
  have d56 : DV (z13.toInt * ((2 ^ 1 : Nat) : Int)) 1 z56 := (h56 ▸ DV_l2d (r53 (by omega)) : DV z13.toInt 0 z56).up 1 (by decide)
  have e2 : ((2 ^ 1 : Nat) : Int) = 2 := rfl
  rw [e2] at d52 d56
  have c1 := DV_cmp hx d52 .l
  have c2 := DV_cmp hx d56 .g
  rw [Int64.lt_iff_toInt_lt, Int64.lt_iff_toInt_lt]
  refine ⟨fun q => c1.1 (by omega), fun q => ?_, fun q => c2.2.2 (by omega), fun q => ?_⟩
  · rcases Int.lt_trichotomy (z1.toInt * 2) (2 * p2.toInt + b) with t | t | t
    · rw [c1.2.2 t]; decide
    · rw [c1.2.1 t.symm]; decide
    · omega
  · rcases Int.lt_trichotomy (z13.toInt * 2) (2 * p2.toInt + b) with t | t | t
    · omega
    · rw [c2.2.1 t.symm]; decide
    · rw [c2.1 t]; decide
theorem d2_0 : decode jdk_30_method_1_code 0 = .ok (.aload_n 0, 1) := by decide +kernel
theorem d2_1 : decode jdk_30_method_1_code 1 = .ok (.invokespecial 1, 3) := by decide +kernel
theorem d2_4 : decode jdk_30_method_1_code 4 = .ok (.return_, 1) := by decide +kernel
theorem pn_0 : plainName "java/lang/Record" = true := by first | (simp [plainName, overriddenIn]; done) | decide +kernel
theorem ef_rm2 (m : MethodId) (o0 : Addr) : entryFrame m #[(.ref o0)] 1 = mkF m 0 #[.val (.ref o0)] [] := by first | (simp [entryFrame, mkF, argsToLocals, Value.category]; done) | rfl
theorem d1_0 : decode prog_35_method_1_code 0 = .ok (.aload_n 0, 1) := by decide +kernel
theorem d1_1 : decode prog_35_method_1_code 1 = .ok (.invokespecial 1, 3) := by decide +kernel
theorem pd_0 : parseMethodDescriptor "()V" = some ⟨[], none⟩ := by decide +kernel
theorem d1_4 : decode prog_35_method_1_code 4 = .ok (.aload_n 0, 1) := by decide +kernel
theorem d1_5 : decode prog_35_method_1_code 5 = .ok (.dload_n 1, 1) := by decide +kernel
theorem d1_6 : decode prog_35_method_1_code 6 = .ok (.putfield 7, 3) := by decide +kernel
theorem d1_9 : decode prog_35_method_1_code 9 = .ok (.aload_n 0, 1) := by decide +kernel
theorem d1_10 : decode prog_35_method_1_code 10 = .ok (.dload_n 3, 1) := by decide +kernel
theorem d1_11 : decode prog_35_method_1_code 11 = .ok (.putfield 13, 3) := by decide +kernel
theorem d1_14 : decode prog_35_method_1_code 14 = .ok (.aload_n 0, 1) := by decide +kernel
theorem d1_15 : decode prog_35_method_1_code 15 = .ok (.dload 5, 2) := by decide +kernel
theorem d1_17 : decode prog_35_method_1_code 17 = .ok (.putfield 16, 3) := by decide +kernel
theorem d1_20 : decode prog_35_method_1_code 20 = .ok (.aload_n 0, 1) := by decide +kernel
theorem d1_21 : decode prog_35_method_1_code 21 = .ok (.dload 7, 2) := by decide +kernel
theorem d1_23 : decode prog_35_method_1_code 23 = .ok (.putfield 19, 3) := by decide +kernel
theorem d1_26 : decode prog_35_method_1_code 26 = .ok (.aload_n 0, 1) := by decide +kernel
theorem d1_27 : decode prog_35_method_1_code 27 = .ok (.dload 9, 2) := by decide +kernel
theorem d1_29 : decode prog_35_method_1_code 29 = .ok (.putfield 22, 3) := by decide +kernel
theorem d1_32 : decode prog_35_method_1_code 32 = .ok (.return_, 1) := by decide +kernel
theorem pn_1 : plainName "com/example/lumenstand/lumenstand/scenario/Plot" = true := by first | (simp [plainName, overriddenIn]; done) | decide +kernel
theorem ef_rm1 (m : MethodId) (o0 : Addr) (d1 : UInt64) (d2 : UInt64) (d3 : UInt64) (d4 : UInt64) (d5 : UInt64) : entryFrame m #[(.ref o0), (.double d1), (.double d2), (.double d3), (.double d4), (.double d5)] 11 = mkF m 0 #[.val (.ref o0), .val (.double d1), .second, .val (.double d2), .second, .val (.double d3), .second, .val (.double d4), .second, .val (.double d5), .second] [] := by first | (simp [entryFrame, mkF, argsToLocals, Value.category]; done) | rfl
theorem d4_0 : decode prog_35_method_9_code 0 = .ok (.dload_n 1, 1) := by decide +kernel
theorem d4_1 : decode prog_35_method_9_code 1 = .ok (.aload_n 0, 1) := by decide +kernel
theorem d4_2 : decode prog_35_method_9_code 2 = .ok (.getfield 7, 3) := by decide +kernel
theorem d4_5 : decode prog_35_method_9_code 5 = .ok (.dcmp .l, 1) := by decide +kernel
theorem d4_6 : decode prog_35_method_9_code 6 = .ok (.ifCond .lt 16, 3) := by decide +kernel
theorem d4_9 : decode prog_35_method_9_code 9 = .ok (.dload_n 1, 1) := by decide +kernel
theorem d4_10 : decode prog_35_method_9_code 10 = .ok (.aload_n 0, 1) := by decide +kernel
theorem d4_11 : decode prog_35_method_9_code 11 = .ok (.getfield 16, 3) := by decide +kernel
theorem d4_14 : decode prog_35_method_9_code 14 = .ok (.dcmp .g, 1) := by decide +kernel
theorem d4_15 : decode prog_35_method_9_code 15 = .ok (.ifCond .gt 7, 3) := by decide +kernel
theorem d4_18 : decode prog_35_method_9_code 18 = .ok (.iconst 1, 1) := by decide +kernel
theorem d4_19 : decode prog_35_method_9_code 19 = .ok (.goto 4, 3) := by decide +kernel
theorem d4_23 : decode prog_35_method_9_code 23 = .ok (.ireturn, 1) := by decide +kernel
theorem ef_rm4_ff (m : MethodId) (o0 : Addr) (d1 : UInt64) : entryFrame m #[(.ref o0), (.double d1)] 3 = mkF m 0 #[.val (.ref o0), .val (.double d1), .second] [] := by first | (simp [entryFrame, mkF, argsToLocals, Value.category]; done) | rfl
theorem d4_22 : decode prog_35_method_9_code 22 = .ok (.iconst 0, 1) := by decide +kernel
theorem ef_rm4_t (m : MethodId) (o0 : Addr) (d1 : UInt64) : entryFrame m #[(.ref o0), (.double d1)] 3 = mkF m 0 #[.val (.ref o0), .val (.double d1), .second] [] := by first | (simp [entryFrame, mkF, argsToLocals, Value.category]; done) | rfl
theorem ef_rm4_ft (m : MethodId) (o0 : Addr) (d1 : UInt64) : entryFrame m #[(.ref o0), (.double d1)] 3 = mkF m 0 #[.val (.ref o0), .val (.double d1), .second] [] := by first | (simp [entryFrame, mkF, argsToLocals, Value.category]; done) | rfl
theorem pd_1 : parseMethodDescriptor "(DDDDD)V" = some ⟨[.double, .double, .double, .double, .double], none⟩ := by decide +kernel
theorem pd_2 : parseMethodDescriptor "(D)Z" = some ⟨[.double], some .boolean⟩ := by decide +kernel
theorem pn_2 : plainName "com/example/lumenstand/lumenstand/scenario/PlotContainsXPinLaw" = true := by first | (simp [plainName, overriddenIn]; done) | decide +kernel
theorem ef_rm0 (m : MethodId) (p0 : Int32) (p1 : Int32) (p2 : Int32) (p3 : Int32) : entryFrame m #[(.int p0), (.int p1), (.int p2), (.int p3)] maxLocals = mkF m 0 #[.val (.int p0), .val (.int p1), .val (.int p2), .val (.int p3), .unset, .unset, .unset, .unset, .unset, .unset, .unset, .unset, .unset, .unset, .unset] [] := by first | (simp [entryFrame, mkF, argsToLocals, Value.category, maxLocals]; done) | rfl
def Q2 (Z : State) (o0 : Addr)  (h0 : Heap) (n0 : Nat) (v : Option Value) (h : Heap) (L : List Loc) : Prop := v = none ∧ Fr n0 L ∧ h = h0
set_option maxRecDepth 65536 in
set_option maxHeartbeats 40000000 in
theorem rm2 (l : Launch) (Z : State) (a0 : Array Value) (hw : ∀ d ∈ tables_1, d.before a0 Z = true) (ws : List Jvm.Cond) (o0 : Addr)  (h0 : Heap) (n0 : Nat) (Z0 : n0 ≤ h0.size)  :
    MetFree l (⟨"java/lang/Record", "<init>", "()V"⟩ : MethodName) (head1 (Jvm.Cond.code (⟨"java/lang/Record", "<init>", "()V"⟩ : MethodName) jdk_30_method_1_code 1 none :: ws) ({ frames := 1, cells := 0, slots := 0, locals := 12 } : Room)) (fun a U => a = #[(.ref o0)] ∧ Z.Warmed39 U.vm ∧ U.heap = h0) (fun _ _ _ _ _ => True) (fun _ U o U' => ∃ v L, o = .returned v ∧ Q2 Z o0  h0 n0 v U'.heap L ∧ FrameEnd U o U' L ({ frames := 1, cells := 0, slots := 0, locals := 12 } : Room).cells ({ frames := 1, cells := 0, slots := 0, locals := 12 } : Room).slots) := by
  refine MetFree.of_bodySF (plainFor_of_name pn_0) hisR ?_
  intro p e s m args below meth c s₁ Bd hml0 hP hK
  obtain ⟨rfl, hZ, hh⟩ := hP
  have hx := Bd.exec
  have hby := Bd.bytes
  have hml : c.maxLocals = 1 := hml0
  have hown : s.vm.findClass "java/lang/Record" = some m.cls := findClass_of_methodNamed Bd.named
  have hnm := (name_of_methodNamed Bd.named Bd.method).1
  have X0 : Stand p l e ({ frames := 1, cells := 0, slots := 0, locals := 12 } : Room) s m #[(.ref o0)] below meth c s₁ [] 0 0 := Stand.of_body Bd
  have e0 : s₁.heap = h0 := by rw [← hh, Bd.state]; rfl
  have N0 := Fr.nil n0
  have c0 : ∀ t, Steps p.tables e below (s₁.setTop (mkF m 0 #[.val (.ref o0)] [])) t → Steps p.tables e below (s₁.setTop (entryFrame m #[(.ref o0)] 1)) t := fun t k => castTop (ef_rm2 m o0) k
  obtain ⟨T1, X1, e1, st1⟩ := initO X0 hx hZ hown (hw _ (List.mem_of_getElem? (i := 13) rfl)) (hw _ (List.mem_of_getElem? (i := 14) rfl)) (hw _ (List.mem_of_getElem? (i := 15) rfl)) e0 (g := (mkF m 1 #[.val (.ref o0)] [(.ref o0)])) rfl (by rw [hml]; rfl) rfl (hb hby d2_1) (by decide) (W := 0) (by show 2 * 0 + _ ≤ _; exact Nat.le_of_eq rfl) (by decide)
  have c2 : ∀ t, Steps p.tables e below (T1.setTop (mkF m 4 #[.val (.ref o0)] [])) t → Steps p.tables e below (s₁.setTop (entryFrame m #[(.ref o0)] 1)) t := by
    intro t k
    refine c0 t ?_
    show Steps p.tables e below (s₁.setTop (mkF m 0 #[.val (.ref o0)] [])) _
    refine XS.aloadN X0.here hx rfl (hb hby d2_0) rfl rfl ?_
    show Steps p.tables e below (s₁.setTop (mkF m 1 #[.val (.ref o0)] [(.ref o0)])) _
    refine st1 _ ?_
    exact k
  obtain ⟨fs, hr, hrun, hended, hW, hsame⟩ := X1.leave (v := none) (fun _ => rfl)
  refine ⟨_, _, c2 _ ?_, hrun, hended, _, _, rfl, ?_, ⟨_, rfl⟩, hW, hsame.mono (by decide) (by decide)⟩
  · show Steps p.tables e below (T1.setTop (mkF m 4 #[.val (.ref o0)] [])) _
    exact X1.returnOut hx Bd.returns (hb hby d2_4) hr
  · show Q2 Z o0  h0 n0 _ T1.heap _
    rw [e1]
    exact ⟨rfl, N0, rfl⟩
def Q1 (Z : State) (o0 : Addr) (d1 : UInt64) (d2 : UInt64) (d3 : UInt64) (d4 : UInt64) (d5 : UInt64) (u_xMin_o0 : Value) (u_yMin_o0 : Value) (u_xMax_o0 : Value) (u_yMax_o0 : Value) (u_cellSize_o0 : Value)  (h0 : Heap) (n0 : Nat) (v : Option Value) (h : Heap) (L : List Loc) : Prop := v = none ∧ Fr n0 L ∧ Keep h0 h [o0] ∧ Exa Z h o0 "com/example/lumenstand/lumenstand/scenario/Plot" ∧ Fld Z h o0 "com/example/lumenstand/lumenstand/scenario/Plot" "xMin" "D" (.double d1) ∧ Fld Z h o0 "com/example/lumenstand/lumenstand/scenario/Plot" "yMin" "D" (.double d2) ∧ Fld Z h o0 "com/example/lumenstand/lumenstand/scenario/Plot" "xMax" "D" (.double d3) ∧ Fld Z h o0 "com/example/lumenstand/lumenstand/scenario/Plot" "yMax" "D" (.double d4) ∧ Fld Z h o0 "com/example/lumenstand/lumenstand/scenario/Plot" "cellSize" "D" (.double d5)
set_option maxRecDepth 65536 in
set_option maxHeartbeats 40000000 in
theorem rm1 (l : Launch) (Z : State) (a0 : Array Value) (hw : ∀ d ∈ tables_1, d.before a0 Z = true) (ws : List Jvm.Cond) (o0 : Addr) (d1 : UInt64) (d2 : UInt64) (d3 : UInt64) (d4 : UInt64) (d5 : UInt64) (u_xMin_o0 : Value) (u_yMin_o0 : Value) (u_xMax_o0 : Value) (u_yMax_o0 : Value) (u_cellSize_o0 : Value)  (h0 : Heap) (n0 : Nat) (Z0 : n0 ≤ h0.size) (E_o0 : Exa Z h0 o0 "com/example/lumenstand/lumenstand/scenario/Plot") (F_xMin_o0 : Fld Z h0 o0 "com/example/lumenstand/lumenstand/scenario/Plot" "xMin" "D" u_xMin_o0) (g_o0 : n0 ≤ o0) (F_yMin_o0 : Fld Z h0 o0 "com/example/lumenstand/lumenstand/scenario/Plot" "yMin" "D" u_yMin_o0) (F_xMax_o0 : Fld Z h0 o0 "com/example/lumenstand/lumenstand/scenario/Plot" "xMax" "D" u_xMax_o0) (F_yMax_o0 : Fld Z h0 o0 "com/example/lumenstand/lumenstand/scenario/Plot" "yMax" "D" u_yMax_o0) (F_cellSize_o0 : Fld Z h0 o0 "com/example/lumenstand/lumenstand/scenario/Plot" "cellSize" "D" u_cellSize_o0) :
    MetFree l (⟨"com/example/lumenstand/lumenstand/scenario/Plot", "<init>", "(DDDDD)V"⟩ : MethodName) (head1 (Jvm.Cond.code (⟨"com/example/lumenstand/lumenstand/scenario/Plot", "<init>", "(DDDDD)V"⟩ : MethodName) prog_35_method_1_code 11 none :: ws) ({ frames := 2, cells := 0, slots := 0, locals := 24 } : Room)) (fun a U => a = #[(.ref o0), (.double d1), (.double d2), (.double d3), (.double d4), (.double d5)] ∧ Z.Warmed39 U.vm ∧ U.heap = h0) (fun _ _ _ _ _ => True) (fun _ U o U' => ∃ v L, o = .returned v ∧ Q1 Z o0 d1 d2 d3 d4 d5 u_xMin_o0 u_yMin_o0 u_xMax_o0 u_yMax_o0 u_cellSize_o0  h0 n0 v U'.heap L ∧ FrameEnd U o U' L ({ frames := 2, cells := 0, slots := 0, locals := 24 } : Room).cells ({ frames := 2, cells := 0, slots := 0, locals := 24 } : Room).slots) := by
  refine MetFree.of_bodySF (plainFor_of_name pn_1) hisR ?_
  intro p e s m args below meth c s₁ Bd hml0 hP hK
  obtain ⟨rfl, hZ, hh⟩ := hP
  have hx := Bd.exec
  have hby := Bd.bytes
  have hml : c.maxLocals = 11 := hml0
  have hown : s.vm.findClass "com/example/lumenstand/lumenstand/scenario/Plot" = some m.cls := findClass_of_methodNamed Bd.named
  have hnm := (name_of_methodNamed Bd.named Bd.method).1
  have X0 : Stand p l e ({ frames := 2, cells := 0, slots := 0, locals := 24 } : Room) s m #[(.ref o0), (.double d1), (.double d2), (.double d3), (.double d4), (.double d5)] below meth c s₁ [] 0 0 := Stand.of_body Bd
  have e0 : s₁.heap = h0 := by rw [← hh, Bd.state]; rfl
  have N0 := Fr.nil n0
  have c0 : ∀ t, Steps p.tables e below (s₁.setTop (mkF m 0 #[.val (.ref o0), .val (.double d1), .second, .val (.double d2), .second, .val (.double d3), .second, .val (.double d4), .second, .val (.double d5), .second] [])) t → Steps p.tables e below (s₁.setTop (entryFrame m #[(.ref o0), (.double d1), (.double d2), (.double d3), (.double d4), (.double d5)] 11)) t := fun t k => castTop (ef_rm1 m o0 d1 d2 d3 d4 d5) k
  obtain ⟨_, _, ⟨T1, L1, k1, n1⟩, -, X1, ⟨Lc1, hQ1, ql1, qy1, qz1⟩, st1⟩ := X0.specialBack hx (y := (⟨"java/lang/Record", "<init>", "()V"⟩ : MethodName)) rfl hown (mvT hZ (hw _ (List.mem_of_getElem? (i := 8) rfl))) (mvT hZ (hw _ (List.mem_of_getElem? (i := 9) rfl))) (mvT hZ (hw _ (List.mem_of_getElem? (i := 12) rfl))) (by decide) (backOf (W := 0) (rm2 l Z a0 hw [] o0  h0 n0 Z0 ) hZ (hw _ (List.mem_of_getElem? (i := 12) rfl)) (hw _ (List.mem_of_getElem? (i := 11) rfl)) (by decide) (by decide)) (g := (mkF m 1 #[.val (.ref o0), .val (.double d1), .second, .val (.double d2), .second, .val (.double d3), .second, .val (.double d4), .second, .val (.double d5), .second] [(.ref o0)])) rfl (by rw [hml]; rfl) (Steps.refl _) (a := o0) (argsL := []) (rest := []) (lenOf pd_0 rfl) rfl (by show 2 * 0 + _ ≤ _; exact Nat.le_of_eq rfl) (hb hby d1_1) (fun _ _ => ⟨rfl, e0, (by decide : 0 + 0 ≤ _), (by decide : 0 + 0 ≤ _)⟩)
  dsimp only [Pt.U, Pt.locs, Pt.cells, Pt.slots] at X1 ql1 qy1 qz1 st1 hQ1
  subst ql1 qy1 qz1
  obtain ⟨rfl, N1q, e1⟩ := hQ1
  have N1 := Fr.app N0 N1q
  obtain ⟨T2, h2, X2, e2, W2, st2⟩ := putF X1 hx hZ hown (host := "") (Or.inl (hw _ (List.mem_of_getElem? (i := 16) rfl))) Via.refl e1 F_xMin_o0 E_o0 (Or.inr ⟨(hw _ (List.mem_of_getElem? (i := 17) rfl)), rfl, hnm⟩) (hw _ (List.mem_of_getElem? (i := 3) rfl)) (ty := .double) (by decide) rfl rfl (g := (mkF m 6 #[.val (.ref o0), .val (.double d1), .second, .val (.double d2), .second, .val (.double d3), .second, .val (.double d4), .second, .val (.double d5), .second] [(.double d1), (.ref o0)])) rfl rfl (hb hby d1_6)
  have N2 := Fr.snoc X2 N1 g_o0
  have K3 : Keep h0 h2 [o0] := (Keep.refl h0 [o0]).wr W2 (Or.inl (by simp))
  have F2w := F_xMin_o0.same W2
  have f4 := (E_o0.wr W2)
  have f5 := (F_yMin_o0.other W2 (Or.inr (slot_ne (Or.inr (hw _ (List.mem_of_getElem? (i := 19) rfl))) (Or.inr (hw _ (List.mem_of_getElem? (i := 17) rfl))) (by decide) (t := .double) (t' := .double) (by decide) (by decide))))
  obtain ⟨T6, h6, X6, e6, W6, st6⟩ := putF X2 hx hZ hown (host := "") (Or.inl (hw _ (List.mem_of_getElem? (i := 18) rfl))) Via.refl e2 f5 f4 (Or.inr ⟨(hw _ (List.mem_of_getElem? (i := 19) rfl)), rfl, hnm⟩) (hw _ (List.mem_of_getElem? (i := 3) rfl)) (ty := .double) (by decide) rfl rfl (g := (mkF m 11 #[.val (.ref o0), .val (.double d1), .second, .val (.double d2), .second, .val (.double d3), .second, .val (.double d4), .second, .val (.double d5), .second] [(.double d2), (.ref o0)])) rfl rfl (hb hby d1_11)
  have N6 := Fr.snoc X6 N2 g_o0
  have K7 : Keep h0 h6 [o0] := K3.wr W6 (Or.inl (by simp))
  have F6w := f5.same W6
  have f8 := (f4.wr W6)
  have f9 := ((F_xMax_o0.other W2 (Or.inr (slot_ne (Or.inr (hw _ (List.mem_of_getElem? (i := 21) rfl))) (Or.inr (hw _ (List.mem_of_getElem? (i := 17) rfl))) (by decide) (t := .double) (t' := .double) (by decide) (by decide)))).other W6 (Or.inr (slot_ne (Or.inr (hw _ (List.mem_of_getElem? (i := 21) rfl))) (Or.inr (hw _ (List.mem_of_getElem? (i := 19) rfl))) (by decide) (t := .double) (t' := .double) (by decide) (by decide))))
  obtain ⟨T10, h10, X10, e10, W10, st10⟩ := putF X6 hx hZ hown (host := "") (Or.inl (hw _ (List.mem_of_getElem? (i := 20) rfl))) Via.refl e6 f9 f8 (Or.inr ⟨(hw _ (List.mem_of_getElem? (i := 21) rfl)), rfl, hnm⟩) (hw _ (List.mem_of_getElem? (i := 3) rfl)) (ty := .double) (by decide) rfl rfl (g := (mkF m 17 #[.val (.ref o0), .val (.double d1), .second, .val (.double d2), .second, .val (.double d3), .second, .val (.double d4), .second, .val (.double d5), .second] [(.double d3), (.ref o0)])) rfl rfl (hb hby d1_17)
  have N10 := Fr.snoc X10 N6 g_o0
  have K11 : Keep h0 h10 [o0] := K7.wr W10 (Or.inl (by simp))
  have F10w := f9.same W10
  have f12 := (f8.wr W10)
  have f13 := (((F_yMax_o0.other W2 (Or.inr (slot_ne (Or.inr (hw _ (List.mem_of_getElem? (i := 23) rfl))) (Or.inr (hw _ (List.mem_of_getElem? (i := 17) rfl))) (by decide) (t := .double) (t' := .double) (by decide) (by decide)))).other W6 (Or.inr (slot_ne (Or.inr (hw _ (List.mem_of_getElem? (i := 23) rfl))) (Or.inr (hw _ (List.mem_of_getElem? (i := 19) rfl))) (by decide) (t := .double) (t' := .double) (by decide) (by decide)))).other W10 (Or.inr (slot_ne (Or.inr (hw _ (List.mem_of_getElem? (i := 23) rfl))) (Or.inr (hw _ (List.mem_of_getElem? (i := 21) rfl))) (by decide) (t := .double) (t' := .double) (by decide) (by decide))))
  obtain ⟨T14, h14, X14, e14, W14, st14⟩ := putF X10 hx hZ hown (host := "") (Or.inl (hw _ (List.mem_of_getElem? (i := 22) rfl))) Via.refl e10 f13 f12 (Or.inr ⟨(hw _ (List.mem_of_getElem? (i := 23) rfl)), rfl, hnm⟩) (hw _ (List.mem_of_getElem? (i := 3) rfl)) (ty := .double) (by decide) rfl rfl (g := (mkF m 23 #[.val (.ref o0), .val (.double d1), .second, .val (.double d2), .second, .val (.double d3), .second, .val (.double d4), .second, .val (.double d5), .second] [(.double d4), (.ref o0)])) rfl rfl (hb hby d1_23)
  have N14 := Fr.snoc X14 N10 g_o0
  have K15 : Keep h0 h14 [o0] := K11.wr W14 (Or.inl (by simp))
  have F14w := f13.same W14
  have f16 := (f12.wr W14)
  have f17 := ((((F_cellSize_o0.other W2 (Or.inr (slot_ne (Or.inr (hw _ (List.mem_of_getElem? (i := 25) rfl))) (Or.inr (hw _ (List.mem_of_getElem? (i := 17) rfl))) (by decide) (t := .double) (t' := .double) (by decide) (by decide)))).other W6 (Or.inr (slot_ne (Or.inr (hw _ (List.mem_of_getElem? (i := 25) rfl))) (Or.inr (hw _ (List.mem_of_getElem? (i := 19) rfl))) (by decide) (t := .double) (t' := .double) (by decide) (by decide)))).other W10 (Or.inr (slot_ne (Or.inr (hw _ (List.mem_of_getElem? (i := 25) rfl))) (Or.inr (hw _ (List.mem_of_getElem? (i := 21) rfl))) (by decide) (t := .double) (t' := .double) (by decide) (by decide)))).other W14 (Or.inr (slot_ne (Or.inr (hw _ (List.mem_of_getElem? (i := 25) rfl))) (Or.inr (hw _ (List.mem_of_getElem? (i := 23) rfl))) (by decide) (t := .double) (t' := .double) (by decide) (by decide))))
  obtain ⟨T18, h18, X18, e18, W18, st18⟩ := putF X14 hx hZ hown (host := "") (Or.inl (hw _ (List.mem_of_getElem? (i := 24) rfl))) Via.refl e14 f17 f16 (Or.inr ⟨(hw _ (List.mem_of_getElem? (i := 25) rfl)), rfl, hnm⟩) (hw _ (List.mem_of_getElem? (i := 3) rfl)) (ty := .double) (by decide) rfl rfl (g := (mkF m 29 #[.val (.ref o0), .val (.double d1), .second, .val (.double d2), .second, .val (.double d3), .second, .val (.double d4), .second, .val (.double d5), .second] [(.double d5), (.ref o0)])) rfl rfl (hb hby d1_29)
  have N18 := Fr.snoc X18 N14 g_o0
  have K19 : Keep h0 h18 [o0] := K15.wr W18 (Or.inl (by simp))
  have F18w := f17.same W18
  have c20 : ∀ t, Steps p.tables e below (T18.setTop (mkF m 32 #[.val (.ref o0), .val (.double d1), .second, .val (.double d2), .second, .val (.double d3), .second, .val (.double d4), .second, .val (.double d5), .second] [])) t → Steps p.tables e below (s₁.setTop (entryFrame m #[(.ref o0), (.double d1), (.double d2), (.double d3), (.double d4), (.double d5)] 11)) t := by
    intro t k
    refine c0 t ?_
    show Steps p.tables e below (s₁.setTop (mkF m 0 #[.val (.ref o0), .val (.double d1), .second, .val (.double d2), .second, .val (.double d3), .second, .val (.double d4), .second, .val (.double d5), .second] [])) _
    refine XS.aloadN X0.here hx rfl (hb hby d1_0) rfl rfl ?_
    show Steps p.tables e below (s₁.setTop (mkF m 1 #[.val (.ref o0), .val (.double d1), .second, .val (.double d2), .second, .val (.double d3), .second, .val (.double d4), .second, .val (.double d5), .second] [(.ref o0)])) _
    refine st1.trans ?_
    show Steps p.tables e below (T1.setTop (mkF m 4 #[.val (.ref o0), .val (.double d1), .second, .val (.double d2), .second, .val (.double d3), .second, .val (.double d4), .second, .val (.double d5), .second] [])) _
    refine XS.aloadN X1.here hx rfl (hb hby d1_4) rfl rfl ?_
    show Steps p.tables e below (T1.setTop (mkF m 5 #[.val (.ref o0), .val (.double d1), .second, .val (.double d2), .second, .val (.double d3), .second, .val (.double d4), .second, .val (.double d5), .second] [(.ref o0)])) _
    refine XS.dloadN X1.here hx rfl (hb hby d1_5) rfl ?_
    show Steps p.tables e below (T1.setTop (mkF m 6 #[.val (.ref o0), .val (.double d1), .second, .val (.double d2), .second, .val (.double d3), .second, .val (.double d4), .second, .val (.double d5), .second] [(.double d1), (.ref o0)])) _
    refine st2 _ ?_
    show Steps p.tables e below (T2.setTop (mkF m 9 #[.val (.ref o0), .val (.double d1), .second, .val (.double d2), .second, .val (.double d3), .second, .val (.double d4), .second, .val (.double d5), .second] [])) _
    refine XS.aloadN X2.here hx rfl (hb hby d1_9) rfl rfl ?_
    show Steps p.tables e below (T2.setTop (mkF m 10 #[.val (.ref o0), .val (.double d1), .second, .val (.double d2), .second, .val (.double d3), .second, .val (.double d4), .second, .val (.double d5), .second] [(.ref o0)])) _
    refine XS.dloadN X2.here hx rfl (hb hby d1_10) rfl ?_
    show Steps p.tables e below (T2.setTop (mkF m 11 #[.val (.ref o0), .val (.double d1), .second, .val (.double d2), .second, .val (.double d3), .second, .val (.double d4), .second, .val (.double d5), .second] [(.double d2), (.ref o0)])) _
    refine st6 _ ?_
    show Steps p.tables e below (T6.setTop (mkF m 14 #[.val (.ref o0), .val (.double d1), .second, .val (.double d2), .second, .val (.double d3), .second, .val (.double d4), .second, .val (.double d5), .second] [])) _
    refine XS.aloadN X6.here hx rfl (hb hby d1_14) rfl rfl ?_
    show Steps p.tables e below (T6.setTop (mkF m 15 #[.val (.ref o0), .val (.double d1), .second, .val (.double d2), .second, .val (.double d3), .second, .val (.double d4), .second, .val (.double d5), .second] [(.ref o0)])) _
    refine XS.dload X6.here hx rfl (hb hby d1_15) rfl ?_
    show Steps p.tables e below (T6.setTop (mkF m 17 #[.val (.ref o0), .val (.double d1), .second, .val (.double d2), .second, .val (.double d3), .second, .val (.double d4), .second, .val (.double d5), .second] [(.double d3), (.ref o0)])) _
    refine st10 _ ?_
    show Steps p.tables e below (T10.setTop (mkF m 20 #[.val (.ref o0), .val (.double d1), .second, .val (.double d2), .second, .val (.double d3), .second, .val (.double d4), .second, .val (.double d5), .second] [])) _
    refine XS.aloadN X10.here hx rfl (hb hby d1_20) rfl rfl ?_
    show Steps p.tables e below (T10.setTop (mkF m 21 #[.val (.ref o0), .val (.double d1), .second, .val (.double d2), .second, .val (.double d3), .second, .val (.double d4), .second, .val (.double d5), .second] [(.ref o0)])) _
    refine XS.dload X10.here hx rfl (hb hby d1_21) rfl ?_
    show Steps p.tables e below (T10.setTop (mkF m 23 #[.val (.ref o0), .val (.double d1), .second, .val (.double d2), .second, .val (.double d3), .second, .val (.double d4), .second, .val (.double d5), .second] [(.double d4), (.ref o0)])) _
    refine st14 _ ?_
    show Steps p.tables e below (T14.setTop (mkF m 26 #[.val (.ref o0), .val (.double d1), .second, .val (.double d2), .second, .val (.double d3), .second, .val (.double d4), .second, .val (.double d5), .second] [])) _
    refine XS.aloadN X14.here hx rfl (hb hby d1_26) rfl rfl ?_
    show Steps p.tables e below (T14.setTop (mkF m 27 #[.val (.ref o0), .val (.double d1), .second, .val (.double d2), .second, .val (.double d3), .second, .val (.double d4), .second, .val (.double d5), .second] [(.ref o0)])) _
    refine XS.dload X14.here hx rfl (hb hby d1_27) rfl ?_
    show Steps p.tables e below (T14.setTop (mkF m 29 #[.val (.ref o0), .val (.double d1), .second, .val (.double d2), .second, .val (.double d3), .second, .val (.double d4), .second, .val (.double d5), .second] [(.double d5), (.ref o0)])) _
    refine st18 _ ?_
    exact k
  obtain ⟨fs, hr, hrun, hended, hW, hsame⟩ := X18.leave (v := none) (fun _ => rfl)
  refine ⟨_, _, c20 _ ?_, hrun, hended, _, _, rfl, ?_, ⟨_, rfl⟩, hW, hsame.mono (by decide) (by decide)⟩
  · show Steps p.tables e below (T18.setTop (mkF m 32 #[.val (.ref o0), .val (.double d1), .second, .val (.double d2), .second, .val (.double d3), .second, .val (.double d4), .second, .val (.double d5), .second] [])) _
    exact X18.returnOut hx Bd.returns (hb hby d1_32) hr
  · show Q1 Z o0 d1 d2 d3 d4 d5 u_xMin_o0 u_yMin_o0 u_xMax_o0 u_yMax_o0 u_cellSize_o0  h0 n0 _ T18.heap _
    rw [e18]
    exact ⟨rfl, N18, K19, (f16.wr W18), ((((F2w.other W6 (Or.inr (slot_ne (Or.inr (hw _ (List.mem_of_getElem? (i := 17) rfl))) (Or.inr (hw _ (List.mem_of_getElem? (i := 19) rfl))) (by decide) (t := .double) (t' := .double) (by decide) (by decide)))).other W10 (Or.inr (slot_ne (Or.inr (hw _ (List.mem_of_getElem? (i := 17) rfl))) (Or.inr (hw _ (List.mem_of_getElem? (i := 21) rfl))) (by decide) (t := .double) (t' := .double) (by decide) (by decide)))).other W14 (Or.inr (slot_ne (Or.inr (hw _ (List.mem_of_getElem? (i := 17) rfl))) (Or.inr (hw _ (List.mem_of_getElem? (i := 23) rfl))) (by decide) (t := .double) (t' := .double) (by decide) (by decide)))).other W18 (Or.inr (slot_ne (Or.inr (hw _ (List.mem_of_getElem? (i := 17) rfl))) (Or.inr (hw _ (List.mem_of_getElem? (i := 25) rfl))) (by decide) (t := .double) (t' := .double) (by decide) (by decide)))), (((F6w.other W10 (Or.inr (slot_ne (Or.inr (hw _ (List.mem_of_getElem? (i := 19) rfl))) (Or.inr (hw _ (List.mem_of_getElem? (i := 21) rfl))) (by decide) (t := .double) (t' := .double) (by decide) (by decide)))).other W14 (Or.inr (slot_ne (Or.inr (hw _ (List.mem_of_getElem? (i := 19) rfl))) (Or.inr (hw _ (List.mem_of_getElem? (i := 23) rfl))) (by decide) (t := .double) (t' := .double) (by decide) (by decide)))).other W18 (Or.inr (slot_ne (Or.inr (hw _ (List.mem_of_getElem? (i := 19) rfl))) (Or.inr (hw _ (List.mem_of_getElem? (i := 25) rfl))) (by decide) (t := .double) (t' := .double) (by decide) (by decide)))), ((F10w.other W14 (Or.inr (slot_ne (Or.inr (hw _ (List.mem_of_getElem? (i := 21) rfl))) (Or.inr (hw _ (List.mem_of_getElem? (i := 23) rfl))) (by decide) (t := .double) (t' := .double) (by decide) (by decide)))).other W18 (Or.inr (slot_ne (Or.inr (hw _ (List.mem_of_getElem? (i := 21) rfl))) (Or.inr (hw _ (List.mem_of_getElem? (i := 25) rfl))) (by decide) (t := .double) (t' := .double) (by decide) (by decide)))), (F14w.other W18 (Or.inr (slot_ne (Or.inr (hw _ (List.mem_of_getElem? (i := 23) rfl))) (Or.inr (hw _ (List.mem_of_getElem? (i := 25) rfl))) (by decide) (t := .double) (t' := .double) (by decide) (by decide)))), F18w⟩
def Q4_ff (Z : State) (o0 : Addr) (d1 : UInt64) (w_xMin_o0 : UInt64) (w_xMax_o0 : UInt64) (z5 : Int32) (z14 : Int32) (h0 : Heap) (n0 : Nat) (v : Option Value) (h : Heap) (L : List Loc) : Prop := v = some (.int (1 : Int32)) ∧ Fr n0 L ∧ h = h0
set_option maxRecDepth 65536 in
set_option maxHeartbeats 40000000 in
theorem rm4_ff (l : Launch) (Z : State) (a0 : Array Value) (hw : ∀ d ∈ tables_1, d.before a0 Z = true) (ws : List Jvm.Cond) (o0 : Addr) (d1 : UInt64) (w_xMin_o0 : UInt64) (w_xMax_o0 : UInt64) (z5 : Int32) (z14 : Int32) (h0 : Heap) (n0 : Nat) (Z0 : n0 ≤ h0.size) (F_xMin_o0 : Fld Z h0 o0 "com/example/lumenstand/lumenstand/scenario/Plot" "xMin" "D" (.double w_xMin_o0)) (F_xMax_o0 : Fld Z h0 o0 "com/example/lumenstand/lumenstand/scenario/Plot" "xMax" "D" (.double w_xMax_o0)) (hz5 : cmpValue (FP.dcmp d1 w_xMin_o0) .l = z5) (hz14 : cmpValue (FP.dcmp d1 w_xMax_o0) .g = z14) (br6 : ¬ z5 < (0 : Int32)) (br15 : ¬ (0 : Int32) < z14) :
    MetFree l (⟨"com/example/lumenstand/lumenstand/scenario/Plot", "containsX", "(D)Z"⟩ : MethodName) (head1 (Jvm.Cond.code (⟨"com/example/lumenstand/lumenstand/scenario/Plot", "containsX", "(D)Z"⟩ : MethodName) prog_35_method_9_code 3 (some .boolean) :: ws) ({ frames := 0, cells := 0, slots := 0, locals := 0 } : Room)) (fun a U => a = #[(.ref o0), (.double d1)] ∧ Z.Warmed39 U.vm ∧ U.heap = h0) (fun _ _ _ _ _ => True) (fun _ U o U' => ∃ v L, o = .returned v ∧ Q4_ff Z o0 d1 w_xMin_o0 w_xMax_o0 z5 z14 h0 n0 v U'.heap L ∧ FrameEnd U o U' L ({ frames := 0, cells := 0, slots := 0, locals := 0 } : Room).cells ({ frames := 0, cells := 0, slots := 0, locals := 0 } : Room).slots) := by
  refine MetFree.of_bodySF (plainFor_of_name pn_1) hisR ?_
  intro p e s m args below meth c s₁ Bd hml0 hP hK
  obtain ⟨rfl, hZ, hh⟩ := hP
  have hx := Bd.exec
  have hby := Bd.bytes
  have hml : c.maxLocals = 3 := hml0
  have hown : s.vm.findClass "com/example/lumenstand/lumenstand/scenario/Plot" = some m.cls := findClass_of_methodNamed Bd.named
  have hnm := (name_of_methodNamed Bd.named Bd.method).1
  have X0 : Stand p l e ({ frames := 0, cells := 0, slots := 0, locals := 0 } : Room) s m #[(.ref o0), (.double d1)] below meth c s₁ [] 0 0 := Stand.of_body Bd
  have e0 : s₁.heap = h0 := by rw [← hh, Bd.state]; rfl
  have N0 := Fr.nil n0
  have c0 : ∀ t, Steps p.tables e below (s₁.setTop (mkF m 0 #[.val (.ref o0), .val (.double d1), .second] [])) t → Steps p.tables e below (s₁.setTop (entryFrame m #[(.ref o0), (.double d1)] 3)) t := fun t k => castTop (ef_rm4_ff m o0 d1) k
  obtain ⟨T1, X1, e1, st1⟩ := getF X0 hx hZ hown (host := "") (Or.inl (hw _ (List.mem_of_getElem? (i := 16) rfl))) Via.refl e0 F_xMin_o0 (g := (mkF m 2 #[.val (.ref o0), .val (.double d1), .second] [(.ref o0), (.double d1)])) rfl rfl (hb hby d4_2)
  obtain ⟨T2, X2, e2, st2⟩ := getF X1 hx hZ hown (host := "") (Or.inl (hw _ (List.mem_of_getElem? (i := 20) rfl))) Via.refl e1 F_xMax_o0 (g := (mkF m 11 #[.val (.ref o0), .val (.double d1), .second] [(.ref o0), (.double d1)])) rfl rfl (hb hby d4_11)
  have c3 : ∀ t, Steps p.tables e below (T2.setTop (mkF m 23 #[.val (.ref o0), .val (.double d1), .second] [(.int (1 : Int32))])) t → Steps p.tables e below (s₁.setTop (entryFrame m #[(.ref o0), (.double d1)] 3)) t := by
    intro t k
    refine c0 t ?_
    show Steps p.tables e below (s₁.setTop (mkF m 0 #[.val (.ref o0), .val (.double d1), .second] [])) _
    refine XS.dloadN X0.here hx rfl (hb hby d4_0) rfl ?_
    show Steps p.tables e below (s₁.setTop (mkF m 1 #[.val (.ref o0), .val (.double d1), .second] [(.double d1)])) _
    refine XS.aloadN X0.here hx rfl (hb hby d4_1) rfl rfl ?_
    show Steps p.tables e below (s₁.setTop (mkF m 2 #[.val (.ref o0), .val (.double d1), .second] [(.ref o0), (.double d1)])) _
    refine st1 _ ?_
    show Steps p.tables e below (T1.setTop (mkF m 5 #[.val (.ref o0), .val (.double d1), .second] [(.double w_xMin_o0), (.double d1)])) _
    refine XS.dcmpS X1.here hx rfl (hb hby d4_5) rfl hz5 ?_
    show Steps p.tables e below (T1.setTop (mkF m 6 #[.val (.ref o0), .val (.double d1), .second] [(.int z5)])) _
    refine XS.ifNo X1.here hx rfl (hb hby d4_6) rfl (Jvm.Free.XT.i0_lt_f br6) ?_
    show Steps p.tables e below (T1.setTop (mkF m 9 #[.val (.ref o0), .val (.double d1), .second] [])) _
    refine XS.dloadN X1.here hx rfl (hb hby d4_9) rfl ?_
    show Steps p.tables e below (T1.setTop (mkF m 10 #[.val (.ref o0), .val (.double d1), .second] [(.double d1)])) _
    refine XS.aloadN X1.here hx rfl (hb hby d4_10) rfl rfl ?_
    show Steps p.tables e below (T1.setTop (mkF m 11 #[.val (.ref o0), .val (.double d1), .second] [(.ref o0), (.double d1)])) _
    refine st2 _ ?_
    show Steps p.tables e below (T2.setTop (mkF m 14 #[.val (.ref o0), .val (.double d1), .second] [(.double w_xMax_o0), (.double d1)])) _
    refine XS.dcmpS X2.here hx rfl (hb hby d4_14) rfl hz14 ?_
    show Steps p.tables e below (T2.setTop (mkF m 15 #[.val (.ref o0), .val (.double d1), .second] [(.int z14)])) _
    refine XS.ifNo X2.here hx rfl (hb hby d4_15) rfl (Jvm.Free.XT.i0_gt_f br15) ?_
    show Steps p.tables e below (T2.setTop (mkF m 18 #[.val (.ref o0), .val (.double d1), .second] [])) _
    refine XS.iconst X2.here hx rfl (hb hby d4_18) ?_
    show Steps p.tables e below (T2.setTop (mkF m 19 #[.val (.ref o0), .val (.double d1), .second] [(.int (1 : Int32))])) _
    refine XS.goto X2.here hx rfl (pc0 := 19) (pc' := 23) rfl (hb hby d4_19) (by decide) (by decide) ?_
    exact k
  obtain ⟨fs, hr, hrun, hended, hW, hsame⟩ := X2.leave (v := some (.int (1 : Int32))) (fun h => by rw [Bd.returns] at h; cases h)
  refine ⟨_, _, c3 _ ?_, hrun, hended, _, _, rfl, ?_, ⟨_, rfl⟩, hW, hsame.mono (by decide) (by decide)⟩
  · show Steps p.tables e below (T2.setTop (mkF m 23 #[.val (.ref o0), .val (.double d1), .second] [(.int (1 : Int32))])) _
    exact retOut X2 hx Bd.returns rfl (Or.inl ⟨rfl, by simp, _, rfl⟩) (hb hby d4_23) hr
  · show Q4_ff Z o0 d1 w_xMin_o0 w_xMax_o0 z5 z14 h0 n0 _ T2.heap _
    rw [e2]
    exact ⟨rfl, N0, rfl⟩
def Q4_t (Z : State) (o0 : Addr) (d1 : UInt64) (w_xMin_o0 : UInt64) (z5 : Int32) (h0 : Heap) (n0 : Nat) (v : Option Value) (h : Heap) (L : List Loc) : Prop := v = some (.int (0 : Int32)) ∧ Fr n0 L ∧ h = h0
set_option maxRecDepth 65536 in
set_option maxHeartbeats 40000000 in
theorem rm4_t (l : Launch) (Z : State) (a0 : Array Value) (hw : ∀ d ∈ tables_1, d.before a0 Z = true) (ws : List Jvm.Cond) (o0 : Addr) (d1 : UInt64) (w_xMin_o0 : UInt64) (z5 : Int32) (h0 : Heap) (n0 : Nat) (Z0 : n0 ≤ h0.size) (F_xMin_o0 : Fld Z h0 o0 "com/example/lumenstand/lumenstand/scenario/Plot" "xMin" "D" (.double w_xMin_o0)) (hz5 : cmpValue (FP.dcmp d1 w_xMin_o0) .l = z5) (br6 : z5 < (0 : Int32)) :
    MetFree l (⟨"com/example/lumenstand/lumenstand/scenario/Plot", "containsX", "(D)Z"⟩ : MethodName) (head1 (Jvm.Cond.code (⟨"com/example/lumenstand/lumenstand/scenario/Plot", "containsX", "(D)Z"⟩ : MethodName) prog_35_method_9_code 3 (some .boolean) :: ws) ({ frames := 0, cells := 0, slots := 0, locals := 0 } : Room)) (fun a U => a = #[(.ref o0), (.double d1)] ∧ Z.Warmed39 U.vm ∧ U.heap = h0) (fun _ _ _ _ _ => True) (fun _ U o U' => ∃ v L, o = .returned v ∧ Q4_t Z o0 d1 w_xMin_o0 z5 h0 n0 v U'.heap L ∧ FrameEnd U o U' L ({ frames := 0, cells := 0, slots := 0, locals := 0 } : Room).cells ({ frames := 0, cells := 0, slots := 0, locals := 0 } : Room).slots) := by
  refine MetFree.of_bodySF (plainFor_of_name pn_1) hisR ?_
  intro p e s m args below meth c s₁ Bd hml0 hP hK
  obtain ⟨rfl, hZ, hh⟩ := hP
  have hx := Bd.exec
  have hby := Bd.bytes
  have hml : c.maxLocals = 3 := hml0
  have hown : s.vm.findClass "com/example/lumenstand/lumenstand/scenario/Plot" = some m.cls := findClass_of_methodNamed Bd.named
  have hnm := (name_of_methodNamed Bd.named Bd.method).1
  have X0 : Stand p l e ({ frames := 0, cells := 0, slots := 0, locals := 0 } : Room) s m #[(.ref o0), (.double d1)] below meth c s₁ [] 0 0 := Stand.of_body Bd
  have e0 : s₁.heap = h0 := by rw [← hh, Bd.state]; rfl
  have N0 := Fr.nil n0
  have c0 : ∀ t, Steps p.tables e below (s₁.setTop (mkF m 0 #[.val (.ref o0), .val (.double d1), .second] [])) t → Steps p.tables e below (s₁.setTop (entryFrame m #[(.ref o0), (.double d1)] 3)) t := fun t k => castTop (ef_rm4_t m o0 d1) k
  obtain ⟨T1, X1, e1, st1⟩ := getF X0 hx hZ hown (host := "") (Or.inl (hw _ (List.mem_of_getElem? (i := 16) rfl))) Via.refl e0 F_xMin_o0 (g := (mkF m 2 #[.val (.ref o0), .val (.double d1), .second] [(.ref o0), (.double d1)])) rfl rfl (hb hby d4_2)
  have c2 : ∀ t, Steps p.tables e below (T1.setTop (mkF m 23 #[.val (.ref o0), .val (.double d1), .second] [(.int (0 : Int32))])) t → Steps p.tables e below (s₁.setTop (entryFrame m #[(.ref o0), (.double d1)] 3)) t := by
    intro t k
    refine c0 t ?_
    show Steps p.tables e below (s₁.setTop (mkF m 0 #[.val (.ref o0), .val (.double d1), .second] [])) _
    refine XS.dloadN X0.here hx rfl (hb hby d4_0) rfl ?_
    show Steps p.tables e below (s₁.setTop (mkF m 1 #[.val (.ref o0), .val (.double d1), .second] [(.double d1)])) _
    refine XS.aloadN X0.here hx rfl (hb hby d4_1) rfl rfl ?_
    show Steps p.tables e below (s₁.setTop (mkF m 2 #[.val (.ref o0), .val (.double d1), .second] [(.ref o0), (.double d1)])) _
    refine st1 _ ?_
    show Steps p.tables e below (T1.setTop (mkF m 5 #[.val (.ref o0), .val (.double d1), .second] [(.double w_xMin_o0), (.double d1)])) _
    refine XS.dcmpS X1.here hx rfl (hb hby d4_5) rfl hz5 ?_
    show Steps p.tables e below (T1.setTop (mkF m 6 #[.val (.ref o0), .val (.double d1), .second] [(.int z5)])) _
    refine XS.ifYes X1.here hx rfl (pc0 := 6) (pc' := 22) rfl (hb hby d4_6) rfl (Jvm.Free.XT.i0_lt_t br6) (by decide) (by decide) ?_
    show Steps p.tables e below (T1.setTop (mkF m 22 #[.val (.ref o0), .val (.double d1), .second] [])) _
    refine XS.iconst X1.here hx rfl (hb hby d4_22) ?_
    exact k
  obtain ⟨fs, hr, hrun, hended, hW, hsame⟩ := X1.leave (v := some (.int (0 : Int32))) (fun h => by rw [Bd.returns] at h; cases h)
  refine ⟨_, _, c2 _ ?_, hrun, hended, _, _, rfl, ?_, ⟨_, rfl⟩, hW, hsame.mono (by decide) (by decide)⟩
  · show Steps p.tables e below (T1.setTop (mkF m 23 #[.val (.ref o0), .val (.double d1), .second] [(.int (0 : Int32))])) _
    exact retOut X1 hx Bd.returns rfl (Or.inl ⟨rfl, by simp, _, rfl⟩) (hb hby d4_23) hr
  · show Q4_t Z o0 d1 w_xMin_o0 z5 h0 n0 _ T1.heap _
    rw [e1]
    exact ⟨rfl, N0, rfl⟩
def Q4_ft (Z : State) (o0 : Addr) (d1 : UInt64) (w_xMin_o0 : UInt64) (w_xMax_o0 : UInt64) (z5 : Int32) (z14 : Int32) (h0 : Heap) (n0 : Nat) (v : Option Value) (h : Heap) (L : List Loc) : Prop := v = some (.int (0 : Int32)) ∧ Fr n0 L ∧ h = h0
set_option maxRecDepth 65536 in
set_option maxHeartbeats 40000000 in
theorem rm4_ft (l : Launch) (Z : State) (a0 : Array Value) (hw : ∀ d ∈ tables_1, d.before a0 Z = true) (ws : List Jvm.Cond) (o0 : Addr) (d1 : UInt64) (w_xMin_o0 : UInt64) (w_xMax_o0 : UInt64) (z5 : Int32) (z14 : Int32) (h0 : Heap) (n0 : Nat) (Z0 : n0 ≤ h0.size) (F_xMin_o0 : Fld Z h0 o0 "com/example/lumenstand/lumenstand/scenario/Plot" "xMin" "D" (.double w_xMin_o0)) (F_xMax_o0 : Fld Z h0 o0 "com/example/lumenstand/lumenstand/scenario/Plot" "xMax" "D" (.double w_xMax_o0)) (hz5 : cmpValue (FP.dcmp d1 w_xMin_o0) .l = z5) (hz14 : cmpValue (FP.dcmp d1 w_xMax_o0) .g = z14) (br6 : ¬ z5 < (0 : Int32)) (br15 : (0 : Int32) < z14) :
    MetFree l (⟨"com/example/lumenstand/lumenstand/scenario/Plot", "containsX", "(D)Z"⟩ : MethodName) (head1 (Jvm.Cond.code (⟨"com/example/lumenstand/lumenstand/scenario/Plot", "containsX", "(D)Z"⟩ : MethodName) prog_35_method_9_code 3 (some .boolean) :: ws) ({ frames := 0, cells := 0, slots := 0, locals := 0 } : Room)) (fun a U => a = #[(.ref o0), (.double d1)] ∧ Z.Warmed39 U.vm ∧ U.heap = h0) (fun _ _ _ _ _ => True) (fun _ U o U' => ∃ v L, o = .returned v ∧ Q4_ft Z o0 d1 w_xMin_o0 w_xMax_o0 z5 z14 h0 n0 v U'.heap L ∧ FrameEnd U o U' L ({ frames := 0, cells := 0, slots := 0, locals := 0 } : Room).cells ({ frames := 0, cells := 0, slots := 0, locals := 0 } : Room).slots) := by
  refine MetFree.of_bodySF (plainFor_of_name pn_1) hisR ?_
  intro p e s m args below meth c s₁ Bd hml0 hP hK
  obtain ⟨rfl, hZ, hh⟩ := hP
  have hx := Bd.exec
  have hby := Bd.bytes
  have hml : c.maxLocals = 3 := hml0
  have hown : s.vm.findClass "com/example/lumenstand/lumenstand/scenario/Plot" = some m.cls := findClass_of_methodNamed Bd.named
  have hnm := (name_of_methodNamed Bd.named Bd.method).1
  have X0 : Stand p l e ({ frames := 0, cells := 0, slots := 0, locals := 0 } : Room) s m #[(.ref o0), (.double d1)] below meth c s₁ [] 0 0 := Stand.of_body Bd
  have e0 : s₁.heap = h0 := by rw [← hh, Bd.state]; rfl
  have N0 := Fr.nil n0
  have c0 : ∀ t, Steps p.tables e below (s₁.setTop (mkF m 0 #[.val (.ref o0), .val (.double d1), .second] [])) t → Steps p.tables e below (s₁.setTop (entryFrame m #[(.ref o0), (.double d1)] 3)) t := fun t k => castTop (ef_rm4_ft m o0 d1) k
  obtain ⟨T1, X1, e1, st1⟩ := getF X0 hx hZ hown (host := "") (Or.inl (hw _ (List.mem_of_getElem? (i := 16) rfl))) Via.refl e0 F_xMin_o0 (g := (mkF m 2 #[.val (.ref o0), .val (.double d1), .second] [(.ref o0), (.double d1)])) rfl rfl (hb hby d4_2)
  obtain ⟨T2, X2, e2, st2⟩ := getF X1 hx hZ hown (host := "") (Or.inl (hw _ (List.mem_of_getElem? (i := 20) rfl))) Via.refl e1 F_xMax_o0 (g := (mkF m 11 #[.val (.ref o0), .val (.double d1), .second] [(.ref o0), (.double d1)])) rfl rfl (hb hby d4_11)
  have c3 : ∀ t, Steps p.tables e below (T2.setTop (mkF m 23 #[.val (.ref o0), .val (.double d1), .second] [(.int (0 : Int32))])) t → Steps p.tables e below (s₁.setTop (entryFrame m #[(.ref o0), (.double d1)] 3)) t := by
    intro t k
    refine c0 t ?_
    show Steps p.tables e below (s₁.setTop (mkF m 0 #[.val (.ref o0), .val (.double d1), .second] [])) _
    refine XS.dloadN X0.here hx rfl (hb hby d4_0) rfl ?_
    show Steps p.tables e below (s₁.setTop (mkF m 1 #[.val (.ref o0), .val (.double d1), .second] [(.double d1)])) _
    refine XS.aloadN X0.here hx rfl (hb hby d4_1) rfl rfl ?_
    show Steps p.tables e below (s₁.setTop (mkF m 2 #[.val (.ref o0), .val (.double d1), .second] [(.ref o0), (.double d1)])) _
    refine st1 _ ?_
    show Steps p.tables e below (T1.setTop (mkF m 5 #[.val (.ref o0), .val (.double d1), .second] [(.double w_xMin_o0), (.double d1)])) _
    refine XS.dcmpS X1.here hx rfl (hb hby d4_5) rfl hz5 ?_
    show Steps p.tables e below (T1.setTop (mkF m 6 #[.val (.ref o0), .val (.double d1), .second] [(.int z5)])) _
    refine XS.ifNo X1.here hx rfl (hb hby d4_6) rfl (Jvm.Free.XT.i0_lt_f br6) ?_
    show Steps p.tables e below (T1.setTop (mkF m 9 #[.val (.ref o0), .val (.double d1), .second] [])) _
    refine XS.dloadN X1.here hx rfl (hb hby d4_9) rfl ?_
    show Steps p.tables e below (T1.setTop (mkF m 10 #[.val (.ref o0), .val (.double d1), .second] [(.double d1)])) _
    refine XS.aloadN X1.here hx rfl (hb hby d4_10) rfl rfl ?_
    show Steps p.tables e below (T1.setTop (mkF m 11 #[.val (.ref o0), .val (.double d1), .second] [(.ref o0), (.double d1)])) _
    refine st2 _ ?_
    show Steps p.tables e below (T2.setTop (mkF m 14 #[.val (.ref o0), .val (.double d1), .second] [(.double w_xMax_o0), (.double d1)])) _
    refine XS.dcmpS X2.here hx rfl (hb hby d4_14) rfl hz14 ?_
    show Steps p.tables e below (T2.setTop (mkF m 15 #[.val (.ref o0), .val (.double d1), .second] [(.int z14)])) _
    refine XS.ifYes X2.here hx rfl (pc0 := 15) (pc' := 22) rfl (hb hby d4_15) rfl (Jvm.Free.XT.i0_gt_t br15) (by decide) (by decide) ?_
    show Steps p.tables e below (T2.setTop (mkF m 22 #[.val (.ref o0), .val (.double d1), .second] [])) _
    refine XS.iconst X2.here hx rfl (hb hby d4_22) ?_
    exact k
  obtain ⟨fs, hr, hrun, hended, hW, hsame⟩ := X2.leave (v := some (.int (0 : Int32))) (fun h => by rw [Bd.returns] at h; cases h)
  refine ⟨_, _, c3 _ ?_, hrun, hended, _, _, rfl, ?_, ⟨_, rfl⟩, hW, hsame.mono (by decide) (by decide)⟩
  · show Steps p.tables e below (T2.setTop (mkF m 23 #[.val (.ref o0), .val (.double d1), .second] [(.int (0 : Int32))])) _
    exact retOut X2 hx Bd.returns rfl (Or.inl ⟨rfl, by simp, _, rfl⟩) (hb hby d4_23) hr
  · show Q4_ft Z o0 d1 w_xMin_o0 w_xMax_o0 z5 z14 h0 n0 _ T2.heap _
    rw [e2]
    exact ⟨rfl, N0, rfl⟩
def Q0 (n0 : Nat) (v : Option Value) (h : Heap) (L : List Loc) : Prop := v = some (.int 1) ∧ Fr n0 L
set_option maxRecDepth 65536 in
set_option maxHeartbeats 40000000 in
theorem rm0 (l : Launch) (Z : State) (a0 : Array Value) (hw : ∀ d ∈ tables_1, d.before a0 Z = true) (ws : List Jvm.Cond) (p0 : Int32) (p1 : Int32) (p2 : Int32) (p3 : Int32)  (h0 : Heap) (n0 : Nat) (Z0 : n0 ≤ h0.size)  :
    MetFree l x (head1 (Jvm.Cond.code x code maxLocals ret :: ws) room_1) (fun a U => a = #[(.int p0), (.int p1), (.int p2), (.int p3)] ∧ Z.Warmed39 U.vm ∧ U.heap = h0) (fun _ _ _ _ _ => True) (fun _ U o U' => ∃ v L, o = .returned v ∧ Q0 n0 v U'.heap L ∧ FrameEnd U o U' L room_1.cells room_1.slots) := by
  refine MetFree.of_bodySF (plainFor_of_name pn_2) hisR ?_
  intro p e s m args below meth c s₁ Bd hml0 hP hK
  obtain ⟨rfl, hZ, hh⟩ := hP
  have hx := Bd.exec
  have hby := Bd.bytes
  have hml : c.maxLocals = 15 := hml0
  have hown : s.vm.findClass "com/example/lumenstand/lumenstand/scenario/PlotContainsXPinLaw" = some m.cls := findClass_of_methodNamed Bd.named
  have hnm := (name_of_methodNamed Bd.named Bd.method).1
  have X0 : Stand p l e room_1 s m #[(.int p0), (.int p1), (.int p2), (.int p3)] below meth c s₁ [] 0 0 := Stand.of_body Bd
  have e0 : s₁.heap = h0 := by rw [← hh, Bd.state]; rfl
  have N0 := Fr.nil n0
  have c0 : ∀ t, Steps p.tables e below (s₁.setTop (mkF m 0 #[.val (.int p0), .val (.int p1), .val (.int p2), .val (.int p3), .unset, .unset, .unset, .unset, .unset, .unset, .unset, .unset, .unset, .unset, .unset] [])) t → Steps p.tables e below (s₁.setTop (entryFrame m #[(.int p0), (.int p1), (.int p2), (.int p3)] maxLocals)) t := fun t k => castTop (ef_rm0 m p0 p1 p2 p3) k
  obtain ⟨z1, hz1⟩ : ∃ z : Int64, p0.toInt64 = z := ⟨_, rfl⟩
  obtain ⟨z9, hz9⟩ : ∃ z : Int32, p1 &&& (2147483647 : Int32) = z := ⟨_, rfl⟩
  obtain ⟨z10, hz10⟩ : ∃ z : Int64, z9.toInt64 = z := ⟨_, rfl⟩
  obtain ⟨z11, hz11⟩ : ∃ z : Int64, z1 + z10 = z := ⟨_, rfl⟩
  obtain ⟨z13, hz13⟩ : ∃ z : Int64, z11 + (1 : Int64) = z := ⟨_, rfl⟩
  obtain ⟨z18, hz18⟩ : ∃ z : Int32, p3 &&& (1 : Int32) = z := ⟨_, rfl⟩
  have c1 : ∀ t, Steps p.tables e below (s₁.setTop (mkF m 19 #[.val (.int p0), .val (.int p1), .val (.int p2), .val (.int p3), .val (.long z1), .second, .val (.long z13), .second, .unset, .unset, .unset, .unset, .unset, .unset, .unset] [(.int z18)])) t → Steps p.tables e below (s₁.setTop (entryFrame m #[(.int p0), (.int p1), (.int p2), (.int p3)] maxLocals)) t := by
    intro t k
    refine c0 t ?_
    show Steps p.tables e below (s₁.setTop (mkF m 0 #[.val (.int p0), .val (.int p1), .val (.int p2), .val (.int p3), .unset, .unset, .unset, .unset, .unset, .unset, .unset, .unset, .unset, .unset, .unset] [])) _
    refine XS.iloadN X0.here hx rfl (hb hby at_0) rfl ?_
    show Steps p.tables e below (s₁.setTop (mkF m 1 #[.val (.int p0), .val (.int p1), .val (.int p2), .val (.int p3), .unset, .unset, .unset, .unset, .unset, .unset, .unset, .unset, .unset, .unset, .unset] [(.int p0)])) _
    refine Jvm.OwnK.i2l X0.here hx rfl (hb hby at_1) rfl hz1 ?_
    show Steps p.tables e below (s₁.setTop (mkF m 2 #[.val (.int p0), .val (.int p1), .val (.int p2), .val (.int p3), .unset, .unset, .unset, .unset, .unset, .unset, .unset, .unset, .unset, .unset, .unset] [(.long z1)])) _
    refine XS.lstore X0.here hx rfl (hb hby at_2) rfl (l' := #[.val (.int p0), .val (.int p1), .val (.int p2), .val (.int p3), .val (.long z1), .second, .unset, .unset, .unset, .unset, .unset, .unset, .unset, .unset, .unset]) rfl ?_
    show Steps p.tables e below (s₁.setTop (mkF m 4 #[.val (.int p0), .val (.int p1), .val (.int p2), .val (.int p3), .val (.long z1), .second, .unset, .unset, .unset, .unset, .unset, .unset, .unset, .unset, .unset] [])) _
    refine XS.lload X0.here hx rfl (hb hby at_4) rfl ?_
    show Steps p.tables e below (s₁.setTop (mkF m 6 #[.val (.int p0), .val (.int p1), .val (.int p2), .val (.int p3), .val (.long z1), .second, .unset, .unset, .unset, .unset, .unset, .unset, .unset, .unset, .unset] [(.long z1)])) _
    refine XS.iloadN X0.here hx rfl (hb hby at_6) rfl ?_
    show Steps p.tables e below (s₁.setTop (mkF m 7 #[.val (.int p0), .val (.int p1), .val (.int p2), .val (.int p3), .val (.long z1), .second, .unset, .unset, .unset, .unset, .unset, .unset, .unset, .unset, .unset] [(.int p1), (.long z1)])) _
    refine X0.ldcInt hx hown (mvT hZ (hw _ (List.mem_of_getElem? (i := 0) rfl))) (g := (mkF m 7 #[.val (.int p0), .val (.int p1), .val (.int p2), .val (.int p3), .val (.long z1), .second, .unset, .unset, .unset, .unset, .unset, .unset, .unset, .unset, .unset] [(.int p1), (.long z1)])) rfl (hb hby at_7) _ ?_
    show Steps p.tables e below (s₁.setTop (mkF m 9 #[.val (.int p0), .val (.int p1), .val (.int p2), .val (.int p3), .val (.long z1), .second, .unset, .unset, .unset, .unset, .unset, .unset, .unset, .unset, .unset] [(.int (2147483647 : Int32)), (.int p1), (.long z1)])) _
    refine Jvm.OwnK.iand X0.here hx rfl (hb hby at_9) rfl hz9 ?_
    show Steps p.tables e below (s₁.setTop (mkF m 10 #[.val (.int p0), .val (.int p1), .val (.int p2), .val (.int p3), .val (.long z1), .second, .unset, .unset, .unset, .unset, .unset, .unset, .unset, .unset, .unset] [(.int z9), (.long z1)])) _
    refine Jvm.OwnK.i2l X0.here hx rfl (hb hby at_10) rfl hz10 ?_
    show Steps p.tables e below (s₁.setTop (mkF m 11 #[.val (.int p0), .val (.int p1), .val (.int p2), .val (.int p3), .val (.long z1), .second, .unset, .unset, .unset, .unset, .unset, .unset, .unset, .unset, .unset] [(.long z10), (.long z1)])) _
    refine Jvm.OwnK.ladd X0.here hx rfl (hb hby at_11) rfl hz11 ?_
    show Steps p.tables e below (s₁.setTop (mkF m 12 #[.val (.int p0), .val (.int p1), .val (.int p2), .val (.int p3), .val (.long z1), .second, .unset, .unset, .unset, .unset, .unset, .unset, .unset, .unset, .unset] [(.long z11)])) _
    refine XS.lconst X0.here hx rfl (hb hby at_12) ?_
    show Steps p.tables e below (s₁.setTop (mkF m 13 #[.val (.int p0), .val (.int p1), .val (.int p2), .val (.int p3), .val (.long z1), .second, .unset, .unset, .unset, .unset, .unset, .unset, .unset, .unset, .unset] [(.long (1 : Int64)), (.long z11)])) _
    refine Jvm.OwnK.ladd X0.here hx rfl (hb hby at_13) rfl hz13 ?_
    show Steps p.tables e below (s₁.setTop (mkF m 14 #[.val (.int p0), .val (.int p1), .val (.int p2), .val (.int p3), .val (.long z1), .second, .unset, .unset, .unset, .unset, .unset, .unset, .unset, .unset, .unset] [(.long z13)])) _
    refine XS.lstore X0.here hx rfl (hb hby at_14) rfl (l' := #[.val (.int p0), .val (.int p1), .val (.int p2), .val (.int p3), .val (.long z1), .second, .val (.long z13), .second, .unset, .unset, .unset, .unset, .unset, .unset, .unset]) rfl ?_
    show Steps p.tables e below (s₁.setTop (mkF m 16 #[.val (.int p0), .val (.int p1), .val (.int p2), .val (.int p3), .val (.long z1), .second, .val (.long z13), .second, .unset, .unset, .unset, .unset, .unset, .unset, .unset] [])) _
    refine XS.iloadN X0.here hx rfl (hb hby at_16) rfl ?_
    show Steps p.tables e below (s₁.setTop (mkF m 17 #[.val (.int p0), .val (.int p1), .val (.int p2), .val (.int p3), .val (.long z1), .second, .val (.long z13), .second, .unset, .unset, .unset, .unset, .unset, .unset, .unset] [(.int p3)])) _
    refine XS.iconst X0.here hx rfl (hb hby at_17) ?_
    show Steps p.tables e below (s₁.setTop (mkF m 18 #[.val (.int p0), .val (.int p1), .val (.int p2), .val (.int p3), .val (.long z1), .second, .val (.long z13), .second, .unset, .unset, .unset, .unset, .unset, .unset, .unset] [(.int (1 : Int32)), (.int p3)])) _
    refine Jvm.OwnK.iand X0.here hx rfl (hb hby at_18) rfl hz18 ?_
    exact k
  by_cases hb19 : z18 = (0 : Int32)
  · skip
    obtain ⟨z30, hz30⟩ : ∃ z : UInt64, FP.i2d p2 = z := ⟨_, rfl⟩
    obtain ⟨z43, hz43⟩ : ∃ z : UInt64, FP.dadd z30 FP.dconst0 = z := ⟨_, rfl⟩
    obtain ⟨z52, hz52⟩ : ∃ z : UInt64, FP.l2d z1 = z := ⟨_, rfl⟩
    obtain ⟨z56, hz56⟩ : ∃ z : UInt64, FP.l2d z13 = z := ⟨_, rfl⟩
    obtain ⟨z68, hz68⟩ : ∃ z : Int64, p2.toInt64 = z := ⟨_, rfl⟩
    obtain ⟨z69, hz69⟩ : ∃ z : Int64, (2 : Int64) * z68 = z := ⟨_, rfl⟩
    obtain ⟨z80, hz80⟩ : ∃ z : Int64, z69 + (0 : Int64) = z := ⟨_, rfl⟩
    obtain ⟨z88, hz88⟩ : ∃ z : Int64, (2 : Int64) * z1 = z := ⟨_, rfl⟩
    obtain ⟨z91, hz91⟩ : ∃ z : Int32, lcmpW z88 z80 = z := ⟨_, rfl⟩
    have dx := half_v (p2 := p2) (x := z43) (d := FP.dconst0) (b := 0) (by rw [hz30]; exact hz43) (Or.inl ⟨rfl, rfl⟩)
    have nn43 := dx.nn
    obtain ⟨T2, h2, X2, e2, E2, A2, D2, -, st2⟩ := newO X0 hx hZ hown (hw _ (List.mem_of_getElem? (i := 2) rfl)) (hw _ (List.mem_of_getElem? (i := 3) rfl)) (hw _ (List.mem_of_getElem? (i := 4) rfl)) e0 (g := (mkF m 46 #[.val (.int p0), .val (.int p1), .val (.int p2), .val (.int p3), .val (.long z1), .second, .val (.long z13), .second, .val (.int (0 : Int32)), .val (.double z43), .second, .unset, .unset, .unset, .unset] [])) rfl (hb hby at_46) (by decide) (by decide)
    obtain ⟨b2, g2⟩ : ∃ z, z = h0.size := ⟨_, rfl⟩
    rw [← g2] at A2 D2 st2
    have gn2 : n0 ≤ b2 := Nat.le_trans Z0 (Nat.le_of_eq g2.symm)
    have gz2 : h0.size ≤ b2 := Nat.le_trans ((Keep.refl h0 [])).1 (Nat.le_of_eq g2.symm)
    have K3 : Keep h0 h2 [] := (Keep.refl h0 []).ext E2
    have F2_xMin : Fld Z h2 b2 "com/example/lumenstand/lumenstand/scenario/Plot" "xMin" "D" (.double (0 : UInt64)) := D2 (Or.inr (hw _ (List.mem_of_getElem? (i := 17) rfl))) (ty := .double) (by decide)
    have F2_yMin : Fld Z h2 b2 "com/example/lumenstand/lumenstand/scenario/Plot" "yMin" "D" (.double (0 : UInt64)) := D2 (Or.inr (hw _ (List.mem_of_getElem? (i := 19) rfl))) (ty := .double) (by decide)
    have F2_xMax : Fld Z h2 b2 "com/example/lumenstand/lumenstand/scenario/Plot" "xMax" "D" (.double (0 : UInt64)) := D2 (Or.inr (hw _ (List.mem_of_getElem? (i := 21) rfl))) (ty := .double) (by decide)
    have F2_yMax : Fld Z h2 b2 "com/example/lumenstand/lumenstand/scenario/Plot" "yMax" "D" (.double (0 : UInt64)) := D2 (Or.inr (hw _ (List.mem_of_getElem? (i := 23) rfl))) (ty := .double) (by decide)
    have F2_cellSize : Fld Z h2 b2 "com/example/lumenstand/lumenstand/scenario/Plot" "cellSize" "D" (.double (0 : UInt64)) := D2 (Or.inr (hw _ (List.mem_of_getElem? (i := 25) rfl))) (ty := .double) (by decide)
    obtain ⟨_, _, ⟨T4, L4, k4, n4⟩, -, X4, ⟨Lc4, hQ4, ql4, qy4, qz4⟩, st4⟩ := X2.specialBack hx (y := (⟨"com/example/lumenstand/lumenstand/scenario/Plot", "<init>", "(DDDDD)V"⟩ : MethodName)) rfl hown (mvT hZ (hw _ (List.mem_of_getElem? (i := 5) rfl))) (mvT hZ (hw _ (List.mem_of_getElem? (i := 6) rfl))) (mvT hZ (hw _ (List.mem_of_getElem? (i := 7) rfl))) (by decide) (backOf (W := 1) (rm1 l Z a0 hw [] b2 z52 FP.dconst0 z56 FP.dconst1 FP.dconst1 ((.double (0 : UInt64))) ((.double (0 : UInt64))) ((.double (0 : UInt64))) ((.double (0 : UInt64))) ((.double (0 : UInt64)))  h2 n0 (Nat.le_trans Z0 E2.1) A2 F2_xMin gn2 F2_yMin F2_xMax F2_yMax F2_cellSize) hZ (hw _ (List.mem_of_getElem? (i := 7) rfl)) (hw _ (List.mem_of_getElem? (i := 4) rfl)) (by decide) (by decide)) (g := (mkF m 59 #[.val (.int p0), .val (.int p1), .val (.int p2), .val (.int p3), .val (.long z1), .second, .val (.long z13), .second, .val (.int (0 : Int32)), .val (.double z43), .second, .unset, .unset, .unset, .unset] [(.double FP.dconst1), (.double FP.dconst1), (.double z56), (.double FP.dconst0), (.double z52), (.ref b2), (.ref b2)])) rfl (by rw [hml]; rfl) (Steps.refl _) (a := b2) (argsL := [(.double z52), (.double FP.dconst0), (.double z56), (.double FP.dconst1), (.double FP.dconst1)]) (rest := [(.ref b2)]) (lenOf pd_1 rfl) rfl (by show 2 * 0 + _ ≤ _; exact Nat.le_of_eq rfl) (hb hby at_59) (fun _ _ => ⟨rfl, e2, (by decide : 1 + 0 ≤ _), (by decide : 5 + 0 ≤ _)⟩)
    dsimp only [Pt.U, Pt.locs, Pt.cells, Pt.slots] at X4 ql4 qy4 qz4 st4 hQ4
    subst ql4 qy4 qz4
    obtain ⟨rfl, N4q, K4q, Q4_0, Q4_1, Q4_2, Q4_3, Q4_4, Q4_5⟩ := hQ4
    have N4 := Fr.app N0 N4q
    have K5 : Keep h0 T4.heap [] := Keep.trans K3 K4q (allS (Or.inr gz2) all0)
    obtain ⟨z102', hz102'⟩ : ∃ z : Int64, 2 * z13 = z := ⟨_, rfl⟩
    obtain ⟨P1, P2, P3, P4⟩ := pl (b := 0) (bl := 0) (by decide) (by simp) hz1 hz9 hz10 hz11 hz13 hz52 hz56 dx hz68 hz69 hz80 hz88 hz102'
    have c6 : ∀ t, Steps p.tables e below (T4.setTop (mkF m 92 #[.val (.int p0), .val (.int p1), .val (.int p2), .val (.int p3), .val (.long z1), .second, .val (.long z13), .second, .val (.int (0 : Int32)), .val (.double z43), .second, .val (.ref b2), .val (.long z80), .second, .unset] [(.int z91)])) t → Steps p.tables e below (s₁.setTop (entryFrame m #[(.int p0), (.int p1), (.int p2), (.int p3)] maxLocals)) t := by
      intro t k
      refine c1 t ?_
      show Steps p.tables e below (s₁.setTop (mkF m 19 #[.val (.int p0), .val (.int p1), .val (.int p2), .val (.int p3), .val (.long z1), .second, .val (.long z13), .second, .unset, .unset, .unset, .unset, .unset, .unset, .unset] [(.int z18)])) _
      refine XS.ifYes X0.here hx rfl (pc0 := 19) (pc' := 26) rfl (hb hby at_19) rfl (Jvm.Free.XT.i0_eq_t hb19) (by decide) (by decide) ?_
      show Steps p.tables e below (s₁.setTop (mkF m 26 #[.val (.int p0), .val (.int p1), .val (.int p2), .val (.int p3), .val (.long z1), .second, .val (.long z13), .second, .unset, .unset, .unset, .unset, .unset, .unset, .unset] [])) _
      refine XS.iconst X0.here hx rfl (hb hby at_26) ?_
      show Steps p.tables e below (s₁.setTop (mkF m 27 #[.val (.int p0), .val (.int p1), .val (.int p2), .val (.int p3), .val (.long z1), .second, .val (.long z13), .second, .unset, .unset, .unset, .unset, .unset, .unset, .unset] [(.int (0 : Int32))])) _
      refine XS.istore X0.here hx rfl (hb hby at_27) rfl (l' := #[.val (.int p0), .val (.int p1), .val (.int p2), .val (.int p3), .val (.long z1), .second, .val (.long z13), .second, .val (.int (0 : Int32)), .unset, .unset, .unset, .unset, .unset, .unset]) rfl ?_
      show Steps p.tables e below (s₁.setTop (mkF m 29 #[.val (.int p0), .val (.int p1), .val (.int p2), .val (.int p3), .val (.long z1), .second, .val (.long z13), .second, .val (.int (0 : Int32)), .unset, .unset, .unset, .unset, .unset, .unset] [])) _
      refine XS.iloadN X0.here hx rfl (hb hby at_29) rfl ?_
      show Steps p.tables e below (s₁.setTop (mkF m 30 #[.val (.int p0), .val (.int p1), .val (.int p2), .val (.int p3), .val (.long z1), .second, .val (.long z13), .second, .val (.int (0 : Int32)), .unset, .unset, .unset, .unset, .unset, .unset] [(.int p2)])) _
      refine XS.i2dS X0.here hx rfl (hb hby at_30) rfl hz30 ?_
      show Steps p.tables e below (s₁.setTop (mkF m 31 #[.val (.int p0), .val (.int p1), .val (.int p2), .val (.int p3), .val (.long z1), .second, .val (.long z13), .second, .val (.int (0 : Int32)), .unset, .unset, .unset, .unset, .unset, .unset] [(.double z30)])) _
      refine XS.iload X0.here hx rfl (hb hby at_31) rfl ?_
      show Steps p.tables e below (s₁.setTop (mkF m 33 #[.val (.int p0), .val (.int p1), .val (.int p2), .val (.int p3), .val (.long z1), .second, .val (.long z13), .second, .val (.int (0 : Int32)), .unset, .unset, .unset, .unset, .unset, .unset] [(.int (0 : Int32)), (.double z30)])) _
      refine XS.ifYes X0.here hx rfl (pc0 := 33) (pc' := 42) rfl (hb hby at_33) rfl (Jvm.Free.XT.i0_eq_t (by decide)) (by decide) (by decide) ?_
      show Steps p.tables e below (s₁.setTop (mkF m 42 #[.val (.int p0), .val (.int p1), .val (.int p2), .val (.int p3), .val (.long z1), .second, .val (.long z13), .second, .val (.int (0 : Int32)), .unset, .unset, .unset, .unset, .unset, .unset] [(.double z30)])) _
      refine XS.dconst0 X0.here hx rfl (hb hby at_42) (v := FP.dconst0) rfl ?_
      show Steps p.tables e below (s₁.setTop (mkF m 43 #[.val (.int p0), .val (.int p1), .val (.int p2), .val (.int p3), .val (.long z1), .second, .val (.long z13), .second, .val (.int (0 : Int32)), .unset, .unset, .unset, .unset, .unset, .unset] [(.double FP.dconst0), (.double z30)])) _
      refine Jvm.OwnK.dadd X0.here hx rfl (hb hby at_43) rfl hz43 nn43 ?_
      show Steps p.tables e below (s₁.setTop (mkF m 44 #[.val (.int p0), .val (.int p1), .val (.int p2), .val (.int p3), .val (.long z1), .second, .val (.long z13), .second, .val (.int (0 : Int32)), .unset, .unset, .unset, .unset, .unset, .unset] [(.double z43)])) _
      refine XS.dstore X0.here hx rfl (hb hby at_44) rfl (l' := #[.val (.int p0), .val (.int p1), .val (.int p2), .val (.int p3), .val (.long z1), .second, .val (.long z13), .second, .val (.int (0 : Int32)), .val (.double z43), .second, .unset, .unset, .unset, .unset]) rfl ?_
      show Steps p.tables e below (s₁.setTop (mkF m 46 #[.val (.int p0), .val (.int p1), .val (.int p2), .val (.int p3), .val (.long z1), .second, .val (.long z13), .second, .val (.int (0 : Int32)), .val (.double z43), .second, .unset, .unset, .unset, .unset] [])) _
      refine st2 _ ?_
      show Steps p.tables e below (T2.setTop (mkF m 49 #[.val (.int p0), .val (.int p1), .val (.int p2), .val (.int p3), .val (.long z1), .second, .val (.long z13), .second, .val (.int (0 : Int32)), .val (.double z43), .second, .unset, .unset, .unset, .unset] [(.ref b2)])) _
      refine XS.dup X2.here hx rfl (hb hby at_49) rfl rfl ?_
      show Steps p.tables e below (T2.setTop (mkF m 50 #[.val (.int p0), .val (.int p1), .val (.int p2), .val (.int p3), .val (.long z1), .second, .val (.long z13), .second, .val (.int (0 : Int32)), .val (.double z43), .second, .unset, .unset, .unset, .unset] [(.ref b2), (.ref b2)])) _
      refine XS.lload X2.here hx rfl (hb hby at_50) rfl ?_
      show Steps p.tables e below (T2.setTop (mkF m 52 #[.val (.int p0), .val (.int p1), .val (.int p2), .val (.int p3), .val (.long z1), .second, .val (.long z13), .second, .val (.int (0 : Int32)), .val (.double z43), .second, .unset, .unset, .unset, .unset] [(.long z1), (.ref b2), (.ref b2)])) _
      refine XS.l2dS X2.here hx rfl (hb hby at_52) rfl hz52 ?_
      show Steps p.tables e below (T2.setTop (mkF m 53 #[.val (.int p0), .val (.int p1), .val (.int p2), .val (.int p3), .val (.long z1), .second, .val (.long z13), .second, .val (.int (0 : Int32)), .val (.double z43), .second, .unset, .unset, .unset, .unset] [(.double z52), (.ref b2), (.ref b2)])) _
      refine XS.dconst0 X2.here hx rfl (hb hby at_53) (v := FP.dconst0) rfl ?_
      show Steps p.tables e below (T2.setTop (mkF m 54 #[.val (.int p0), .val (.int p1), .val (.int p2), .val (.int p3), .val (.long z1), .second, .val (.long z13), .second, .val (.int (0 : Int32)), .val (.double z43), .second, .unset, .unset, .unset, .unset] [(.double FP.dconst0), (.double z52), (.ref b2), (.ref b2)])) _
      refine XS.lload X2.here hx rfl (hb hby at_54) rfl ?_
      show Steps p.tables e below (T2.setTop (mkF m 56 #[.val (.int p0), .val (.int p1), .val (.int p2), .val (.int p3), .val (.long z1), .second, .val (.long z13), .second, .val (.int (0 : Int32)), .val (.double z43), .second, .unset, .unset, .unset, .unset] [(.long z13), (.double FP.dconst0), (.double z52), (.ref b2), (.ref b2)])) _
      refine XS.l2dS X2.here hx rfl (hb hby at_56) rfl hz56 ?_
      show Steps p.tables e below (T2.setTop (mkF m 57 #[.val (.int p0), .val (.int p1), .val (.int p2), .val (.int p3), .val (.long z1), .second, .val (.long z13), .second, .val (.int (0 : Int32)), .val (.double z43), .second, .unset, .unset, .unset, .unset] [(.double z56), (.double FP.dconst0), (.double z52), (.ref b2), (.ref b2)])) _
      refine XS.dconst1 X2.here hx rfl (hb hby at_57) (v := FP.dconst1) rfl ?_
      show Steps p.tables e below (T2.setTop (mkF m 58 #[.val (.int p0), .val (.int p1), .val (.int p2), .val (.int p3), .val (.long z1), .second, .val (.long z13), .second, .val (.int (0 : Int32)), .val (.double z43), .second, .unset, .unset, .unset, .unset] [(.double FP.dconst1), (.double z56), (.double FP.dconst0), (.double z52), (.ref b2), (.ref b2)])) _
      refine XS.dconst1 X2.here hx rfl (hb hby at_58) (v := FP.dconst1) rfl ?_
      show Steps p.tables e below (T2.setTop (mkF m 59 #[.val (.int p0), .val (.int p1), .val (.int p2), .val (.int p3), .val (.long z1), .second, .val (.long z13), .second, .val (.int (0 : Int32)), .val (.double z43), .second, .unset, .unset, .unset, .unset] [(.double FP.dconst1), (.double FP.dconst1), (.double z56), (.double FP.dconst0), (.double z52), (.ref b2), (.ref b2)])) _
      refine st4.trans ?_
      show Steps p.tables e below (T4.setTop (mkF m 62 #[.val (.int p0), .val (.int p1), .val (.int p2), .val (.int p3), .val (.long z1), .second, .val (.long z13), .second, .val (.int (0 : Int32)), .val (.double z43), .second, .unset, .unset, .unset, .unset] [(.ref b2)])) _
      refine XS.astore X4.here hx rfl (hb hby at_62) rfl rfl (l' := #[.val (.int p0), .val (.int p1), .val (.int p2), .val (.int p3), .val (.long z1), .second, .val (.long z13), .second, .val (.int (0 : Int32)), .val (.double z43), .second, .val (.ref b2), .unset, .unset, .unset]) rfl ?_
      show Steps p.tables e below (T4.setTop (mkF m 64 #[.val (.int p0), .val (.int p1), .val (.int p2), .val (.int p3), .val (.long z1), .second, .val (.long z13), .second, .val (.int (0 : Int32)), .val (.double z43), .second, .val (.ref b2), .unset, .unset, .unset] [])) _
      refine X4.ldc2Long hx hown (mvT hZ (hw _ (List.mem_of_getElem? (i := 26) rfl))) (g := (mkF m 64 #[.val (.int p0), .val (.int p1), .val (.int p2), .val (.int p3), .val (.long z1), .second, .val (.long z13), .second, .val (.int (0 : Int32)), .val (.double z43), .second, .val (.ref b2), .unset, .unset, .unset] [])) rfl (hb hby at_64) _ ?_
      show Steps p.tables e below (T4.setTop (mkF m 67 #[.val (.int p0), .val (.int p1), .val (.int p2), .val (.int p3), .val (.long z1), .second, .val (.long z13), .second, .val (.int (0 : Int32)), .val (.double z43), .second, .val (.ref b2), .unset, .unset, .unset] [(.long (2 : Int64))])) _
      refine XS.iloadN X4.here hx rfl (hb hby at_67) rfl ?_
      show Steps p.tables e below (T4.setTop (mkF m 68 #[.val (.int p0), .val (.int p1), .val (.int p2), .val (.int p3), .val (.long z1), .second, .val (.long z13), .second, .val (.int (0 : Int32)), .val (.double z43), .second, .val (.ref b2), .unset, .unset, .unset] [(.int p2), (.long (2 : Int64))])) _
      refine Jvm.OwnK.i2l X4.here hx rfl (hb hby at_68) rfl hz68 ?_
      show Steps p.tables e below (T4.setTop (mkF m 69 #[.val (.int p0), .val (.int p1), .val (.int p2), .val (.int p3), .val (.long z1), .second, .val (.long z13), .second, .val (.int (0 : Int32)), .val (.double z43), .second, .val (.ref b2), .unset, .unset, .unset] [(.long z68), (.long (2 : Int64))])) _
      refine Jvm.OwnK.lmul X4.here hx rfl (hb hby at_69) rfl hz69 ?_
      show Steps p.tables e below (T4.setTop (mkF m 70 #[.val (.int p0), .val (.int p1), .val (.int p2), .val (.int p3), .val (.long z1), .second, .val (.long z13), .second, .val (.int (0 : Int32)), .val (.double z43), .second, .val (.ref b2), .unset, .unset, .unset] [(.long z69)])) _
      refine XS.iload X4.here hx rfl (hb hby at_70) rfl ?_
      show Steps p.tables e below (T4.setTop (mkF m 72 #[.val (.int p0), .val (.int p1), .val (.int p2), .val (.int p3), .val (.long z1), .second, .val (.long z13), .second, .val (.int (0 : Int32)), .val (.double z43), .second, .val (.ref b2), .unset, .unset, .unset] [(.int (0 : Int32)), (.long z69)])) _
      refine XS.ifYes X4.here hx rfl (pc0 := 72) (pc' := 79) rfl (hb hby at_72) rfl (Jvm.Free.XT.i0_eq_t (by decide)) (by decide) (by decide) ?_
      show Steps p.tables e below (T4.setTop (mkF m 79 #[.val (.int p0), .val (.int p1), .val (.int p2), .val (.int p3), .val (.long z1), .second, .val (.long z13), .second, .val (.int (0 : Int32)), .val (.double z43), .second, .val (.ref b2), .unset, .unset, .unset] [(.long z69)])) _
      refine XS.lconst X4.here hx rfl (hb hby at_79) ?_
      show Steps p.tables e below (T4.setTop (mkF m 80 #[.val (.int p0), .val (.int p1), .val (.int p2), .val (.int p3), .val (.long z1), .second, .val (.long z13), .second, .val (.int (0 : Int32)), .val (.double z43), .second, .val (.ref b2), .unset, .unset, .unset] [(.long (0 : Int64)), (.long z69)])) _
      refine Jvm.OwnK.ladd X4.here hx rfl (hb hby at_80) rfl hz80 ?_
      show Steps p.tables e below (T4.setTop (mkF m 81 #[.val (.int p0), .val (.int p1), .val (.int p2), .val (.int p3), .val (.long z1), .second, .val (.long z13), .second, .val (.int (0 : Int32)), .val (.double z43), .second, .val (.ref b2), .unset, .unset, .unset] [(.long z80)])) _
      refine XS.lstore X4.here hx rfl (hb hby at_81) rfl (l' := #[.val (.int p0), .val (.int p1), .val (.int p2), .val (.int p3), .val (.long z1), .second, .val (.long z13), .second, .val (.int (0 : Int32)), .val (.double z43), .second, .val (.ref b2), .val (.long z80), .second, .unset]) rfl ?_
      show Steps p.tables e below (T4.setTop (mkF m 83 #[.val (.int p0), .val (.int p1), .val (.int p2), .val (.int p3), .val (.long z1), .second, .val (.long z13), .second, .val (.int (0 : Int32)), .val (.double z43), .second, .val (.ref b2), .val (.long z80), .second, .unset] [])) _
      refine X4.ldc2Long hx hown (mvT hZ (hw _ (List.mem_of_getElem? (i := 26) rfl))) (g := (mkF m 83 #[.val (.int p0), .val (.int p1), .val (.int p2), .val (.int p3), .val (.long z1), .second, .val (.long z13), .second, .val (.int (0 : Int32)), .val (.double z43), .second, .val (.ref b2), .val (.long z80), .second, .unset] [])) rfl (hb hby at_83) _ ?_
      show Steps p.tables e below (T4.setTop (mkF m 86 #[.val (.int p0), .val (.int p1), .val (.int p2), .val (.int p3), .val (.long z1), .second, .val (.long z13), .second, .val (.int (0 : Int32)), .val (.double z43), .second, .val (.ref b2), .val (.long z80), .second, .unset] [(.long (2 : Int64))])) _
      refine XS.lload X4.here hx rfl (hb hby at_86) rfl ?_
      show Steps p.tables e below (T4.setTop (mkF m 88 #[.val (.int p0), .val (.int p1), .val (.int p2), .val (.int p3), .val (.long z1), .second, .val (.long z13), .second, .val (.int (0 : Int32)), .val (.double z43), .second, .val (.ref b2), .val (.long z80), .second, .unset] [(.long z1), (.long (2 : Int64))])) _
      refine Jvm.OwnK.lmul X4.here hx rfl (hb hby at_88) rfl hz88 ?_
      show Steps p.tables e below (T4.setTop (mkF m 89 #[.val (.int p0), .val (.int p1), .val (.int p2), .val (.int p3), .val (.long z1), .second, .val (.long z13), .second, .val (.int (0 : Int32)), .val (.double z43), .second, .val (.ref b2), .val (.long z80), .second, .unset] [(.long z88)])) _
      refine XS.lload X4.here hx rfl (hb hby at_89) rfl ?_
      show Steps p.tables e below (T4.setTop (mkF m 91 #[.val (.int p0), .val (.int p1), .val (.int p2), .val (.int p3), .val (.long z1), .second, .val (.long z13), .second, .val (.int (0 : Int32)), .val (.double z43), .second, .val (.ref b2), .val (.long z80), .second, .unset] [(.long z80), (.long z88)])) _
      refine Jvm.OwnK.lcmp X4.here hx rfl (hb hby at_91) rfl hz91 ?_
      exact k
    by_cases hb92 : (0 : Int32) < z91
    · skip
      obtain ⟨c118_z5, hc118_z5⟩ : ∃ z : Int32, cmpValue (FP.dcmp z43 z52) .l = z := ⟨_, rfl⟩
      have c118_br6 : c118_z5 < 0 := by rw [← hc118_z5, P1 ((lw_gt _ _).mp (by rw [hz91]; exact hb92))]; decide
      obtain ⟨cq7, kq7, q7a, q7b, q7c⟩ := isOf hZ rfl Q4_0
      obtain ⟨_, _, ⟨T7, L7, k7, n7⟩, -, X7, ⟨Lc7, hQ7, ql7, qy7, qz7⟩, st7⟩ := X4.virtualBack hx (y := (⟨"com/example/lumenstand/lumenstand/scenario/Plot", "containsX", "(D)Z"⟩ : MethodName)) (z := (⟨"com/example/lumenstand/lumenstand/scenario/Plot", "containsX", "(D)Z"⟩ : MethodName)) hown (mvT hZ (hw _ (List.mem_of_getElem? (i := 27) rfl))) (mvT hZ (hw _ (List.mem_of_getElem? (i := 28) rfl))) (notFace_of_selects (args := #[]) (mvT hZ (hw _ (List.mem_of_getElem? (i := 30) rfl)))) (mvT hZ (hw _ (List.mem_of_getElem? (i := 30) rfl))) (mvT hZ (hw _ (List.mem_of_getElem? (i := 29) rfl))) (by decide) (backOf (W := 0) (rm4_t l Z a0 hw [] b2 z43 z52 c118_z5 T4.heap n0 (Nat.le_trans (Nat.le_trans Z0 E2.1) K4q.1) Q4_1 hc118_z5 c118_br6) hZ (hw _ (List.mem_of_getElem? (i := 31) rfl)) (hw _ (List.mem_of_getElem? (i := 4) rfl)) (by decide) (by decide)) q7a q7c (g := (mkF m 118 #[.val (.int p0), .val (.int p1), .val (.int p2), .val (.int p3), .val (.long z1), .second, .val (.long z13), .second, .val (.int (0 : Int32)), .val (.double z43), .second, .val (.ref b2), .val (.long z80), .second, .val (.int (0 : Int32))] [(.double z43), (.ref b2)])) rfl (by rw [hml]; rfl) (Steps.refl _) (argsL := [(.double z43)]) (rest := []) (lenOf pd_2 rfl) rfl (by show 2 * 0 + _ ≤ _; exact Nat.le_of_eq rfl) (hb hby at_118) (fun _ _ => ⟨rfl, rfl, (by decide : 1 + 0 ≤ _), (by decide : 5 + 0 ≤ _)⟩)
      dsimp only [Pt.U, Pt.locs, Pt.cells, Pt.slots] at X7 ql7 qy7 qz7 st7 hQ7
      subst ql7 qy7 qz7
      obtain ⟨rfl, N7q, e7⟩ := hQ7
      have N7 := Fr.app N4 N7q
      have c8 : ∀ t, Steps p.tables e below (T7.setTop (mkF m 131 #[.val (.int p0), .val (.int p1), .val (.int p2), .val (.int p3), .val (.long z1), .second, .val (.long z13), .second, .val (.int (0 : Int32)), .val (.double z43), .second, .val (.ref b2), .val (.long z80), .second, .val (.int (0 : Int32))] [(.int (1 : Int32))])) t → Steps p.tables e below (s₁.setTop (entryFrame m #[(.int p0), (.int p1), (.int p2), (.int p3)] maxLocals)) t := by
        intro t k
        refine c6 t ?_
        show Steps p.tables e below (T4.setTop (mkF m 92 #[.val (.int p0), .val (.int p1), .val (.int p2), .val (.int p3), .val (.long z1), .second, .val (.long z13), .second, .val (.int (0 : Int32)), .val (.double z43), .second, .val (.ref b2), .val (.long z80), .second, .unset] [(.int z91)])) _
        refine XS.ifYes X4.here hx rfl (pc0 := 92) (pc' := 111) rfl (hb hby at_92) rfl (Jvm.Free.XT.i0_gt_t hb92) (by decide) (by decide) ?_
        show Steps p.tables e below (T4.setTop (mkF m 111 #[.val (.int p0), .val (.int p1), .val (.int p2), .val (.int p3), .val (.long z1), .second, .val (.long z13), .second, .val (.int (0 : Int32)), .val (.double z43), .second, .val (.ref b2), .val (.long z80), .second, .unset] [])) _
        refine XS.iconst X4.here hx rfl (hb hby at_111) ?_
        show Steps p.tables e below (T4.setTop (mkF m 112 #[.val (.int p0), .val (.int p1), .val (.int p2), .val (.int p3), .val (.long z1), .second, .val (.long z13), .second, .val (.int (0 : Int32)), .val (.double z43), .second, .val (.ref b2), .val (.long z80), .second, .unset] [(.int (0 : Int32))])) _
        refine XS.istore X4.here hx rfl (hb hby at_112) rfl (l' := #[.val (.int p0), .val (.int p1), .val (.int p2), .val (.int p3), .val (.long z1), .second, .val (.long z13), .second, .val (.int (0 : Int32)), .val (.double z43), .second, .val (.ref b2), .val (.long z80), .second, .val (.int (0 : Int32))]) rfl ?_
        show Steps p.tables e below (T4.setTop (mkF m 114 #[.val (.int p0), .val (.int p1), .val (.int p2), .val (.int p3), .val (.long z1), .second, .val (.long z13), .second, .val (.int (0 : Int32)), .val (.double z43), .second, .val (.ref b2), .val (.long z80), .second, .val (.int (0 : Int32))] [])) _
        refine XS.aload X4.here hx rfl (hb hby at_114) rfl rfl ?_
        show Steps p.tables e below (T4.setTop (mkF m 116 #[.val (.int p0), .val (.int p1), .val (.int p2), .val (.int p3), .val (.long z1), .second, .val (.long z13), .second, .val (.int (0 : Int32)), .val (.double z43), .second, .val (.ref b2), .val (.long z80), .second, .val (.int (0 : Int32))] [(.ref b2)])) _
        refine XS.dload X4.here hx rfl (hb hby at_116) rfl ?_
        show Steps p.tables e below (T4.setTop (mkF m 118 #[.val (.int p0), .val (.int p1), .val (.int p2), .val (.int p3), .val (.long z1), .second, .val (.long z13), .second, .val (.int (0 : Int32)), .val (.double z43), .second, .val (.ref b2), .val (.long z80), .second, .val (.int (0 : Int32))] [(.double z43), (.ref b2)])) _
        refine st7.trans ?_
        show Steps p.tables e below (T7.setTop (mkF m 121 #[.val (.int p0), .val (.int p1), .val (.int p2), .val (.int p3), .val (.long z1), .second, .val (.long z13), .second, .val (.int (0 : Int32)), .val (.double z43), .second, .val (.ref b2), .val (.long z80), .second, .val (.int (0 : Int32))] [(.int (0 : Int32))])) _
        refine XS.iload X7.here hx rfl (hb hby at_121) rfl ?_
        show Steps p.tables e below (T7.setTop (mkF m 123 #[.val (.int p0), .val (.int p1), .val (.int p2), .val (.int p3), .val (.long z1), .second, .val (.long z13), .second, .val (.int (0 : Int32)), .val (.double z43), .second, .val (.ref b2), .val (.long z80), .second, .val (.int (0 : Int32))] [(.int (0 : Int32)), (.int (0 : Int32))])) _
        refine XS.icmpNo X7.here hx rfl (hb hby at_123) rfl (Jvm.Free.XT.ii_ne_f (by decide)) ?_
        show Steps p.tables e below (T7.setTop (mkF m 126 #[.val (.int p0), .val (.int p1), .val (.int p2), .val (.int p3), .val (.long z1), .second, .val (.long z13), .second, .val (.int (0 : Int32)), .val (.double z43), .second, .val (.ref b2), .val (.long z80), .second, .val (.int (0 : Int32))] [])) _
        refine XS.iconst X7.here hx rfl (hb hby at_126) ?_
        show Steps p.tables e below (T7.setTop (mkF m 127 #[.val (.int p0), .val (.int p1), .val (.int p2), .val (.int p3), .val (.long z1), .second, .val (.long z13), .second, .val (.int (0 : Int32)), .val (.double z43), .second, .val (.ref b2), .val (.long z80), .second, .val (.int (0 : Int32))] [(.int (1 : Int32))])) _
        refine XS.goto X7.here hx rfl (pc0 := 127) (pc' := 131) rfl (hb hby at_127) (by decide) (by decide) ?_
        exact k
      obtain ⟨fs, hr, hrun, hended, hW, hsame⟩ := X7.leave (v := some (.int (1 : Int32))) (fun h => by rw [Bd.returns] at h; cases h)
      refine ⟨_, _, c8 _ ?_, hrun, hended, _, _, rfl, ?_, ⟨_, rfl⟩, hW, hsame.mono (by decide) (by decide)⟩
      · show Steps p.tables e below (T7.setTop (mkF m 131 #[.val (.int p0), .val (.int p1), .val (.int p2), .val (.int p3), .val (.long z1), .second, .val (.long z13), .second, .val (.int (0 : Int32)), .val (.double z43), .second, .val (.ref b2), .val (.long z80), .second, .val (.int (0 : Int32))] [(.int (1 : Int32))])) _
        exact retOut X7 hx Bd.returns rfl (Or.inl ⟨rfl, by simp, _, rfl⟩) (hb hby at_131) hr
      · show Q0 n0 _ T7.heap _
        rw [e7]
        exact ⟨rfl, by first | assumption | exact N0⟩
    · skip
      obtain ⟨z102, hz102⟩ : ∃ z : Int64, (2 : Int64) * z13 = z := ⟨_, rfl⟩
      obtain ⟨z103, hz103⟩ : ∃ z : Int32, lcmpW z80 z102 = z := ⟨_, rfl⟩
      have c9 : ∀ t, Steps p.tables e below (T4.setTop (mkF m 104 #[.val (.int p0), .val (.int p1), .val (.int p2), .val (.int p3), .val (.long z1), .second, .val (.long z13), .second, .val (.int (0 : Int32)), .val (.double z43), .second, .val (.ref b2), .val (.long z80), .second, .unset] [(.int z103)])) t → Steps p.tables e below (s₁.setTop (entryFrame m #[(.int p0), (.int p1), (.int p2), (.int p3)] maxLocals)) t := by
        intro t k
        refine c6 t ?_
        show Steps p.tables e below (T4.setTop (mkF m 92 #[.val (.int p0), .val (.int p1), .val (.int p2), .val (.int p3), .val (.long z1), .second, .val (.long z13), .second, .val (.int (0 : Int32)), .val (.double z43), .second, .val (.ref b2), .val (.long z80), .second, .unset] [(.int z91)])) _
        refine XS.ifNo X4.here hx rfl (hb hby at_92) rfl (Jvm.Free.XT.i0_gt_f hb92) ?_
        show Steps p.tables e below (T4.setTop (mkF m 95 #[.val (.int p0), .val (.int p1), .val (.int p2), .val (.int p3), .val (.long z1), .second, .val (.long z13), .second, .val (.int (0 : Int32)), .val (.double z43), .second, .val (.ref b2), .val (.long z80), .second, .unset] [])) _
        refine XS.lload X4.here hx rfl (hb hby at_95) rfl ?_
        show Steps p.tables e below (T4.setTop (mkF m 97 #[.val (.int p0), .val (.int p1), .val (.int p2), .val (.int p3), .val (.long z1), .second, .val (.long z13), .second, .val (.int (0 : Int32)), .val (.double z43), .second, .val (.ref b2), .val (.long z80), .second, .unset] [(.long z80)])) _
        refine X4.ldc2Long hx hown (mvT hZ (hw _ (List.mem_of_getElem? (i := 26) rfl))) (g := (mkF m 97 #[.val (.int p0), .val (.int p1), .val (.int p2), .val (.int p3), .val (.long z1), .second, .val (.long z13), .second, .val (.int (0 : Int32)), .val (.double z43), .second, .val (.ref b2), .val (.long z80), .second, .unset] [(.long z80)])) rfl (hb hby at_97) _ ?_
        show Steps p.tables e below (T4.setTop (mkF m 100 #[.val (.int p0), .val (.int p1), .val (.int p2), .val (.int p3), .val (.long z1), .second, .val (.long z13), .second, .val (.int (0 : Int32)), .val (.double z43), .second, .val (.ref b2), .val (.long z80), .second, .unset] [(.long (2 : Int64)), (.long z80)])) _
        refine XS.lload X4.here hx rfl (hb hby at_100) rfl ?_
        show Steps p.tables e below (T4.setTop (mkF m 102 #[.val (.int p0), .val (.int p1), .val (.int p2), .val (.int p3), .val (.long z1), .second, .val (.long z13), .second, .val (.int (0 : Int32)), .val (.double z43), .second, .val (.ref b2), .val (.long z80), .second, .unset] [(.long z13), (.long (2 : Int64)), (.long z80)])) _
        refine Jvm.OwnK.lmul X4.here hx rfl (hb hby at_102) rfl hz102 ?_
        show Steps p.tables e below (T4.setTop (mkF m 103 #[.val (.int p0), .val (.int p1), .val (.int p2), .val (.int p3), .val (.long z1), .second, .val (.long z13), .second, .val (.int (0 : Int32)), .val (.double z43), .second, .val (.ref b2), .val (.long z80), .second, .unset] [(.long z102), (.long z80)])) _
        refine Jvm.OwnK.lcmp X4.here hx rfl (hb hby at_103) rfl hz103 ?_
        exact k
      by_cases hb104 : (0 : Int32) < z103
      · skip
        obtain ⟨c118_z5, hc118_z5⟩ : ∃ z : Int32, cmpValue (FP.dcmp z43 z52) .l = z := ⟨_, rfl⟩
        obtain ⟨c118_z14, hc118_z14⟩ : ∃ z : Int32, cmpValue (FP.dcmp z43 z56) .g = z := ⟨_, rfl⟩
        have c118_br6 : ¬ c118_z5 < 0 := by
          have q := P2 (fun q => hb92 (by rw [← hz91]; exact (lw_gt _ _).mpr q))
          rw [hc118_z5] at q
          rw [Int32.lt_iff_toInt_lt]; exact Int.not_lt.mpr q
        obtain rfl : z102 = z102' := hz102.symm.trans hz102'
        have c118_br15 : 0 < c118_z14 := by rw [← hc118_z14, P3 ((lw_gt _ _).mp (by rw [hz103]; exact hb104))]; decide
        obtain ⟨cq10, kq10, q10a, q10b, q10c⟩ := isOf hZ rfl Q4_0
        obtain ⟨_, _, ⟨T10, L10, k10, n10⟩, -, X10, ⟨Lc10, hQ10, ql10, qy10, qz10⟩, st10⟩ := X4.virtualBack hx (y := (⟨"com/example/lumenstand/lumenstand/scenario/Plot", "containsX", "(D)Z"⟩ : MethodName)) (z := (⟨"com/example/lumenstand/lumenstand/scenario/Plot", "containsX", "(D)Z"⟩ : MethodName)) hown (mvT hZ (hw _ (List.mem_of_getElem? (i := 27) rfl))) (mvT hZ (hw _ (List.mem_of_getElem? (i := 28) rfl))) (notFace_of_selects (args := #[]) (mvT hZ (hw _ (List.mem_of_getElem? (i := 30) rfl)))) (mvT hZ (hw _ (List.mem_of_getElem? (i := 30) rfl))) (mvT hZ (hw _ (List.mem_of_getElem? (i := 29) rfl))) (by decide) (backOf (W := 0) (rm4_ft l Z a0 hw [] b2 z43 z52 z56 c118_z5 c118_z14 T4.heap n0 (Nat.le_trans (Nat.le_trans Z0 E2.1) K4q.1) Q4_1 Q4_3 hc118_z5 hc118_z14 c118_br6 c118_br15) hZ (hw _ (List.mem_of_getElem? (i := 31) rfl)) (hw _ (List.mem_of_getElem? (i := 4) rfl)) (by decide) (by decide)) q10a q10c (g := (mkF m 118 #[.val (.int p0), .val (.int p1), .val (.int p2), .val (.int p3), .val (.long z1), .second, .val (.long z13), .second, .val (.int (0 : Int32)), .val (.double z43), .second, .val (.ref b2), .val (.long z80), .second, .val (.int (0 : Int32))] [(.double z43), (.ref b2)])) rfl (by rw [hml]; rfl) (Steps.refl _) (argsL := [(.double z43)]) (rest := []) (lenOf pd_2 rfl) rfl (by show 2 * 0 + _ ≤ _; exact Nat.le_of_eq rfl) (hb hby at_118) (fun _ _ => ⟨rfl, rfl, (by decide : 1 + 0 ≤ _), (by decide : 5 + 0 ≤ _)⟩)
        dsimp only [Pt.U, Pt.locs, Pt.cells, Pt.slots] at X10 ql10 qy10 qz10 st10 hQ10
        subst ql10 qy10 qz10
        obtain ⟨rfl, N10q, e10⟩ := hQ10
        have N10 := Fr.app N4 N10q
        have c11 : ∀ t, Steps p.tables e below (T10.setTop (mkF m 131 #[.val (.int p0), .val (.int p1), .val (.int p2), .val (.int p3), .val (.long z1), .second, .val (.long z13), .second, .val (.int (0 : Int32)), .val (.double z43), .second, .val (.ref b2), .val (.long z80), .second, .val (.int (0 : Int32))] [(.int (1 : Int32))])) t → Steps p.tables e below (s₁.setTop (entryFrame m #[(.int p0), (.int p1), (.int p2), (.int p3)] maxLocals)) t := by
          intro t k
          refine c9 t ?_
          show Steps p.tables e below (T4.setTop (mkF m 104 #[.val (.int p0), .val (.int p1), .val (.int p2), .val (.int p3), .val (.long z1), .second, .val (.long z13), .second, .val (.int (0 : Int32)), .val (.double z43), .second, .val (.ref b2), .val (.long z80), .second, .unset] [(.int z103)])) _
          refine XS.ifYes X4.here hx rfl (pc0 := 104) (pc' := 111) rfl (hb hby at_104) rfl (Jvm.Free.XT.i0_gt_t hb104) (by decide) (by decide) ?_
          show Steps p.tables e below (T4.setTop (mkF m 111 #[.val (.int p0), .val (.int p1), .val (.int p2), .val (.int p3), .val (.long z1), .second, .val (.long z13), .second, .val (.int (0 : Int32)), .val (.double z43), .second, .val (.ref b2), .val (.long z80), .second, .unset] [])) _
          refine XS.iconst X4.here hx rfl (hb hby at_111) ?_
          show Steps p.tables e below (T4.setTop (mkF m 112 #[.val (.int p0), .val (.int p1), .val (.int p2), .val (.int p3), .val (.long z1), .second, .val (.long z13), .second, .val (.int (0 : Int32)), .val (.double z43), .second, .val (.ref b2), .val (.long z80), .second, .unset] [(.int (0 : Int32))])) _
          refine XS.istore X4.here hx rfl (hb hby at_112) rfl (l' := #[.val (.int p0), .val (.int p1), .val (.int p2), .val (.int p3), .val (.long z1), .second, .val (.long z13), .second, .val (.int (0 : Int32)), .val (.double z43), .second, .val (.ref b2), .val (.long z80), .second, .val (.int (0 : Int32))]) rfl ?_
          show Steps p.tables e below (T4.setTop (mkF m 114 #[.val (.int p0), .val (.int p1), .val (.int p2), .val (.int p3), .val (.long z1), .second, .val (.long z13), .second, .val (.int (0 : Int32)), .val (.double z43), .second, .val (.ref b2), .val (.long z80), .second, .val (.int (0 : Int32))] [])) _
          refine XS.aload X4.here hx rfl (hb hby at_114) rfl rfl ?_
          show Steps p.tables e below (T4.setTop (mkF m 116 #[.val (.int p0), .val (.int p1), .val (.int p2), .val (.int p3), .val (.long z1), .second, .val (.long z13), .second, .val (.int (0 : Int32)), .val (.double z43), .second, .val (.ref b2), .val (.long z80), .second, .val (.int (0 : Int32))] [(.ref b2)])) _
          refine XS.dload X4.here hx rfl (hb hby at_116) rfl ?_
          show Steps p.tables e below (T4.setTop (mkF m 118 #[.val (.int p0), .val (.int p1), .val (.int p2), .val (.int p3), .val (.long z1), .second, .val (.long z13), .second, .val (.int (0 : Int32)), .val (.double z43), .second, .val (.ref b2), .val (.long z80), .second, .val (.int (0 : Int32))] [(.double z43), (.ref b2)])) _
          refine st10.trans ?_
          show Steps p.tables e below (T10.setTop (mkF m 121 #[.val (.int p0), .val (.int p1), .val (.int p2), .val (.int p3), .val (.long z1), .second, .val (.long z13), .second, .val (.int (0 : Int32)), .val (.double z43), .second, .val (.ref b2), .val (.long z80), .second, .val (.int (0 : Int32))] [(.int (0 : Int32))])) _
          refine XS.iload X10.here hx rfl (hb hby at_121) rfl ?_
          show Steps p.tables e below (T10.setTop (mkF m 123 #[.val (.int p0), .val (.int p1), .val (.int p2), .val (.int p3), .val (.long z1), .second, .val (.long z13), .second, .val (.int (0 : Int32)), .val (.double z43), .second, .val (.ref b2), .val (.long z80), .second, .val (.int (0 : Int32))] [(.int (0 : Int32)), (.int (0 : Int32))])) _
          refine XS.icmpNo X10.here hx rfl (hb hby at_123) rfl (Jvm.Free.XT.ii_ne_f (by decide)) ?_
          show Steps p.tables e below (T10.setTop (mkF m 126 #[.val (.int p0), .val (.int p1), .val (.int p2), .val (.int p3), .val (.long z1), .second, .val (.long z13), .second, .val (.int (0 : Int32)), .val (.double z43), .second, .val (.ref b2), .val (.long z80), .second, .val (.int (0 : Int32))] [])) _
          refine XS.iconst X10.here hx rfl (hb hby at_126) ?_
          show Steps p.tables e below (T10.setTop (mkF m 127 #[.val (.int p0), .val (.int p1), .val (.int p2), .val (.int p3), .val (.long z1), .second, .val (.long z13), .second, .val (.int (0 : Int32)), .val (.double z43), .second, .val (.ref b2), .val (.long z80), .second, .val (.int (0 : Int32))] [(.int (1 : Int32))])) _
          refine XS.goto X10.here hx rfl (pc0 := 127) (pc' := 131) rfl (hb hby at_127) (by decide) (by decide) ?_
          exact k
        obtain ⟨fs, hr, hrun, hended, hW, hsame⟩ := X10.leave (v := some (.int (1 : Int32))) (fun h => by rw [Bd.returns] at h; cases h)
        refine ⟨_, _, c11 _ ?_, hrun, hended, _, _, rfl, ?_, ⟨_, rfl⟩, hW, hsame.mono (by decide) (by decide)⟩
        · show Steps p.tables e below (T10.setTop (mkF m 131 #[.val (.int p0), .val (.int p1), .val (.int p2), .val (.int p3), .val (.long z1), .second, .val (.long z13), .second, .val (.int (0 : Int32)), .val (.double z43), .second, .val (.ref b2), .val (.long z80), .second, .val (.int (0 : Int32))] [(.int (1 : Int32))])) _
          exact retOut X10 hx Bd.returns rfl (Or.inl ⟨rfl, by simp, _, rfl⟩) (hb hby at_131) hr
        · show Q0 n0 _ T10.heap _
          rw [e10]
          exact ⟨rfl, by first | assumption | exact N0⟩
      · skip
        obtain ⟨c118_z5, hc118_z5⟩ : ∃ z : Int32, cmpValue (FP.dcmp z43 z52) .l = z := ⟨_, rfl⟩
        obtain ⟨c118_z14, hc118_z14⟩ : ∃ z : Int32, cmpValue (FP.dcmp z43 z56) .g = z := ⟨_, rfl⟩
        have c118_br6 : ¬ c118_z5 < 0 := by
          have q := P2 (fun q => hb92 (by rw [← hz91]; exact (lw_gt _ _).mpr q))
          rw [hc118_z5] at q
          rw [Int32.lt_iff_toInt_lt]; exact Int.not_lt.mpr q
        obtain rfl : z102 = z102' := hz102.symm.trans hz102'
        have c118_br15 : ¬ 0 < c118_z14 := by
          have q := P4 (fun q => hb104 (by rw [← hz103]; exact (lw_gt _ _).mpr q))
          rw [hc118_z14] at q
          rw [Int32.lt_iff_toInt_lt]; exact Int.not_lt.mpr q
        obtain ⟨cq12, kq12, q12a, q12b, q12c⟩ := isOf hZ rfl Q4_0
        obtain ⟨_, _, ⟨T12, L12, k12, n12⟩, -, X12, ⟨Lc12, hQ12, ql12, qy12, qz12⟩, st12⟩ := X4.virtualBack hx (y := (⟨"com/example/lumenstand/lumenstand/scenario/Plot", "containsX", "(D)Z"⟩ : MethodName)) (z := (⟨"com/example/lumenstand/lumenstand/scenario/Plot", "containsX", "(D)Z"⟩ : MethodName)) hown (mvT hZ (hw _ (List.mem_of_getElem? (i := 27) rfl))) (mvT hZ (hw _ (List.mem_of_getElem? (i := 28) rfl))) (notFace_of_selects (args := #[]) (mvT hZ (hw _ (List.mem_of_getElem? (i := 30) rfl)))) (mvT hZ (hw _ (List.mem_of_getElem? (i := 30) rfl))) (mvT hZ (hw _ (List.mem_of_getElem? (i := 29) rfl))) (by decide) (backOf (W := 0) (rm4_ff l Z a0 hw [] b2 z43 z52 z56 c118_z5 c118_z14 T4.heap n0 (Nat.le_trans (Nat.le_trans Z0 E2.1) K4q.1) Q4_1 Q4_3 hc118_z5 hc118_z14 c118_br6 c118_br15) hZ (hw _ (List.mem_of_getElem? (i := 31) rfl)) (hw _ (List.mem_of_getElem? (i := 4) rfl)) (by decide) (by decide)) q12a q12c (g := (mkF m 118 #[.val (.int p0), .val (.int p1), .val (.int p2), .val (.int p3), .val (.long z1), .second, .val (.long z13), .second, .val (.int (0 : Int32)), .val (.double z43), .second, .val (.ref b2), .val (.long z80), .second, .val (.int (1 : Int32))] [(.double z43), (.ref b2)])) rfl (by rw [hml]; rfl) (Steps.refl _) (argsL := [(.double z43)]) (rest := []) (lenOf pd_2 rfl) rfl (by show 2 * 0 + _ ≤ _; exact Nat.le_of_eq rfl) (hb hby at_118) (fun _ _ => ⟨rfl, rfl, (by decide : 1 + 0 ≤ _), (by decide : 5 + 0 ≤ _)⟩)
        dsimp only [Pt.U, Pt.locs, Pt.cells, Pt.slots] at X12 ql12 qy12 qz12 st12 hQ12
        subst ql12 qy12 qz12
        obtain ⟨rfl, N12q, e12⟩ := hQ12
        have N12 := Fr.app N4 N12q
        have c13 : ∀ t, Steps p.tables e below (T12.setTop (mkF m 131 #[.val (.int p0), .val (.int p1), .val (.int p2), .val (.int p3), .val (.long z1), .second, .val (.long z13), .second, .val (.int (0 : Int32)), .val (.double z43), .second, .val (.ref b2), .val (.long z80), .second, .val (.int (1 : Int32))] [(.int (1 : Int32))])) t → Steps p.tables e below (s₁.setTop (entryFrame m #[(.int p0), (.int p1), (.int p2), (.int p3)] maxLocals)) t := by
          intro t k
          refine c9 t ?_
          show Steps p.tables e below (T4.setTop (mkF m 104 #[.val (.int p0), .val (.int p1), .val (.int p2), .val (.int p3), .val (.long z1), .second, .val (.long z13), .second, .val (.int (0 : Int32)), .val (.double z43), .second, .val (.ref b2), .val (.long z80), .second, .unset] [(.int z103)])) _
          refine XS.ifNo X4.here hx rfl (hb hby at_104) rfl (Jvm.Free.XT.i0_gt_f hb104) ?_
          show Steps p.tables e below (T4.setTop (mkF m 107 #[.val (.int p0), .val (.int p1), .val (.int p2), .val (.int p3), .val (.long z1), .second, .val (.long z13), .second, .val (.int (0 : Int32)), .val (.double z43), .second, .val (.ref b2), .val (.long z80), .second, .unset] [])) _
          refine XS.iconst X4.here hx rfl (hb hby at_107) ?_
          show Steps p.tables e below (T4.setTop (mkF m 108 #[.val (.int p0), .val (.int p1), .val (.int p2), .val (.int p3), .val (.long z1), .second, .val (.long z13), .second, .val (.int (0 : Int32)), .val (.double z43), .second, .val (.ref b2), .val (.long z80), .second, .unset] [(.int (1 : Int32))])) _
          refine XS.goto X4.here hx rfl (pc0 := 108) (pc' := 112) rfl (hb hby at_108) (by decide) (by decide) ?_
          show Steps p.tables e below (T4.setTop (mkF m 112 #[.val (.int p0), .val (.int p1), .val (.int p2), .val (.int p3), .val (.long z1), .second, .val (.long z13), .second, .val (.int (0 : Int32)), .val (.double z43), .second, .val (.ref b2), .val (.long z80), .second, .unset] [(.int (1 : Int32))])) _
          refine XS.istore X4.here hx rfl (hb hby at_112) rfl (l' := #[.val (.int p0), .val (.int p1), .val (.int p2), .val (.int p3), .val (.long z1), .second, .val (.long z13), .second, .val (.int (0 : Int32)), .val (.double z43), .second, .val (.ref b2), .val (.long z80), .second, .val (.int (1 : Int32))]) rfl ?_
          show Steps p.tables e below (T4.setTop (mkF m 114 #[.val (.int p0), .val (.int p1), .val (.int p2), .val (.int p3), .val (.long z1), .second, .val (.long z13), .second, .val (.int (0 : Int32)), .val (.double z43), .second, .val (.ref b2), .val (.long z80), .second, .val (.int (1 : Int32))] [])) _
          refine XS.aload X4.here hx rfl (hb hby at_114) rfl rfl ?_
          show Steps p.tables e below (T4.setTop (mkF m 116 #[.val (.int p0), .val (.int p1), .val (.int p2), .val (.int p3), .val (.long z1), .second, .val (.long z13), .second, .val (.int (0 : Int32)), .val (.double z43), .second, .val (.ref b2), .val (.long z80), .second, .val (.int (1 : Int32))] [(.ref b2)])) _
          refine XS.dload X4.here hx rfl (hb hby at_116) rfl ?_
          show Steps p.tables e below (T4.setTop (mkF m 118 #[.val (.int p0), .val (.int p1), .val (.int p2), .val (.int p3), .val (.long z1), .second, .val (.long z13), .second, .val (.int (0 : Int32)), .val (.double z43), .second, .val (.ref b2), .val (.long z80), .second, .val (.int (1 : Int32))] [(.double z43), (.ref b2)])) _
          refine st12.trans ?_
          show Steps p.tables e below (T12.setTop (mkF m 121 #[.val (.int p0), .val (.int p1), .val (.int p2), .val (.int p3), .val (.long z1), .second, .val (.long z13), .second, .val (.int (0 : Int32)), .val (.double z43), .second, .val (.ref b2), .val (.long z80), .second, .val (.int (1 : Int32))] [(.int (1 : Int32))])) _
          refine XS.iload X12.here hx rfl (hb hby at_121) rfl ?_
          show Steps p.tables e below (T12.setTop (mkF m 123 #[.val (.int p0), .val (.int p1), .val (.int p2), .val (.int p3), .val (.long z1), .second, .val (.long z13), .second, .val (.int (0 : Int32)), .val (.double z43), .second, .val (.ref b2), .val (.long z80), .second, .val (.int (1 : Int32))] [(.int (1 : Int32)), (.int (1 : Int32))])) _
          refine XS.icmpNo X12.here hx rfl (hb hby at_123) rfl (Jvm.Free.XT.ii_ne_f (by decide)) ?_
          show Steps p.tables e below (T12.setTop (mkF m 126 #[.val (.int p0), .val (.int p1), .val (.int p2), .val (.int p3), .val (.long z1), .second, .val (.long z13), .second, .val (.int (0 : Int32)), .val (.double z43), .second, .val (.ref b2), .val (.long z80), .second, .val (.int (1 : Int32))] [])) _
          refine XS.iconst X12.here hx rfl (hb hby at_126) ?_
          show Steps p.tables e below (T12.setTop (mkF m 127 #[.val (.int p0), .val (.int p1), .val (.int p2), .val (.int p3), .val (.long z1), .second, .val (.long z13), .second, .val (.int (0 : Int32)), .val (.double z43), .second, .val (.ref b2), .val (.long z80), .second, .val (.int (1 : Int32))] [(.int (1 : Int32))])) _
          refine XS.goto X12.here hx rfl (pc0 := 127) (pc' := 131) rfl (hb hby at_127) (by decide) (by decide) ?_
          exact k
        obtain ⟨fs, hr, hrun, hended, hW, hsame⟩ := X12.leave (v := some (.int (1 : Int32))) (fun h => by rw [Bd.returns] at h; cases h)
        refine ⟨_, _, c13 _ ?_, hrun, hended, _, _, rfl, ?_, ⟨_, rfl⟩, hW, hsame.mono (by decide) (by decide)⟩
        · show Steps p.tables e below (T12.setTop (mkF m 131 #[.val (.int p0), .val (.int p1), .val (.int p2), .val (.int p3), .val (.long z1), .second, .val (.long z13), .second, .val (.int (0 : Int32)), .val (.double z43), .second, .val (.ref b2), .val (.long z80), .second, .val (.int (1 : Int32))] [(.int (1 : Int32))])) _
          exact retOut X12 hx Bd.returns rfl (Or.inl ⟨rfl, by simp, _, rfl⟩) (hb hby at_131) hr
        · show Q0 n0 _ T12.heap _
          rw [e12]
          exact ⟨rfl, by first | assumption | exact N0⟩
  · skip
    obtain ⟨z30, hz30⟩ : ∃ z : UInt64, FP.i2d p2 = z := ⟨_, rfl⟩
    obtain ⟨z43, hz43⟩ : ∃ z : UInt64, FP.dadd z30 (4602678819172646912 : UInt64) = z := ⟨_, rfl⟩
    obtain ⟨z52, hz52⟩ : ∃ z : UInt64, FP.l2d z1 = z := ⟨_, rfl⟩
    obtain ⟨z56, hz56⟩ : ∃ z : UInt64, FP.l2d z13 = z := ⟨_, rfl⟩
    obtain ⟨z68, hz68⟩ : ∃ z : Int64, p2.toInt64 = z := ⟨_, rfl⟩
    obtain ⟨z69, hz69⟩ : ∃ z : Int64, (2 : Int64) * z68 = z := ⟨_, rfl⟩
    obtain ⟨z80, hz80⟩ : ∃ z : Int64, z69 + (1 : Int64) = z := ⟨_, rfl⟩
    obtain ⟨z88, hz88⟩ : ∃ z : Int64, (2 : Int64) * z1 = z := ⟨_, rfl⟩
    obtain ⟨z91, hz91⟩ : ∃ z : Int32, lcmpW z88 z80 = z := ⟨_, rfl⟩
    have dx := half_v (p2 := p2) (x := z43) (d := 4602678819172646912) (b := 1) (by rw [hz30]; exact hz43) (Or.inr ⟨rfl, rfl⟩)
    have nn43 := dx.nn
    obtain ⟨T14, h14, X14, e14, E14, A14, D14, -, st14⟩ := newO X0 hx hZ hown (hw _ (List.mem_of_getElem? (i := 2) rfl)) (hw _ (List.mem_of_getElem? (i := 3) rfl)) (hw _ (List.mem_of_getElem? (i := 4) rfl)) e0 (g := (mkF m 46 #[.val (.int p0), .val (.int p1), .val (.int p2), .val (.int p3), .val (.long z1), .second, .val (.long z13), .second, .val (.int (1 : Int32)), .val (.double z43), .second, .unset, .unset, .unset, .unset] [])) rfl (hb hby at_46) (by decide) (by decide)
    obtain ⟨b14, g14⟩ : ∃ z, z = h0.size := ⟨_, rfl⟩
    rw [← g14] at A14 D14 st14
    have gn14 : n0 ≤ b14 := Nat.le_trans Z0 (Nat.le_of_eq g14.symm)
    have gz14 : h0.size ≤ b14 := Nat.le_trans ((Keep.refl h0 [])).1 (Nat.le_of_eq g14.symm)
    have K15 : Keep h0 h14 [] := (Keep.refl h0 []).ext E14
    have F14_xMin : Fld Z h14 b14 "com/example/lumenstand/lumenstand/scenario/Plot" "xMin" "D" (.double (0 : UInt64)) := D14 (Or.inr (hw _ (List.mem_of_getElem? (i := 17) rfl))) (ty := .double) (by decide)
    have F14_yMin : Fld Z h14 b14 "com/example/lumenstand/lumenstand/scenario/Plot" "yMin" "D" (.double (0 : UInt64)) := D14 (Or.inr (hw _ (List.mem_of_getElem? (i := 19) rfl))) (ty := .double) (by decide)
    have F14_xMax : Fld Z h14 b14 "com/example/lumenstand/lumenstand/scenario/Plot" "xMax" "D" (.double (0 : UInt64)) := D14 (Or.inr (hw _ (List.mem_of_getElem? (i := 21) rfl))) (ty := .double) (by decide)
    have F14_yMax : Fld Z h14 b14 "com/example/lumenstand/lumenstand/scenario/Plot" "yMax" "D" (.double (0 : UInt64)) := D14 (Or.inr (hw _ (List.mem_of_getElem? (i := 23) rfl))) (ty := .double) (by decide)
    have F14_cellSize : Fld Z h14 b14 "com/example/lumenstand/lumenstand/scenario/Plot" "cellSize" "D" (.double (0 : UInt64)) := D14 (Or.inr (hw _ (List.mem_of_getElem? (i := 25) rfl))) (ty := .double) (by decide)
    obtain ⟨_, _, ⟨T16, L16, k16, n16⟩, -, X16, ⟨Lc16, hQ16, ql16, qy16, qz16⟩, st16⟩ := X14.specialBack hx (y := (⟨"com/example/lumenstand/lumenstand/scenario/Plot", "<init>", "(DDDDD)V"⟩ : MethodName)) rfl hown (mvT hZ (hw _ (List.mem_of_getElem? (i := 5) rfl))) (mvT hZ (hw _ (List.mem_of_getElem? (i := 6) rfl))) (mvT hZ (hw _ (List.mem_of_getElem? (i := 7) rfl))) (by decide) (backOf (W := 1) (rm1 l Z a0 hw [] b14 z52 FP.dconst0 z56 FP.dconst1 FP.dconst1 ((.double (0 : UInt64))) ((.double (0 : UInt64))) ((.double (0 : UInt64))) ((.double (0 : UInt64))) ((.double (0 : UInt64)))  h14 n0 (Nat.le_trans Z0 E14.1) A14 F14_xMin gn14 F14_yMin F14_xMax F14_yMax F14_cellSize) hZ (hw _ (List.mem_of_getElem? (i := 7) rfl)) (hw _ (List.mem_of_getElem? (i := 4) rfl)) (by decide) (by decide)) (g := (mkF m 59 #[.val (.int p0), .val (.int p1), .val (.int p2), .val (.int p3), .val (.long z1), .second, .val (.long z13), .second, .val (.int (1 : Int32)), .val (.double z43), .second, .unset, .unset, .unset, .unset] [(.double FP.dconst1), (.double FP.dconst1), (.double z56), (.double FP.dconst0), (.double z52), (.ref b14), (.ref b14)])) rfl (by rw [hml]; rfl) (Steps.refl _) (a := b14) (argsL := [(.double z52), (.double FP.dconst0), (.double z56), (.double FP.dconst1), (.double FP.dconst1)]) (rest := [(.ref b14)]) (lenOf pd_1 rfl) rfl (by show 2 * 0 + _ ≤ _; exact Nat.le_of_eq rfl) (hb hby at_59) (fun _ _ => ⟨rfl, e14, (by decide : 1 + 0 ≤ _), (by decide : 5 + 0 ≤ _)⟩)
    dsimp only [Pt.U, Pt.locs, Pt.cells, Pt.slots] at X16 ql16 qy16 qz16 st16 hQ16
    subst ql16 qy16 qz16
    obtain ⟨rfl, N16q, K16q, Q16_0, Q16_1, Q16_2, Q16_3, Q16_4, Q16_5⟩ := hQ16
    have N16 := Fr.app N0 N16q
    have K17 : Keep h0 T16.heap [] := Keep.trans K15 K16q (allS (Or.inr gz14) all0)
    obtain ⟨z102', hz102'⟩ : ∃ z : Int64, 2 * z13 = z := ⟨_, rfl⟩
    obtain ⟨P1, P2, P3, P4⟩ := pl (b := 1) (bl := 1) (by decide) (by simp) hz1 hz9 hz10 hz11 hz13 hz52 hz56 dx hz68 hz69 hz80 hz88 hz102'
    have c18 : ∀ t, Steps p.tables e below (T16.setTop (mkF m 92 #[.val (.int p0), .val (.int p1), .val (.int p2), .val (.int p3), .val (.long z1), .second, .val (.long z13), .second, .val (.int (1 : Int32)), .val (.double z43), .second, .val (.ref b14), .val (.long z80), .second, .unset] [(.int z91)])) t → Steps p.tables e below (s₁.setTop (entryFrame m #[(.int p0), (.int p1), (.int p2), (.int p3)] maxLocals)) t := by
      intro t k
      refine c1 t ?_
      show Steps p.tables e below (s₁.setTop (mkF m 19 #[.val (.int p0), .val (.int p1), .val (.int p2), .val (.int p3), .val (.long z1), .second, .val (.long z13), .second, .unset, .unset, .unset, .unset, .unset, .unset, .unset] [(.int z18)])) _
      refine XS.ifNo X0.here hx rfl (hb hby at_19) rfl (Jvm.Free.XT.i0_eq_f hb19) ?_
      show Steps p.tables e below (s₁.setTop (mkF m 22 #[.val (.int p0), .val (.int p1), .val (.int p2), .val (.int p3), .val (.long z1), .second, .val (.long z13), .second, .unset, .unset, .unset, .unset, .unset, .unset, .unset] [])) _
      refine XS.iconst X0.here hx rfl (hb hby at_22) ?_
      show Steps p.tables e below (s₁.setTop (mkF m 23 #[.val (.int p0), .val (.int p1), .val (.int p2), .val (.int p3), .val (.long z1), .second, .val (.long z13), .second, .unset, .unset, .unset, .unset, .unset, .unset, .unset] [(.int (1 : Int32))])) _
      refine XS.goto X0.here hx rfl (pc0 := 23) (pc' := 27) rfl (hb hby at_23) (by decide) (by decide) ?_
      show Steps p.tables e below (s₁.setTop (mkF m 27 #[.val (.int p0), .val (.int p1), .val (.int p2), .val (.int p3), .val (.long z1), .second, .val (.long z13), .second, .unset, .unset, .unset, .unset, .unset, .unset, .unset] [(.int (1 : Int32))])) _
      refine XS.istore X0.here hx rfl (hb hby at_27) rfl (l' := #[.val (.int p0), .val (.int p1), .val (.int p2), .val (.int p3), .val (.long z1), .second, .val (.long z13), .second, .val (.int (1 : Int32)), .unset, .unset, .unset, .unset, .unset, .unset]) rfl ?_
      show Steps p.tables e below (s₁.setTop (mkF m 29 #[.val (.int p0), .val (.int p1), .val (.int p2), .val (.int p3), .val (.long z1), .second, .val (.long z13), .second, .val (.int (1 : Int32)), .unset, .unset, .unset, .unset, .unset, .unset] [])) _
      refine XS.iloadN X0.here hx rfl (hb hby at_29) rfl ?_
      show Steps p.tables e below (s₁.setTop (mkF m 30 #[.val (.int p0), .val (.int p1), .val (.int p2), .val (.int p3), .val (.long z1), .second, .val (.long z13), .second, .val (.int (1 : Int32)), .unset, .unset, .unset, .unset, .unset, .unset] [(.int p2)])) _
      refine XS.i2dS X0.here hx rfl (hb hby at_30) rfl hz30 ?_
      show Steps p.tables e below (s₁.setTop (mkF m 31 #[.val (.int p0), .val (.int p1), .val (.int p2), .val (.int p3), .val (.long z1), .second, .val (.long z13), .second, .val (.int (1 : Int32)), .unset, .unset, .unset, .unset, .unset, .unset] [(.double z30)])) _
      refine XS.iload X0.here hx rfl (hb hby at_31) rfl ?_
      show Steps p.tables e below (s₁.setTop (mkF m 33 #[.val (.int p0), .val (.int p1), .val (.int p2), .val (.int p3), .val (.long z1), .second, .val (.long z13), .second, .val (.int (1 : Int32)), .unset, .unset, .unset, .unset, .unset, .unset] [(.int (1 : Int32)), (.double z30)])) _
      refine XS.ifNo X0.here hx rfl (hb hby at_33) rfl (Jvm.Free.XT.i0_eq_f (by decide)) ?_
      show Steps p.tables e below (s₁.setTop (mkF m 36 #[.val (.int p0), .val (.int p1), .val (.int p2), .val (.int p3), .val (.long z1), .second, .val (.long z13), .second, .val (.int (1 : Int32)), .unset, .unset, .unset, .unset, .unset, .unset] [(.double z30)])) _
      refine X0.ldc2DoubleC hx hown (mvT hZ (hw _ (List.mem_of_getElem? (i := 1) rfl))) (g := (mkF m 36 #[.val (.int p0), .val (.int p1), .val (.int p2), .val (.int p3), .val (.long z1), .second, .val (.long z13), .second, .val (.int (1 : Int32)), .unset, .unset, .unset, .unset, .unset, .unset] [(.double z30)])) rfl (hb hby at_36) _ ?_
      show Steps p.tables e below (s₁.setTop (mkF m 39 #[.val (.int p0), .val (.int p1), .val (.int p2), .val (.int p3), .val (.long z1), .second, .val (.long z13), .second, .val (.int (1 : Int32)), .unset, .unset, .unset, .unset, .unset, .unset] [(.double (4602678819172646912 : UInt64)), (.double z30)])) _
      refine XS.goto X0.here hx rfl (pc0 := 39) (pc' := 43) rfl (hb hby at_39) (by decide) (by decide) ?_
      show Steps p.tables e below (s₁.setTop (mkF m 43 #[.val (.int p0), .val (.int p1), .val (.int p2), .val (.int p3), .val (.long z1), .second, .val (.long z13), .second, .val (.int (1 : Int32)), .unset, .unset, .unset, .unset, .unset, .unset] [(.double (4602678819172646912 : UInt64)), (.double z30)])) _
      refine Jvm.OwnK.dadd X0.here hx rfl (hb hby at_43) rfl hz43 nn43 ?_
      show Steps p.tables e below (s₁.setTop (mkF m 44 #[.val (.int p0), .val (.int p1), .val (.int p2), .val (.int p3), .val (.long z1), .second, .val (.long z13), .second, .val (.int (1 : Int32)), .unset, .unset, .unset, .unset, .unset, .unset] [(.double z43)])) _
      refine XS.dstore X0.here hx rfl (hb hby at_44) rfl (l' := #[.val (.int p0), .val (.int p1), .val (.int p2), .val (.int p3), .val (.long z1), .second, .val (.long z13), .second, .val (.int (1 : Int32)), .val (.double z43), .second, .unset, .unset, .unset, .unset]) rfl ?_
      show Steps p.tables e below (s₁.setTop (mkF m 46 #[.val (.int p0), .val (.int p1), .val (.int p2), .val (.int p3), .val (.long z1), .second, .val (.long z13), .second, .val (.int (1 : Int32)), .val (.double z43), .second, .unset, .unset, .unset, .unset] [])) _
      refine st14 _ ?_
      show Steps p.tables e below (T14.setTop (mkF m 49 #[.val (.int p0), .val (.int p1), .val (.int p2), .val (.int p3), .val (.long z1), .second, .val (.long z13), .second, .val (.int (1 : Int32)), .val (.double z43), .second, .unset, .unset, .unset, .unset] [(.ref b14)])) _
      refine XS.dup X14.here hx rfl (hb hby at_49) rfl rfl ?_
      show Steps p.tables e below (T14.setTop (mkF m 50 #[.val (.int p0), .val (.int p1), .val (.int p2), .val (.int p3), .val (.long z1), .second, .val (.long z13), .second, .val (.int (1 : Int32)), .val (.double z43), .second, .unset, .unset, .unset, .unset] [(.ref b14), (.ref b14)])) _
      refine XS.lload X14.here hx rfl (hb hby at_50) rfl ?_
      show Steps p.tables e below (T14.setTop (mkF m 52 #[.val (.int p0), .val (.int p1), .val (.int p2), .val (.int p3), .val (.long z1), .second, .val (.long z13), .second, .val (.int (1 : Int32)), .val (.double z43), .second, .unset, .unset, .unset, .unset] [(.long z1), (.ref b14), (.ref b14)])) _
      refine XS.l2dS X14.here hx rfl (hb hby at_52) rfl hz52 ?_
      show Steps p.tables e below (T14.setTop (mkF m 53 #[.val (.int p0), .val (.int p1), .val (.int p2), .val (.int p3), .val (.long z1), .second, .val (.long z13), .second, .val (.int (1 : Int32)), .val (.double z43), .second, .unset, .unset, .unset, .unset] [(.double z52), (.ref b14), (.ref b14)])) _
      refine XS.dconst0 X14.here hx rfl (hb hby at_53) (v := FP.dconst0) rfl ?_
      show Steps p.tables e below (T14.setTop (mkF m 54 #[.val (.int p0), .val (.int p1), .val (.int p2), .val (.int p3), .val (.long z1), .second, .val (.long z13), .second, .val (.int (1 : Int32)), .val (.double z43), .second, .unset, .unset, .unset, .unset] [(.double FP.dconst0), (.double z52), (.ref b14), (.ref b14)])) _
      refine XS.lload X14.here hx rfl (hb hby at_54) rfl ?_
      show Steps p.tables e below (T14.setTop (mkF m 56 #[.val (.int p0), .val (.int p1), .val (.int p2), .val (.int p3), .val (.long z1), .second, .val (.long z13), .second, .val (.int (1 : Int32)), .val (.double z43), .second, .unset, .unset, .unset, .unset] [(.long z13), (.double FP.dconst0), (.double z52), (.ref b14), (.ref b14)])) _
      refine XS.l2dS X14.here hx rfl (hb hby at_56) rfl hz56 ?_
      show Steps p.tables e below (T14.setTop (mkF m 57 #[.val (.int p0), .val (.int p1), .val (.int p2), .val (.int p3), .val (.long z1), .second, .val (.long z13), .second, .val (.int (1 : Int32)), .val (.double z43), .second, .unset, .unset, .unset, .unset] [(.double z56), (.double FP.dconst0), (.double z52), (.ref b14), (.ref b14)])) _
      refine XS.dconst1 X14.here hx rfl (hb hby at_57) (v := FP.dconst1) rfl ?_
      show Steps p.tables e below (T14.setTop (mkF m 58 #[.val (.int p0), .val (.int p1), .val (.int p2), .val (.int p3), .val (.long z1), .second, .val (.long z13), .second, .val (.int (1 : Int32)), .val (.double z43), .second, .unset, .unset, .unset, .unset] [(.double FP.dconst1), (.double z56), (.double FP.dconst0), (.double z52), (.ref b14), (.ref b14)])) _
      refine XS.dconst1 X14.here hx rfl (hb hby at_58) (v := FP.dconst1) rfl ?_
      show Steps p.tables e below (T14.setTop (mkF m 59 #[.val (.int p0), .val (.int p1), .val (.int p2), .val (.int p3), .val (.long z1), .second, .val (.long z13), .second, .val (.int (1 : Int32)), .val (.double z43), .second, .unset, .unset, .unset, .unset] [(.double FP.dconst1), (.double FP.dconst1), (.double z56), (.double FP.dconst0), (.double z52), (.ref b14), (.ref b14)])) _
      refine st16.trans ?_
      show Steps p.tables e below (T16.setTop (mkF m 62 #[.val (.int p0), .val (.int p1), .val (.int p2), .val (.int p3), .val (.long z1), .second, .val (.long z13), .second, .val (.int (1 : Int32)), .val (.double z43), .second, .unset, .unset, .unset, .unset] [(.ref b14)])) _
      refine XS.astore X16.here hx rfl (hb hby at_62) rfl rfl (l' := #[.val (.int p0), .val (.int p1), .val (.int p2), .val (.int p3), .val (.long z1), .second, .val (.long z13), .second, .val (.int (1 : Int32)), .val (.double z43), .second, .val (.ref b14), .unset, .unset, .unset]) rfl ?_
      show Steps p.tables e below (T16.setTop (mkF m 64 #[.val (.int p0), .val (.int p1), .val (.int p2), .val (.int p3), .val (.long z1), .second, .val (.long z13), .second, .val (.int (1 : Int32)), .val (.double z43), .second, .val (.ref b14), .unset, .unset, .unset] [])) _
      refine X16.ldc2Long hx hown (mvT hZ (hw _ (List.mem_of_getElem? (i := 26) rfl))) (g := (mkF m 64 #[.val (.int p0), .val (.int p1), .val (.int p2), .val (.int p3), .val (.long z1), .second, .val (.long z13), .second, .val (.int (1 : Int32)), .val (.double z43), .second, .val (.ref b14), .unset, .unset, .unset] [])) rfl (hb hby at_64) _ ?_
      show Steps p.tables e below (T16.setTop (mkF m 67 #[.val (.int p0), .val (.int p1), .val (.int p2), .val (.int p3), .val (.long z1), .second, .val (.long z13), .second, .val (.int (1 : Int32)), .val (.double z43), .second, .val (.ref b14), .unset, .unset, .unset] [(.long (2 : Int64))])) _
      refine XS.iloadN X16.here hx rfl (hb hby at_67) rfl ?_
      show Steps p.tables e below (T16.setTop (mkF m 68 #[.val (.int p0), .val (.int p1), .val (.int p2), .val (.int p3), .val (.long z1), .second, .val (.long z13), .second, .val (.int (1 : Int32)), .val (.double z43), .second, .val (.ref b14), .unset, .unset, .unset] [(.int p2), (.long (2 : Int64))])) _
      refine Jvm.OwnK.i2l X16.here hx rfl (hb hby at_68) rfl hz68 ?_
      show Steps p.tables e below (T16.setTop (mkF m 69 #[.val (.int p0), .val (.int p1), .val (.int p2), .val (.int p3), .val (.long z1), .second, .val (.long z13), .second, .val (.int (1 : Int32)), .val (.double z43), .second, .val (.ref b14), .unset, .unset, .unset] [(.long z68), (.long (2 : Int64))])) _
      refine Jvm.OwnK.lmul X16.here hx rfl (hb hby at_69) rfl hz69 ?_
      show Steps p.tables e below (T16.setTop (mkF m 70 #[.val (.int p0), .val (.int p1), .val (.int p2), .val (.int p3), .val (.long z1), .second, .val (.long z13), .second, .val (.int (1 : Int32)), .val (.double z43), .second, .val (.ref b14), .unset, .unset, .unset] [(.long z69)])) _
      refine XS.iload X16.here hx rfl (hb hby at_70) rfl ?_
      show Steps p.tables e below (T16.setTop (mkF m 72 #[.val (.int p0), .val (.int p1), .val (.int p2), .val (.int p3), .val (.long z1), .second, .val (.long z13), .second, .val (.int (1 : Int32)), .val (.double z43), .second, .val (.ref b14), .unset, .unset, .unset] [(.int (1 : Int32)), (.long z69)])) _
      refine XS.ifNo X16.here hx rfl (hb hby at_72) rfl (Jvm.Free.XT.i0_eq_f (by decide)) ?_
      show Steps p.tables e below (T16.setTop (mkF m 75 #[.val (.int p0), .val (.int p1), .val (.int p2), .val (.int p3), .val (.long z1), .second, .val (.long z13), .second, .val (.int (1 : Int32)), .val (.double z43), .second, .val (.ref b14), .unset, .unset, .unset] [(.long z69)])) _
      refine XS.lconst X16.here hx rfl (hb hby at_75) ?_
      show Steps p.tables e below (T16.setTop (mkF m 76 #[.val (.int p0), .val (.int p1), .val (.int p2), .val (.int p3), .val (.long z1), .second, .val (.long z13), .second, .val (.int (1 : Int32)), .val (.double z43), .second, .val (.ref b14), .unset, .unset, .unset] [(.long (1 : Int64)), (.long z69)])) _
      refine XS.goto X16.here hx rfl (pc0 := 76) (pc' := 80) rfl (hb hby at_76) (by decide) (by decide) ?_
      show Steps p.tables e below (T16.setTop (mkF m 80 #[.val (.int p0), .val (.int p1), .val (.int p2), .val (.int p3), .val (.long z1), .second, .val (.long z13), .second, .val (.int (1 : Int32)), .val (.double z43), .second, .val (.ref b14), .unset, .unset, .unset] [(.long (1 : Int64)), (.long z69)])) _
      refine Jvm.OwnK.ladd X16.here hx rfl (hb hby at_80) rfl hz80 ?_
      show Steps p.tables e below (T16.setTop (mkF m 81 #[.val (.int p0), .val (.int p1), .val (.int p2), .val (.int p3), .val (.long z1), .second, .val (.long z13), .second, .val (.int (1 : Int32)), .val (.double z43), .second, .val (.ref b14), .unset, .unset, .unset] [(.long z80)])) _
      refine XS.lstore X16.here hx rfl (hb hby at_81) rfl (l' := #[.val (.int p0), .val (.int p1), .val (.int p2), .val (.int p3), .val (.long z1), .second, .val (.long z13), .second, .val (.int (1 : Int32)), .val (.double z43), .second, .val (.ref b14), .val (.long z80), .second, .unset]) rfl ?_
      show Steps p.tables e below (T16.setTop (mkF m 83 #[.val (.int p0), .val (.int p1), .val (.int p2), .val (.int p3), .val (.long z1), .second, .val (.long z13), .second, .val (.int (1 : Int32)), .val (.double z43), .second, .val (.ref b14), .val (.long z80), .second, .unset] [])) _
      refine X16.ldc2Long hx hown (mvT hZ (hw _ (List.mem_of_getElem? (i := 26) rfl))) (g := (mkF m 83 #[.val (.int p0), .val (.int p1), .val (.int p2), .val (.int p3), .val (.long z1), .second, .val (.long z13), .second, .val (.int (1 : Int32)), .val (.double z43), .second, .val (.ref b14), .val (.long z80), .second, .unset] [])) rfl (hb hby at_83) _ ?_
      show Steps p.tables e below (T16.setTop (mkF m 86 #[.val (.int p0), .val (.int p1), .val (.int p2), .val (.int p3), .val (.long z1), .second, .val (.long z13), .second, .val (.int (1 : Int32)), .val (.double z43), .second, .val (.ref b14), .val (.long z80), .second, .unset] [(.long (2 : Int64))])) _
      refine XS.lload X16.here hx rfl (hb hby at_86) rfl ?_
      show Steps p.tables e below (T16.setTop (mkF m 88 #[.val (.int p0), .val (.int p1), .val (.int p2), .val (.int p3), .val (.long z1), .second, .val (.long z13), .second, .val (.int (1 : Int32)), .val (.double z43), .second, .val (.ref b14), .val (.long z80), .second, .unset] [(.long z1), (.long (2 : Int64))])) _
      refine Jvm.OwnK.lmul X16.here hx rfl (hb hby at_88) rfl hz88 ?_
      show Steps p.tables e below (T16.setTop (mkF m 89 #[.val (.int p0), .val (.int p1), .val (.int p2), .val (.int p3), .val (.long z1), .second, .val (.long z13), .second, .val (.int (1 : Int32)), .val (.double z43), .second, .val (.ref b14), .val (.long z80), .second, .unset] [(.long z88)])) _
      refine XS.lload X16.here hx rfl (hb hby at_89) rfl ?_
      show Steps p.tables e below (T16.setTop (mkF m 91 #[.val (.int p0), .val (.int p1), .val (.int p2), .val (.int p3), .val (.long z1), .second, .val (.long z13), .second, .val (.int (1 : Int32)), .val (.double z43), .second, .val (.ref b14), .val (.long z80), .second, .unset] [(.long z80), (.long z88)])) _
      refine Jvm.OwnK.lcmp X16.here hx rfl (hb hby at_91) rfl hz91 ?_
      exact k
    by_cases hb92 : (0 : Int32) < z91
    · skip
      obtain ⟨c118_z5, hc118_z5⟩ : ∃ z : Int32, cmpValue (FP.dcmp z43 z52) .l = z := ⟨_, rfl⟩
      have c118_br6 : c118_z5 < 0 := by rw [← hc118_z5, P1 ((lw_gt _ _).mp (by rw [hz91]; exact hb92))]; decide
      obtain ⟨cq19, kq19, q19a, q19b, q19c⟩ := isOf hZ rfl Q16_0
      obtain ⟨_, _, ⟨T19, L19, k19, n19⟩, -, X19, ⟨Lc19, hQ19, ql19, qy19, qz19⟩, st19⟩ := X16.virtualBack hx (y := (⟨"com/example/lumenstand/lumenstand/scenario/Plot", "containsX", "(D)Z"⟩ : MethodName)) (z := (⟨"com/example/lumenstand/lumenstand/scenario/Plot", "containsX", "(D)Z"⟩ : MethodName)) hown (mvT hZ (hw _ (List.mem_of_getElem? (i := 27) rfl))) (mvT hZ (hw _ (List.mem_of_getElem? (i := 28) rfl))) (notFace_of_selects (args := #[]) (mvT hZ (hw _ (List.mem_of_getElem? (i := 30) rfl)))) (mvT hZ (hw _ (List.mem_of_getElem? (i := 30) rfl))) (mvT hZ (hw _ (List.mem_of_getElem? (i := 29) rfl))) (by decide) (backOf (W := 0) (rm4_t l Z a0 hw [] b14 z43 z52 c118_z5 T16.heap n0 (Nat.le_trans (Nat.le_trans Z0 E14.1) K16q.1) Q16_1 hc118_z5 c118_br6) hZ (hw _ (List.mem_of_getElem? (i := 31) rfl)) (hw _ (List.mem_of_getElem? (i := 4) rfl)) (by decide) (by decide)) q19a q19c (g := (mkF m 118 #[.val (.int p0), .val (.int p1), .val (.int p2), .val (.int p3), .val (.long z1), .second, .val (.long z13), .second, .val (.int (1 : Int32)), .val (.double z43), .second, .val (.ref b14), .val (.long z80), .second, .val (.int (0 : Int32))] [(.double z43), (.ref b14)])) rfl (by rw [hml]; rfl) (Steps.refl _) (argsL := [(.double z43)]) (rest := []) (lenOf pd_2 rfl) rfl (by show 2 * 0 + _ ≤ _; exact Nat.le_of_eq rfl) (hb hby at_118) (fun _ _ => ⟨rfl, rfl, (by decide : 1 + 0 ≤ _), (by decide : 5 + 0 ≤ _)⟩)
      dsimp only [Pt.U, Pt.locs, Pt.cells, Pt.slots] at X19 ql19 qy19 qz19 st19 hQ19
      subst ql19 qy19 qz19
      obtain ⟨rfl, N19q, e19⟩ := hQ19
      have N19 := Fr.app N16 N19q
      have c20 : ∀ t, Steps p.tables e below (T19.setTop (mkF m 131 #[.val (.int p0), .val (.int p1), .val (.int p2), .val (.int p3), .val (.long z1), .second, .val (.long z13), .second, .val (.int (1 : Int32)), .val (.double z43), .second, .val (.ref b14), .val (.long z80), .second, .val (.int (0 : Int32))] [(.int (1 : Int32))])) t → Steps p.tables e below (s₁.setTop (entryFrame m #[(.int p0), (.int p1), (.int p2), (.int p3)] maxLocals)) t := by
        intro t k
        refine c18 t ?_
        show Steps p.tables e below (T16.setTop (mkF m 92 #[.val (.int p0), .val (.int p1), .val (.int p2), .val (.int p3), .val (.long z1), .second, .val (.long z13), .second, .val (.int (1 : Int32)), .val (.double z43), .second, .val (.ref b14), .val (.long z80), .second, .unset] [(.int z91)])) _
        refine XS.ifYes X16.here hx rfl (pc0 := 92) (pc' := 111) rfl (hb hby at_92) rfl (Jvm.Free.XT.i0_gt_t hb92) (by decide) (by decide) ?_
        show Steps p.tables e below (T16.setTop (mkF m 111 #[.val (.int p0), .val (.int p1), .val (.int p2), .val (.int p3), .val (.long z1), .second, .val (.long z13), .second, .val (.int (1 : Int32)), .val (.double z43), .second, .val (.ref b14), .val (.long z80), .second, .unset] [])) _
        refine XS.iconst X16.here hx rfl (hb hby at_111) ?_
        show Steps p.tables e below (T16.setTop (mkF m 112 #[.val (.int p0), .val (.int p1), .val (.int p2), .val (.int p3), .val (.long z1), .second, .val (.long z13), .second, .val (.int (1 : Int32)), .val (.double z43), .second, .val (.ref b14), .val (.long z80), .second, .unset] [(.int (0 : Int32))])) _
        refine XS.istore X16.here hx rfl (hb hby at_112) rfl (l' := #[.val (.int p0), .val (.int p1), .val (.int p2), .val (.int p3), .val (.long z1), .second, .val (.long z13), .second, .val (.int (1 : Int32)), .val (.double z43), .second, .val (.ref b14), .val (.long z80), .second, .val (.int (0 : Int32))]) rfl ?_
        show Steps p.tables e below (T16.setTop (mkF m 114 #[.val (.int p0), .val (.int p1), .val (.int p2), .val (.int p3), .val (.long z1), .second, .val (.long z13), .second, .val (.int (1 : Int32)), .val (.double z43), .second, .val (.ref b14), .val (.long z80), .second, .val (.int (0 : Int32))] [])) _
        refine XS.aload X16.here hx rfl (hb hby at_114) rfl rfl ?_
        show Steps p.tables e below (T16.setTop (mkF m 116 #[.val (.int p0), .val (.int p1), .val (.int p2), .val (.int p3), .val (.long z1), .second, .val (.long z13), .second, .val (.int (1 : Int32)), .val (.double z43), .second, .val (.ref b14), .val (.long z80), .second, .val (.int (0 : Int32))] [(.ref b14)])) _
        refine XS.dload X16.here hx rfl (hb hby at_116) rfl ?_
        show Steps p.tables e below (T16.setTop (mkF m 118 #[.val (.int p0), .val (.int p1), .val (.int p2), .val (.int p3), .val (.long z1), .second, .val (.long z13), .second, .val (.int (1 : Int32)), .val (.double z43), .second, .val (.ref b14), .val (.long z80), .second, .val (.int (0 : Int32))] [(.double z43), (.ref b14)])) _
        refine st19.trans ?_
        show Steps p.tables e below (T19.setTop (mkF m 121 #[.val (.int p0), .val (.int p1), .val (.int p2), .val (.int p3), .val (.long z1), .second, .val (.long z13), .second, .val (.int (1 : Int32)), .val (.double z43), .second, .val (.ref b14), .val (.long z80), .second, .val (.int (0 : Int32))] [(.int (0 : Int32))])) _
        refine XS.iload X19.here hx rfl (hb hby at_121) rfl ?_
        show Steps p.tables e below (T19.setTop (mkF m 123 #[.val (.int p0), .val (.int p1), .val (.int p2), .val (.int p3), .val (.long z1), .second, .val (.long z13), .second, .val (.int (1 : Int32)), .val (.double z43), .second, .val (.ref b14), .val (.long z80), .second, .val (.int (0 : Int32))] [(.int (0 : Int32)), (.int (0 : Int32))])) _
        refine XS.icmpNo X19.here hx rfl (hb hby at_123) rfl (Jvm.Free.XT.ii_ne_f (by decide)) ?_
        show Steps p.tables e below (T19.setTop (mkF m 126 #[.val (.int p0), .val (.int p1), .val (.int p2), .val (.int p3), .val (.long z1), .second, .val (.long z13), .second, .val (.int (1 : Int32)), .val (.double z43), .second, .val (.ref b14), .val (.long z80), .second, .val (.int (0 : Int32))] [])) _
        refine XS.iconst X19.here hx rfl (hb hby at_126) ?_
        show Steps p.tables e below (T19.setTop (mkF m 127 #[.val (.int p0), .val (.int p1), .val (.int p2), .val (.int p3), .val (.long z1), .second, .val (.long z13), .second, .val (.int (1 : Int32)), .val (.double z43), .second, .val (.ref b14), .val (.long z80), .second, .val (.int (0 : Int32))] [(.int (1 : Int32))])) _
        refine XS.goto X19.here hx rfl (pc0 := 127) (pc' := 131) rfl (hb hby at_127) (by decide) (by decide) ?_
        exact k
      obtain ⟨fs, hr, hrun, hended, hW, hsame⟩ := X19.leave (v := some (.int (1 : Int32))) (fun h => by rw [Bd.returns] at h; cases h)
      refine ⟨_, _, c20 _ ?_, hrun, hended, _, _, rfl, ?_, ⟨_, rfl⟩, hW, hsame.mono (by decide) (by decide)⟩
      · show Steps p.tables e below (T19.setTop (mkF m 131 #[.val (.int p0), .val (.int p1), .val (.int p2), .val (.int p3), .val (.long z1), .second, .val (.long z13), .second, .val (.int (1 : Int32)), .val (.double z43), .second, .val (.ref b14), .val (.long z80), .second, .val (.int (0 : Int32))] [(.int (1 : Int32))])) _
        exact retOut X19 hx Bd.returns rfl (Or.inl ⟨rfl, by simp, _, rfl⟩) (hb hby at_131) hr
      · show Q0 n0 _ T19.heap _
        rw [e19]
        exact ⟨rfl, by first | assumption | exact N0⟩
    · skip
      obtain ⟨z102, hz102⟩ : ∃ z : Int64, (2 : Int64) * z13 = z := ⟨_, rfl⟩
      obtain ⟨z103, hz103⟩ : ∃ z : Int32, lcmpW z80 z102 = z := ⟨_, rfl⟩
      have c21 : ∀ t, Steps p.tables e below (T16.setTop (mkF m 104 #[.val (.int p0), .val (.int p1), .val (.int p2), .val (.int p3), .val (.long z1), .second, .val (.long z13), .second, .val (.int (1 : Int32)), .val (.double z43), .second, .val (.ref b14), .val (.long z80), .second, .unset] [(.int z103)])) t → Steps p.tables e below (s₁.setTop (entryFrame m #[(.int p0), (.int p1), (.int p2), (.int p3)] maxLocals)) t := by
        intro t k
        refine c18 t ?_
        show Steps p.tables e below (T16.setTop (mkF m 92 #[.val (.int p0), .val (.int p1), .val (.int p2), .val (.int p3), .val (.long z1), .second, .val (.long z13), .second, .val (.int (1 : Int32)), .val (.double z43), .second, .val (.ref b14), .val (.long z80), .second, .unset] [(.int z91)])) _
        refine XS.ifNo X16.here hx rfl (hb hby at_92) rfl (Jvm.Free.XT.i0_gt_f hb92) ?_
        show Steps p.tables e below (T16.setTop (mkF m 95 #[.val (.int p0), .val (.int p1), .val (.int p2), .val (.int p3), .val (.long z1), .second, .val (.long z13), .second, .val (.int (1 : Int32)), .val (.double z43), .second, .val (.ref b14), .val (.long z80), .second, .unset] [])) _
        refine XS.lload X16.here hx rfl (hb hby at_95) rfl ?_
        show Steps p.tables e below (T16.setTop (mkF m 97 #[.val (.int p0), .val (.int p1), .val (.int p2), .val (.int p3), .val (.long z1), .second, .val (.long z13), .second, .val (.int (1 : Int32)), .val (.double z43), .second, .val (.ref b14), .val (.long z80), .second, .unset] [(.long z80)])) _
        refine X16.ldc2Long hx hown (mvT hZ (hw _ (List.mem_of_getElem? (i := 26) rfl))) (g := (mkF m 97 #[.val (.int p0), .val (.int p1), .val (.int p2), .val (.int p3), .val (.long z1), .second, .val (.long z13), .second, .val (.int (1 : Int32)), .val (.double z43), .second, .val (.ref b14), .val (.long z80), .second, .unset] [(.long z80)])) rfl (hb hby at_97) _ ?_
        show Steps p.tables e below (T16.setTop (mkF m 100 #[.val (.int p0), .val (.int p1), .val (.int p2), .val (.int p3), .val (.long z1), .second, .val (.long z13), .second, .val (.int (1 : Int32)), .val (.double z43), .second, .val (.ref b14), .val (.long z80), .second, .unset] [(.long (2 : Int64)), (.long z80)])) _
        refine XS.lload X16.here hx rfl (hb hby at_100) rfl ?_
        show Steps p.tables e below (T16.setTop (mkF m 102 #[.val (.int p0), .val (.int p1), .val (.int p2), .val (.int p3), .val (.long z1), .second, .val (.long z13), .second, .val (.int (1 : Int32)), .val (.double z43), .second, .val (.ref b14), .val (.long z80), .second, .unset] [(.long z13), (.long (2 : Int64)), (.long z80)])) _
        refine Jvm.OwnK.lmul X16.here hx rfl (hb hby at_102) rfl hz102 ?_
        show Steps p.tables e below (T16.setTop (mkF m 103 #[.val (.int p0), .val (.int p1), .val (.int p2), .val (.int p3), .val (.long z1), .second, .val (.long z13), .second, .val (.int (1 : Int32)), .val (.double z43), .second, .val (.ref b14), .val (.long z80), .second, .unset] [(.long z102), (.long z80)])) _
        refine Jvm.OwnK.lcmp X16.here hx rfl (hb hby at_103) rfl hz103 ?_
        exact k
      by_cases hb104 : (0 : Int32) < z103
      · skip
        obtain ⟨c118_z5, hc118_z5⟩ : ∃ z : Int32, cmpValue (FP.dcmp z43 z52) .l = z := ⟨_, rfl⟩
        obtain ⟨c118_z14, hc118_z14⟩ : ∃ z : Int32, cmpValue (FP.dcmp z43 z56) .g = z := ⟨_, rfl⟩
        have c118_br6 : ¬ c118_z5 < 0 := by
          have q := P2 (fun q => hb92 (by rw [← hz91]; exact (lw_gt _ _).mpr q))
          rw [hc118_z5] at q
          rw [Int32.lt_iff_toInt_lt]; exact Int.not_lt.mpr q
        obtain rfl : z102 = z102' := hz102.symm.trans hz102'
        have c118_br15 : 0 < c118_z14 := by rw [← hc118_z14, P3 ((lw_gt _ _).mp (by rw [hz103]; exact hb104))]; decide
        obtain ⟨cq22, kq22, q22a, q22b, q22c⟩ := isOf hZ rfl Q16_0
        obtain ⟨_, _, ⟨T22, L22, k22, n22⟩, -, X22, ⟨Lc22, hQ22, ql22, qy22, qz22⟩, st22⟩ := X16.virtualBack hx (y := (⟨"com/example/lumenstand/lumenstand/scenario/Plot", "containsX", "(D)Z"⟩ : MethodName)) (z := (⟨"com/example/lumenstand/lumenstand/scenario/Plot", "containsX", "(D)Z"⟩ : MethodName)) hown (mvT hZ (hw _ (List.mem_of_getElem? (i := 27) rfl))) (mvT hZ (hw _ (List.mem_of_getElem? (i := 28) rfl))) (notFace_of_selects (args := #[]) (mvT hZ (hw _ (List.mem_of_getElem? (i := 30) rfl)))) (mvT hZ (hw _ (List.mem_of_getElem? (i := 30) rfl))) (mvT hZ (hw _ (List.mem_of_getElem? (i := 29) rfl))) (by decide) (backOf (W := 0) (rm4_ft l Z a0 hw [] b14 z43 z52 z56 c118_z5 c118_z14 T16.heap n0 (Nat.le_trans (Nat.le_trans Z0 E14.1) K16q.1) Q16_1 Q16_3 hc118_z5 hc118_z14 c118_br6 c118_br15) hZ (hw _ (List.mem_of_getElem? (i := 31) rfl)) (hw _ (List.mem_of_getElem? (i := 4) rfl)) (by decide) (by decide)) q22a q22c (g := (mkF m 118 #[.val (.int p0), .val (.int p1), .val (.int p2), .val (.int p3), .val (.long z1), .second, .val (.long z13), .second, .val (.int (1 : Int32)), .val (.double z43), .second, .val (.ref b14), .val (.long z80), .second, .val (.int (0 : Int32))] [(.double z43), (.ref b14)])) rfl (by rw [hml]; rfl) (Steps.refl _) (argsL := [(.double z43)]) (rest := []) (lenOf pd_2 rfl) rfl (by show 2 * 0 + _ ≤ _; exact Nat.le_of_eq rfl) (hb hby at_118) (fun _ _ => ⟨rfl, rfl, (by decide : 1 + 0 ≤ _), (by decide : 5 + 0 ≤ _)⟩)
        dsimp only [Pt.U, Pt.locs, Pt.cells, Pt.slots] at X22 ql22 qy22 qz22 st22 hQ22
        subst ql22 qy22 qz22
        obtain ⟨rfl, N22q, e22⟩ := hQ22
        have N22 := Fr.app N16 N22q
        have c23 : ∀ t, Steps p.tables e below (T22.setTop (mkF m 131 #[.val (.int p0), .val (.int p1), .val (.int p2), .val (.int p3), .val (.long z1), .second, .val (.long z13), .second, .val (.int (1 : Int32)), .val (.double z43), .second, .val (.ref b14), .val (.long z80), .second, .val (.int (0 : Int32))] [(.int (1 : Int32))])) t → Steps p.tables e below (s₁.setTop (entryFrame m #[(.int p0), (.int p1), (.int p2), (.int p3)] maxLocals)) t := by
          intro t k
          refine c21 t ?_
          show Steps p.tables e below (T16.setTop (mkF m 104 #[.val (.int p0), .val (.int p1), .val (.int p2), .val (.int p3), .val (.long z1), .second, .val (.long z13), .second, .val (.int (1 : Int32)), .val (.double z43), .second, .val (.ref b14), .val (.long z80), .second, .unset] [(.int z103)])) _
          refine XS.ifYes X16.here hx rfl (pc0 := 104) (pc' := 111) rfl (hb hby at_104) rfl (Jvm.Free.XT.i0_gt_t hb104) (by decide) (by decide) ?_
          show Steps p.tables e below (T16.setTop (mkF m 111 #[.val (.int p0), .val (.int p1), .val (.int p2), .val (.int p3), .val (.long z1), .second, .val (.long z13), .second, .val (.int (1 : Int32)), .val (.double z43), .second, .val (.ref b14), .val (.long z80), .second, .unset] [])) _
          refine XS.iconst X16.here hx rfl (hb hby at_111) ?_
          show Steps p.tables e below (T16.setTop (mkF m 112 #[.val (.int p0), .val (.int p1), .val (.int p2), .val (.int p3), .val (.long z1), .second, .val (.long z13), .second, .val (.int (1 : Int32)), .val (.double z43), .second, .val (.ref b14), .val (.long z80), .second, .unset] [(.int (0 : Int32))])) _
          refine XS.istore X16.here hx rfl (hb hby at_112) rfl (l' := #[.val (.int p0), .val (.int p1), .val (.int p2), .val (.int p3), .val (.long z1), .second, .val (.long z13), .second, .val (.int (1 : Int32)), .val (.double z43), .second, .val (.ref b14), .val (.long z80), .second, .val (.int (0 : Int32))]) rfl ?_
          show Steps p.tables e below (T16.setTop (mkF m 114 #[.val (.int p0), .val (.int p1), .val (.int p2), .val (.int p3), .val (.long z1), .second, .val (.long z13), .second, .val (.int (1 : Int32)), .val (.double z43), .second, .val (.ref b14), .val (.long z80), .second, .val (.int (0 : Int32))] [])) _
          refine XS.aload X16.here hx rfl (hb hby at_114) rfl rfl ?_
          show Steps p.tables e below (T16.setTop (mkF m 116 #[.val (.int p0), .val (.int p1), .val (.int p2), .val (.int p3), .val (.long z1), .second, .val (.long z13), .second, .val (.int (1 : Int32)), .val (.double z43), .second, .val (.ref b14), .val (.long z80), .second, .val (.int (0 : Int32))] [(.ref b14)])) _
          refine XS.dload X16.here hx rfl (hb hby at_116) rfl ?_
          show Steps p.tables e below (T16.setTop (mkF m 118 #[.val (.int p0), .val (.int p1), .val (.int p2), .val (.int p3), .val (.long z1), .second, .val (.long z13), .second, .val (.int (1 : Int32)), .val (.double z43), .second, .val (.ref b14), .val (.long z80), .second, .val (.int (0 : Int32))] [(.double z43), (.ref b14)])) _
          refine st22.trans ?_
          show Steps p.tables e below (T22.setTop (mkF m 121 #[.val (.int p0), .val (.int p1), .val (.int p2), .val (.int p3), .val (.long z1), .second, .val (.long z13), .second, .val (.int (1 : Int32)), .val (.double z43), .second, .val (.ref b14), .val (.long z80), .second, .val (.int (0 : Int32))] [(.int (0 : Int32))])) _
          refine XS.iload X22.here hx rfl (hb hby at_121) rfl ?_
          show Steps p.tables e below (T22.setTop (mkF m 123 #[.val (.int p0), .val (.int p1), .val (.int p2), .val (.int p3), .val (.long z1), .second, .val (.long z13), .second, .val (.int (1 : Int32)), .val (.double z43), .second, .val (.ref b14), .val (.long z80), .second, .val (.int (0 : Int32))] [(.int (0 : Int32)), (.int (0 : Int32))])) _
          refine XS.icmpNo X22.here hx rfl (hb hby at_123) rfl (Jvm.Free.XT.ii_ne_f (by decide)) ?_
          show Steps p.tables e below (T22.setTop (mkF m 126 #[.val (.int p0), .val (.int p1), .val (.int p2), .val (.int p3), .val (.long z1), .second, .val (.long z13), .second, .val (.int (1 : Int32)), .val (.double z43), .second, .val (.ref b14), .val (.long z80), .second, .val (.int (0 : Int32))] [])) _
          refine XS.iconst X22.here hx rfl (hb hby at_126) ?_
          show Steps p.tables e below (T22.setTop (mkF m 127 #[.val (.int p0), .val (.int p1), .val (.int p2), .val (.int p3), .val (.long z1), .second, .val (.long z13), .second, .val (.int (1 : Int32)), .val (.double z43), .second, .val (.ref b14), .val (.long z80), .second, .val (.int (0 : Int32))] [(.int (1 : Int32))])) _
          refine XS.goto X22.here hx rfl (pc0 := 127) (pc' := 131) rfl (hb hby at_127) (by decide) (by decide) ?_
          exact k
        obtain ⟨fs, hr, hrun, hended, hW, hsame⟩ := X22.leave (v := some (.int (1 : Int32))) (fun h => by rw [Bd.returns] at h; cases h)
        refine ⟨_, _, c23 _ ?_, hrun, hended, _, _, rfl, ?_, ⟨_, rfl⟩, hW, hsame.mono (by decide) (by decide)⟩
        · show Steps p.tables e below (T22.setTop (mkF m 131 #[.val (.int p0), .val (.int p1), .val (.int p2), .val (.int p3), .val (.long z1), .second, .val (.long z13), .second, .val (.int (1 : Int32)), .val (.double z43), .second, .val (.ref b14), .val (.long z80), .second, .val (.int (0 : Int32))] [(.int (1 : Int32))])) _
          exact retOut X22 hx Bd.returns rfl (Or.inl ⟨rfl, by simp, _, rfl⟩) (hb hby at_131) hr
        · show Q0 n0 _ T22.heap _
          rw [e22]
          exact ⟨rfl, by first | assumption | exact N0⟩
      · skip
        obtain ⟨c118_z5, hc118_z5⟩ : ∃ z : Int32, cmpValue (FP.dcmp z43 z52) .l = z := ⟨_, rfl⟩
        obtain ⟨c118_z14, hc118_z14⟩ : ∃ z : Int32, cmpValue (FP.dcmp z43 z56) .g = z := ⟨_, rfl⟩
        have c118_br6 : ¬ c118_z5 < 0 := by
          have q := P2 (fun q => hb92 (by rw [← hz91]; exact (lw_gt _ _).mpr q))
          rw [hc118_z5] at q
          rw [Int32.lt_iff_toInt_lt]; exact Int.not_lt.mpr q
        obtain rfl : z102 = z102' := hz102.symm.trans hz102'
        have c118_br15 : ¬ 0 < c118_z14 := by
          have q := P4 (fun q => hb104 (by rw [← hz103]; exact (lw_gt _ _).mpr q))
          rw [hc118_z14] at q
          rw [Int32.lt_iff_toInt_lt]; exact Int.not_lt.mpr q
        obtain ⟨cq24, kq24, q24a, q24b, q24c⟩ := isOf hZ rfl Q16_0
        obtain ⟨_, _, ⟨T24, L24, k24, n24⟩, -, X24, ⟨Lc24, hQ24, ql24, qy24, qz24⟩, st24⟩ := X16.virtualBack hx (y := (⟨"com/example/lumenstand/lumenstand/scenario/Plot", "containsX", "(D)Z"⟩ : MethodName)) (z := (⟨"com/example/lumenstand/lumenstand/scenario/Plot", "containsX", "(D)Z"⟩ : MethodName)) hown (mvT hZ (hw _ (List.mem_of_getElem? (i := 27) rfl))) (mvT hZ (hw _ (List.mem_of_getElem? (i := 28) rfl))) (notFace_of_selects (args := #[]) (mvT hZ (hw _ (List.mem_of_getElem? (i := 30) rfl)))) (mvT hZ (hw _ (List.mem_of_getElem? (i := 30) rfl))) (mvT hZ (hw _ (List.mem_of_getElem? (i := 29) rfl))) (by decide) (backOf (W := 0) (rm4_ff l Z a0 hw [] b14 z43 z52 z56 c118_z5 c118_z14 T16.heap n0 (Nat.le_trans (Nat.le_trans Z0 E14.1) K16q.1) Q16_1 Q16_3 hc118_z5 hc118_z14 c118_br6 c118_br15) hZ (hw _ (List.mem_of_getElem? (i := 31) rfl)) (hw _ (List.mem_of_getElem? (i := 4) rfl)) (by decide) (by decide)) q24a q24c (g := (mkF m 118 #[.val (.int p0), .val (.int p1), .val (.int p2), .val (.int p3), .val (.long z1), .second, .val (.long z13), .second, .val (.int (1 : Int32)), .val (.double z43), .second, .val (.ref b14), .val (.long z80), .second, .val (.int (1 : Int32))] [(.double z43), (.ref b14)])) rfl (by rw [hml]; rfl) (Steps.refl _) (argsL := [(.double z43)]) (rest := []) (lenOf pd_2 rfl) rfl (by show 2 * 0 + _ ≤ _; exact Nat.le_of_eq rfl) (hb hby at_118) (fun _ _ => ⟨rfl, rfl, (by decide : 1 + 0 ≤ _), (by decide : 5 + 0 ≤ _)⟩)
        dsimp only [Pt.U, Pt.locs, Pt.cells, Pt.slots] at X24 ql24 qy24 qz24 st24 hQ24
        subst ql24 qy24 qz24
        obtain ⟨rfl, N24q, e24⟩ := hQ24
        have N24 := Fr.app N16 N24q
        have c25 : ∀ t, Steps p.tables e below (T24.setTop (mkF m 131 #[.val (.int p0), .val (.int p1), .val (.int p2), .val (.int p3), .val (.long z1), .second, .val (.long z13), .second, .val (.int (1 : Int32)), .val (.double z43), .second, .val (.ref b14), .val (.long z80), .second, .val (.int (1 : Int32))] [(.int (1 : Int32))])) t → Steps p.tables e below (s₁.setTop (entryFrame m #[(.int p0), (.int p1), (.int p2), (.int p3)] maxLocals)) t := by
          intro t k
          refine c21 t ?_
          show Steps p.tables e below (T16.setTop (mkF m 104 #[.val (.int p0), .val (.int p1), .val (.int p2), .val (.int p3), .val (.long z1), .second, .val (.long z13), .second, .val (.int (1 : Int32)), .val (.double z43), .second, .val (.ref b14), .val (.long z80), .second, .unset] [(.int z103)])) _
          refine XS.ifNo X16.here hx rfl (hb hby at_104) rfl (Jvm.Free.XT.i0_gt_f hb104) ?_
          show Steps p.tables e below (T16.setTop (mkF m 107 #[.val (.int p0), .val (.int p1), .val (.int p2), .val (.int p3), .val (.long z1), .second, .val (.long z13), .second, .val (.int (1 : Int32)), .val (.double z43), .second, .val (.ref b14), .val (.long z80), .second, .unset] [])) _
          refine XS.iconst X16.here hx rfl (hb hby at_107) ?_
          show Steps p.tables e below (T16.setTop (mkF m 108 #[.val (.int p0), .val (.int p1), .val (.int p2), .val (.int p3), .val (.long z1), .second, .val (.long z13), .second, .val (.int (1 : Int32)), .val (.double z43), .second, .val (.ref b14), .val (.long z80), .second, .unset] [(.int (1 : Int32))])) _
          refine XS.goto X16.here hx rfl (pc0 := 108) (pc' := 112) rfl (hb hby at_108) (by decide) (by decide) ?_
          show Steps p.tables e below (T16.setTop (mkF m 112 #[.val (.int p0), .val (.int p1), .val (.int p2), .val (.int p3), .val (.long z1), .second, .val (.long z13), .second, .val (.int (1 : Int32)), .val (.double z43), .second, .val (.ref b14), .val (.long z80), .second, .unset] [(.int (1 : Int32))])) _
          refine XS.istore X16.here hx rfl (hb hby at_112) rfl (l' := #[.val (.int p0), .val (.int p1), .val (.int p2), .val (.int p3), .val (.long z1), .second, .val (.long z13), .second, .val (.int (1 : Int32)), .val (.double z43), .second, .val (.ref b14), .val (.long z80), .second, .val (.int (1 : Int32))]) rfl ?_
          show Steps p.tables e below (T16.setTop (mkF m 114 #[.val (.int p0), .val (.int p1), .val (.int p2), .val (.int p3), .val (.long z1), .second, .val (.long z13), .second, .val (.int (1 : Int32)), .val (.double z43), .second, .val (.ref b14), .val (.long z80), .second, .val (.int (1 : Int32))] [])) _
          refine XS.aload X16.here hx rfl (hb hby at_114) rfl rfl ?_
          show Steps p.tables e below (T16.setTop (mkF m 116 #[.val (.int p0), .val (.int p1), .val (.int p2), .val (.int p3), .val (.long z1), .second, .val (.long z13), .second, .val (.int (1 : Int32)), .val (.double z43), .second, .val (.ref b14), .val (.long z80), .second, .val (.int (1 : Int32))] [(.ref b14)])) _
          refine XS.dload X16.here hx rfl (hb hby at_116) rfl ?_
          show Steps p.tables e below (T16.setTop (mkF m 118 #[.val (.int p0), .val (.int p1), .val (.int p2), .val (.int p3), .val (.long z1), .second, .val (.long z13), .second, .val (.int (1 : Int32)), .val (.double z43), .second, .val (.ref b14), .val (.long z80), .second, .val (.int (1 : Int32))] [(.double z43), (.ref b14)])) _
          refine st24.trans ?_
          show Steps p.tables e below (T24.setTop (mkF m 121 #[.val (.int p0), .val (.int p1), .val (.int p2), .val (.int p3), .val (.long z1), .second, .val (.long z13), .second, .val (.int (1 : Int32)), .val (.double z43), .second, .val (.ref b14), .val (.long z80), .second, .val (.int (1 : Int32))] [(.int (1 : Int32))])) _
          refine XS.iload X24.here hx rfl (hb hby at_121) rfl ?_
          show Steps p.tables e below (T24.setTop (mkF m 123 #[.val (.int p0), .val (.int p1), .val (.int p2), .val (.int p3), .val (.long z1), .second, .val (.long z13), .second, .val (.int (1 : Int32)), .val (.double z43), .second, .val (.ref b14), .val (.long z80), .second, .val (.int (1 : Int32))] [(.int (1 : Int32)), (.int (1 : Int32))])) _
          refine XS.icmpNo X24.here hx rfl (hb hby at_123) rfl (Jvm.Free.XT.ii_ne_f (by decide)) ?_
          show Steps p.tables e below (T24.setTop (mkF m 126 #[.val (.int p0), .val (.int p1), .val (.int p2), .val (.int p3), .val (.long z1), .second, .val (.long z13), .second, .val (.int (1 : Int32)), .val (.double z43), .second, .val (.ref b14), .val (.long z80), .second, .val (.int (1 : Int32))] [])) _
          refine XS.iconst X24.here hx rfl (hb hby at_126) ?_
          show Steps p.tables e below (T24.setTop (mkF m 127 #[.val (.int p0), .val (.int p1), .val (.int p2), .val (.int p3), .val (.long z1), .second, .val (.long z13), .second, .val (.int (1 : Int32)), .val (.double z43), .second, .val (.ref b14), .val (.long z80), .second, .val (.int (1 : Int32))] [(.int (1 : Int32))])) _
          refine XS.goto X24.here hx rfl (pc0 := 127) (pc' := 131) rfl (hb hby at_127) (by decide) (by decide) ?_
          exact k
        obtain ⟨fs, hr, hrun, hended, hW, hsame⟩ := X24.leave (v := some (.int (1 : Int32))) (fun h => by rw [Bd.returns] at h; cases h)
        refine ⟨_, _, c25 _ ?_, hrun, hended, _, _, rfl, ?_, ⟨_, rfl⟩, hW, hsame.mono (by decide) (by decide)⟩
        · show Steps p.tables e below (T24.setTop (mkF m 131 #[.val (.int p0), .val (.int p1), .val (.int p2), .val (.int p3), .val (.long z1), .second, .val (.long z13), .second, .val (.int (1 : Int32)), .val (.double z43), .second, .val (.ref b14), .val (.long z80), .second, .val (.int (1 : Int32))] [(.int (1 : Int32))])) _
          exact retOut X24 hx Bd.returns rfl (Or.inl ⟨rfl, by simp, _, rfl⟩) (hb hby at_131) hr
        · show Q0 n0 _ T24.heap _
          rw [e24]
          exact ⟨rfl, by first | assumption | exact N0⟩
set_option maxRecDepth 65536 in
set_option maxHeartbeats 40000000 in
theorem comes_1 {Post : Tables → Env → Array Value → State → Outcome → State → Prop} (hpost : ∀ tb e args s v u, (limb_1_1.after args s (.returned v) u = true ∧ limb_1_2.after args s (.returned v) u = true ∧ True) → FrameEnd s (.returned v) u (Jvm.fieldLocs frame_1_writes args s ++ Jvm.arrayLocs frame_1_arrays args s ++ Jvm.staticLocs frame_1_statics s) 16 128 → Post tb e args s (.returned v) u) :
    ArmFor flags0 classFile x code maxLocals ret World_1 tables_1 room_1 Calls_1 rest_1 Pre_1 Post := by
  intro l hfl _ _ p e ha hc hk s m args below hf hA hF happ hP
  obtain ⟨hcalls, hrest, hpre⟩ := hP
  obtain ⟨-, -, -, hnamed, -, -, -, hat⟩ := (Spec.applies_iff hf).mp happ
  obtain ⟨hg, hn⟩ := and_e (Cond.before_iff.mp (show (Jvm.Cond.and given_1 narrow_1).before args s = true from hpre))
  obtain ⟨g1, g2⟩ := and_e hg
  obtain ⟨g3, g4⟩ := and_e g2
  obtain ⟨g5, g6⟩ := and_e g4
  obtain ⟨g7, g8⟩ := and_e g6
  obtain ⟨w0, w1, w2, w3, rfl⟩ : ∃ w0 w1 w2 w3 : Value, args = #[w0, w1, w2, w3] := by
    have hs : args.size = 4 := by simpa [Cond.value, given_1] using g1
    obtain ⟨L⟩ := args
    match L, hs with
    | [w0, w1, w2, w3], _ => exact ⟨w0, w1, w2, w3, rfl⟩
  have hw := fun d (hd : d ∈ tables_1) => atoms_spec (ws := Jvm.Cond.code x code maxLocals ret :: tables_1) hat d (List.mem_cons_of_mem _ hd)
  have hfit : Fit s := fun {y c} hc i hi => by
    obtain ⟨ha, rfl⟩ := Array.getElem?_eq_some_iff.mp hc
    have q := List.all_eq_true.mp ((Array.all_eq_true_iff_forall_mem.mp hF) _ (Array.getElem_mem ha)) i (List.mem_range.mpr hi)
    simpa [Array.getElem?_eq_getElem hi] using q
  obtain ⟨i0, ei0⟩ := is_v g3
  obtain rfl : w0 = (.int i0) := Option.some.inj ei0
  obtain ⟨i1, ei1⟩ := is_v g5
  obtain rfl : w1 = (.int i1) := Option.some.inj ei1
  obtain ⟨i2, ei2⟩ := is_v g7
  obtain rfl : w2 = (.int i2) := Option.some.inj ei2
  obtain ⟨i3, ei3⟩ := is_v g8
  obtain rfl : w3 = (.int i3) := Option.some.inj ei3
  obtain ⟨n, o, h1, h2, h3, _, L, rfl, ⟨rfl, N⟩, hq⟩ := rm0 l s _ hw tables_1 i0 i1 i2 i3  s.heap s.heap.size (Nat.le_refl _)  p e ha hc hk s m _ below hf ((Spec.applies_iff_loose hf).mp happ).1 ⟨rfl, State.Warmed39.refl s, rfl⟩ trivial
  refine ⟨n, _, h1, h2, h3, hpost _ _ _ _ _ _ ⟨Cond.after_iff.mpr rfl, Cond.after_iff.mpr (eq_i res_at (Term.int_eval (1)) rfl), trivial⟩ ⟨hq.1, hq.2.1, (hq.2.2.sift fun y hy => Or.inr (N y hy)).mono (by decide) (by decide)⟩⟩
theorem main_1_1 : Claimed_1_1 := comes_1 fun _ _ _ _ _ _ h hF => ⟨h.1, hF⟩
theorem main_1_2 : Claimed_1_2 := comes_1 fun _ _ _ _ _ _ h hF => ⟨h.2.1, hF⟩
end Jvm.Pilot.@@N@@
namespace Jvm.Pilot.@@N@@
open Jvm Jvm.ClassFile Sem Op Lib Jvm.Free Jvm.Stand Jvm.Pilot.@@N@@.Jvm.D
/-! MADE BY PROGRAM (witnessworld.py) out of the Statement's table words and the real class files: 10 classes; the members and pool entries that the words name. The judged class is class 1, her method 1. -/
namespace start1
open Jvm.ClassFile
def u (s : String) : CpInfo := .utf8 (stringToUtf16 s)
/-- a pool by its gaps: so many unusable entries, then the entry; so many at the end -/
def gap : Nat → List CpInfo → List CpInfo
  | 0, r => r
  | n + 1, r => .unusable :: gap n r
def poolList (es : List (Nat × CpInfo)) (last : Nat) : List CpInfo := es.foldr (fun e r => gap e.1 (e.2 :: r)) (gap last [])
def pool (es : List (Nat × CpInfo)) (last : Nat) : Array CpInfo := ⟨poolList es last⟩
def fileOf (pool : Array CpInfo) (this : Nat) (attrs : Array Attribute := #[]) (ms : Array MethodInfo := #[]) (fl : Nat := 33) (sup : Nat := 0) (ifs : Array Nat := #[]) (fds : Array FieldInfo := #[]) : ClassFile where
  minorVersion := 0
  majorVersion := 65
  constantPool := pool
  accessFlags := fl
  thisClass := this
  superClass := sup
  interfaces := ifs
  fields := fds
  methods := ms
  attributes := attrs
def plain (name : String) (sup : Option ClassId) : Class where
  name := name
  kind := .ordinary
  loader := none
  accessFlags := 33
  super := sup
  interfaces := #[]
  cf := none
  fields := #[]
  methods := #[]
  instanceTypes := #[]
  staticTypes := #[]
  resolved := #[]
  callSites := []
  init := .initialized
  statics := none
  mirror := none

def pool0 : Array CpInfo := pool [(5, u "<init>"), (0, u "()V"), (1, .class_ 10), (1, u "java/lang/Object")] 113

def k0c0 : Code := { maxStack := 0, maxLocals := 1, code := object_method_1_code, exceptionTable := #[], attributes := #[] }
def k0m0 : Method := { name := "<init>", desc := "()V", sig := { parameters := [], returnType := none }, accessFlags := 1, code := some k0c0 }
/-- java/lang/Object -/
def k0 : Class := { plain "java/lang/Object" none with
  accessFlags := 33
  interfaces := #[]
  cf := some (fileOf pool0 8 #[] #[{ accessFlags := 1, nameIndex := 5, descriptorIndex := 6, attributes := #[] }] 33 0 #[] #[])
  fields := #[]
  methods := #[k0m0]
  instanceTypes := #[]
  staticTypes := #[]
  resolved := Array.replicate 124 none
  statics := none }

def pool1 : Array CpInfo := pool [(2, .class_ 4), (1, u "java/lang/Object"), (0, u "<init>"), (0, u "()V"), (0, .integer 2147483647), (0, .double 4602678819172646912), (1, .class_ 11), (0, u "com/example/lumenstand/lumenstand/scenario/Plot"), (0, .methodref 10 13), (0, .nameAndType 5 14), (0, u "(DDDDD)V"), (0, .long 2), (1, .methodref 10 18), (0, .nameAndType 19 20), (0, u "containsX"), (0, u "(D)Z"), (0, .class_ 22), (0, u "com/example/lumenstand/lumenstand/scenario/PlotContainsXPinLaw"), (2, u "law"), (0, u "(IIII)Z")] 3

def k1m0 : Method := { name := "<init>", desc := "()V", sig := { parameters := [], returnType := none }, accessFlags := 2, code := none }
def k1c1 : Code := { maxStack := 12, maxLocals := 15, code := code, exceptionTable := #[], attributes := #[] }
def k1m1 : Method := { name := "law", desc := "(IIII)Z", sig := { parameters := [.int, .int, .int, .int], returnType := some .boolean }, accessFlags := 9, code := some k1c1 }
/-- com/example/lumenstand/lumenstand/scenario/PlotContainsXPinLaw -/
def k1 : Class := { plain "com/example/lumenstand/lumenstand/scenario/PlotContainsXPinLaw" (some 0) with
  accessFlags := 49
  interfaces := #[]
  cf := some (fileOf pool1 21 #[] #[{ accessFlags := 2, nameIndex := 5, descriptorIndex := 6, attributes := #[] }, { accessFlags := 9, nameIndex := 25, descriptorIndex := 26, attributes := #[] }] 49 2 #[] #[])
  fields := #[]
  methods := #[k1m0, k1m1]
  instanceTypes := #[]
  staticTypes := #[]
  resolved := Array.replicate 30 none
  statics := none }

def pool2 : Array CpInfo := pool [(1, .methodref 2 3), (0, .class_ 4), (0, .nameAndType 5 6), (0, u "java/lang/Object"), (0, u "<init>"), (0, u "()V"), (0, .class_ 8), (0, u "java/lang/Record")] 13

def k2c0 : Code := { maxStack := 1, maxLocals := 1, code := jdk_30_method_1_code, exceptionTable := #[], attributes := #[] }
def k2m0 : Method := { name := "<init>", desc := "()V", sig := { parameters := [], returnType := none }, accessFlags := 4, code := some k2c0 }
/-- java/lang/Record -/
def k2 : Class := { plain "java/lang/Record" (some 0) with
  accessFlags := 1057
  interfaces := #[]
  cf := some (fileOf pool2 7 #[] #[{ accessFlags := 4, nameIndex := 5, descriptorIndex := 6, attributes := #[] }] 1057 2 #[] #[])
  fields := #[]
  methods := #[k2m0]
  instanceTypes := #[]
  staticTypes := #[]
  resolved := Array.replicate 22 none
  statics := none }

def pool3 : Array CpInfo := pool [(1, .methodref 2 3), (0, .class_ 4), (0, .nameAndType 5 6), (0, u "java/lang/Record"), (0, u "<init>"), (0, u "()V"), (0, .fieldref 8 9), (0, .class_ 10), (0, .nameAndType 11 12), (0, u "com/example/lumenstand/lumenstand/scenario/Plot"), (0, u "xMin"), (0, u "D"), (0, .fieldref 8 14), (0, .nameAndType 15 12), (0, u "yMin"), (0, .fieldref 8 17), (0, .nameAndType 18 12), (0, u "xMax"), (0, .fieldref 8 20), (0, .nameAndType 21 12), (0, u "yMax"), (0, .fieldref 8 23), (0, .nameAndType 24 12), (0, u "cellSize"), (40, u "MOST_CELLS"), (0, u "I"), (2, u "X_RANGE"), (0, u "Ljava/lang/String;"), (2, u "Y_RANGE"), (2, u "(DDDDD)V"), (4, u "containsX"), (0, u "(D)Z")] 31

def k3c0 : Code := { maxStack := 3, maxLocals := 11, code := prog_35_method_1_code, exceptionTable := #[], attributes := #[] }
def k3m0 : Method := { name := "<init>", desc := "(DDDDD)V", sig := { parameters := [.double, .double, .double, .double, .double], returnType := none }, accessFlags := 1, code := some k3c0 }
def k3c1 : Code := { maxStack := 4, maxLocals := 3, code := prog_35_method_9_code, exceptionTable := #[], attributes := #[] }
def k3m1 : Method := { name := "containsX", desc := "(D)Z", sig := { parameters := [.double], returnType := some .boolean }, accessFlags := 1, code := some k3c1 }
/-- com/example/lumenstand/lumenstand/scenario/Plot -/
def k3 : Class := { plain "com/example/lumenstand/lumenstand/scenario/Plot" (some 2) with
  accessFlags := 49
  interfaces := #[]
  cf := some (fileOf pool3 8 #[] #[{ accessFlags := 1, nameIndex := 5, descriptorIndex := 76, attributes := #[] }, { accessFlags := 1, nameIndex := 81, descriptorIndex := 82, attributes := #[] }] 49 2 #[] #[{ accessFlags := 18, nameIndex := 11, descriptorIndex := 12, attributes := #[] }, { accessFlags := 18, nameIndex := 15, descriptorIndex := 12, attributes := #[] }, { accessFlags := 18, nameIndex := 18, descriptorIndex := 12, attributes := #[] }, { accessFlags := 18, nameIndex := 21, descriptorIndex := 12, attributes := #[] }, { accessFlags := 18, nameIndex := 24, descriptorIndex := 12, attributes := #[] }, { accessFlags := 25, nameIndex := 65, descriptorIndex := 66, attributes := #[] }, { accessFlags := 25, nameIndex := 69, descriptorIndex := 70, attributes := #[] }, { accessFlags := 25, nameIndex := 73, descriptorIndex := 70, attributes := #[] }])
  fields := #[{ name := "xMin", type := .double, accessFlags := 18, slot := 0, constantValue := 0 }, { name := "yMin", type := .double, accessFlags := 18, slot := 1, constantValue := 0 }, { name := "xMax", type := .double, accessFlags := 18, slot := 2, constantValue := 0 }, { name := "yMax", type := .double, accessFlags := 18, slot := 3, constantValue := 0 }, { name := "cellSize", type := .double, accessFlags := 18, slot := 4, constantValue := 0 }, { name := "MOST_CELLS", type := .int, accessFlags := 25, slot := 0, constantValue := 0 }, { name := "X_RANGE", type := (.object "java/lang/String"), accessFlags := 25, slot := 1, constantValue := 0 }, { name := "Y_RANGE", type := (.object "java/lang/String"), accessFlags := 25, slot := 2, constantValue := 0 }]
  methods := #[k3m0, k3m1]
  instanceTypes := #[.double, .double, .double, .double, .double]
  staticTypes := #[.int, (.object "java/lang/String"), (.object "java/lang/String")]
  resolved := Array.replicate 114 none
  statics := none }

def pool4 : Array CpInfo := pool [(1, u "java/lang/Cloneable"), (0, .class_ 1), (0, u "java/lang/Object"), (0, .class_ 3)] 3

/-- java/lang/Cloneable -/
def k4 : Class := { plain "java/lang/Cloneable" (some 0) with
  accessFlags := 1537
  interfaces := #[]
  cf := some (fileOf pool4 2 #[] #[] 1537 4 #[] #[])
  fields := #[]
  methods := #[]
  instanceTypes := #[]
  staticTypes := #[]
  resolved := Array.replicate 8 none
  statics := none }

def pool5 : Array CpInfo := pool [(1, u "java/io/Serializable"), (0, .class_ 1), (0, u "java/lang/Object"), (0, .class_ 3)] 3

/-- java/io/Serializable -/
def k5 : Class := { plain "java/io/Serializable" (some 0) with
  accessFlags := 1537
  interfaces := #[]
  cf := some (fileOf pool5 2 #[] #[] 1537 4 #[] #[])
  fields := #[]
  methods := #[]
  instanceTypes := #[]
  staticTypes := #[]
  resolved := Array.replicate 8 none
  statics := none }

/-- the primitive byte -/
def k6 : Class := { plain "byte" none with kind := .primitive 'B', accessFlags := 0x411 }
/-- [B -/
def k7 : Class := { plain "[B" (some 0) with kind := .array 6 .byte, interfaces := #[4, 5], accessFlags := 1041 }

/-- the primitive int -/
def k8 : Class := { plain "int" none with kind := .primitive 'I', accessFlags := 0x411 }
/-- [I -/
def k9 : Class := { plain "[I" (some 0) with kind := .array 8 .int, interfaces := #[4, 5], accessFlags := 1041 }

def heap : Heap := #[]
def classes : Array Class := #[k0, k1, k2, k3, k4, k5, k6, k7, k8, k9]
def interned : List (Array UInt16 × Addr) := []
def slotsUsed : Nat := 0
def theMethod : MethodId := ⟨1, 1⟩
def args0 : Array Value := #[.int 5, .int 5, .int 5, .int 5]
def aboutOver (below : List Frame) : State where
  vm := { classes := classes, interned := interned.toArray }
  heap := heap
  slotsUsed := slotsUsed
  threads := #[{ frames := .invoking theMethod args0 :: below }]
def below0 : List Frame := [.native { method := ⟨0, 0⟩, args := #[] }]
def about1 : State := aboutOver below0
def p0 : Program := .bare "" "" ""
def e0 : Env := launch0.env 0 0 0
theorem w_frames : about1.frames = Frame.invoking theMethod args0 :: below0 := rfl
set_option maxRecDepth 65536 in
theorem w_args : argsFit about1.vm theMethod args0 = true := by decide +kernel
set_option maxRecDepth 65536 in
theorem w_heap : heapFits about1 = true := by decide +kernel
set_option maxRecDepth 65536 in
theorem w_runnable : about1.curStatus? = some .runnable := by decide +kernel
set_option maxRecDepth 65536 in
theorem w_alone : about1.alone = true := by decide +kernel
set_option maxRecDepth 65536 in
theorem w_named : about1.methodNamed? x = some theMethod := by decide +kernel
set_option maxRecDepth 65536 in
theorem w_hears : about1.hears theMethod below0 = true := by decide +kernel
set_option maxRecDepth 65536 in
theorem w_ripe : about1.ripe theMethod args0 below0 = true := by decide +kernel
theorem w_running : about1.status = .running := rfl
set_option maxRecDepth 65536 in
theorem w_room : about1.hasRoom e0.platform room_1 = true :=
  launch0.hasRoom_least _ room_1 (by decide +kernel) (by decide +kernel) (by decide +kernel) (by decide +kernel) (by decide +kernel) (by decide +kernel)
theorem allAtoms_all (ts : List Jvm.Cond) (a : Array Jvm.Value) (st : Jvm.State) : (allAtoms ts).before a st = ts.all (fun c => c.before a st) := by
  induction ts with
  | nil => rfl
  | cons c t ih =>
    show (Jvm.Cond.and c (allAtoms t)).before a st = _
    rw [Jvm.Cond.before_and, ih, List.all_cons]
def words1 : List Jvm.Cond := Jvm.Cond.code x code maxLocals ret :: tables_1
/-- a 'code' word, met by the world's own term for the bytes: nothing is compared byte by byte -/
theorem code_word {y : MethodName} {bytes : ByteArray} {mx : Nat} {rt : Option FieldType} {a : Array Value} {s : State} {m : MethodId} {meth : Method} {c : Code} (h1 : s.methodNamed? y = some m) (h2 : s.vm.method? m = some meth) (h3 : meth.code = some c) (h4 : c.code = bytes)
    (h5 : (c.maxLocals == mx && c.exceptionTable.isEmpty && decide (c.maxStack ≤ mostOperands) && decide (meth.sig.returnType = rt) && !meth.locks && decide (parseMethodDescriptor y.desc = some meth.sig)) = true) : (Jvm.Cond.code y bytes mx rt).before a s = true := by
  simp only [Bool.and_eq_true, beq_iff_eq, Bool.not_eq_true', decide_eq_true_eq] at h5
  obtain ⟨⟨⟨⟨⟨g1, g2⟩, g3⟩, g4⟩, g5⟩, g6⟩ := h5
  simp [Cond.before, Cond.holds, Cond.value, h1, h2, h3, h4, g1, g2, g3, g4, g5, g6]
def isCode : Jvm.Cond → Bool
  | .code _ _ _ _ => true
  | _ => false
theorem all_split {L : List Jvm.Cond} {P : Jvm.Cond → Bool} (h1 : L.all (fun c => isCode c || P c) = true) (h2 : ∀ c ∈ L.filter isCode, P c = true) : L.all P = true := by
  refine List.all_eq_true.mpr fun c hc => ?_
  have h := List.all_eq_true.mp h1 c hc
  rcases Bool.eq_false_or_eq_true (isCode c) with hi | hi
  · exact h2 c (List.mem_filter.mpr ⟨hc, hi⟩)
  · simpa [hi] using h
set_option maxRecDepth 65536 in
theorem w_c0 : (Jvm.Cond.code x code maxLocals ret).before args0 about1 = true := code_word (m := ⟨1, 1⟩) (meth := k1m1) (c := k1c1) (by decide +kernel) rfl rfl rfl (by decide +kernel)
set_option maxRecDepth 65536 in
theorem w_c1 : (Jvm.Cond.code ({ cls := "com/example/lumenstand/lumenstand/scenario/Plot", name := "<init>", desc := "(DDDDD)V" } : Jvm.MethodName) prog_35_method_1_code (11 : Nat) (Option.none : Option Jvm.ClassFile.FieldType)).before args0 about1 = true := code_word (m := ⟨3, 0⟩) (meth := k3m0) (c := k3c0) (by decide +kernel) rfl rfl rfl (by decide +kernel)
set_option maxRecDepth 65536 in
theorem w_c2 : (Jvm.Cond.code ({ cls := "java/lang/Record", name := "<init>", desc := "()V" } : Jvm.MethodName) jdk_30_method_1_code (1 : Nat) (Option.none : Option Jvm.ClassFile.FieldType)).before args0 about1 = true := code_word (m := ⟨2, 0⟩) (meth := k2m0) (c := k2c0) (by decide +kernel) rfl rfl rfl (by decide +kernel)
set_option maxRecDepth 65536 in
theorem w_c3 : (Jvm.Cond.code ({ cls := "java/lang/Object", name := "<init>", desc := "()V" } : Jvm.MethodName) object_method_1_code (1 : Nat) (Option.none : Option Jvm.ClassFile.FieldType)).before args0 about1 = true := code_word (m := ⟨0, 0⟩) (meth := k0m0) (c := k0c0) (by decide +kernel) rfl rfl rfl (by decide +kernel)
set_option maxRecDepth 65536 in
theorem w_c4 : (Jvm.Cond.code ({ cls := "com/example/lumenstand/lumenstand/scenario/Plot", name := "containsX", desc := "(D)Z" } : Jvm.MethodName) prog_35_method_9_code (3 : Nat) (Option.some Jvm.ClassFile.FieldType.boolean)).before args0 about1 = true := code_word (m := ⟨3, 1⟩) (meth := k3m1) (c := k3c1) (by decide +kernel) rfl rfl rfl (by decide +kernel)
def codes1 : List Jvm.Cond := [Jvm.Cond.code x code maxLocals ret, Jvm.Cond.code ({ cls := "com/example/lumenstand/lumenstand/scenario/Plot", name := "<init>", desc := "(DDDDD)V" } : Jvm.MethodName) prog_35_method_1_code (11 : Nat) (Option.none : Option Jvm.ClassFile.FieldType), Jvm.Cond.code ({ cls := "java/lang/Record", name := "<init>", desc := "()V" } : Jvm.MethodName) jdk_30_method_1_code (1 : Nat) (Option.none : Option Jvm.ClassFile.FieldType), Jvm.Cond.code ({ cls := "java/lang/Object", name := "<init>", desc := "()V" } : Jvm.MethodName) object_method_1_code (1 : Nat) (Option.none : Option Jvm.ClassFile.FieldType), Jvm.Cond.code ({ cls := "com/example/lumenstand/lumenstand/scenario/Plot", name := "containsX", desc := "(D)Z" } : Jvm.MethodName) prog_35_method_9_code (3 : Nat) (Option.some Jvm.ClassFile.FieldType.boolean)]
set_option maxRecDepth 65536 in
theorem codes_eq : words1.filter isCode = codes1 := rfl
theorem w_codes : ∀ c ∈ words1.filter isCode, c.before args0 about1 = true := by
  rw [codes_eq]
  intro c hc
  simp only [codes1, List.mem_cons, List.not_mem_nil, or_false] at hc
  rcases hc with rfl | rfl | rfl | rfl | rfl
  · exact w_c0
  · exact w_c1
  · exact w_c2
  · exact w_c3
  · exact w_c4
set_option maxRecDepth 65536 in
theorem w_t1 : (words1.take 24).all (fun c => isCode c || c.before args0 about1) = true := by decide +kernel
set_option maxRecDepth 65536 in
theorem w_t2 : (words1.drop 24).all (fun c => isCode c || c.before args0 about1) = true := by decide +kernel
theorem w_tables : (allAtoms (Jvm.Cond.code x code maxLocals ret :: tables_1)).before args0 about1 = true := by
  rw [allAtoms_all]
  show words1.all (fun c => c.before args0 about1) = true
  refine all_split ?_ w_codes
  rw [← List.take_append_drop 24 words1, List.all_append, w_t1, w_t2]
  rfl
set_option maxRecDepth 65536 in
theorem w_case : (Jvm.Cond.and given_1 narrow_1).before args0 about1 = true := by decide +kernel
theorem w_applies : (headSpec (Jvm.Cond.code x code maxLocals ret :: tables_1) room_1).applies x e0.platform about1 = true :=
  (Spec.applies_iff w_frames).mpr ⟨w_running, w_runnable, w_alone, w_named, w_hears, w_ripe, w_room, w_tables⟩
theorem atStart : AtStart classFile x code maxLocals ret World_1 tables_1 room_1 Calls_1 rest_1 Pre_1 launch0 p0 e0 about1 theMethod args0 below0 :=
  ⟨lists_1, trivial, launch0.admits_env _ _ _, launch0.least_env, fairChoices_fair.cas, fairChoices_fair.clock, w_frames, w_args, w_heap, w_applies, trivial, trivial, w_case⟩
end start1
theorem witness_1 : WitnessClaimed_1 := ⟨start1.p0, start1.e0, start1.about1, start1.theMethod, start1.args0, start1.below0, start1.atStart⟩
end Jvm.Pilot.@@N@@
