import JvmDerived
import JvmDerived.Pilot.@@N@@Statement
import JvmDerived.Pilot.@@N@@Code
set_option linter.unusedVariables false
set_option linter.unusedSimpArgs false
set_option maxHeartbeats 4000000
namespace Jvm.OwnK
open Sem ClassFile Op Lib Jvm.Free Jvm.Stand Jvm.LawKit Jvm.RoadKit
theorem iadd {tb : Tables} [Ours tb] {e : Env} {below : List Frame} {T target : State} {m : MethodId} {c : Code} {g : JFrame} (h : At T m c below) (hx : tb.exec = Jvm.exec) (hg : g.method = m) {x v : Int32} {y : Int32} {rest : List Value} (hd : decode c.code g.pc = .ok (.iadd, 1)) (hs : g.stack = .int y :: .int x :: rest) (hv : x + y = v)
    (hr : Steps tb e below (T.setTop { g with pc := g.pc + 1, stack := .int v :: rest }) target) : Steps tb e below (T.setTop g) target := by
  subst hv
  exact XS.iadd h hx hg hd hs hr
theorem isub {tb : Tables} [Ours tb] {e : Env} {below : List Frame} {T target : State} {m : MethodId} {c : Code} {g : JFrame} (h : At T m c below) (hx : tb.exec = Jvm.exec) (hg : g.method = m) {x v : Int32} {y : Int32} {rest : List Value} (hd : decode c.code g.pc = .ok (.isub, 1)) (hs : g.stack = .int y :: .int x :: rest) (hv : x - y = v)
    (hr : Steps tb e below (T.setTop { g with pc := g.pc + 1, stack := .int v :: rest }) target) : Steps tb e below (T.setTop g) target := by
  subst hv
  exact XS.isub h hx hg hd hs hr
theorem imul {tb : Tables} [Ours tb] {e : Env} {below : List Frame} {T target : State} {m : MethodId} {c : Code} {g : JFrame} (h : At T m c below) (hx : tb.exec = Jvm.exec) (hg : g.method = m) {x v : Int32} {y : Int32} {rest : List Value} (hd : decode c.code g.pc = .ok (.imul, 1)) (hs : g.stack = .int y :: .int x :: rest) (hv : x * y = v)
    (hr : Steps tb e below (T.setTop { g with pc := g.pc + 1, stack := .int v :: rest }) target) : Steps tb e below (T.setTop g) target := by
  subst hv
  exact XS.imul h hx hg hd hs hr
theorem iand {tb : Tables} [Ours tb] {e : Env} {below : List Frame} {T target : State} {m : MethodId} {c : Code} {g : JFrame} (h : At T m c below) (hx : tb.exec = Jvm.exec) (hg : g.method = m) {x v : Int32} {y : Int32} {rest : List Value} (hd : decode c.code g.pc = .ok (.iand, 1)) (hs : g.stack = .int y :: .int x :: rest) (hv : x &&& y = v)
    (hr : Steps tb e below (T.setTop { g with pc := g.pc + 1, stack := .int v :: rest }) target) : Steps tb e below (T.setTop g) target := by
  subst hv
  exact XS.iand h hx hg hd hs hr
theorem ior {tb : Tables} [Ours tb] {e : Env} {below : List Frame} {T target : State} {m : MethodId} {c : Code} {g : JFrame} (h : At T m c below) (hx : tb.exec = Jvm.exec) (hg : g.method = m) {x v : Int32} {y : Int32} {rest : List Value} (hd : decode c.code g.pc = .ok (.ior, 1)) (hs : g.stack = .int y :: .int x :: rest) (hv : x ||| y = v)
    (hr : Steps tb e below (T.setTop { g with pc := g.pc + 1, stack := .int v :: rest }) target) : Steps tb e below (T.setTop g) target := by
  subst hv
  exact XS.ior h hx hg hd hs hr
theorem ixor {tb : Tables} [Ours tb] {e : Env} {below : List Frame} {T target : State} {m : MethodId} {c : Code} {g : JFrame} (h : At T m c below) (hx : tb.exec = Jvm.exec) (hg : g.method = m) {x v : Int32} {y : Int32} {rest : List Value} (hd : decode c.code g.pc = .ok (.ixor, 1)) (hs : g.stack = .int y :: .int x :: rest) (hv : x ^^^ y = v)
    (hr : Steps tb e below (T.setTop { g with pc := g.pc + 1, stack := .int v :: rest }) target) : Steps tb e below (T.setTop g) target := by
  subst hv
  exact XS.ixor h hx hg hd hs hr
theorem ishl {tb : Tables} [Ours tb] {e : Env} {below : List Frame} {T target : State} {m : MethodId} {c : Code} {g : JFrame} (h : At T m c below) (hx : tb.exec = Jvm.exec) (hg : g.method = m) {x v : Int32} {y : Int32} {rest : List Value} (hd : decode c.code g.pc = .ok (.ishl, 1)) (hs : g.stack = .int y :: .int x :: rest) (hv : x <<< (y &&& 31) = v)
    (hr : Steps tb e below (T.setTop { g with pc := g.pc + 1, stack := .int v :: rest }) target) : Steps tb e below (T.setTop g) target := by
  subst hv
  exact XS.ishl h hx hg hd hs hr
theorem ishr {tb : Tables} [Ours tb] {e : Env} {below : List Frame} {T target : State} {m : MethodId} {c : Code} {g : JFrame} (h : At T m c below) (hx : tb.exec = Jvm.exec) (hg : g.method = m) {x v : Int32} {y : Int32} {rest : List Value} (hd : decode c.code g.pc = .ok (.ishr, 1)) (hs : g.stack = .int y :: .int x :: rest) (hv : x >>> (y &&& 31) = v)
    (hr : Steps tb e below (T.setTop { g with pc := g.pc + 1, stack := .int v :: rest }) target) : Steps tb e below (T.setTop g) target := by
  subst hv
  exact XS.ishr h hx hg hd hs hr
theorem iushr {tb : Tables} [Ours tb] {e : Env} {below : List Frame} {T target : State} {m : MethodId} {c : Code} {g : JFrame} (h : At T m c below) (hx : tb.exec = Jvm.exec) (hg : g.method = m) {x v : Int32} {y : Int32} {rest : List Value} (hd : decode c.code g.pc = .ok (.iushr, 1)) (hs : g.stack = .int y :: .int x :: rest) (hv : (x.toUInt32 >>> (y &&& 31).toUInt32).toInt32 = v)
    (hr : Steps tb e below (T.setTop { g with pc := g.pc + 1, stack := .int v :: rest }) target) : Steps tb e below (T.setTop g) target := by
  subst hv
  exact XS.iushr h hx hg hd hs hr
theorem idiv {tb : Tables} [Ours tb] {e : Env} {below : List Frame} {T target : State} {m : MethodId} {c : Code} {g : JFrame} (h : At T m c below) (hx : tb.exec = Jvm.exec) (hg : g.method = m) {x v : Int32} {y : Int32} {rest : List Value} (hd : decode c.code g.pc = .ok (.idiv, 1)) (hs : g.stack = .int y :: .int x :: rest) (hy : ¬ y = 0) (hv : x / y = v)
    (hr : Steps tb e below (T.setTop { g with pc := g.pc + 1, stack := .int v :: rest }) target) : Steps tb e below (T.setTop g) target := by
  subst hv
  exact XS.idiv h hx hg hd hs hy hr
theorem irem {tb : Tables} [Ours tb] {e : Env} {below : List Frame} {T target : State} {m : MethodId} {c : Code} {g : JFrame} (h : At T m c below) (hx : tb.exec = Jvm.exec) (hg : g.method = m) {x v : Int32} {y : Int32} {rest : List Value} (hd : decode c.code g.pc = .ok (.irem, 1)) (hs : g.stack = .int y :: .int x :: rest) (hy : ¬ y = 0) (hv : x % y = v)
    (hr : Steps tb e below (T.setTop { g with pc := g.pc + 1, stack := .int v :: rest }) target) : Steps tb e below (T.setTop g) target := by
  subst hv
  have q : x - x / y * y = x % y := irem_eq_mod x y
  exact XS.irem h hx hg hd hs hy (by rw [q]; exact hr)
theorem ladd {tb : Tables} [Ours tb] {e : Env} {below : List Frame} {T target : State} {m : MethodId} {c : Code} {g : JFrame} (h : At T m c below) (hx : tb.exec = Jvm.exec) (hg : g.method = m) {x v : Int64} {y : Int64} {rest : List Value} (hd : decode c.code g.pc = .ok (.ladd, 1)) (hs : g.stack = .long y :: .long x :: rest) (hv : x + y = v)
    (hr : Steps tb e below (T.setTop { g with pc := g.pc + 1, stack := .long v :: rest }) target) : Steps tb e below (T.setTop g) target := by
  subst hv
  exact XS.ladd h hx hg hd hs hr
theorem lsub {tb : Tables} [Ours tb] {e : Env} {below : List Frame} {T target : State} {m : MethodId} {c : Code} {g : JFrame} (h : At T m c below) (hx : tb.exec = Jvm.exec) (hg : g.method = m) {x v : Int64} {y : Int64} {rest : List Value} (hd : decode c.code g.pc = .ok (.lsub, 1)) (hs : g.stack = .long y :: .long x :: rest) (hv : x - y = v)
    (hr : Steps tb e below (T.setTop { g with pc := g.pc + 1, stack := .long v :: rest }) target) : Steps tb e below (T.setTop g) target := by
  subst hv
  exact XS.lsub h hx hg hd hs hr
theorem lmul {tb : Tables} [Ours tb] {e : Env} {below : List Frame} {T target : State} {m : MethodId} {c : Code} {g : JFrame} (h : At T m c below) (hx : tb.exec = Jvm.exec) (hg : g.method = m) {x v : Int64} {y : Int64} {rest : List Value} (hd : decode c.code g.pc = .ok (.lmul, 1)) (hs : g.stack = .long y :: .long x :: rest) (hv : x * y = v)
    (hr : Steps tb e below (T.setTop { g with pc := g.pc + 1, stack := .long v :: rest }) target) : Steps tb e below (T.setTop g) target := by
  subst hv
  exact XS.lmul h hx hg hd hs hr
theorem land {tb : Tables} [Ours tb] {e : Env} {below : List Frame} {T target : State} {m : MethodId} {c : Code} {g : JFrame} (h : At T m c below) (hx : tb.exec = Jvm.exec) (hg : g.method = m) {x v : Int64} {y : Int64} {rest : List Value} (hd : decode c.code g.pc = .ok (.land, 1)) (hs : g.stack = .long y :: .long x :: rest) (hv : x &&& y = v)
    (hr : Steps tb e below (T.setTop { g with pc := g.pc + 1, stack := .long v :: rest }) target) : Steps tb e below (T.setTop g) target := by
  subst hv
  exact XS.land h hx hg hd hs hr
theorem lor {tb : Tables} [Ours tb] {e : Env} {below : List Frame} {T target : State} {m : MethodId} {c : Code} {g : JFrame} (h : At T m c below) (hx : tb.exec = Jvm.exec) (hg : g.method = m) {x v : Int64} {y : Int64} {rest : List Value} (hd : decode c.code g.pc = .ok (.lor, 1)) (hs : g.stack = .long y :: .long x :: rest) (hv : x ||| y = v)
    (hr : Steps tb e below (T.setTop { g with pc := g.pc + 1, stack := .long v :: rest }) target) : Steps tb e below (T.setTop g) target := by
  subst hv
  exact XS.lor h hx hg hd hs hr
theorem lxor {tb : Tables} [Ours tb] {e : Env} {below : List Frame} {T target : State} {m : MethodId} {c : Code} {g : JFrame} (h : At T m c below) (hx : tb.exec = Jvm.exec) (hg : g.method = m) {x v : Int64} {y : Int64} {rest : List Value} (hd : decode c.code g.pc = .ok (.lxor, 1)) (hs : g.stack = .long y :: .long x :: rest) (hv : x ^^^ y = v)
    (hr : Steps tb e below (T.setTop { g with pc := g.pc + 1, stack := .long v :: rest }) target) : Steps tb e below (T.setTop g) target := by
  subst hv
  exact XS.lxor h hx hg hd hs hr
theorem lshl {tb : Tables} [Ours tb] {e : Env} {below : List Frame} {T target : State} {m : MethodId} {c : Code} {g : JFrame} (h : At T m c below) (hx : tb.exec = Jvm.exec) (hg : g.method = m) {x v : Int64} {y : Int32} {rest : List Value} (hd : decode c.code g.pc = .ok (.lshl, 1)) (hs : g.stack = .int y :: .long x :: rest) (hv : x <<< (y &&& 0x3f).toInt64 = v)
    (hr : Steps tb e below (T.setTop { g with pc := g.pc + 1, stack := .long v :: rest }) target) : Steps tb e below (T.setTop g) target := by
  subst hv
  exact XS.lshl h hx hg hd hs hr
theorem lshr {tb : Tables} [Ours tb] {e : Env} {below : List Frame} {T target : State} {m : MethodId} {c : Code} {g : JFrame} (h : At T m c below) (hx : tb.exec = Jvm.exec) (hg : g.method = m) {x v : Int64} {y : Int32} {rest : List Value} (hd : decode c.code g.pc = .ok (.lshr, 1)) (hs : g.stack = .int y :: .long x :: rest) (hv : x >>> (y &&& 0x3f).toInt64 = v)
    (hr : Steps tb e below (T.setTop { g with pc := g.pc + 1, stack := .long v :: rest }) target) : Steps tb e below (T.setTop g) target := by
  subst hv
  exact XS.lshr h hx hg hd hs hr
theorem lushr {tb : Tables} [Ours tb] {e : Env} {below : List Frame} {T target : State} {m : MethodId} {c : Code} {g : JFrame} (h : At T m c below) (hx : tb.exec = Jvm.exec) (hg : g.method = m) {x v : Int64} {y : Int32} {rest : List Value} (hd : decode c.code g.pc = .ok (.lushr, 1)) (hs : g.stack = .int y :: .long x :: rest) (hv : (x.toUInt64 >>> (y &&& 0x3f).toInt64.toUInt64).toInt64 = v)
    (hr : Steps tb e below (T.setTop { g with pc := g.pc + 1, stack := .long v :: rest }) target) : Steps tb e below (T.setTop g) target := by
  subst hv
  exact XS.lushr h hx hg hd hs hr
theorem ldiv {tb : Tables} [Ours tb] {e : Env} {below : List Frame} {T target : State} {m : MethodId} {c : Code} {g : JFrame} (h : At T m c below) (hx : tb.exec = Jvm.exec) (hg : g.method = m) {x v : Int64} {y : Int64} {rest : List Value} (hd : decode c.code g.pc = .ok (.ldiv, 1)) (hs : g.stack = .long y :: .long x :: rest) (hy : ¬ y = 0) (hv : x / y = v)
    (hr : Steps tb e below (T.setTop { g with pc := g.pc + 1, stack := .long v :: rest }) target) : Steps tb e below (T.setTop g) target := by
  subst hv
  exact XS.ldiv h hx hg hd hs hy hr
theorem lrem {tb : Tables} [Ours tb] {e : Env} {below : List Frame} {T target : State} {m : MethodId} {c : Code} {g : JFrame} (h : At T m c below) (hx : tb.exec = Jvm.exec) (hg : g.method = m) {x v : Int64} {y : Int64} {rest : List Value} (hd : decode c.code g.pc = .ok (.lrem, 1)) (hs : g.stack = .long y :: .long x :: rest) (hy : ¬ y = 0) (hv : x % y = v)
    (hr : Steps tb e below (T.setTop { g with pc := g.pc + 1, stack := .long v :: rest }) target) : Steps tb e below (T.setTop g) target := by
  subst hv
  have q : x - x / y * y = x % y := lrem_mod x y
  exact XS.lrem h hx hg hd hs hy (by rw [q]; exact hr)
theorem ineg {tb : Tables} [Ours tb] {e : Env} {below : List Frame} {T target : State} {m : MethodId} {c : Code} {g : JFrame} (h : At T m c below) (hx : tb.exec = Jvm.exec) (hg : g.method = m) {x : Int32} {v : Int32} {rest : List Value} (hd : decode c.code g.pc = .ok (.ineg, 1)) (hs : g.stack = .int x :: rest) (hv : -x = v)
    (hr : Steps tb e below (T.setTop { g with pc := g.pc + 1, stack := .int v :: rest }) target) : Steps tb e below (T.setTop g) target := by
  subst hv
  exact XS.ineg h hx hg hd hs hr
theorem lneg {tb : Tables} [Ours tb] {e : Env} {below : List Frame} {T target : State} {m : MethodId} {c : Code} {g : JFrame} (h : At T m c below) (hx : tb.exec = Jvm.exec) (hg : g.method = m) {x : Int64} {v : Int64} {rest : List Value} (hd : decode c.code g.pc = .ok (.lneg, 1)) (hs : g.stack = .long x :: rest) (hv : -x = v)
    (hr : Steps tb e below (T.setTop { g with pc := g.pc + 1, stack := .long v :: rest }) target) : Steps tb e below (T.setTop g) target := by
  subst hv
  exact XS.lneg h hx hg hd hs hr
theorem i2l {tb : Tables} [Ours tb] {e : Env} {below : List Frame} {T target : State} {m : MethodId} {c : Code} {g : JFrame} (h : At T m c below) (hx : tb.exec = Jvm.exec) (hg : g.method = m) {x : Int32} {v : Int64} {rest : List Value} (hd : decode c.code g.pc = .ok (.i2l, 1)) (hs : g.stack = .int x :: rest) (hv : x.toInt64 = v)
    (hr : Steps tb e below (T.setTop { g with pc := g.pc + 1, stack := .long v :: rest }) target) : Steps tb e below (T.setTop g) target := by
  subst hv
  exact XS.i2l h hx hg hd hs hr
theorem l2i {tb : Tables} [Ours tb] {e : Env} {below : List Frame} {T target : State} {m : MethodId} {c : Code} {g : JFrame} (h : At T m c below) (hx : tb.exec = Jvm.exec) (hg : g.method = m) {x : Int64} {v : Int32} {rest : List Value} (hd : decode c.code g.pc = .ok (.l2i, 1)) (hs : g.stack = .long x :: rest) (hv : x.toInt32 = v)
    (hr : Steps tb e below (T.setTop { g with pc := g.pc + 1, stack := .int v :: rest }) target) : Steps tb e below (T.setTop g) target := by
  subst hv
  exact XS.l2i h hx hg hd hs hr
theorem i2b {tb : Tables} [Ours tb] {e : Env} {below : List Frame} {T target : State} {m : MethodId} {c : Code} {g : JFrame} (h : At T m c below) (hx : tb.exec = Jvm.exec) (hg : g.method = m) {x : Int32} {v : Int32} {rest : List Value} (hd : decode c.code g.pc = .ok (.i2b, 1)) (hs : g.stack = .int x :: rest) (hv : x.toInt8.toInt32 = v)
    (hr : Steps tb e below (T.setTop { g with pc := g.pc + 1, stack := .int v :: rest }) target) : Steps tb e below (T.setTop g) target := by
  subst hv
  exact XS.i2b h hx hg hd hs hr
theorem i2s {tb : Tables} [Ours tb] {e : Env} {below : List Frame} {T target : State} {m : MethodId} {c : Code} {g : JFrame} (h : At T m c below) (hx : tb.exec = Jvm.exec) (hg : g.method = m) {x : Int32} {v : Int32} {rest : List Value} (hd : decode c.code g.pc = .ok (.i2s, 1)) (hs : g.stack = .int x :: rest) (hv : x.toInt16.toInt32 = v)
    (hr : Steps tb e below (T.setTop { g with pc := g.pc + 1, stack := .int v :: rest }) target) : Steps tb e below (T.setTop g) target := by
  subst hv
  exact XS.i2s h hx hg hd hs hr
theorem dadd {tb : Tables} [Ours tb] {e : Env} {below : List Frame} {T target : State} {m : MethodId} {c : Code} {g : JFrame} (h : At T m c below) (hx : tb.exec = Jvm.exec) (hg : g.method = m) {x y v : UInt64} {rest : List Value} (hd : decode c.code g.pc = .ok (.dadd, 1)) (hs : g.stack = .double y :: .double x :: rest) (hv : FP.dadd x y = v) (hn : Jvm.Free.Fl.NoNaN64 v)
    (hr : Steps tb e below (T.setTop { g with pc := g.pc + 1, stack := .double v :: rest }) target) : Steps tb e below (T.setTop g) target := by
  subst hv
  exact XS.daddS h hx hg hd hs hn rfl hr
theorem dsub {tb : Tables} [Ours tb] {e : Env} {below : List Frame} {T target : State} {m : MethodId} {c : Code} {g : JFrame} (h : At T m c below) (hx : tb.exec = Jvm.exec) (hg : g.method = m) {x y v : UInt64} {rest : List Value} (hd : decode c.code g.pc = .ok (.dsub, 1)) (hs : g.stack = .double y :: .double x :: rest) (hv : FP.dsub x y = v) (hn : Jvm.Free.Fl.NoNaN64 v)
    (hr : Steps tb e below (T.setTop { g with pc := g.pc + 1, stack := .double v :: rest }) target) : Steps tb e below (T.setTop g) target := by
  subst hv
  exact XS.dsubS h hx hg hd hs hn rfl hr
theorem dmul {tb : Tables} [Ours tb] {e : Env} {below : List Frame} {T target : State} {m : MethodId} {c : Code} {g : JFrame} (h : At T m c below) (hx : tb.exec = Jvm.exec) (hg : g.method = m) {x y v : UInt64} {rest : List Value} (hd : decode c.code g.pc = .ok (.dmul, 1)) (hs : g.stack = .double y :: .double x :: rest) (hv : FP.dmul x y = v) (hn : Jvm.Free.Fl.NoNaN64 v)
    (hr : Steps tb e below (T.setTop { g with pc := g.pc + 1, stack := .double v :: rest }) target) : Steps tb e below (T.setTop g) target := by
  subst hv
  exact XS.dmulS h hx hg hd hs hn rfl hr
theorem ddiv {tb : Tables} [Ours tb] {e : Env} {below : List Frame} {T target : State} {m : MethodId} {c : Code} {g : JFrame} (h : At T m c below) (hx : tb.exec = Jvm.exec) (hg : g.method = m) {x y v : UInt64} {rest : List Value} (hd : decode c.code g.pc = .ok (.ddiv, 1)) (hs : g.stack = .double y :: .double x :: rest) (hv : FP.ddiv x y = v) (hn : Jvm.Free.Fl.NoNaN64 v)
    (hr : Steps tb e below (T.setTop { g with pc := g.pc + 1, stack := .double v :: rest }) target) : Steps tb e below (T.setTop g) target := by
  subst hv
  exact XS.ddivS h hx hg hd hs hn rfl hr
theorem drem {tb : Tables} [Ours tb] {e : Env} {below : List Frame} {T target : State} {m : MethodId} {c : Code} {g : JFrame} (h : At T m c below) (hx : tb.exec = Jvm.exec) (hg : g.method = m) {x y v : UInt64} {rest : List Value} (hd : decode c.code g.pc = .ok (.drem, 1)) (hs : g.stack = .double y :: .double x :: rest) (hv : FP.drem x y = v) (hn : Jvm.Free.Fl.NoNaN64 v)
    (hr : Steps tb e below (T.setTop { g with pc := g.pc + 1, stack := .double v :: rest }) target) : Steps tb e below (T.setTop g) target := by
  subst hg
  subst hv
  obtain ⟨gm, gp, gl, gs, gk, ge, gr⟩ := g
  simp only at hs hd
  subst hs
  jvm_step h [h.top, hx, hd, Op.drem.at_number h.top hn]
  exact hr
theorem lcmp {tb : Tables} [Ours tb] {e : Env} {below : List Frame} {T target : State} {m : MethodId} {c : Code} {g : JFrame} (h : At T m c below) (hx : tb.exec = Jvm.exec) (hg : g.method = m) {x y : Int64} {v : Int32} {rest : List Value} (hd : decode c.code g.pc = .ok (.lcmp, 1)) (hs : g.stack = .long y :: .long x :: rest) (hv : lcmpW x y = v)
    (hr : Steps tb e below (T.setTop { g with pc := g.pc + 1, stack := .int v :: rest }) target) : Steps tb e below (T.setTop g) target := by
  subst hv
  exact XS.lcmp h hx hg hd hs hr
theorem iinc {tb : Tables} [Ours tb] {e : Env} {below : List Frame} {T target : State} {m : MethodId} {c : Code} {g : JFrame} (h : At T m c below) (hx : tb.exec = Jvm.exec) (hg : g.method = m) {k : Nat} {cst : Int} {x v : Int32} {l' : Array Slot} (hd : decode c.code g.pc = .ok (.iinc k cst, 3)) (hl : g.locals[k]? = some (.val (.int x))) (hv : x + Int32.ofInt cst = v) (hl' : storeLocals g.locals k (.int v) = some l')
    (hr : Steps tb e below (T.setTop { g with pc := g.pc + 3, locals := l' }) target) : Steps tb e below (T.setTop g) target := by
  subst hv
  exact XS.iinc h hx hg hd hl hl' hr
theorem dup2 {tb : Tables} [Ours tb] {e : Env} {below : List Frame} {T target : State} {m : MethodId} {c : Code} {g : JFrame} (h : At T m c below) (hx : tb.exec = Jvm.exec) (hg : g.method = m) {x y : Value} {rest : List Value} (hd : decode c.code g.pc = .ok (.dup2, 1)) (hs : g.stack = x :: y :: rest) (hc : x.category = 1) (hc' : y.category = 1)
    (hr : Steps tb e below (T.setTop { g with pc := g.pc + 1, stack := x :: y :: x :: y :: rest }) target) : Steps tb e below (T.setTop g) target := Jvm.Free.XT.dup2 h hx hg hd hs hc hc' hr
theorem dup2W {tb : Tables} [Ours tb] {e : Env} {below : List Frame} {T target : State} {m : MethodId} {c : Code} {g : JFrame} (h : At T m c below) (hx : tb.exec = Jvm.exec) (hg : g.method = m) {x : Value} {rest : List Value} (hd : decode c.code g.pc = .ok (.dup2, 1)) (hs : g.stack = x :: rest) (hc : x.category = 2)
    (hr : Steps tb e below (T.setTop { g with pc := g.pc + 1, stack := x :: x :: rest }) target) : Steps tb e below (T.setTop g) target := by
  subst hg
  jvm_step h [h.top, hx, hd, hs, hc]
  exact hr
theorem Sta_keep {Z : State} {h h' : Heap} {C n d : String} {w : Value} {ws : List Addr} (F : Sta Z h C n d w) (K : Keep h h' ws) (hn : ∀ x ∈ ws, ∀ cell : Cell, h[x]? = some cell → cell.vm.isStatics = false) : Sta Z h' C n d w := by
  obtain ⟨cf, i, k, f, st, cell, h1, h2, h3, h4, h5, h6, h7⟩ := F
  refine ⟨cf, i, k, f, st, cell, h1, h2, h3, h4, K.2.1 st cell h5 (fun q => ?_), h6, h7⟩
  rw [hn st q cell h5] at h6; cases h6
end Jvm.OwnK
namespace Jvm.OwnF
open Jvm.FP Jvm.FP.Core
/-! doubles as whole numbers of units of 2^-1074 -/
def V (a : UInt64) : Int := zval b64 (val64 a)
def BIG : Nat := 2 ^ 2000
/-- the rounding of n / d, in units -/
def rnd (n : Int) (d : Nat) : Int := zval b64 (roundRatio b64 (decide (n < 0)) n.natAbs d (-1074))
theorem zval_zero (s : Bool) (d : Nat) (e : Int) : zval b64 (roundRatio b64 s 0 d e) = 0 := by
  unfold roundRatio
  rw [if_pos rfl]
  show signed s (0 * 2 ^ (b64.qmin - b64.qmin).toNat) = 0
  rw [Nat.zero_mul, signed_zero]
theorem rnd_signed (s : Bool) (N d : Nat) : zval b64 (roundRatio b64 s N d (-1074)) = rnd (signed s N) d := by
  unfold rnd
  rw [natAbs_signed]
  by_cases h : N = 0
  · subst h; rw [zval_zero, zval_zero]
  · rw [signed_lt_zero s (by omega)]
theorem signed_natAbs (n : Int) : signed (decide (n < 0)) n.natAbs = n := by
  unfold signed
  by_cases h : n < 0 <;> simp [h] <;> omega
theorem bigV : Jvm.FP.Core.fits b64 (.fin false (2 ^ 52) 874) := by refine ⟨?_, ?_, ?_, ?_⟩ <;> decide
theorem bigZ : zmag b64 (.fin false (2 ^ 52) 874) = BIG := by
  show 2 ^ 52 * 2 ^ (874 - b64.qmin).toNat = 2 ^ 2000
  rw [qmin_b64, show (874 - (-1074) : Int).toNat = 1948 from rfl, ← Nat.pow_add]
theorem big_lt : BIG < b64.tails * 2 ^ (b64.exps - 2) := by
  rw [tails_b64, show b64.exps - 2 = 2046 by decide, ← Nat.pow_add]
  exact Nat.pow_lt_pow_right (by decide) (by decide)
theorem un0 (A : Nat) : inUnits A (-1074) (-1074) = A := by unfold inUnits; simp
theorem round_le_big {s : Bool} {A B : Nat} (hB : 0 < B) (h : A ≤ BIG * B) : zmag b64 (roundRatio b64 s A B (-1074)) ≤ BIG := by
  have := zmag_roundRatio_le good_b64 (s := s) (A := A) (B := B) (e := -1074) (e0 := -1074) hB bigV Datum.noConfusion (by rw [qmin_b64]; decide) (by decide) (by rw [bigZ, un0, qmin_b64]; simpa using h)
  rwa [bigZ] at this
theorem fin_round {s : Bool} {A B : Nat} (hB : 0 < B) (h : A ≤ BIG * B) : ∃ c q, roundRatio b64 s A B (-1074) = .fin s c q := by
  rcases roundRatio_cases b64 s A B (-1074) with h1 | h1
  · exact h1
  · exfalso
    have h2 := round_le_big (s := s) hB h
    rw [h1] at h2
    have h3 : zmag b64 (.inf s) = b64.tails * 2 ^ (b64.exps - 2) := rfl
    have := big_lt
    omega
theorem noNaN_fin {a : UInt64} (h : DFin a) : Jvm.Free.Fl.NoNaN64 a := by
  rw [Jvm.Free.Fl.val64_no]; obtain ⟨s, c, q, e⟩ := h; rw [e]; exact Datum.noConfusion
theorem V_dadd {a b : UInt64} (ha : DFin a) (hb : DFin b) (h : (V a + V b).natAbs ≤ BIG) : DFin (FP.dadd a b) ∧ V (FP.dadd a b) = rnd (V a + V b) 1 := by
  obtain ⟨s, c, q, ea⟩ := ha
  obtain ⟨t, d, r, eb⟩ := hb
  have fa : Jvm.FP.Core.fits b64 (.fin s c q) := ea ▸ val64_fits a
  have fb : Jvm.FP.Core.fits b64 (.fin t d r) := eb ▸ val64_fits b
  obtain ⟨sg, n, e, p1, p2, p3⟩ := sum_units fa fb
  rw [qmin_b64] at p2 p3
  have hv : val64 (FP.dadd a b) = roundRatio b64 sg (inUnits n e (-1074)) 1 (-1074) := by
    rw [show FP.dadd a b = Core.dadd a b from rfl, val64_dadd, ea, eb, p1]
    show roundRatio b64 sg n 1 e = _
    refine roundRatio_congr (by decide) (by decide) ?_
    rw [show (-1074 - e).toNat = 0 by omega]
    unfold inUnits; simp
  have hS : signed sg (inUnits n e (-1074)) = V a + V b := by unfold V; rw [ea, eb]; exact p3
  have hN : inUnits n e (-1074) = (V a + V b).natAbs := by rw [← hS, natAbs_signed]
  obtain ⟨c', q', hh⟩ := fin_round (s := sg) (A := inUnits n e (-1074)) (B := 1) (by decide) (by rw [Nat.mul_one, hN]; exact h)
  refine ⟨⟨sg, c', q', hv.trans hh⟩, ?_⟩
  show zval b64 (val64 (FP.dadd a b)) = _
  rw [hv, rnd_signed, hS]
theorem V_neg (a : UInt64) : V (Core.dneg a) = -V a := by unfold V; rw [Core.val64_dneg, zval_negate]
theorem fin_neg {a : UInt64} (h : DFin a) : DFin (Core.dneg a) := by
  obtain ⟨s, c, q, e⟩ := h
  exact ⟨!s, c, q, by rw [Core.val64_dneg, e]; rfl⟩
theorem V_dsub {a b : UInt64} (ha : DFin a) (hb : DFin b) (h : (V a - V b).natAbs ≤ BIG) : DFin (FP.dsub a b) ∧ V (FP.dsub a b) = rnd (V a - V b) 1 := by
  have e : FP.dsub a b = FP.dadd a (Core.dneg b) := dsub_eq a b
  rw [e]
  have := V_dadd ha (fin_neg hb) (by rw [V_neg]; exact h)
  rw [V_neg] at this
  exact this
theorem zmag_V (a : UInt64) : zmag b64 (val64 a) = (V a).natAbs := by unfold V zval; rw [natAbs_signed]
theorem V_dmul {a b : UInt64} (ha : DFin a) (hb : DFin b) (h : (V a * V b).natAbs ≤ BIG * one64) : DFin (FP.dmul a b) ∧ V (FP.dmul a b) = rnd (V a * V b) one64 := by
  have za := zmag_V a
  have zb := zmag_V b
  obtain ⟨s, c, q, ea⟩ := ha
  obtain ⟨t, d, r, eb⟩ := hb
  have fa : Jvm.FP.Core.fits b64 (.fin s c q) := ea ▸ val64_fits a
  have fb : Jvm.FP.Core.fits b64 (.fin t d r) := eb ▸ val64_fits b
  obtain ⟨p1, p2, p3⟩ := product_units fa fb
  rw [← ea, ← eb, za, zb, ← Int.natAbs_mul] at p3
  rw [qmin_b64] at p2 p3
  have hv : val64 (FP.dmul a b) = roundRatio b64 (s != t) (V a * V b).natAbs one64 (-1074) := by
    rw [show FP.dmul a b = Core.dmul a b from rfl, val64_dmul, ea, eb, p1]
    show roundRatio b64 (s != t) (c * d) 1 (q + r) = _
    refine roundRatio_congr (by decide) one64_pos ?_
    rw [← p3]
    unfold inUnits one64
    rw [Nat.mul_one, Nat.mul_assoc (c * d), Nat.mul_assoc (c * d), ← Nat.pow_add, ← Nat.pow_add]
    congr 2
    omega
  have hS : signed (s != t) (V a * V b).natAbs = V a * V b := by
    rw [Int.natAbs_mul, signed_xor, ← za, ← zb]
    unfold V zval
    rw [ea, eb]
    rfl
  obtain ⟨c', q', hh⟩ := fin_round (s := s != t) (A := (V a * V b).natAbs) (B := one64) one64_pos h
  refine ⟨⟨_, c', q', hv.trans hh⟩, ?_⟩
  show zval b64 (val64 (FP.dmul a b)) = _
  rw [hv, rnd_signed, hS]
theorem pw2 (c d x y : Nat) : c * (d * 2 ^ x) * 2 ^ y = c * d * 2 ^ (x + y) := by rw [Nat.pow_add]; ac_rfl
theorem pw3 (c d x y z : Nat) : c * 2 ^ x * 2 ^ y * d * 2 ^ z = c * d * 2 ^ (x + y + z) := by rw [Nat.pow_add, Nat.pow_add]; ac_rfl
theorem V_ddiv {a b : UInt64} (ha : DFin a) (hb : DFin b) (h0 : V b ≠ 0) (h : (V a).natAbs * one64 ≤ BIG * (V b).natAbs) : DFin (FP.ddiv a b) ∧ V (FP.ddiv a b) = rnd (V a * (one64 : Int) * (V b).sign) (V b).natAbs := by
  have za := zmag_V a
  have zb := zmag_V b
  have sb : (V b).sign = signed (sgn (val64 b)) 1 := by
    unfold V zval at h0 ⊢
    cases hsg : sgn (val64 b) <;> rw [hsg] at h0 <;> simp only [signed, if_true, Bool.false_eq_true, if_false] at h0 ⊢
    · exact Int.sign_eq_one_of_pos (by omega)
    · exact Int.sign_eq_neg_one_of_neg (by omega)
  obtain ⟨s, c, q, ea⟩ := ha
  obtain ⟨t, d, r, eb⟩ := hb
  have fa : Jvm.FP.Core.fits b64 (.fin s c q) := ea ▸ val64_fits a
  have fb : Jvm.FP.Core.fits b64 (.fin t d r) := eb ▸ val64_fits b
  have hq1 := fa.2.1
  have hr1 := fb.2.1
  rw [qmin_b64] at hq1 hr1
  have ma : (V a).natAbs = c * 2 ^ (q - (-1074)).toNat := by rw [← za, ea]; show inUnits c q b64.qmin = _; rw [qmin_b64]; rfl
  have mb : (V b).natAbs = d * 2 ^ (r - (-1074)).toNat := by rw [← zb, eb]; show inUnits d r b64.qmin = _; rw [qmin_b64]; rfl
  have hd0 : d ≠ 0 := by
    rintro rfl
    rw [Nat.zero_mul] at mb; omega
  have hBp : 0 < (V b).natAbs := by omega
  have hv : val64 (FP.ddiv a b) = roundRatio b64 (s != t) ((V a).natAbs * one64) (V b).natAbs (-1074) := by
    rw [show FP.ddiv a b = Core.ddiv a b from rfl, val64_ddiv, ea, eb]
    simp only [quotient, if_neg hd0]
    refine roundRatio_congr (by omega) hBp ?_
    rw [ma, mb]
    unfold one64
    rw [pw2, pw3]
    congr 2
    omega
  have hS : signed (s != t) ((V a).natAbs * one64) = V a * (one64 : Int) * (V b).sign := by
    rw [sb, eb]
    show _ = _ * signed t 1
    have : signed (s != t) ((V a).natAbs * one64 * 1) = signed s ((V a).natAbs * one64) * signed t 1 := signed_xor s t _ 1
    rw [Nat.mul_one] at this
    rw [this, signed_mul]
    congr 2
    rw [← za]
    unfold V zval
    rw [ea]
    rfl
  obtain ⟨c', q', hh⟩ := fin_round (s := s != t) (A := (V a).natAbs * one64) (B := (V b).natAbs) hBp h
  refine ⟨⟨_, c', q', hv.trans hh⟩, ?_⟩
  show zval b64 (val64 (FP.ddiv a b)) = _
  rw [hv, rnd_signed, hS]
theorem V_of_int {a : UInt64} {n : Int} (ha : val64 a = round b64 (ofInt n)) (h : n.natAbs ≤ 2 ^ 64) : DFin a ∧ V a = rnd (n * (one64 : Int)) 1 := by
  have hv : val64 a = roundRatio b64 (decide (n < 0)) (n.natAbs * one64) 1 (-1074) := by
    rw [ha]
    show roundRatio b64 (decide (n < 0)) n.natAbs 1 0 = _
    refine roundRatio_congr (by decide) (by decide) ?_
    unfold one64
    rw [show (0 - (-1074) : Int).toNat = 1074 from rfl, show (-1074 - 0 : Int).toNat = 0 from rfl]
    simp
  have hS : signed (decide (n < 0)) (n.natAbs * one64) = n * (one64 : Int) := by rw [signed_mul, signed_natAbs]
  have hB : n.natAbs * one64 ≤ BIG := by
    refine Nat.le_trans (Nat.mul_le_mul_right _ h) ?_
    unfold one64 BIG
    rw [← Nat.pow_add]
    exact Nat.pow_le_pow_right (by decide) (by decide)
  obtain ⟨c', q', hh⟩ := fin_round (s := decide (n < 0)) (A := n.natAbs * one64) (B := 1) (by decide) (by rw [Nat.mul_one]; exact hB)
  refine ⟨⟨_, c', q', hv.trans hh⟩, ?_⟩
  show zval b64 (val64 a) = _
  rw [hv, rnd_signed, hS]
theorem V_l2d (n : Int64) : DFin (FP.l2d n) ∧ V (FP.l2d n) = rnd (n.toInt * (one64 : Int)) 1 :=
  V_of_int (val64_l2d n) (Nat.le_trans (int64_abs n) (by decide))
theorem V_i2d (n : Int32) : DFin (FP.i2d n) ∧ V (FP.i2d n) = rnd (n.toInt * (one64 : Int)) 1 :=
  V_of_int (val64_i2d n) (Nat.le_trans (int32_abs n) (by decide))
theorem V_drem {a b : UInt64} (ha : DFin a) (hb : DFin b) (h0 : V b ≠ 0) : DFin (FP.drem a b) ∧ V (FP.drem a b) = (V a).tmod (V b) := by
  have za := zmag_V a
  have zb := zmag_V b
  obtain ⟨s, c, q, ea⟩ := ha
  obtain ⟨t, d, r, eb⟩ := hb
  have fa : Jvm.FP.Core.fits b64 (.fin s c q) := ea ▸ val64_fits a
  have fb : Jvm.FP.Core.fits b64 (.fin t d r) := eb ▸ val64_fits b
  have hd0 : d ≠ 0 := by
    rintro rfl
    rw [eb] at zb
    have : zmag b64 (.fin t 0 r) = 0 := Nat.zero_mul _
    omega
  obtain ⟨c', q', h1, h2⟩ := remainder_exact good_b64 fa fb hd0
  have hv : val64 (FP.drem a b) = .fin s c' q' := by rw [show FP.drem a b = Core.drem a b from rfl, val64_drem, ea, eb, h1]
  refine ⟨⟨_, _, _, hv⟩, ?_⟩
  have h3 : zmag b64 (.fin s c' q') = (V a).natAbs % (V b).natAbs := by rw [← za, ← zb, ea, eb]; exact h2
  have hVa : V a = signed s (V a).natAbs := by rw [← za]; unfold V zval; rw [ea]; rfl
  show zval b64 (val64 (FP.drem a b)) = _
  rw [hv]
  show signed s (zmag b64 (.fin s c' q')) = _
  rw [h3]
  have hb2 : ∀ x : Int, x.tmod (V b) = x.tmod ((V b).natAbs : Int) := by
    intro x
    rcases Int.natAbs_eq (V b) with e | e
    · rw [← e]
    · rw [e, Int.tmod_neg]; simp
  rw [hb2]
  generalize (V b).natAbs = B at *
  generalize (V a).natAbs = A at *
  rw [hVa]
  cases s <;> simp [signed] <;> exact (Int.tmod_eq_emod_of_nonneg (Int.natCast_nonneg A)).symm
theorem cmp_V {a b : UInt64} (ha : DFin a) (hb : DFin b) : FP.dcmp a b = some (compare (V a) (V b)) := by
  obtain ⟨s, c, q, ea⟩ := ha
  obtain ⟨t, d, r, eb⟩ := hb
  exact dcmp_zval (by rw [ea]; exact Datum.noConfusion) (by rw [eb]; exact Datum.noConfusion)
/-! the rounding -/
theorem rnd_congr {n n' : Int} {d d' : Nat} (hd : 0 < d) (hd' : 0 < d') (h : n * (d' : Int) = n' * (d : Int)) : rnd n d = rnd n' d' := by
  have hs : (n < 0) ↔ (n' < 0) := by
    have p1 : (0 : Int) < d := by omega
    have p2 : (0 : Int) < d' := by omega
    constructor
    · intro q
      have := Int.mul_neg_of_neg_of_pos q p2
      refine Int.lt_of_not_ge fun q' => ?_
      have := Int.mul_nonneg q' (Int.le_of_lt p1)
      omega
    · intro q
      have := Int.mul_neg_of_neg_of_pos q p1
      refine Int.lt_of_not_ge fun q' => ?_
      have := Int.mul_nonneg q' (Int.le_of_lt p2)
      omega
  have hm : n.natAbs * d' = n'.natAbs * d := by
    have := congrArg Int.natAbs h
    rwa [Int.natAbs_mul, Int.natAbs_mul, Int.natAbs_natCast, Int.natAbs_natCast] at this
  unfold rnd
  rw [show decide (n < 0) = decide (n' < 0) from decide_eq_decide.mpr hs]
  congr 1
  exact roundRatio_congr hd hd' (by simpa using hm)
/-- at most 53 binary digits -/
def Rep (r : Int) : Prop := ∃ (m : Int) (e : Nat), r = m * ((2 ^ e : Nat) : Int) ∧ m.natAbs < 2 ^ 53 ∧ e ≤ 2045
theorem rnd_exact {n : Int} {d : Nat} {r : Int} (hd : 0 < d) (h : n = r * (d : Int)) (hr : Rep r) : rnd n d = r := by
  rw [rnd_congr (n' := r) (d' := 1) hd (by decide) (by rw [h]; simp)]
  obtain ⟨m, e, rfl, hm, he⟩ := hr
  have hsg : ∀ k : Nat, signed (decide (m < 0)) (m.natAbs * k) = m * (k : Int) := fun k => by rw [signed_mul, signed_natAbs]
  have h1 : rnd (m * ((2 ^ e : Nat) : Int)) 1 = zval b64 (roundRatio b64 (decide (m < 0)) (m.natAbs * 2 ^ e) 1 (-1074)) := by rw [rnd_signed, hsg]
  rw [h1]
  obtain ⟨c', q', h2, h3⟩ := round_exact good_b64 (decide (m < 0)) (c := m.natAbs) (q := (e : Int) - 1074) hm (by rw [qmin_b64]; omega) (by rw [show b64.qmax = 971 by decide]; omega)
  have h4 : roundRatio b64 (decide (m < 0)) (m.natAbs * 2 ^ e) 1 (-1074) = roundRatio b64 (decide (m < 0)) m.natAbs 1 ((e : Int) - 1074) := by
    refine roundRatio_congr (by decide) (by decide) ?_
    rw [show (-1074 - ((e : Int) - 1074)).toNat = 0 by omega, show ((e : Int) - 1074 - -1074).toNat = e by omega]
    simp
  rw [h4]
  have h5 : roundRatio b64 (decide (m < 0)) m.natAbs 1 ((e : Int) - 1074) = .fin (decide (m < 0)) c' q' := h2
  rw [h5]
  show signed _ (inUnits c' q' b64.qmin) = _
  rw [h3, ← hsg]
  unfold inUnits
  rw [qmin_b64, show ((e : Int) - 1074 - -1074).toNat = e by omega]
  rfl
theorem rep_V {a : UInt64} (ha : DFin a) : Rep (V a) := by
  obtain ⟨s, c, q, ea⟩ := ha
  have fa : Jvm.FP.Core.fits b64 (.fin s c q) := ea ▸ val64_fits a
  obtain ⟨h1, h2, h3, -⟩ := fa
  rw [qmin_b64] at h2
  rw [show b64.qmax = 971 by decide] at h3
  refine ⟨signed s c, (q - (-1074)).toNat, ?_, by rw [natAbs_signed]; exact h1, by omega⟩
  unfold V zval
  rw [ea]
  show signed s (c * 2 ^ (q - b64.qmin).toNat) = _
  rw [signed_mul, qmin_b64]
theorem V_le {a : UInt64} : (V a).natAbs ≤ (V a).natAbs := Nat.le_refl _
end Jvm.OwnF
namespace Jvm.OwnF
open Jvm.FP Jvm.FP.Core
/-! exact values: a is n / 2^k -/
def R53 (n : Int) : Prop := ∃ (m : Int) (e : Nat), n = m * ((2 ^ e : Nat) : Int) ∧ m.natAbs ≤ 2 ^ 53 ∧ e ≤ 800
def DV (n : Int) (k : Nat) (a : UInt64) : Prop := DFin a ∧ k ≤ 1074 ∧ V a = n * ((2 ^ (1074 - k) : Nat) : Int)
theorem r53 {n : Int} (h : n.natAbs ≤ 2 ^ 53) : R53 n := ⟨n, 0, by simp, h, by decide⟩
theorem rep_of {m : Int} {e : Nat} (hm : m.natAbs ≤ 2 ^ 53) (he : e ≤ 1900) : Rep (m * ((2 ^ e : Nat) : Int)) := by
  by_cases h : m.natAbs < 2 ^ 53
  · exact ⟨m, e, rfl, h, by omega⟩
  · refine ⟨m.sign, e + 53, ?_, ?_, by omega⟩
    · have h1 : m.natAbs = 2 ^ 53 := by omega
      have h2 : m = m.sign * (m.natAbs : Int) := (Int.sign_mul_natAbs m).symm
      conv => lhs; rw [h2, h1]
      rw [Nat.pow_add, Int.natCast_mul, Int.mul_assoc]
      congr 1
      rw [Int.mul_comm]
    · have : m.sign.natAbs ≤ 1 := by
        rcases Int.lt_trichotomy m 0 with q | q | q
        · rw [Int.sign_eq_neg_one_of_neg q]; decide
        · rw [q]; decide
        · rw [Int.sign_eq_one_of_pos q]; decide
      omega
theorem rep_R {n : Int} (h : R53 n) {k : Nat} (hk : k ≤ 1074) : Rep (n * ((2 ^ k : Nat) : Int)) := by
  obtain ⟨m, e, rfl, hm, he⟩ := h
  rw [Int.mul_assoc, ← Int.natCast_mul, ← Nat.pow_add]
  exact rep_of hm (by omega)
theorem big_R {n : Int} (h : R53 n) {k : Nat} (hk : k ≤ 1074) : (n * ((2 ^ k : Nat) : Int)).natAbs ≤ BIG := by
  obtain ⟨m, e, rfl, hm, he⟩ := h
  rw [Int.natAbs_mul, Int.natAbs_mul, Int.natAbs_natCast, Int.natAbs_natCast, Nat.mul_assoc, ← Nat.pow_add]
  refine Nat.le_trans (Nat.mul_le_mul_right _ hm) ?_
  unfold BIG
  rw [← Nat.pow_add]
  exact Nat.pow_le_pow_right (by decide) (by omega)
theorem DV.fin {n : Int} {k : Nat} {a : UInt64} (h : DV n k a) : DFin a := h.1
theorem DV.nn {n : Int} {k : Nat} {a : UInt64} (h : DV n k a) : Jvm.Free.Fl.NoNaN64 a := noNaN_fin h.1
theorem DV.of_eq {n m : Int} {k : Nat} {a : UInt64} (h : DV n k a) (e : n = m) : DV m k a := e ▸ h
theorem DV.up {n : Int} {k : Nat} {a : UInt64} (h : DV n k a) (j : Nat) (hj : k + j ≤ 1074) : DV (n * ((2 ^ j : Nat) : Int)) (k + j) a := by
  refine ⟨h.1, hj, ?_⟩
  rw [h.2.2, Int.mul_assoc, ← Int.natCast_mul, ← Nat.pow_add]
  congr 4
  omega
theorem DV.down {n : Int} {k j : Nat} {a : UInt64} (h : DV (n * ((2 ^ j : Nat) : Int)) (k + j) a) : DV n k a := by
  refine ⟨h.1, by have := h.2.1; omega, ?_⟩
  rw [h.2.2, Int.mul_assoc, ← Int.natCast_mul, ← Nat.pow_add]
  congr 4
  have := h.2.1; omega
theorem DV_of_V {n : Int} {k : Nat} {a : UInt64} (hf : DFin a) (hk : k ≤ 1074) (hn : R53 n) (h : V a = rnd (n * ((2 ^ (1074 - k) : Nat) : Int)) 1) : DV n k a :=
  ⟨hf, hk, by rw [h]; exact rnd_exact (by decide) (by simp) (rep_R hn (by omega))⟩
theorem DV_add {n m : Int} {k : Nat} {a b : UInt64} (ha : DV n k a) (hb : DV m k b) (h : R53 (n + m)) : DV (n + m) k (FP.dadd a b) := by
  have e : V a + V b = (n + m) * ((2 ^ (1074 - k) : Nat) : Int) := by rw [ha.2.2, hb.2.2, Int.add_mul]
  obtain ⟨h1, h2⟩ := V_dadd ha.1 hb.1 (by rw [e]; exact big_R h (by omega))
  exact DV_of_V h1 ha.2.1 h (by rw [h2, e])
theorem DV_sub {n m : Int} {k : Nat} {a b : UInt64} (ha : DV n k a) (hb : DV m k b) (h : R53 (n - m)) : DV (n - m) k (FP.dsub a b) := by
  have e : V a - V b = (n - m) * ((2 ^ (1074 - k) : Nat) : Int) := by rw [ha.2.2, hb.2.2, Int.sub_mul]
  obtain ⟨h1, h2⟩ := V_dsub ha.1 hb.1 (by rw [e]; exact big_R h (by omega))
  exact DV_of_V h1 ha.2.1 h (by rw [h2, e])
theorem DV_mul {n m : Int} {k j : Nat} {a b : UInt64} (ha : DV n k a) (hb : DV m j b) (hkj : k + j ≤ 1074) (h : R53 (n * m)) : DV (n * m) (k + j) (FP.dmul a b) := by
  have e : V a * V b = (n * m) * ((2 ^ (1074 - (k + j)) : Nat) : Int) * (one64 : Int) := by
    rw [ha.2.2, hb.2.2]
    have : ((2 ^ (1074 - (k + j)) : Nat) : Int) * (one64 : Int) = ((2 ^ (1074 - k) : Nat) : Int) * ((2 ^ (1074 - j) : Nat) : Int) := by
      rw [← Int.natCast_mul, ← Int.natCast_mul]
      unfold one64
      rw [← Nat.pow_add, ← Nat.pow_add]
      congr 2
      have := ha.2.1; have := hb.2.1; omega
    rw [Int.mul_assoc (n * m), this]
    ac_rfl
  obtain ⟨h1, h2⟩ := V_dmul ha.1 hb.1 (by
    rw [e, Int.natAbs_mul, Int.natAbs_natCast]
    exact Nat.mul_le_mul_right _ (big_R h (by omega)))
  refine ⟨h1, hkj, ?_⟩
  rw [h2]
  exact rnd_exact one64_pos e (rep_R h (by omega))
theorem divalg {n c m P Q X U I J : Int} (h : n * P = c * m * Q) (e2 : X * Q = U) (e3 : I * J * P = U * U) : n * X * U * (Q * P) = c * I * (m * J) * (Q * P) := by
  have l : n * X * U * (Q * P) = (n * P) * (X * Q) * U := by ac_rfl
  have r : c * I * (m * J) * (Q * P) = c * m * Q * (I * J * P) := by ac_rfl
  rw [l, r, h, e2, e3, Int.mul_assoc (c * m * Q)]
theorem DV_div {n m c : Int} {k j i : Nat} {a b : UInt64} (ha : DV n k a) (hb : DV m j b) (hi : i ≤ 1074) (hm : m ≠ 0) (hc : R53 c) (h : n * ((2 ^ (j + i) : Nat) : Int) = c * m * ((2 ^ k : Nat) : Int)) : DV c i (FP.ddiv a b) := by
  have hb0 : V b ≠ 0 := by
    rw [hb.2.2]
    intro q
    rcases Int.mul_eq_zero.mp q with q | q
    · exact hm q
    · have := Nat.two_pow_pos (1074 - j); omega
  have hk := ha.2.1
  have hj := hb.2.1
  -- V a * U = (c * 2^(1074 - i)) * V b
  have e : V a * (one64 : Int) = c * ((2 ^ (1074 - i) : Nat) : Int) * V b := by
    have pp : ((2 ^ (k + j + i) : Nat) : Int) ≠ 0 := by have := Nat.two_pow_pos (k + j + i); omega
    refine Int.eq_of_mul_eq_mul_right pp ?_
    rw [ha.2.2, hb.2.2]
    have e1 : ((2 ^ (k + j + i) : Nat) : Int) = ((2 ^ k : Nat) : Int) * ((2 ^ (j + i) : Nat) : Int) := by rw [← Int.natCast_mul, ← Nat.pow_add, Nat.add_assoc]
    have e2 : ((2 ^ (1074 - k) : Nat) : Int) * ((2 ^ k : Nat) : Int) = (one64 : Int) := by rw [← Int.natCast_mul, ← Nat.pow_add, Nat.sub_add_cancel hk]; rfl
    have e3 : ((2 ^ (1074 - i) : Nat) : Int) * ((2 ^ (1074 - j) : Nat) : Int) * ((2 ^ (j + i) : Nat) : Int) = (one64 : Int) * (one64 : Int) := by
      rw [← Int.natCast_mul, ← Int.natCast_mul, ← Int.natCast_mul]
      unfold one64
      rw [← Nat.pow_add, ← Nat.pow_add, ← Nat.pow_add]
      congr 2
      omega
    rw [e1]
    exact divalg h e2 e3
  have ea : (V a).natAbs * one64 = (c * ((2 ^ (1074 - i) : Nat) : Int)).natAbs * (V b).natAbs := by
    have := congrArg Int.natAbs e
    rwa [Int.natAbs_mul, Int.natAbs_mul, Int.natAbs_natCast] at this
  obtain ⟨h1, h2⟩ := V_ddiv ha.1 hb.1 hb0 (by rw [ea]; exact Nat.mul_le_mul_right _ (big_R hc (by omega)))
  refine ⟨h1, hi, ?_⟩
  rw [h2]
  refine rnd_exact (by omega) ?_ (rep_R hc (by omega))
  rw [e, Int.mul_assoc, Int.mul_sign_self]
theorem DV_l2d {n : Int64} (h : R53 n.toInt) : DV n.toInt 0 (FP.l2d n) := by
  obtain ⟨h1, h2⟩ := V_l2d n
  exact DV_of_V h1 (by decide) h h2
theorem DV_i2d (n : Int32) : DV n.toInt 0 (FP.i2d n) := by
  obtain ⟨h1, h2⟩ := V_i2d n
  exact DV_of_V h1 (by decide) (r53 (Nat.le_trans (int32_abs n) (by decide))) h2
theorem DV_const {a : UInt64} {n : Int} {k : Nat} (h1 : a.toNat % 2 ^ 63 < 9218868437227405312) (hk : k ≤ 1074) (h2 : V a = n * ((2 ^ (1074 - k) : Nat) : Int)) : DV n k a := ⟨(fin_bits a).mpr h1, hk, h2⟩
theorem DV_0 : DV 0 0 FP.dconst0 := DV_const (by decide) (by decide) (by decide +kernel)
theorem DV_1 : DV 1 0 FP.dconst1 := DV_const (by decide) (by decide) (by decide +kernel)
theorem DV_z : DV 0 0 (0 : UInt64) := DV_const (by decide) (by decide) (by decide +kernel)
theorem cmpv_V {a b : UInt64} (ha : DFin a) (hb : DFin b) (o : ClassFile.CmpOp) : (V a < V b → Op.cmpValue (FP.dcmp a b) o = -1) ∧ (V a = V b → Op.cmpValue (FP.dcmp a b) o = 0) ∧ (V b < V a → Op.cmpValue (FP.dcmp a b) o = 1) := by
  rw [cmp_V ha hb]
  refine ⟨fun h => ?_, fun h => ?_, fun h => ?_⟩
  · rw [(compare_lt_iff _ _).mpr h]; rfl
  · rw [(compare_eq_iff _ _).mpr h]; rfl
  · rw [(compare_gt_iff _ _).mpr h]; rfl
theorem DV_le {n m : Int} {k : Nat} {a b : UInt64} (ha : DV n k a) (hb : DV m k b) : (V a < V b ↔ n < m) ∧ (V a = V b ↔ n = m) := by
  rw [ha.2.2, hb.2.2]
  have hp : (0 : Int) < ((2 ^ (1074 - k) : Nat) : Int) := by have := Nat.two_pow_pos (1074 - k); omega
  exact ⟨Int.mul_lt_mul_right hp, ⟨fun q => Int.eq_of_mul_eq_mul_right (by omega) q, fun q => by rw [q]⟩⟩
theorem DV_cmp {n m : Int} {k : Nat} {a b : UInt64} (ha : DV n k a) (hb : DV m k b) (o : ClassFile.CmpOp) : (n < m → Op.cmpValue (FP.dcmp a b) o = -1) ∧ (n = m → Op.cmpValue (FP.dcmp a b) o = 0) ∧ (m < n → Op.cmpValue (FP.dcmp a b) o = 1) := by
  obtain ⟨h1, h2, h3⟩ := cmpv_V ha.1 hb.1 o
  exact ⟨fun q => h1 ((DV_le ha hb).1.mpr q), fun q => h2 ((DV_le ha hb).2.mpr q), fun q => h3 ((DV_le hb ha).1.mpr q)⟩
theorem DV_eq0 {n : Int} {k : Nat} {a b : UInt64} (ha : DV n k a) (hb : DV n k b) (o : ClassFile.CmpOp) : Op.cmpValue (FP.dcmp a b) o = 0 := (DV_cmp ha hb o).2.1 rfl
theorem DV_d2l {n : Int} {a : UInt64} (h : DV n 0 a) (h1 : -9223372036854775808 ≤ n) (h2 : n < 9223372036854775808) : (FP.d2l a).toInt = n := by
  obtain ⟨hf, -, hv⟩ := h
  have hn : val64 a ≠ .nan := by obtain ⟨s, c, q, e⟩ := hf; rw [e]; exact Datum.noConfusion
  rw [show FP.d2l a = Core.d2l a from rfl, d2l_val hn, zmag_V]
  have hs : signed (sgn (val64 a)) (V a).natAbs = V a := by rw [← zmag_V]; rfl
  have ho : (1074 - 0 : Nat) = 1074 := rfl
  rw [ho, show (2 ^ 1074 : Nat) = one64 from rfl] at hv
  have hm : (V a).natAbs = n.natAbs * one64 := by rw [hv, Int.natAbs_mul, Int.natAbs_natCast]
  have hd : (V a).natAbs / one64 = n.natAbs := by rw [hm, Nat.mul_div_cancel _ one64_pos]
  rw [hd]
  have hsn : signed (sgn (val64 a)) n.natAbs = n := by
    rw [hm, signed_mul, hv] at hs
    exact Int.eq_of_mul_eq_mul_right (by have := one64_pos; omega) hs
  rw [hsn]
  omega
end Jvm.OwnF
namespace Jvm.OwnF
open Jvm.RoadKit
/-! ints and longs as whole numbers -/
theorem mul_bd {a b : Int} {A B : Nat} (ha : a.natAbs ≤ A) (hb : b.natAbs ≤ B) : (a * b).natAbs ≤ A * B := by rw [Int.natAbs_mul]; exact Nat.mul_le_mul ha hb
theorem iadd_v {x y z : Int32} (h : x + y = z) (hb : (x.toInt + y.toInt).natAbs < 2147483648) : z.toInt = x.toInt + y.toInt := by rw [← h, Int32.toInt_add]; exact Int.bmod_eq_of_le (by omega) (by omega)
theorem isub_v {x y z : Int32} (h : x - y = z) (hb : (x.toInt - y.toInt).natAbs < 2147483648) : z.toInt = x.toInt - y.toInt := by rw [← h, Int32.toInt_sub]; exact Int.bmod_eq_of_le (by omega) (by omega)
theorem imul_v {x y z : Int32} (h : x * y = z) (hb : (x.toInt * y.toInt).natAbs < 2147483648) : z.toInt = x.toInt * y.toInt := by rw [← h, Int32.toInt_mul]; exact Int.bmod_eq_of_le (by omega) (by omega)
theorem ladd_v {x y z : Int64} (h : x + y = z) (hb : (x.toInt + y.toInt).natAbs < 9223372036854775808) : z.toInt = x.toInt + y.toInt := by rw [← h, Int64.toInt_add]; exact Int.bmod_eq_of_le (by omega) (by omega)
theorem lsub_v {x y z : Int64} (h : x - y = z) (hb : (x.toInt - y.toInt).natAbs < 9223372036854775808) : z.toInt = x.toInt - y.toInt := by rw [← h, Int64.toInt_sub]; exact Int.bmod_eq_of_le (by omega) (by omega)
theorem lmul_v {x y z : Int64} (h : x * y = z) (hb : (x.toInt * y.toInt).natAbs < 9223372036854775808) : z.toInt = x.toInt * y.toInt := by rw [← h, Int64.toInt_mul]; exact Int.bmod_eq_of_le (by omega) (by omega)
theorem i2l_v {x : Int32} {z : Int64} (h : x.toInt64 = z) : z.toInt = x.toInt := by rw [← h]; exact c_i2l x
theorem l2i_v {x : Int64} {z : Int32} (h : x.toInt32 = z) (hb : -2147483648 ≤ x.toInt ∧ x.toInt < 2147483648) : z.toInt = x.toInt := by
  rw [← h]; have h1 := c_l2i x; have h2 := rng32 x.toInt32; omega
theorem rng32b (x : Int32) : x.toInt.natAbs ≤ 2147483648 := by have := rng32 x; omega
theorem rng64b (x : Int64) : x.toInt.natAbs ≤ 9223372036854775808 := by have := rng64 x; omega
theorem ishr16 {p z : Int32} (h : p >>> ((16 : Int32) &&& 31) = z) : z.toInt = p.toInt / 65536 := by
  rw [← h, c_ishr p 16 16 (by decide)]; rfl
theorem i2s_b {x z : Int32} (h : x.toInt16.toInt32 = z) : -32768 ≤ z.toInt ∧ z.toInt < 32768 := by rw [← h]; exact (c_i2s x).2
/-- x % y, y > 0, x ≥ 0 -/
theorem irem_v {x y z : Int32} (h : x % y = z) (hx : 0 ≤ x.toInt) : z.toInt = x.toInt % y.toInt := by rw [← h, Int32.toInt_mod]; exact Int.tmod_eq_emod_of_nonneg hx
theorem lrem_v {x y z : Int64} (h : x % y = z) (hx : 0 ≤ x.toInt) : z.toInt = x.toInt % y.toInt := by rw [← h, Int64.toInt_mod]; exact Int.tmod_eq_emod_of_nonneg hx
theorem mask31 {x z : Int32} (h : x &&& (2147483647 : Int32) = z) : 0 ≤ z.toInt ∧ z.toInt < 2147483648 := by
  rw [← h, c_mask x 2147483647 31 (by decide) (by decide)]
  have e : ((2 ^ 31 : Nat) : Int) = 2147483648 := by decide
  rw [e]; omega
/-- x << q, q < 64, no overflow -/
theorem lshl_v {x z : Int64} {q : Int32} (h : x <<< (q &&& 0x3f).toInt64 = z) {k : Nat} (hq : q.toInt = (k : Int)) (hk : k < 64) (hb : (x.toInt * ((2 ^ k : Nat) : Int)).natAbs < 9223372036854775808) : z.toInt = x.toInt * ((2 ^ k : Nat) : Int) := by
  have hn : q.toBitVec.toNat % 64 = k := by
    have e : q.toBitVec.toNat = k := by
      have h1 : q.toBitVec.toInt = (k : Int) := hq
      have h2 := BitVec.toInt_eq_toNat_bmod q.toBitVec
      rw [h1] at h2
      have h3 := q.toBitVec.isLt
      have h4 := Int.bmod_emod (x := (q.toBitVec.toNat : Int)) (m := 2 ^ 32)
      omega
    omega
  have := c_lshl x q k hn
  rw [h] at this
  have r := rng64 z
  omega
end Jvm.OwnF
namespace Jvm.OwnF
open Jvm.RoadKit
theorem nat32 {q : Int32} {k : Nat} (hq : q.toInt = (k : Int)) : q.toBitVec.toNat = k := by
  have h1 : q.toBitVec.toInt = (k : Int) := hq
  have h2 := BitVec.toInt_eq_toNat_bmod q.toBitVec
  rw [h1] at h2
  have h3 := q.toBitVec.isLt
  have h5 := rng32 q
  have h4 := Int.bmod_emod (x := (q.toBitVec.toNat : Int)) (m := 2 ^ 32)
  omega
theorem ishl_v {x z q : Int32} (h : x <<< (q &&& 31) = z) {k : Nat} (hq : q.toInt = (k : Int)) (hk : k < 32) (hb : (x.toInt * ((2 ^ k : Nat) : Int)).natAbs < 2147483648) : z.toInt = x.toInt * ((2 ^ k : Nat) : Int) := by
  have hn : q.toBitVec.toNat % 32 = k := by rw [nat32 hq]; omega
  have := c_ishl x q k hn
  rw [h] at this
  have r := rng32 z
  omega
theorem ishl_1 {z q : Int32} (h : (1 : Int32) <<< (q &&& 31) = z) {k : Nat} (hq : q.toInt = (k : Int)) (hk : k < 31) : z.toInt = ((2 ^ k : Nat) : Int) := by
  have p : 2 ^ k ≤ 2 ^ 30 := Nat.pow_le_pow_right (by decide) (by omega)
  have := ishl_v h hq (by omega) (by rw [show (1 : Int32).toInt = 1 by decide, Int.one_mul, Int.natAbs_natCast]; omega)
  rw [show (1 : Int32).toInt = 1 by decide, Int.one_mul] at this
  exact this
end Jvm.OwnF
namespace Jvm.Pilot.@@N@@
open Jvm Jvm.ClassFile Sem Op Lib Jvm.Free Jvm.Stand Jvm.LawKit Jvm.RoadKit Bundle Jvm.Pilot.@@N@@.Jvm.D
abbrev t8 (a0 a1 a2 a3 a4 a5 a6 a7 : UInt64) : List Value := [.double a0, .double a1, .double a2, .double a3, .double a4, .double a5, .double a6, .double a7]
abbrev t32 (a0 a1 a2 a3 a4 a5 a6 a7 a8 a9 a10 a11 a12 a13 a14 a15 a16 a17 a18 a19 a20 a21 a22 a23 a24 a25 a26 a27 a28 a29 a30 a31 : UInt64) : List Value := [.double a0, .double a1, .double a2, .double a3, .double a4, .double a5, .double a6, .double a7, .double a8, .double a9, .double a10, .double a11, .double a12, .double a13, .double a14, .double a15, .double a16, .double a17, .double a18, .double a19, .double a20, .double a21, .double a22, .double a23, .double a24, .double a25, .double a26, .double a27, .double a28, .double a29, .double a30, .double a31]
theorem hwi {Z : State} {a0 : Array Value} (hw : ∀ d ∈ tables_1, d.before a0 Z = true) (i : Nat) {d : Jvm.Cond} (h : tables_1[i]? = some d) : d.before a0 Z = true := hw _ (List.mem_of_getElem? h)
abbrev u_ : Slot := .unset
abbrev s_ : Slot := .second
abbrev nL : Slot := .val .null
abbrev vI (x : Int32) : Slot := .val (.int x)
abbrev vJ (x : Int64) : Slot := .val (.long x)
abbrev vD (x : UInt64) : Slot := .val (.double x)
abbrev vR (x : Addr) : Slot := .val (.ref x)
abbrev MTc : String := "com/example/kinetic_fleet/kineticfleet/fleet/MachineTimes"
def fbf (y1 y4 y8 y10 y16 y18 y20 y22 d1 : UInt64) : Int32 := (if (0 : Int32) < (cmpValue (FP.dcmp y1 d1) .g) then (0 : Int32) else (if (0 : Int32) < (cmpValue (FP.dcmp y4 d1) .g) then (if (0 : Int32) < (cmpValue (FP.dcmp y10 d1) .g) then (if (0 : Int32) < (cmpValue (FP.dcmp y22 d1) .g) then (8 : Int32) else (7 : Int32)) else (if (0 : Int32) < (cmpValue (FP.dcmp y20 d1) .g) then (6 : Int32) else (5 : Int32))) else (if (0 : Int32) < (cmpValue (FP.dcmp y8 d1) .g) then (if (0 : Int32) < (cmpValue (FP.dcmp y18 d1) .g) then (4 : Int32) else (3 : Int32)) else (if (0 : Int32) < (cmpValue (FP.dcmp y16 d1) .g) then (2 : Int32) else (1 : Int32)))))
def rff (p1 : Int32) (y0 y1 y2 y3 y4 y5 y6 y7 d2 : UInt64) : Int32 := (if (0 : Int32) < p1 then (if (0 : Int32) < (cmpValue (FP.dcmp y0 d2) .g) then (if (1 : Int32) < p1 then (if (0 : Int32) < (cmpValue (FP.dcmp y1 d2) .g) then (if (2 : Int32) < p1 then (if (0 : Int32) < (cmpValue (FP.dcmp y2 d2) .g) then (if (3 : Int32) < p1 then (if (0 : Int32) < (cmpValue (FP.dcmp y3 d2) .g) then (if (4 : Int32) < p1 then (if (0 : Int32) < (cmpValue (FP.dcmp y4 d2) .g) then (if (5 : Int32) < p1 then (if (0 : Int32) < (cmpValue (FP.dcmp y5 d2) .g) then (if (6 : Int32) < p1 then (if (0 : Int32) < (cmpValue (FP.dcmp y6 d2) .g) then (if (7 : Int32) < p1 then (if (0 : Int32) < (cmpValue (FP.dcmp y7 d2) .g) then (0 : Int32) else (8 : Int32)) else (0 : Int32)) else (7 : Int32)) else (0 : Int32)) else (6 : Int32)) else (0 : Int32)) else (5 : Int32)) else (0 : Int32)) else (4 : Int32)) else (0 : Int32)) else (3 : Int32)) else (0 : Int32)) else (2 : Int32)) else (0 : Int32)) else (1 : Int32)) else (0 : Int32))
def cmpf (a b : UInt64) : Int32 := (if (cmpValue (FP.dcmp a b) .g) < (0 : Int32) then (-1 : Int32) else (if (0 : Int32) < (cmpValue (FP.dcmp a b) .l) then (1 : Int32) else (if (lcmpW ((if ((if (cmpValue (FP.dcmp a a) .l) = (0 : Int32) then (0 : Int32) else (1 : Int32))) = (0 : Int32) then (a.toInt64) else (9221120237041090560 : Int64))) ((if ((if (cmpValue (FP.dcmp b b) .l) = (0 : Int32) then (0 : Int32) else (1 : Int32))) = (0 : Int32) then (b.toInt64) else (9221120237041090560 : Int64)))) = (0 : Int32) then (0 : Int32) else (if (lcmpW ((if ((if (cmpValue (FP.dcmp a a) .l) = (0 : Int32) then (0 : Int32) else (1 : Int32))) = (0 : Int32) then (a.toInt64) else (9221120237041090560 : Int64))) ((if ((if (cmpValue (FP.dcmp b b) .l) = (0 : Int32) then (0 : Int32) else (1 : Int32))) = (0 : Int32) then (b.toInt64) else (9221120237041090560 : Int64)))) < (0 : Int32) then (-1 : Int32) else (1 : Int32)))))
def mnf (a b : UInt64) : UInt64 := (if ((if (cmpValue (FP.dcmp a a) .l) = (0 : Int32) then (0 : Int32) else (1 : Int32))) = (0 : Int32) then (if ((if (cmpValue (FP.dcmp b b) .l) = (0 : Int32) then (0 : Int32) else (1 : Int32))) = (0 : Int32) then (Jvm.Native.java_lang_Math.nans.pick64 false a b) else a) else b)
def isn (a : UInt64) : Int32 := (if cmpValue (FP.dcmp a a) .l = (0 : Int32) then (0 : Int32) else (1 : Int32))
def TV (a : UInt64) : Prop := a = (9221120237041090560 : UInt64) ∨ Jvm.Free.Fl.NoNaN64 a
theorem TV.nn {a : UInt64} (h : TV a) (q : (if cmpValue (FP.dcmp a a) .l = (0 : Int32) then (0 : Int32) else (1 : Int32)) = (0 : Int32)) : Jvm.Free.Fl.NoNaN64 a := by
  rcases h with h | h
  · rw [h] at q; exact absurd q (by decide +kernel)
  · exact h

theorem up1 {a b p : Int32} (h : ¬ a < p) (hab : a < b) : ¬ b < p := fun q => h (by rw [Int32.lt_iff_toInt_lt] at *; omega)
theorem naval : FP.Core.val64 (9221120237041090560 : UInt64) = .nan := by decide +kernel
theorem Gna (t : UInt64) : (0 : Int32) < cmpValue (FP.dcmp (9221120237041090560 : UInt64) t) .g := by
  have e : FP.dcmp (9221120237041090560 : UInt64) t = none := by
    show FP.Core.order (FP.Core.val64 (9221120237041090560 : UInt64)) (FP.Core.val64 t) = none
    rw [naval]; rfl
  rw [e]; decide
theorem isn_nn {a : UInt64} (h : Jvm.Free.Fl.NoNaN64 a) : (if cmpValue (FP.dcmp a a) .l = (0 : Int32) then (0 : Int32) else (1 : Int32)) = (0 : Int32) := by rw [if_pos (dcmpV_self h _)]
theorem isn_na : ¬ (if cmpValue (FP.dcmp (9221120237041090560 : UInt64) (9221120237041090560 : UInt64)) .l = (0 : Int32) then (0 : Int32) else (1 : Int32)) = (0 : Int32) := by decide +kernel
theorem mn_nn {a b : UInt64} (ha : Jvm.Free.Fl.NoNaN64 a) (hb : Jvm.Free.Fl.NoNaN64 b) : mnf a b = Jvm.Native.java_lang_Math.nans.pick64 false a b := by
  unfold mnf; rw [if_pos (isn_nn ha), if_pos (isn_nn hb)]
theorem mn_na {b : UInt64} : mnf (9221120237041090560 : UInt64) b = b := by unfold mnf; rw [if_neg isn_na]
theorem mn_an {a : UInt64} (ha : Jvm.Free.Fl.NoNaN64 a) : mnf a (9221120237041090560 : UInt64) = a := by unfold mnf; rw [if_pos (isn_nn ha), if_neg isn_na]
theorem invN : mnf (9221120237041090560 : UInt64) (9221120237041090560 : UInt64) = (9221120237041090560 : UInt64) := mn_na
theorem tvN : TV (9221120237041090560 : UInt64) := Or.inl rfl
theorem nnV {a : UInt64} (h : Jvm.Free.Fl.NoNaN64 a) : FP.Core.val64 a ≠ .nan := by rw [← Jvm.Free.Fl.val64_no]; exact h
theorem pickF {a b : UInt64} (ha : Jvm.Free.Fl.NoNaN64 a) (hb : Jvm.Free.Fl.NoNaN64 b) : (Jvm.OwnF.V a < Jvm.OwnF.V b → Jvm.Native.java_lang_Math.nans.pick64 false a b = a) ∧ (Jvm.OwnF.V b < Jvm.OwnF.V a → Jvm.Native.java_lang_Math.nans.pick64 false a b = b) ∧ (Jvm.Native.java_lang_Math.nans.pick64 false a b = a ∨ Jvm.Native.java_lang_Math.nans.pick64 false a b = b) := by
  have hc : FP.dcmp a b = some (compare (Jvm.OwnF.V a) (Jvm.OwnF.V b)) := FP.Core.dcmp_zval (nnV ha) (nnV hb)
  refine ⟨fun t => ?_, fun t => ?_, ?_⟩
  · unfold Jvm.Native.java_lang_Math.nans.pick64
    rw [hc, (FP.Core.compare_lt_iff _ _).mpr t]; rfl
  · unfold Jvm.Native.java_lang_Math.nans.pick64
    rw [hc, (FP.Core.compare_gt_iff _ _).mpr t]; rfl
  · unfold Jvm.Native.java_lang_Math.nans.pick64
    rw [hc]
    split
    · exact Or.inl rfl
    · exact Or.inr rfl
    · split
      · exact Or.inr rfl
      · exact Or.inl rfl
theorem nnL {a b m : UInt64} (ha : Jvm.Free.Fl.NoNaN64 a) (hb : TV b) (h : mnf a b = m) : Jvm.Free.Fl.NoNaN64 m := by
  rcases hb with q | q
  · rw [q, mn_an ha] at h; rw [← h]; exact ha
  · rw [mn_nn ha q] at h
    rcases (pickF ha q).2.2 with w | w <;> rw [w] at h <;> rw [← h] <;> assumption
theorem nnR {a b m : UInt64} (ha : TV a) (hb : Jvm.Free.Fl.NoNaN64 b) (h : mnf a b = m) : Jvm.Free.Fl.NoNaN64 m := by
  rcases ha with q | q
  · rw [q, mn_na] at h; rw [← h]; exact hb
  · exact nnL q (Or.inr hb) h
theorem Gv {a t : UInt64} (ha : Jvm.Free.Fl.NoNaN64 a) (ht : Jvm.Free.Fl.NoNaN64 t) : (0 : Int32) < cmpValue (FP.dcmp a t) .g ↔ Jvm.OwnF.V t < Jvm.OwnF.V a := by
  have hc : FP.dcmp a t = some (compare (Jvm.OwnF.V a) (Jvm.OwnF.V t)) := FP.Core.dcmp_zval (nnV ha) (nnV ht)
  rw [hc]
  rcases Int.lt_trichotomy (Jvm.OwnF.V a) (Jvm.OwnF.V t) with w | w | w
  · rw [(FP.Core.compare_lt_iff _ _).mpr w]; exact ⟨fun q => absurd q (by decide), fun q => by omega⟩
  · rw [(FP.Core.compare_eq_iff _ _).mpr w]; exact ⟨fun q => absurd q (by decide), fun q => by omega⟩
  · rw [(FP.Core.compare_gt_iff _ _).mpr w]; exact ⟨fun _ => w, fun _ => by decide⟩
/-- the lesser of two lies above t where both do -/
theorem Gmn {a b m t : UInt64} (ha : TV a) (hb : TV b) (ht : Jvm.Free.Fl.NoNaN64 t) (h : mnf a b = m) : (0 : Int32) < cmpValue (FP.dcmp m t) .g ↔ (0 : Int32) < cmpValue (FP.dcmp a t) .g ∧ (0 : Int32) < cmpValue (FP.dcmp b t) .g := by
  rcases ha with qa | qa
  · rw [qa, mn_na] at h; rw [qa, ← h]; exact ⟨fun q => ⟨Gna t, q⟩, fun q => q.2⟩
  · rcases hb with qb | qb
    · rw [qb, mn_an qa] at h; rw [qb, ← h]; exact ⟨fun q => ⟨q, Gna t⟩, fun q => q.1⟩
    · have nm := nnL qa (Or.inr qb) h
      rw [mn_nn qa qb] at h
      obtain ⟨p1, p2, p3⟩ := pickF qa qb
      rw [h] at p1 p2 p3
      rw [Gv nm ht, Gv qa ht, Gv qb ht]
      rcases Int.lt_trichotomy (Jvm.OwnF.V a) (Jvm.OwnF.V b) with w | w | w
      · rw [p1 w]; omega
      · rcases p3 with e | e <;> rw [e] <;> omega
      · rw [p2 w]; omega
theorem toI {a b : UInt64} (h : a.toInt64 = b.toInt64) : a = b := by
  have := congrArg Int64.toUInt64 h
  simpa using this
/-- compare answers 0 at one and the same double alone -/
theorem cmp0 {m y : UInt64} {r : Int32} (hm : Jvm.Free.Fl.NoNaN64 m) (hy : TV y) (h : cmpf m y = r) (q : r = 0) : y = m := by
  rw [q] at h
  unfold cmpf at h
  simp only [isn_nn hm, if_true] at h
  have key : ∀ w : Int64, lcmpW m.toInt64 w = 0 → m.toInt64 = w := fun w z => (lw_eq _ _).mp z
  by_cases c1 : cmpValue (FP.dcmp m y) .g < (0 : Int32)
  · rw [if_pos c1] at h; exact absurd h (by decide)
  · rw [if_neg c1] at h
    by_cases c2 : (0 : Int32) < cmpValue (FP.dcmp m y) .l
    · rw [if_pos c2] at h; exact absurd h (by decide)
    · rw [if_neg c2] at h
      rcases hy with e | e
      · rw [e, if_neg isn_na] at h
        by_cases c3 : lcmpW m.toInt64 (9221120237041090560 : Int64) = (0 : Int32)
        · have w := key _ c3
          have : m = (9221120237041090560 : UInt64) := toI (by rw [w]; decide)
          rw [this] at hm
          exact absurd naval (nnV hm)
        · rw [if_neg c3] at h
          by_cases c4 : lcmpW m.toInt64 (9221120237041090560 : Int64) < (0 : Int32)
          · rw [if_pos c4] at h; exact absurd h (by decide)
          · rw [if_neg c4] at h; exact absurd h (by decide)
      · rw [if_pos (isn_nn e)] at h
        by_cases c3 : lcmpW m.toInt64 y.toInt64 = (0 : Int32)
        · exact (toI (key _ c3)).symm
        · rw [if_neg c3] at h
          by_cases c4 : lcmpW m.toInt64 y.toInt64 < (0 : Int32)
          · rw [if_pos c4] at h; exact absurd h (by decide)
          · rw [if_neg c4] at h; exact absurd h (by decide)
theorem chL {a b c a' p p' : UInt64} (i : mnf a b = p) (e : a = a') (h : mnf a' b = p') : p = p' := by rw [← i, ← h, e]
theorem chR {a b c b' p p' : UInt64} (i : mnf a b = p) (e : b = b') (h : mnf a b' = p') : p = p' := by rw [← i, ← h, e]
/-- the descent through the tree finds the first -/
theorem first8 {R A4 A8 A10 E0 E1 E2 E3 E4 E5 E6 E7 : Prop} [Decidable R] [Decidable A4] [Decidable A8] [Decidable A10] [Decidable E0] [Decidable E1] [Decidable E2] [Decidable E3] [Decidable E4] [Decidable E5] [Decidable E6] [Decidable E7]
    (h8 : A8 ↔ E0 ∧ E1) (h4 : A4 ↔ (E0 ∧ E1) ∧ (E2 ∧ E3)) (h10 : A10 ↔ E4 ∧ E5) (hR : R ↔ ((E0 ∧ E1) ∧ (E2 ∧ E3)) ∧ ((E4 ∧ E5) ∧ (E6 ∧ E7))) :
    (if R then (0 : Int32) else (if A4 then (if A10 then (if E6 then (8 : Int32) else (7 : Int32)) else (if E4 then (6 : Int32) else (5 : Int32))) else (if A8 then (if E2 then (4 : Int32) else (3 : Int32)) else (if E0 then (2 : Int32) else (1 : Int32))))) = (if E0 then (if E1 then (if E2 then (if E3 then (if E4 then (if E5 then (if E6 then (if E7 then (0 : Int32) else (8 : Int32)) else (7 : Int32)) else (6 : Int32)) else (5 : Int32)) else (4 : Int32)) else (3 : Int32)) else (2 : Int32)) else (1 : Int32)) := by
  simp only [h8, h4, h10, hR]
  by_cases e0 : E0
  · by_cases e1 : E1
    · by_cases e2 : E2
      · by_cases e3 : E3
        · by_cases e4 : E4
          · by_cases e5 : E5
            · by_cases e6 : E6
              · by_cases e7 : E7 <;> simp [e0, e1, e2, e3, e4, e5, e6, e7]
              · simp [e0, e1, e2, e3, e4, e5, e6]
            · simp [e0, e1, e2, e3, e4, e5]
          · simp [e0, e1, e2, e3, e4]
        · simp [e0, e1, e2, e3]
      · simp [e0, e1, e2]
    · simp [e0, e1]
  · simp [e0]
theorem d10_0 : decode jdk_117_method_6_code 0 = .ok (.dload_n 0, 1) := by decide +kernel
theorem d10_1 : decode jdk_117_method_6_code 1 = .ok (.dload_n 0, 1) := by decide +kernel
theorem d10_2 : decode jdk_117_method_6_code 2 = .ok (.dcmp .l, 1) := by decide +kernel
theorem d10_3 : decode jdk_117_method_6_code 3 = .ok (.ifCond .eq 7, 3) := by decide +kernel
theorem d10_10 : decode jdk_117_method_6_code 10 = .ok (.iconst 0, 1) := by decide +kernel
theorem d10_11 : decode jdk_117_method_6_code 11 = .ok (.ireturn, 1) := by decide +kernel
theorem d10_6 : decode jdk_117_method_6_code 6 = .ok (.iconst 1, 1) := by decide +kernel
theorem d10_7 : decode jdk_117_method_6_code 7 = .ok (.goto 4, 3) := by decide +kernel
theorem pn_0 : plainName "java/lang/Double" = true := by first | (simp [plainName, overriddenIn]; done) | decide +kernel
theorem ef_rm10 (m : MethodId) (d0 : UInt64) : entryFrame m #[(.double d0)] 2 = mkF m 0 #[vD d0, s_] [] := by first | (simp [entryFrame, mkF, argsToLocals, Value.category]; done) | rfl
theorem d12_0 : decode jdk_117_method_23_code 0 = .ok (.dload_n 0, 1) := by decide +kernel
theorem d12_1 : decode jdk_117_method_23_code 1 = .ok (.invokestatic 122, 3) := by decide +kernel
theorem pd_0 : parseMethodDescriptor "(D)Z" = some ⟨[.double], some .boolean⟩ := by decide +kernel
theorem d12_4 : decode jdk_117_method_23_code 4 = .ok (.ifCond .ne 8, 3) := by decide +kernel
theorem d12_7 : decode jdk_117_method_23_code 7 = .ok (.dload_n 0, 1) := by decide +kernel
theorem d12_8 : decode jdk_117_method_23_code 8 = .ok (.invokestatic 134, 3) := by decide +kernel
theorem d12_11 : decode jdk_117_method_23_code 11 = .ok (.lreturn, 1) := by decide +kernel
theorem d12_12 : decode jdk_117_method_23_code 12 = .ok (.ldc2_w 137, 3) := by decide +kernel
theorem d12_15 : decode jdk_117_method_23_code 15 = .ok (.lreturn, 1) := by decide +kernel
theorem ef_rm12 (m : MethodId) (d0 : UInt64) : entryFrame m #[(.double d0)] 2 = mkF m 0 #[vD d0, s_] [] := by first | (simp [entryFrame, mkF, argsToLocals, Value.category]; done) | rfl
theorem d11_0 : decode jdk_117_method_27_code 0 = .ok (.dload_n 0, 1) := by decide +kernel
theorem d11_1 : decode jdk_117_method_27_code 1 = .ok (.dload_n 2, 1) := by decide +kernel
theorem d11_2 : decode jdk_117_method_27_code 2 = .ok (.dcmp .g, 1) := by decide +kernel
theorem d11_3 : decode jdk_117_method_27_code 3 = .ok (.ifCond .ge 5, 3) := by decide +kernel
theorem d11_6 : decode jdk_117_method_27_code 6 = .ok (.iconst (-1), 1) := by decide +kernel
theorem d11_7 : decode jdk_117_method_27_code 7 = .ok (.ireturn, 1) := by decide +kernel
theorem d11_8 : decode jdk_117_method_27_code 8 = .ok (.dload_n 0, 1) := by decide +kernel
theorem d11_9 : decode jdk_117_method_27_code 9 = .ok (.dload_n 2, 1) := by decide +kernel
theorem d11_10 : decode jdk_117_method_27_code 10 = .ok (.dcmp .l, 1) := by decide +kernel
theorem d11_11 : decode jdk_117_method_27_code 11 = .ok (.ifCond .le 5, 3) := by decide +kernel
theorem d11_14 : decode jdk_117_method_27_code 14 = .ok (.iconst 1, 1) := by decide +kernel
theorem d11_15 : decode jdk_117_method_27_code 15 = .ok (.ireturn, 1) := by decide +kernel
theorem d11_16 : decode jdk_117_method_27_code 16 = .ok (.dload_n 0, 1) := by decide +kernel
theorem d11_17 : decode jdk_117_method_27_code 17 = .ok (.invokestatic 46, 3) := by decide +kernel
theorem pd_1 : parseMethodDescriptor "(D)J" = some ⟨[.double], some .long⟩ := by decide +kernel
theorem d11_20 : decode jdk_117_method_27_code 20 = .ok (.lstore 4, 2) := by decide +kernel
theorem d11_22 : decode jdk_117_method_27_code 22 = .ok (.dload_n 2, 1) := by decide +kernel
theorem d11_23 : decode jdk_117_method_27_code 23 = .ok (.invokestatic 46, 3) := by decide +kernel
theorem d11_26 : decode jdk_117_method_27_code 26 = .ok (.lstore 6, 2) := by decide +kernel
theorem d11_28 : decode jdk_117_method_27_code 28 = .ok (.lload 4, 2) := by decide +kernel
theorem d11_30 : decode jdk_117_method_27_code 30 = .ok (.lload 6, 2) := by decide +kernel
theorem d11_32 : decode jdk_117_method_27_code 32 = .ok (.lcmp, 1) := by decide +kernel
theorem d11_33 : decode jdk_117_method_27_code 33 = .ok (.ifCond .ne 7, 3) := by decide +kernel
theorem d11_36 : decode jdk_117_method_27_code 36 = .ok (.iconst 0, 1) := by decide +kernel
theorem d11_37 : decode jdk_117_method_27_code 37 = .ok (.goto 16, 3) := by decide +kernel
theorem d11_53 : decode jdk_117_method_27_code 53 = .ok (.ireturn, 1) := by decide +kernel
theorem d11_40 : decode jdk_117_method_27_code 40 = .ok (.lload 4, 2) := by decide +kernel
theorem d11_42 : decode jdk_117_method_27_code 42 = .ok (.lload 6, 2) := by decide +kernel
theorem d11_44 : decode jdk_117_method_27_code 44 = .ok (.lcmp, 1) := by decide +kernel
theorem d11_45 : decode jdk_117_method_27_code 45 = .ok (.ifCond .ge 7, 3) := by decide +kernel
theorem d11_48 : decode jdk_117_method_27_code 48 = .ok (.iconst (-1), 1) := by decide +kernel
theorem d11_49 : decode jdk_117_method_27_code 49 = .ok (.goto 4, 3) := by decide +kernel
theorem d11_52 : decode jdk_117_method_27_code 52 = .ok (.iconst 1, 1) := by decide +kernel
theorem ef_rm11 (m : MethodId) (d0 : UInt64) (d1 : UInt64) : entryFrame m #[(.double d0), (.double d1)] 8 = mkF m 0 #[vD d0, s_, vD d1, s_, u_, u_, u_, u_] [] := by first | (simp [entryFrame, mkF, argsToLocals, Value.category]; done) | rfl
theorem d9_0 : decode prog_28_method_10_code 0 = .ok (.dload_n 0, 1) := by decide +kernel
theorem d9_1 : decode prog_28_method_10_code 1 = .ok (.invokestatic 59, 3) := by decide +kernel
theorem d9_4 : decode prog_28_method_10_code 4 = .ok (.ifCond .eq 9, 3) := by decide +kernel
theorem d9_13 : decode prog_28_method_10_code 13 = .ok (.dload_n 2, 1) := by decide +kernel
theorem d9_14 : decode prog_28_method_10_code 14 = .ok (.invokestatic 59, 3) := by decide +kernel
theorem d9_17 : decode prog_28_method_10_code 17 = .ok (.ifCond .eq 9, 3) := by decide +kernel
theorem d9_26 : decode prog_28_method_10_code 26 = .ok (.dload_n 0, 1) := by decide +kernel
theorem d9_27 : decode prog_28_method_10_code 27 = .ok (.dload_n 2, 1) := by decide +kernel
theorem d9_28 : decode prog_28_method_10_code 28 = .ok (.invokestatic 63, 3) := by decide +kernel
theorem pd_2 : parseMethodDescriptor "(DD)D" = some ⟨[.double, .double], some .double⟩ := by decide +kernel
theorem d9_31 : decode prog_28_method_10_code 31 = .ok (.dstore 4, 2) := by decide +kernel
theorem d9_33 : decode prog_28_method_10_code 33 = .ok (.dload 4, 2) := by decide +kernel
theorem d9_35 : decode prog_28_method_10_code 35 = .ok (.dreturn, 1) := by decide +kernel
theorem d9_20 : decode prog_28_method_10_code 20 = .ok (.dload_n 0, 1) := by decide +kernel
theorem d9_21 : decode prog_28_method_10_code 21 = .ok (.dstore 4, 2) := by decide +kernel
theorem d9_23 : decode prog_28_method_10_code 23 = .ok (.goto 10, 3) := by decide +kernel
theorem d9_7 : decode prog_28_method_10_code 7 = .ok (.dload_n 2, 1) := by decide +kernel
theorem d9_8 : decode prog_28_method_10_code 8 = .ok (.dstore 4, 2) := by decide +kernel
theorem d9_10 : decode prog_28_method_10_code 10 = .ok (.goto 23, 3) := by decide +kernel
theorem pn_1 : plainName "com/example/kinetic_fleet/kineticfleet/fleet/MachineTimes" = true := by first | (simp [plainName, overriddenIn]; done) | decide +kernel
theorem ef_rm9 (m : MethodId) (d0 : UInt64) (d1 : UInt64) : entryFrame m #[(.double d0), (.double d1)] 6 = mkF m 0 #[vD d0, s_, vD d1, s_, u_, u_] [] := by first | (simp [entryFrame, mkF, argsToLocals, Value.category]; done) | rfl
theorem d4_0 : decode jdk_65_method_113_code 0 = .ok (.iconst 0, 1) := by decide +kernel
theorem d4_1 : decode jdk_65_method_113_code 1 = .ok (.istore_n 3, 1) := by decide +kernel
theorem d4_2 : decode jdk_65_method_113_code 2 = .ok (.aload_n 0, 1) := by decide +kernel
theorem d4_3 : decode jdk_65_method_113_code 3 = .ok (.arraylength, 1) := by decide +kernel
theorem d4_4 : decode jdk_65_method_113_code 4 = .ok (.istore 4, 2) := by decide +kernel
theorem d4_6 : decode jdk_65_method_113_code 6 = .ok (.iload_n 3, 1) := by decide +kernel
theorem d4_7 : decode jdk_65_method_113_code 7 = .ok (.iload 4, 2) := by decide +kernel
theorem d4_9 : decode jdk_65_method_113_code 9 = .ok (.if_icmp .ge 13, 3) := by decide +kernel
theorem d4_12 : decode jdk_65_method_113_code 12 = .ok (.aload_n 0, 1) := by decide +kernel
theorem d4_13 : decode jdk_65_method_113_code 13 = .ok (.iload_n 3, 1) := by decide +kernel
theorem d4_14 : decode jdk_65_method_113_code 14 = .ok (.dload_n 1, 1) := by decide +kernel
theorem d4_15 : decode jdk_65_method_113_code 15 = .ok (.dastore, 1) := by decide +kernel
theorem d4_16 : decode jdk_65_method_113_code 16 = .ok (.iinc 3 1, 3) := by decide +kernel
theorem d4_19 : decode jdk_65_method_113_code 19 = .ok (.goto (-13), 3) := by decide +kernel
theorem d4_22 : decode jdk_65_method_113_code 22 = .ok (.return_, 1) := by decide +kernel
theorem pn_2 : plainName "java/util/Arrays" = true := by first | (simp [plainName, overriddenIn]; done) | decide +kernel
theorem ef_rm4 (m : MethodId) (o0 : Addr) (d1 : UInt64) : entryFrame m #[(.ref o0), (.double d1)] 5 = mkF m 0 #[vR o0, vD d1, s_, u_, u_] [] := by first | (simp [entryFrame, mkF, argsToLocals, Value.category]; done) | rfl
theorem d3_0 : decode prog_28_method_9_code 0 = .ok (.iconst 2, 1) := by decide +kernel
theorem d3_1 : decode prog_28_method_9_code 1 = .ok (.iload_n 0, 1) := by decide +kernel
theorem d3_2 : decode prog_28_method_9_code 2 = .ok (.imul, 1) := by decide +kernel
theorem d3_3 : decode prog_28_method_9_code 3 = .ok (.newarray .double, 2) := by decide +kernel
theorem d3_5 : decode prog_28_method_9_code 5 = .ok (.astore_n 1, 1) := by decide +kernel
theorem d3_6 : decode prog_28_method_9_code 6 = .ok (.aload_n 1, 1) := by decide +kernel
theorem d3_7 : decode prog_28_method_9_code 7 = .ok (.ldc2_w 51, 3) := by decide +kernel
theorem d3_10 : decode prog_28_method_9_code 10 = .ok (.invokestatic 53, 3) := by decide +kernel
theorem pd_3 : parseMethodDescriptor "([DD)V" = some ⟨[(.array .double), .double], none⟩ := by decide +kernel
theorem d3_13 : decode prog_28_method_9_code 13 = .ok (.aload_n 1, 1) := by decide +kernel
theorem d3_14 : decode prog_28_method_9_code 14 = .ok (.areturn, 1) := by decide +kernel
theorem ef_rm3 (m : MethodId)  : entryFrame m #[(.int (16 : Int32))] 2 = mkF m 0 #[vI (16 : Int32), u_] [] := by first | (simp [entryFrame, mkF, argsToLocals, Value.category]; done) | rfl
theorem d1_0 : decode prog_28_method_1_code 0 = .ok (.aload_n 0, 1) := by decide +kernel
theorem d1_1 : decode prog_28_method_1_code 1 = .ok (.invokespecial 1, 3) := by decide +kernel
theorem d1_4 : decode prog_28_method_1_code 4 = .ok (.aload_n 0, 1) := by decide +kernel
theorem d1_5 : decode prog_28_method_1_code 5 = .ok (.bipush 16, 2) := by decide +kernel
theorem d1_7 : decode prog_28_method_1_code 7 = .ok (.invokestatic 9, 3) := by decide +kernel
theorem pd_4 : parseMethodDescriptor "(I)[D" = some ⟨[.int], some (.array .double)⟩ := by decide +kernel
theorem d1_10 : decode prog_28_method_1_code 10 = .ok (.putfield 13, 3) := by decide +kernel
theorem d1_13 : decode prog_28_method_1_code 13 = .ok (.aload_n 0, 1) := by decide +kernel
theorem d1_14 : decode prog_28_method_1_code 14 = .ok (.bipush 16, 2) := by decide +kernel
theorem d1_16 : decode prog_28_method_1_code 16 = .ok (.putfield 17, 3) := by decide +kernel
theorem d1_19 : decode prog_28_method_1_code 19 = .ok (.return_, 1) := by decide +kernel
theorem ef_rm1 (m : MethodId) (o0 : Addr) : entryFrame m #[(.ref o0)] 1 = mkF m 0 #[vR o0] [] := by first | (simp [entryFrame, mkF, argsToLocals, Value.category]; done) | rfl
theorem d8_24 : decode prog_28_method_3_code 24 = .ok (.iload 4, 2) := by decide +kernel
theorem d8_26 : decode prog_28_method_3_code 26 = .ok (.iconst 1, 1) := by decide +kernel
theorem d8_27 : decode prog_28_method_3_code 27 = .ok (.if_icmp .lt 74, 3) := by decide +kernel
theorem d8_30 : decode prog_28_method_3_code 30 = .ok (.aload_n 0, 1) := by decide +kernel
theorem d8_31 : decode prog_28_method_3_code 31 = .ok (.getfield 13, 3) := by decide +kernel
theorem d8_34 : decode prog_28_method_3_code 34 = .ok (.iconst 2, 1) := by decide +kernel
theorem d8_35 : decode prog_28_method_3_code 35 = .ok (.iload 4, 2) := by decide +kernel
theorem d8_37 : decode prog_28_method_3_code 37 = .ok (.imul, 1) := by decide +kernel
theorem d8_38 : decode prog_28_method_3_code 38 = .ok (.daload, 1) := by decide +kernel
theorem d8_39 : decode prog_28_method_3_code 39 = .ok (.aload_n 0, 1) := by decide +kernel
theorem d8_40 : decode prog_28_method_3_code 40 = .ok (.getfield 13, 3) := by decide +kernel
theorem d8_43 : decode prog_28_method_3_code 43 = .ok (.iconst 2, 1) := by decide +kernel
theorem d8_44 : decode prog_28_method_3_code 44 = .ok (.iload 4, 2) := by decide +kernel
theorem d8_46 : decode prog_28_method_3_code 46 = .ok (.imul, 1) := by decide +kernel
theorem d8_47 : decode prog_28_method_3_code 47 = .ok (.iconst 1, 1) := by decide +kernel
theorem d8_48 : decode prog_28_method_3_code 48 = .ok (.iadd, 1) := by decide +kernel
theorem d8_49 : decode prog_28_method_3_code 49 = .ok (.daload, 1) := by decide +kernel
theorem d8_50 : decode prog_28_method_3_code 50 = .ok (.invokestatic 31, 3) := by decide +kernel
theorem d8_53 : decode prog_28_method_3_code 53 = .ok (.dstore 5, 2) := by decide +kernel
theorem d8_55 : decode prog_28_method_3_code 55 = .ok (.aload_n 0, 1) := by decide +kernel
theorem d8_56 : decode prog_28_method_3_code 56 = .ok (.dup, 1) := by decide +kernel
theorem d8_57 : decode prog_28_method_3_code 57 = .ok (.getfield 35, 3) := by decide +kernel
theorem d8_60 : decode prog_28_method_3_code 60 = .ok (.lconst 1, 1) := by decide +kernel
theorem d8_61 : decode prog_28_method_3_code 61 = .ok (.ladd, 1) := by decide +kernel
theorem d8_62 : decode prog_28_method_3_code 62 = .ok (.putfield 35, 3) := by decide +kernel
theorem d8_65 : decode prog_28_method_3_code 65 = .ok (.dload 5, 2) := by decide +kernel
theorem d8_67 : decode prog_28_method_3_code 67 = .ok (.aload_n 0, 1) := by decide +kernel
theorem d8_68 : decode prog_28_method_3_code 68 = .ok (.getfield 13, 3) := by decide +kernel
theorem d8_71 : decode prog_28_method_3_code 71 = .ok (.iload 4, 2) := by decide +kernel
theorem d8_73 : decode prog_28_method_3_code 73 = .ok (.daload, 1) := by decide +kernel
theorem d8_74 : decode prog_28_method_3_code 74 = .ok (.invokestatic 39, 3) := by decide +kernel
theorem pd_5 : parseMethodDescriptor "(DD)I" = some ⟨[.double, .double], some .int⟩ := by decide +kernel
theorem d8_77 : decode prog_28_method_3_code 77 = .ok (.ifCond .ne 6, 3) := by decide +kernel
theorem d8_80 : decode prog_28_method_3_code 80 = .ok (.goto 21, 3) := by decide +kernel
theorem d8_101 : decode prog_28_method_3_code 101 = .ok (.return_, 1) := by decide +kernel
theorem d8_83 : decode prog_28_method_3_code 83 = .ok (.aload_n 0, 1) := by decide +kernel
theorem d8_84 : decode prog_28_method_3_code 84 = .ok (.getfield 13, 3) := by decide +kernel
theorem d8_87 : decode prog_28_method_3_code 87 = .ok (.iload 4, 2) := by decide +kernel
theorem d8_89 : decode prog_28_method_3_code 89 = .ok (.dload 5, 2) := by decide +kernel
theorem d8_91 : decode prog_28_method_3_code 91 = .ok (.dastore, 1) := by decide +kernel
theorem d8_92 : decode prog_28_method_3_code 92 = .ok (.iload 4, 2) := by decide +kernel
theorem d8_94 : decode prog_28_method_3_code 94 = .ok (.iconst 2, 1) := by decide +kernel
theorem d8_95 : decode prog_28_method_3_code 95 = .ok (.idiv, 1) := by decide +kernel
theorem d8_96 : decode prog_28_method_3_code 96 = .ok (.istore 4, 2) := by decide +kernel
theorem d8_98 : decode prog_28_method_3_code 98 = .ok (.goto (-74), 3) := by decide +kernel
theorem d8_0 : decode prog_28_method_3_code 0 = .ok (.aload_n 0, 1) := by decide +kernel
theorem d8_1 : decode prog_28_method_3_code 1 = .ok (.getfield 17, 3) := by decide +kernel
theorem d8_4 : decode prog_28_method_3_code 4 = .ok (.iload_n 1, 1) := by decide +kernel
theorem d8_5 : decode prog_28_method_3_code 5 = .ok (.iadd, 1) := by decide +kernel
theorem d8_6 : decode prog_28_method_3_code 6 = .ok (.iconst 1, 1) := by decide +kernel
theorem d8_7 : decode prog_28_method_3_code 7 = .ok (.isub, 1) := by decide +kernel
theorem d8_8 : decode prog_28_method_3_code 8 = .ok (.istore 4, 2) := by decide +kernel
theorem d8_10 : decode prog_28_method_3_code 10 = .ok (.aload_n 0, 1) := by decide +kernel
theorem d8_11 : decode prog_28_method_3_code 11 = .ok (.getfield 13, 3) := by decide +kernel
theorem d8_14 : decode prog_28_method_3_code 14 = .ok (.iload 4, 2) := by decide +kernel
theorem d8_16 : decode prog_28_method_3_code 16 = .ok (.dload_n 2, 1) := by decide +kernel
theorem d8_17 : decode prog_28_method_3_code 17 = .ok (.dastore, 1) := by decide +kernel
theorem d8_18 : decode prog_28_method_3_code 18 = .ok (.iload 4, 2) := by decide +kernel
theorem d8_20 : decode prog_28_method_3_code 20 = .ok (.iconst 2, 1) := by decide +kernel
theorem d8_21 : decode prog_28_method_3_code 21 = .ok (.idiv, 1) := by decide +kernel
theorem d8_22 : decode prog_28_method_3_code 22 = .ok (.istore 4, 2) := by decide +kernel
theorem ef_rm8_1 (m : MethodId) (o0 : Addr) (d2 : UInt64) : entryFrame m #[(.ref o0), (.int (1 : Int32)), (.double d2)] 7 = mkF m 0 #[vR o0, vI (1 : Int32), vD d2, s_, u_, u_, u_] [] := by first | (simp [entryFrame, mkF, argsToLocals, Value.category]; done) | rfl
theorem d7_0 : decode prog_28_method_2_code 0 = .ok (.aload_n 0, 1) := by decide +kernel
theorem d7_1 : decode prog_28_method_2_code 1 = .ok (.getfield 21, 3) := by decide +kernel
theorem d7_4 : decode prog_28_method_2_code 4 = .ok (.aload_n 0, 1) := by decide +kernel
theorem d7_5 : decode prog_28_method_2_code 5 = .ok (.getfield 17, 3) := by decide +kernel
theorem d7_8 : decode prog_28_method_2_code 8 = .ok (.if_icmp .ne 7, 3) := by decide +kernel
theorem d7_15 : decode prog_28_method_2_code 15 = .ok (.aload_n 0, 1) := by decide +kernel
theorem d7_16 : decode prog_28_method_2_code 16 = .ok (.dup, 1) := by decide +kernel
theorem d7_17 : decode prog_28_method_2_code 17 = .ok (.getfield 21, 3) := by decide +kernel
theorem d7_20 : decode prog_28_method_2_code 20 = .ok (.iconst 1, 1) := by decide +kernel
theorem d7_21 : decode prog_28_method_2_code 21 = .ok (.iadd, 1) := by decide +kernel
theorem d7_22 : decode prog_28_method_2_code 22 = .ok (.putfield 21, 3) := by decide +kernel
theorem d7_25 : decode prog_28_method_2_code 25 = .ok (.aload_n 0, 1) := by decide +kernel
theorem d7_26 : decode prog_28_method_2_code 26 = .ok (.aload_n 0, 1) := by decide +kernel
theorem d7_27 : decode prog_28_method_2_code 27 = .ok (.getfield 21, 3) := by decide +kernel
theorem d7_30 : decode prog_28_method_2_code 30 = .ok (.dload_n 1, 1) := by decide +kernel
theorem d7_31 : decode prog_28_method_2_code 31 = .ok (.invokevirtual 27, 3) := by decide +kernel
theorem pd_6 : parseMethodDescriptor "(ID)V" = some ⟨[.int, .double], none⟩ := by decide +kernel
theorem d7_34 : decode prog_28_method_2_code 34 = .ok (.return_, 1) := by decide +kernel
theorem ef_rm7_1 (m : MethodId) (o0 : Addr) (d1 : UInt64) : entryFrame m #[(.ref o0), (.double d1)] 3 = mkF m 0 #[vR o0, vD d1, s_] [] := by first | (simp [entryFrame, mkF, argsToLocals, Value.category]; done) | rfl
theorem ef_rm8_2 (m : MethodId) (o0 : Addr) (d2 : UInt64) : entryFrame m #[(.ref o0), (.int (2 : Int32)), (.double d2)] 7 = mkF m 0 #[vR o0, vI (2 : Int32), vD d2, s_, u_, u_, u_] [] := by first | (simp [entryFrame, mkF, argsToLocals, Value.category]; done) | rfl
theorem ef_rm7_2 (m : MethodId) (o0 : Addr) (d1 : UInt64) : entryFrame m #[(.ref o0), (.double d1)] 3 = mkF m 0 #[vR o0, vD d1, s_] [] := by first | (simp [entryFrame, mkF, argsToLocals, Value.category]; done) | rfl
theorem ef_rm8_3 (m : MethodId) (o0 : Addr) (d2 : UInt64) : entryFrame m #[(.ref o0), (.int (3 : Int32)), (.double d2)] 7 = mkF m 0 #[vR o0, vI (3 : Int32), vD d2, s_, u_, u_, u_] [] := by first | (simp [entryFrame, mkF, argsToLocals, Value.category]; done) | rfl
theorem ef_rm7_3 (m : MethodId) (o0 : Addr) (d1 : UInt64) : entryFrame m #[(.ref o0), (.double d1)] 3 = mkF m 0 #[vR o0, vD d1, s_] [] := by first | (simp [entryFrame, mkF, argsToLocals, Value.category]; done) | rfl
theorem ef_rm8_4 (m : MethodId) (o0 : Addr) (d2 : UInt64) : entryFrame m #[(.ref o0), (.int (4 : Int32)), (.double d2)] 7 = mkF m 0 #[vR o0, vI (4 : Int32), vD d2, s_, u_, u_, u_] [] := by first | (simp [entryFrame, mkF, argsToLocals, Value.category]; done) | rfl
theorem ef_rm7_4 (m : MethodId) (o0 : Addr) (d1 : UInt64) : entryFrame m #[(.ref o0), (.double d1)] 3 = mkF m 0 #[vR o0, vD d1, s_] [] := by first | (simp [entryFrame, mkF, argsToLocals, Value.category]; done) | rfl
theorem ef_rm8_5 (m : MethodId) (o0 : Addr) (d2 : UInt64) : entryFrame m #[(.ref o0), (.int (5 : Int32)), (.double d2)] 7 = mkF m 0 #[vR o0, vI (5 : Int32), vD d2, s_, u_, u_, u_] [] := by first | (simp [entryFrame, mkF, argsToLocals, Value.category]; done) | rfl
theorem ef_rm7_5 (m : MethodId) (o0 : Addr) (d1 : UInt64) : entryFrame m #[(.ref o0), (.double d1)] 3 = mkF m 0 #[vR o0, vD d1, s_] [] := by first | (simp [entryFrame, mkF, argsToLocals, Value.category]; done) | rfl
theorem ef_rm8_6 (m : MethodId) (o0 : Addr) (d2 : UInt64) : entryFrame m #[(.ref o0), (.int (6 : Int32)), (.double d2)] 7 = mkF m 0 #[vR o0, vI (6 : Int32), vD d2, s_, u_, u_, u_] [] := by first | (simp [entryFrame, mkF, argsToLocals, Value.category]; done) | rfl
theorem ef_rm7_6 (m : MethodId) (o0 : Addr) (d1 : UInt64) : entryFrame m #[(.ref o0), (.double d1)] 3 = mkF m 0 #[vR o0, vD d1, s_] [] := by first | (simp [entryFrame, mkF, argsToLocals, Value.category]; done) | rfl
theorem ef_rm8_7 (m : MethodId) (o0 : Addr) (d2 : UInt64) : entryFrame m #[(.ref o0), (.int (7 : Int32)), (.double d2)] 7 = mkF m 0 #[vR o0, vI (7 : Int32), vD d2, s_, u_, u_, u_] [] := by first | (simp [entryFrame, mkF, argsToLocals, Value.category]; done) | rfl
theorem ef_rm7_7 (m : MethodId) (o0 : Addr) (d1 : UInt64) : entryFrame m #[(.ref o0), (.double d1)] 3 = mkF m 0 #[vR o0, vD d1, s_] [] := by first | (simp [entryFrame, mkF, argsToLocals, Value.category]; done) | rfl
theorem ef_rm8_8 (m : MethodId) (o0 : Addr) (d2 : UInt64) : entryFrame m #[(.ref o0), (.int (8 : Int32)), (.double d2)] 7 = mkF m 0 #[vR o0, vI (8 : Int32), vD d2, s_, u_, u_, u_] [] := by first | (simp [entryFrame, mkF, argsToLocals, Value.category]; done) | rfl
theorem ef_rm7_8 (m : MethodId) (o0 : Addr) (d1 : UInt64) : entryFrame m #[(.ref o0), (.double d1)] 3 = mkF m 0 #[vR o0, vD d1, s_] [] := by first | (simp [entryFrame, mkF, argsToLocals, Value.category]; done) | rfl
theorem d5_0 : decode prog_28_method_6_code 0 = .ok (.aload_n 0, 1) := by decide +kernel
theorem d5_1 : decode prog_28_method_6_code 1 = .ok (.getfield 13, 3) := by decide +kernel
theorem d5_4 : decode prog_28_method_6_code 4 = .ok (.iconst 1, 1) := by decide +kernel
theorem d5_5 : decode prog_28_method_6_code 5 = .ok (.daload, 1) := by decide +kernel
theorem d5_6 : decode prog_28_method_6_code 6 = .ok (.dload_n 1, 1) := by decide +kernel
theorem d5_7 : decode prog_28_method_6_code 7 = .ok (.dcmp .g, 1) := by decide +kernel
theorem d5_8 : decode prog_28_method_6_code 8 = .ok (.ifCond .le 5, 3) := by decide +kernel
theorem d5_11 : decode prog_28_method_6_code 11 = .ok (.iconst 0, 1) := by decide +kernel
theorem d5_12 : decode prog_28_method_6_code 12 = .ok (.ireturn, 1) := by decide +kernel
theorem d5_13 : decode prog_28_method_6_code 13 = .ok (.iconst 1, 1) := by decide +kernel
theorem d5_14 : decode prog_28_method_6_code 14 = .ok (.istore_n 3, 1) := by decide +kernel
theorem d5_15 : decode prog_28_method_6_code 15 = .ok (.iload_n 3, 1) := by decide +kernel
theorem d5_16 : decode prog_28_method_6_code 16 = .ok (.aload_n 0, 1) := by decide +kernel
theorem d5_17 : decode prog_28_method_6_code 17 = .ok (.getfield 17, 3) := by decide +kernel
theorem d5_20 : decode prog_28_method_6_code 20 = .ok (.if_icmp .ge 41, 3) := by decide +kernel
theorem d5_23 : decode prog_28_method_6_code 23 = .ok (.aload_n 0, 1) := by decide +kernel
theorem d5_24 : decode prog_28_method_6_code 24 = .ok (.getfield 13, 3) := by decide +kernel
theorem d5_27 : decode prog_28_method_6_code 27 = .ok (.iconst 2, 1) := by decide +kernel
theorem d5_28 : decode prog_28_method_6_code 28 = .ok (.iload_n 3, 1) := by decide +kernel
theorem d5_29 : decode prog_28_method_6_code 29 = .ok (.imul, 1) := by decide +kernel
theorem d5_30 : decode prog_28_method_6_code 30 = .ok (.daload, 1) := by decide +kernel
theorem d5_31 : decode prog_28_method_6_code 31 = .ok (.dload_n 1, 1) := by decide +kernel
theorem d5_32 : decode prog_28_method_6_code 32 = .ok (.dcmp .g, 1) := by decide +kernel
theorem d5_33 : decode prog_28_method_6_code 33 = .ok (.ifCond .gt 9, 3) := by decide +kernel
theorem d5_36 : decode prog_28_method_6_code 36 = .ok (.iconst 2, 1) := by decide +kernel
theorem d5_37 : decode prog_28_method_6_code 37 = .ok (.iload_n 3, 1) := by decide +kernel
theorem d5_38 : decode prog_28_method_6_code 38 = .ok (.imul, 1) := by decide +kernel
theorem d5_39 : decode prog_28_method_6_code 39 = .ok (.goto 8, 3) := by decide +kernel
theorem d5_47 : decode prog_28_method_6_code 47 = .ok (.istore_n 3, 1) := by decide +kernel
theorem d5_48 : decode prog_28_method_6_code 48 = .ok (.aload_n 0, 1) := by decide +kernel
theorem d5_49 : decode prog_28_method_6_code 49 = .ok (.dup, 1) := by decide +kernel
theorem d5_50 : decode prog_28_method_6_code 50 = .ok (.getfield 35, 3) := by decide +kernel
theorem d5_53 : decode prog_28_method_6_code 53 = .ok (.lconst 1, 1) := by decide +kernel
theorem d5_54 : decode prog_28_method_6_code 54 = .ok (.ladd, 1) := by decide +kernel
theorem d5_55 : decode prog_28_method_6_code 55 = .ok (.putfield 35, 3) := by decide +kernel
theorem d5_58 : decode prog_28_method_6_code 58 = .ok (.goto (-43), 3) := by decide +kernel
theorem d5_42 : decode prog_28_method_6_code 42 = .ok (.iconst 2, 1) := by decide +kernel
theorem d5_43 : decode prog_28_method_6_code 43 = .ok (.iload_n 3, 1) := by decide +kernel
theorem d5_44 : decode prog_28_method_6_code 44 = .ok (.imul, 1) := by decide +kernel
theorem d5_45 : decode prog_28_method_6_code 45 = .ok (.iconst 1, 1) := by decide +kernel
theorem d5_46 : decode prog_28_method_6_code 46 = .ok (.iadd, 1) := by decide +kernel
theorem d5_61 : decode prog_28_method_6_code 61 = .ok (.iload_n 3, 1) := by decide +kernel
theorem d5_62 : decode prog_28_method_6_code 62 = .ok (.aload_n 0, 1) := by decide +kernel
theorem d5_63 : decode prog_28_method_6_code 63 = .ok (.getfield 17, 3) := by decide +kernel
theorem d5_66 : decode prog_28_method_6_code 66 = .ok (.isub, 1) := by decide +kernel
theorem d5_67 : decode prog_28_method_6_code 67 = .ok (.iconst 1, 1) := by decide +kernel
theorem d5_68 : decode prog_28_method_6_code 68 = .ok (.iadd, 1) := by decide +kernel
theorem d5_69 : decode prog_28_method_6_code 69 = .ok (.ireturn, 1) := by decide +kernel
theorem ef_rm5 (m : MethodId) (o0 : Addr) (d1 : UInt64) : entryFrame m #[(.ref o0), (.double d1)] 4 = mkF m 0 #[vR o0, vD d1, s_, u_] [] := by first | (simp [entryFrame, mkF, argsToLocals, Value.category]; done) | rfl
theorem d6_0 : decode method_3_code 0 = .ok (.iload_n 1, 1) := by decide +kernel
theorem d6_1 : decode method_3_code 1 = .ok (.ifCond .le 13, 3) := by decide +kernel
theorem d6_4 : decode method_3_code 4 = .ok (.aload_n 0, 1) := by decide +kernel
theorem d6_5 : decode method_3_code 5 = .ok (.iconst 0, 1) := by decide +kernel
theorem d6_6 : decode method_3_code 6 = .ok (.daload, 1) := by decide +kernel
theorem d6_7 : decode method_3_code 7 = .ok (.dload_n 2, 1) := by decide +kernel
theorem d6_8 : decode method_3_code 8 = .ok (.dcmp .g, 1) := by decide +kernel
theorem d6_9 : decode method_3_code 9 = .ok (.ifCond .gt 5, 3) := by decide +kernel
theorem d6_14 : decode method_3_code 14 = .ok (.iload_n 1, 1) := by decide +kernel
theorem d6_15 : decode method_3_code 15 = .ok (.iconst 1, 1) := by decide +kernel
theorem d6_16 : decode method_3_code 16 = .ok (.if_icmp .le 13, 3) := by decide +kernel
theorem d6_19 : decode method_3_code 19 = .ok (.aload_n 0, 1) := by decide +kernel
theorem d6_20 : decode method_3_code 20 = .ok (.iconst 1, 1) := by decide +kernel
theorem d6_21 : decode method_3_code 21 = .ok (.daload, 1) := by decide +kernel
theorem d6_22 : decode method_3_code 22 = .ok (.dload_n 2, 1) := by decide +kernel
theorem d6_23 : decode method_3_code 23 = .ok (.dcmp .g, 1) := by decide +kernel
theorem d6_24 : decode method_3_code 24 = .ok (.ifCond .gt 5, 3) := by decide +kernel
theorem d6_29 : decode method_3_code 29 = .ok (.iload_n 1, 1) := by decide +kernel
theorem d6_30 : decode method_3_code 30 = .ok (.iconst 2, 1) := by decide +kernel
theorem d6_31 : decode method_3_code 31 = .ok (.if_icmp .le 13, 3) := by decide +kernel
theorem d6_34 : decode method_3_code 34 = .ok (.aload_n 0, 1) := by decide +kernel
theorem d6_35 : decode method_3_code 35 = .ok (.iconst 2, 1) := by decide +kernel
theorem d6_36 : decode method_3_code 36 = .ok (.daload, 1) := by decide +kernel
theorem d6_37 : decode method_3_code 37 = .ok (.dload_n 2, 1) := by decide +kernel
theorem d6_38 : decode method_3_code 38 = .ok (.dcmp .g, 1) := by decide +kernel
theorem d6_39 : decode method_3_code 39 = .ok (.ifCond .gt 5, 3) := by decide +kernel
theorem d6_44 : decode method_3_code 44 = .ok (.iload_n 1, 1) := by decide +kernel
theorem d6_45 : decode method_3_code 45 = .ok (.iconst 3, 1) := by decide +kernel
theorem d6_46 : decode method_3_code 46 = .ok (.if_icmp .le 13, 3) := by decide +kernel
theorem d6_49 : decode method_3_code 49 = .ok (.aload_n 0, 1) := by decide +kernel
theorem d6_50 : decode method_3_code 50 = .ok (.iconst 3, 1) := by decide +kernel
theorem d6_51 : decode method_3_code 51 = .ok (.daload, 1) := by decide +kernel
theorem d6_52 : decode method_3_code 52 = .ok (.dload_n 2, 1) := by decide +kernel
theorem d6_53 : decode method_3_code 53 = .ok (.dcmp .g, 1) := by decide +kernel
theorem d6_54 : decode method_3_code 54 = .ok (.ifCond .gt 5, 3) := by decide +kernel
theorem d6_59 : decode method_3_code 59 = .ok (.iload_n 1, 1) := by decide +kernel
theorem d6_60 : decode method_3_code 60 = .ok (.iconst 4, 1) := by decide +kernel
theorem d6_61 : decode method_3_code 61 = .ok (.if_icmp .le 13, 3) := by decide +kernel
theorem d6_64 : decode method_3_code 64 = .ok (.aload_n 0, 1) := by decide +kernel
theorem d6_65 : decode method_3_code 65 = .ok (.iconst 4, 1) := by decide +kernel
theorem d6_66 : decode method_3_code 66 = .ok (.daload, 1) := by decide +kernel
theorem d6_67 : decode method_3_code 67 = .ok (.dload_n 2, 1) := by decide +kernel
theorem d6_68 : decode method_3_code 68 = .ok (.dcmp .g, 1) := by decide +kernel
theorem d6_69 : decode method_3_code 69 = .ok (.ifCond .gt 5, 3) := by decide +kernel
theorem d6_74 : decode method_3_code 74 = .ok (.iload_n 1, 1) := by decide +kernel
theorem d6_75 : decode method_3_code 75 = .ok (.iconst 5, 1) := by decide +kernel
theorem d6_76 : decode method_3_code 76 = .ok (.if_icmp .le 14, 3) := by decide +kernel
theorem d6_79 : decode method_3_code 79 = .ok (.aload_n 0, 1) := by decide +kernel
theorem d6_80 : decode method_3_code 80 = .ok (.iconst 5, 1) := by decide +kernel
theorem d6_81 : decode method_3_code 81 = .ok (.daload, 1) := by decide +kernel
theorem d6_82 : decode method_3_code 82 = .ok (.dload_n 2, 1) := by decide +kernel
theorem d6_83 : decode method_3_code 83 = .ok (.dcmp .g, 1) := by decide +kernel
theorem d6_84 : decode method_3_code 84 = .ok (.ifCond .gt 6, 3) := by decide +kernel
theorem d6_90 : decode method_3_code 90 = .ok (.iload_n 1, 1) := by decide +kernel
theorem d6_91 : decode method_3_code 91 = .ok (.bipush 6, 2) := by decide +kernel
theorem d6_93 : decode method_3_code 93 = .ok (.if_icmp .le 15, 3) := by decide +kernel
theorem d6_96 : decode method_3_code 96 = .ok (.aload_n 0, 1) := by decide +kernel
theorem d6_97 : decode method_3_code 97 = .ok (.bipush 6, 2) := by decide +kernel
theorem d6_99 : decode method_3_code 99 = .ok (.daload, 1) := by decide +kernel
theorem d6_100 : decode method_3_code 100 = .ok (.dload_n 2, 1) := by decide +kernel
theorem d6_101 : decode method_3_code 101 = .ok (.dcmp .g, 1) := by decide +kernel
theorem d6_102 : decode method_3_code 102 = .ok (.ifCond .gt 6, 3) := by decide +kernel
theorem d6_108 : decode method_3_code 108 = .ok (.iload_n 1, 1) := by decide +kernel
theorem d6_109 : decode method_3_code 109 = .ok (.bipush 7, 2) := by decide +kernel
theorem d6_111 : decode method_3_code 111 = .ok (.if_icmp .le 15, 3) := by decide +kernel
theorem d6_114 : decode method_3_code 114 = .ok (.aload_n 0, 1) := by decide +kernel
theorem d6_115 : decode method_3_code 115 = .ok (.bipush 7, 2) := by decide +kernel
theorem d6_117 : decode method_3_code 117 = .ok (.daload, 1) := by decide +kernel
theorem d6_118 : decode method_3_code 118 = .ok (.dload_n 2, 1) := by decide +kernel
theorem d6_119 : decode method_3_code 119 = .ok (.dcmp .g, 1) := by decide +kernel
theorem d6_120 : decode method_3_code 120 = .ok (.ifCond .gt 6, 3) := by decide +kernel
theorem d6_126 : decode method_3_code 126 = .ok (.iconst 0, 1) := by decide +kernel
theorem d6_127 : decode method_3_code 127 = .ok (.ireturn, 1) := by decide +kernel
theorem d6_123 : decode method_3_code 123 = .ok (.bipush 8, 2) := by decide +kernel
theorem d6_125 : decode method_3_code 125 = .ok (.ireturn, 1) := by decide +kernel
theorem d6_105 : decode method_3_code 105 = .ok (.bipush 7, 2) := by decide +kernel
theorem d6_107 : decode method_3_code 107 = .ok (.ireturn, 1) := by decide +kernel
theorem d6_87 : decode method_3_code 87 = .ok (.bipush 6, 2) := by decide +kernel
theorem d6_89 : decode method_3_code 89 = .ok (.ireturn, 1) := by decide +kernel
theorem d6_72 : decode method_3_code 72 = .ok (.iconst 5, 1) := by decide +kernel
theorem d6_73 : decode method_3_code 73 = .ok (.ireturn, 1) := by decide +kernel
theorem d6_57 : decode method_3_code 57 = .ok (.iconst 4, 1) := by decide +kernel
theorem d6_58 : decode method_3_code 58 = .ok (.ireturn, 1) := by decide +kernel
theorem d6_42 : decode method_3_code 42 = .ok (.iconst 3, 1) := by decide +kernel
theorem d6_43 : decode method_3_code 43 = .ok (.ireturn, 1) := by decide +kernel
theorem d6_27 : decode method_3_code 27 = .ok (.iconst 2, 1) := by decide +kernel
theorem d6_28 : decode method_3_code 28 = .ok (.ireturn, 1) := by decide +kernel
theorem d6_12 : decode method_3_code 12 = .ok (.iconst 1, 1) := by decide +kernel
theorem d6_13 : decode method_3_code 13 = .ok (.ireturn, 1) := by decide +kernel
theorem pn_3 : plainName "com/example/kinetic_fleet/kineticfleet/fleet/MachineTimesFirstByPinLaw" = true := by first | (simp [plainName, overriddenIn]; done) | decide +kernel
theorem ef_rm6 (m : MethodId) (o0 : Addr) (p1 : Int32) (d2 : UInt64) : entryFrame m #[(.ref o0), (.int p1), (.double d2)] 4 = mkF m 0 #[vR o0, vI p1, vD d2, s_] [] := by first | (simp [entryFrame, mkF, argsToLocals, Value.category]; done) | rfl
theorem pd_7 : parseMethodDescriptor "()V" = some ⟨[], none⟩ := by decide +kernel
theorem pd_8 : parseMethodDescriptor "(D)V" = some ⟨[.double], none⟩ := by decide +kernel
theorem pd_9 : parseMethodDescriptor "(D)I" = some ⟨[.double], some .int⟩ := by decide +kernel
theorem pd_10 : parseMethodDescriptor "([DID)I" = some ⟨[(.array .double), .int, .double], some .int⟩ := by decide +kernel
theorem ef_rm0 (m : MethodId) (p0 : Int32) (q1 : Int64) (p2 : Int32) (p3 : Int32) : entryFrame m #[(.int p0), (.long q1), (.int p2), (.int p3)] maxLocals = mkF m 0 #[vI p0, vJ q1, s_, vI p2, vI p3, u_, u_, u_, u_, u_, u_, u_, u_, u_] [] := by first | (simp [entryFrame, mkF, argsToLocals, Value.category, maxLocals]; done) | rfl
def Q10 (Z : State) (d0 : UInt64) (z2 rv : Int32) (h0 : Heap) (n0 : Nat) (v : Option Value) (h : Heap) (L : List Loc) : Prop := v = some (.int rv) ∧ Fr n0 L ∧ h = h0
set_option maxRecDepth 65536 in
set_option maxHeartbeats 40000000 in
theorem rm10 (l : Launch) (Z : State) (a0 : Array Value) (hw : ∀ d ∈ tables_1, d.before a0 Z = true) (ws : List Jvm.Cond) (d0 : UInt64) (z2 rv : Int32) (h0 : Heap) (n0 : Nat) (Z0 : n0 ≤ h0.size) (hz2 : cmpValue (FP.dcmp d0 d0) .l = z2) (hrv : (if z2 = (0 : Int32) then (0 : Int32) else (1 : Int32)) = rv) :
    MetFree l (⟨"java/lang/Double", "isNaN", "(D)Z"⟩ : MethodName) (head1 (Jvm.Cond.code (⟨"java/lang/Double", "isNaN", "(D)Z"⟩ : MethodName) jdk_117_method_6_code 2 (some .boolean) :: ws) ({ frames := 0, cells := 0, slots := 0, locals := 0 } : Room)) (fun a U => a = #[(.double d0)] ∧ Z.Warmed39 U.vm ∧ U.heap = h0) (fun _ _ _ _ _ => True) (fun _ U o U' => ∃ v L, o = .returned v ∧ Q10 Z d0 z2 rv h0 n0 v U'.heap L ∧ FrameEnd U o U' L ({ frames := 0, cells := 0, slots := 0, locals := 0 } : Room).cells ({ frames := 0, cells := 0, slots := 0, locals := 0 } : Room).slots) := by
  refine MetFree.of_bodySF (plainFor_of_name pn_0) hisR ?_
  intro p e s m args below meth c s₁ Bd hml0 hP hK
  obtain ⟨rfl, hZ, hh⟩ := hP
  have hx := Bd.exec
  have hby := Bd.bytes
  have hml : c.maxLocals = 2 := hml0
  have hown : s.vm.findClass "java/lang/Double" = some m.cls := findClass_of_methodNamed Bd.named
  have hnm := (name_of_methodNamed Bd.named Bd.method).1
  have X0 : Stand p l e ({ frames := 0, cells := 0, slots := 0, locals := 0 } : Room) s m #[(.double d0)] below meth c s₁ [] 0 0 := Stand.of_body Bd
  have e0 : s₁.heap = h0 := by rw [← hh, Bd.state]; rfl
  have N0 := Fr.nil n0
  have c0 : ∀ t, Steps p.tables e below (s₁.setTop (mkF m 0 #[vD d0, s_] [])) t → Steps p.tables e below (s₁.setTop (entryFrame m #[(.double d0)] 2)) t := fun t k => castTop (ef_rm10 m d0) k
  have c1 : ∀ t, Steps p.tables e below (s₁.setTop (mkF m 3 #[vD d0, s_] [(.int z2)])) t → Steps p.tables e below (s₁.setTop (entryFrame m #[(.double d0)] 2)) t := by
    intro t k
    refine c0 t ?_
    show Steps p.tables e below (s₁.setTop (mkF m 0 #[vD d0, s_] [])) _
    refine XS.dloadN X0.here hx rfl (hb hby d10_0) rfl ?_
    refine XS.dloadN X0.here hx rfl (hb hby d10_1) rfl ?_
    refine XS.dcmpS X0.here hx rfl (hb hby d10_2) rfl hz2 ?_
    exact k
  by_cases hb3 : z2 = (0 : Int32)
  · skip
    have c2 : ∀ t, Steps p.tables e below (s₁.setTop (mkF m 11 #[vD d0, s_] [(.int (0 : Int32))])) t → Steps p.tables e below (s₁.setTop (entryFrame m #[(.double d0)] 2)) t := by
      intro t k
      refine c1 t ?_
      show Steps p.tables e below (s₁.setTop (mkF m 3 #[vD d0, s_] [(.int z2)])) _
      refine XS.ifYes X0.here hx rfl (pc0 := 3) (pc' := 10) rfl (hb hby d10_3) rfl (Jvm.Free.XT.i0_eq_t hb3) (by decide) (by decide) ?_
      refine XS.iconst X0.here hx rfl (hb hby d10_10) ?_
      exact k
    obtain ⟨fs, hr, hrun, hended, hW, hsame⟩ := X0.leave (v := some (.int (0 : Int32))) (fun h => by rw [Bd.returns] at h; cases h)
    refine ⟨_, _, c2 _ ?_, hrun, hended, _, _, rfl, ?_, ⟨_, rfl⟩, hW, hsame.mono (by decide) (by decide)⟩
    · show Steps p.tables e below (s₁.setTop (mkF m 11 #[vD d0, s_] [(.int (0 : Int32))])) _
      exact retOut X0 hx Bd.returns rfl (Or.inl ⟨rfl, by simp, _, rfl⟩) (hb hby d10_11) hr
    · show Q10 Z d0 z2 rv h0 n0 _ s₁.heap _
      rw [e0]
      exact ⟨(congrArg (fun z => some (Value.int z)) (show (0 : Int32) = rv by rw [← hrv]; simp only [if_pos hb3])), by first | assumption | exact N0, rfl⟩
  · skip
    have c3 : ∀ t, Steps p.tables e below (s₁.setTop (mkF m 11 #[vD d0, s_] [(.int (1 : Int32))])) t → Steps p.tables e below (s₁.setTop (entryFrame m #[(.double d0)] 2)) t := by
      intro t k
      refine c1 t ?_
      show Steps p.tables e below (s₁.setTop (mkF m 3 #[vD d0, s_] [(.int z2)])) _
      refine XS.ifNo X0.here hx rfl (hb hby d10_3) rfl (Jvm.Free.XT.i0_eq_f hb3) ?_
      refine XS.iconst X0.here hx rfl (hb hby d10_6) ?_
      refine XS.goto X0.here hx rfl (pc0 := 7) (pc' := 11) rfl (hb hby d10_7) (by decide) (by decide) ?_
      exact k
    obtain ⟨fs, hr, hrun, hended, hW, hsame⟩ := X0.leave (v := some (.int (1 : Int32))) (fun h => by rw [Bd.returns] at h; cases h)
    refine ⟨_, _, c3 _ ?_, hrun, hended, _, _, rfl, ?_, ⟨_, rfl⟩, hW, hsame.mono (by decide) (by decide)⟩
    · show Steps p.tables e below (s₁.setTop (mkF m 11 #[vD d0, s_] [(.int (1 : Int32))])) _
      exact retOut X0 hx Bd.returns rfl (Or.inl ⟨rfl, by simp, _, rfl⟩) (hb hby d10_11) hr
    · show Q10 Z d0 z2 rv h0 n0 _ s₁.heap _
      rw [e0]
      exact ⟨(congrArg (fun z => some (Value.int z)) (show (1 : Int32) = rv by rw [← hrv]; simp only [if_neg hb3])), by first | assumption | exact N0, rfl⟩
def Q12 (Z : State) (d0 : UInt64) (qfy qeg : Int32) (z8 rv : Int64) (h0 : Heap) (n0 : Nat) (v : Option Value) (h : Heap) (L : List Loc) : Prop := v = some (.long rv) ∧ Fr n0 L ∧ h = h0
set_option maxRecDepth 65536 in
set_option maxHeartbeats 40000000 in
theorem rm12 (l : Launch) (Z : State) (a0 : Array Value) (hw : ∀ d ∈ tables_1, d.before a0 Z = true) (ws : List Jvm.Cond) (d0 : UInt64) (qfy qeg : Int32) (z8 rv : Int64) (h0 : Heap) (n0 : Nat) (Z0 : n0 ≤ h0.size) (qn6 : cmpValue (FP.dcmp d0 d0) .l = qfy) (qn7 : (if qfy = (0 : Int32) then (0 : Int32) else (1 : Int32)) = qeg) (hz8 : d0.toInt64 = z8) (hrv : (if qeg = (0 : Int32) then z8 else (9221120237041090560 : Int64)) = rv) :
    MetFree l (⟨"java/lang/Double", "doubleToLongBits", "(D)J"⟩ : MethodName) (head1 (Jvm.Cond.code (⟨"java/lang/Double", "doubleToLongBits", "(D)J"⟩ : MethodName) jdk_117_method_23_code 2 (some .long) :: ws) ({ frames := 1, cells := 0, slots := 0, locals := 40 } : Room)) (fun a U => a = #[(.double d0)] ∧ Z.Warmed39 U.vm ∧ U.heap = h0) (fun _ _ _ _ _ => True) (fun _ U o U' => ∃ v L, o = .returned v ∧ Q12 Z d0 qfy qeg z8 rv h0 n0 v U'.heap L ∧ FrameEnd U o U' L ({ frames := 1, cells := 0, slots := 0, locals := 40 } : Room).cells ({ frames := 1, cells := 0, slots := 0, locals := 40 } : Room).slots) := by
  refine MetFree.of_bodySF (plainFor_of_name pn_0) hisR ?_
  intro p e s m args below meth c s₁ Bd hml0 hP hK
  obtain ⟨rfl, hZ, hh⟩ := hP
  have hx := Bd.exec
  have hby := Bd.bytes
  have hml : c.maxLocals = 2 := hml0
  have hown : s.vm.findClass "java/lang/Double" = some m.cls := findClass_of_methodNamed Bd.named
  have hnm := (name_of_methodNamed Bd.named Bd.method).1
  have X0 : Stand p l e ({ frames := 1, cells := 0, slots := 0, locals := 40 } : Room) s m #[(.double d0)] below meth c s₁ [] 0 0 := Stand.of_body Bd
  have e0 : s₁.heap = h0 := by rw [← hh, Bd.state]; rfl
  have N0 := Fr.nil n0
  have c0 : ∀ t, Steps p.tables e below (s₁.setTop (mkF m 0 #[vD d0, s_] [])) t → Steps p.tables e below (s₁.setTop (entryFrame m #[(.double d0)] 2)) t := fun t k => castTop (ef_rm12 m d0) k
  obtain ⟨_, _, ⟨T1, L1, k1, n1⟩, -, X1, ⟨Lc1, hQ1, ql1, qy1, qz1⟩, st1⟩ := Jvm.LawKit.callS X0 hx (y := (⟨"java/lang/Double", "isNaN", "(D)Z"⟩ : MethodName)) hown (mvT hZ (hwi hw 59 rfl)) (mvT hZ (hwi hw 48 rfl)) (mvT hZ (hwi hw 49 rfl)) (mvT hZ (hwi hw 50 rfl)) (by decide) (backOf (W := 0) (rm10 l Z a0 hw [] d0 qfy qeg h0 n0 Z0 qn6 qn7) hZ (hwi hw 50 rfl) (hwi hw 49 rfl) (by decide) (by decide)) (g := (mkF m 1 #[vD d0, s_] [(.double d0)])) rfl (by rw [hml]; rfl) (argsL := [(.double d0)]) (rest := []) (lenOf pd_0 rfl) rfl (by show 2 * 0 + _ ≤ _; exact Nat.le_of_eq rfl) (hb hby d12_1) (fun _ _ => ⟨rfl, e0, (by decide : 0 + 0 ≤ _), (by decide : 0 + 0 ≤ _)⟩)
  dsimp only [Pt.U, Pt.locs, Pt.cells, Pt.slots] at X1 ql1 qy1 qz1 st1 hQ1
  subst ql1 qy1 qz1
  obtain ⟨rfl, N1q, e1⟩ := hQ1
  have N1 := Fr.app N0 N1q
  have c2 : ∀ t, Steps p.tables e below (T1.setTop (mkF m 4 #[vD d0, s_] [(.int qeg)])) t → Steps p.tables e below (s₁.setTop (entryFrame m #[(.double d0)] 2)) t := by
    intro t k
    refine c0 t ?_
    show Steps p.tables e below (s₁.setTop (mkF m 0 #[vD d0, s_] [])) _
    refine XS.dloadN X0.here hx rfl (hb hby d12_0) rfl ?_
    refine st1 _ ?_
    exact k
  by_cases hb4 : qeg = (0 : Int32)
  · skip
    obtain ⟨vm3, X3', st3'⟩ := X1.doubleToRawLongBits hx hown (mvT hZ (hwi hw 60 rfl)) (mvT hZ (hwi hw 62 rfl)) (mvT hZ (hwi hw 61 rfl)) (mvT hZ (hwi hw 49 rfl)) (g := (mkF m 8 #[vD d0, s_] [(.double d0)])) rfl (by rw [hml]; rfl) (rest := []) (b := d0) rfl (hb hby d12_8) (by decide) (by show 2 * 0 + 0 + (nativeFrameWords "java/lang/Double" "doubleToRawLongBits" 2 + 11) ≤ 40 + 0; decide +kernel)
    obtain ⟨T3, hT3⟩ : ∃ T, T = T1.setVm vm3 := ⟨_, rfl⟩
    have X3 := X3'
    have st3 := st3'
    rw [← hT3] at X3 st3
    have e3 : T3.heap = h0 := by rw [hT3]; exact e1
    rw [hz8] at st3
    have c4 : ∀ t, Steps p.tables e below (T3.setTop (mkF m 11 #[vD d0, s_] [(.long z8)])) t → Steps p.tables e below (s₁.setTop (entryFrame m #[(.double d0)] 2)) t := by
      intro t k
      refine c2 t ?_
      show Steps p.tables e below (T1.setTop (mkF m 4 #[vD d0, s_] [(.int qeg)])) _
      refine XS.ifNo X1.here hx rfl (hb hby d12_4) rfl (Jvm.Free.XT.i0_ne_f hb4) ?_
      refine XS.dloadN X1.here hx rfl (hb hby d12_7) rfl ?_
      refine st3 _ ?_
      exact k
    obtain ⟨fs, hr, hrun, hended, hW, hsame⟩ := X3.leave (v := some (.long z8)) (fun h => by rw [Bd.returns] at h; cases h)
    refine ⟨_, _, c4 _ ?_, hrun, hended, _, _, rfl, ?_, ⟨_, rfl⟩, hW, hsame.mono (by decide) (by decide)⟩
    · show Steps p.tables e below (T3.setTop (mkF m 11 #[vD d0, s_] [(.long z8)])) _
      exact retOut X3 hx Bd.returns rfl (Or.inr (Or.inl ⟨rfl, rfl, _, rfl⟩)) (hb hby d12_11) hr
    · show Q12 Z d0 qfy qeg z8 rv h0 n0 _ T3.heap _
      rw [e3]
      exact ⟨(congrArg (fun z => some (Value.long z)) (show z8 = rv by rw [← hrv]; simp only [if_pos hb4])), by first | assumption | exact N0, rfl⟩
  · skip
    have c5 : ∀ t, Steps p.tables e below (T1.setTop (mkF m 15 #[vD d0, s_] [(.long (9221120237041090560 : Int64))])) t → Steps p.tables e below (s₁.setTop (entryFrame m #[(.double d0)] 2)) t := by
      intro t k
      refine c2 t ?_
      show Steps p.tables e below (T1.setTop (mkF m 4 #[vD d0, s_] [(.int qeg)])) _
      refine XS.ifYes X1.here hx rfl (pc0 := 4) (pc' := 12) rfl (hb hby d12_4) rfl (Jvm.Free.XT.i0_ne_t hb4) (by decide) (by decide) ?_
      refine X1.ldc2Long hx hown (mvT hZ (hwi hw 63 rfl)) (g := (mkF m 12 #[vD d0, s_] [])) rfl (hb hby d12_12) _ ?_
      exact k
    obtain ⟨fs, hr, hrun, hended, hW, hsame⟩ := X1.leave (v := some (.long (9221120237041090560 : Int64))) (fun h => by rw [Bd.returns] at h; cases h)
    refine ⟨_, _, c5 _ ?_, hrun, hended, _, _, rfl, ?_, ⟨_, rfl⟩, hW, hsame.mono (by decide) (by decide)⟩
    · show Steps p.tables e below (T1.setTop (mkF m 15 #[vD d0, s_] [(.long (9221120237041090560 : Int64))])) _
      exact retOut X1 hx Bd.returns rfl (Or.inr (Or.inl ⟨rfl, rfl, _, rfl⟩)) (hb hby d12_15) hr
    · show Q12 Z d0 qfy qeg z8 rv h0 n0 _ T1.heap _
      rw [e1]
      exact ⟨(congrArg (fun z => some (Value.long z)) (show (9221120237041090560 : Int64) = rv by rw [← hrv]; simp only [if_neg hb4])), by first | assumption | exact N0, rfl⟩
def Q11 (Z : State) (d0 d1 : UInt64) (z2 z10 qeT qeU : Int32) (qg2 qdU : Int64) (qeV qeW : Int32) (qg3 qd2 : Int64) (z32 z44 rv : Int32) (h0 : Heap) (n0 : Nat) (v : Option Value) (h : Heap) (L : List Loc) : Prop := v = some (.int rv) ∧ Fr n0 L ∧ h = h0
set_option maxRecDepth 65536 in
set_option maxHeartbeats 40000000 in
theorem rm11 (l : Launch) (Z : State) (a0 : Array Value) (hw : ∀ d ∈ tables_1, d.before a0 Z = true) (ws : List Jvm.Cond) (d0 d1 : UInt64) (z2 z10 qeT qeU : Int32) (qg2 qdU : Int64) (qeV qeW : Int32) (qg3 qd2 : Int64) (z32 z44 rv : Int32) (h0 : Heap) (n0 : Nat) (Z0 : n0 ≤ h0.size) (hz2 : cmpValue (FP.dcmp d0 d1) .g = z2) (hz10 : cmpValue (FP.dcmp d0 d1) .l = z10) (qn9 : cmpValue (FP.dcmp d0 d0) .l = qeT) (qoa : (if qeT = (0 : Int32) then (0 : Int32) else (1 : Int32)) = qeU) (qor : d0.toInt64 = qg2) (qos : (if qeU = (0 : Int32) then qg2 else (9221120237041090560 : Int64)) = qdU) (qob : cmpValue (FP.dcmp d1 d1) .l = qeV) (qoc : (if qeV = (0 : Int32) then (0 : Int32) else (1 : Int32)) = qeW) (qot : d1.toInt64 = qg3) (qou : (if qeW = (0 : Int32) then qg3 else (9221120237041090560 : Int64)) = qd2) (hz32 : lcmpW qdU qd2 = z32) (hz44 : lcmpW qdU qd2 = z44) (hrv : (if z2 < (0 : Int32) then (-1 : Int32) else (if (0 : Int32) < z10 then (1 : Int32) else (if z32 = (0 : Int32) then (0 : Int32) else (if z44 < (0 : Int32) then (-1 : Int32) else (1 : Int32))))) = rv) :
    MetFree l (⟨"java/lang/Double", "compare", "(DD)I"⟩ : MethodName) (head1 (Jvm.Cond.code (⟨"java/lang/Double", "compare", "(DD)I"⟩ : MethodName) jdk_117_method_27_code 8 (some .int) :: ws) ({ frames := 2, cells := 0, slots := 0, locals := 53 } : Room)) (fun a U => a = #[(.double d0), (.double d1)] ∧ Z.Warmed39 U.vm ∧ U.heap = h0) (fun _ _ _ _ _ => True) (fun _ U o U' => ∃ v L, o = .returned v ∧ Q11 Z d0 d1 z2 z10 qeT qeU qg2 qdU qeV qeW qg3 qd2 z32 z44 rv h0 n0 v U'.heap L ∧ FrameEnd U o U' L ({ frames := 2, cells := 0, slots := 0, locals := 53 } : Room).cells ({ frames := 2, cells := 0, slots := 0, locals := 53 } : Room).slots) := by
  refine MetFree.of_bodySF (plainFor_of_name pn_0) hisR ?_
  intro p e s m args below meth c s₁ Bd hml0 hP hK
  obtain ⟨rfl, hZ, hh⟩ := hP
  have hx := Bd.exec
  have hby := Bd.bytes
  have hml : c.maxLocals = 8 := hml0
  have hown : s.vm.findClass "java/lang/Double" = some m.cls := findClass_of_methodNamed Bd.named
  have hnm := (name_of_methodNamed Bd.named Bd.method).1
  have X0 : Stand p l e ({ frames := 2, cells := 0, slots := 0, locals := 53 } : Room) s m #[(.double d0), (.double d1)] below meth c s₁ [] 0 0 := Stand.of_body Bd
  have e0 : s₁.heap = h0 := by rw [← hh, Bd.state]; rfl
  have N0 := Fr.nil n0
  have c0 : ∀ t, Steps p.tables e below (s₁.setTop (mkF m 0 #[vD d0, s_, vD d1, s_, u_, u_, u_, u_] [])) t → Steps p.tables e below (s₁.setTop (entryFrame m #[(.double d0), (.double d1)] 8)) t := fun t k => castTop (ef_rm11 m d0 d1) k
  have c1 : ∀ t, Steps p.tables e below (s₁.setTop (mkF m 3 #[vD d0, s_, vD d1, s_, u_, u_, u_, u_] [(.int z2)])) t → Steps p.tables e below (s₁.setTop (entryFrame m #[(.double d0), (.double d1)] 8)) t := by
    intro t k
    refine c0 t ?_
    show Steps p.tables e below (s₁.setTop (mkF m 0 #[vD d0, s_, vD d1, s_, u_, u_, u_, u_] [])) _
    refine XS.dloadN X0.here hx rfl (hb hby d11_0) rfl ?_
    refine XS.dloadN X0.here hx rfl (hb hby d11_1) rfl ?_
    refine XS.dcmpS X0.here hx rfl (hb hby d11_2) rfl hz2 ?_
    exact k
  by_cases hb3 : z2 < (0 : Int32)
  · skip
    have c2 : ∀ t, Steps p.tables e below (s₁.setTop (mkF m 7 #[vD d0, s_, vD d1, s_, u_, u_, u_, u_] [(.int (-1 : Int32))])) t → Steps p.tables e below (s₁.setTop (entryFrame m #[(.double d0), (.double d1)] 8)) t := by
      intro t k
      refine c1 t ?_
      show Steps p.tables e below (s₁.setTop (mkF m 3 #[vD d0, s_, vD d1, s_, u_, u_, u_, u_] [(.int z2)])) _
      refine XS.ifNo X0.here hx rfl (hb hby d11_3) rfl (Jvm.Free.XT.i0_ge_f hb3) ?_
      refine XS.iconst X0.here hx rfl (hb hby d11_6) ?_
      exact k
    obtain ⟨fs, hr, hrun, hended, hW, hsame⟩ := X0.leave (v := some (.int (-1 : Int32))) (fun h => by rw [Bd.returns] at h; cases h)
    refine ⟨_, _, c2 _ ?_, hrun, hended, _, _, rfl, ?_, ⟨_, rfl⟩, hW, hsame.mono (by decide) (by decide)⟩
    · show Steps p.tables e below (s₁.setTop (mkF m 7 #[vD d0, s_, vD d1, s_, u_, u_, u_, u_] [(.int (-1 : Int32))])) _
      exact retOut X0 hx Bd.returns rfl (Or.inl ⟨rfl, by simp, _, rfl⟩) (hb hby d11_7) hr
    · show Q11 Z d0 d1 z2 z10 qeT qeU qg2 qdU qeV qeW qg3 qd2 z32 z44 rv h0 n0 _ s₁.heap _
      rw [e0]
      exact ⟨(congrArg (fun z => some (Value.int z)) (show (-1 : Int32) = rv by rw [← hrv]; simp only [if_pos hb3])), by first | assumption | exact N0, rfl⟩
  · skip
    have c3 : ∀ t, Steps p.tables e below (s₁.setTop (mkF m 11 #[vD d0, s_, vD d1, s_, u_, u_, u_, u_] [(.int z10)])) t → Steps p.tables e below (s₁.setTop (entryFrame m #[(.double d0), (.double d1)] 8)) t := by
      intro t k
      refine c1 t ?_
      show Steps p.tables e below (s₁.setTop (mkF m 3 #[vD d0, s_, vD d1, s_, u_, u_, u_, u_] [(.int z2)])) _
      refine XS.ifYes X0.here hx rfl (pc0 := 3) (pc' := 8) rfl (hb hby d11_3) rfl (Jvm.Free.XT.i0_ge_t hb3) (by decide) (by decide) ?_
      refine XS.dloadN X0.here hx rfl (hb hby d11_8) rfl ?_
      refine XS.dloadN X0.here hx rfl (hb hby d11_9) rfl ?_
      refine XS.dcmpS X0.here hx rfl (hb hby d11_10) rfl hz10 ?_
      exact k
    by_cases hb11 : (0 : Int32) < z10
    · skip
      have c4 : ∀ t, Steps p.tables e below (s₁.setTop (mkF m 15 #[vD d0, s_, vD d1, s_, u_, u_, u_, u_] [(.int (1 : Int32))])) t → Steps p.tables e below (s₁.setTop (entryFrame m #[(.double d0), (.double d1)] 8)) t := by
        intro t k
        refine c3 t ?_
        show Steps p.tables e below (s₁.setTop (mkF m 11 #[vD d0, s_, vD d1, s_, u_, u_, u_, u_] [(.int z10)])) _
        refine XS.ifNo X0.here hx rfl (hb hby d11_11) rfl (Jvm.Free.XT.i0_le_f hb11) ?_
        refine XS.iconst X0.here hx rfl (hb hby d11_14) ?_
        exact k
      obtain ⟨fs, hr, hrun, hended, hW, hsame⟩ := X0.leave (v := some (.int (1 : Int32))) (fun h => by rw [Bd.returns] at h; cases h)
      refine ⟨_, _, c4 _ ?_, hrun, hended, _, _, rfl, ?_, ⟨_, rfl⟩, hW, hsame.mono (by decide) (by decide)⟩
      · show Steps p.tables e below (s₁.setTop (mkF m 15 #[vD d0, s_, vD d1, s_, u_, u_, u_, u_] [(.int (1 : Int32))])) _
        exact retOut X0 hx Bd.returns rfl (Or.inl ⟨rfl, by simp, _, rfl⟩) (hb hby d11_15) hr
      · show Q11 Z d0 d1 z2 z10 qeT qeU qg2 qdU qeV qeW qg3 qd2 z32 z44 rv h0 n0 _ s₁.heap _
        rw [e0]
        exact ⟨(congrArg (fun z => some (Value.int z)) (show (1 : Int32) = rv by rw [← hrv]; simp only [if_neg hb3, if_pos hb11])), by first | assumption | exact N0, rfl⟩
    · skip
      obtain ⟨_, _, ⟨T5, L5, k5, n5⟩, -, X5, ⟨Lc5, hQ5, ql5, qy5, qz5⟩, st5⟩ := Jvm.LawKit.callS X0 hx (y := (⟨"java/lang/Double", "doubleToLongBits", "(D)J"⟩ : MethodName)) hown (mvT hZ (hwi hw 56 rfl)) (mvT hZ (hwi hw 57 rfl)) (mvT hZ (hwi hw 49 rfl)) (mvT hZ (hwi hw 58 rfl)) (by decide) (backOf (W := 0) (rm12 l Z a0 hw [] d0 qeT qeU qg2 qdU h0 n0 Z0 qn9 qoa qor qos) hZ (hwi hw 58 rfl) (hwi hw 49 rfl) (by decide) (by decide)) (g := (mkF m 17 #[vD d0, s_, vD d1, s_, u_, u_, u_, u_] [(.double d0)])) rfl (by rw [hml]; rfl) (argsL := [(.double d0)]) (rest := []) (lenOf pd_1 rfl) rfl (by show 2 * 0 + _ ≤ _; exact Nat.le_of_eq rfl) (hb hby d11_17) (fun _ _ => ⟨rfl, e0, (by decide : 0 + 0 ≤ _), (by decide : 0 + 0 ≤ _)⟩)
      dsimp only [Pt.U, Pt.locs, Pt.cells, Pt.slots] at X5 ql5 qy5 qz5 st5 hQ5
      subst ql5 qy5 qz5
      obtain ⟨rfl, N5q, e5⟩ := hQ5
      have N5 := Fr.app N0 N5q
      obtain ⟨_, _, ⟨T6, L6, k6, n6⟩, -, X6, ⟨Lc6, hQ6, ql6, qy6, qz6⟩, st6⟩ := Jvm.LawKit.callS X5 hx (y := (⟨"java/lang/Double", "doubleToLongBits", "(D)J"⟩ : MethodName)) hown (mvT hZ (hwi hw 56 rfl)) (mvT hZ (hwi hw 57 rfl)) (mvT hZ (hwi hw 49 rfl)) (mvT hZ (hwi hw 58 rfl)) (by decide) (backOf (W := 0) (rm12 l Z a0 hw [] d1 qeV qeW qg3 qd2 h0 n0 Z0 qob qoc qot qou) hZ (hwi hw 58 rfl) (hwi hw 49 rfl) (by decide) (by decide)) (g := (mkF m 23 #[vD d0, s_, vD d1, s_, vJ qdU, s_, u_, u_] [(.double d1)])) rfl (by rw [hml]; rfl) (argsL := [(.double d1)]) (rest := []) (lenOf pd_1 rfl) rfl (by show 2 * 0 + _ ≤ _; exact Nat.le_of_eq rfl) (hb hby d11_23) (fun _ _ => ⟨rfl, e5, (by decide : 0 + 0 ≤ _), (by decide : 0 + 0 ≤ _)⟩)
      dsimp only [Pt.U, Pt.locs, Pt.cells, Pt.slots] at X6 ql6 qy6 qz6 st6 hQ6
      subst ql6 qy6 qz6
      obtain ⟨rfl, N6q, e6⟩ := hQ6
      have N6 := Fr.app N5 N6q
      have c7 : ∀ t, Steps p.tables e below (T6.setTop (mkF m 33 #[vD d0, s_, vD d1, s_, vJ qdU, s_, vJ qd2, s_] [(.int z32)])) t → Steps p.tables e below (s₁.setTop (entryFrame m #[(.double d0), (.double d1)] 8)) t := by
        intro t k
        refine c3 t ?_
        show Steps p.tables e below (s₁.setTop (mkF m 11 #[vD d0, s_, vD d1, s_, u_, u_, u_, u_] [(.int z10)])) _
        refine XS.ifYes X0.here hx rfl (pc0 := 11) (pc' := 16) rfl (hb hby d11_11) rfl (Jvm.Free.XT.i0_le_t hb11) (by decide) (by decide) ?_
        refine XS.dloadN X0.here hx rfl (hb hby d11_16) rfl ?_
        refine st5 _ ?_
        show Steps p.tables e below (T5.setTop (mkF m 20 #[vD d0, s_, vD d1, s_, u_, u_, u_, u_] [(.long qdU)])) _
        refine XS.lstore X5.here hx rfl (hb hby d11_20) rfl (l' := #[vD d0, s_, vD d1, s_, vJ qdU, s_, u_, u_]) rfl ?_
        refine XS.dloadN X5.here hx rfl (hb hby d11_22) rfl ?_
        refine st6 _ ?_
        show Steps p.tables e below (T6.setTop (mkF m 26 #[vD d0, s_, vD d1, s_, vJ qdU, s_, u_, u_] [(.long qd2)])) _
        refine XS.lstore X6.here hx rfl (hb hby d11_26) rfl (l' := #[vD d0, s_, vD d1, s_, vJ qdU, s_, vJ qd2, s_]) rfl ?_
        refine XS.lload X6.here hx rfl (hb hby d11_28) rfl ?_
        refine XS.lload X6.here hx rfl (hb hby d11_30) rfl ?_
        refine Jvm.OwnK.lcmp X6.here hx rfl (hb hby d11_32) rfl hz32 ?_
        exact k
      by_cases hb33 : z32 = (0 : Int32)
      · skip
        have c8 : ∀ t, Steps p.tables e below (T6.setTop (mkF m 53 #[vD d0, s_, vD d1, s_, vJ qdU, s_, vJ qd2, s_] [(.int (0 : Int32))])) t → Steps p.tables e below (s₁.setTop (entryFrame m #[(.double d0), (.double d1)] 8)) t := by
          intro t k
          refine c7 t ?_
          show Steps p.tables e below (T6.setTop (mkF m 33 #[vD d0, s_, vD d1, s_, vJ qdU, s_, vJ qd2, s_] [(.int z32)])) _
          refine XS.ifNo X6.here hx rfl (hb hby d11_33) rfl (Jvm.Free.XT.i0_ne_f hb33) ?_
          refine XS.iconst X6.here hx rfl (hb hby d11_36) ?_
          refine XS.goto X6.here hx rfl (pc0 := 37) (pc' := 53) rfl (hb hby d11_37) (by decide) (by decide) ?_
          exact k
        obtain ⟨fs, hr, hrun, hended, hW, hsame⟩ := X6.leave (v := some (.int (0 : Int32))) (fun h => by rw [Bd.returns] at h; cases h)
        refine ⟨_, _, c8 _ ?_, hrun, hended, _, _, rfl, ?_, ⟨_, rfl⟩, hW, hsame.mono (by decide) (by decide)⟩
        · show Steps p.tables e below (T6.setTop (mkF m 53 #[vD d0, s_, vD d1, s_, vJ qdU, s_, vJ qd2, s_] [(.int (0 : Int32))])) _
          exact retOut X6 hx Bd.returns rfl (Or.inl ⟨rfl, by simp, _, rfl⟩) (hb hby d11_53) hr
        · show Q11 Z d0 d1 z2 z10 qeT qeU qg2 qdU qeV qeW qg3 qd2 z32 z44 rv h0 n0 _ T6.heap _
          rw [e6]
          exact ⟨(congrArg (fun z => some (Value.int z)) (show (0 : Int32) = rv by rw [← hrv]; simp only [if_neg hb3, if_neg hb11, if_pos hb33])), by first | assumption | exact N0, rfl⟩
      · skip
        have c9 : ∀ t, Steps p.tables e below (T6.setTop (mkF m 45 #[vD d0, s_, vD d1, s_, vJ qdU, s_, vJ qd2, s_] [(.int z44)])) t → Steps p.tables e below (s₁.setTop (entryFrame m #[(.double d0), (.double d1)] 8)) t := by
          intro t k
          refine c7 t ?_
          show Steps p.tables e below (T6.setTop (mkF m 33 #[vD d0, s_, vD d1, s_, vJ qdU, s_, vJ qd2, s_] [(.int z32)])) _
          refine XS.ifYes X6.here hx rfl (pc0 := 33) (pc' := 40) rfl (hb hby d11_33) rfl (Jvm.Free.XT.i0_ne_t hb33) (by decide) (by decide) ?_
          refine XS.lload X6.here hx rfl (hb hby d11_40) rfl ?_
          refine XS.lload X6.here hx rfl (hb hby d11_42) rfl ?_
          refine Jvm.OwnK.lcmp X6.here hx rfl (hb hby d11_44) rfl hz44 ?_
          exact k
        by_cases hb45 : z44 < (0 : Int32)
        · skip
          have c10 : ∀ t, Steps p.tables e below (T6.setTop (mkF m 53 #[vD d0, s_, vD d1, s_, vJ qdU, s_, vJ qd2, s_] [(.int (-1 : Int32))])) t → Steps p.tables e below (s₁.setTop (entryFrame m #[(.double d0), (.double d1)] 8)) t := by
            intro t k
            refine c9 t ?_
            show Steps p.tables e below (T6.setTop (mkF m 45 #[vD d0, s_, vD d1, s_, vJ qdU, s_, vJ qd2, s_] [(.int z44)])) _
            refine XS.ifNo X6.here hx rfl (hb hby d11_45) rfl (Jvm.Free.XT.i0_ge_f hb45) ?_
            refine XS.iconst X6.here hx rfl (hb hby d11_48) ?_
            refine XS.goto X6.here hx rfl (pc0 := 49) (pc' := 53) rfl (hb hby d11_49) (by decide) (by decide) ?_
            exact k
          obtain ⟨fs, hr, hrun, hended, hW, hsame⟩ := X6.leave (v := some (.int (-1 : Int32))) (fun h => by rw [Bd.returns] at h; cases h)
          refine ⟨_, _, c10 _ ?_, hrun, hended, _, _, rfl, ?_, ⟨_, rfl⟩, hW, hsame.mono (by decide) (by decide)⟩
          · show Steps p.tables e below (T6.setTop (mkF m 53 #[vD d0, s_, vD d1, s_, vJ qdU, s_, vJ qd2, s_] [(.int (-1 : Int32))])) _
            exact retOut X6 hx Bd.returns rfl (Or.inl ⟨rfl, by simp, _, rfl⟩) (hb hby d11_53) hr
          · show Q11 Z d0 d1 z2 z10 qeT qeU qg2 qdU qeV qeW qg3 qd2 z32 z44 rv h0 n0 _ T6.heap _
            rw [e6]
            exact ⟨(congrArg (fun z => some (Value.int z)) (show (-1 : Int32) = rv by rw [← hrv]; simp only [if_neg hb3, if_neg hb11, if_neg hb33, if_pos hb45])), by first | assumption | exact N0, rfl⟩
        · skip
          have c11 : ∀ t, Steps p.tables e below (T6.setTop (mkF m 53 #[vD d0, s_, vD d1, s_, vJ qdU, s_, vJ qd2, s_] [(.int (1 : Int32))])) t → Steps p.tables e below (s₁.setTop (entryFrame m #[(.double d0), (.double d1)] 8)) t := by
            intro t k
            refine c9 t ?_
            show Steps p.tables e below (T6.setTop (mkF m 45 #[vD d0, s_, vD d1, s_, vJ qdU, s_, vJ qd2, s_] [(.int z44)])) _
            refine XS.ifYes X6.here hx rfl (pc0 := 45) (pc' := 52) rfl (hb hby d11_45) rfl (Jvm.Free.XT.i0_ge_t hb45) (by decide) (by decide) ?_
            refine XS.iconst X6.here hx rfl (hb hby d11_52) ?_
            exact k
          obtain ⟨fs, hr, hrun, hended, hW, hsame⟩ := X6.leave (v := some (.int (1 : Int32))) (fun h => by rw [Bd.returns] at h; cases h)
          refine ⟨_, _, c11 _ ?_, hrun, hended, _, _, rfl, ?_, ⟨_, rfl⟩, hW, hsame.mono (by decide) (by decide)⟩
          · show Steps p.tables e below (T6.setTop (mkF m 53 #[vD d0, s_, vD d1, s_, vJ qdU, s_, vJ qd2, s_] [(.int (1 : Int32))])) _
            exact retOut X6 hx Bd.returns rfl (Or.inl ⟨rfl, by simp, _, rfl⟩) (hb hby d11_53) hr
          · show Q11 Z d0 d1 z2 z10 qeT qeU qg2 qdU qeV qeW qg3 qd2 z32 z44 rv h0 n0 _ T6.heap _
            rw [e6]
            exact ⟨(congrArg (fun z => some (Value.int z)) (show (1 : Int32) = rv by rw [← hrv]; simp only [if_neg hb3, if_neg hb11, if_neg hb33, if_neg hb45])), by first | assumption | exact N0, rfl⟩
def Q9 (Z : State) (d0 d1 : UInt64) (qfy qeg qiE qfj : Int32) (z28 rv : UInt64) (h0 : Heap) (n0 : Nat) (v : Option Value) (h : Heap) (L : List Loc) : Prop := v = some (.double rv) ∧ Fr n0 L ∧ h = h0
set_option maxRecDepth 65536 in
set_option maxHeartbeats 40000000 in
theorem rm9 (l : Launch) (Z : State) (a0 : Array Value) (hw : ∀ d ∈ tables_1, d.before a0 Z = true) (ws : List Jvm.Cond) (d0 d1 : UInt64) (qfy qeg qiE qfj : Int32) (z28 rv : UInt64) (h0 : Heap) (n0 : Nat) (Z0 : n0 ≤ h0.size) (qn6 : cmpValue (FP.dcmp d0 d0) .l = qfy) (qn7 : (if qfy = (0 : Int32) then (0 : Int32) else (1 : Int32)) = qeg) (qov : cmpValue (FP.dcmp d1 d1) .l = qiE) (qow : (if qiE = (0 : Int32) then (0 : Int32) else (1 : Int32)) = qfj) (hz28 : Jvm.Native.java_lang_Math.nans.pick64 false d0 d1 = z28) (hrv : (if qeg = (0 : Int32) then (if qfj = (0 : Int32) then z28 else d0) else d1) = rv) (nm0_28 : (qeg = (0 : Int32)) → (qfj = (0 : Int32)) → Jvm.Free.Fl.NoNaN64 d0) (nm1_28 : (qeg = (0 : Int32)) → (qfj = (0 : Int32)) → Jvm.Free.Fl.NoNaN64 d1) :
    MetFree l (⟨MTc, "min", "(DD)D"⟩ : MethodName) (head1 (Jvm.Cond.code (⟨MTc, "min", "(DD)D"⟩ : MethodName) prog_28_method_10_code 6 (some .double) :: ws) ({ frames := 1, cells := 0, slots := 0, locals := 15 } : Room)) (fun a U => a = #[(.double d0), (.double d1)] ∧ Z.Warmed39 U.vm ∧ U.heap = h0) (fun _ _ _ _ _ => True) (fun _ U o U' => ∃ v L, o = .returned v ∧ Q9 Z d0 d1 qfy qeg qiE qfj z28 rv h0 n0 v U'.heap L ∧ FrameEnd U o U' L ({ frames := 1, cells := 0, slots := 0, locals := 15 } : Room).cells ({ frames := 1, cells := 0, slots := 0, locals := 15 } : Room).slots) := by
  refine MetFree.of_bodySF (plainFor_of_name pn_1) hisR ?_
  intro p e s m args below meth c s₁ Bd hml0 hP hK
  obtain ⟨rfl, hZ, hh⟩ := hP
  have hx := Bd.exec
  have hby := Bd.bytes
  have hml : c.maxLocals = 6 := hml0
  have hown : s.vm.findClass MTc = some m.cls := findClass_of_methodNamed Bd.named
  have hnm := (name_of_methodNamed Bd.named Bd.method).1
  have X0 : Stand p l e ({ frames := 1, cells := 0, slots := 0, locals := 15 } : Room) s m #[(.double d0), (.double d1)] below meth c s₁ [] 0 0 := Stand.of_body Bd
  have e0 : s₁.heap = h0 := by rw [← hh, Bd.state]; rfl
  have N0 := Fr.nil n0
  have c0 : ∀ t, Steps p.tables e below (s₁.setTop (mkF m 0 #[vD d0, s_, vD d1, s_, u_, u_] [])) t → Steps p.tables e below (s₁.setTop (entryFrame m #[(.double d0), (.double d1)] 6)) t := fun t k => castTop (ef_rm9 m d0 d1) k
  obtain ⟨_, _, ⟨T1, L1, k1, n1⟩, -, X1, ⟨Lc1, hQ1, ql1, qy1, qz1⟩, st1⟩ := Jvm.LawKit.callS X0 hx (y := (⟨"java/lang/Double", "isNaN", "(D)Z"⟩ : MethodName)) hown (mvT hZ (hwi hw 47 rfl)) (mvT hZ (hwi hw 48 rfl)) (mvT hZ (hwi hw 49 rfl)) (mvT hZ (hwi hw 50 rfl)) (by decide) (backOf (W := 0) (rm10 l Z a0 hw [] d0 qfy qeg h0 n0 Z0 qn6 qn7) hZ (hwi hw 50 rfl) (hwi hw 49 rfl) (by decide) (by decide)) (g := (mkF m 1 #[vD d0, s_, vD d1, s_, u_, u_] [(.double d0)])) rfl (by rw [hml]; rfl) (argsL := [(.double d0)]) (rest := []) (lenOf pd_0 rfl) rfl (by show 2 * 0 + _ ≤ _; exact Nat.le_of_eq rfl) (hb hby d9_1) (fun _ _ => ⟨rfl, e0, (by decide : 0 + 0 ≤ _), (by decide : 0 + 0 ≤ _)⟩)
  dsimp only [Pt.U, Pt.locs, Pt.cells, Pt.slots] at X1 ql1 qy1 qz1 st1 hQ1
  subst ql1 qy1 qz1
  obtain ⟨rfl, N1q, e1⟩ := hQ1
  have N1 := Fr.app N0 N1q
  have c2 : ∀ t, Steps p.tables e below (T1.setTop (mkF m 4 #[vD d0, s_, vD d1, s_, u_, u_] [(.int qeg)])) t → Steps p.tables e below (s₁.setTop (entryFrame m #[(.double d0), (.double d1)] 6)) t := by
    intro t k
    refine c0 t ?_
    show Steps p.tables e below (s₁.setTop (mkF m 0 #[vD d0, s_, vD d1, s_, u_, u_] [])) _
    refine XS.dloadN X0.here hx rfl (hb hby d9_0) rfl ?_
    refine st1 _ ?_
    exact k
  by_cases hb4 : qeg = (0 : Int32)
  · skip
    obtain ⟨_, _, ⟨T3, L3, k3, n3⟩, -, X3, ⟨Lc3, hQ3, ql3, qy3, qz3⟩, st3⟩ := Jvm.LawKit.callS X1 hx (y := (⟨"java/lang/Double", "isNaN", "(D)Z"⟩ : MethodName)) hown (mvT hZ (hwi hw 47 rfl)) (mvT hZ (hwi hw 48 rfl)) (mvT hZ (hwi hw 49 rfl)) (mvT hZ (hwi hw 50 rfl)) (by decide) (backOf (W := 0) (rm10 l Z a0 hw [] d1 qiE qfj h0 n0 Z0 qov qow) hZ (hwi hw 50 rfl) (hwi hw 49 rfl) (by decide) (by decide)) (g := (mkF m 14 #[vD d0, s_, vD d1, s_, u_, u_] [(.double d1)])) rfl (by rw [hml]; rfl) (argsL := [(.double d1)]) (rest := []) (lenOf pd_0 rfl) rfl (by show 2 * 0 + _ ≤ _; exact Nat.le_of_eq rfl) (hb hby d9_14) (fun _ _ => ⟨rfl, e1, (by decide : 0 + 0 ≤ _), (by decide : 0 + 0 ≤ _)⟩)
    dsimp only [Pt.U, Pt.locs, Pt.cells, Pt.slots] at X3 ql3 qy3 qz3 st3 hQ3
    subst ql3 qy3 qz3
    obtain ⟨rfl, N3q, e3⟩ := hQ3
    have N3 := Fr.app N1 N3q
    have c4 : ∀ t, Steps p.tables e below (T3.setTop (mkF m 17 #[vD d0, s_, vD d1, s_, u_, u_] [(.int qfj)])) t → Steps p.tables e below (s₁.setTop (entryFrame m #[(.double d0), (.double d1)] 6)) t := by
      intro t k
      refine c2 t ?_
      show Steps p.tables e below (T1.setTop (mkF m 4 #[vD d0, s_, vD d1, s_, u_, u_] [(.int qeg)])) _
      refine XS.ifYes X1.here hx rfl (pc0 := 4) (pc' := 13) rfl (hb hby d9_4) rfl (Jvm.Free.XT.i0_eq_t hb4) (by decide) (by decide) ?_
      refine XS.dloadN X1.here hx rfl (hb hby d9_13) rfl ?_
      refine st3 _ ?_
      exact k
    by_cases hb17 : qfj = (0 : Int32)
    · skip
      obtain ⟨T5, X5, e5, st5⟩ := natS X3 hx hZ (y := (⟨"java/lang/Math", "min", "(DD)D"⟩ : MethodName)) hown (hwi hw 64 rfl) (hwi hw 65 rfl) (hwi hw 66 rfl) (hwi hw 67 rfl) (by decide) e3 (W := 0) (fun hq => Jvm.Free.Fl.Abs.minD_pays d0 d1 hq (by decide) (by decide)) (g := (mkF m 28 #[vD d0, s_, vD d1, s_, u_, u_] [(.double d1), (.double d0)])) rfl (by rw [hml]; rfl) (argsL := [(.double d0), (.double d1)]) (rest := []) (lenOf pd_2 rfl) rfl (by show 2 * 0 + _ ≤ _; exact Nat.le_of_eq rfl) (hb hby d9_28) (by decide) (by decide) ⟨rfl, (nm0_28 hb4 hb17), (nm1_28 hb4 hb17)⟩ (congrArg Value.double hz28)
      have c6 : ∀ t, Steps p.tables e below (T5.setTop (mkF m 35 #[vD d0, s_, vD d1, s_, vD z28, s_] [(.double z28)])) t → Steps p.tables e below (s₁.setTop (entryFrame m #[(.double d0), (.double d1)] 6)) t := by
        intro t k
        refine c4 t ?_
        show Steps p.tables e below (T3.setTop (mkF m 17 #[vD d0, s_, vD d1, s_, u_, u_] [(.int qfj)])) _
        refine XS.ifYes X3.here hx rfl (pc0 := 17) (pc' := 26) rfl (hb hby d9_17) rfl (Jvm.Free.XT.i0_eq_t hb17) (by decide) (by decide) ?_
        refine XS.dloadN X3.here hx rfl (hb hby d9_26) rfl ?_
        refine XS.dloadN X3.here hx rfl (hb hby d9_27) rfl ?_
        refine st5 _ ?_
        show Steps p.tables e below (T5.setTop (mkF m 31 #[vD d0, s_, vD d1, s_, u_, u_] [(.double z28)])) _
        refine XS.dstore X5.here hx rfl (hb hby d9_31) rfl (l' := #[vD d0, s_, vD d1, s_, vD z28, s_]) rfl ?_
        refine XS.dload X5.here hx rfl (hb hby d9_33) rfl ?_
        exact k
      obtain ⟨fs, hr, hrun, hended, hW, hsame⟩ := X5.leave (v := some (.double z28)) (fun h => by rw [Bd.returns] at h; cases h)
      refine ⟨_, _, c6 _ ?_, hrun, hended, _, _, rfl, ?_, ⟨_, rfl⟩, hW, hsame.mono (by decide) (by decide)⟩
      · show Steps p.tables e below (T5.setTop (mkF m 35 #[vD d0, s_, vD d1, s_, vD z28, s_] [(.double z28)])) _
        exact retOut X5 hx Bd.returns rfl (Or.inr (Or.inr (Or.inl ⟨rfl, rfl, _, rfl⟩))) (hb hby d9_35) hr
      · show Q9 Z d0 d1 qfy qeg qiE qfj z28 rv h0 n0 _ T5.heap _
        rw [e5]
        exact ⟨(congrArg (fun z => some (Value.double z)) (show z28 = rv by rw [← hrv]; simp only [if_pos hb4, if_pos hb17])), by first | assumption | exact N0, rfl⟩
    · skip
      have c7 : ∀ t, Steps p.tables e below (T3.setTop (mkF m 35 #[vD d0, s_, vD d1, s_, vD d0, s_] [(.double d0)])) t → Steps p.tables e below (s₁.setTop (entryFrame m #[(.double d0), (.double d1)] 6)) t := by
        intro t k
        refine c4 t ?_
        show Steps p.tables e below (T3.setTop (mkF m 17 #[vD d0, s_, vD d1, s_, u_, u_] [(.int qfj)])) _
        refine XS.ifNo X3.here hx rfl (hb hby d9_17) rfl (Jvm.Free.XT.i0_eq_f hb17) ?_
        refine XS.dloadN X3.here hx rfl (hb hby d9_20) rfl ?_
        refine XS.dstore X3.here hx rfl (hb hby d9_21) rfl (l' := #[vD d0, s_, vD d1, s_, vD d0, s_]) rfl ?_
        refine XS.goto X3.here hx rfl (pc0 := 23) (pc' := 33) rfl (hb hby d9_23) (by decide) (by decide) ?_
        refine XS.dload X3.here hx rfl (hb hby d9_33) rfl ?_
        exact k
      obtain ⟨fs, hr, hrun, hended, hW, hsame⟩ := X3.leave (v := some (.double d0)) (fun h => by rw [Bd.returns] at h; cases h)
      refine ⟨_, _, c7 _ ?_, hrun, hended, _, _, rfl, ?_, ⟨_, rfl⟩, hW, hsame.mono (by decide) (by decide)⟩
      · show Steps p.tables e below (T3.setTop (mkF m 35 #[vD d0, s_, vD d1, s_, vD d0, s_] [(.double d0)])) _
        exact retOut X3 hx Bd.returns rfl (Or.inr (Or.inr (Or.inl ⟨rfl, rfl, _, rfl⟩))) (hb hby d9_35) hr
      · show Q9 Z d0 d1 qfy qeg qiE qfj z28 rv h0 n0 _ T3.heap _
        rw [e3]
        exact ⟨(congrArg (fun z => some (Value.double z)) (show d0 = rv by rw [← hrv]; simp only [if_pos hb4, if_neg hb17])), by first | assumption | exact N0, rfl⟩
  · skip
    have c8 : ∀ t, Steps p.tables e below (T1.setTop (mkF m 35 #[vD d0, s_, vD d1, s_, vD d1, s_] [(.double d1)])) t → Steps p.tables e below (s₁.setTop (entryFrame m #[(.double d0), (.double d1)] 6)) t := by
      intro t k
      refine c2 t ?_
      show Steps p.tables e below (T1.setTop (mkF m 4 #[vD d0, s_, vD d1, s_, u_, u_] [(.int qeg)])) _
      refine XS.ifNo X1.here hx rfl (hb hby d9_4) rfl (Jvm.Free.XT.i0_eq_f hb4) ?_
      refine XS.dloadN X1.here hx rfl (hb hby d9_7) rfl ?_
      refine XS.dstore X1.here hx rfl (hb hby d9_8) rfl (l' := #[vD d0, s_, vD d1, s_, vD d1, s_]) rfl ?_
      refine XS.goto X1.here hx rfl (pc0 := 10) (pc' := 33) rfl (hb hby d9_10) (by decide) (by decide) ?_
      refine XS.dload X1.here hx rfl (hb hby d9_33) rfl ?_
      exact k
    obtain ⟨fs, hr, hrun, hended, hW, hsame⟩ := X1.leave (v := some (.double d1)) (fun h => by rw [Bd.returns] at h; cases h)
    refine ⟨_, _, c8 _ ?_, hrun, hended, _, _, rfl, ?_, ⟨_, rfl⟩, hW, hsame.mono (by decide) (by decide)⟩
    · show Steps p.tables e below (T1.setTop (mkF m 35 #[vD d0, s_, vD d1, s_, vD d1, s_] [(.double d1)])) _
      exact retOut X1 hx Bd.returns rfl (Or.inr (Or.inr (Or.inl ⟨rfl, rfl, _, rfl⟩))) (hb hby d9_35) hr
    · show Q9 Z d0 d1 qfy qeg qiE qfj z28 rv h0 n0 _ T1.heap _
      rw [e1]
      exact ⟨(congrArg (fun z => some (Value.double z)) (show d1 = rv by rw [← hrv]; simp only [if_neg hb4])), by first | assumption | exact N0, rfl⟩
def Q11w (Z : State) (d0 d1 : UInt64) (rv : Int32) (h0 : Heap) (n0 : Nat) (v : Option Value) (h : Heap) (L : List Loc) : Prop := v = some (.int rv) ∧ Fr n0 L ∧ h = h0
theorem rm11w (l : Launch) (Z : State) (a0 : Array Value) (hw : ∀ d ∈ tables_1, d.before a0 Z = true) (ws : List Jvm.Cond) (d0 d1 : UInt64) (rv : Int32) (h0 : Heap) (n0 : Nat) (Z0 : n0 ≤ h0.size) (hrv : cmpf d0 d1 = rv) :
    MetFree l (⟨"java/lang/Double", "compare", "(DD)I"⟩ : MethodName) (head1 (Jvm.Cond.code (⟨"java/lang/Double", "compare", "(DD)I"⟩ : MethodName) jdk_117_method_27_code 8 (some .int) :: ws) ({ frames := 2, cells := 0, slots := 0, locals := 53 } : Room)) (fun a U => a = #[(.double d0), (.double d1)] ∧ Z.Warmed39 U.vm ∧ U.heap = h0) (fun _ _ _ _ _ => True) (fun _ U o U' => ∃ v L, o = .returned v ∧ Q11w Z d0 d1 rv h0 n0 v U'.heap L ∧ FrameEnd U o U' L ({ frames := 2, cells := 0, slots := 0, locals := 53 } : Room).cells ({ frames := 2, cells := 0, slots := 0, locals := 53 } : Room).slots) :=
  rm11 l Z a0 hw ws d0 d1 _ _ _ _ _ _ _ _ _ _ _ _ rv h0 n0 Z0  rfl rfl rfl rfl rfl rfl rfl rfl rfl rfl rfl rfl hrv 
def Q9w (Z : State) (d0 d1 : UInt64) (rv : UInt64) (h0 : Heap) (n0 : Nat) (v : Option Value) (h : Heap) (L : List Loc) : Prop := v = some (.double rv) ∧ Fr n0 L ∧ h = h0
theorem rm9w (l : Launch) (Z : State) (a0 : Array Value) (hw : ∀ d ∈ tables_1, d.before a0 Z = true) (ws : List Jvm.Cond) (d0 d1 : UInt64) (rv : UInt64) (h0 : Heap) (n0 : Nat) (Z0 : n0 ≤ h0.size) (hrv : mnf d0 d1 = rv) (ta : TV d0) (tb : TV d1) :
    MetFree l (⟨MTc, "min", "(DD)D"⟩ : MethodName) (head1 (Jvm.Cond.code (⟨MTc, "min", "(DD)D"⟩ : MethodName) prog_28_method_10_code 6 (some .double) :: ws) ({ frames := 1, cells := 0, slots := 0, locals := 15 } : Room)) (fun a U => a = #[(.double d0), (.double d1)] ∧ Z.Warmed39 U.vm ∧ U.heap = h0) (fun _ _ _ _ _ => True) (fun _ U o U' => ∃ v L, o = .returned v ∧ Q9w Z d0 d1 rv h0 n0 v U'.heap L ∧ FrameEnd U o U' L ({ frames := 1, cells := 0, slots := 0, locals := 15 } : Room).cells ({ frames := 1, cells := 0, slots := 0, locals := 15 } : Room).slots) :=
  rm9 l Z a0 hw ws d0 d1 _ _ _ _ _ rv h0 n0 Z0  rfl rfl rfl rfl rfl hrv (fun h1 _ => ta.nn h1) (fun _ h2 => tb.nn h2)
def Q4 (Z : State) (o0 : Addr) (d1 : UInt64) (qcP : ClassId)  (h0 : Heap) (n0 : Nat) (v : Option Value) (h : Heap) (L : List Loc) : Prop := v = none ∧ Fr n0 L ∧ Keep h0 h [o0] ∧ Arv Z h o0 qcP .double (32 : Int32) (t32 d1 d1 d1 d1 d1 d1 d1 d1 d1 d1 d1 d1 d1 d1 d1 d1 d1 d1 d1 d1 d1 d1 d1 d1 d1 d1 d1 d1 d1 d1 d1 d1) (.double (0 : UInt64))
set_option maxRecDepth 65536 in
set_option maxHeartbeats 40000000 in
theorem rm4 (l : Launch) (Z : State) (a0 : Array Value) (hw : ∀ d ∈ tables_1, d.before a0 Z = true) (ws : List Jvm.Cond) (o0 : Addr) (d1 : UInt64) (qcP : ClassId)  (h0 : Heap) (n0 : Nat) (Z0 : n0 ≤ h0.size) (qh6 : Arv Z h0 o0 qcP .double (32 : Int32) (t32 (0 : UInt64) (0 : UInt64) (0 : UInt64) (0 : UInt64) (0 : UInt64) (0 : UInt64) (0 : UInt64) (0 : UInt64) (0 : UInt64) (0 : UInt64) (0 : UInt64) (0 : UInt64) (0 : UInt64) (0 : UInt64) (0 : UInt64) (0 : UInt64) (0 : UInt64) (0 : UInt64) (0 : UInt64) (0 : UInt64) (0 : UInt64) (0 : UInt64) (0 : UInt64) (0 : UInt64) (0 : UInt64) (0 : UInt64) (0 : UInt64) (0 : UInt64) (0 : UInt64) (0 : UInt64) (0 : UInt64) (0 : UInt64)) (.double (0 : UInt64))) (qU : n0 ≤ o0) :
    MetFree l (⟨"java/util/Arrays", "fill", "([DD)V"⟩ : MethodName) (head1 (Jvm.Cond.code (⟨"java/util/Arrays", "fill", "([DD)V"⟩ : MethodName) jdk_65_method_113_code 5 none :: ws) ({ frames := 0, cells := 0, slots := 0, locals := 0 } : Room)) (fun a U => a = #[(.ref o0), (.double d1)] ∧ Z.Warmed39 U.vm ∧ U.heap = h0) (fun _ _ _ _ _ => True) (fun _ U o U' => ∃ v L, o = .returned v ∧ Q4 Z o0 d1 qcP  h0 n0 v U'.heap L ∧ FrameEnd U o U' L ({ frames := 0, cells := 0, slots := 0, locals := 0 } : Room).cells ({ frames := 0, cells := 0, slots := 0, locals := 0 } : Room).slots) := by
  refine MetFree.of_bodySF (plainFor_of_name pn_2) hisR ?_
  intro p e s m args below meth c s₁ Bd hml0 hP hK
  obtain ⟨rfl, hZ, hh⟩ := hP
  have hx := Bd.exec
  have hby := Bd.bytes
  have hml : c.maxLocals = 5 := hml0
  have hown : s.vm.findClass "java/util/Arrays" = some m.cls := findClass_of_methodNamed Bd.named
  have hnm := (name_of_methodNamed Bd.named Bd.method).1
  have X0 : Stand p l e ({ frames := 0, cells := 0, slots := 0, locals := 0 } : Room) s m #[(.ref o0), (.double d1)] below meth c s₁ [] 0 0 := Stand.of_body Bd
  have e0 : s₁.heap = h0 := by rw [← hh, Bd.state]; rfl
  have N0 := Fr.nil n0
  have c0 : ∀ t, Steps p.tables e below (s₁.setTop (mkF m 0 #[vR o0, vD d1, s_, u_, u_] [])) t → Steps p.tables e below (s₁.setTop (entryFrame m #[(.ref o0), (.double d1)] 5)) t := fun t k => castTop (ef_rm4 m o0 d1) k
  obtain ⟨cl1, Ar1, -, S1, Nn1, -, -⟩ := id qh6
  obtain ⟨cl2, Ar2, q2, S2, Nn2, Ha2, G2⟩ := id qh6
  have in2 : ¬ ((0 : Int32) < 0 ∨ cl2.slots.size ≤ ((0 : Int32)).toNatClampNeg) := inb_of S2 ⟨by decide, by decide⟩
  obtain ⟨T3, h3, X3, e3, W3, st3⟩ := stD X0 hx hZ e0 Ar2 (j := (0 : Int32)) in2 (g := (mkF m 15 #[vR o0, vD d1, s_, vI (0 : Int32), vI (32 : Int32)] [(.double d1), (.int (0 : Int32)), (.ref o0)])) rfl rfl (hb hby d4_15)
  have N3 := Fr.snoc X3 N0 qU
  have K4 : Keep h0 h3 [o0] := (Keep.refl h0 [o0]).wr W3 (Or.inl (by simp))
  have V3 : Arv Z h3 o0 qcP .double (32 : Int32) (t32 d1 (0 : UInt64) (0 : UInt64) (0 : UInt64) (0 : UInt64) (0 : UInt64) (0 : UInt64) (0 : UInt64) (0 : UInt64) (0 : UInt64) (0 : UInt64) (0 : UInt64) (0 : UInt64) (0 : UInt64) (0 : UInt64) (0 : UInt64) (0 : UInt64) (0 : UInt64) (0 : UInt64) (0 : UInt64) (0 : UInt64) (0 : UInt64) (0 : UInt64) (0 : UInt64) (0 : UInt64) (0 : UInt64) (0 : UInt64) (0 : UInt64) (0 : UInt64) (0 : UInt64) (0 : UInt64) (0 : UInt64)) (.double (0 : UInt64)) := Arv.set Ar2 q2 S2 Nn2 Ha2 G2 rfl W3 0 rfl (show (0 : Nat) < 32 by decide)
  obtain ⟨cl5, Ar5, q5, S5, Nn5, Ha5, G5⟩ := id V3
  have in5 : ¬ ((1 : Int32) < 0 ∨ cl5.slots.size ≤ ((1 : Int32)).toNatClampNeg) := inb_of S5 ⟨by decide, by decide⟩
  obtain ⟨T6, h6, X6, e6, W6, st6⟩ := stD X3 hx hZ e3 Ar5 (j := (1 : Int32)) in5 (g := (mkF m 15 #[vR o0, vD d1, s_, vI (1 : Int32), vI (32 : Int32)] [(.double d1), (.int (1 : Int32)), (.ref o0)])) rfl rfl (hb hby d4_15)
  have N6 := Fr.snoc X6 N3 qU
  have K7 : Keep h0 h6 [o0] := K4.wr W6 (Or.inl (by simp))
  have V6 : Arv Z h6 o0 qcP .double (32 : Int32) (t32 d1 d1 (0 : UInt64) (0 : UInt64) (0 : UInt64) (0 : UInt64) (0 : UInt64) (0 : UInt64) (0 : UInt64) (0 : UInt64) (0 : UInt64) (0 : UInt64) (0 : UInt64) (0 : UInt64) (0 : UInt64) (0 : UInt64) (0 : UInt64) (0 : UInt64) (0 : UInt64) (0 : UInt64) (0 : UInt64) (0 : UInt64) (0 : UInt64) (0 : UInt64) (0 : UInt64) (0 : UInt64) (0 : UInt64) (0 : UInt64) (0 : UInt64) (0 : UInt64) (0 : UInt64) (0 : UInt64)) (.double (0 : UInt64)) := Arv.set Ar5 q5 S5 Nn5 Ha5 G5 rfl W6 1 rfl (show (1 : Nat) < 32 by decide)
  obtain ⟨cl8, Ar8, q8, S8, Nn8, Ha8, G8⟩ := id V6
  have in8 : ¬ ((2 : Int32) < 0 ∨ cl8.slots.size ≤ ((2 : Int32)).toNatClampNeg) := inb_of S8 ⟨by decide, by decide⟩
  obtain ⟨T9, h9, X9, e9, W9, st9⟩ := stD X6 hx hZ e6 Ar8 (j := (2 : Int32)) in8 (g := (mkF m 15 #[vR o0, vD d1, s_, vI (2 : Int32), vI (32 : Int32)] [(.double d1), (.int (2 : Int32)), (.ref o0)])) rfl rfl (hb hby d4_15)
  have N9 := Fr.snoc X9 N6 qU
  have K10 : Keep h0 h9 [o0] := K7.wr W9 (Or.inl (by simp))
  have V9 : Arv Z h9 o0 qcP .double (32 : Int32) (t32 d1 d1 d1 (0 : UInt64) (0 : UInt64) (0 : UInt64) (0 : UInt64) (0 : UInt64) (0 : UInt64) (0 : UInt64) (0 : UInt64) (0 : UInt64) (0 : UInt64) (0 : UInt64) (0 : UInt64) (0 : UInt64) (0 : UInt64) (0 : UInt64) (0 : UInt64) (0 : UInt64) (0 : UInt64) (0 : UInt64) (0 : UInt64) (0 : UInt64) (0 : UInt64) (0 : UInt64) (0 : UInt64) (0 : UInt64) (0 : UInt64) (0 : UInt64) (0 : UInt64) (0 : UInt64)) (.double (0 : UInt64)) := Arv.set Ar8 q8 S8 Nn8 Ha8 G8 rfl W9 2 rfl (show (2 : Nat) < 32 by decide)
  obtain ⟨cl11, Ar11, q11, S11, Nn11, Ha11, G11⟩ := id V9
  have in11 : ¬ ((3 : Int32) < 0 ∨ cl11.slots.size ≤ ((3 : Int32)).toNatClampNeg) := inb_of S11 ⟨by decide, by decide⟩
  obtain ⟨T12, h12, X12, e12, W12, st12⟩ := stD X9 hx hZ e9 Ar11 (j := (3 : Int32)) in11 (g := (mkF m 15 #[vR o0, vD d1, s_, vI (3 : Int32), vI (32 : Int32)] [(.double d1), (.int (3 : Int32)), (.ref o0)])) rfl rfl (hb hby d4_15)
  have N12 := Fr.snoc X12 N9 qU
  have K13 : Keep h0 h12 [o0] := K10.wr W12 (Or.inl (by simp))
  have V12 : Arv Z h12 o0 qcP .double (32 : Int32) (t32 d1 d1 d1 d1 (0 : UInt64) (0 : UInt64) (0 : UInt64) (0 : UInt64) (0 : UInt64) (0 : UInt64) (0 : UInt64) (0 : UInt64) (0 : UInt64) (0 : UInt64) (0 : UInt64) (0 : UInt64) (0 : UInt64) (0 : UInt64) (0 : UInt64) (0 : UInt64) (0 : UInt64) (0 : UInt64) (0 : UInt64) (0 : UInt64) (0 : UInt64) (0 : UInt64) (0 : UInt64) (0 : UInt64) (0 : UInt64) (0 : UInt64) (0 : UInt64) (0 : UInt64)) (.double (0 : UInt64)) := Arv.set Ar11 q11 S11 Nn11 Ha11 G11 rfl W12 3 rfl (show (3 : Nat) < 32 by decide)
  obtain ⟨cl14, Ar14, q14, S14, Nn14, Ha14, G14⟩ := id V12
  have in14 : ¬ ((4 : Int32) < 0 ∨ cl14.slots.size ≤ ((4 : Int32)).toNatClampNeg) := inb_of S14 ⟨by decide, by decide⟩
  obtain ⟨T15, h15, X15, e15, W15, st15⟩ := stD X12 hx hZ e12 Ar14 (j := (4 : Int32)) in14 (g := (mkF m 15 #[vR o0, vD d1, s_, vI (4 : Int32), vI (32 : Int32)] [(.double d1), (.int (4 : Int32)), (.ref o0)])) rfl rfl (hb hby d4_15)
  have N15 := Fr.snoc X15 N12 qU
  have K16 : Keep h0 h15 [o0] := K13.wr W15 (Or.inl (by simp))
  have V15 : Arv Z h15 o0 qcP .double (32 : Int32) (t32 d1 d1 d1 d1 d1 (0 : UInt64) (0 : UInt64) (0 : UInt64) (0 : UInt64) (0 : UInt64) (0 : UInt64) (0 : UInt64) (0 : UInt64) (0 : UInt64) (0 : UInt64) (0 : UInt64) (0 : UInt64) (0 : UInt64) (0 : UInt64) (0 : UInt64) (0 : UInt64) (0 : UInt64) (0 : UInt64) (0 : UInt64) (0 : UInt64) (0 : UInt64) (0 : UInt64) (0 : UInt64) (0 : UInt64) (0 : UInt64) (0 : UInt64) (0 : UInt64)) (.double (0 : UInt64)) := Arv.set Ar14 q14 S14 Nn14 Ha14 G14 rfl W15 4 rfl (show (4 : Nat) < 32 by decide)
  obtain ⟨cl17, Ar17, q17, S17, Nn17, Ha17, G17⟩ := id V15
  have in17 : ¬ ((5 : Int32) < 0 ∨ cl17.slots.size ≤ ((5 : Int32)).toNatClampNeg) := inb_of S17 ⟨by decide, by decide⟩
  obtain ⟨T18, h18, X18, e18, W18, st18⟩ := stD X15 hx hZ e15 Ar17 (j := (5 : Int32)) in17 (g := (mkF m 15 #[vR o0, vD d1, s_, vI (5 : Int32), vI (32 : Int32)] [(.double d1), (.int (5 : Int32)), (.ref o0)])) rfl rfl (hb hby d4_15)
  have N18 := Fr.snoc X18 N15 qU
  have K19 : Keep h0 h18 [o0] := K16.wr W18 (Or.inl (by simp))
  have V18 : Arv Z h18 o0 qcP .double (32 : Int32) (t32 d1 d1 d1 d1 d1 d1 (0 : UInt64) (0 : UInt64) (0 : UInt64) (0 : UInt64) (0 : UInt64) (0 : UInt64) (0 : UInt64) (0 : UInt64) (0 : UInt64) (0 : UInt64) (0 : UInt64) (0 : UInt64) (0 : UInt64) (0 : UInt64) (0 : UInt64) (0 : UInt64) (0 : UInt64) (0 : UInt64) (0 : UInt64) (0 : UInt64) (0 : UInt64) (0 : UInt64) (0 : UInt64) (0 : UInt64) (0 : UInt64) (0 : UInt64)) (.double (0 : UInt64)) := Arv.set Ar17 q17 S17 Nn17 Ha17 G17 rfl W18 5 rfl (show (5 : Nat) < 32 by decide)
  obtain ⟨cl20, Ar20, q20, S20, Nn20, Ha20, G20⟩ := id V18
  have in20 : ¬ ((6 : Int32) < 0 ∨ cl20.slots.size ≤ ((6 : Int32)).toNatClampNeg) := inb_of S20 ⟨by decide, by decide⟩
  obtain ⟨T21, h21, X21, e21, W21, st21⟩ := stD X18 hx hZ e18 Ar20 (j := (6 : Int32)) in20 (g := (mkF m 15 #[vR o0, vD d1, s_, vI (6 : Int32), vI (32 : Int32)] [(.double d1), (.int (6 : Int32)), (.ref o0)])) rfl rfl (hb hby d4_15)
  have N21 := Fr.snoc X21 N18 qU
  have K22 : Keep h0 h21 [o0] := K19.wr W21 (Or.inl (by simp))
  have V21 : Arv Z h21 o0 qcP .double (32 : Int32) (t32 d1 d1 d1 d1 d1 d1 d1 (0 : UInt64) (0 : UInt64) (0 : UInt64) (0 : UInt64) (0 : UInt64) (0 : UInt64) (0 : UInt64) (0 : UInt64) (0 : UInt64) (0 : UInt64) (0 : UInt64) (0 : UInt64) (0 : UInt64) (0 : UInt64) (0 : UInt64) (0 : UInt64) (0 : UInt64) (0 : UInt64) (0 : UInt64) (0 : UInt64) (0 : UInt64) (0 : UInt64) (0 : UInt64) (0 : UInt64) (0 : UInt64)) (.double (0 : UInt64)) := Arv.set Ar20 q20 S20 Nn20 Ha20 G20 rfl W21 6 rfl (show (6 : Nat) < 32 by decide)
  obtain ⟨cl23, Ar23, q23, S23, Nn23, Ha23, G23⟩ := id V21
  have in23 : ¬ ((7 : Int32) < 0 ∨ cl23.slots.size ≤ ((7 : Int32)).toNatClampNeg) := inb_of S23 ⟨by decide, by decide⟩
  obtain ⟨T24, h24, X24, e24, W24, st24⟩ := stD X21 hx hZ e21 Ar23 (j := (7 : Int32)) in23 (g := (mkF m 15 #[vR o0, vD d1, s_, vI (7 : Int32), vI (32 : Int32)] [(.double d1), (.int (7 : Int32)), (.ref o0)])) rfl rfl (hb hby d4_15)
  have N24 := Fr.snoc X24 N21 qU
  have K25 : Keep h0 h24 [o0] := K22.wr W24 (Or.inl (by simp))
  have V24 : Arv Z h24 o0 qcP .double (32 : Int32) (t32 d1 d1 d1 d1 d1 d1 d1 d1 (0 : UInt64) (0 : UInt64) (0 : UInt64) (0 : UInt64) (0 : UInt64) (0 : UInt64) (0 : UInt64) (0 : UInt64) (0 : UInt64) (0 : UInt64) (0 : UInt64) (0 : UInt64) (0 : UInt64) (0 : UInt64) (0 : UInt64) (0 : UInt64) (0 : UInt64) (0 : UInt64) (0 : UInt64) (0 : UInt64) (0 : UInt64) (0 : UInt64) (0 : UInt64) (0 : UInt64)) (.double (0 : UInt64)) := Arv.set Ar23 q23 S23 Nn23 Ha23 G23 rfl W24 7 rfl (show (7 : Nat) < 32 by decide)
  obtain ⟨cl26, Ar26, q26, S26, Nn26, Ha26, G26⟩ := id V24
  have in26 : ¬ ((8 : Int32) < 0 ∨ cl26.slots.size ≤ ((8 : Int32)).toNatClampNeg) := inb_of S26 ⟨by decide, by decide⟩
  obtain ⟨T27, h27, X27, e27, W27, st27⟩ := stD X24 hx hZ e24 Ar26 (j := (8 : Int32)) in26 (g := (mkF m 15 #[vR o0, vD d1, s_, vI (8 : Int32), vI (32 : Int32)] [(.double d1), (.int (8 : Int32)), (.ref o0)])) rfl rfl (hb hby d4_15)
  have N27 := Fr.snoc X27 N24 qU
  have K28 : Keep h0 h27 [o0] := K25.wr W27 (Or.inl (by simp))
  have V27 : Arv Z h27 o0 qcP .double (32 : Int32) (t32 d1 d1 d1 d1 d1 d1 d1 d1 d1 (0 : UInt64) (0 : UInt64) (0 : UInt64) (0 : UInt64) (0 : UInt64) (0 : UInt64) (0 : UInt64) (0 : UInt64) (0 : UInt64) (0 : UInt64) (0 : UInt64) (0 : UInt64) (0 : UInt64) (0 : UInt64) (0 : UInt64) (0 : UInt64) (0 : UInt64) (0 : UInt64) (0 : UInt64) (0 : UInt64) (0 : UInt64) (0 : UInt64) (0 : UInt64)) (.double (0 : UInt64)) := Arv.set Ar26 q26 S26 Nn26 Ha26 G26 rfl W27 8 rfl (show (8 : Nat) < 32 by decide)
  obtain ⟨cl29, Ar29, q29, S29, Nn29, Ha29, G29⟩ := id V27
  have in29 : ¬ ((9 : Int32) < 0 ∨ cl29.slots.size ≤ ((9 : Int32)).toNatClampNeg) := inb_of S29 ⟨by decide, by decide⟩
  obtain ⟨T30, h30, X30, e30, W30, st30⟩ := stD X27 hx hZ e27 Ar29 (j := (9 : Int32)) in29 (g := (mkF m 15 #[vR o0, vD d1, s_, vI (9 : Int32), vI (32 : Int32)] [(.double d1), (.int (9 : Int32)), (.ref o0)])) rfl rfl (hb hby d4_15)
  have N30 := Fr.snoc X30 N27 qU
  have K31 : Keep h0 h30 [o0] := K28.wr W30 (Or.inl (by simp))
  have V30 : Arv Z h30 o0 qcP .double (32 : Int32) (t32 d1 d1 d1 d1 d1 d1 d1 d1 d1 d1 (0 : UInt64) (0 : UInt64) (0 : UInt64) (0 : UInt64) (0 : UInt64) (0 : UInt64) (0 : UInt64) (0 : UInt64) (0 : UInt64) (0 : UInt64) (0 : UInt64) (0 : UInt64) (0 : UInt64) (0 : UInt64) (0 : UInt64) (0 : UInt64) (0 : UInt64) (0 : UInt64) (0 : UInt64) (0 : UInt64) (0 : UInt64) (0 : UInt64)) (.double (0 : UInt64)) := Arv.set Ar29 q29 S29 Nn29 Ha29 G29 rfl W30 9 rfl (show (9 : Nat) < 32 by decide)
  obtain ⟨cl32, Ar32, q32, S32, Nn32, Ha32, G32⟩ := id V30
  have in32 : ¬ ((10 : Int32) < 0 ∨ cl32.slots.size ≤ ((10 : Int32)).toNatClampNeg) := inb_of S32 ⟨by decide, by decide⟩
  obtain ⟨T33, h33, X33, e33, W33, st33⟩ := stD X30 hx hZ e30 Ar32 (j := (10 : Int32)) in32 (g := (mkF m 15 #[vR o0, vD d1, s_, vI (10 : Int32), vI (32 : Int32)] [(.double d1), (.int (10 : Int32)), (.ref o0)])) rfl rfl (hb hby d4_15)
  have N33 := Fr.snoc X33 N30 qU
  have K34 : Keep h0 h33 [o0] := K31.wr W33 (Or.inl (by simp))
  have V33 : Arv Z h33 o0 qcP .double (32 : Int32) (t32 d1 d1 d1 d1 d1 d1 d1 d1 d1 d1 d1 (0 : UInt64) (0 : UInt64) (0 : UInt64) (0 : UInt64) (0 : UInt64) (0 : UInt64) (0 : UInt64) (0 : UInt64) (0 : UInt64) (0 : UInt64) (0 : UInt64) (0 : UInt64) (0 : UInt64) (0 : UInt64) (0 : UInt64) (0 : UInt64) (0 : UInt64) (0 : UInt64) (0 : UInt64) (0 : UInt64) (0 : UInt64)) (.double (0 : UInt64)) := Arv.set Ar32 q32 S32 Nn32 Ha32 G32 rfl W33 10 rfl (show (10 : Nat) < 32 by decide)
  obtain ⟨cl35, Ar35, q35, S35, Nn35, Ha35, G35⟩ := id V33
  have in35 : ¬ ((11 : Int32) < 0 ∨ cl35.slots.size ≤ ((11 : Int32)).toNatClampNeg) := inb_of S35 ⟨by decide, by decide⟩
  obtain ⟨T36, h36, X36, e36, W36, st36⟩ := stD X33 hx hZ e33 Ar35 (j := (11 : Int32)) in35 (g := (mkF m 15 #[vR o0, vD d1, s_, vI (11 : Int32), vI (32 : Int32)] [(.double d1), (.int (11 : Int32)), (.ref o0)])) rfl rfl (hb hby d4_15)
  have N36 := Fr.snoc X36 N33 qU
  have K37 : Keep h0 h36 [o0] := K34.wr W36 (Or.inl (by simp))
  have V36 : Arv Z h36 o0 qcP .double (32 : Int32) (t32 d1 d1 d1 d1 d1 d1 d1 d1 d1 d1 d1 d1 (0 : UInt64) (0 : UInt64) (0 : UInt64) (0 : UInt64) (0 : UInt64) (0 : UInt64) (0 : UInt64) (0 : UInt64) (0 : UInt64) (0 : UInt64) (0 : UInt64) (0 : UInt64) (0 : UInt64) (0 : UInt64) (0 : UInt64) (0 : UInt64) (0 : UInt64) (0 : UInt64) (0 : UInt64) (0 : UInt64)) (.double (0 : UInt64)) := Arv.set Ar35 q35 S35 Nn35 Ha35 G35 rfl W36 11 rfl (show (11 : Nat) < 32 by decide)
  obtain ⟨cl38, Ar38, q38, S38, Nn38, Ha38, G38⟩ := id V36
  have in38 : ¬ ((12 : Int32) < 0 ∨ cl38.slots.size ≤ ((12 : Int32)).toNatClampNeg) := inb_of S38 ⟨by decide, by decide⟩
  obtain ⟨T39, h39, X39, e39, W39, st39⟩ := stD X36 hx hZ e36 Ar38 (j := (12 : Int32)) in38 (g := (mkF m 15 #[vR o0, vD d1, s_, vI (12 : Int32), vI (32 : Int32)] [(.double d1), (.int (12 : Int32)), (.ref o0)])) rfl rfl (hb hby d4_15)
  have N39 := Fr.snoc X39 N36 qU
  have K40 : Keep h0 h39 [o0] := K37.wr W39 (Or.inl (by simp))
  have V39 : Arv Z h39 o0 qcP .double (32 : Int32) (t32 d1 d1 d1 d1 d1 d1 d1 d1 d1 d1 d1 d1 d1 (0 : UInt64) (0 : UInt64) (0 : UInt64) (0 : UInt64) (0 : UInt64) (0 : UInt64) (0 : UInt64) (0 : UInt64) (0 : UInt64) (0 : UInt64) (0 : UInt64) (0 : UInt64) (0 : UInt64) (0 : UInt64) (0 : UInt64) (0 : UInt64) (0 : UInt64) (0 : UInt64) (0 : UInt64)) (.double (0 : UInt64)) := Arv.set Ar38 q38 S38 Nn38 Ha38 G38 rfl W39 12 rfl (show (12 : Nat) < 32 by decide)
  obtain ⟨cl41, Ar41, q41, S41, Nn41, Ha41, G41⟩ := id V39
  have in41 : ¬ ((13 : Int32) < 0 ∨ cl41.slots.size ≤ ((13 : Int32)).toNatClampNeg) := inb_of S41 ⟨by decide, by decide⟩
  obtain ⟨T42, h42, X42, e42, W42, st42⟩ := stD X39 hx hZ e39 Ar41 (j := (13 : Int32)) in41 (g := (mkF m 15 #[vR o0, vD d1, s_, vI (13 : Int32), vI (32 : Int32)] [(.double d1), (.int (13 : Int32)), (.ref o0)])) rfl rfl (hb hby d4_15)
  have N42 := Fr.snoc X42 N39 qU
  have K43 : Keep h0 h42 [o0] := K40.wr W42 (Or.inl (by simp))
  have V42 : Arv Z h42 o0 qcP .double (32 : Int32) (t32 d1 d1 d1 d1 d1 d1 d1 d1 d1 d1 d1 d1 d1 d1 (0 : UInt64) (0 : UInt64) (0 : UInt64) (0 : UInt64) (0 : UInt64) (0 : UInt64) (0 : UInt64) (0 : UInt64) (0 : UInt64) (0 : UInt64) (0 : UInt64) (0 : UInt64) (0 : UInt64) (0 : UInt64) (0 : UInt64) (0 : UInt64) (0 : UInt64) (0 : UInt64)) (.double (0 : UInt64)) := Arv.set Ar41 q41 S41 Nn41 Ha41 G41 rfl W42 13 rfl (show (13 : Nat) < 32 by decide)
  obtain ⟨cl44, Ar44, q44, S44, Nn44, Ha44, G44⟩ := id V42
  have in44 : ¬ ((14 : Int32) < 0 ∨ cl44.slots.size ≤ ((14 : Int32)).toNatClampNeg) := inb_of S44 ⟨by decide, by decide⟩
  obtain ⟨T45, h45, X45, e45, W45, st45⟩ := stD X42 hx hZ e42 Ar44 (j := (14 : Int32)) in44 (g := (mkF m 15 #[vR o0, vD d1, s_, vI (14 : Int32), vI (32 : Int32)] [(.double d1), (.int (14 : Int32)), (.ref o0)])) rfl rfl (hb hby d4_15)
  have N45 := Fr.snoc X45 N42 qU
  have K46 : Keep h0 h45 [o0] := K43.wr W45 (Or.inl (by simp))
  have V45 : Arv Z h45 o0 qcP .double (32 : Int32) (t32 d1 d1 d1 d1 d1 d1 d1 d1 d1 d1 d1 d1 d1 d1 d1 (0 : UInt64) (0 : UInt64) (0 : UInt64) (0 : UInt64) (0 : UInt64) (0 : UInt64) (0 : UInt64) (0 : UInt64) (0 : UInt64) (0 : UInt64) (0 : UInt64) (0 : UInt64) (0 : UInt64) (0 : UInt64) (0 : UInt64) (0 : UInt64) (0 : UInt64)) (.double (0 : UInt64)) := Arv.set Ar44 q44 S44 Nn44 Ha44 G44 rfl W45 14 rfl (show (14 : Nat) < 32 by decide)
  obtain ⟨cl47, Ar47, q47, S47, Nn47, Ha47, G47⟩ := id V45
  have in47 : ¬ ((15 : Int32) < 0 ∨ cl47.slots.size ≤ ((15 : Int32)).toNatClampNeg) := inb_of S47 ⟨by decide, by decide⟩
  obtain ⟨T48, h48, X48, e48, W48, st48⟩ := stD X45 hx hZ e45 Ar47 (j := (15 : Int32)) in47 (g := (mkF m 15 #[vR o0, vD d1, s_, vI (15 : Int32), vI (32 : Int32)] [(.double d1), (.int (15 : Int32)), (.ref o0)])) rfl rfl (hb hby d4_15)
  have N48 := Fr.snoc X48 N45 qU
  have K49 : Keep h0 h48 [o0] := K46.wr W48 (Or.inl (by simp))
  have V48 : Arv Z h48 o0 qcP .double (32 : Int32) (t32 d1 d1 d1 d1 d1 d1 d1 d1 d1 d1 d1 d1 d1 d1 d1 d1 (0 : UInt64) (0 : UInt64) (0 : UInt64) (0 : UInt64) (0 : UInt64) (0 : UInt64) (0 : UInt64) (0 : UInt64) (0 : UInt64) (0 : UInt64) (0 : UInt64) (0 : UInt64) (0 : UInt64) (0 : UInt64) (0 : UInt64) (0 : UInt64)) (.double (0 : UInt64)) := Arv.set Ar47 q47 S47 Nn47 Ha47 G47 rfl W48 15 rfl (show (15 : Nat) < 32 by decide)
  obtain ⟨cl50, Ar50, q50, S50, Nn50, Ha50, G50⟩ := id V48
  have in50 : ¬ ((16 : Int32) < 0 ∨ cl50.slots.size ≤ ((16 : Int32)).toNatClampNeg) := inb_of S50 ⟨by decide, by decide⟩
  obtain ⟨T51, h51, X51, e51, W51, st51⟩ := stD X48 hx hZ e48 Ar50 (j := (16 : Int32)) in50 (g := (mkF m 15 #[vR o0, vD d1, s_, vI (16 : Int32), vI (32 : Int32)] [(.double d1), (.int (16 : Int32)), (.ref o0)])) rfl rfl (hb hby d4_15)
  have N51 := Fr.snoc X51 N48 qU
  have K52 : Keep h0 h51 [o0] := K49.wr W51 (Or.inl (by simp))
  have V51 : Arv Z h51 o0 qcP .double (32 : Int32) (t32 d1 d1 d1 d1 d1 d1 d1 d1 d1 d1 d1 d1 d1 d1 d1 d1 d1 (0 : UInt64) (0 : UInt64) (0 : UInt64) (0 : UInt64) (0 : UInt64) (0 : UInt64) (0 : UInt64) (0 : UInt64) (0 : UInt64) (0 : UInt64) (0 : UInt64) (0 : UInt64) (0 : UInt64) (0 : UInt64) (0 : UInt64)) (.double (0 : UInt64)) := Arv.set Ar50 q50 S50 Nn50 Ha50 G50 rfl W51 16 rfl (show (16 : Nat) < 32 by decide)
  obtain ⟨cl53, Ar53, q53, S53, Nn53, Ha53, G53⟩ := id V51
  have in53 : ¬ ((17 : Int32) < 0 ∨ cl53.slots.size ≤ ((17 : Int32)).toNatClampNeg) := inb_of S53 ⟨by decide, by decide⟩
  obtain ⟨T54, h54, X54, e54, W54, st54⟩ := stD X51 hx hZ e51 Ar53 (j := (17 : Int32)) in53 (g := (mkF m 15 #[vR o0, vD d1, s_, vI (17 : Int32), vI (32 : Int32)] [(.double d1), (.int (17 : Int32)), (.ref o0)])) rfl rfl (hb hby d4_15)
  have N54 := Fr.snoc X54 N51 qU
  have K55 : Keep h0 h54 [o0] := K52.wr W54 (Or.inl (by simp))
  have V54 : Arv Z h54 o0 qcP .double (32 : Int32) (t32 d1 d1 d1 d1 d1 d1 d1 d1 d1 d1 d1 d1 d1 d1 d1 d1 d1 d1 (0 : UInt64) (0 : UInt64) (0 : UInt64) (0 : UInt64) (0 : UInt64) (0 : UInt64) (0 : UInt64) (0 : UInt64) (0 : UInt64) (0 : UInt64) (0 : UInt64) (0 : UInt64) (0 : UInt64) (0 : UInt64)) (.double (0 : UInt64)) := Arv.set Ar53 q53 S53 Nn53 Ha53 G53 rfl W54 17 rfl (show (17 : Nat) < 32 by decide)
  obtain ⟨cl56, Ar56, q56, S56, Nn56, Ha56, G56⟩ := id V54
  have in56 : ¬ ((18 : Int32) < 0 ∨ cl56.slots.size ≤ ((18 : Int32)).toNatClampNeg) := inb_of S56 ⟨by decide, by decide⟩
  obtain ⟨T57, h57, X57, e57, W57, st57⟩ := stD X54 hx hZ e54 Ar56 (j := (18 : Int32)) in56 (g := (mkF m 15 #[vR o0, vD d1, s_, vI (18 : Int32), vI (32 : Int32)] [(.double d1), (.int (18 : Int32)), (.ref o0)])) rfl rfl (hb hby d4_15)
  have N57 := Fr.snoc X57 N54 qU
  have K58 : Keep h0 h57 [o0] := K55.wr W57 (Or.inl (by simp))
  have V57 : Arv Z h57 o0 qcP .double (32 : Int32) (t32 d1 d1 d1 d1 d1 d1 d1 d1 d1 d1 d1 d1 d1 d1 d1 d1 d1 d1 d1 (0 : UInt64) (0 : UInt64) (0 : UInt64) (0 : UInt64) (0 : UInt64) (0 : UInt64) (0 : UInt64) (0 : UInt64) (0 : UInt64) (0 : UInt64) (0 : UInt64) (0 : UInt64) (0 : UInt64)) (.double (0 : UInt64)) := Arv.set Ar56 q56 S56 Nn56 Ha56 G56 rfl W57 18 rfl (show (18 : Nat) < 32 by decide)
  obtain ⟨cl59, Ar59, q59, S59, Nn59, Ha59, G59⟩ := id V57
  have in59 : ¬ ((19 : Int32) < 0 ∨ cl59.slots.size ≤ ((19 : Int32)).toNatClampNeg) := inb_of S59 ⟨by decide, by decide⟩
  obtain ⟨T60, h60, X60, e60, W60, st60⟩ := stD X57 hx hZ e57 Ar59 (j := (19 : Int32)) in59 (g := (mkF m 15 #[vR o0, vD d1, s_, vI (19 : Int32), vI (32 : Int32)] [(.double d1), (.int (19 : Int32)), (.ref o0)])) rfl rfl (hb hby d4_15)
  have N60 := Fr.snoc X60 N57 qU
  have K61 : Keep h0 h60 [o0] := K58.wr W60 (Or.inl (by simp))
  have V60 : Arv Z h60 o0 qcP .double (32 : Int32) (t32 d1 d1 d1 d1 d1 d1 d1 d1 d1 d1 d1 d1 d1 d1 d1 d1 d1 d1 d1 d1 (0 : UInt64) (0 : UInt64) (0 : UInt64) (0 : UInt64) (0 : UInt64) (0 : UInt64) (0 : UInt64) (0 : UInt64) (0 : UInt64) (0 : UInt64) (0 : UInt64) (0 : UInt64)) (.double (0 : UInt64)) := Arv.set Ar59 q59 S59 Nn59 Ha59 G59 rfl W60 19 rfl (show (19 : Nat) < 32 by decide)
  obtain ⟨cl62, Ar62, q62, S62, Nn62, Ha62, G62⟩ := id V60
  have in62 : ¬ ((20 : Int32) < 0 ∨ cl62.slots.size ≤ ((20 : Int32)).toNatClampNeg) := inb_of S62 ⟨by decide, by decide⟩
  obtain ⟨T63, h63, X63, e63, W63, st63⟩ := stD X60 hx hZ e60 Ar62 (j := (20 : Int32)) in62 (g := (mkF m 15 #[vR o0, vD d1, s_, vI (20 : Int32), vI (32 : Int32)] [(.double d1), (.int (20 : Int32)), (.ref o0)])) rfl rfl (hb hby d4_15)
  have N63 := Fr.snoc X63 N60 qU
  have K64 : Keep h0 h63 [o0] := K61.wr W63 (Or.inl (by simp))
  have V63 : Arv Z h63 o0 qcP .double (32 : Int32) (t32 d1 d1 d1 d1 d1 d1 d1 d1 d1 d1 d1 d1 d1 d1 d1 d1 d1 d1 d1 d1 d1 (0 : UInt64) (0 : UInt64) (0 : UInt64) (0 : UInt64) (0 : UInt64) (0 : UInt64) (0 : UInt64) (0 : UInt64) (0 : UInt64) (0 : UInt64) (0 : UInt64)) (.double (0 : UInt64)) := Arv.set Ar62 q62 S62 Nn62 Ha62 G62 rfl W63 20 rfl (show (20 : Nat) < 32 by decide)
  obtain ⟨cl65, Ar65, q65, S65, Nn65, Ha65, G65⟩ := id V63
  have in65 : ¬ ((21 : Int32) < 0 ∨ cl65.slots.size ≤ ((21 : Int32)).toNatClampNeg) := inb_of S65 ⟨by decide, by decide⟩
  obtain ⟨T66, h66, X66, e66, W66, st66⟩ := stD X63 hx hZ e63 Ar65 (j := (21 : Int32)) in65 (g := (mkF m 15 #[vR o0, vD d1, s_, vI (21 : Int32), vI (32 : Int32)] [(.double d1), (.int (21 : Int32)), (.ref o0)])) rfl rfl (hb hby d4_15)
  have N66 := Fr.snoc X66 N63 qU
  have K67 : Keep h0 h66 [o0] := K64.wr W66 (Or.inl (by simp))
  have V66 : Arv Z h66 o0 qcP .double (32 : Int32) (t32 d1 d1 d1 d1 d1 d1 d1 d1 d1 d1 d1 d1 d1 d1 d1 d1 d1 d1 d1 d1 d1 d1 (0 : UInt64) (0 : UInt64) (0 : UInt64) (0 : UInt64) (0 : UInt64) (0 : UInt64) (0 : UInt64) (0 : UInt64) (0 : UInt64) (0 : UInt64)) (.double (0 : UInt64)) := Arv.set Ar65 q65 S65 Nn65 Ha65 G65 rfl W66 21 rfl (show (21 : Nat) < 32 by decide)
  obtain ⟨cl68, Ar68, q68, S68, Nn68, Ha68, G68⟩ := id V66
  have in68 : ¬ ((22 : Int32) < 0 ∨ cl68.slots.size ≤ ((22 : Int32)).toNatClampNeg) := inb_of S68 ⟨by decide, by decide⟩
  obtain ⟨T69, h69, X69, e69, W69, st69⟩ := stD X66 hx hZ e66 Ar68 (j := (22 : Int32)) in68 (g := (mkF m 15 #[vR o0, vD d1, s_, vI (22 : Int32), vI (32 : Int32)] [(.double d1), (.int (22 : Int32)), (.ref o0)])) rfl rfl (hb hby d4_15)
  have N69 := Fr.snoc X69 N66 qU
  have K70 : Keep h0 h69 [o0] := K67.wr W69 (Or.inl (by simp))
  have V69 : Arv Z h69 o0 qcP .double (32 : Int32) (t32 d1 d1 d1 d1 d1 d1 d1 d1 d1 d1 d1 d1 d1 d1 d1 d1 d1 d1 d1 d1 d1 d1 d1 (0 : UInt64) (0 : UInt64) (0 : UInt64) (0 : UInt64) (0 : UInt64) (0 : UInt64) (0 : UInt64) (0 : UInt64) (0 : UInt64)) (.double (0 : UInt64)) := Arv.set Ar68 q68 S68 Nn68 Ha68 G68 rfl W69 22 rfl (show (22 : Nat) < 32 by decide)
  obtain ⟨cl71, Ar71, q71, S71, Nn71, Ha71, G71⟩ := id V69
  have in71 : ¬ ((23 : Int32) < 0 ∨ cl71.slots.size ≤ ((23 : Int32)).toNatClampNeg) := inb_of S71 ⟨by decide, by decide⟩
  obtain ⟨T72, h72, X72, e72, W72, st72⟩ := stD X69 hx hZ e69 Ar71 (j := (23 : Int32)) in71 (g := (mkF m 15 #[vR o0, vD d1, s_, vI (23 : Int32), vI (32 : Int32)] [(.double d1), (.int (23 : Int32)), (.ref o0)])) rfl rfl (hb hby d4_15)
  have N72 := Fr.snoc X72 N69 qU
  have K73 : Keep h0 h72 [o0] := K70.wr W72 (Or.inl (by simp))
  have V72 : Arv Z h72 o0 qcP .double (32 : Int32) (t32 d1 d1 d1 d1 d1 d1 d1 d1 d1 d1 d1 d1 d1 d1 d1 d1 d1 d1 d1 d1 d1 d1 d1 d1 (0 : UInt64) (0 : UInt64) (0 : UInt64) (0 : UInt64) (0 : UInt64) (0 : UInt64) (0 : UInt64) (0 : UInt64)) (.double (0 : UInt64)) := Arv.set Ar71 q71 S71 Nn71 Ha71 G71 rfl W72 23 rfl (show (23 : Nat) < 32 by decide)
  obtain ⟨cl74, Ar74, q74, S74, Nn74, Ha74, G74⟩ := id V72
  have in74 : ¬ ((24 : Int32) < 0 ∨ cl74.slots.size ≤ ((24 : Int32)).toNatClampNeg) := inb_of S74 ⟨by decide, by decide⟩
  obtain ⟨T75, h75, X75, e75, W75, st75⟩ := stD X72 hx hZ e72 Ar74 (j := (24 : Int32)) in74 (g := (mkF m 15 #[vR o0, vD d1, s_, vI (24 : Int32), vI (32 : Int32)] [(.double d1), (.int (24 : Int32)), (.ref o0)])) rfl rfl (hb hby d4_15)
  have N75 := Fr.snoc X75 N72 qU
  have K76 : Keep h0 h75 [o0] := K73.wr W75 (Or.inl (by simp))
  have V75 : Arv Z h75 o0 qcP .double (32 : Int32) (t32 d1 d1 d1 d1 d1 d1 d1 d1 d1 d1 d1 d1 d1 d1 d1 d1 d1 d1 d1 d1 d1 d1 d1 d1 d1 (0 : UInt64) (0 : UInt64) (0 : UInt64) (0 : UInt64) (0 : UInt64) (0 : UInt64) (0 : UInt64)) (.double (0 : UInt64)) := Arv.set Ar74 q74 S74 Nn74 Ha74 G74 rfl W75 24 rfl (show (24 : Nat) < 32 by decide)
  obtain ⟨cl77, Ar77, q77, S77, Nn77, Ha77, G77⟩ := id V75
  have in77 : ¬ ((25 : Int32) < 0 ∨ cl77.slots.size ≤ ((25 : Int32)).toNatClampNeg) := inb_of S77 ⟨by decide, by decide⟩
  obtain ⟨T78, h78, X78, e78, W78, st78⟩ := stD X75 hx hZ e75 Ar77 (j := (25 : Int32)) in77 (g := (mkF m 15 #[vR o0, vD d1, s_, vI (25 : Int32), vI (32 : Int32)] [(.double d1), (.int (25 : Int32)), (.ref o0)])) rfl rfl (hb hby d4_15)
  have N78 := Fr.snoc X78 N75 qU
  have K79 : Keep h0 h78 [o0] := K76.wr W78 (Or.inl (by simp))
  have V78 : Arv Z h78 o0 qcP .double (32 : Int32) (t32 d1 d1 d1 d1 d1 d1 d1 d1 d1 d1 d1 d1 d1 d1 d1 d1 d1 d1 d1 d1 d1 d1 d1 d1 d1 d1 (0 : UInt64) (0 : UInt64) (0 : UInt64) (0 : UInt64) (0 : UInt64) (0 : UInt64)) (.double (0 : UInt64)) := Arv.set Ar77 q77 S77 Nn77 Ha77 G77 rfl W78 25 rfl (show (25 : Nat) < 32 by decide)
  obtain ⟨cl80, Ar80, q80, S80, Nn80, Ha80, G80⟩ := id V78
  have in80 : ¬ ((26 : Int32) < 0 ∨ cl80.slots.size ≤ ((26 : Int32)).toNatClampNeg) := inb_of S80 ⟨by decide, by decide⟩
  obtain ⟨T81, h81, X81, e81, W81, st81⟩ := stD X78 hx hZ e78 Ar80 (j := (26 : Int32)) in80 (g := (mkF m 15 #[vR o0, vD d1, s_, vI (26 : Int32), vI (32 : Int32)] [(.double d1), (.int (26 : Int32)), (.ref o0)])) rfl rfl (hb hby d4_15)
  have N81 := Fr.snoc X81 N78 qU
  have K82 : Keep h0 h81 [o0] := K79.wr W81 (Or.inl (by simp))
  have V81 : Arv Z h81 o0 qcP .double (32 : Int32) (t32 d1 d1 d1 d1 d1 d1 d1 d1 d1 d1 d1 d1 d1 d1 d1 d1 d1 d1 d1 d1 d1 d1 d1 d1 d1 d1 d1 (0 : UInt64) (0 : UInt64) (0 : UInt64) (0 : UInt64) (0 : UInt64)) (.double (0 : UInt64)) := Arv.set Ar80 q80 S80 Nn80 Ha80 G80 rfl W81 26 rfl (show (26 : Nat) < 32 by decide)
  obtain ⟨cl83, Ar83, q83, S83, Nn83, Ha83, G83⟩ := id V81
  have in83 : ¬ ((27 : Int32) < 0 ∨ cl83.slots.size ≤ ((27 : Int32)).toNatClampNeg) := inb_of S83 ⟨by decide, by decide⟩
  obtain ⟨T84, h84, X84, e84, W84, st84⟩ := stD X81 hx hZ e81 Ar83 (j := (27 : Int32)) in83 (g := (mkF m 15 #[vR o0, vD d1, s_, vI (27 : Int32), vI (32 : Int32)] [(.double d1), (.int (27 : Int32)), (.ref o0)])) rfl rfl (hb hby d4_15)
  have N84 := Fr.snoc X84 N81 qU
  have K85 : Keep h0 h84 [o0] := K82.wr W84 (Or.inl (by simp))
  have V84 : Arv Z h84 o0 qcP .double (32 : Int32) (t32 d1 d1 d1 d1 d1 d1 d1 d1 d1 d1 d1 d1 d1 d1 d1 d1 d1 d1 d1 d1 d1 d1 d1 d1 d1 d1 d1 d1 (0 : UInt64) (0 : UInt64) (0 : UInt64) (0 : UInt64)) (.double (0 : UInt64)) := Arv.set Ar83 q83 S83 Nn83 Ha83 G83 rfl W84 27 rfl (show (27 : Nat) < 32 by decide)
  obtain ⟨cl86, Ar86, q86, S86, Nn86, Ha86, G86⟩ := id V84
  have in86 : ¬ ((28 : Int32) < 0 ∨ cl86.slots.size ≤ ((28 : Int32)).toNatClampNeg) := inb_of S86 ⟨by decide, by decide⟩
  obtain ⟨T87, h87, X87, e87, W87, st87⟩ := stD X84 hx hZ e84 Ar86 (j := (28 : Int32)) in86 (g := (mkF m 15 #[vR o0, vD d1, s_, vI (28 : Int32), vI (32 : Int32)] [(.double d1), (.int (28 : Int32)), (.ref o0)])) rfl rfl (hb hby d4_15)
  have N87 := Fr.snoc X87 N84 qU
  have K88 : Keep h0 h87 [o0] := K85.wr W87 (Or.inl (by simp))
  have V87 : Arv Z h87 o0 qcP .double (32 : Int32) (t32 d1 d1 d1 d1 d1 d1 d1 d1 d1 d1 d1 d1 d1 d1 d1 d1 d1 d1 d1 d1 d1 d1 d1 d1 d1 d1 d1 d1 d1 (0 : UInt64) (0 : UInt64) (0 : UInt64)) (.double (0 : UInt64)) := Arv.set Ar86 q86 S86 Nn86 Ha86 G86 rfl W87 28 rfl (show (28 : Nat) < 32 by decide)
  obtain ⟨cl89, Ar89, q89, S89, Nn89, Ha89, G89⟩ := id V87
  have in89 : ¬ ((29 : Int32) < 0 ∨ cl89.slots.size ≤ ((29 : Int32)).toNatClampNeg) := inb_of S89 ⟨by decide, by decide⟩
  obtain ⟨T90, h90, X90, e90, W90, st90⟩ := stD X87 hx hZ e87 Ar89 (j := (29 : Int32)) in89 (g := (mkF m 15 #[vR o0, vD d1, s_, vI (29 : Int32), vI (32 : Int32)] [(.double d1), (.int (29 : Int32)), (.ref o0)])) rfl rfl (hb hby d4_15)
  have N90 := Fr.snoc X90 N87 qU
  have K91 : Keep h0 h90 [o0] := K88.wr W90 (Or.inl (by simp))
  have V90 : Arv Z h90 o0 qcP .double (32 : Int32) (t32 d1 d1 d1 d1 d1 d1 d1 d1 d1 d1 d1 d1 d1 d1 d1 d1 d1 d1 d1 d1 d1 d1 d1 d1 d1 d1 d1 d1 d1 d1 (0 : UInt64) (0 : UInt64)) (.double (0 : UInt64)) := Arv.set Ar89 q89 S89 Nn89 Ha89 G89 rfl W90 29 rfl (show (29 : Nat) < 32 by decide)
  obtain ⟨cl92, Ar92, q92, S92, Nn92, Ha92, G92⟩ := id V90
  have in92 : ¬ ((30 : Int32) < 0 ∨ cl92.slots.size ≤ ((30 : Int32)).toNatClampNeg) := inb_of S92 ⟨by decide, by decide⟩
  obtain ⟨T93, h93, X93, e93, W93, st93⟩ := stD X90 hx hZ e90 Ar92 (j := (30 : Int32)) in92 (g := (mkF m 15 #[vR o0, vD d1, s_, vI (30 : Int32), vI (32 : Int32)] [(.double d1), (.int (30 : Int32)), (.ref o0)])) rfl rfl (hb hby d4_15)
  have N93 := Fr.snoc X93 N90 qU
  have K94 : Keep h0 h93 [o0] := K91.wr W93 (Or.inl (by simp))
  have V93 : Arv Z h93 o0 qcP .double (32 : Int32) (t32 d1 d1 d1 d1 d1 d1 d1 d1 d1 d1 d1 d1 d1 d1 d1 d1 d1 d1 d1 d1 d1 d1 d1 d1 d1 d1 d1 d1 d1 d1 d1 (0 : UInt64)) (.double (0 : UInt64)) := Arv.set Ar92 q92 S92 Nn92 Ha92 G92 rfl W93 30 rfl (show (30 : Nat) < 32 by decide)
  obtain ⟨cl95, Ar95, q95, S95, Nn95, Ha95, G95⟩ := id V93
  have in95 : ¬ ((31 : Int32) < 0 ∨ cl95.slots.size ≤ ((31 : Int32)).toNatClampNeg) := inb_of S95 ⟨by decide, by decide⟩
  obtain ⟨T96, h96, X96, e96, W96, st96⟩ := stD X93 hx hZ e93 Ar95 (j := (31 : Int32)) in95 (g := (mkF m 15 #[vR o0, vD d1, s_, vI (31 : Int32), vI (32 : Int32)] [(.double d1), (.int (31 : Int32)), (.ref o0)])) rfl rfl (hb hby d4_15)
  have N96 := Fr.snoc X96 N93 qU
  have K97 : Keep h0 h96 [o0] := K94.wr W96 (Or.inl (by simp))
  have V96 : Arv Z h96 o0 qcP .double (32 : Int32) (t32 d1 d1 d1 d1 d1 d1 d1 d1 d1 d1 d1 d1 d1 d1 d1 d1 d1 d1 d1 d1 d1 d1 d1 d1 d1 d1 d1 d1 d1 d1 d1 d1) (.double (0 : UInt64)) := Arv.set Ar95 q95 S95 Nn95 Ha95 G95 rfl W96 31 rfl (show (31 : Nat) < 32 by decide)
  have c98 : ∀ t, Steps p.tables e below (T96.setTop (mkF m 22 #[vR o0, vD d1, s_, vI (32 : Int32), vI (32 : Int32)] [])) t → Steps p.tables e below (s₁.setTop (entryFrame m #[(.ref o0), (.double d1)] 5)) t := by
    intro t k
    refine c0 t ?_
    show Steps p.tables e below (s₁.setTop (mkF m 0 #[vR o0, vD d1, s_, u_, u_] [])) _
    refine XS.iconst X0.here hx rfl (hb hby d4_0) ?_
    refine XS.istoreN X0.here hx rfl (hb hby d4_1) rfl (l' := #[vR o0, vD d1, s_, vI (0 : Int32), u_]) rfl ?_
    refine XS.aloadN X0.here hx rfl (hb hby d4_2) rfl rfl ?_
    refine X0.arraylength hx (by rw [e0]; exact Ar1.1) (State.isArrayOf_alike hZ.alike Ar1.2.1) (g := (mkF m 3 #[vR o0, vD d1, s_, vI (0 : Int32), u_] [(.ref o0)])) rfl rfl (hb hby d4_3) _ ?_
    rw [len_of S1 Nn1]
    refine XS.istore X0.here hx rfl (hb hby d4_4) rfl (l' := #[vR o0, vD d1, s_, vI (0 : Int32), vI (32 : Int32)]) rfl ?_
    refine XS.iloadN X0.here hx rfl (hb hby d4_6) rfl ?_
    show Steps p.tables e below (s₁.setTop (mkF m 7 #[vR o0, vD d1, s_, vI (0 : Int32), vI (32 : Int32)] [(.int (0 : Int32))])) _
    refine XS.iload X0.here hx rfl (hb hby d4_7) rfl ?_
    refine XS.icmpNo X0.here hx rfl (hb hby d4_9) rfl (Jvm.Free.XT.ii_ge_f (by decide)) ?_
    refine XS.aloadN X0.here hx rfl (hb hby d4_12) rfl rfl ?_
    refine XS.iloadN X0.here hx rfl (hb hby d4_13) rfl ?_
    refine XS.dloadN X0.here hx rfl (hb hby d4_14) rfl ?_
    refine st3 _ ?_
    show Steps p.tables e below (T3.setTop (mkF m 16 #[vR o0, vD d1, s_, vI (0 : Int32), vI (32 : Int32)] [])) _
    refine Jvm.OwnK.iinc X3.here hx rfl (hb hby d4_16) rfl (l' := #[vR o0, vD d1, s_, vI (1 : Int32), vI (32 : Int32)]) (v := (1 : Int32)) (by decide) rfl ?_
    refine XS.goto X3.here hx rfl (pc0 := 19) (pc' := 6) rfl (hb hby d4_19) (by decide) (by decide) ?_
    refine XS.iloadN X3.here hx rfl (hb hby d4_6) rfl ?_
    refine XS.iload X3.here hx rfl (hb hby d4_7) rfl ?_
    refine XS.icmpNo X3.here hx rfl (hb hby d4_9) rfl (Jvm.Free.XT.ii_ge_f (by decide)) ?_
    refine XS.aloadN X3.here hx rfl (hb hby d4_12) rfl rfl ?_
    show Steps p.tables e below (T3.setTop (mkF m 13 #[vR o0, vD d1, s_, vI (1 : Int32), vI (32 : Int32)] [(.ref o0)])) _
    refine XS.iloadN X3.here hx rfl (hb hby d4_13) rfl ?_
    refine XS.dloadN X3.here hx rfl (hb hby d4_14) rfl ?_
    refine st6 _ ?_
    show Steps p.tables e below (T6.setTop (mkF m 16 #[vR o0, vD d1, s_, vI (1 : Int32), vI (32 : Int32)] [])) _
    refine Jvm.OwnK.iinc X6.here hx rfl (hb hby d4_16) rfl (l' := #[vR o0, vD d1, s_, vI (2 : Int32), vI (32 : Int32)]) (v := (2 : Int32)) (by decide) rfl ?_
    refine XS.goto X6.here hx rfl (pc0 := 19) (pc' := 6) rfl (hb hby d4_19) (by decide) (by decide) ?_
    refine XS.iloadN X6.here hx rfl (hb hby d4_6) rfl ?_
    refine XS.iload X6.here hx rfl (hb hby d4_7) rfl ?_
    refine XS.icmpNo X6.here hx rfl (hb hby d4_9) rfl (Jvm.Free.XT.ii_ge_f (by decide)) ?_
    refine XS.aloadN X6.here hx rfl (hb hby d4_12) rfl rfl ?_
    show Steps p.tables e below (T6.setTop (mkF m 13 #[vR o0, vD d1, s_, vI (2 : Int32), vI (32 : Int32)] [(.ref o0)])) _
    refine XS.iloadN X6.here hx rfl (hb hby d4_13) rfl ?_
    refine XS.dloadN X6.here hx rfl (hb hby d4_14) rfl ?_
    refine st9 _ ?_
    show Steps p.tables e below (T9.setTop (mkF m 16 #[vR o0, vD d1, s_, vI (2 : Int32), vI (32 : Int32)] [])) _
    refine Jvm.OwnK.iinc X9.here hx rfl (hb hby d4_16) rfl (l' := #[vR o0, vD d1, s_, vI (3 : Int32), vI (32 : Int32)]) (v := (3 : Int32)) (by decide) rfl ?_
    refine XS.goto X9.here hx rfl (pc0 := 19) (pc' := 6) rfl (hb hby d4_19) (by decide) (by decide) ?_
    refine XS.iloadN X9.here hx rfl (hb hby d4_6) rfl ?_
    refine XS.iload X9.here hx rfl (hb hby d4_7) rfl ?_
    refine XS.icmpNo X9.here hx rfl (hb hby d4_9) rfl (Jvm.Free.XT.ii_ge_f (by decide)) ?_
    refine XS.aloadN X9.here hx rfl (hb hby d4_12) rfl rfl ?_
    show Steps p.tables e below (T9.setTop (mkF m 13 #[vR o0, vD d1, s_, vI (3 : Int32), vI (32 : Int32)] [(.ref o0)])) _
    refine XS.iloadN X9.here hx rfl (hb hby d4_13) rfl ?_
    refine XS.dloadN X9.here hx rfl (hb hby d4_14) rfl ?_
    refine st12 _ ?_
    show Steps p.tables e below (T12.setTop (mkF m 16 #[vR o0, vD d1, s_, vI (3 : Int32), vI (32 : Int32)] [])) _
    refine Jvm.OwnK.iinc X12.here hx rfl (hb hby d4_16) rfl (l' := #[vR o0, vD d1, s_, vI (4 : Int32), vI (32 : Int32)]) (v := (4 : Int32)) (by decide) rfl ?_
    refine XS.goto X12.here hx rfl (pc0 := 19) (pc' := 6) rfl (hb hby d4_19) (by decide) (by decide) ?_
    refine XS.iloadN X12.here hx rfl (hb hby d4_6) rfl ?_
    refine XS.iload X12.here hx rfl (hb hby d4_7) rfl ?_
    refine XS.icmpNo X12.here hx rfl (hb hby d4_9) rfl (Jvm.Free.XT.ii_ge_f (by decide)) ?_
    refine XS.aloadN X12.here hx rfl (hb hby d4_12) rfl rfl ?_
    show Steps p.tables e below (T12.setTop (mkF m 13 #[vR o0, vD d1, s_, vI (4 : Int32), vI (32 : Int32)] [(.ref o0)])) _
    refine XS.iloadN X12.here hx rfl (hb hby d4_13) rfl ?_
    refine XS.dloadN X12.here hx rfl (hb hby d4_14) rfl ?_
    refine st15 _ ?_
    show Steps p.tables e below (T15.setTop (mkF m 16 #[vR o0, vD d1, s_, vI (4 : Int32), vI (32 : Int32)] [])) _
    refine Jvm.OwnK.iinc X15.here hx rfl (hb hby d4_16) rfl (l' := #[vR o0, vD d1, s_, vI (5 : Int32), vI (32 : Int32)]) (v := (5 : Int32)) (by decide) rfl ?_
    refine XS.goto X15.here hx rfl (pc0 := 19) (pc' := 6) rfl (hb hby d4_19) (by decide) (by decide) ?_
    refine XS.iloadN X15.here hx rfl (hb hby d4_6) rfl ?_
    refine XS.iload X15.here hx rfl (hb hby d4_7) rfl ?_
    refine XS.icmpNo X15.here hx rfl (hb hby d4_9) rfl (Jvm.Free.XT.ii_ge_f (by decide)) ?_
    refine XS.aloadN X15.here hx rfl (hb hby d4_12) rfl rfl ?_
    show Steps p.tables e below (T15.setTop (mkF m 13 #[vR o0, vD d1, s_, vI (5 : Int32), vI (32 : Int32)] [(.ref o0)])) _
    refine XS.iloadN X15.here hx rfl (hb hby d4_13) rfl ?_
    refine XS.dloadN X15.here hx rfl (hb hby d4_14) rfl ?_
    refine st18 _ ?_
    show Steps p.tables e below (T18.setTop (mkF m 16 #[vR o0, vD d1, s_, vI (5 : Int32), vI (32 : Int32)] [])) _
    refine Jvm.OwnK.iinc X18.here hx rfl (hb hby d4_16) rfl (l' := #[vR o0, vD d1, s_, vI (6 : Int32), vI (32 : Int32)]) (v := (6 : Int32)) (by decide) rfl ?_
    refine XS.goto X18.here hx rfl (pc0 := 19) (pc' := 6) rfl (hb hby d4_19) (by decide) (by decide) ?_
    refine XS.iloadN X18.here hx rfl (hb hby d4_6) rfl ?_
    refine XS.iload X18.here hx rfl (hb hby d4_7) rfl ?_
    refine XS.icmpNo X18.here hx rfl (hb hby d4_9) rfl (Jvm.Free.XT.ii_ge_f (by decide)) ?_
    refine XS.aloadN X18.here hx rfl (hb hby d4_12) rfl rfl ?_
    show Steps p.tables e below (T18.setTop (mkF m 13 #[vR o0, vD d1, s_, vI (6 : Int32), vI (32 : Int32)] [(.ref o0)])) _
    refine XS.iloadN X18.here hx rfl (hb hby d4_13) rfl ?_
    refine XS.dloadN X18.here hx rfl (hb hby d4_14) rfl ?_
    refine st21 _ ?_
    show Steps p.tables e below (T21.setTop (mkF m 16 #[vR o0, vD d1, s_, vI (6 : Int32), vI (32 : Int32)] [])) _
    refine Jvm.OwnK.iinc X21.here hx rfl (hb hby d4_16) rfl (l' := #[vR o0, vD d1, s_, vI (7 : Int32), vI (32 : Int32)]) (v := (7 : Int32)) (by decide) rfl ?_
    refine XS.goto X21.here hx rfl (pc0 := 19) (pc' := 6) rfl (hb hby d4_19) (by decide) (by decide) ?_
    refine XS.iloadN X21.here hx rfl (hb hby d4_6) rfl ?_
    refine XS.iload X21.here hx rfl (hb hby d4_7) rfl ?_
    refine XS.icmpNo X21.here hx rfl (hb hby d4_9) rfl (Jvm.Free.XT.ii_ge_f (by decide)) ?_
    refine XS.aloadN X21.here hx rfl (hb hby d4_12) rfl rfl ?_
    show Steps p.tables e below (T21.setTop (mkF m 13 #[vR o0, vD d1, s_, vI (7 : Int32), vI (32 : Int32)] [(.ref o0)])) _
    refine XS.iloadN X21.here hx rfl (hb hby d4_13) rfl ?_
    refine XS.dloadN X21.here hx rfl (hb hby d4_14) rfl ?_
    refine st24 _ ?_
    show Steps p.tables e below (T24.setTop (mkF m 16 #[vR o0, vD d1, s_, vI (7 : Int32), vI (32 : Int32)] [])) _
    refine Jvm.OwnK.iinc X24.here hx rfl (hb hby d4_16) rfl (l' := #[vR o0, vD d1, s_, vI (8 : Int32), vI (32 : Int32)]) (v := (8 : Int32)) (by decide) rfl ?_
    refine XS.goto X24.here hx rfl (pc0 := 19) (pc' := 6) rfl (hb hby d4_19) (by decide) (by decide) ?_
    refine XS.iloadN X24.here hx rfl (hb hby d4_6) rfl ?_
    refine XS.iload X24.here hx rfl (hb hby d4_7) rfl ?_
    refine XS.icmpNo X24.here hx rfl (hb hby d4_9) rfl (Jvm.Free.XT.ii_ge_f (by decide)) ?_
    refine XS.aloadN X24.here hx rfl (hb hby d4_12) rfl rfl ?_
    show Steps p.tables e below (T24.setTop (mkF m 13 #[vR o0, vD d1, s_, vI (8 : Int32), vI (32 : Int32)] [(.ref o0)])) _
    refine XS.iloadN X24.here hx rfl (hb hby d4_13) rfl ?_
    refine XS.dloadN X24.here hx rfl (hb hby d4_14) rfl ?_
    refine st27 _ ?_
    show Steps p.tables e below (T27.setTop (mkF m 16 #[vR o0, vD d1, s_, vI (8 : Int32), vI (32 : Int32)] [])) _
    refine Jvm.OwnK.iinc X27.here hx rfl (hb hby d4_16) rfl (l' := #[vR o0, vD d1, s_, vI (9 : Int32), vI (32 : Int32)]) (v := (9 : Int32)) (by decide) rfl ?_
    refine XS.goto X27.here hx rfl (pc0 := 19) (pc' := 6) rfl (hb hby d4_19) (by decide) (by decide) ?_
    refine XS.iloadN X27.here hx rfl (hb hby d4_6) rfl ?_
    refine XS.iload X27.here hx rfl (hb hby d4_7) rfl ?_
    refine XS.icmpNo X27.here hx rfl (hb hby d4_9) rfl (Jvm.Free.XT.ii_ge_f (by decide)) ?_
    refine XS.aloadN X27.here hx rfl (hb hby d4_12) rfl rfl ?_
    show Steps p.tables e below (T27.setTop (mkF m 13 #[vR o0, vD d1, s_, vI (9 : Int32), vI (32 : Int32)] [(.ref o0)])) _
    refine XS.iloadN X27.here hx rfl (hb hby d4_13) rfl ?_
    refine XS.dloadN X27.here hx rfl (hb hby d4_14) rfl ?_
    refine st30 _ ?_
    show Steps p.tables e below (T30.setTop (mkF m 16 #[vR o0, vD d1, s_, vI (9 : Int32), vI (32 : Int32)] [])) _
    refine Jvm.OwnK.iinc X30.here hx rfl (hb hby d4_16) rfl (l' := #[vR o0, vD d1, s_, vI (10 : Int32), vI (32 : Int32)]) (v := (10 : Int32)) (by decide) rfl ?_
    refine XS.goto X30.here hx rfl (pc0 := 19) (pc' := 6) rfl (hb hby d4_19) (by decide) (by decide) ?_
    refine XS.iloadN X30.here hx rfl (hb hby d4_6) rfl ?_
    refine XS.iload X30.here hx rfl (hb hby d4_7) rfl ?_
    refine XS.icmpNo X30.here hx rfl (hb hby d4_9) rfl (Jvm.Free.XT.ii_ge_f (by decide)) ?_
    refine XS.aloadN X30.here hx rfl (hb hby d4_12) rfl rfl ?_
    show Steps p.tables e below (T30.setTop (mkF m 13 #[vR o0, vD d1, s_, vI (10 : Int32), vI (32 : Int32)] [(.ref o0)])) _
    refine XS.iloadN X30.here hx rfl (hb hby d4_13) rfl ?_
    refine XS.dloadN X30.here hx rfl (hb hby d4_14) rfl ?_
    refine st33 _ ?_
    show Steps p.tables e below (T33.setTop (mkF m 16 #[vR o0, vD d1, s_, vI (10 : Int32), vI (32 : Int32)] [])) _
    refine Jvm.OwnK.iinc X33.here hx rfl (hb hby d4_16) rfl (l' := #[vR o0, vD d1, s_, vI (11 : Int32), vI (32 : Int32)]) (v := (11 : Int32)) (by decide) rfl ?_
    refine XS.goto X33.here hx rfl (pc0 := 19) (pc' := 6) rfl (hb hby d4_19) (by decide) (by decide) ?_
    refine XS.iloadN X33.here hx rfl (hb hby d4_6) rfl ?_
    refine XS.iload X33.here hx rfl (hb hby d4_7) rfl ?_
    refine XS.icmpNo X33.here hx rfl (hb hby d4_9) rfl (Jvm.Free.XT.ii_ge_f (by decide)) ?_
    refine XS.aloadN X33.here hx rfl (hb hby d4_12) rfl rfl ?_
    show Steps p.tables e below (T33.setTop (mkF m 13 #[vR o0, vD d1, s_, vI (11 : Int32), vI (32 : Int32)] [(.ref o0)])) _
    refine XS.iloadN X33.here hx rfl (hb hby d4_13) rfl ?_
    refine XS.dloadN X33.here hx rfl (hb hby d4_14) rfl ?_
    refine st36 _ ?_
    show Steps p.tables e below (T36.setTop (mkF m 16 #[vR o0, vD d1, s_, vI (11 : Int32), vI (32 : Int32)] [])) _
    refine Jvm.OwnK.iinc X36.here hx rfl (hb hby d4_16) rfl (l' := #[vR o0, vD d1, s_, vI (12 : Int32), vI (32 : Int32)]) (v := (12 : Int32)) (by decide) rfl ?_
    refine XS.goto X36.here hx rfl (pc0 := 19) (pc' := 6) rfl (hb hby d4_19) (by decide) (by decide) ?_
    refine XS.iloadN X36.here hx rfl (hb hby d4_6) rfl ?_
    refine XS.iload X36.here hx rfl (hb hby d4_7) rfl ?_
    refine XS.icmpNo X36.here hx rfl (hb hby d4_9) rfl (Jvm.Free.XT.ii_ge_f (by decide)) ?_
    refine XS.aloadN X36.here hx rfl (hb hby d4_12) rfl rfl ?_
    show Steps p.tables e below (T36.setTop (mkF m 13 #[vR o0, vD d1, s_, vI (12 : Int32), vI (32 : Int32)] [(.ref o0)])) _
    refine XS.iloadN X36.here hx rfl (hb hby d4_13) rfl ?_
    refine XS.dloadN X36.here hx rfl (hb hby d4_14) rfl ?_
    refine st39 _ ?_
    show Steps p.tables e below (T39.setTop (mkF m 16 #[vR o0, vD d1, s_, vI (12 : Int32), vI (32 : Int32)] [])) _
    refine Jvm.OwnK.iinc X39.here hx rfl (hb hby d4_16) rfl (l' := #[vR o0, vD d1, s_, vI (13 : Int32), vI (32 : Int32)]) (v := (13 : Int32)) (by decide) rfl ?_
    refine XS.goto X39.here hx rfl (pc0 := 19) (pc' := 6) rfl (hb hby d4_19) (by decide) (by decide) ?_
    refine XS.iloadN X39.here hx rfl (hb hby d4_6) rfl ?_
    refine XS.iload X39.here hx rfl (hb hby d4_7) rfl ?_
    refine XS.icmpNo X39.here hx rfl (hb hby d4_9) rfl (Jvm.Free.XT.ii_ge_f (by decide)) ?_
    refine XS.aloadN X39.here hx rfl (hb hby d4_12) rfl rfl ?_
    show Steps p.tables e below (T39.setTop (mkF m 13 #[vR o0, vD d1, s_, vI (13 : Int32), vI (32 : Int32)] [(.ref o0)])) _
    refine XS.iloadN X39.here hx rfl (hb hby d4_13) rfl ?_
    refine XS.dloadN X39.here hx rfl (hb hby d4_14) rfl ?_
    refine st42 _ ?_
    show Steps p.tables e below (T42.setTop (mkF m 16 #[vR o0, vD d1, s_, vI (13 : Int32), vI (32 : Int32)] [])) _
    refine Jvm.OwnK.iinc X42.here hx rfl (hb hby d4_16) rfl (l' := #[vR o0, vD d1, s_, vI (14 : Int32), vI (32 : Int32)]) (v := (14 : Int32)) (by decide) rfl ?_
    refine XS.goto X42.here hx rfl (pc0 := 19) (pc' := 6) rfl (hb hby d4_19) (by decide) (by decide) ?_
    refine XS.iloadN X42.here hx rfl (hb hby d4_6) rfl ?_
    refine XS.iload X42.here hx rfl (hb hby d4_7) rfl ?_
    refine XS.icmpNo X42.here hx rfl (hb hby d4_9) rfl (Jvm.Free.XT.ii_ge_f (by decide)) ?_
    refine XS.aloadN X42.here hx rfl (hb hby d4_12) rfl rfl ?_
    show Steps p.tables e below (T42.setTop (mkF m 13 #[vR o0, vD d1, s_, vI (14 : Int32), vI (32 : Int32)] [(.ref o0)])) _
    refine XS.iloadN X42.here hx rfl (hb hby d4_13) rfl ?_
    refine XS.dloadN X42.here hx rfl (hb hby d4_14) rfl ?_
    refine st45 _ ?_
    show Steps p.tables e below (T45.setTop (mkF m 16 #[vR o0, vD d1, s_, vI (14 : Int32), vI (32 : Int32)] [])) _
    refine Jvm.OwnK.iinc X45.here hx rfl (hb hby d4_16) rfl (l' := #[vR o0, vD d1, s_, vI (15 : Int32), vI (32 : Int32)]) (v := (15 : Int32)) (by decide) rfl ?_
    refine XS.goto X45.here hx rfl (pc0 := 19) (pc' := 6) rfl (hb hby d4_19) (by decide) (by decide) ?_
    refine XS.iloadN X45.here hx rfl (hb hby d4_6) rfl ?_
    refine XS.iload X45.here hx rfl (hb hby d4_7) rfl ?_
    refine XS.icmpNo X45.here hx rfl (hb hby d4_9) rfl (Jvm.Free.XT.ii_ge_f (by decide)) ?_
    refine XS.aloadN X45.here hx rfl (hb hby d4_12) rfl rfl ?_
    show Steps p.tables e below (T45.setTop (mkF m 13 #[vR o0, vD d1, s_, vI (15 : Int32), vI (32 : Int32)] [(.ref o0)])) _
    refine XS.iloadN X45.here hx rfl (hb hby d4_13) rfl ?_
    refine XS.dloadN X45.here hx rfl (hb hby d4_14) rfl ?_
    refine st48 _ ?_
    show Steps p.tables e below (T48.setTop (mkF m 16 #[vR o0, vD d1, s_, vI (15 : Int32), vI (32 : Int32)] [])) _
    refine Jvm.OwnK.iinc X48.here hx rfl (hb hby d4_16) rfl (l' := #[vR o0, vD d1, s_, vI (16 : Int32), vI (32 : Int32)]) (v := (16 : Int32)) (by decide) rfl ?_
    refine XS.goto X48.here hx rfl (pc0 := 19) (pc' := 6) rfl (hb hby d4_19) (by decide) (by decide) ?_
    refine XS.iloadN X48.here hx rfl (hb hby d4_6) rfl ?_
    refine XS.iload X48.here hx rfl (hb hby d4_7) rfl ?_
    refine XS.icmpNo X48.here hx rfl (hb hby d4_9) rfl (Jvm.Free.XT.ii_ge_f (by decide)) ?_
    refine XS.aloadN X48.here hx rfl (hb hby d4_12) rfl rfl ?_
    show Steps p.tables e below (T48.setTop (mkF m 13 #[vR o0, vD d1, s_, vI (16 : Int32), vI (32 : Int32)] [(.ref o0)])) _
    refine XS.iloadN X48.here hx rfl (hb hby d4_13) rfl ?_
    refine XS.dloadN X48.here hx rfl (hb hby d4_14) rfl ?_
    refine st51 _ ?_
    show Steps p.tables e below (T51.setTop (mkF m 16 #[vR o0, vD d1, s_, vI (16 : Int32), vI (32 : Int32)] [])) _
    refine Jvm.OwnK.iinc X51.here hx rfl (hb hby d4_16) rfl (l' := #[vR o0, vD d1, s_, vI (17 : Int32), vI (32 : Int32)]) (v := (17 : Int32)) (by decide) rfl ?_
    refine XS.goto X51.here hx rfl (pc0 := 19) (pc' := 6) rfl (hb hby d4_19) (by decide) (by decide) ?_
    refine XS.iloadN X51.here hx rfl (hb hby d4_6) rfl ?_
    refine XS.iload X51.here hx rfl (hb hby d4_7) rfl ?_
    refine XS.icmpNo X51.here hx rfl (hb hby d4_9) rfl (Jvm.Free.XT.ii_ge_f (by decide)) ?_
    refine XS.aloadN X51.here hx rfl (hb hby d4_12) rfl rfl ?_
    show Steps p.tables e below (T51.setTop (mkF m 13 #[vR o0, vD d1, s_, vI (17 : Int32), vI (32 : Int32)] [(.ref o0)])) _
    refine XS.iloadN X51.here hx rfl (hb hby d4_13) rfl ?_
    refine XS.dloadN X51.here hx rfl (hb hby d4_14) rfl ?_
    refine st54 _ ?_
    show Steps p.tables e below (T54.setTop (mkF m 16 #[vR o0, vD d1, s_, vI (17 : Int32), vI (32 : Int32)] [])) _
    refine Jvm.OwnK.iinc X54.here hx rfl (hb hby d4_16) rfl (l' := #[vR o0, vD d1, s_, vI (18 : Int32), vI (32 : Int32)]) (v := (18 : Int32)) (by decide) rfl ?_
    refine XS.goto X54.here hx rfl (pc0 := 19) (pc' := 6) rfl (hb hby d4_19) (by decide) (by decide) ?_
    refine XS.iloadN X54.here hx rfl (hb hby d4_6) rfl ?_
    refine XS.iload X54.here hx rfl (hb hby d4_7) rfl ?_
    refine XS.icmpNo X54.here hx rfl (hb hby d4_9) rfl (Jvm.Free.XT.ii_ge_f (by decide)) ?_
    refine XS.aloadN X54.here hx rfl (hb hby d4_12) rfl rfl ?_
    show Steps p.tables e below (T54.setTop (mkF m 13 #[vR o0, vD d1, s_, vI (18 : Int32), vI (32 : Int32)] [(.ref o0)])) _
    refine XS.iloadN X54.here hx rfl (hb hby d4_13) rfl ?_
    refine XS.dloadN X54.here hx rfl (hb hby d4_14) rfl ?_
    refine st57 _ ?_
    show Steps p.tables e below (T57.setTop (mkF m 16 #[vR o0, vD d1, s_, vI (18 : Int32), vI (32 : Int32)] [])) _
    refine Jvm.OwnK.iinc X57.here hx rfl (hb hby d4_16) rfl (l' := #[vR o0, vD d1, s_, vI (19 : Int32), vI (32 : Int32)]) (v := (19 : Int32)) (by decide) rfl ?_
    refine XS.goto X57.here hx rfl (pc0 := 19) (pc' := 6) rfl (hb hby d4_19) (by decide) (by decide) ?_
    refine XS.iloadN X57.here hx rfl (hb hby d4_6) rfl ?_
    refine XS.iload X57.here hx rfl (hb hby d4_7) rfl ?_
    refine XS.icmpNo X57.here hx rfl (hb hby d4_9) rfl (Jvm.Free.XT.ii_ge_f (by decide)) ?_
    refine XS.aloadN X57.here hx rfl (hb hby d4_12) rfl rfl ?_
    show Steps p.tables e below (T57.setTop (mkF m 13 #[vR o0, vD d1, s_, vI (19 : Int32), vI (32 : Int32)] [(.ref o0)])) _
    refine XS.iloadN X57.here hx rfl (hb hby d4_13) rfl ?_
    refine XS.dloadN X57.here hx rfl (hb hby d4_14) rfl ?_
    refine st60 _ ?_
    show Steps p.tables e below (T60.setTop (mkF m 16 #[vR o0, vD d1, s_, vI (19 : Int32), vI (32 : Int32)] [])) _
    refine Jvm.OwnK.iinc X60.here hx rfl (hb hby d4_16) rfl (l' := #[vR o0, vD d1, s_, vI (20 : Int32), vI (32 : Int32)]) (v := (20 : Int32)) (by decide) rfl ?_
    refine XS.goto X60.here hx rfl (pc0 := 19) (pc' := 6) rfl (hb hby d4_19) (by decide) (by decide) ?_
    refine XS.iloadN X60.here hx rfl (hb hby d4_6) rfl ?_
    refine XS.iload X60.here hx rfl (hb hby d4_7) rfl ?_
    refine XS.icmpNo X60.here hx rfl (hb hby d4_9) rfl (Jvm.Free.XT.ii_ge_f (by decide)) ?_
    refine XS.aloadN X60.here hx rfl (hb hby d4_12) rfl rfl ?_
    show Steps p.tables e below (T60.setTop (mkF m 13 #[vR o0, vD d1, s_, vI (20 : Int32), vI (32 : Int32)] [(.ref o0)])) _
    refine XS.iloadN X60.here hx rfl (hb hby d4_13) rfl ?_
    refine XS.dloadN X60.here hx rfl (hb hby d4_14) rfl ?_
    refine st63 _ ?_
    show Steps p.tables e below (T63.setTop (mkF m 16 #[vR o0, vD d1, s_, vI (20 : Int32), vI (32 : Int32)] [])) _
    refine Jvm.OwnK.iinc X63.here hx rfl (hb hby d4_16) rfl (l' := #[vR o0, vD d1, s_, vI (21 : Int32), vI (32 : Int32)]) (v := (21 : Int32)) (by decide) rfl ?_
    refine XS.goto X63.here hx rfl (pc0 := 19) (pc' := 6) rfl (hb hby d4_19) (by decide) (by decide) ?_
    refine XS.iloadN X63.here hx rfl (hb hby d4_6) rfl ?_
    refine XS.iload X63.here hx rfl (hb hby d4_7) rfl ?_
    refine XS.icmpNo X63.here hx rfl (hb hby d4_9) rfl (Jvm.Free.XT.ii_ge_f (by decide)) ?_
    refine XS.aloadN X63.here hx rfl (hb hby d4_12) rfl rfl ?_
    show Steps p.tables e below (T63.setTop (mkF m 13 #[vR o0, vD d1, s_, vI (21 : Int32), vI (32 : Int32)] [(.ref o0)])) _
    refine XS.iloadN X63.here hx rfl (hb hby d4_13) rfl ?_
    refine XS.dloadN X63.here hx rfl (hb hby d4_14) rfl ?_
    refine st66 _ ?_
    show Steps p.tables e below (T66.setTop (mkF m 16 #[vR o0, vD d1, s_, vI (21 : Int32), vI (32 : Int32)] [])) _
    refine Jvm.OwnK.iinc X66.here hx rfl (hb hby d4_16) rfl (l' := #[vR o0, vD d1, s_, vI (22 : Int32), vI (32 : Int32)]) (v := (22 : Int32)) (by decide) rfl ?_
    refine XS.goto X66.here hx rfl (pc0 := 19) (pc' := 6) rfl (hb hby d4_19) (by decide) (by decide) ?_
    refine XS.iloadN X66.here hx rfl (hb hby d4_6) rfl ?_
    refine XS.iload X66.here hx rfl (hb hby d4_7) rfl ?_
    refine XS.icmpNo X66.here hx rfl (hb hby d4_9) rfl (Jvm.Free.XT.ii_ge_f (by decide)) ?_
    refine XS.aloadN X66.here hx rfl (hb hby d4_12) rfl rfl ?_
    show Steps p.tables e below (T66.setTop (mkF m 13 #[vR o0, vD d1, s_, vI (22 : Int32), vI (32 : Int32)] [(.ref o0)])) _
    refine XS.iloadN X66.here hx rfl (hb hby d4_13) rfl ?_
    refine XS.dloadN X66.here hx rfl (hb hby d4_14) rfl ?_
    refine st69 _ ?_
    show Steps p.tables e below (T69.setTop (mkF m 16 #[vR o0, vD d1, s_, vI (22 : Int32), vI (32 : Int32)] [])) _
    refine Jvm.OwnK.iinc X69.here hx rfl (hb hby d4_16) rfl (l' := #[vR o0, vD d1, s_, vI (23 : Int32), vI (32 : Int32)]) (v := (23 : Int32)) (by decide) rfl ?_
    refine XS.goto X69.here hx rfl (pc0 := 19) (pc' := 6) rfl (hb hby d4_19) (by decide) (by decide) ?_
    refine XS.iloadN X69.here hx rfl (hb hby d4_6) rfl ?_
    refine XS.iload X69.here hx rfl (hb hby d4_7) rfl ?_
    refine XS.icmpNo X69.here hx rfl (hb hby d4_9) rfl (Jvm.Free.XT.ii_ge_f (by decide)) ?_
    refine XS.aloadN X69.here hx rfl (hb hby d4_12) rfl rfl ?_
    show Steps p.tables e below (T69.setTop (mkF m 13 #[vR o0, vD d1, s_, vI (23 : Int32), vI (32 : Int32)] [(.ref o0)])) _
    refine XS.iloadN X69.here hx rfl (hb hby d4_13) rfl ?_
    refine XS.dloadN X69.here hx rfl (hb hby d4_14) rfl ?_
    refine st72 _ ?_
    show Steps p.tables e below (T72.setTop (mkF m 16 #[vR o0, vD d1, s_, vI (23 : Int32), vI (32 : Int32)] [])) _
    refine Jvm.OwnK.iinc X72.here hx rfl (hb hby d4_16) rfl (l' := #[vR o0, vD d1, s_, vI (24 : Int32), vI (32 : Int32)]) (v := (24 : Int32)) (by decide) rfl ?_
    refine XS.goto X72.here hx rfl (pc0 := 19) (pc' := 6) rfl (hb hby d4_19) (by decide) (by decide) ?_
    refine XS.iloadN X72.here hx rfl (hb hby d4_6) rfl ?_
    refine XS.iload X72.here hx rfl (hb hby d4_7) rfl ?_
    refine XS.icmpNo X72.here hx rfl (hb hby d4_9) rfl (Jvm.Free.XT.ii_ge_f (by decide)) ?_
    refine XS.aloadN X72.here hx rfl (hb hby d4_12) rfl rfl ?_
    show Steps p.tables e below (T72.setTop (mkF m 13 #[vR o0, vD d1, s_, vI (24 : Int32), vI (32 : Int32)] [(.ref o0)])) _
    refine XS.iloadN X72.here hx rfl (hb hby d4_13) rfl ?_
    refine XS.dloadN X72.here hx rfl (hb hby d4_14) rfl ?_
    refine st75 _ ?_
    show Steps p.tables e below (T75.setTop (mkF m 16 #[vR o0, vD d1, s_, vI (24 : Int32), vI (32 : Int32)] [])) _
    refine Jvm.OwnK.iinc X75.here hx rfl (hb hby d4_16) rfl (l' := #[vR o0, vD d1, s_, vI (25 : Int32), vI (32 : Int32)]) (v := (25 : Int32)) (by decide) rfl ?_
    refine XS.goto X75.here hx rfl (pc0 := 19) (pc' := 6) rfl (hb hby d4_19) (by decide) (by decide) ?_
    refine XS.iloadN X75.here hx rfl (hb hby d4_6) rfl ?_
    refine XS.iload X75.here hx rfl (hb hby d4_7) rfl ?_
    refine XS.icmpNo X75.here hx rfl (hb hby d4_9) rfl (Jvm.Free.XT.ii_ge_f (by decide)) ?_
    refine XS.aloadN X75.here hx rfl (hb hby d4_12) rfl rfl ?_
    show Steps p.tables e below (T75.setTop (mkF m 13 #[vR o0, vD d1, s_, vI (25 : Int32), vI (32 : Int32)] [(.ref o0)])) _
    refine XS.iloadN X75.here hx rfl (hb hby d4_13) rfl ?_
    refine XS.dloadN X75.here hx rfl (hb hby d4_14) rfl ?_
    refine st78 _ ?_
    show Steps p.tables e below (T78.setTop (mkF m 16 #[vR o0, vD d1, s_, vI (25 : Int32), vI (32 : Int32)] [])) _
    refine Jvm.OwnK.iinc X78.here hx rfl (hb hby d4_16) rfl (l' := #[vR o0, vD d1, s_, vI (26 : Int32), vI (32 : Int32)]) (v := (26 : Int32)) (by decide) rfl ?_
    refine XS.goto X78.here hx rfl (pc0 := 19) (pc' := 6) rfl (hb hby d4_19) (by decide) (by decide) ?_
    refine XS.iloadN X78.here hx rfl (hb hby d4_6) rfl ?_
    refine XS.iload X78.here hx rfl (hb hby d4_7) rfl ?_
    refine XS.icmpNo X78.here hx rfl (hb hby d4_9) rfl (Jvm.Free.XT.ii_ge_f (by decide)) ?_
    refine XS.aloadN X78.here hx rfl (hb hby d4_12) rfl rfl ?_
    show Steps p.tables e below (T78.setTop (mkF m 13 #[vR o0, vD d1, s_, vI (26 : Int32), vI (32 : Int32)] [(.ref o0)])) _
    refine XS.iloadN X78.here hx rfl (hb hby d4_13) rfl ?_
    refine XS.dloadN X78.here hx rfl (hb hby d4_14) rfl ?_
    refine st81 _ ?_
    show Steps p.tables e below (T81.setTop (mkF m 16 #[vR o0, vD d1, s_, vI (26 : Int32), vI (32 : Int32)] [])) _
    refine Jvm.OwnK.iinc X81.here hx rfl (hb hby d4_16) rfl (l' := #[vR o0, vD d1, s_, vI (27 : Int32), vI (32 : Int32)]) (v := (27 : Int32)) (by decide) rfl ?_
    refine XS.goto X81.here hx rfl (pc0 := 19) (pc' := 6) rfl (hb hby d4_19) (by decide) (by decide) ?_
    refine XS.iloadN X81.here hx rfl (hb hby d4_6) rfl ?_
    refine XS.iload X81.here hx rfl (hb hby d4_7) rfl ?_
    refine XS.icmpNo X81.here hx rfl (hb hby d4_9) rfl (Jvm.Free.XT.ii_ge_f (by decide)) ?_
    refine XS.aloadN X81.here hx rfl (hb hby d4_12) rfl rfl ?_
    show Steps p.tables e below (T81.setTop (mkF m 13 #[vR o0, vD d1, s_, vI (27 : Int32), vI (32 : Int32)] [(.ref o0)])) _
    refine XS.iloadN X81.here hx rfl (hb hby d4_13) rfl ?_
    refine XS.dloadN X81.here hx rfl (hb hby d4_14) rfl ?_
    refine st84 _ ?_
    show Steps p.tables e below (T84.setTop (mkF m 16 #[vR o0, vD d1, s_, vI (27 : Int32), vI (32 : Int32)] [])) _
    refine Jvm.OwnK.iinc X84.here hx rfl (hb hby d4_16) rfl (l' := #[vR o0, vD d1, s_, vI (28 : Int32), vI (32 : Int32)]) (v := (28 : Int32)) (by decide) rfl ?_
    refine XS.goto X84.here hx rfl (pc0 := 19) (pc' := 6) rfl (hb hby d4_19) (by decide) (by decide) ?_
    refine XS.iloadN X84.here hx rfl (hb hby d4_6) rfl ?_
    refine XS.iload X84.here hx rfl (hb hby d4_7) rfl ?_
    refine XS.icmpNo X84.here hx rfl (hb hby d4_9) rfl (Jvm.Free.XT.ii_ge_f (by decide)) ?_
    refine XS.aloadN X84.here hx rfl (hb hby d4_12) rfl rfl ?_
    show Steps p.tables e below (T84.setTop (mkF m 13 #[vR o0, vD d1, s_, vI (28 : Int32), vI (32 : Int32)] [(.ref o0)])) _
    refine XS.iloadN X84.here hx rfl (hb hby d4_13) rfl ?_
    refine XS.dloadN X84.here hx rfl (hb hby d4_14) rfl ?_
    refine st87 _ ?_
    show Steps p.tables e below (T87.setTop (mkF m 16 #[vR o0, vD d1, s_, vI (28 : Int32), vI (32 : Int32)] [])) _
    refine Jvm.OwnK.iinc X87.here hx rfl (hb hby d4_16) rfl (l' := #[vR o0, vD d1, s_, vI (29 : Int32), vI (32 : Int32)]) (v := (29 : Int32)) (by decide) rfl ?_
    refine XS.goto X87.here hx rfl (pc0 := 19) (pc' := 6) rfl (hb hby d4_19) (by decide) (by decide) ?_
    refine XS.iloadN X87.here hx rfl (hb hby d4_6) rfl ?_
    refine XS.iload X87.here hx rfl (hb hby d4_7) rfl ?_
    refine XS.icmpNo X87.here hx rfl (hb hby d4_9) rfl (Jvm.Free.XT.ii_ge_f (by decide)) ?_
    refine XS.aloadN X87.here hx rfl (hb hby d4_12) rfl rfl ?_
    show Steps p.tables e below (T87.setTop (mkF m 13 #[vR o0, vD d1, s_, vI (29 : Int32), vI (32 : Int32)] [(.ref o0)])) _
    refine XS.iloadN X87.here hx rfl (hb hby d4_13) rfl ?_
    refine XS.dloadN X87.here hx rfl (hb hby d4_14) rfl ?_
    refine st90 _ ?_
    show Steps p.tables e below (T90.setTop (mkF m 16 #[vR o0, vD d1, s_, vI (29 : Int32), vI (32 : Int32)] [])) _
    refine Jvm.OwnK.iinc X90.here hx rfl (hb hby d4_16) rfl (l' := #[vR o0, vD d1, s_, vI (30 : Int32), vI (32 : Int32)]) (v := (30 : Int32)) (by decide) rfl ?_
    refine XS.goto X90.here hx rfl (pc0 := 19) (pc' := 6) rfl (hb hby d4_19) (by decide) (by decide) ?_
    refine XS.iloadN X90.here hx rfl (hb hby d4_6) rfl ?_
    refine XS.iload X90.here hx rfl (hb hby d4_7) rfl ?_
    refine XS.icmpNo X90.here hx rfl (hb hby d4_9) rfl (Jvm.Free.XT.ii_ge_f (by decide)) ?_
    refine XS.aloadN X90.here hx rfl (hb hby d4_12) rfl rfl ?_
    show Steps p.tables e below (T90.setTop (mkF m 13 #[vR o0, vD d1, s_, vI (30 : Int32), vI (32 : Int32)] [(.ref o0)])) _
    refine XS.iloadN X90.here hx rfl (hb hby d4_13) rfl ?_
    refine XS.dloadN X90.here hx rfl (hb hby d4_14) rfl ?_
    refine st93 _ ?_
    show Steps p.tables e below (T93.setTop (mkF m 16 #[vR o0, vD d1, s_, vI (30 : Int32), vI (32 : Int32)] [])) _
    refine Jvm.OwnK.iinc X93.here hx rfl (hb hby d4_16) rfl (l' := #[vR o0, vD d1, s_, vI (31 : Int32), vI (32 : Int32)]) (v := (31 : Int32)) (by decide) rfl ?_
    refine XS.goto X93.here hx rfl (pc0 := 19) (pc' := 6) rfl (hb hby d4_19) (by decide) (by decide) ?_
    refine XS.iloadN X93.here hx rfl (hb hby d4_6) rfl ?_
    refine XS.iload X93.here hx rfl (hb hby d4_7) rfl ?_
    refine XS.icmpNo X93.here hx rfl (hb hby d4_9) rfl (Jvm.Free.XT.ii_ge_f (by decide)) ?_
    refine XS.aloadN X93.here hx rfl (hb hby d4_12) rfl rfl ?_
    show Steps p.tables e below (T93.setTop (mkF m 13 #[vR o0, vD d1, s_, vI (31 : Int32), vI (32 : Int32)] [(.ref o0)])) _
    refine XS.iloadN X93.here hx rfl (hb hby d4_13) rfl ?_
    refine XS.dloadN X93.here hx rfl (hb hby d4_14) rfl ?_
    refine st96 _ ?_
    show Steps p.tables e below (T96.setTop (mkF m 16 #[vR o0, vD d1, s_, vI (31 : Int32), vI (32 : Int32)] [])) _
    refine Jvm.OwnK.iinc X96.here hx rfl (hb hby d4_16) rfl (l' := #[vR o0, vD d1, s_, vI (32 : Int32), vI (32 : Int32)]) (v := (32 : Int32)) (by decide) rfl ?_
    refine XS.goto X96.here hx rfl (pc0 := 19) (pc' := 6) rfl (hb hby d4_19) (by decide) (by decide) ?_
    refine XS.iloadN X96.here hx rfl (hb hby d4_6) rfl ?_
    refine XS.iload X96.here hx rfl (hb hby d4_7) rfl ?_
    refine XS.icmpYes X96.here hx rfl (pc0 := 9) (pc' := 22) rfl (hb hby d4_9) rfl (Jvm.Free.XT.ii_ge_t (by decide)) (by decide) (by decide) ?_
    exact k
  obtain ⟨fs, hr, hrun, hended, hW, hsame⟩ := X96.leave (v := none) (fun _ => rfl)
  refine ⟨_, _, c98 _ ?_, hrun, hended, _, _, rfl, ?_, ⟨_, rfl⟩, hW, hsame.mono (by decide) (by decide)⟩
  · show Steps p.tables e below (T96.setTop (mkF m 22 #[vR o0, vD d1, s_, vI (32 : Int32), vI (32 : Int32)] [])) _
    exact X96.returnOut hx Bd.returns (hb hby d4_22) hr
  · show Q4 Z o0 d1 qcP  h0 n0 _ T96.heap _
    rw [e96]
    exact ⟨rfl, N96, K97, V96⟩
def Q3 (Z : State)   (h0 : Heap) (n0 : Nat) (v : Option Value) (h : Heap) (L : List Loc) : Prop := ∃ b1 : Addr, ∃ k1 : ClassId, v = some (.ref b1) ∧ Fr n0 L ∧ h0.size ≤ b1 ∧ Keep h0 h [] ∧ Arv Z h b1 k1 .double (32 : Int32) (t32 (9221120237041090560 : UInt64) (9221120237041090560 : UInt64) (9221120237041090560 : UInt64) (9221120237041090560 : UInt64) (9221120237041090560 : UInt64) (9221120237041090560 : UInt64) (9221120237041090560 : UInt64) (9221120237041090560 : UInt64) (9221120237041090560 : UInt64) (9221120237041090560 : UInt64) (9221120237041090560 : UInt64) (9221120237041090560 : UInt64) (9221120237041090560 : UInt64) (9221120237041090560 : UInt64) (9221120237041090560 : UInt64) (9221120237041090560 : UInt64) (9221120237041090560 : UInt64) (9221120237041090560 : UInt64) (9221120237041090560 : UInt64) (9221120237041090560 : UInt64) (9221120237041090560 : UInt64) (9221120237041090560 : UInt64) (9221120237041090560 : UInt64) (9221120237041090560 : UInt64) (9221120237041090560 : UInt64) (9221120237041090560 : UInt64) (9221120237041090560 : UInt64) (9221120237041090560 : UInt64) (9221120237041090560 : UInt64) (9221120237041090560 : UInt64) (9221120237041090560 : UInt64) (9221120237041090560 : UInt64)) (.double (0 : UInt64))
set_option maxRecDepth 65536 in
set_option maxHeartbeats 40000000 in
theorem rm3 (l : Launch) (Z : State) (a0 : Array Value) (hw : ∀ d ∈ tables_1, d.before a0 Z = true) (ws : List Jvm.Cond)   (h0 : Heap) (n0 : Nat) (Z0 : n0 ≤ h0.size)  :
    MetFree l (⟨MTc, "emptyTree", "(I)[D"⟩ : MethodName) (head1 (Jvm.Cond.code (⟨MTc, "emptyTree", "(I)[D"⟩ : MethodName) prog_28_method_9_code 2 (some (.array .double)) :: ws) ({ frames := 1, cells := 1, slots := 32, locals := 16 } : Room)) (fun a U => a = #[(.int (16 : Int32))] ∧ Z.Warmed39 U.vm ∧ U.heap = h0) (fun _ _ _ _ _ => True) (fun _ U o U' => ∃ v L, o = .returned v ∧ Q3 Z   h0 n0 v U'.heap L ∧ FrameEnd U o U' L ({ frames := 1, cells := 1, slots := 32, locals := 16 } : Room).cells ({ frames := 1, cells := 1, slots := 32, locals := 16 } : Room).slots) := by
  refine MetFree.of_bodySF (plainFor_of_name pn_1) hisR ?_
  intro p e s m args below meth c s₁ Bd hml0 hP hK
  obtain ⟨rfl, hZ, hh⟩ := hP
  have hx := Bd.exec
  have hby := Bd.bytes
  have hml : c.maxLocals = 2 := hml0
  have hown : s.vm.findClass MTc = some m.cls := findClass_of_methodNamed Bd.named
  have hnm := (name_of_methodNamed Bd.named Bd.method).1
  have X0 : Stand p l e ({ frames := 1, cells := 1, slots := 32, locals := 16 } : Room) s m #[(.int (16 : Int32))] below meth c s₁ [] 0 0 := Stand.of_body Bd
  have e0 : s₁.heap = h0 := by rw [← hh, Bd.state]; rfl
  have N0 := Fr.nil n0
  have c0 : ∀ t, Steps p.tables e below (s₁.setTop (mkF m 0 #[vI (16 : Int32), u_] [])) t → Steps p.tables e below (s₁.setTop (entryFrame m #[(.int (16 : Int32))] 2)) t := fun t k => castTop (ef_rm3 m ) k
  obtain ⟨T1, h1, k1, X1, e1, E1, A1, st1⟩ := newP X0 hx hZ (hwi hw 1 rfl) e0 (g := (mkF m 3 #[vI (16 : Int32), u_] [(.int (32 : Int32))])) rfl (hb hby d3_3) rfl (by decide) (cap := 32) (by decide) (by decide) (by decide) (by decide)
  obtain ⟨b1, g1⟩ : ∃ z, z = h0.size := ⟨_, rfl⟩
  rw [← g1] at A1 st1
  have gn1 : n0 ≤ b1 := Nat.le_trans Z0 (Nat.le_of_eq g1.symm)
  have gz1 : h0.size ≤ b1 := Nat.le_trans ((Keep.refl h0 [])).1 (Nat.le_of_eq g1.symm)
  have K2 : Keep h0 h1 [] := (Keep.refl h0 []).ext E1
  have V1 : Arv Z h1 b1 k1 .double (32 : Int32) (t32 (0 : UInt64) (0 : UInt64) (0 : UInt64) (0 : UInt64) (0 : UInt64) (0 : UInt64) (0 : UInt64) (0 : UInt64) (0 : UInt64) (0 : UInt64) (0 : UInt64) (0 : UInt64) (0 : UInt64) (0 : UInt64) (0 : UInt64) (0 : UInt64) (0 : UInt64) (0 : UInt64) (0 : UInt64) (0 : UInt64) (0 : UInt64) (0 : UInt64) (0 : UInt64) (0 : UInt64) (0 : UInt64) (0 : UInt64) (0 : UInt64) (0 : UInt64) (0 : UInt64) (0 : UInt64) (0 : UInt64) (0 : UInt64)) (.double (0 : UInt64)) := (Arv.new A1 (by decide)).pad (pad_rep [] (.double (0 : UInt64)) 32)
  obtain ⟨_, _, ⟨T3, L3, k3, n3⟩, -, X3, ⟨Lc3, hQ3, ql3, qy3, qz3⟩, st3⟩ := Jvm.LawKit.callS X1 hx (y := (⟨"java/util/Arrays", "fill", "([DD)V"⟩ : MethodName)) hown (mvT hZ (hwi hw 15 rfl)) (mvT hZ (hwi hw 16 rfl)) (mvT hZ (hwi hw 17 rfl)) (mvT hZ (hwi hw 18 rfl)) (by decide) (backOf (W := 0) (rm4 l Z a0 hw [] b1 (9221120237041090560 : UInt64) k1  h1 n0 (Nat.le_trans Z0 E1.1) V1 gn1) hZ (hwi hw 18 rfl) (hwi hw 17 rfl) (by decide) (by decide)) (g := (mkF m 10 #[vI (16 : Int32), vR b1] [(.double (9221120237041090560 : UInt64)), (.ref b1)])) rfl (by rw [hml]; rfl) (argsL := [(.ref b1), (.double (9221120237041090560 : UInt64))]) (rest := []) (lenOf pd_3 rfl) rfl (by show 2 * 0 + _ ≤ _; exact Nat.le_of_eq rfl) (hb hby d3_10) (fun _ _ => ⟨rfl, e1, (by decide : 1 + 0 ≤ _), (by decide : 32 + 0 ≤ _)⟩)
  dsimp only [Pt.U, Pt.locs, Pt.cells, Pt.slots] at X3 ql3 qy3 qz3 st3 hQ3
  subst ql3 qy3 qz3
  obtain ⟨rfl, N3q, K3q, Q3_0⟩ := hQ3
  have N3 := Fr.app N0 N3q
  have K4 : Keep h0 T3.heap [] := Keep.trans K2 K3q (allS (Or.inr gz1) all0)
  have c5 : ∀ t, Steps p.tables e below (T3.setTop (mkF m 14 #[vI (16 : Int32), vR b1] [(.ref b1)])) t → Steps p.tables e below (s₁.setTop (entryFrame m #[(.int (16 : Int32))] 2)) t := by
    intro t k
    refine c0 t ?_
    show Steps p.tables e below (s₁.setTop (mkF m 0 #[vI (16 : Int32), u_] [])) _
    refine XS.iconst X0.here hx rfl (hb hby d3_0) ?_
    refine XS.iloadN X0.here hx rfl (hb hby d3_1) rfl ?_
    refine Jvm.OwnK.imul X0.here hx rfl (hb hby d3_2) rfl (v := (32 : Int32)) (by decide) ?_
    refine st1 _ ?_
    show Steps p.tables e below (T1.setTop (mkF m 5 #[vI (16 : Int32), u_] [(.ref b1)])) _
    refine XS.astoreN X1.here hx rfl (hb hby d3_5) rfl rfl (l' := #[vI (16 : Int32), vR b1]) rfl ?_
    refine XS.aloadN X1.here hx rfl (hb hby d3_6) rfl rfl ?_
    refine X1.ldc2DoubleC hx hown (mvT hZ (hwi hw 14 rfl)) (g := (mkF m 7 #[vI (16 : Int32), vR b1] [(.ref b1)])) rfl (hb hby d3_7) _ ?_
    refine st3 _ ?_
    show Steps p.tables e below (T3.setTop (mkF m 13 #[vI (16 : Int32), vR b1] [])) _
    refine XS.aloadN X3.here hx rfl (hb hby d3_13) rfl rfl ?_
    exact k
  obtain ⟨fs, hr, hrun, hended, hW, hsame⟩ := X3.leave (v := some (.ref b1)) (fun h => by rw [Bd.returns] at h; cases h)
  refine ⟨_, _, c5 _ ?_, hrun, hended, _, _, rfl, ?_, ⟨_, rfl⟩, hW, hsame.mono (by decide) (by decide)⟩
  · show Steps p.tables e below (T3.setTop (mkF m 14 #[vI (16 : Int32), vR b1] [(.ref b1)])) _
    exact retOut X3 hx Bd.returns rfl (Or.inr (Or.inr (Or.inr (Or.inr ⟨rfl, rfl, rfl⟩)))) (hb hby d3_14) hr
  · show Q3 Z   h0 n0 _ T3.heap _
    exact ⟨b1, k1, rfl, N3, gz1, K4, Q3_0⟩
def Q1 (Z : State) (o0 : Addr) (qiD qg8 : Value)  (h0 : Heap) (n0 : Nat) (v : Option Value) (h : Heap) (L : List Loc) : Prop := ∃ qhD : Addr, ∃ qn8 : ClassId, v = none ∧ Fr n0 L ∧ h0.size ≤ qhD ∧ Keep h0 h [o0] ∧ Fld Z h o0 MTc "count" "I" (.int (0 : Int32)) ∧ Fld Z h o0 MTc "visits" "J" (.long (0 : Int64)) ∧ Exa Z h o0 MTc ∧ Fld Z h o0 MTc "minima" "[D" (.ref qhD) ∧ Fld Z h o0 MTc "capacity" "I" (.int (16 : Int32)) ∧ Arv Z h qhD qn8 .double (32 : Int32) (t32 (9221120237041090560 : UInt64) (9221120237041090560 : UInt64) (9221120237041090560 : UInt64) (9221120237041090560 : UInt64) (9221120237041090560 : UInt64) (9221120237041090560 : UInt64) (9221120237041090560 : UInt64) (9221120237041090560 : UInt64) (9221120237041090560 : UInt64) (9221120237041090560 : UInt64) (9221120237041090560 : UInt64) (9221120237041090560 : UInt64) (9221120237041090560 : UInt64) (9221120237041090560 : UInt64) (9221120237041090560 : UInt64) (9221120237041090560 : UInt64) (9221120237041090560 : UInt64) (9221120237041090560 : UInt64) (9221120237041090560 : UInt64) (9221120237041090560 : UInt64) (9221120237041090560 : UInt64) (9221120237041090560 : UInt64) (9221120237041090560 : UInt64) (9221120237041090560 : UInt64) (9221120237041090560 : UInt64) (9221120237041090560 : UInt64) (9221120237041090560 : UInt64) (9221120237041090560 : UInt64) (9221120237041090560 : UInt64) (9221120237041090560 : UInt64) (9221120237041090560 : UInt64) (9221120237041090560 : UInt64)) (.double (0 : UInt64))
set_option maxRecDepth 65536 in
set_option maxHeartbeats 40000000 in
theorem rm1 (l : Launch) (Z : State) (a0 : Array Value) (hw : ∀ d ∈ tables_1, d.before a0 Z = true) (ws : List Jvm.Cond) (o0 : Addr) (qiD qg8 : Value)  (h0 : Heap) (n0 : Nat) (Z0 : n0 ≤ h0.size) (qo : Fld Z h0 o0 MTc "count" "I" (.int (0 : Int32))) (qr : Fld Z h0 o0 MTc "visits" "J" (.long (0 : Int64))) (qbS : Exa Z h0 o0 MTc) (qn : Fld Z h0 o0 MTc "minima" "[D" qiD) (qU : n0 ≤ o0) (qi : Fld Z h0 o0 MTc "capacity" "I" qg8) :
    MetFree l (⟨MTc, "<init>", "()V"⟩ : MethodName) (head1 (Jvm.Cond.code (⟨MTc, "<init>", "()V"⟩ : MethodName) prog_28_method_1_code 1 none :: ws) ({ frames := 2, cells := 1, slots := 32, locals := 30 } : Room)) (fun a U => a = #[(.ref o0)] ∧ Z.Warmed39 U.vm ∧ U.heap = h0) (fun _ _ _ _ _ => True) (fun _ U o U' => ∃ v L, o = .returned v ∧ Q1 Z o0 qiD qg8  h0 n0 v U'.heap L ∧ FrameEnd U o U' L ({ frames := 2, cells := 1, slots := 32, locals := 30 } : Room).cells ({ frames := 2, cells := 1, slots := 32, locals := 30 } : Room).slots) := by
  refine MetFree.of_bodySF (plainFor_of_name pn_1) hisR ?_
  intro p e s m args below meth c s₁ Bd hml0 hP hK
  obtain ⟨rfl, hZ, hh⟩ := hP
  have hx := Bd.exec
  have hby := Bd.bytes
  have hml : c.maxLocals = 1 := hml0
  have hown : s.vm.findClass MTc = some m.cls := findClass_of_methodNamed Bd.named
  have hnm := (name_of_methodNamed Bd.named Bd.method).1
  have X0 : Stand p l e ({ frames := 2, cells := 1, slots := 32, locals := 30 } : Room) s m #[(.ref o0)] below meth c s₁ [] 0 0 := Stand.of_body Bd
  have e0 : s₁.heap = h0 := by rw [← hh, Bd.state]; rfl
  have N0 := Fr.nil n0
  have c0 : ∀ t, Steps p.tables e below (s₁.setTop (mkF m 0 #[vR o0] [])) t → Steps p.tables e below (s₁.setTop (entryFrame m #[(.ref o0)] 1)) t := fun t k => castTop (ef_rm1 m o0) k
  obtain ⟨T1, X1, e1, st1⟩ := initO X0 hx hZ hown (hwi hw 8 rfl) (hwi hw 9 rfl) (hwi hw 10 rfl) e0 (g := (mkF m 1 #[vR o0] [(.ref o0)])) rfl (by rw [hml]; rfl) rfl (hb hby d1_1) (by decide) (W := 0) (by show 2 * 0 + _ ≤ _; exact Nat.le_of_eq rfl) (by decide)
  obtain ⟨_, _, ⟨T2, L2, k2, n2⟩, -, X2, ⟨Lc2, hQ2, ql2, qy2, qz2⟩, st2⟩ := Jvm.LawKit.callS X1 hx (y := (⟨MTc, "emptyTree", "(I)[D"⟩ : MethodName)) hown (mvT hZ (hwi hw 11 rfl)) (mvT hZ (hwi hw 12 rfl)) (mvT hZ (hwi hw 4 rfl)) (mvT hZ (hwi hw 13 rfl)) (by decide) (backOf (W := 1) (rm3 l Z a0 hw []   h0 n0 Z0 ) hZ (hwi hw 13 rfl) (hwi hw 4 rfl) (by decide) (by decide)) (g := (mkF m 7 #[vR o0] [(.int (16 : Int32)), (.ref o0)])) rfl (by rw [hml]; rfl) (argsL := [(.int (16 : Int32))]) (rest := [(.ref o0)]) (lenOf pd_4 rfl) rfl (by show 2 * 0 + _ ≤ _; exact Nat.le_of_eq rfl) (hb hby d1_7) (fun _ _ => ⟨rfl, e1, (by decide : 0 + 1 ≤ _), (by decide : 0 + 32 ≤ _)⟩)
  dsimp only [Pt.U, Pt.locs, Pt.cells, Pt.slots] at X2 ql2 qy2 qz2 st2 hQ2
  subst ql2 qy2 qz2
  obtain ⟨qhD, qn8, rfl, N2q, qn0, K2q, Q2_0⟩ := hQ2
  have N2 := Fr.app N0 N2q
  have qoz : n0 ≤ qhD := Nat.le_trans Z0 qn0
  have qoy : h0.size ≤ qhD := Nat.le_trans ((Keep.refl h0 [o0])).1 qn0
  have K3 : Keep h0 T2.heap [o0] := Keep.trans (Keep.refl h0 [o0]) K2q all0
  have f4 := (qbS.keep K2q)
  have f5 := (qn.keep K2q nin0)
  obtain ⟨T6, h6, X6, e6, W6, st6⟩ := putF X2 hx hZ hown (host := "") (Or.inl (hwi hw 19 rfl)) Via.refl rfl f5 f4 (Or.inl (hwi hw 20 rfl)) (hwi hw 3 rfl) (ty := (.array .double)) (by decide) rfl rfl (g := (mkF m 10 #[vR o0] [(.ref qhD), (.ref o0)])) rfl rfl (hb hby d1_10)
  have N6 := Fr.snoc X6 N2 qU
  have K7 : Keep h0 h6 [o0] := K3.wr W6 (Or.inl (by simp))
  have F6w := f5.same W6
  have f8 := (f4.wr W6)
  have f9 := ((qi.keep K2q nin0).other W6 (Or.inr (slot_ne (Or.inl (hwi hw 22 rfl)) (Or.inl (hwi hw 20 rfl)) (by decide) (t := .int) (t' := (.array .double)) (by decide) (by decide))))
  obtain ⟨T10, h10, X10, e10, W10, st10⟩ := putF X6 hx hZ hown (host := "") (Or.inl (hwi hw 21 rfl)) Via.refl e6 f9 f8 (Or.inl (hwi hw 22 rfl)) (hwi hw 3 rfl) (ty := .int) (by decide) rfl rfl (g := (mkF m 16 #[vR o0] [(.int (16 : Int32)), (.ref o0)])) rfl rfl (hb hby d1_16)
  have N10 := Fr.snoc X10 N6 qU
  have K11 : Keep h0 h10 [o0] := K7.wr W10 (Or.inl (by simp))
  have F10w := f9.same W10
  have c12 : ∀ t, Steps p.tables e below (T10.setTop (mkF m 19 #[vR o0] [])) t → Steps p.tables e below (s₁.setTop (entryFrame m #[(.ref o0)] 1)) t := by
    intro t k
    refine c0 t ?_
    show Steps p.tables e below (s₁.setTop (mkF m 0 #[vR o0] [])) _
    refine XS.aloadN X0.here hx rfl (hb hby d1_0) rfl rfl ?_
    refine st1 _ ?_
    show Steps p.tables e below (T1.setTop (mkF m 4 #[vR o0] [])) _
    refine XS.aloadN X1.here hx rfl (hb hby d1_4) rfl rfl ?_
    refine XS.bipush X1.here hx rfl (hb hby d1_5) ?_
    refine st2 _ ?_
    show Steps p.tables e below (T2.setTop (mkF m 10 #[vR o0] [(.ref qhD), (.ref o0)])) _
    refine st6 _ ?_
    show Steps p.tables e below (T6.setTop (mkF m 13 #[vR o0] [])) _
    refine XS.aloadN X6.here hx rfl (hb hby d1_13) rfl rfl ?_
    refine XS.bipush X6.here hx rfl (hb hby d1_14) ?_
    refine st10 _ ?_
    exact k
  obtain ⟨fs, hr, hrun, hended, hW, hsame⟩ := X10.leave (v := none) (fun _ => rfl)
  refine ⟨_, _, c12 _ ?_, hrun, hended, _, _, rfl, ?_, ⟨_, rfl⟩, hW, hsame.mono (by decide) (by decide)⟩
  · show Steps p.tables e below (T10.setTop (mkF m 19 #[vR o0] [])) _
    exact X10.returnOut hx Bd.returns (hb hby d1_19) hr
  · show Q1 Z o0 qiD qg8  h0 n0 _ T10.heap _
    rw [e10]
    exact ⟨qhD, qn8, rfl, N10, qoy, K11, (((qo.keep K2q nin0).other W6 (Or.inr (slot_ne (Or.inl (hwi hw 38 rfl)) (Or.inl (hwi hw 20 rfl)) (by decide) (t := .int) (t' := (.array .double)) (by decide) (by decide)))).other W10 (Or.inr (slot_ne (Or.inl (hwi hw 38 rfl)) (Or.inl (hwi hw 22 rfl)) (by decide) (t := .int) (t' := .int) (by decide) (by decide)))), (((qr.keep K2q nin0).other W6 (Or.inr (slot_ne (Or.inl (hwi hw 52 rfl)) (Or.inl (hwi hw 20 rfl)) (by decide) (t := .long) (t' := (.array .double)) (by decide) (by decide)))).other W10 (Or.inr (slot_ne (Or.inl (hwi hw 52 rfl)) (Or.inl (hwi hw 22 rfl)) (by decide) (t := .long) (t' := .int) (by decide) (by decide)))), (f8.wr W10), (F6w.other W10 (Or.inr (slot_ne (Or.inl (hwi hw 20 rfl)) (Or.inl (hwi hw 22 rfl)) (by decide) (t := (.array .double)) (t' := .int) (by decide) (by decide)))), F10w, ((Q2_0.other W6 (Ne.symm (Nat.ne_of_lt (Nat.lt_of_lt_of_le (qo).lt qn0)))).other W10 (Ne.symm (Nat.ne_of_lt (Nat.lt_of_lt_of_le (qo).lt qn0))))⟩
def Q8_n1 (Z : State) (o0 : Addr) (p1 : Int32) (d2 : UInt64) (qd : ClassId) (y0 y1 y2 y3 y4 y5 y6 y7 y8 y9 y10 y11 y12 y13 y14 y15 y16 y17 y18 y19 y20 y21 y22 y23 y24 y25 y26 y27 y28 y29 y30 y31 : UInt64) (qj : Int32) (qc : Addr) (qg : Int64) (d5 : UInt64) (qf : UInt64) (z61 : Int64) (qk : Int32) (h0 : Heap) (n0 : Nat) (v : Option Value) (h : Heap) (L : List Loc) : Prop := v = none ∧ Fr n0 L ∧ Keep h0 h [o0, qc] ∧ Arv Z h qc qd .double (32 : Int32) (t32 y0 qf y2 y3 y4 y5 y6 y7 y8 y9 y10 y11 y12 y13 y14 y15 y16 y17 y18 y19 y20 y21 y22 y23 y24 y25 y26 y27 y28 y29 y30 y31) (.double (0 : UInt64)) ∧ Fld Z h o0 MTc "capacity" "I" (.int (16 : Int32)) ∧ Fld Z h o0 MTc "count" "I" (.int qj) ∧ Fld Z h o0 MTc "minima" "[D" (.ref qc) ∧ Fld Z h o0 MTc "visits" "J" (.long z61) ∧ Exa Z h o0 MTc
set_option maxRecDepth 65536 in
set_option maxHeartbeats 40000000 in
theorem tl8_n1 (l : Launch) (Z : State) (a0 : Array Value) (hw : ∀ d ∈ tables_1, d.before a0 Z = true) (ws : List Jvm.Cond) (o0 : Addr) (p1 : Int32) (d2 : UInt64) (qd : ClassId) (y0 y1 y2 y3 y4 y5 y6 y7 y8 y9 y10 y11 y12 y13 y14 y15 y16 y17 y18 y19 y20 y21 y22 y23 y24 y25 y26 y27 y28 y29 y30 y31 : UInt64) (qj : Int32) (qc : Addr) (qg : Int64) (d5 : UInt64) (qf : UInt64) (z61 : Int64) (qk : Int32) (h0 : Heap) (n0 : Nat) (Z0 : n0 ≤ h0.size) (qm : Arv Z h0 qc qd .double (32 : Int32) (t32 y0 y1 y2 y3 y4 y5 y6 y7 y8 y9 y10 y11 y12 y13 y14 y15 y16 y17 y18 y19 y20 y21 y22 y23 y24 y25 y26 y27 y28 y29 y30 y31) (.double (0 : UInt64))) (qe : o0 ≠ qc) (qi : Fld Z h0 o0 MTc "capacity" "I" (.int (16 : Int32))) (qo : Fld Z h0 o0 MTc "count" "I" (.int qj)) (qn : Fld Z h0 o0 MTc "minima" "[D" (.ref qc)) (qr : Fld Z h0 o0 MTc "visits" "J" (.long qg)) (qp : n0 ≤ qc) (qbS : Exa Z h0 o0 MTc) (qU : n0 ≤ o0) (qez : mnf y2 y3 = qf) (hz61 : qg + (1 : Int64) = z61) (qeA : cmpf qf y1 = qk) (qe0 : TV y2) (qe1 : TV y3) (eq0_1 : (qk = (0 : Int32)) → y1 = qf) {p : Program} {e : Env} {s : State} {m : MethodId} {below : List Frame} {meth : Method} {c : Code} {s₁ T0 : State} {locs0 : List Loc} (Bd : BodyLoose p l (⟨MTc, "set", "(ID)V"⟩ : MethodName) (head1 (Jvm.Cond.code (⟨MTc, "set", "(ID)V"⟩ : MethodName) prog_28_method_3_code 7 none :: ws) ({ frames := 3, cells := 0, slots := 0, locals := 90 } : Room)) prog_28_method_3_code 7 none e s m #[(.ref o0), (.int p1), (.double d2)] below meth c s₁) (hml0 : c.maxLocals = 7) (hZ : Z.Warmed39 s.vm) (X0 : Stand p l e ({ frames := 3, cells := 0, slots := 0, locals := 90 } : Room) s m #[(.ref o0), (.int p1), (.double d2)] below meth c T0 locs0 0 0) (e0 : T0.heap = h0) (N0 : Fr n0 locs0) :
    ∃ t o, Steps p.tables e below (T0.setTop (mkF m 24 #[vR o0, vI p1, vD d2, s_, vI (1 : Int32), vD d5, s_] [])) t ∧ t.status = .running ∧ Ended t below o ∧ ∃ v L, o = .returned v ∧ Q8_n1 Z o0 p1 d2 qd y0 y1 y2 y3 y4 y5 y6 y7 y8 y9 y10 y11 y12 y13 y14 y15 y16 y17 y18 y19 y20 y21 y22 y23 y24 y25 y26 y27 y28 y29 y30 y31 qj qc qg d5 qf z61 qk h0 n0 v t.heap L ∧ FrameEnd s o t L ({ frames := 3, cells := 0, slots := 0, locals := 90 } : Room).cells ({ frames := 3, cells := 0, slots := 0, locals := 90 } : Room).slots := by
  have hx := Bd.exec
  have hby := Bd.bytes
  have hml : c.maxLocals = 7 := hml0
  have hown : s.vm.findClass MTc = some m.cls := findClass_of_methodNamed Bd.named
  have hnm := (name_of_methodNamed Bd.named Bd.method).1
  have c0 : ∀ t, Steps p.tables e below (T0.setTop (mkF m 24 #[vR o0, vI p1, vD d2, s_, vI (1 : Int32), vD d5, s_] [])) t → Steps p.tables e below (T0.setTop (mkF m 24 #[vR o0, vI p1, vD d2, s_, vI (1 : Int32), vD d5, s_] [])) t := fun _ k => k
  obtain ⟨T1, X1, e1, st1⟩ := getF X0 hx hZ hown (host := "") (Or.inl (hwi hw 19 rfl)) Via.refl e0 qn (g := (mkF m 31 #[vR o0, vI p1, vD d2, s_, vI (1 : Int32), vD d5, s_] [(.ref o0)])) rfl rfl (hb hby d8_31)
  obtain ⟨cl2, Ar2, -, S2, -, Ha2, -⟩ := id qm
  have in2 : ¬ ((2 : Int32) < 0 ∨ cl2.slots.size ≤ ((2 : Int32)).toNatClampNeg) := inb_of S2 ⟨by decide, by decide⟩
  obtain ⟨T3, X3, e3, st3⟩ := getF X1 hx hZ hown (host := "") (Or.inl (hwi hw 19 rfl)) Via.refl e1 qn (g := (mkF m 40 #[vR o0, vI p1, vD d2, s_, vI (1 : Int32), vD d5, s_] [(.ref o0), (.double y2)])) rfl rfl (hb hby d8_40)
  obtain ⟨cl4, Ar4, -, S4, -, Ha4, -⟩ := id qm
  have in4 : ¬ ((3 : Int32) < 0 ∨ cl4.slots.size ≤ ((3 : Int32)).toNatClampNeg) := inb_of S4 ⟨by decide, by decide⟩
  obtain ⟨_, _, ⟨T5, L5, k5, n5⟩, -, X5, ⟨Lc5, hQ5, ql5, qy5, qz5⟩, st5⟩ := Jvm.LawKit.callS X3 hx (y := (⟨MTc, "min", "(DD)D"⟩ : MethodName)) hown (mvT hZ (hwi hw 44 rfl)) (mvT hZ (hwi hw 45 rfl)) (mvT hZ (hwi hw 4 rfl)) (mvT hZ (hwi hw 46 rfl)) (by decide) (backOf (W := 0) (rm9w l Z a0 hw [] y2 y3 qf h0 n0 Z0 qez qe0 qe1) hZ (hwi hw 46 rfl) (hwi hw 4 rfl) (by decide) (by decide)) (g := (mkF m 50 #[vR o0, vI p1, vD d2, s_, vI (1 : Int32), vD d5, s_] [(.double y3), (.double y2)])) rfl (by rw [hml]; rfl) (argsL := [(.double y2), (.double y3)]) (rest := []) (lenOf pd_2 rfl) rfl (by show 2 * 0 + _ ≤ _; exact Nat.le_of_eq rfl) (hb hby d8_50) (fun _ _ => ⟨rfl, e3, (by decide : 0 + 0 ≤ _), (by decide : 0 + 0 ≤ _)⟩)
  dsimp only [Pt.U, Pt.locs, Pt.cells, Pt.slots] at X5 ql5 qy5 qz5 st5 hQ5
  subst ql5 qy5 qz5
  obtain ⟨rfl, N5q, e5⟩ := hQ5
  have N5 := Fr.app N0 N5q
  obtain ⟨T6, X6, e6, st6⟩ := getF X5 hx hZ hown (host := "") (Or.inl (hwi hw 51 rfl)) Via.refl e5 qr (g := (mkF m 57 #[vR o0, vI p1, vD d2, s_, vI (1 : Int32), vD qf, s_] [(.ref o0), (.ref o0)])) rfl rfl (hb hby d8_57)
  obtain ⟨T7, h7, X7, e7, W7, st7⟩ := putF X6 hx hZ hown (host := "") (Or.inl (hwi hw 51 rfl)) Via.refl e6 qr qbS (Or.inl (hwi hw 52 rfl)) (hwi hw 3 rfl) (ty := .long) (by decide) rfl rfl (g := (mkF m 62 #[vR o0, vI p1, vD d2, s_, vI (1 : Int32), vD qf, s_] [(.long z61), (.ref o0)])) rfl rfl (hb hby d8_62)
  have N7 := Fr.snoc X7 N5 qU
  have K8 : Keep h0 h7 [o0, qc] := (Keep.refl h0 [o0, qc]).wr W7 (Or.inl (by simp))
  have F7w := qr.same W7
  have f9 := (qn.other W7 (Or.inr (slot_ne (Or.inl (hwi hw 20 rfl)) (Or.inl (hwi hw 52 rfl)) (by decide) (t := (.array .double)) (t' := .long) (by decide) (by decide))))
  obtain ⟨T10, X10, e10, st10⟩ := getF X7 hx hZ hown (host := "") (Or.inl (hwi hw 19 rfl)) Via.refl e7 f9 (g := (mkF m 68 #[vR o0, vI p1, vD d2, s_, vI (1 : Int32), vD qf, s_] [(.ref o0), (.double qf)])) rfl rfl (hb hby d8_68)
  have f11 := (qm.other W7 (Ne.symm qe))
  obtain ⟨cl12, Ar12, -, S12, -, Ha12, -⟩ := id f11
  have in12 : ¬ ((1 : Int32) < 0 ∨ cl12.slots.size ≤ ((1 : Int32)).toNatClampNeg) := inb_of S12 ⟨by decide, by decide⟩
  obtain ⟨_, _, ⟨T13, L13, k13, n13⟩, -, X13, ⟨Lc13, hQ13, ql13, qy13, qz13⟩, st13⟩ := Jvm.LawKit.callS X10 hx (y := (⟨"java/lang/Double", "compare", "(DD)I"⟩ : MethodName)) hown (mvT hZ (hwi hw 53 rfl)) (mvT hZ (hwi hw 54 rfl)) (mvT hZ (hwi hw 49 rfl)) (mvT hZ (hwi hw 55 rfl)) (by decide) (backOf (W := 0) (rm11w l Z a0 hw [] qf y1 qk h7 n0 (Nat.le_trans Z0 (Keep.of_wr W7).1) qeA) hZ (hwi hw 55 rfl) (hwi hw 49 rfl) (by decide) (by decide)) (g := (mkF m 74 #[vR o0, vI p1, vD d2, s_, vI (1 : Int32), vD qf, s_] [(.double y1), (.double qf)])) rfl (by rw [hml]; rfl) (argsL := [(.double qf), (.double y1)]) (rest := []) (lenOf pd_5 rfl) rfl (by show 2 * 0 + _ ≤ _; exact Nat.le_of_eq rfl) (hb hby d8_74) (fun _ _ => ⟨rfl, e10, (by decide : 0 + 0 ≤ _), (by decide : 0 + 0 ≤ _)⟩)
  dsimp only [Pt.U, Pt.locs, Pt.cells, Pt.slots] at X13 ql13 qy13 qz13 st13 hQ13
  subst ql13 qy13 qz13
  obtain ⟨rfl, N13q, e13⟩ := hQ13
  have N13 := Fr.app N7 N13q
  have c14 : ∀ t, Steps p.tables e below (T13.setTop (mkF m 77 #[vR o0, vI p1, vD d2, s_, vI (1 : Int32), vD qf, s_] [(.int qk)])) t → Steps p.tables e below (T0.setTop (mkF m 24 #[vR o0, vI p1, vD d2, s_, vI (1 : Int32), vD d5, s_] [])) t := by
    intro t k
    refine c0 t ?_
    show Steps p.tables e below (T0.setTop (mkF m 24 #[vR o0, vI p1, vD d2, s_, vI (1 : Int32), vD d5, s_] [])) _
    refine XS.iload X0.here hx rfl (hb hby d8_24) rfl ?_
    refine XS.iconst X0.here hx rfl (hb hby d8_26) ?_
    refine XS.icmpNo X0.here hx rfl (hb hby d8_27) rfl (Jvm.Free.XT.ii_lt_f (by decide)) ?_
    refine XS.aloadN X0.here hx rfl (hb hby d8_30) rfl rfl ?_
    refine st1 _ ?_
    show Steps p.tables e below (T1.setTop (mkF m 34 #[vR o0, vI p1, vD d2, s_, vI (1 : Int32), vD d5, s_] [(.ref qc)])) _
    refine XS.iconst X1.here hx rfl (hb hby d8_34) ?_
    refine XS.iload X1.here hx rfl (hb hby d8_35) rfl ?_
    refine Jvm.OwnK.imul X1.here hx rfl (hb hby d8_37) rfl (v := (2 : Int32)) (by decide) ?_
    refine X1.daload hx (j := (2 : Int32)) (v := (.double y2)) (by rw [e1]; exact Ar2.1) (State.isArrayOf_alike hZ.alike Ar2.2.1) Ar2.2.2 in2 (Has.at Ha2 in2 rfl) (g := (mkF m 38 #[vR o0, vI p1, vD d2, s_, vI (1 : Int32), vD d5, s_] [(.int (2 : Int32)), (.ref qc)])) rfl rfl (hb hby d8_38) _ ?_
    refine XS.aloadN X1.here hx rfl (hb hby d8_39) rfl rfl ?_
    refine st3 _ ?_
    show Steps p.tables e below (T3.setTop (mkF m 43 #[vR o0, vI p1, vD d2, s_, vI (1 : Int32), vD d5, s_] [(.ref qc), (.double y2)])) _
    refine XS.iconst X3.here hx rfl (hb hby d8_43) ?_
    refine XS.iload X3.here hx rfl (hb hby d8_44) rfl ?_
    refine Jvm.OwnK.imul X3.here hx rfl (hb hby d8_46) rfl (v := (2 : Int32)) (by decide) ?_
    refine XS.iconst X3.here hx rfl (hb hby d8_47) ?_
    refine Jvm.OwnK.iadd X3.here hx rfl (hb hby d8_48) rfl (v := (3 : Int32)) (by decide) ?_
    refine X3.daload hx (j := (3 : Int32)) (v := (.double y3)) (by rw [e3]; exact Ar4.1) (State.isArrayOf_alike hZ.alike Ar4.2.1) Ar4.2.2 in4 (Has.at Ha4 in4 rfl) (g := (mkF m 49 #[vR o0, vI p1, vD d2, s_, vI (1 : Int32), vD d5, s_] [(.int (3 : Int32)), (.ref qc), (.double y2)])) rfl rfl (hb hby d8_49) _ ?_
    show Steps p.tables e below (T3.setTop (mkF m 50 #[vR o0, vI p1, vD d2, s_, vI (1 : Int32), vD d5, s_] [(.double y3), (.double y2)])) _
    refine st5 _ ?_
    show Steps p.tables e below (T5.setTop (mkF m 53 #[vR o0, vI p1, vD d2, s_, vI (1 : Int32), vD d5, s_] [(.double qf)])) _
    refine XS.dstore X5.here hx rfl (hb hby d8_53) rfl (l' := #[vR o0, vI p1, vD d2, s_, vI (1 : Int32), vD qf, s_]) rfl ?_
    refine XS.aloadN X5.here hx rfl (hb hby d8_55) rfl rfl ?_
    refine XS.dup X5.here hx rfl (hb hby d8_56) rfl rfl ?_
    refine st6 _ ?_
    show Steps p.tables e below (T6.setTop (mkF m 60 #[vR o0, vI p1, vD d2, s_, vI (1 : Int32), vD qf, s_] [(.long qg), (.ref o0)])) _
    refine XS.lconst X6.here hx rfl (hb hby d8_60) ?_
    refine Jvm.OwnK.ladd X6.here hx rfl (hb hby d8_61) rfl hz61 ?_
    refine st7 _ ?_
    show Steps p.tables e below (T7.setTop (mkF m 65 #[vR o0, vI p1, vD d2, s_, vI (1 : Int32), vD qf, s_] [])) _
    refine XS.dload X7.here hx rfl (hb hby d8_65) rfl ?_
    refine XS.aloadN X7.here hx rfl (hb hby d8_67) rfl rfl ?_
    refine st10 _ ?_
    show Steps p.tables e below (T10.setTop (mkF m 71 #[vR o0, vI p1, vD d2, s_, vI (1 : Int32), vD qf, s_] [(.ref qc), (.double qf)])) _
    refine XS.iload X10.here hx rfl (hb hby d8_71) rfl ?_
    refine X10.daload hx (j := (1 : Int32)) (v := (.double y1)) (by rw [e10]; exact Ar12.1) (State.isArrayOf_alike hZ.alike Ar12.2.1) Ar12.2.2 in12 (Has.at Ha12 in12 rfl) (g := (mkF m 73 #[vR o0, vI p1, vD d2, s_, vI (1 : Int32), vD qf, s_] [(.int (1 : Int32)), (.ref qc), (.double qf)])) rfl rfl (hb hby d8_73) _ ?_
    refine st13 _ ?_
    exact k
  by_cases hb77 : qk = (0 : Int32)
  · skip
    have c15 : ∀ t, Steps p.tables e below (T13.setTop (mkF m 101 #[vR o0, vI p1, vD d2, s_, vI (1 : Int32), vD qf, s_] [])) t → Steps p.tables e below (T0.setTop (mkF m 24 #[vR o0, vI p1, vD d2, s_, vI (1 : Int32), vD d5, s_] [])) t := by
      intro t k
      refine c14 t ?_
      show Steps p.tables e below (T13.setTop (mkF m 77 #[vR o0, vI p1, vD d2, s_, vI (1 : Int32), vD qf, s_] [(.int qk)])) _
      refine XS.ifNo X13.here hx rfl (hb hby d8_77) rfl (Jvm.Free.XT.i0_ne_f hb77) ?_
      refine XS.goto X13.here hx rfl (pc0 := 80) (pc' := 101) rfl (hb hby d8_80) (by decide) (by decide) ?_
      exact k
    obtain ⟨fs, hr, hrun, hended, hW, hsame⟩ := X13.leave (v := none) (fun _ => rfl)
    refine ⟨_, _, c15 _ ?_, hrun, hended, _, _, rfl, ?_, ⟨_, rfl⟩, hW, hsame.mono (by decide) (by decide)⟩
    · show Steps p.tables e below (T13.setTop (mkF m 101 #[vR o0, vI p1, vD d2, s_, vI (1 : Int32), vD qf, s_] [])) _
      exact X13.returnOut hx Bd.returns (hb hby d8_101) hr
    · show Q8_n1 Z o0 p1 d2 qd y0 y1 y2 y3 y4 y5 y6 y7 y8 y9 y10 y11 y12 y13 y14 y15 y16 y17 y18 y19 y20 y21 y22 y23 y24 y25 y26 y27 y28 y29 y30 y31 qj qc qg d5 qf z61 qk h0 n0 _ T13.heap _
      rw [e13]
      exact ⟨rfl, N13, K8, (Eq.mp (congrArg (fun l => Arv Z _ qc qd .double (32 : Int32) l (.double (0 : UInt64))) (show (t32 y0 y1 y2 y3 y4 y5 y6 y7 y8 y9 y10 y11 y12 y13 y14 y15 y16 y17 y18 y19 y20 y21 y22 y23 y24 y25 y26 y27 y28 y29 y30 y31) = (t32 y0 qf y2 y3 y4 y5 y6 y7 y8 y9 y10 y11 y12 y13 y14 y15 y16 y17 y18 y19 y20 y21 y22 y23 y24 y25 y26 y27 y28 y29 y30 y31) by rw [eq0_1 hb77])) f11), (qi.other W7 (Or.inr (slot_ne (Or.inl (hwi hw 22 rfl)) (Or.inl (hwi hw 52 rfl)) (by decide) (t := .int) (t' := .long) (by decide) (by decide)))), (qo.other W7 (Or.inr (slot_ne (Or.inl (hwi hw 38 rfl)) (Or.inl (hwi hw 52 rfl)) (by decide) (t := .int) (t' := .long) (by decide) (by decide)))), f9, F7w, (qbS.wr W7)⟩
  · skip
    obtain ⟨T16, X16, e16, st16⟩ := getF X13 hx hZ hown (host := "") (Or.inl (hwi hw 19 rfl)) Via.refl e13 f9 (g := (mkF m 84 #[vR o0, vI p1, vD d2, s_, vI (1 : Int32), vD qf, s_] [(.ref o0)])) rfl rfl (hb hby d8_84)
    obtain ⟨cl17, Ar17, q17, S17, Nn17, Ha17, G17⟩ := id f11
    have in17 : ¬ ((1 : Int32) < 0 ∨ cl17.slots.size ≤ ((1 : Int32)).toNatClampNeg) := inb_of S17 ⟨by decide, by decide⟩
    obtain ⟨T18, h18, X18, e18, W18, st18⟩ := stD X16 hx hZ e16 Ar17 (j := (1 : Int32)) in17 (g := (mkF m 91 #[vR o0, vI p1, vD d2, s_, vI (1 : Int32), vD qf, s_] [(.double qf), (.int (1 : Int32)), (.ref qc)])) rfl rfl (hb hby d8_91)
    have N18 := Fr.snoc X18 N13 qp
    have K19 : Keep h0 h18 [o0, qc] := K8.wr W18 (Or.inl (by simp))
    have V18 : Arv Z h18 qc qd .double (32 : Int32) (t32 y0 qf y2 y3 y4 y5 y6 y7 y8 y9 y10 y11 y12 y13 y14 y15 y16 y17 y18 y19 y20 y21 y22 y23 y24 y25 y26 y27 y28 y29 y30 y31) (.double (0 : UInt64)) := Arv.set Ar17 q17 S17 Nn17 Ha17 G17 rfl W18 1 rfl (show (1 : Nat) < 32 by decide)
    have c20 : ∀ t, Steps p.tables e below (T18.setTop (mkF m 101 #[vR o0, vI p1, vD d2, s_, vI (0 : Int32), vD qf, s_] [])) t → Steps p.tables e below (T0.setTop (mkF m 24 #[vR o0, vI p1, vD d2, s_, vI (1 : Int32), vD d5, s_] [])) t := by
      intro t k
      refine c14 t ?_
      show Steps p.tables e below (T13.setTop (mkF m 77 #[vR o0, vI p1, vD d2, s_, vI (1 : Int32), vD qf, s_] [(.int qk)])) _
      refine XS.ifYes X13.here hx rfl (pc0 := 77) (pc' := 83) rfl (hb hby d8_77) rfl (Jvm.Free.XT.i0_ne_t hb77) (by decide) (by decide) ?_
      refine XS.aloadN X13.here hx rfl (hb hby d8_83) rfl rfl ?_
      refine st16 _ ?_
      show Steps p.tables e below (T16.setTop (mkF m 87 #[vR o0, vI p1, vD d2, s_, vI (1 : Int32), vD qf, s_] [(.ref qc)])) _
      refine XS.iload X16.here hx rfl (hb hby d8_87) rfl ?_
      refine XS.dload X16.here hx rfl (hb hby d8_89) rfl ?_
      refine st18 _ ?_
      show Steps p.tables e below (T18.setTop (mkF m 92 #[vR o0, vI p1, vD d2, s_, vI (1 : Int32), vD qf, s_] [])) _
      refine XS.iload X18.here hx rfl (hb hby d8_92) rfl ?_
      refine XS.iconst X18.here hx rfl (hb hby d8_94) ?_
      refine Jvm.OwnK.idiv X18.here hx rfl (hb hby d8_95) rfl (by decide) (v := (0 : Int32)) (by decide) ?_
      refine XS.istore X18.here hx rfl (hb hby d8_96) rfl (l' := #[vR o0, vI p1, vD d2, s_, vI (0 : Int32), vD qf, s_]) rfl ?_
      refine XS.goto X18.here hx rfl (pc0 := 98) (pc' := 24) rfl (hb hby d8_98) (by decide) (by decide) ?_
      refine XS.iload X18.here hx rfl (hb hby d8_24) rfl ?_
      show Steps p.tables e below (T18.setTop (mkF m 26 #[vR o0, vI p1, vD d2, s_, vI (0 : Int32), vD qf, s_] [(.int (0 : Int32))])) _
      refine XS.iconst X18.here hx rfl (hb hby d8_26) ?_
      refine XS.icmpYes X18.here hx rfl (pc0 := 27) (pc' := 101) rfl (hb hby d8_27) rfl (Jvm.Free.XT.ii_lt_t (by decide)) (by decide) (by decide) ?_
      exact k
    obtain ⟨fs, hr, hrun, hended, hW, hsame⟩ := X18.leave (v := none) (fun _ => rfl)
    refine ⟨_, _, c20 _ ?_, hrun, hended, _, _, rfl, ?_, ⟨_, rfl⟩, hW, hsame.mono (by decide) (by decide)⟩
    · show Steps p.tables e below (T18.setTop (mkF m 101 #[vR o0, vI p1, vD d2, s_, vI (0 : Int32), vD qf, s_] [])) _
      exact X18.returnOut hx Bd.returns (hb hby d8_101) hr
    · show Q8_n1 Z o0 p1 d2 qd y0 y1 y2 y3 y4 y5 y6 y7 y8 y9 y10 y11 y12 y13 y14 y15 y16 y17 y18 y19 y20 y21 y22 y23 y24 y25 y26 y27 y28 y29 y30 y31 qj qc qg d5 qf z61 qk h0 n0 _ T18.heap _
      rw [e18]
      exact ⟨rfl, N18, K19, V18, ((qi.other W7 (Or.inr (slot_ne (Or.inl (hwi hw 22 rfl)) (Or.inl (hwi hw 52 rfl)) (by decide) (t := .int) (t' := .long) (by decide) (by decide)))).other W18 (Or.inl qe)), ((qo.other W7 (Or.inr (slot_ne (Or.inl (hwi hw 38 rfl)) (Or.inl (hwi hw 52 rfl)) (by decide) (t := .int) (t' := .long) (by decide) (by decide)))).other W18 (Or.inl qe)), (f9.other W18 (Or.inl qe)), (F7w.other W18 (Or.inl qe)), ((qbS.wr W7).wr W18)⟩
def Q8_n2 (Z : State) (o0 : Addr) (p1 : Int32) (d2 : UInt64) (qd : ClassId) (y0 y1 y2 y3 y4 y5 y6 y7 y8 y9 y10 y11 y12 y13 y14 y15 y16 y17 y18 y19 y20 y21 y22 y23 y24 y25 y26 y27 y28 y29 y30 y31 : UInt64) (qj : Int32) (qc : Addr) (qg : Int64) (d5 : UInt64) (qf : UInt64) (z61 : Int64) (qk : Int32) (qeX : UInt64) (qlk : Int64) (qhx : Int32) (h0 : Heap) (n0 : Nat) (v : Option Value) (h : Heap) (L : List Loc) : Prop := ∃ vx_visits_o0 : Int64, v = none ∧ Fr n0 L ∧ Keep h0 h [o0, qc] ∧ Arv Z h qc qd .double (32 : Int32) (t32 y0 qeX qf y3 y4 y5 y6 y7 y8 y9 y10 y11 y12 y13 y14 y15 y16 y17 y18 y19 y20 y21 y22 y23 y24 y25 y26 y27 y28 y29 y30 y31) (.double (0 : UInt64)) ∧ Fld Z h o0 MTc "capacity" "I" (.int (16 : Int32)) ∧ Fld Z h o0 MTc "count" "I" (.int qj) ∧ Fld Z h o0 MTc "minima" "[D" (.ref qc) ∧ Fld Z h o0 MTc "visits" "J" (.long vx_visits_o0) ∧ Exa Z h o0 MTc
set_option maxRecDepth 65536 in
set_option maxHeartbeats 40000000 in
theorem tl8_n2 (l : Launch) (Z : State) (a0 : Array Value) (hw : ∀ d ∈ tables_1, d.before a0 Z = true) (ws : List Jvm.Cond) (o0 : Addr) (p1 : Int32) (d2 : UInt64) (qd : ClassId) (y0 y1 y2 y3 y4 y5 y6 y7 y8 y9 y10 y11 y12 y13 y14 y15 y16 y17 y18 y19 y20 y21 y22 y23 y24 y25 y26 y27 y28 y29 y30 y31 : UInt64) (qj : Int32) (qc : Addr) (qg : Int64) (d5 : UInt64) (qf : UInt64) (z61 : Int64) (qk : Int32) (qeX : UInt64) (qlk : Int64) (qhx : Int32) (h0 : Heap) (n0 : Nat) (Z0 : n0 ≤ h0.size) (qm : Arv Z h0 qc qd .double (32 : Int32) (t32 y0 y1 y2 y3 y4 y5 y6 y7 y8 y9 y10 y11 y12 y13 y14 y15 y16 y17 y18 y19 y20 y21 y22 y23 y24 y25 y26 y27 y28 y29 y30 y31) (.double (0 : UInt64))) (qe : o0 ≠ qc) (qi : Fld Z h0 o0 MTc "capacity" "I" (.int (16 : Int32))) (qo : Fld Z h0 o0 MTc "count" "I" (.int qj)) (qn : Fld Z h0 o0 MTc "minima" "[D" (.ref qc)) (qr : Fld Z h0 o0 MTc "visits" "J" (.long qg)) (qp : n0 ≤ qc) (qbS : Exa Z h0 o0 MTc) (qU : n0 ≤ o0) (qez : mnf y4 y5 = qf) (hz61 : qg + (1 : Int64) = z61) (qeA : cmpf qf y2 = qk) (qod : mnf qf y3 = qeX) (qox : z61 + (1 : Int64) = qlk) (qoe : cmpf qeX y1 = qhx) (qe0 : TV y4) (qe1 : TV y5) (qof : (¬ qk = (0 : Int32)) → TV qf) (qog : (¬ qk = (0 : Int32)) → TV y3) (qon : (¬ qk = (0 : Int32)) → (qhx = (0 : Int32)) → y1 = qeX) (eq0_1 : (qk = (0 : Int32)) → y1 = qeX) (eq0_2 : (qk = (0 : Int32)) → y2 = qf) {p : Program} {e : Env} {s : State} {m : MethodId} {below : List Frame} {meth : Method} {c : Code} {s₁ T0 : State} {locs0 : List Loc} (Bd : BodyLoose p l (⟨MTc, "set", "(ID)V"⟩ : MethodName) (head1 (Jvm.Cond.code (⟨MTc, "set", "(ID)V"⟩ : MethodName) prog_28_method_3_code 7 none :: ws) ({ frames := 3, cells := 0, slots := 0, locals := 90 } : Room)) prog_28_method_3_code 7 none e s m #[(.ref o0), (.int p1), (.double d2)] below meth c s₁) (hml0 : c.maxLocals = 7) (hZ : Z.Warmed39 s.vm) (X0 : Stand p l e ({ frames := 3, cells := 0, slots := 0, locals := 90 } : Room) s m #[(.ref o0), (.int p1), (.double d2)] below meth c T0 locs0 0 0) (e0 : T0.heap = h0) (N0 : Fr n0 locs0) :
    ∃ t o, Steps p.tables e below (T0.setTop (mkF m 24 #[vR o0, vI p1, vD d2, s_, vI (2 : Int32), vD d5, s_] [])) t ∧ t.status = .running ∧ Ended t below o ∧ ∃ v L, o = .returned v ∧ Q8_n2 Z o0 p1 d2 qd y0 y1 y2 y3 y4 y5 y6 y7 y8 y9 y10 y11 y12 y13 y14 y15 y16 y17 y18 y19 y20 y21 y22 y23 y24 y25 y26 y27 y28 y29 y30 y31 qj qc qg d5 qf z61 qk qeX qlk qhx h0 n0 v t.heap L ∧ FrameEnd s o t L ({ frames := 3, cells := 0, slots := 0, locals := 90 } : Room).cells ({ frames := 3, cells := 0, slots := 0, locals := 90 } : Room).slots := by
  have hx := Bd.exec
  have hby := Bd.bytes
  have hml : c.maxLocals = 7 := hml0
  have hown : s.vm.findClass MTc = some m.cls := findClass_of_methodNamed Bd.named
  have hnm := (name_of_methodNamed Bd.named Bd.method).1
  have c0 : ∀ t, Steps p.tables e below (T0.setTop (mkF m 24 #[vR o0, vI p1, vD d2, s_, vI (2 : Int32), vD d5, s_] [])) t → Steps p.tables e below (T0.setTop (mkF m 24 #[vR o0, vI p1, vD d2, s_, vI (2 : Int32), vD d5, s_] [])) t := fun _ k => k
  obtain ⟨T1, X1, e1, st1⟩ := getF X0 hx hZ hown (host := "") (Or.inl (hwi hw 19 rfl)) Via.refl e0 qn (g := (mkF m 31 #[vR o0, vI p1, vD d2, s_, vI (2 : Int32), vD d5, s_] [(.ref o0)])) rfl rfl (hb hby d8_31)
  obtain ⟨cl2, Ar2, -, S2, -, Ha2, -⟩ := id qm
  have in2 : ¬ ((4 : Int32) < 0 ∨ cl2.slots.size ≤ ((4 : Int32)).toNatClampNeg) := inb_of S2 ⟨by decide, by decide⟩
  obtain ⟨T3, X3, e3, st3⟩ := getF X1 hx hZ hown (host := "") (Or.inl (hwi hw 19 rfl)) Via.refl e1 qn (g := (mkF m 40 #[vR o0, vI p1, vD d2, s_, vI (2 : Int32), vD d5, s_] [(.ref o0), (.double y4)])) rfl rfl (hb hby d8_40)
  obtain ⟨cl4, Ar4, -, S4, -, Ha4, -⟩ := id qm
  have in4 : ¬ ((5 : Int32) < 0 ∨ cl4.slots.size ≤ ((5 : Int32)).toNatClampNeg) := inb_of S4 ⟨by decide, by decide⟩
  obtain ⟨_, _, ⟨T5, L5, k5, n5⟩, -, X5, ⟨Lc5, hQ5, ql5, qy5, qz5⟩, st5⟩ := Jvm.LawKit.callS X3 hx (y := (⟨MTc, "min", "(DD)D"⟩ : MethodName)) hown (mvT hZ (hwi hw 44 rfl)) (mvT hZ (hwi hw 45 rfl)) (mvT hZ (hwi hw 4 rfl)) (mvT hZ (hwi hw 46 rfl)) (by decide) (backOf (W := 0) (rm9w l Z a0 hw [] y4 y5 qf h0 n0 Z0 qez qe0 qe1) hZ (hwi hw 46 rfl) (hwi hw 4 rfl) (by decide) (by decide)) (g := (mkF m 50 #[vR o0, vI p1, vD d2, s_, vI (2 : Int32), vD d5, s_] [(.double y5), (.double y4)])) rfl (by rw [hml]; rfl) (argsL := [(.double y4), (.double y5)]) (rest := []) (lenOf pd_2 rfl) rfl (by show 2 * 0 + _ ≤ _; exact Nat.le_of_eq rfl) (hb hby d8_50) (fun _ _ => ⟨rfl, e3, (by decide : 0 + 0 ≤ _), (by decide : 0 + 0 ≤ _)⟩)
  dsimp only [Pt.U, Pt.locs, Pt.cells, Pt.slots] at X5 ql5 qy5 qz5 st5 hQ5
  subst ql5 qy5 qz5
  obtain ⟨rfl, N5q, e5⟩ := hQ5
  have N5 := Fr.app N0 N5q
  obtain ⟨T6, X6, e6, st6⟩ := getF X5 hx hZ hown (host := "") (Or.inl (hwi hw 51 rfl)) Via.refl e5 qr (g := (mkF m 57 #[vR o0, vI p1, vD d2, s_, vI (2 : Int32), vD qf, s_] [(.ref o0), (.ref o0)])) rfl rfl (hb hby d8_57)
  obtain ⟨T7, h7, X7, e7, W7, st7⟩ := putF X6 hx hZ hown (host := "") (Or.inl (hwi hw 51 rfl)) Via.refl e6 qr qbS (Or.inl (hwi hw 52 rfl)) (hwi hw 3 rfl) (ty := .long) (by decide) rfl rfl (g := (mkF m 62 #[vR o0, vI p1, vD d2, s_, vI (2 : Int32), vD qf, s_] [(.long z61), (.ref o0)])) rfl rfl (hb hby d8_62)
  have N7 := Fr.snoc X7 N5 qU
  have K8 : Keep h0 h7 [o0, qc] := (Keep.refl h0 [o0, qc]).wr W7 (Or.inl (by simp))
  have F7w := qr.same W7
  have f9 := (qn.other W7 (Or.inr (slot_ne (Or.inl (hwi hw 20 rfl)) (Or.inl (hwi hw 52 rfl)) (by decide) (t := (.array .double)) (t' := .long) (by decide) (by decide))))
  obtain ⟨T10, X10, e10, st10⟩ := getF X7 hx hZ hown (host := "") (Or.inl (hwi hw 19 rfl)) Via.refl e7 f9 (g := (mkF m 68 #[vR o0, vI p1, vD d2, s_, vI (2 : Int32), vD qf, s_] [(.ref o0), (.double qf)])) rfl rfl (hb hby d8_68)
  have f11 := (qm.other W7 (Ne.symm qe))
  obtain ⟨cl12, Ar12, -, S12, -, Ha12, -⟩ := id f11
  have in12 : ¬ ((2 : Int32) < 0 ∨ cl12.slots.size ≤ ((2 : Int32)).toNatClampNeg) := inb_of S12 ⟨by decide, by decide⟩
  obtain ⟨_, _, ⟨T13, L13, k13, n13⟩, -, X13, ⟨Lc13, hQ13, ql13, qy13, qz13⟩, st13⟩ := Jvm.LawKit.callS X10 hx (y := (⟨"java/lang/Double", "compare", "(DD)I"⟩ : MethodName)) hown (mvT hZ (hwi hw 53 rfl)) (mvT hZ (hwi hw 54 rfl)) (mvT hZ (hwi hw 49 rfl)) (mvT hZ (hwi hw 55 rfl)) (by decide) (backOf (W := 0) (rm11w l Z a0 hw [] qf y2 qk h7 n0 (Nat.le_trans Z0 (Keep.of_wr W7).1) qeA) hZ (hwi hw 55 rfl) (hwi hw 49 rfl) (by decide) (by decide)) (g := (mkF m 74 #[vR o0, vI p1, vD d2, s_, vI (2 : Int32), vD qf, s_] [(.double y2), (.double qf)])) rfl (by rw [hml]; rfl) (argsL := [(.double qf), (.double y2)]) (rest := []) (lenOf pd_5 rfl) rfl (by show 2 * 0 + _ ≤ _; exact Nat.le_of_eq rfl) (hb hby d8_74) (fun _ _ => ⟨rfl, e10, (by decide : 0 + 0 ≤ _), (by decide : 0 + 0 ≤ _)⟩)
  dsimp only [Pt.U, Pt.locs, Pt.cells, Pt.slots] at X13 ql13 qy13 qz13 st13 hQ13
  subst ql13 qy13 qz13
  obtain ⟨rfl, N13q, e13⟩ := hQ13
  have N13 := Fr.app N7 N13q
  have c14 : ∀ t, Steps p.tables e below (T13.setTop (mkF m 77 #[vR o0, vI p1, vD d2, s_, vI (2 : Int32), vD qf, s_] [(.int qk)])) t → Steps p.tables e below (T0.setTop (mkF m 24 #[vR o0, vI p1, vD d2, s_, vI (2 : Int32), vD d5, s_] [])) t := by
    intro t k
    refine c0 t ?_
    show Steps p.tables e below (T0.setTop (mkF m 24 #[vR o0, vI p1, vD d2, s_, vI (2 : Int32), vD d5, s_] [])) _
    refine XS.iload X0.here hx rfl (hb hby d8_24) rfl ?_
    refine XS.iconst X0.here hx rfl (hb hby d8_26) ?_
    refine XS.icmpNo X0.here hx rfl (hb hby d8_27) rfl (Jvm.Free.XT.ii_lt_f (by decide)) ?_
    refine XS.aloadN X0.here hx rfl (hb hby d8_30) rfl rfl ?_
    refine st1 _ ?_
    show Steps p.tables e below (T1.setTop (mkF m 34 #[vR o0, vI p1, vD d2, s_, vI (2 : Int32), vD d5, s_] [(.ref qc)])) _
    refine XS.iconst X1.here hx rfl (hb hby d8_34) ?_
    refine XS.iload X1.here hx rfl (hb hby d8_35) rfl ?_
    refine Jvm.OwnK.imul X1.here hx rfl (hb hby d8_37) rfl (v := (4 : Int32)) (by decide) ?_
    refine X1.daload hx (j := (4 : Int32)) (v := (.double y4)) (by rw [e1]; exact Ar2.1) (State.isArrayOf_alike hZ.alike Ar2.2.1) Ar2.2.2 in2 (Has.at Ha2 in2 rfl) (g := (mkF m 38 #[vR o0, vI p1, vD d2, s_, vI (2 : Int32), vD d5, s_] [(.int (4 : Int32)), (.ref qc)])) rfl rfl (hb hby d8_38) _ ?_
    refine XS.aloadN X1.here hx rfl (hb hby d8_39) rfl rfl ?_
    refine st3 _ ?_
    show Steps p.tables e below (T3.setTop (mkF m 43 #[vR o0, vI p1, vD d2, s_, vI (2 : Int32), vD d5, s_] [(.ref qc), (.double y4)])) _
    refine XS.iconst X3.here hx rfl (hb hby d8_43) ?_
    refine XS.iload X3.here hx rfl (hb hby d8_44) rfl ?_
    refine Jvm.OwnK.imul X3.here hx rfl (hb hby d8_46) rfl (v := (4 : Int32)) (by decide) ?_
    refine XS.iconst X3.here hx rfl (hb hby d8_47) ?_
    refine Jvm.OwnK.iadd X3.here hx rfl (hb hby d8_48) rfl (v := (5 : Int32)) (by decide) ?_
    refine X3.daload hx (j := (5 : Int32)) (v := (.double y5)) (by rw [e3]; exact Ar4.1) (State.isArrayOf_alike hZ.alike Ar4.2.1) Ar4.2.2 in4 (Has.at Ha4 in4 rfl) (g := (mkF m 49 #[vR o0, vI p1, vD d2, s_, vI (2 : Int32), vD d5, s_] [(.int (5 : Int32)), (.ref qc), (.double y4)])) rfl rfl (hb hby d8_49) _ ?_
    show Steps p.tables e below (T3.setTop (mkF m 50 #[vR o0, vI p1, vD d2, s_, vI (2 : Int32), vD d5, s_] [(.double y5), (.double y4)])) _
    refine st5 _ ?_
    show Steps p.tables e below (T5.setTop (mkF m 53 #[vR o0, vI p1, vD d2, s_, vI (2 : Int32), vD d5, s_] [(.double qf)])) _
    refine XS.dstore X5.here hx rfl (hb hby d8_53) rfl (l' := #[vR o0, vI p1, vD d2, s_, vI (2 : Int32), vD qf, s_]) rfl ?_
    refine XS.aloadN X5.here hx rfl (hb hby d8_55) rfl rfl ?_
    refine XS.dup X5.here hx rfl (hb hby d8_56) rfl rfl ?_
    refine st6 _ ?_
    show Steps p.tables e below (T6.setTop (mkF m 60 #[vR o0, vI p1, vD d2, s_, vI (2 : Int32), vD qf, s_] [(.long qg), (.ref o0)])) _
    refine XS.lconst X6.here hx rfl (hb hby d8_60) ?_
    refine Jvm.OwnK.ladd X6.here hx rfl (hb hby d8_61) rfl hz61 ?_
    refine st7 _ ?_
    show Steps p.tables e below (T7.setTop (mkF m 65 #[vR o0, vI p1, vD d2, s_, vI (2 : Int32), vD qf, s_] [])) _
    refine XS.dload X7.here hx rfl (hb hby d8_65) rfl ?_
    refine XS.aloadN X7.here hx rfl (hb hby d8_67) rfl rfl ?_
    refine st10 _ ?_
    show Steps p.tables e below (T10.setTop (mkF m 71 #[vR o0, vI p1, vD d2, s_, vI (2 : Int32), vD qf, s_] [(.ref qc), (.double qf)])) _
    refine XS.iload X10.here hx rfl (hb hby d8_71) rfl ?_
    refine X10.daload hx (j := (2 : Int32)) (v := (.double y2)) (by rw [e10]; exact Ar12.1) (State.isArrayOf_alike hZ.alike Ar12.2.1) Ar12.2.2 in12 (Has.at Ha12 in12 rfl) (g := (mkF m 73 #[vR o0, vI p1, vD d2, s_, vI (2 : Int32), vD qf, s_] [(.int (2 : Int32)), (.ref qc), (.double qf)])) rfl rfl (hb hby d8_73) _ ?_
    refine st13 _ ?_
    exact k
  by_cases hb77 : qk = (0 : Int32)
  · skip
    have c15 : ∀ t, Steps p.tables e below (T13.setTop (mkF m 101 #[vR o0, vI p1, vD d2, s_, vI (2 : Int32), vD qf, s_] [])) t → Steps p.tables e below (T0.setTop (mkF m 24 #[vR o0, vI p1, vD d2, s_, vI (2 : Int32), vD d5, s_] [])) t := by
      intro t k
      refine c14 t ?_
      show Steps p.tables e below (T13.setTop (mkF m 77 #[vR o0, vI p1, vD d2, s_, vI (2 : Int32), vD qf, s_] [(.int qk)])) _
      refine XS.ifNo X13.here hx rfl (hb hby d8_77) rfl (Jvm.Free.XT.i0_ne_f hb77) ?_
      refine XS.goto X13.here hx rfl (pc0 := 80) (pc' := 101) rfl (hb hby d8_80) (by decide) (by decide) ?_
      exact k
    obtain ⟨fs, hr, hrun, hended, hW, hsame⟩ := X13.leave (v := none) (fun _ => rfl)
    refine ⟨_, _, c15 _ ?_, hrun, hended, _, _, rfl, ?_, ⟨_, rfl⟩, hW, hsame.mono (by decide) (by decide)⟩
    · show Steps p.tables e below (T13.setTop (mkF m 101 #[vR o0, vI p1, vD d2, s_, vI (2 : Int32), vD qf, s_] [])) _
      exact X13.returnOut hx Bd.returns (hb hby d8_101) hr
    · show Q8_n2 Z o0 p1 d2 qd y0 y1 y2 y3 y4 y5 y6 y7 y8 y9 y10 y11 y12 y13 y14 y15 y16 y17 y18 y19 y20 y21 y22 y23 y24 y25 y26 y27 y28 y29 y30 y31 qj qc qg d5 qf z61 qk qeX qlk qhx h0 n0 _ T13.heap _
      rw [e13]
      exact ⟨z61, rfl, N13, K8, (Eq.mp (congrArg (fun l => Arv Z _ qc qd .double (32 : Int32) l (.double (0 : UInt64))) (show (t32 y0 y1 y2 y3 y4 y5 y6 y7 y8 y9 y10 y11 y12 y13 y14 y15 y16 y17 y18 y19 y20 y21 y22 y23 y24 y25 y26 y27 y28 y29 y30 y31) = (t32 y0 qeX qf y3 y4 y5 y6 y7 y8 y9 y10 y11 y12 y13 y14 y15 y16 y17 y18 y19 y20 y21 y22 y23 y24 y25 y26 y27 y28 y29 y30 y31) by rw [eq0_1 hb77, eq0_2 hb77])) f11), (qi.other W7 (Or.inr (slot_ne (Or.inl (hwi hw 22 rfl)) (Or.inl (hwi hw 52 rfl)) (by decide) (t := .int) (t' := .long) (by decide) (by decide)))), (qo.other W7 (Or.inr (slot_ne (Or.inl (hwi hw 38 rfl)) (Or.inl (hwi hw 52 rfl)) (by decide) (t := .int) (t' := .long) (by decide) (by decide)))), f9, F7w, (qbS.wr W7)⟩
  · skip
    obtain ⟨T16, X16, e16, st16⟩ := getF X13 hx hZ hown (host := "") (Or.inl (hwi hw 19 rfl)) Via.refl e13 f9 (g := (mkF m 84 #[vR o0, vI p1, vD d2, s_, vI (2 : Int32), vD qf, s_] [(.ref o0)])) rfl rfl (hb hby d8_84)
    obtain ⟨cl17, Ar17, q17, S17, Nn17, Ha17, G17⟩ := id f11
    have in17 : ¬ ((2 : Int32) < 0 ∨ cl17.slots.size ≤ ((2 : Int32)).toNatClampNeg) := inb_of S17 ⟨by decide, by decide⟩
    obtain ⟨T18, h18, X18, e18, W18, st18⟩ := stD X16 hx hZ e16 Ar17 (j := (2 : Int32)) in17 (g := (mkF m 91 #[vR o0, vI p1, vD d2, s_, vI (2 : Int32), vD qf, s_] [(.double qf), (.int (2 : Int32)), (.ref qc)])) rfl rfl (hb hby d8_91)
    have N18 := Fr.snoc X18 N13 qp
    have K19 : Keep h0 h18 [o0, qc] := K8.wr W18 (Or.inl (by simp))
    have V18 : Arv Z h18 qc qd .double (32 : Int32) (t32 y0 y1 qf y3 y4 y5 y6 y7 y8 y9 y10 y11 y12 y13 y14 y15 y16 y17 y18 y19 y20 y21 y22 y23 y24 y25 y26 y27 y28 y29 y30 y31) (.double (0 : UInt64)) := Arv.set Ar17 q17 S17 Nn17 Ha17 G17 rfl W18 2 rfl (show (2 : Nat) < 32 by decide)
    have c20 : ∀ t, Steps p.tables e below (T18.setTop (mkF m 24 #[vR o0, vI p1, vD d2, s_, vI (1 : Int32), vD qf, s_] [])) t → Steps p.tables e below (T0.setTop (mkF m 24 #[vR o0, vI p1, vD d2, s_, vI (2 : Int32), vD d5, s_] [])) t := by
      intro t k
      refine c14 t ?_
      show Steps p.tables e below (T13.setTop (mkF m 77 #[vR o0, vI p1, vD d2, s_, vI (2 : Int32), vD qf, s_] [(.int qk)])) _
      refine XS.ifYes X13.here hx rfl (pc0 := 77) (pc' := 83) rfl (hb hby d8_77) rfl (Jvm.Free.XT.i0_ne_t hb77) (by decide) (by decide) ?_
      refine XS.aloadN X13.here hx rfl (hb hby d8_83) rfl rfl ?_
      refine st16 _ ?_
      show Steps p.tables e below (T16.setTop (mkF m 87 #[vR o0, vI p1, vD d2, s_, vI (2 : Int32), vD qf, s_] [(.ref qc)])) _
      refine XS.iload X16.here hx rfl (hb hby d8_87) rfl ?_
      refine XS.dload X16.here hx rfl (hb hby d8_89) rfl ?_
      refine st18 _ ?_
      show Steps p.tables e below (T18.setTop (mkF m 92 #[vR o0, vI p1, vD d2, s_, vI (2 : Int32), vD qf, s_] [])) _
      refine XS.iload X18.here hx rfl (hb hby d8_92) rfl ?_
      refine XS.iconst X18.here hx rfl (hb hby d8_94) ?_
      refine Jvm.OwnK.idiv X18.here hx rfl (hb hby d8_95) rfl (by decide) (v := (1 : Int32)) (by decide) ?_
      refine XS.istore X18.here hx rfl (hb hby d8_96) rfl (l' := #[vR o0, vI p1, vD d2, s_, vI (1 : Int32), vD qf, s_]) rfl ?_
      refine XS.goto X18.here hx rfl (pc0 := 98) (pc' := 24) rfl (hb hby d8_98) (by decide) (by decide) ?_
      exact k
    have f22 := ((qi.other W7 (Or.inr (slot_ne (Or.inl (hwi hw 22 rfl)) (Or.inl (hwi hw 52 rfl)) (by decide) (t := .int) (t' := .long) (by decide) (by decide)))).other W18 (Or.inl qe))
    have f23 := ((qo.other W7 (Or.inr (slot_ne (Or.inl (hwi hw 38 rfl)) (Or.inl (hwi hw 52 rfl)) (by decide) (t := .int) (t' := .long) (by decide) (by decide)))).other W18 (Or.inl qe))
    have f24 := (f9.other W18 (Or.inl qe))
    have f25 := (F7w.other W18 (Or.inl qe))
    have f26 := ((qbS.wr W7).wr W18)
    obtain ⟨T21, o21q, sq21, rq21, eq21, _, L21, ho21, ⟨rfl, N21, K21q, Q21_0, Q21_1, Q21_2, Q21_3, Q21_4, Q21_5⟩, hF21⟩ := tl8_n1 l Z a0 hw ws o0 p1 d2 qd y0 y1 qf y3 y4 y5 y6 y7 y8 y9 y10 y11 y12 y13 y14 y15 y16 y17 y18 y19 y20 y21 y22 y23 y24 y25 y26 y27 y28 y29 y30 y31 qj qc z61 qf qeX qlk qhx h18 n0 (Nat.le_trans (Nat.le_trans Z0 (Keep.of_wr W7).1) (Keep.of_wr W18).1) V18 qe f22 f23 f24 f25 qp f26 qU qod qox qoe (qof hb77) (qog hb77) (qon hb77) Bd hml0 hZ X18 e18 N18
    have K27 : Keep h0 T21.heap [o0, qc] := Keep.trans K19 K21q (allS (Or.inl (by simp)) (allS (Or.inl (by simp)) all0))
    exact ⟨T21, o21q, c20 _ sq21, rq21, eq21, _, L21, ho21, ⟨qlk, rfl, N21, K27, Q21_0, Q21_1, Q21_2, Q21_3, Q21_4, Q21_5⟩, hF21⟩
def Q8_n4 (Z : State) (o0 : Addr) (p1 : Int32) (d2 : UInt64) (qd : ClassId) (y0 y1 y2 y3 y4 y5 y6 y7 y8 y9 y10 y11 y12 y13 y14 y15 y16 y17 y18 y19 y20 y21 y22 y23 y24 y25 y26 y27 y28 y29 y30 y31 : UInt64) (qj : Int32) (qc : Addr) (qg : Int64) (d5 : UInt64) (qf : UInt64) (z61 : Int64) (qk : Int32) (qde : UInt64) (qfz : Int64) (qdC : Int32) (qcn : UInt64) (qeF : Int64) (qdV : Int32) (h0 : Heap) (n0 : Nat) (v : Option Value) (h : Heap) (L : List Loc) : Prop := ∃ vx_visits_o0 : Int64, v = none ∧ Fr n0 L ∧ Keep h0 h [o0, qc] ∧ Arv Z h qc qd .double (32 : Int32) (t32 y0 qcn qde y3 qf y5 y6 y7 y8 y9 y10 y11 y12 y13 y14 y15 y16 y17 y18 y19 y20 y21 y22 y23 y24 y25 y26 y27 y28 y29 y30 y31) (.double (0 : UInt64)) ∧ Fld Z h o0 MTc "capacity" "I" (.int (16 : Int32)) ∧ Fld Z h o0 MTc "count" "I" (.int qj) ∧ Fld Z h o0 MTc "minima" "[D" (.ref qc) ∧ Fld Z h o0 MTc "visits" "J" (.long vx_visits_o0) ∧ Exa Z h o0 MTc
set_option maxRecDepth 65536 in
set_option maxHeartbeats 40000000 in
theorem tl8_n4 (l : Launch) (Z : State) (a0 : Array Value) (hw : ∀ d ∈ tables_1, d.before a0 Z = true) (ws : List Jvm.Cond) (o0 : Addr) (p1 : Int32) (d2 : UInt64) (qd : ClassId) (y0 y1 y2 y3 y4 y5 y6 y7 y8 y9 y10 y11 y12 y13 y14 y15 y16 y17 y18 y19 y20 y21 y22 y23 y24 y25 y26 y27 y28 y29 y30 y31 : UInt64) (qj : Int32) (qc : Addr) (qg : Int64) (d5 : UInt64) (qf : UInt64) (z61 : Int64) (qk : Int32) (qde : UInt64) (qfz : Int64) (qdC : Int32) (qcn : UInt64) (qeF : Int64) (qdV : Int32) (h0 : Heap) (n0 : Nat) (Z0 : n0 ≤ h0.size) (qm : Arv Z h0 qc qd .double (32 : Int32) (t32 y0 y1 y2 y3 y4 y5 y6 y7 y8 y9 y10 y11 y12 y13 y14 y15 y16 y17 y18 y19 y20 y21 y22 y23 y24 y25 y26 y27 y28 y29 y30 y31) (.double (0 : UInt64))) (qe : o0 ≠ qc) (qi : Fld Z h0 o0 MTc "capacity" "I" (.int (16 : Int32))) (qo : Fld Z h0 o0 MTc "count" "I" (.int qj)) (qn : Fld Z h0 o0 MTc "minima" "[D" (.ref qc)) (qr : Fld Z h0 o0 MTc "visits" "J" (.long qg)) (qp : n0 ≤ qc) (qbS : Exa Z h0 o0 MTc) (qU : n0 ≤ o0) (qez : mnf y8 y9 = qf) (hz61 : qg + (1 : Int64) = z61) (qeA : cmpf qf y4 = qk) (qlF : mnf qf y5 = qde) (qn1 : z61 + (1 : Int64) = qfz) (qlG : cmpf qde y2 = qdC) (qiV : mnf qde y3 = qcn) (qlH : qfz + (1 : Int64) = qeF) (qiW : cmpf qcn y1 = qdV) (qe0 : TV y8) (qe1 : TV y9) (qmB : (¬ qk = (0 : Int32)) → TV qf) (qmC : (¬ qk = (0 : Int32)) → TV y5) (qjL : (¬ qk = (0 : Int32)) → (¬ qdC = (0 : Int32)) → TV qde) (qjM : (¬ qk = (0 : Int32)) → (¬ qdC = (0 : Int32)) → TV y3) (qkP : (¬ qk = (0 : Int32)) → (¬ qdC = (0 : Int32)) → (qdV = (0 : Int32)) → y1 = qcn) (qnA : (¬ qk = (0 : Int32)) → (qdC = (0 : Int32)) → y1 = qcn) (qnB : (¬ qk = (0 : Int32)) → (qdC = (0 : Int32)) → y2 = qde) (eq0_1 : (qk = (0 : Int32)) → y1 = qcn) (eq0_2 : (qk = (0 : Int32)) → y2 = qde) (eq0_4 : (qk = (0 : Int32)) → y4 = qf) {p : Program} {e : Env} {s : State} {m : MethodId} {below : List Frame} {meth : Method} {c : Code} {s₁ T0 : State} {locs0 : List Loc} (Bd : BodyLoose p l (⟨MTc, "set", "(ID)V"⟩ : MethodName) (head1 (Jvm.Cond.code (⟨MTc, "set", "(ID)V"⟩ : MethodName) prog_28_method_3_code 7 none :: ws) ({ frames := 3, cells := 0, slots := 0, locals := 90 } : Room)) prog_28_method_3_code 7 none e s m #[(.ref o0), (.int p1), (.double d2)] below meth c s₁) (hml0 : c.maxLocals = 7) (hZ : Z.Warmed39 s.vm) (X0 : Stand p l e ({ frames := 3, cells := 0, slots := 0, locals := 90 } : Room) s m #[(.ref o0), (.int p1), (.double d2)] below meth c T0 locs0 0 0) (e0 : T0.heap = h0) (N0 : Fr n0 locs0) :
    ∃ t o, Steps p.tables e below (T0.setTop (mkF m 24 #[vR o0, vI p1, vD d2, s_, vI (4 : Int32), vD d5, s_] [])) t ∧ t.status = .running ∧ Ended t below o ∧ ∃ v L, o = .returned v ∧ Q8_n4 Z o0 p1 d2 qd y0 y1 y2 y3 y4 y5 y6 y7 y8 y9 y10 y11 y12 y13 y14 y15 y16 y17 y18 y19 y20 y21 y22 y23 y24 y25 y26 y27 y28 y29 y30 y31 qj qc qg d5 qf z61 qk qde qfz qdC qcn qeF qdV h0 n0 v t.heap L ∧ FrameEnd s o t L ({ frames := 3, cells := 0, slots := 0, locals := 90 } : Room).cells ({ frames := 3, cells := 0, slots := 0, locals := 90 } : Room).slots := by
  have hx := Bd.exec
  have hby := Bd.bytes
  have hml : c.maxLocals = 7 := hml0
  have hown : s.vm.findClass MTc = some m.cls := findClass_of_methodNamed Bd.named
  have hnm := (name_of_methodNamed Bd.named Bd.method).1
  have c0 : ∀ t, Steps p.tables e below (T0.setTop (mkF m 24 #[vR o0, vI p1, vD d2, s_, vI (4 : Int32), vD d5, s_] [])) t → Steps p.tables e below (T0.setTop (mkF m 24 #[vR o0, vI p1, vD d2, s_, vI (4 : Int32), vD d5, s_] [])) t := fun _ k => k
  obtain ⟨T1, X1, e1, st1⟩ := getF X0 hx hZ hown (host := "") (Or.inl (hwi hw 19 rfl)) Via.refl e0 qn (g := (mkF m 31 #[vR o0, vI p1, vD d2, s_, vI (4 : Int32), vD d5, s_] [(.ref o0)])) rfl rfl (hb hby d8_31)
  obtain ⟨cl2, Ar2, -, S2, -, Ha2, -⟩ := id qm
  have in2 : ¬ ((8 : Int32) < 0 ∨ cl2.slots.size ≤ ((8 : Int32)).toNatClampNeg) := inb_of S2 ⟨by decide, by decide⟩
  obtain ⟨T3, X3, e3, st3⟩ := getF X1 hx hZ hown (host := "") (Or.inl (hwi hw 19 rfl)) Via.refl e1 qn (g := (mkF m 40 #[vR o0, vI p1, vD d2, s_, vI (4 : Int32), vD d5, s_] [(.ref o0), (.double y8)])) rfl rfl (hb hby d8_40)
  obtain ⟨cl4, Ar4, -, S4, -, Ha4, -⟩ := id qm
  have in4 : ¬ ((9 : Int32) < 0 ∨ cl4.slots.size ≤ ((9 : Int32)).toNatClampNeg) := inb_of S4 ⟨by decide, by decide⟩
  obtain ⟨_, _, ⟨T5, L5, k5, n5⟩, -, X5, ⟨Lc5, hQ5, ql5, qy5, qz5⟩, st5⟩ := Jvm.LawKit.callS X3 hx (y := (⟨MTc, "min", "(DD)D"⟩ : MethodName)) hown (mvT hZ (hwi hw 44 rfl)) (mvT hZ (hwi hw 45 rfl)) (mvT hZ (hwi hw 4 rfl)) (mvT hZ (hwi hw 46 rfl)) (by decide) (backOf (W := 0) (rm9w l Z a0 hw [] y8 y9 qf h0 n0 Z0 qez qe0 qe1) hZ (hwi hw 46 rfl) (hwi hw 4 rfl) (by decide) (by decide)) (g := (mkF m 50 #[vR o0, vI p1, vD d2, s_, vI (4 : Int32), vD d5, s_] [(.double y9), (.double y8)])) rfl (by rw [hml]; rfl) (argsL := [(.double y8), (.double y9)]) (rest := []) (lenOf pd_2 rfl) rfl (by show 2 * 0 + _ ≤ _; exact Nat.le_of_eq rfl) (hb hby d8_50) (fun _ _ => ⟨rfl, e3, (by decide : 0 + 0 ≤ _), (by decide : 0 + 0 ≤ _)⟩)
  dsimp only [Pt.U, Pt.locs, Pt.cells, Pt.slots] at X5 ql5 qy5 qz5 st5 hQ5
  subst ql5 qy5 qz5
  obtain ⟨rfl, N5q, e5⟩ := hQ5
  have N5 := Fr.app N0 N5q
  obtain ⟨T6, X6, e6, st6⟩ := getF X5 hx hZ hown (host := "") (Or.inl (hwi hw 51 rfl)) Via.refl e5 qr (g := (mkF m 57 #[vR o0, vI p1, vD d2, s_, vI (4 : Int32), vD qf, s_] [(.ref o0), (.ref o0)])) rfl rfl (hb hby d8_57)
  obtain ⟨T7, h7, X7, e7, W7, st7⟩ := putF X6 hx hZ hown (host := "") (Or.inl (hwi hw 51 rfl)) Via.refl e6 qr qbS (Or.inl (hwi hw 52 rfl)) (hwi hw 3 rfl) (ty := .long) (by decide) rfl rfl (g := (mkF m 62 #[vR o0, vI p1, vD d2, s_, vI (4 : Int32), vD qf, s_] [(.long z61), (.ref o0)])) rfl rfl (hb hby d8_62)
  have N7 := Fr.snoc X7 N5 qU
  have K8 : Keep h0 h7 [o0, qc] := (Keep.refl h0 [o0, qc]).wr W7 (Or.inl (by simp))
  have F7w := qr.same W7
  have f9 := (qn.other W7 (Or.inr (slot_ne (Or.inl (hwi hw 20 rfl)) (Or.inl (hwi hw 52 rfl)) (by decide) (t := (.array .double)) (t' := .long) (by decide) (by decide))))
  obtain ⟨T10, X10, e10, st10⟩ := getF X7 hx hZ hown (host := "") (Or.inl (hwi hw 19 rfl)) Via.refl e7 f9 (g := (mkF m 68 #[vR o0, vI p1, vD d2, s_, vI (4 : Int32), vD qf, s_] [(.ref o0), (.double qf)])) rfl rfl (hb hby d8_68)
  have f11 := (qm.other W7 (Ne.symm qe))
  obtain ⟨cl12, Ar12, -, S12, -, Ha12, -⟩ := id f11
  have in12 : ¬ ((4 : Int32) < 0 ∨ cl12.slots.size ≤ ((4 : Int32)).toNatClampNeg) := inb_of S12 ⟨by decide, by decide⟩
  obtain ⟨_, _, ⟨T13, L13, k13, n13⟩, -, X13, ⟨Lc13, hQ13, ql13, qy13, qz13⟩, st13⟩ := Jvm.LawKit.callS X10 hx (y := (⟨"java/lang/Double", "compare", "(DD)I"⟩ : MethodName)) hown (mvT hZ (hwi hw 53 rfl)) (mvT hZ (hwi hw 54 rfl)) (mvT hZ (hwi hw 49 rfl)) (mvT hZ (hwi hw 55 rfl)) (by decide) (backOf (W := 0) (rm11w l Z a0 hw [] qf y4 qk h7 n0 (Nat.le_trans Z0 (Keep.of_wr W7).1) qeA) hZ (hwi hw 55 rfl) (hwi hw 49 rfl) (by decide) (by decide)) (g := (mkF m 74 #[vR o0, vI p1, vD d2, s_, vI (4 : Int32), vD qf, s_] [(.double y4), (.double qf)])) rfl (by rw [hml]; rfl) (argsL := [(.double qf), (.double y4)]) (rest := []) (lenOf pd_5 rfl) rfl (by show 2 * 0 + _ ≤ _; exact Nat.le_of_eq rfl) (hb hby d8_74) (fun _ _ => ⟨rfl, e10, (by decide : 0 + 0 ≤ _), (by decide : 0 + 0 ≤ _)⟩)
  dsimp only [Pt.U, Pt.locs, Pt.cells, Pt.slots] at X13 ql13 qy13 qz13 st13 hQ13
  subst ql13 qy13 qz13
  obtain ⟨rfl, N13q, e13⟩ := hQ13
  have N13 := Fr.app N7 N13q
  have c14 : ∀ t, Steps p.tables e below (T13.setTop (mkF m 77 #[vR o0, vI p1, vD d2, s_, vI (4 : Int32), vD qf, s_] [(.int qk)])) t → Steps p.tables e below (T0.setTop (mkF m 24 #[vR o0, vI p1, vD d2, s_, vI (4 : Int32), vD d5, s_] [])) t := by
    intro t k
    refine c0 t ?_
    show Steps p.tables e below (T0.setTop (mkF m 24 #[vR o0, vI p1, vD d2, s_, vI (4 : Int32), vD d5, s_] [])) _
    refine XS.iload X0.here hx rfl (hb hby d8_24) rfl ?_
    refine XS.iconst X0.here hx rfl (hb hby d8_26) ?_
    refine XS.icmpNo X0.here hx rfl (hb hby d8_27) rfl (Jvm.Free.XT.ii_lt_f (by decide)) ?_
    refine XS.aloadN X0.here hx rfl (hb hby d8_30) rfl rfl ?_
    refine st1 _ ?_
    show Steps p.tables e below (T1.setTop (mkF m 34 #[vR o0, vI p1, vD d2, s_, vI (4 : Int32), vD d5, s_] [(.ref qc)])) _
    refine XS.iconst X1.here hx rfl (hb hby d8_34) ?_
    refine XS.iload X1.here hx rfl (hb hby d8_35) rfl ?_
    refine Jvm.OwnK.imul X1.here hx rfl (hb hby d8_37) rfl (v := (8 : Int32)) (by decide) ?_
    refine X1.daload hx (j := (8 : Int32)) (v := (.double y8)) (by rw [e1]; exact Ar2.1) (State.isArrayOf_alike hZ.alike Ar2.2.1) Ar2.2.2 in2 (Has.at Ha2 in2 rfl) (g := (mkF m 38 #[vR o0, vI p1, vD d2, s_, vI (4 : Int32), vD d5, s_] [(.int (8 : Int32)), (.ref qc)])) rfl rfl (hb hby d8_38) _ ?_
    refine XS.aloadN X1.here hx rfl (hb hby d8_39) rfl rfl ?_
    refine st3 _ ?_
    show Steps p.tables e below (T3.setTop (mkF m 43 #[vR o0, vI p1, vD d2, s_, vI (4 : Int32), vD d5, s_] [(.ref qc), (.double y8)])) _
    refine XS.iconst X3.here hx rfl (hb hby d8_43) ?_
    refine XS.iload X3.here hx rfl (hb hby d8_44) rfl ?_
    refine Jvm.OwnK.imul X3.here hx rfl (hb hby d8_46) rfl (v := (8 : Int32)) (by decide) ?_
    refine XS.iconst X3.here hx rfl (hb hby d8_47) ?_
    refine Jvm.OwnK.iadd X3.here hx rfl (hb hby d8_48) rfl (v := (9 : Int32)) (by decide) ?_
    refine X3.daload hx (j := (9 : Int32)) (v := (.double y9)) (by rw [e3]; exact Ar4.1) (State.isArrayOf_alike hZ.alike Ar4.2.1) Ar4.2.2 in4 (Has.at Ha4 in4 rfl) (g := (mkF m 49 #[vR o0, vI p1, vD d2, s_, vI (4 : Int32), vD d5, s_] [(.int (9 : Int32)), (.ref qc), (.double y8)])) rfl rfl (hb hby d8_49) _ ?_
    show Steps p.tables e below (T3.setTop (mkF m 50 #[vR o0, vI p1, vD d2, s_, vI (4 : Int32), vD d5, s_] [(.double y9), (.double y8)])) _
    refine st5 _ ?_
    show Steps p.tables e below (T5.setTop (mkF m 53 #[vR o0, vI p1, vD d2, s_, vI (4 : Int32), vD d5, s_] [(.double qf)])) _
    refine XS.dstore X5.here hx rfl (hb hby d8_53) rfl (l' := #[vR o0, vI p1, vD d2, s_, vI (4 : Int32), vD qf, s_]) rfl ?_
    refine XS.aloadN X5.here hx rfl (hb hby d8_55) rfl rfl ?_
    refine XS.dup X5.here hx rfl (hb hby d8_56) rfl rfl ?_
    refine st6 _ ?_
    show Steps p.tables e below (T6.setTop (mkF m 60 #[vR o0, vI p1, vD d2, s_, vI (4 : Int32), vD qf, s_] [(.long qg), (.ref o0)])) _
    refine XS.lconst X6.here hx rfl (hb hby d8_60) ?_
    refine Jvm.OwnK.ladd X6.here hx rfl (hb hby d8_61) rfl hz61 ?_
    refine st7 _ ?_
    show Steps p.tables e below (T7.setTop (mkF m 65 #[vR o0, vI p1, vD d2, s_, vI (4 : Int32), vD qf, s_] [])) _
    refine XS.dload X7.here hx rfl (hb hby d8_65) rfl ?_
    refine XS.aloadN X7.here hx rfl (hb hby d8_67) rfl rfl ?_
    refine st10 _ ?_
    show Steps p.tables e below (T10.setTop (mkF m 71 #[vR o0, vI p1, vD d2, s_, vI (4 : Int32), vD qf, s_] [(.ref qc), (.double qf)])) _
    refine XS.iload X10.here hx rfl (hb hby d8_71) rfl ?_
    refine X10.daload hx (j := (4 : Int32)) (v := (.double y4)) (by rw [e10]; exact Ar12.1) (State.isArrayOf_alike hZ.alike Ar12.2.1) Ar12.2.2 in12 (Has.at Ha12 in12 rfl) (g := (mkF m 73 #[vR o0, vI p1, vD d2, s_, vI (4 : Int32), vD qf, s_] [(.int (4 : Int32)), (.ref qc), (.double qf)])) rfl rfl (hb hby d8_73) _ ?_
    refine st13 _ ?_
    exact k
  by_cases hb77 : qk = (0 : Int32)
  · skip
    have c15 : ∀ t, Steps p.tables e below (T13.setTop (mkF m 101 #[vR o0, vI p1, vD d2, s_, vI (4 : Int32), vD qf, s_] [])) t → Steps p.tables e below (T0.setTop (mkF m 24 #[vR o0, vI p1, vD d2, s_, vI (4 : Int32), vD d5, s_] [])) t := by
      intro t k
      refine c14 t ?_
      show Steps p.tables e below (T13.setTop (mkF m 77 #[vR o0, vI p1, vD d2, s_, vI (4 : Int32), vD qf, s_] [(.int qk)])) _
      refine XS.ifNo X13.here hx rfl (hb hby d8_77) rfl (Jvm.Free.XT.i0_ne_f hb77) ?_
      refine XS.goto X13.here hx rfl (pc0 := 80) (pc' := 101) rfl (hb hby d8_80) (by decide) (by decide) ?_
      exact k
    obtain ⟨fs, hr, hrun, hended, hW, hsame⟩ := X13.leave (v := none) (fun _ => rfl)
    refine ⟨_, _, c15 _ ?_, hrun, hended, _, _, rfl, ?_, ⟨_, rfl⟩, hW, hsame.mono (by decide) (by decide)⟩
    · show Steps p.tables e below (T13.setTop (mkF m 101 #[vR o0, vI p1, vD d2, s_, vI (4 : Int32), vD qf, s_] [])) _
      exact X13.returnOut hx Bd.returns (hb hby d8_101) hr
    · show Q8_n4 Z o0 p1 d2 qd y0 y1 y2 y3 y4 y5 y6 y7 y8 y9 y10 y11 y12 y13 y14 y15 y16 y17 y18 y19 y20 y21 y22 y23 y24 y25 y26 y27 y28 y29 y30 y31 qj qc qg d5 qf z61 qk qde qfz qdC qcn qeF qdV h0 n0 _ T13.heap _
      rw [e13]
      exact ⟨z61, rfl, N13, K8, (Eq.mp (congrArg (fun l => Arv Z _ qc qd .double (32 : Int32) l (.double (0 : UInt64))) (show (t32 y0 y1 y2 y3 y4 y5 y6 y7 y8 y9 y10 y11 y12 y13 y14 y15 y16 y17 y18 y19 y20 y21 y22 y23 y24 y25 y26 y27 y28 y29 y30 y31) = (t32 y0 qcn qde y3 qf y5 y6 y7 y8 y9 y10 y11 y12 y13 y14 y15 y16 y17 y18 y19 y20 y21 y22 y23 y24 y25 y26 y27 y28 y29 y30 y31) by rw [eq0_1 hb77, eq0_2 hb77, eq0_4 hb77])) f11), (qi.other W7 (Or.inr (slot_ne (Or.inl (hwi hw 22 rfl)) (Or.inl (hwi hw 52 rfl)) (by decide) (t := .int) (t' := .long) (by decide) (by decide)))), (qo.other W7 (Or.inr (slot_ne (Or.inl (hwi hw 38 rfl)) (Or.inl (hwi hw 52 rfl)) (by decide) (t := .int) (t' := .long) (by decide) (by decide)))), f9, F7w, (qbS.wr W7)⟩
  · skip
    obtain ⟨T16, X16, e16, st16⟩ := getF X13 hx hZ hown (host := "") (Or.inl (hwi hw 19 rfl)) Via.refl e13 f9 (g := (mkF m 84 #[vR o0, vI p1, vD d2, s_, vI (4 : Int32), vD qf, s_] [(.ref o0)])) rfl rfl (hb hby d8_84)
    obtain ⟨cl17, Ar17, q17, S17, Nn17, Ha17, G17⟩ := id f11
    have in17 : ¬ ((4 : Int32) < 0 ∨ cl17.slots.size ≤ ((4 : Int32)).toNatClampNeg) := inb_of S17 ⟨by decide, by decide⟩
    obtain ⟨T18, h18, X18, e18, W18, st18⟩ := stD X16 hx hZ e16 Ar17 (j := (4 : Int32)) in17 (g := (mkF m 91 #[vR o0, vI p1, vD d2, s_, vI (4 : Int32), vD qf, s_] [(.double qf), (.int (4 : Int32)), (.ref qc)])) rfl rfl (hb hby d8_91)
    have N18 := Fr.snoc X18 N13 qp
    have K19 : Keep h0 h18 [o0, qc] := K8.wr W18 (Or.inl (by simp))
    have V18 : Arv Z h18 qc qd .double (32 : Int32) (t32 y0 y1 y2 y3 qf y5 y6 y7 y8 y9 y10 y11 y12 y13 y14 y15 y16 y17 y18 y19 y20 y21 y22 y23 y24 y25 y26 y27 y28 y29 y30 y31) (.double (0 : UInt64)) := Arv.set Ar17 q17 S17 Nn17 Ha17 G17 rfl W18 4 rfl (show (4 : Nat) < 32 by decide)
    have c20 : ∀ t, Steps p.tables e below (T18.setTop (mkF m 24 #[vR o0, vI p1, vD d2, s_, vI (2 : Int32), vD qf, s_] [])) t → Steps p.tables e below (T0.setTop (mkF m 24 #[vR o0, vI p1, vD d2, s_, vI (4 : Int32), vD d5, s_] [])) t := by
      intro t k
      refine c14 t ?_
      show Steps p.tables e below (T13.setTop (mkF m 77 #[vR o0, vI p1, vD d2, s_, vI (4 : Int32), vD qf, s_] [(.int qk)])) _
      refine XS.ifYes X13.here hx rfl (pc0 := 77) (pc' := 83) rfl (hb hby d8_77) rfl (Jvm.Free.XT.i0_ne_t hb77) (by decide) (by decide) ?_
      refine XS.aloadN X13.here hx rfl (hb hby d8_83) rfl rfl ?_
      refine st16 _ ?_
      show Steps p.tables e below (T16.setTop (mkF m 87 #[vR o0, vI p1, vD d2, s_, vI (4 : Int32), vD qf, s_] [(.ref qc)])) _
      refine XS.iload X16.here hx rfl (hb hby d8_87) rfl ?_
      refine XS.dload X16.here hx rfl (hb hby d8_89) rfl ?_
      refine st18 _ ?_
      show Steps p.tables e below (T18.setTop (mkF m 92 #[vR o0, vI p1, vD d2, s_, vI (4 : Int32), vD qf, s_] [])) _
      refine XS.iload X18.here hx rfl (hb hby d8_92) rfl ?_
      refine XS.iconst X18.here hx rfl (hb hby d8_94) ?_
      refine Jvm.OwnK.idiv X18.here hx rfl (hb hby d8_95) rfl (by decide) (v := (2 : Int32)) (by decide) ?_
      refine XS.istore X18.here hx rfl (hb hby d8_96) rfl (l' := #[vR o0, vI p1, vD d2, s_, vI (2 : Int32), vD qf, s_]) rfl ?_
      refine XS.goto X18.here hx rfl (pc0 := 98) (pc' := 24) rfl (hb hby d8_98) (by decide) (by decide) ?_
      exact k
    have f22 := ((qi.other W7 (Or.inr (slot_ne (Or.inl (hwi hw 22 rfl)) (Or.inl (hwi hw 52 rfl)) (by decide) (t := .int) (t' := .long) (by decide) (by decide)))).other W18 (Or.inl qe))
    have f23 := ((qo.other W7 (Or.inr (slot_ne (Or.inl (hwi hw 38 rfl)) (Or.inl (hwi hw 52 rfl)) (by decide) (t := .int) (t' := .long) (by decide) (by decide)))).other W18 (Or.inl qe))
    have f24 := (f9.other W18 (Or.inl qe))
    have f25 := (F7w.other W18 (Or.inl qe))
    have f26 := ((qbS.wr W7).wr W18)
    obtain ⟨T21, o21q, sq21, rq21, eq21, _, L21, ho21, ⟨qdJ, rfl, N21, K21q, Q21_0, Q21_1, Q21_2, Q21_3, Q21_4, Q21_5⟩, hF21⟩ := tl8_n2 l Z a0 hw ws o0 p1 d2 qd y0 y1 y2 y3 qf y5 y6 y7 y8 y9 y10 y11 y12 y13 y14 y15 y16 y17 y18 y19 y20 y21 y22 y23 y24 y25 y26 y27 y28 y29 y30 y31 qj qc z61 qf qde qfz qdC qcn qeF qdV h18 n0 (Nat.le_trans (Nat.le_trans Z0 (Keep.of_wr W7).1) (Keep.of_wr W18).1) V18 qe f22 f23 f24 f25 qp f26 qU qlF qn1 qlG qiV qlH qiW (qmB hb77) (qmC hb77) (qjL hb77) (qjM hb77) (qkP hb77) (qnA hb77) (qnB hb77) Bd hml0 hZ X18 e18 N18
    have K27 : Keep h0 T21.heap [o0, qc] := Keep.trans K19 K21q (allS (Or.inl (by simp)) (allS (Or.inl (by simp)) all0))
    exact ⟨T21, o21q, c20 _ sq21, rq21, eq21, _, L21, ho21, ⟨qdJ, rfl, N21, K27, Q21_0, Q21_1, Q21_2, Q21_3, Q21_4, Q21_5⟩, hF21⟩
def Q8_n5 (Z : State) (o0 : Addr) (p1 : Int32) (d2 : UInt64) (qd : ClassId) (y0 y1 y2 y3 y4 y5 y6 y7 y8 y9 y10 y11 y12 y13 y14 y15 y16 y17 y18 y19 y20 y21 y22 y23 y24 y25 y26 y27 y28 y29 y30 y31 : UInt64) (qj : Int32) (qc : Addr) (qg : Int64) (d5 : UInt64) (qf : UInt64) (z61 : Int64) (qk : Int32) (qde : UInt64) (qfz : Int64) (qdC : Int32) (qcn : UInt64) (qeF : Int64) (qdV : Int32) (h0 : Heap) (n0 : Nat) (v : Option Value) (h : Heap) (L : List Loc) : Prop := ∃ vx_visits_o0 : Int64, v = none ∧ Fr n0 L ∧ Keep h0 h [o0, qc] ∧ Arv Z h qc qd .double (32 : Int32) (t32 y0 qcn qde y3 y4 qf y6 y7 y8 y9 y10 y11 y12 y13 y14 y15 y16 y17 y18 y19 y20 y21 y22 y23 y24 y25 y26 y27 y28 y29 y30 y31) (.double (0 : UInt64)) ∧ Fld Z h o0 MTc "capacity" "I" (.int (16 : Int32)) ∧ Fld Z h o0 MTc "count" "I" (.int qj) ∧ Fld Z h o0 MTc "minima" "[D" (.ref qc) ∧ Fld Z h o0 MTc "visits" "J" (.long vx_visits_o0) ∧ Exa Z h o0 MTc
set_option maxRecDepth 65536 in
set_option maxHeartbeats 40000000 in
theorem tl8_n5 (l : Launch) (Z : State) (a0 : Array Value) (hw : ∀ d ∈ tables_1, d.before a0 Z = true) (ws : List Jvm.Cond) (o0 : Addr) (p1 : Int32) (d2 : UInt64) (qd : ClassId) (y0 y1 y2 y3 y4 y5 y6 y7 y8 y9 y10 y11 y12 y13 y14 y15 y16 y17 y18 y19 y20 y21 y22 y23 y24 y25 y26 y27 y28 y29 y30 y31 : UInt64) (qj : Int32) (qc : Addr) (qg : Int64) (d5 : UInt64) (qf : UInt64) (z61 : Int64) (qk : Int32) (qde : UInt64) (qfz : Int64) (qdC : Int32) (qcn : UInt64) (qeF : Int64) (qdV : Int32) (h0 : Heap) (n0 : Nat) (Z0 : n0 ≤ h0.size) (qm : Arv Z h0 qc qd .double (32 : Int32) (t32 y0 y1 y2 y3 y4 y5 y6 y7 y8 y9 y10 y11 y12 y13 y14 y15 y16 y17 y18 y19 y20 y21 y22 y23 y24 y25 y26 y27 y28 y29 y30 y31) (.double (0 : UInt64))) (qe : o0 ≠ qc) (qi : Fld Z h0 o0 MTc "capacity" "I" (.int (16 : Int32))) (qo : Fld Z h0 o0 MTc "count" "I" (.int qj)) (qn : Fld Z h0 o0 MTc "minima" "[D" (.ref qc)) (qr : Fld Z h0 o0 MTc "visits" "J" (.long qg)) (qp : n0 ≤ qc) (qbS : Exa Z h0 o0 MTc) (qU : n0 ≤ o0) (qez : mnf y10 y11 = qf) (hz61 : qg + (1 : Int64) = z61) (qeA : cmpf qf y5 = qk) (qlF : mnf y4 qf = qde) (qn1 : z61 + (1 : Int64) = qfz) (qlG : cmpf qde y2 = qdC) (qiV : mnf qde y3 = qcn) (qlH : qfz + (1 : Int64) = qeF) (qiW : cmpf qcn y1 = qdV) (qe0 : TV y10) (qe1 : TV y11) (qmB : (¬ qk = (0 : Int32)) → TV y4) (qmC : (¬ qk = (0 : Int32)) → TV qf) (qjL : (¬ qk = (0 : Int32)) → (¬ qdC = (0 : Int32)) → TV qde) (qjM : (¬ qk = (0 : Int32)) → (¬ qdC = (0 : Int32)) → TV y3) (qkP : (¬ qk = (0 : Int32)) → (¬ qdC = (0 : Int32)) → (qdV = (0 : Int32)) → y1 = qcn) (qnA : (¬ qk = (0 : Int32)) → (qdC = (0 : Int32)) → y1 = qcn) (qnB : (¬ qk = (0 : Int32)) → (qdC = (0 : Int32)) → y2 = qde) (eq0_1 : (qk = (0 : Int32)) → y1 = qcn) (eq0_2 : (qk = (0 : Int32)) → y2 = qde) (eq0_5 : (qk = (0 : Int32)) → y5 = qf) {p : Program} {e : Env} {s : State} {m : MethodId} {below : List Frame} {meth : Method} {c : Code} {s₁ T0 : State} {locs0 : List Loc} (Bd : BodyLoose p l (⟨MTc, "set", "(ID)V"⟩ : MethodName) (head1 (Jvm.Cond.code (⟨MTc, "set", "(ID)V"⟩ : MethodName) prog_28_method_3_code 7 none :: ws) ({ frames := 3, cells := 0, slots := 0, locals := 90 } : Room)) prog_28_method_3_code 7 none e s m #[(.ref o0), (.int p1), (.double d2)] below meth c s₁) (hml0 : c.maxLocals = 7) (hZ : Z.Warmed39 s.vm) (X0 : Stand p l e ({ frames := 3, cells := 0, slots := 0, locals := 90 } : Room) s m #[(.ref o0), (.int p1), (.double d2)] below meth c T0 locs0 0 0) (e0 : T0.heap = h0) (N0 : Fr n0 locs0) :
    ∃ t o, Steps p.tables e below (T0.setTop (mkF m 24 #[vR o0, vI p1, vD d2, s_, vI (5 : Int32), vD d5, s_] [])) t ∧ t.status = .running ∧ Ended t below o ∧ ∃ v L, o = .returned v ∧ Q8_n5 Z o0 p1 d2 qd y0 y1 y2 y3 y4 y5 y6 y7 y8 y9 y10 y11 y12 y13 y14 y15 y16 y17 y18 y19 y20 y21 y22 y23 y24 y25 y26 y27 y28 y29 y30 y31 qj qc qg d5 qf z61 qk qde qfz qdC qcn qeF qdV h0 n0 v t.heap L ∧ FrameEnd s o t L ({ frames := 3, cells := 0, slots := 0, locals := 90 } : Room).cells ({ frames := 3, cells := 0, slots := 0, locals := 90 } : Room).slots := by
  have hx := Bd.exec
  have hby := Bd.bytes
  have hml : c.maxLocals = 7 := hml0
  have hown : s.vm.findClass MTc = some m.cls := findClass_of_methodNamed Bd.named
  have hnm := (name_of_methodNamed Bd.named Bd.method).1
  have c0 : ∀ t, Steps p.tables e below (T0.setTop (mkF m 24 #[vR o0, vI p1, vD d2, s_, vI (5 : Int32), vD d5, s_] [])) t → Steps p.tables e below (T0.setTop (mkF m 24 #[vR o0, vI p1, vD d2, s_, vI (5 : Int32), vD d5, s_] [])) t := fun _ k => k
  obtain ⟨T1, X1, e1, st1⟩ := getF X0 hx hZ hown (host := "") (Or.inl (hwi hw 19 rfl)) Via.refl e0 qn (g := (mkF m 31 #[vR o0, vI p1, vD d2, s_, vI (5 : Int32), vD d5, s_] [(.ref o0)])) rfl rfl (hb hby d8_31)
  obtain ⟨cl2, Ar2, -, S2, -, Ha2, -⟩ := id qm
  have in2 : ¬ ((10 : Int32) < 0 ∨ cl2.slots.size ≤ ((10 : Int32)).toNatClampNeg) := inb_of S2 ⟨by decide, by decide⟩
  obtain ⟨T3, X3, e3, st3⟩ := getF X1 hx hZ hown (host := "") (Or.inl (hwi hw 19 rfl)) Via.refl e1 qn (g := (mkF m 40 #[vR o0, vI p1, vD d2, s_, vI (5 : Int32), vD d5, s_] [(.ref o0), (.double y10)])) rfl rfl (hb hby d8_40)
  obtain ⟨cl4, Ar4, -, S4, -, Ha4, -⟩ := id qm
  have in4 : ¬ ((11 : Int32) < 0 ∨ cl4.slots.size ≤ ((11 : Int32)).toNatClampNeg) := inb_of S4 ⟨by decide, by decide⟩
  obtain ⟨_, _, ⟨T5, L5, k5, n5⟩, -, X5, ⟨Lc5, hQ5, ql5, qy5, qz5⟩, st5⟩ := Jvm.LawKit.callS X3 hx (y := (⟨MTc, "min", "(DD)D"⟩ : MethodName)) hown (mvT hZ (hwi hw 44 rfl)) (mvT hZ (hwi hw 45 rfl)) (mvT hZ (hwi hw 4 rfl)) (mvT hZ (hwi hw 46 rfl)) (by decide) (backOf (W := 0) (rm9w l Z a0 hw [] y10 y11 qf h0 n0 Z0 qez qe0 qe1) hZ (hwi hw 46 rfl) (hwi hw 4 rfl) (by decide) (by decide)) (g := (mkF m 50 #[vR o0, vI p1, vD d2, s_, vI (5 : Int32), vD d5, s_] [(.double y11), (.double y10)])) rfl (by rw [hml]; rfl) (argsL := [(.double y10), (.double y11)]) (rest := []) (lenOf pd_2 rfl) rfl (by show 2 * 0 + _ ≤ _; exact Nat.le_of_eq rfl) (hb hby d8_50) (fun _ _ => ⟨rfl, e3, (by decide : 0 + 0 ≤ _), (by decide : 0 + 0 ≤ _)⟩)
  dsimp only [Pt.U, Pt.locs, Pt.cells, Pt.slots] at X5 ql5 qy5 qz5 st5 hQ5
  subst ql5 qy5 qz5
  obtain ⟨rfl, N5q, e5⟩ := hQ5
  have N5 := Fr.app N0 N5q
  obtain ⟨T6, X6, e6, st6⟩ := getF X5 hx hZ hown (host := "") (Or.inl (hwi hw 51 rfl)) Via.refl e5 qr (g := (mkF m 57 #[vR o0, vI p1, vD d2, s_, vI (5 : Int32), vD qf, s_] [(.ref o0), (.ref o0)])) rfl rfl (hb hby d8_57)
  obtain ⟨T7, h7, X7, e7, W7, st7⟩ := putF X6 hx hZ hown (host := "") (Or.inl (hwi hw 51 rfl)) Via.refl e6 qr qbS (Or.inl (hwi hw 52 rfl)) (hwi hw 3 rfl) (ty := .long) (by decide) rfl rfl (g := (mkF m 62 #[vR o0, vI p1, vD d2, s_, vI (5 : Int32), vD qf, s_] [(.long z61), (.ref o0)])) rfl rfl (hb hby d8_62)
  have N7 := Fr.snoc X7 N5 qU
  have K8 : Keep h0 h7 [o0, qc] := (Keep.refl h0 [o0, qc]).wr W7 (Or.inl (by simp))
  have F7w := qr.same W7
  have f9 := (qn.other W7 (Or.inr (slot_ne (Or.inl (hwi hw 20 rfl)) (Or.inl (hwi hw 52 rfl)) (by decide) (t := (.array .double)) (t' := .long) (by decide) (by decide))))
  obtain ⟨T10, X10, e10, st10⟩ := getF X7 hx hZ hown (host := "") (Or.inl (hwi hw 19 rfl)) Via.refl e7 f9 (g := (mkF m 68 #[vR o0, vI p1, vD d2, s_, vI (5 : Int32), vD qf, s_] [(.ref o0), (.double qf)])) rfl rfl (hb hby d8_68)
  have f11 := (qm.other W7 (Ne.symm qe))
  obtain ⟨cl12, Ar12, -, S12, -, Ha12, -⟩ := id f11
  have in12 : ¬ ((5 : Int32) < 0 ∨ cl12.slots.size ≤ ((5 : Int32)).toNatClampNeg) := inb_of S12 ⟨by decide, by decide⟩
  obtain ⟨_, _, ⟨T13, L13, k13, n13⟩, -, X13, ⟨Lc13, hQ13, ql13, qy13, qz13⟩, st13⟩ := Jvm.LawKit.callS X10 hx (y := (⟨"java/lang/Double", "compare", "(DD)I"⟩ : MethodName)) hown (mvT hZ (hwi hw 53 rfl)) (mvT hZ (hwi hw 54 rfl)) (mvT hZ (hwi hw 49 rfl)) (mvT hZ (hwi hw 55 rfl)) (by decide) (backOf (W := 0) (rm11w l Z a0 hw [] qf y5 qk h7 n0 (Nat.le_trans Z0 (Keep.of_wr W7).1) qeA) hZ (hwi hw 55 rfl) (hwi hw 49 rfl) (by decide) (by decide)) (g := (mkF m 74 #[vR o0, vI p1, vD d2, s_, vI (5 : Int32), vD qf, s_] [(.double y5), (.double qf)])) rfl (by rw [hml]; rfl) (argsL := [(.double qf), (.double y5)]) (rest := []) (lenOf pd_5 rfl) rfl (by show 2 * 0 + _ ≤ _; exact Nat.le_of_eq rfl) (hb hby d8_74) (fun _ _ => ⟨rfl, e10, (by decide : 0 + 0 ≤ _), (by decide : 0 + 0 ≤ _)⟩)
  dsimp only [Pt.U, Pt.locs, Pt.cells, Pt.slots] at X13 ql13 qy13 qz13 st13 hQ13
  subst ql13 qy13 qz13
  obtain ⟨rfl, N13q, e13⟩ := hQ13
  have N13 := Fr.app N7 N13q
  have c14 : ∀ t, Steps p.tables e below (T13.setTop (mkF m 77 #[vR o0, vI p1, vD d2, s_, vI (5 : Int32), vD qf, s_] [(.int qk)])) t → Steps p.tables e below (T0.setTop (mkF m 24 #[vR o0, vI p1, vD d2, s_, vI (5 : Int32), vD d5, s_] [])) t := by
    intro t k
    refine c0 t ?_
    show Steps p.tables e below (T0.setTop (mkF m 24 #[vR o0, vI p1, vD d2, s_, vI (5 : Int32), vD d5, s_] [])) _
    refine XS.iload X0.here hx rfl (hb hby d8_24) rfl ?_
    refine XS.iconst X0.here hx rfl (hb hby d8_26) ?_
    refine XS.icmpNo X0.here hx rfl (hb hby d8_27) rfl (Jvm.Free.XT.ii_lt_f (by decide)) ?_
    refine XS.aloadN X0.here hx rfl (hb hby d8_30) rfl rfl ?_
    refine st1 _ ?_
    show Steps p.tables e below (T1.setTop (mkF m 34 #[vR o0, vI p1, vD d2, s_, vI (5 : Int32), vD d5, s_] [(.ref qc)])) _
    refine XS.iconst X1.here hx rfl (hb hby d8_34) ?_
    refine XS.iload X1.here hx rfl (hb hby d8_35) rfl ?_
    refine Jvm.OwnK.imul X1.here hx rfl (hb hby d8_37) rfl (v := (10 : Int32)) (by decide) ?_
    refine X1.daload hx (j := (10 : Int32)) (v := (.double y10)) (by rw [e1]; exact Ar2.1) (State.isArrayOf_alike hZ.alike Ar2.2.1) Ar2.2.2 in2 (Has.at Ha2 in2 rfl) (g := (mkF m 38 #[vR o0, vI p1, vD d2, s_, vI (5 : Int32), vD d5, s_] [(.int (10 : Int32)), (.ref qc)])) rfl rfl (hb hby d8_38) _ ?_
    refine XS.aloadN X1.here hx rfl (hb hby d8_39) rfl rfl ?_
    refine st3 _ ?_
    show Steps p.tables e below (T3.setTop (mkF m 43 #[vR o0, vI p1, vD d2, s_, vI (5 : Int32), vD d5, s_] [(.ref qc), (.double y10)])) _
    refine XS.iconst X3.here hx rfl (hb hby d8_43) ?_
    refine XS.iload X3.here hx rfl (hb hby d8_44) rfl ?_
    refine Jvm.OwnK.imul X3.here hx rfl (hb hby d8_46) rfl (v := (10 : Int32)) (by decide) ?_
    refine XS.iconst X3.here hx rfl (hb hby d8_47) ?_
    refine Jvm.OwnK.iadd X3.here hx rfl (hb hby d8_48) rfl (v := (11 : Int32)) (by decide) ?_
    refine X3.daload hx (j := (11 : Int32)) (v := (.double y11)) (by rw [e3]; exact Ar4.1) (State.isArrayOf_alike hZ.alike Ar4.2.1) Ar4.2.2 in4 (Has.at Ha4 in4 rfl) (g := (mkF m 49 #[vR o0, vI p1, vD d2, s_, vI (5 : Int32), vD d5, s_] [(.int (11 : Int32)), (.ref qc), (.double y10)])) rfl rfl (hb hby d8_49) _ ?_
    show Steps p.tables e below (T3.setTop (mkF m 50 #[vR o0, vI p1, vD d2, s_, vI (5 : Int32), vD d5, s_] [(.double y11), (.double y10)])) _
    refine st5 _ ?_
    show Steps p.tables e below (T5.setTop (mkF m 53 #[vR o0, vI p1, vD d2, s_, vI (5 : Int32), vD d5, s_] [(.double qf)])) _
    refine XS.dstore X5.here hx rfl (hb hby d8_53) rfl (l' := #[vR o0, vI p1, vD d2, s_, vI (5 : Int32), vD qf, s_]) rfl ?_
    refine XS.aloadN X5.here hx rfl (hb hby d8_55) rfl rfl ?_
    refine XS.dup X5.here hx rfl (hb hby d8_56) rfl rfl ?_
    refine st6 _ ?_
    show Steps p.tables e below (T6.setTop (mkF m 60 #[vR o0, vI p1, vD d2, s_, vI (5 : Int32), vD qf, s_] [(.long qg), (.ref o0)])) _
    refine XS.lconst X6.here hx rfl (hb hby d8_60) ?_
    refine Jvm.OwnK.ladd X6.here hx rfl (hb hby d8_61) rfl hz61 ?_
    refine st7 _ ?_
    show Steps p.tables e below (T7.setTop (mkF m 65 #[vR o0, vI p1, vD d2, s_, vI (5 : Int32), vD qf, s_] [])) _
    refine XS.dload X7.here hx rfl (hb hby d8_65) rfl ?_
    refine XS.aloadN X7.here hx rfl (hb hby d8_67) rfl rfl ?_
    refine st10 _ ?_
    show Steps p.tables e below (T10.setTop (mkF m 71 #[vR o0, vI p1, vD d2, s_, vI (5 : Int32), vD qf, s_] [(.ref qc), (.double qf)])) _
    refine XS.iload X10.here hx rfl (hb hby d8_71) rfl ?_
    refine X10.daload hx (j := (5 : Int32)) (v := (.double y5)) (by rw [e10]; exact Ar12.1) (State.isArrayOf_alike hZ.alike Ar12.2.1) Ar12.2.2 in12 (Has.at Ha12 in12 rfl) (g := (mkF m 73 #[vR o0, vI p1, vD d2, s_, vI (5 : Int32), vD qf, s_] [(.int (5 : Int32)), (.ref qc), (.double qf)])) rfl rfl (hb hby d8_73) _ ?_
    refine st13 _ ?_
    exact k
  by_cases hb77 : qk = (0 : Int32)
  · skip
    have c15 : ∀ t, Steps p.tables e below (T13.setTop (mkF m 101 #[vR o0, vI p1, vD d2, s_, vI (5 : Int32), vD qf, s_] [])) t → Steps p.tables e below (T0.setTop (mkF m 24 #[vR o0, vI p1, vD d2, s_, vI (5 : Int32), vD d5, s_] [])) t := by
      intro t k
      refine c14 t ?_
      show Steps p.tables e below (T13.setTop (mkF m 77 #[vR o0, vI p1, vD d2, s_, vI (5 : Int32), vD qf, s_] [(.int qk)])) _
      refine XS.ifNo X13.here hx rfl (hb hby d8_77) rfl (Jvm.Free.XT.i0_ne_f hb77) ?_
      refine XS.goto X13.here hx rfl (pc0 := 80) (pc' := 101) rfl (hb hby d8_80) (by decide) (by decide) ?_
      exact k
    obtain ⟨fs, hr, hrun, hended, hW, hsame⟩ := X13.leave (v := none) (fun _ => rfl)
    refine ⟨_, _, c15 _ ?_, hrun, hended, _, _, rfl, ?_, ⟨_, rfl⟩, hW, hsame.mono (by decide) (by decide)⟩
    · show Steps p.tables e below (T13.setTop (mkF m 101 #[vR o0, vI p1, vD d2, s_, vI (5 : Int32), vD qf, s_] [])) _
      exact X13.returnOut hx Bd.returns (hb hby d8_101) hr
    · show Q8_n5 Z o0 p1 d2 qd y0 y1 y2 y3 y4 y5 y6 y7 y8 y9 y10 y11 y12 y13 y14 y15 y16 y17 y18 y19 y20 y21 y22 y23 y24 y25 y26 y27 y28 y29 y30 y31 qj qc qg d5 qf z61 qk qde qfz qdC qcn qeF qdV h0 n0 _ T13.heap _
      rw [e13]
      exact ⟨z61, rfl, N13, K8, (Eq.mp (congrArg (fun l => Arv Z _ qc qd .double (32 : Int32) l (.double (0 : UInt64))) (show (t32 y0 y1 y2 y3 y4 y5 y6 y7 y8 y9 y10 y11 y12 y13 y14 y15 y16 y17 y18 y19 y20 y21 y22 y23 y24 y25 y26 y27 y28 y29 y30 y31) = (t32 y0 qcn qde y3 y4 qf y6 y7 y8 y9 y10 y11 y12 y13 y14 y15 y16 y17 y18 y19 y20 y21 y22 y23 y24 y25 y26 y27 y28 y29 y30 y31) by rw [eq0_1 hb77, eq0_2 hb77, eq0_5 hb77])) f11), (qi.other W7 (Or.inr (slot_ne (Or.inl (hwi hw 22 rfl)) (Or.inl (hwi hw 52 rfl)) (by decide) (t := .int) (t' := .long) (by decide) (by decide)))), (qo.other W7 (Or.inr (slot_ne (Or.inl (hwi hw 38 rfl)) (Or.inl (hwi hw 52 rfl)) (by decide) (t := .int) (t' := .long) (by decide) (by decide)))), f9, F7w, (qbS.wr W7)⟩
  · skip
    obtain ⟨T16, X16, e16, st16⟩ := getF X13 hx hZ hown (host := "") (Or.inl (hwi hw 19 rfl)) Via.refl e13 f9 (g := (mkF m 84 #[vR o0, vI p1, vD d2, s_, vI (5 : Int32), vD qf, s_] [(.ref o0)])) rfl rfl (hb hby d8_84)
    obtain ⟨cl17, Ar17, q17, S17, Nn17, Ha17, G17⟩ := id f11
    have in17 : ¬ ((5 : Int32) < 0 ∨ cl17.slots.size ≤ ((5 : Int32)).toNatClampNeg) := inb_of S17 ⟨by decide, by decide⟩
    obtain ⟨T18, h18, X18, e18, W18, st18⟩ := stD X16 hx hZ e16 Ar17 (j := (5 : Int32)) in17 (g := (mkF m 91 #[vR o0, vI p1, vD d2, s_, vI (5 : Int32), vD qf, s_] [(.double qf), (.int (5 : Int32)), (.ref qc)])) rfl rfl (hb hby d8_91)
    have N18 := Fr.snoc X18 N13 qp
    have K19 : Keep h0 h18 [o0, qc] := K8.wr W18 (Or.inl (by simp))
    have V18 : Arv Z h18 qc qd .double (32 : Int32) (t32 y0 y1 y2 y3 y4 qf y6 y7 y8 y9 y10 y11 y12 y13 y14 y15 y16 y17 y18 y19 y20 y21 y22 y23 y24 y25 y26 y27 y28 y29 y30 y31) (.double (0 : UInt64)) := Arv.set Ar17 q17 S17 Nn17 Ha17 G17 rfl W18 5 rfl (show (5 : Nat) < 32 by decide)
    have c20 : ∀ t, Steps p.tables e below (T18.setTop (mkF m 24 #[vR o0, vI p1, vD d2, s_, vI (2 : Int32), vD qf, s_] [])) t → Steps p.tables e below (T0.setTop (mkF m 24 #[vR o0, vI p1, vD d2, s_, vI (5 : Int32), vD d5, s_] [])) t := by
      intro t k
      refine c14 t ?_
      show Steps p.tables e below (T13.setTop (mkF m 77 #[vR o0, vI p1, vD d2, s_, vI (5 : Int32), vD qf, s_] [(.int qk)])) _
      refine XS.ifYes X13.here hx rfl (pc0 := 77) (pc' := 83) rfl (hb hby d8_77) rfl (Jvm.Free.XT.i0_ne_t hb77) (by decide) (by decide) ?_
      refine XS.aloadN X13.here hx rfl (hb hby d8_83) rfl rfl ?_
      refine st16 _ ?_
      show Steps p.tables e below (T16.setTop (mkF m 87 #[vR o0, vI p1, vD d2, s_, vI (5 : Int32), vD qf, s_] [(.ref qc)])) _
      refine XS.iload X16.here hx rfl (hb hby d8_87) rfl ?_
      refine XS.dload X16.here hx rfl (hb hby d8_89) rfl ?_
      refine st18 _ ?_
      show Steps p.tables e below (T18.setTop (mkF m 92 #[vR o0, vI p1, vD d2, s_, vI (5 : Int32), vD qf, s_] [])) _
      refine XS.iload X18.here hx rfl (hb hby d8_92) rfl ?_
      refine XS.iconst X18.here hx rfl (hb hby d8_94) ?_
      refine Jvm.OwnK.idiv X18.here hx rfl (hb hby d8_95) rfl (by decide) (v := (2 : Int32)) (by decide) ?_
      refine XS.istore X18.here hx rfl (hb hby d8_96) rfl (l' := #[vR o0, vI p1, vD d2, s_, vI (2 : Int32), vD qf, s_]) rfl ?_
      refine XS.goto X18.here hx rfl (pc0 := 98) (pc' := 24) rfl (hb hby d8_98) (by decide) (by decide) ?_
      exact k
    have f22 := ((qi.other W7 (Or.inr (slot_ne (Or.inl (hwi hw 22 rfl)) (Or.inl (hwi hw 52 rfl)) (by decide) (t := .int) (t' := .long) (by decide) (by decide)))).other W18 (Or.inl qe))
    have f23 := ((qo.other W7 (Or.inr (slot_ne (Or.inl (hwi hw 38 rfl)) (Or.inl (hwi hw 52 rfl)) (by decide) (t := .int) (t' := .long) (by decide) (by decide)))).other W18 (Or.inl qe))
    have f24 := (f9.other W18 (Or.inl qe))
    have f25 := (F7w.other W18 (Or.inl qe))
    have f26 := ((qbS.wr W7).wr W18)
    obtain ⟨T21, o21q, sq21, rq21, eq21, _, L21, ho21, ⟨qdJ, rfl, N21, K21q, Q21_0, Q21_1, Q21_2, Q21_3, Q21_4, Q21_5⟩, hF21⟩ := tl8_n2 l Z a0 hw ws o0 p1 d2 qd y0 y1 y2 y3 y4 qf y6 y7 y8 y9 y10 y11 y12 y13 y14 y15 y16 y17 y18 y19 y20 y21 y22 y23 y24 y25 y26 y27 y28 y29 y30 y31 qj qc z61 qf qde qfz qdC qcn qeF qdV h18 n0 (Nat.le_trans (Nat.le_trans Z0 (Keep.of_wr W7).1) (Keep.of_wr W18).1) V18 qe f22 f23 f24 f25 qp f26 qU qlF qn1 qlG qiV qlH qiW (qmB hb77) (qmC hb77) (qjL hb77) (qjM hb77) (qkP hb77) (qnA hb77) (qnB hb77) Bd hml0 hZ X18 e18 N18
    have K27 : Keep h0 T21.heap [o0, qc] := Keep.trans K19 K21q (allS (Or.inl (by simp)) (allS (Or.inl (by simp)) all0))
    exact ⟨T21, o21q, c20 _ sq21, rq21, eq21, _, L21, ho21, ⟨qdJ, rfl, N21, K27, Q21_0, Q21_1, Q21_2, Q21_3, Q21_4, Q21_5⟩, hF21⟩
def Q8_n8 (Z : State) (o0 : Addr) (p1 : Int32) (d2 : UInt64) (qd : ClassId) (y0 y1 y2 y3 y4 y5 y6 y7 y8 y9 y10 y11 y12 y13 y14 y15 y16 y17 y18 y19 y20 y21 y22 y23 y24 y25 y26 y27 y28 y29 y30 y31 : UInt64) (qj : Int32) (qc : Addr) (qg : Int64) (qf : UInt64) (z61 : Int64) (qk : Int32) (qdf : UInt64) (qfA : Int64) (qco : Int32) (qbM : UInt64) (qeh : Int64) (qcE : Int32) (qbm : UInt64) (qea : Int64) (qdw : Int32) (h0 : Heap) (n0 : Nat) (v : Option Value) (h : Heap) (L : List Loc) : Prop := ∃ vx_visits_o0 : Int64, v = none ∧ Fr n0 L ∧ Keep h0 h [o0, qc] ∧ Arv Z h qc qd .double (32 : Int32) (t32 y0 qbm qbM y3 qdf y5 y6 y7 qf y9 y10 y11 y12 y13 y14 y15 y16 y17 y18 y19 y20 y21 y22 y23 y24 y25 y26 y27 y28 y29 y30 y31) (.double (0 : UInt64)) ∧ Fld Z h o0 MTc "capacity" "I" (.int (16 : Int32)) ∧ Fld Z h o0 MTc "count" "I" (.int qj) ∧ Fld Z h o0 MTc "minima" "[D" (.ref qc) ∧ Fld Z h o0 MTc "visits" "J" (.long vx_visits_o0) ∧ Exa Z h o0 MTc
set_option maxRecDepth 65536 in
set_option maxHeartbeats 40000000 in
theorem tl8_n8 (l : Launch) (Z : State) (a0 : Array Value) (hw : ∀ d ∈ tables_1, d.before a0 Z = true) (ws : List Jvm.Cond) (o0 : Addr) (p1 : Int32) (d2 : UInt64) (qd : ClassId) (y0 y1 y2 y3 y4 y5 y6 y7 y8 y9 y10 y11 y12 y13 y14 y15 y16 y17 y18 y19 y20 y21 y22 y23 y24 y25 y26 y27 y28 y29 y30 y31 : UInt64) (qj : Int32) (qc : Addr) (qg : Int64) (qf : UInt64) (z61 : Int64) (qk : Int32) (qdf : UInt64) (qfA : Int64) (qco : Int32) (qbM : UInt64) (qeh : Int64) (qcE : Int32) (qbm : UInt64) (qea : Int64) (qdw : Int32) (h0 : Heap) (n0 : Nat) (Z0 : n0 ≤ h0.size) (qm : Arv Z h0 qc qd .double (32 : Int32) (t32 y0 y1 y2 y3 y4 y5 y6 y7 y8 y9 y10 y11 y12 y13 y14 y15 y16 y17 y18 y19 y20 y21 y22 y23 y24 y25 y26 y27 y28 y29 y30 y31) (.double (0 : UInt64))) (qe : o0 ≠ qc) (qi : Fld Z h0 o0 MTc "capacity" "I" (.int (16 : Int32))) (qo : Fld Z h0 o0 MTc "count" "I" (.int qj)) (qn : Fld Z h0 o0 MTc "minima" "[D" (.ref qc)) (qr : Fld Z h0 o0 MTc "visits" "J" (.long qg)) (qp : n0 ≤ qc) (qbS : Exa Z h0 o0 MTc) (qU : n0 ≤ o0) (qez : mnf y16 y17 = qf) (hz61 : qg + (1 : Int64) = z61) (qeA : cmpf qf y8 = qk) (qlI : mnf qf y9 = qdf) (qn2 : z61 + (1 : Int64) = qfA) (qlJ : cmpf qdf y4 = qco) (qiX : mnf qdf y5 = qbM) (qlK : qfA + (1 : Int64) = qeh) (qiY : cmpf qbM y2 = qcE) (qg9 : mnf qbM y3 = qbm) (qiZ : qeh + (1 : Int64) = qea) (qha : cmpf qbm y1 = qdw) (qe0 : TV y16) (qe1 : TV y17) (qmD : (¬ qk = (0 : Int32)) → TV qf) (qmE : (¬ qk = (0 : Int32)) → TV y9) (qjN : (¬ qk = (0 : Int32)) → (¬ qco = (0 : Int32)) → TV qdf) (qjO : (¬ qk = (0 : Int32)) → (¬ qco = (0 : Int32)) → TV y5) (qhE : (¬ qk = (0 : Int32)) → (¬ qco = (0 : Int32)) → (¬ qcE = (0 : Int32)) → TV qbM) (qhF : (¬ qk = (0 : Int32)) → (¬ qco = (0 : Int32)) → (¬ qcE = (0 : Int32)) → TV y3) (qh7 : (¬ qk = (0 : Int32)) → (¬ qco = (0 : Int32)) → (¬ qcE = (0 : Int32)) → (qdw = (0 : Int32)) → y1 = qbm) (qkQ : (¬ qk = (0 : Int32)) → (¬ qco = (0 : Int32)) → (qcE = (0 : Int32)) → y1 = qbm) (qkR : (¬ qk = (0 : Int32)) → (¬ qco = (0 : Int32)) → (qcE = (0 : Int32)) → y2 = qbM) (qnC : (¬ qk = (0 : Int32)) → (qco = (0 : Int32)) → y1 = qbm) (qnD : (¬ qk = (0 : Int32)) → (qco = (0 : Int32)) → y2 = qbM) (qnE : (¬ qk = (0 : Int32)) → (qco = (0 : Int32)) → y4 = qdf) (eq0_1 : (qk = (0 : Int32)) → y1 = qbm) (eq0_2 : (qk = (0 : Int32)) → y2 = qbM) (eq0_4 : (qk = (0 : Int32)) → y4 = qdf) (eq0_8 : (qk = (0 : Int32)) → y8 = qf) {p : Program} {e : Env} {s : State} {m : MethodId} {below : List Frame} {meth : Method} {c : Code} {s₁ T0 : State} {locs0 : List Loc} (Bd : BodyLoose p l (⟨MTc, "set", "(ID)V"⟩ : MethodName) (head1 (Jvm.Cond.code (⟨MTc, "set", "(ID)V"⟩ : MethodName) prog_28_method_3_code 7 none :: ws) ({ frames := 3, cells := 0, slots := 0, locals := 90 } : Room)) prog_28_method_3_code 7 none e s m #[(.ref o0), (.int p1), (.double d2)] below meth c s₁) (hml0 : c.maxLocals = 7) (hZ : Z.Warmed39 s.vm) (X0 : Stand p l e ({ frames := 3, cells := 0, slots := 0, locals := 90 } : Room) s m #[(.ref o0), (.int p1), (.double d2)] below meth c T0 locs0 0 0) (e0 : T0.heap = h0) (N0 : Fr n0 locs0) :
    ∃ t o, Steps p.tables e below (T0.setTop (mkF m 24 #[vR o0, vI p1, vD d2, s_, vI (8 : Int32), u_, u_] [])) t ∧ t.status = .running ∧ Ended t below o ∧ ∃ v L, o = .returned v ∧ Q8_n8 Z o0 p1 d2 qd y0 y1 y2 y3 y4 y5 y6 y7 y8 y9 y10 y11 y12 y13 y14 y15 y16 y17 y18 y19 y20 y21 y22 y23 y24 y25 y26 y27 y28 y29 y30 y31 qj qc qg qf z61 qk qdf qfA qco qbM qeh qcE qbm qea qdw h0 n0 v t.heap L ∧ FrameEnd s o t L ({ frames := 3, cells := 0, slots := 0, locals := 90 } : Room).cells ({ frames := 3, cells := 0, slots := 0, locals := 90 } : Room).slots := by
  have hx := Bd.exec
  have hby := Bd.bytes
  have hml : c.maxLocals = 7 := hml0
  have hown : s.vm.findClass MTc = some m.cls := findClass_of_methodNamed Bd.named
  have hnm := (name_of_methodNamed Bd.named Bd.method).1
  have c0 : ∀ t, Steps p.tables e below (T0.setTop (mkF m 24 #[vR o0, vI p1, vD d2, s_, vI (8 : Int32), u_, u_] [])) t → Steps p.tables e below (T0.setTop (mkF m 24 #[vR o0, vI p1, vD d2, s_, vI (8 : Int32), u_, u_] [])) t := fun _ k => k
  obtain ⟨T1, X1, e1, st1⟩ := getF X0 hx hZ hown (host := "") (Or.inl (hwi hw 19 rfl)) Via.refl e0 qn (g := (mkF m 31 #[vR o0, vI p1, vD d2, s_, vI (8 : Int32), u_, u_] [(.ref o0)])) rfl rfl (hb hby d8_31)
  obtain ⟨cl2, Ar2, -, S2, -, Ha2, -⟩ := id qm
  have in2 : ¬ ((16 : Int32) < 0 ∨ cl2.slots.size ≤ ((16 : Int32)).toNatClampNeg) := inb_of S2 ⟨by decide, by decide⟩
  obtain ⟨T3, X3, e3, st3⟩ := getF X1 hx hZ hown (host := "") (Or.inl (hwi hw 19 rfl)) Via.refl e1 qn (g := (mkF m 40 #[vR o0, vI p1, vD d2, s_, vI (8 : Int32), u_, u_] [(.ref o0), (.double y16)])) rfl rfl (hb hby d8_40)
  obtain ⟨cl4, Ar4, -, S4, -, Ha4, -⟩ := id qm
  have in4 : ¬ ((17 : Int32) < 0 ∨ cl4.slots.size ≤ ((17 : Int32)).toNatClampNeg) := inb_of S4 ⟨by decide, by decide⟩
  obtain ⟨_, _, ⟨T5, L5, k5, n5⟩, -, X5, ⟨Lc5, hQ5, ql5, qy5, qz5⟩, st5⟩ := Jvm.LawKit.callS X3 hx (y := (⟨MTc, "min", "(DD)D"⟩ : MethodName)) hown (mvT hZ (hwi hw 44 rfl)) (mvT hZ (hwi hw 45 rfl)) (mvT hZ (hwi hw 4 rfl)) (mvT hZ (hwi hw 46 rfl)) (by decide) (backOf (W := 0) (rm9w l Z a0 hw [] y16 y17 qf h0 n0 Z0 qez qe0 qe1) hZ (hwi hw 46 rfl) (hwi hw 4 rfl) (by decide) (by decide)) (g := (mkF m 50 #[vR o0, vI p1, vD d2, s_, vI (8 : Int32), u_, u_] [(.double y17), (.double y16)])) rfl (by rw [hml]; rfl) (argsL := [(.double y16), (.double y17)]) (rest := []) (lenOf pd_2 rfl) rfl (by show 2 * 0 + _ ≤ _; exact Nat.le_of_eq rfl) (hb hby d8_50) (fun _ _ => ⟨rfl, e3, (by decide : 0 + 0 ≤ _), (by decide : 0 + 0 ≤ _)⟩)
  dsimp only [Pt.U, Pt.locs, Pt.cells, Pt.slots] at X5 ql5 qy5 qz5 st5 hQ5
  subst ql5 qy5 qz5
  obtain ⟨rfl, N5q, e5⟩ := hQ5
  have N5 := Fr.app N0 N5q
  obtain ⟨T6, X6, e6, st6⟩ := getF X5 hx hZ hown (host := "") (Or.inl (hwi hw 51 rfl)) Via.refl e5 qr (g := (mkF m 57 #[vR o0, vI p1, vD d2, s_, vI (8 : Int32), vD qf, s_] [(.ref o0), (.ref o0)])) rfl rfl (hb hby d8_57)
  obtain ⟨T7, h7, X7, e7, W7, st7⟩ := putF X6 hx hZ hown (host := "") (Or.inl (hwi hw 51 rfl)) Via.refl e6 qr qbS (Or.inl (hwi hw 52 rfl)) (hwi hw 3 rfl) (ty := .long) (by decide) rfl rfl (g := (mkF m 62 #[vR o0, vI p1, vD d2, s_, vI (8 : Int32), vD qf, s_] [(.long z61), (.ref o0)])) rfl rfl (hb hby d8_62)
  have N7 := Fr.snoc X7 N5 qU
  have K8 : Keep h0 h7 [o0, qc] := (Keep.refl h0 [o0, qc]).wr W7 (Or.inl (by simp))
  have F7w := qr.same W7
  have f9 := (qn.other W7 (Or.inr (slot_ne (Or.inl (hwi hw 20 rfl)) (Or.inl (hwi hw 52 rfl)) (by decide) (t := (.array .double)) (t' := .long) (by decide) (by decide))))
  obtain ⟨T10, X10, e10, st10⟩ := getF X7 hx hZ hown (host := "") (Or.inl (hwi hw 19 rfl)) Via.refl e7 f9 (g := (mkF m 68 #[vR o0, vI p1, vD d2, s_, vI (8 : Int32), vD qf, s_] [(.ref o0), (.double qf)])) rfl rfl (hb hby d8_68)
  have f11 := (qm.other W7 (Ne.symm qe))
  obtain ⟨cl12, Ar12, -, S12, -, Ha12, -⟩ := id f11
  have in12 : ¬ ((8 : Int32) < 0 ∨ cl12.slots.size ≤ ((8 : Int32)).toNatClampNeg) := inb_of S12 ⟨by decide, by decide⟩
  obtain ⟨_, _, ⟨T13, L13, k13, n13⟩, -, X13, ⟨Lc13, hQ13, ql13, qy13, qz13⟩, st13⟩ := Jvm.LawKit.callS X10 hx (y := (⟨"java/lang/Double", "compare", "(DD)I"⟩ : MethodName)) hown (mvT hZ (hwi hw 53 rfl)) (mvT hZ (hwi hw 54 rfl)) (mvT hZ (hwi hw 49 rfl)) (mvT hZ (hwi hw 55 rfl)) (by decide) (backOf (W := 0) (rm11w l Z a0 hw [] qf y8 qk h7 n0 (Nat.le_trans Z0 (Keep.of_wr W7).1) qeA) hZ (hwi hw 55 rfl) (hwi hw 49 rfl) (by decide) (by decide)) (g := (mkF m 74 #[vR o0, vI p1, vD d2, s_, vI (8 : Int32), vD qf, s_] [(.double y8), (.double qf)])) rfl (by rw [hml]; rfl) (argsL := [(.double qf), (.double y8)]) (rest := []) (lenOf pd_5 rfl) rfl (by show 2 * 0 + _ ≤ _; exact Nat.le_of_eq rfl) (hb hby d8_74) (fun _ _ => ⟨rfl, e10, (by decide : 0 + 0 ≤ _), (by decide : 0 + 0 ≤ _)⟩)
  dsimp only [Pt.U, Pt.locs, Pt.cells, Pt.slots] at X13 ql13 qy13 qz13 st13 hQ13
  subst ql13 qy13 qz13
  obtain ⟨rfl, N13q, e13⟩ := hQ13
  have N13 := Fr.app N7 N13q
  have c14 : ∀ t, Steps p.tables e below (T13.setTop (mkF m 77 #[vR o0, vI p1, vD d2, s_, vI (8 : Int32), vD qf, s_] [(.int qk)])) t → Steps p.tables e below (T0.setTop (mkF m 24 #[vR o0, vI p1, vD d2, s_, vI (8 : Int32), u_, u_] [])) t := by
    intro t k
    refine c0 t ?_
    show Steps p.tables e below (T0.setTop (mkF m 24 #[vR o0, vI p1, vD d2, s_, vI (8 : Int32), u_, u_] [])) _
    refine XS.iload X0.here hx rfl (hb hby d8_24) rfl ?_
    refine XS.iconst X0.here hx rfl (hb hby d8_26) ?_
    refine XS.icmpNo X0.here hx rfl (hb hby d8_27) rfl (Jvm.Free.XT.ii_lt_f (by decide)) ?_
    refine XS.aloadN X0.here hx rfl (hb hby d8_30) rfl rfl ?_
    refine st1 _ ?_
    show Steps p.tables e below (T1.setTop (mkF m 34 #[vR o0, vI p1, vD d2, s_, vI (8 : Int32), u_, u_] [(.ref qc)])) _
    refine XS.iconst X1.here hx rfl (hb hby d8_34) ?_
    refine XS.iload X1.here hx rfl (hb hby d8_35) rfl ?_
    refine Jvm.OwnK.imul X1.here hx rfl (hb hby d8_37) rfl (v := (16 : Int32)) (by decide) ?_
    refine X1.daload hx (j := (16 : Int32)) (v := (.double y16)) (by rw [e1]; exact Ar2.1) (State.isArrayOf_alike hZ.alike Ar2.2.1) Ar2.2.2 in2 (Has.at Ha2 in2 rfl) (g := (mkF m 38 #[vR o0, vI p1, vD d2, s_, vI (8 : Int32), u_, u_] [(.int (16 : Int32)), (.ref qc)])) rfl rfl (hb hby d8_38) _ ?_
    refine XS.aloadN X1.here hx rfl (hb hby d8_39) rfl rfl ?_
    refine st3 _ ?_
    show Steps p.tables e below (T3.setTop (mkF m 43 #[vR o0, vI p1, vD d2, s_, vI (8 : Int32), u_, u_] [(.ref qc), (.double y16)])) _
    refine XS.iconst X3.here hx rfl (hb hby d8_43) ?_
    refine XS.iload X3.here hx rfl (hb hby d8_44) rfl ?_
    refine Jvm.OwnK.imul X3.here hx rfl (hb hby d8_46) rfl (v := (16 : Int32)) (by decide) ?_
    refine XS.iconst X3.here hx rfl (hb hby d8_47) ?_
    refine Jvm.OwnK.iadd X3.here hx rfl (hb hby d8_48) rfl (v := (17 : Int32)) (by decide) ?_
    refine X3.daload hx (j := (17 : Int32)) (v := (.double y17)) (by rw [e3]; exact Ar4.1) (State.isArrayOf_alike hZ.alike Ar4.2.1) Ar4.2.2 in4 (Has.at Ha4 in4 rfl) (g := (mkF m 49 #[vR o0, vI p1, vD d2, s_, vI (8 : Int32), u_, u_] [(.int (17 : Int32)), (.ref qc), (.double y16)])) rfl rfl (hb hby d8_49) _ ?_
    show Steps p.tables e below (T3.setTop (mkF m 50 #[vR o0, vI p1, vD d2, s_, vI (8 : Int32), u_, u_] [(.double y17), (.double y16)])) _
    refine st5 _ ?_
    show Steps p.tables e below (T5.setTop (mkF m 53 #[vR o0, vI p1, vD d2, s_, vI (8 : Int32), u_, u_] [(.double qf)])) _
    refine XS.dstore X5.here hx rfl (hb hby d8_53) rfl (l' := #[vR o0, vI p1, vD d2, s_, vI (8 : Int32), vD qf, s_]) rfl ?_
    refine XS.aloadN X5.here hx rfl (hb hby d8_55) rfl rfl ?_
    refine XS.dup X5.here hx rfl (hb hby d8_56) rfl rfl ?_
    refine st6 _ ?_
    show Steps p.tables e below (T6.setTop (mkF m 60 #[vR o0, vI p1, vD d2, s_, vI (8 : Int32), vD qf, s_] [(.long qg), (.ref o0)])) _
    refine XS.lconst X6.here hx rfl (hb hby d8_60) ?_
    refine Jvm.OwnK.ladd X6.here hx rfl (hb hby d8_61) rfl hz61 ?_
    refine st7 _ ?_
    show Steps p.tables e below (T7.setTop (mkF m 65 #[vR o0, vI p1, vD d2, s_, vI (8 : Int32), vD qf, s_] [])) _
    refine XS.dload X7.here hx rfl (hb hby d8_65) rfl ?_
    refine XS.aloadN X7.here hx rfl (hb hby d8_67) rfl rfl ?_
    refine st10 _ ?_
    show Steps p.tables e below (T10.setTop (mkF m 71 #[vR o0, vI p1, vD d2, s_, vI (8 : Int32), vD qf, s_] [(.ref qc), (.double qf)])) _
    refine XS.iload X10.here hx rfl (hb hby d8_71) rfl ?_
    refine X10.daload hx (j := (8 : Int32)) (v := (.double y8)) (by rw [e10]; exact Ar12.1) (State.isArrayOf_alike hZ.alike Ar12.2.1) Ar12.2.2 in12 (Has.at Ha12 in12 rfl) (g := (mkF m 73 #[vR o0, vI p1, vD d2, s_, vI (8 : Int32), vD qf, s_] [(.int (8 : Int32)), (.ref qc), (.double qf)])) rfl rfl (hb hby d8_73) _ ?_
    refine st13 _ ?_
    exact k
  by_cases hb77 : qk = (0 : Int32)
  · skip
    have c15 : ∀ t, Steps p.tables e below (T13.setTop (mkF m 101 #[vR o0, vI p1, vD d2, s_, vI (8 : Int32), vD qf, s_] [])) t → Steps p.tables e below (T0.setTop (mkF m 24 #[vR o0, vI p1, vD d2, s_, vI (8 : Int32), u_, u_] [])) t := by
      intro t k
      refine c14 t ?_
      show Steps p.tables e below (T13.setTop (mkF m 77 #[vR o0, vI p1, vD d2, s_, vI (8 : Int32), vD qf, s_] [(.int qk)])) _
      refine XS.ifNo X13.here hx rfl (hb hby d8_77) rfl (Jvm.Free.XT.i0_ne_f hb77) ?_
      refine XS.goto X13.here hx rfl (pc0 := 80) (pc' := 101) rfl (hb hby d8_80) (by decide) (by decide) ?_
      exact k
    obtain ⟨fs, hr, hrun, hended, hW, hsame⟩ := X13.leave (v := none) (fun _ => rfl)
    refine ⟨_, _, c15 _ ?_, hrun, hended, _, _, rfl, ?_, ⟨_, rfl⟩, hW, hsame.mono (by decide) (by decide)⟩
    · show Steps p.tables e below (T13.setTop (mkF m 101 #[vR o0, vI p1, vD d2, s_, vI (8 : Int32), vD qf, s_] [])) _
      exact X13.returnOut hx Bd.returns (hb hby d8_101) hr
    · show Q8_n8 Z o0 p1 d2 qd y0 y1 y2 y3 y4 y5 y6 y7 y8 y9 y10 y11 y12 y13 y14 y15 y16 y17 y18 y19 y20 y21 y22 y23 y24 y25 y26 y27 y28 y29 y30 y31 qj qc qg qf z61 qk qdf qfA qco qbM qeh qcE qbm qea qdw h0 n0 _ T13.heap _
      rw [e13]
      exact ⟨z61, rfl, N13, K8, (Eq.mp (congrArg (fun l => Arv Z _ qc qd .double (32 : Int32) l (.double (0 : UInt64))) (show (t32 y0 y1 y2 y3 y4 y5 y6 y7 y8 y9 y10 y11 y12 y13 y14 y15 y16 y17 y18 y19 y20 y21 y22 y23 y24 y25 y26 y27 y28 y29 y30 y31) = (t32 y0 qbm qbM y3 qdf y5 y6 y7 qf y9 y10 y11 y12 y13 y14 y15 y16 y17 y18 y19 y20 y21 y22 y23 y24 y25 y26 y27 y28 y29 y30 y31) by rw [eq0_1 hb77, eq0_2 hb77, eq0_4 hb77, eq0_8 hb77])) f11), (qi.other W7 (Or.inr (slot_ne (Or.inl (hwi hw 22 rfl)) (Or.inl (hwi hw 52 rfl)) (by decide) (t := .int) (t' := .long) (by decide) (by decide)))), (qo.other W7 (Or.inr (slot_ne (Or.inl (hwi hw 38 rfl)) (Or.inl (hwi hw 52 rfl)) (by decide) (t := .int) (t' := .long) (by decide) (by decide)))), f9, F7w, (qbS.wr W7)⟩
  · skip
    obtain ⟨T16, X16, e16, st16⟩ := getF X13 hx hZ hown (host := "") (Or.inl (hwi hw 19 rfl)) Via.refl e13 f9 (g := (mkF m 84 #[vR o0, vI p1, vD d2, s_, vI (8 : Int32), vD qf, s_] [(.ref o0)])) rfl rfl (hb hby d8_84)
    obtain ⟨cl17, Ar17, q17, S17, Nn17, Ha17, G17⟩ := id f11
    have in17 : ¬ ((8 : Int32) < 0 ∨ cl17.slots.size ≤ ((8 : Int32)).toNatClampNeg) := inb_of S17 ⟨by decide, by decide⟩
    obtain ⟨T18, h18, X18, e18, W18, st18⟩ := stD X16 hx hZ e16 Ar17 (j := (8 : Int32)) in17 (g := (mkF m 91 #[vR o0, vI p1, vD d2, s_, vI (8 : Int32), vD qf, s_] [(.double qf), (.int (8 : Int32)), (.ref qc)])) rfl rfl (hb hby d8_91)
    have N18 := Fr.snoc X18 N13 qp
    have K19 : Keep h0 h18 [o0, qc] := K8.wr W18 (Or.inl (by simp))
    have V18 : Arv Z h18 qc qd .double (32 : Int32) (t32 y0 y1 y2 y3 y4 y5 y6 y7 qf y9 y10 y11 y12 y13 y14 y15 y16 y17 y18 y19 y20 y21 y22 y23 y24 y25 y26 y27 y28 y29 y30 y31) (.double (0 : UInt64)) := Arv.set Ar17 q17 S17 Nn17 Ha17 G17 rfl W18 8 rfl (show (8 : Nat) < 32 by decide)
    have c20 : ∀ t, Steps p.tables e below (T18.setTop (mkF m 24 #[vR o0, vI p1, vD d2, s_, vI (4 : Int32), vD qf, s_] [])) t → Steps p.tables e below (T0.setTop (mkF m 24 #[vR o0, vI p1, vD d2, s_, vI (8 : Int32), u_, u_] [])) t := by
      intro t k
      refine c14 t ?_
      show Steps p.tables e below (T13.setTop (mkF m 77 #[vR o0, vI p1, vD d2, s_, vI (8 : Int32), vD qf, s_] [(.int qk)])) _
      refine XS.ifYes X13.here hx rfl (pc0 := 77) (pc' := 83) rfl (hb hby d8_77) rfl (Jvm.Free.XT.i0_ne_t hb77) (by decide) (by decide) ?_
      refine XS.aloadN X13.here hx rfl (hb hby d8_83) rfl rfl ?_
      refine st16 _ ?_
      show Steps p.tables e below (T16.setTop (mkF m 87 #[vR o0, vI p1, vD d2, s_, vI (8 : Int32), vD qf, s_] [(.ref qc)])) _
      refine XS.iload X16.here hx rfl (hb hby d8_87) rfl ?_
      refine XS.dload X16.here hx rfl (hb hby d8_89) rfl ?_
      refine st18 _ ?_
      show Steps p.tables e below (T18.setTop (mkF m 92 #[vR o0, vI p1, vD d2, s_, vI (8 : Int32), vD qf, s_] [])) _
      refine XS.iload X18.here hx rfl (hb hby d8_92) rfl ?_
      refine XS.iconst X18.here hx rfl (hb hby d8_94) ?_
      refine Jvm.OwnK.idiv X18.here hx rfl (hb hby d8_95) rfl (by decide) (v := (4 : Int32)) (by decide) ?_
      refine XS.istore X18.here hx rfl (hb hby d8_96) rfl (l' := #[vR o0, vI p1, vD d2, s_, vI (4 : Int32), vD qf, s_]) rfl ?_
      refine XS.goto X18.here hx rfl (pc0 := 98) (pc' := 24) rfl (hb hby d8_98) (by decide) (by decide) ?_
      exact k
    have f22 := ((qi.other W7 (Or.inr (slot_ne (Or.inl (hwi hw 22 rfl)) (Or.inl (hwi hw 52 rfl)) (by decide) (t := .int) (t' := .long) (by decide) (by decide)))).other W18 (Or.inl qe))
    have f23 := ((qo.other W7 (Or.inr (slot_ne (Or.inl (hwi hw 38 rfl)) (Or.inl (hwi hw 52 rfl)) (by decide) (t := .int) (t' := .long) (by decide) (by decide)))).other W18 (Or.inl qe))
    have f24 := (f9.other W18 (Or.inl qe))
    have f25 := (F7w.other W18 (Or.inl qe))
    have f26 := ((qbS.wr W7).wr W18)
    obtain ⟨T21, o21q, sq21, rq21, eq21, _, L21, ho21, ⟨qdJ, rfl, N21, K21q, Q21_0, Q21_1, Q21_2, Q21_3, Q21_4, Q21_5⟩, hF21⟩ := tl8_n4 l Z a0 hw ws o0 p1 d2 qd y0 y1 y2 y3 y4 y5 y6 y7 qf y9 y10 y11 y12 y13 y14 y15 y16 y17 y18 y19 y20 y21 y22 y23 y24 y25 y26 y27 y28 y29 y30 y31 qj qc z61 qf qdf qfA qco qbM qeh qcE qbm qea qdw h18 n0 (Nat.le_trans (Nat.le_trans Z0 (Keep.of_wr W7).1) (Keep.of_wr W18).1) V18 qe f22 f23 f24 f25 qp f26 qU qlI qn2 qlJ qiX qlK qiY qg9 qiZ qha (qmD hb77) (qmE hb77) (qjN hb77) (qjO hb77) (qhE hb77) (qhF hb77) (qh7 hb77) (qkQ hb77) (qkR hb77) (qnC hb77) (qnD hb77) (qnE hb77) Bd hml0 hZ X18 e18 N18
    have K27 : Keep h0 T21.heap [o0, qc] := Keep.trans K19 K21q (allS (Or.inl (by simp)) (allS (Or.inl (by simp)) all0))
    exact ⟨T21, o21q, c20 _ sq21, rq21, eq21, _, L21, ho21, ⟨qdJ, rfl, N21, K27, Q21_0, Q21_1, Q21_2, Q21_3, Q21_4, Q21_5⟩, hF21⟩
def Q8_n9 (Z : State) (o0 : Addr) (p1 : Int32) (d2 : UInt64) (qd : ClassId) (y0 y1 y2 y3 y4 y5 y6 y7 y8 y9 y10 y11 y12 y13 y14 y15 y16 y17 y18 y19 y20 y21 y22 y23 y24 y25 y26 y27 y28 y29 y30 y31 : UInt64) (qj : Int32) (qc : Addr) (qg : Int64) (qf : UInt64) (z61 : Int64) (qk : Int32) (qdf : UInt64) (qfA : Int64) (qco : Int32) (qbM : UInt64) (qeh : Int64) (qcE : Int32) (qbm : UInt64) (qea : Int64) (qdw : Int32) (h0 : Heap) (n0 : Nat) (v : Option Value) (h : Heap) (L : List Loc) : Prop := ∃ vx_visits_o0 : Int64, v = none ∧ Fr n0 L ∧ Keep h0 h [o0, qc] ∧ Arv Z h qc qd .double (32 : Int32) (t32 y0 qbm qbM y3 qdf y5 y6 y7 y8 qf y10 y11 y12 y13 y14 y15 y16 y17 y18 y19 y20 y21 y22 y23 y24 y25 y26 y27 y28 y29 y30 y31) (.double (0 : UInt64)) ∧ Fld Z h o0 MTc "capacity" "I" (.int (16 : Int32)) ∧ Fld Z h o0 MTc "count" "I" (.int qj) ∧ Fld Z h o0 MTc "minima" "[D" (.ref qc) ∧ Fld Z h o0 MTc "visits" "J" (.long vx_visits_o0) ∧ Exa Z h o0 MTc
set_option maxRecDepth 65536 in
set_option maxHeartbeats 40000000 in
theorem tl8_n9 (l : Launch) (Z : State) (a0 : Array Value) (hw : ∀ d ∈ tables_1, d.before a0 Z = true) (ws : List Jvm.Cond) (o0 : Addr) (p1 : Int32) (d2 : UInt64) (qd : ClassId) (y0 y1 y2 y3 y4 y5 y6 y7 y8 y9 y10 y11 y12 y13 y14 y15 y16 y17 y18 y19 y20 y21 y22 y23 y24 y25 y26 y27 y28 y29 y30 y31 : UInt64) (qj : Int32) (qc : Addr) (qg : Int64) (qf : UInt64) (z61 : Int64) (qk : Int32) (qdf : UInt64) (qfA : Int64) (qco : Int32) (qbM : UInt64) (qeh : Int64) (qcE : Int32) (qbm : UInt64) (qea : Int64) (qdw : Int32) (h0 : Heap) (n0 : Nat) (Z0 : n0 ≤ h0.size) (qm : Arv Z h0 qc qd .double (32 : Int32) (t32 y0 y1 y2 y3 y4 y5 y6 y7 y8 y9 y10 y11 y12 y13 y14 y15 y16 y17 y18 y19 y20 y21 y22 y23 y24 y25 y26 y27 y28 y29 y30 y31) (.double (0 : UInt64))) (qe : o0 ≠ qc) (qi : Fld Z h0 o0 MTc "capacity" "I" (.int (16 : Int32))) (qo : Fld Z h0 o0 MTc "count" "I" (.int qj)) (qn : Fld Z h0 o0 MTc "minima" "[D" (.ref qc)) (qr : Fld Z h0 o0 MTc "visits" "J" (.long qg)) (qp : n0 ≤ qc) (qbS : Exa Z h0 o0 MTc) (qU : n0 ≤ o0) (qez : mnf y18 y19 = qf) (hz61 : qg + (1 : Int64) = z61) (qeA : cmpf qf y9 = qk) (qlI : mnf y8 qf = qdf) (qn2 : z61 + (1 : Int64) = qfA) (qlJ : cmpf qdf y4 = qco) (qiX : mnf qdf y5 = qbM) (qlK : qfA + (1 : Int64) = qeh) (qiY : cmpf qbM y2 = qcE) (qg9 : mnf qbM y3 = qbm) (qiZ : qeh + (1 : Int64) = qea) (qha : cmpf qbm y1 = qdw) (qe0 : TV y18) (qe1 : TV y19) (qmD : (¬ qk = (0 : Int32)) → TV y8) (qmE : (¬ qk = (0 : Int32)) → TV qf) (qjN : (¬ qk = (0 : Int32)) → (¬ qco = (0 : Int32)) → TV qdf) (qjO : (¬ qk = (0 : Int32)) → (¬ qco = (0 : Int32)) → TV y5) (qhE : (¬ qk = (0 : Int32)) → (¬ qco = (0 : Int32)) → (¬ qcE = (0 : Int32)) → TV qbM) (qhF : (¬ qk = (0 : Int32)) → (¬ qco = (0 : Int32)) → (¬ qcE = (0 : Int32)) → TV y3) (qh7 : (¬ qk = (0 : Int32)) → (¬ qco = (0 : Int32)) → (¬ qcE = (0 : Int32)) → (qdw = (0 : Int32)) → y1 = qbm) (qkQ : (¬ qk = (0 : Int32)) → (¬ qco = (0 : Int32)) → (qcE = (0 : Int32)) → y1 = qbm) (qkR : (¬ qk = (0 : Int32)) → (¬ qco = (0 : Int32)) → (qcE = (0 : Int32)) → y2 = qbM) (qnC : (¬ qk = (0 : Int32)) → (qco = (0 : Int32)) → y1 = qbm) (qnD : (¬ qk = (0 : Int32)) → (qco = (0 : Int32)) → y2 = qbM) (qnE : (¬ qk = (0 : Int32)) → (qco = (0 : Int32)) → y4 = qdf) (eq0_1 : (qk = (0 : Int32)) → y1 = qbm) (eq0_2 : (qk = (0 : Int32)) → y2 = qbM) (eq0_4 : (qk = (0 : Int32)) → y4 = qdf) (eq0_9 : (qk = (0 : Int32)) → y9 = qf) {p : Program} {e : Env} {s : State} {m : MethodId} {below : List Frame} {meth : Method} {c : Code} {s₁ T0 : State} {locs0 : List Loc} (Bd : BodyLoose p l (⟨MTc, "set", "(ID)V"⟩ : MethodName) (head1 (Jvm.Cond.code (⟨MTc, "set", "(ID)V"⟩ : MethodName) prog_28_method_3_code 7 none :: ws) ({ frames := 3, cells := 0, slots := 0, locals := 90 } : Room)) prog_28_method_3_code 7 none e s m #[(.ref o0), (.int p1), (.double d2)] below meth c s₁) (hml0 : c.maxLocals = 7) (hZ : Z.Warmed39 s.vm) (X0 : Stand p l e ({ frames := 3, cells := 0, slots := 0, locals := 90 } : Room) s m #[(.ref o0), (.int p1), (.double d2)] below meth c T0 locs0 0 0) (e0 : T0.heap = h0) (N0 : Fr n0 locs0) :
    ∃ t o, Steps p.tables e below (T0.setTop (mkF m 24 #[vR o0, vI p1, vD d2, s_, vI (9 : Int32), u_, u_] [])) t ∧ t.status = .running ∧ Ended t below o ∧ ∃ v L, o = .returned v ∧ Q8_n9 Z o0 p1 d2 qd y0 y1 y2 y3 y4 y5 y6 y7 y8 y9 y10 y11 y12 y13 y14 y15 y16 y17 y18 y19 y20 y21 y22 y23 y24 y25 y26 y27 y28 y29 y30 y31 qj qc qg qf z61 qk qdf qfA qco qbM qeh qcE qbm qea qdw h0 n0 v t.heap L ∧ FrameEnd s o t L ({ frames := 3, cells := 0, slots := 0, locals := 90 } : Room).cells ({ frames := 3, cells := 0, slots := 0, locals := 90 } : Room).slots := by
  have hx := Bd.exec
  have hby := Bd.bytes
  have hml : c.maxLocals = 7 := hml0
  have hown : s.vm.findClass MTc = some m.cls := findClass_of_methodNamed Bd.named
  have hnm := (name_of_methodNamed Bd.named Bd.method).1
  have c0 : ∀ t, Steps p.tables e below (T0.setTop (mkF m 24 #[vR o0, vI p1, vD d2, s_, vI (9 : Int32), u_, u_] [])) t → Steps p.tables e below (T0.setTop (mkF m 24 #[vR o0, vI p1, vD d2, s_, vI (9 : Int32), u_, u_] [])) t := fun _ k => k
  obtain ⟨T1, X1, e1, st1⟩ := getF X0 hx hZ hown (host := "") (Or.inl (hwi hw 19 rfl)) Via.refl e0 qn (g := (mkF m 31 #[vR o0, vI p1, vD d2, s_, vI (9 : Int32), u_, u_] [(.ref o0)])) rfl rfl (hb hby d8_31)
  obtain ⟨cl2, Ar2, -, S2, -, Ha2, -⟩ := id qm
  have in2 : ¬ ((18 : Int32) < 0 ∨ cl2.slots.size ≤ ((18 : Int32)).toNatClampNeg) := inb_of S2 ⟨by decide, by decide⟩
  obtain ⟨T3, X3, e3, st3⟩ := getF X1 hx hZ hown (host := "") (Or.inl (hwi hw 19 rfl)) Via.refl e1 qn (g := (mkF m 40 #[vR o0, vI p1, vD d2, s_, vI (9 : Int32), u_, u_] [(.ref o0), (.double y18)])) rfl rfl (hb hby d8_40)
  obtain ⟨cl4, Ar4, -, S4, -, Ha4, -⟩ := id qm
  have in4 : ¬ ((19 : Int32) < 0 ∨ cl4.slots.size ≤ ((19 : Int32)).toNatClampNeg) := inb_of S4 ⟨by decide, by decide⟩
  obtain ⟨_, _, ⟨T5, L5, k5, n5⟩, -, X5, ⟨Lc5, hQ5, ql5, qy5, qz5⟩, st5⟩ := Jvm.LawKit.callS X3 hx (y := (⟨MTc, "min", "(DD)D"⟩ : MethodName)) hown (mvT hZ (hwi hw 44 rfl)) (mvT hZ (hwi hw 45 rfl)) (mvT hZ (hwi hw 4 rfl)) (mvT hZ (hwi hw 46 rfl)) (by decide) (backOf (W := 0) (rm9w l Z a0 hw [] y18 y19 qf h0 n0 Z0 qez qe0 qe1) hZ (hwi hw 46 rfl) (hwi hw 4 rfl) (by decide) (by decide)) (g := (mkF m 50 #[vR o0, vI p1, vD d2, s_, vI (9 : Int32), u_, u_] [(.double y19), (.double y18)])) rfl (by rw [hml]; rfl) (argsL := [(.double y18), (.double y19)]) (rest := []) (lenOf pd_2 rfl) rfl (by show 2 * 0 + _ ≤ _; exact Nat.le_of_eq rfl) (hb hby d8_50) (fun _ _ => ⟨rfl, e3, (by decide : 0 + 0 ≤ _), (by decide : 0 + 0 ≤ _)⟩)
  dsimp only [Pt.U, Pt.locs, Pt.cells, Pt.slots] at X5 ql5 qy5 qz5 st5 hQ5
  subst ql5 qy5 qz5
  obtain ⟨rfl, N5q, e5⟩ := hQ5
  have N5 := Fr.app N0 N5q
  obtain ⟨T6, X6, e6, st6⟩ := getF X5 hx hZ hown (host := "") (Or.inl (hwi hw 51 rfl)) Via.refl e5 qr (g := (mkF m 57 #[vR o0, vI p1, vD d2, s_, vI (9 : Int32), vD qf, s_] [(.ref o0), (.ref o0)])) rfl rfl (hb hby d8_57)
  obtain ⟨T7, h7, X7, e7, W7, st7⟩ := putF X6 hx hZ hown (host := "") (Or.inl (hwi hw 51 rfl)) Via.refl e6 qr qbS (Or.inl (hwi hw 52 rfl)) (hwi hw 3 rfl) (ty := .long) (by decide) rfl rfl (g := (mkF m 62 #[vR o0, vI p1, vD d2, s_, vI (9 : Int32), vD qf, s_] [(.long z61), (.ref o0)])) rfl rfl (hb hby d8_62)
  have N7 := Fr.snoc X7 N5 qU
  have K8 : Keep h0 h7 [o0, qc] := (Keep.refl h0 [o0, qc]).wr W7 (Or.inl (by simp))
  have F7w := qr.same W7
  have f9 := (qn.other W7 (Or.inr (slot_ne (Or.inl (hwi hw 20 rfl)) (Or.inl (hwi hw 52 rfl)) (by decide) (t := (.array .double)) (t' := .long) (by decide) (by decide))))
  obtain ⟨T10, X10, e10, st10⟩ := getF X7 hx hZ hown (host := "") (Or.inl (hwi hw 19 rfl)) Via.refl e7 f9 (g := (mkF m 68 #[vR o0, vI p1, vD d2, s_, vI (9 : Int32), vD qf, s_] [(.ref o0), (.double qf)])) rfl rfl (hb hby d8_68)
  have f11 := (qm.other W7 (Ne.symm qe))
  obtain ⟨cl12, Ar12, -, S12, -, Ha12, -⟩ := id f11
  have in12 : ¬ ((9 : Int32) < 0 ∨ cl12.slots.size ≤ ((9 : Int32)).toNatClampNeg) := inb_of S12 ⟨by decide, by decide⟩
  obtain ⟨_, _, ⟨T13, L13, k13, n13⟩, -, X13, ⟨Lc13, hQ13, ql13, qy13, qz13⟩, st13⟩ := Jvm.LawKit.callS X10 hx (y := (⟨"java/lang/Double", "compare", "(DD)I"⟩ : MethodName)) hown (mvT hZ (hwi hw 53 rfl)) (mvT hZ (hwi hw 54 rfl)) (mvT hZ (hwi hw 49 rfl)) (mvT hZ (hwi hw 55 rfl)) (by decide) (backOf (W := 0) (rm11w l Z a0 hw [] qf y9 qk h7 n0 (Nat.le_trans Z0 (Keep.of_wr W7).1) qeA) hZ (hwi hw 55 rfl) (hwi hw 49 rfl) (by decide) (by decide)) (g := (mkF m 74 #[vR o0, vI p1, vD d2, s_, vI (9 : Int32), vD qf, s_] [(.double y9), (.double qf)])) rfl (by rw [hml]; rfl) (argsL := [(.double qf), (.double y9)]) (rest := []) (lenOf pd_5 rfl) rfl (by show 2 * 0 + _ ≤ _; exact Nat.le_of_eq rfl) (hb hby d8_74) (fun _ _ => ⟨rfl, e10, (by decide : 0 + 0 ≤ _), (by decide : 0 + 0 ≤ _)⟩)
  dsimp only [Pt.U, Pt.locs, Pt.cells, Pt.slots] at X13 ql13 qy13 qz13 st13 hQ13
  subst ql13 qy13 qz13
  obtain ⟨rfl, N13q, e13⟩ := hQ13
  have N13 := Fr.app N7 N13q
  have c14 : ∀ t, Steps p.tables e below (T13.setTop (mkF m 77 #[vR o0, vI p1, vD d2, s_, vI (9 : Int32), vD qf, s_] [(.int qk)])) t → Steps p.tables e below (T0.setTop (mkF m 24 #[vR o0, vI p1, vD d2, s_, vI (9 : Int32), u_, u_] [])) t := by
    intro t k
    refine c0 t ?_
    show Steps p.tables e below (T0.setTop (mkF m 24 #[vR o0, vI p1, vD d2, s_, vI (9 : Int32), u_, u_] [])) _
    refine XS.iload X0.here hx rfl (hb hby d8_24) rfl ?_
    refine XS.iconst X0.here hx rfl (hb hby d8_26) ?_
    refine XS.icmpNo X0.here hx rfl (hb hby d8_27) rfl (Jvm.Free.XT.ii_lt_f (by decide)) ?_
    refine XS.aloadN X0.here hx rfl (hb hby d8_30) rfl rfl ?_
    refine st1 _ ?_
    show Steps p.tables e below (T1.setTop (mkF m 34 #[vR o0, vI p1, vD d2, s_, vI (9 : Int32), u_, u_] [(.ref qc)])) _
    refine XS.iconst X1.here hx rfl (hb hby d8_34) ?_
    refine XS.iload X1.here hx rfl (hb hby d8_35) rfl ?_
    refine Jvm.OwnK.imul X1.here hx rfl (hb hby d8_37) rfl (v := (18 : Int32)) (by decide) ?_
    refine X1.daload hx (j := (18 : Int32)) (v := (.double y18)) (by rw [e1]; exact Ar2.1) (State.isArrayOf_alike hZ.alike Ar2.2.1) Ar2.2.2 in2 (Has.at Ha2 in2 rfl) (g := (mkF m 38 #[vR o0, vI p1, vD d2, s_, vI (9 : Int32), u_, u_] [(.int (18 : Int32)), (.ref qc)])) rfl rfl (hb hby d8_38) _ ?_
    refine XS.aloadN X1.here hx rfl (hb hby d8_39) rfl rfl ?_
    refine st3 _ ?_
    show Steps p.tables e below (T3.setTop (mkF m 43 #[vR o0, vI p1, vD d2, s_, vI (9 : Int32), u_, u_] [(.ref qc), (.double y18)])) _
    refine XS.iconst X3.here hx rfl (hb hby d8_43) ?_
    refine XS.iload X3.here hx rfl (hb hby d8_44) rfl ?_
    refine Jvm.OwnK.imul X3.here hx rfl (hb hby d8_46) rfl (v := (18 : Int32)) (by decide) ?_
    refine XS.iconst X3.here hx rfl (hb hby d8_47) ?_
    refine Jvm.OwnK.iadd X3.here hx rfl (hb hby d8_48) rfl (v := (19 : Int32)) (by decide) ?_
    refine X3.daload hx (j := (19 : Int32)) (v := (.double y19)) (by rw [e3]; exact Ar4.1) (State.isArrayOf_alike hZ.alike Ar4.2.1) Ar4.2.2 in4 (Has.at Ha4 in4 rfl) (g := (mkF m 49 #[vR o0, vI p1, vD d2, s_, vI (9 : Int32), u_, u_] [(.int (19 : Int32)), (.ref qc), (.double y18)])) rfl rfl (hb hby d8_49) _ ?_
    show Steps p.tables e below (T3.setTop (mkF m 50 #[vR o0, vI p1, vD d2, s_, vI (9 : Int32), u_, u_] [(.double y19), (.double y18)])) _
    refine st5 _ ?_
    show Steps p.tables e below (T5.setTop (mkF m 53 #[vR o0, vI p1, vD d2, s_, vI (9 : Int32), u_, u_] [(.double qf)])) _
    refine XS.dstore X5.here hx rfl (hb hby d8_53) rfl (l' := #[vR o0, vI p1, vD d2, s_, vI (9 : Int32), vD qf, s_]) rfl ?_
    refine XS.aloadN X5.here hx rfl (hb hby d8_55) rfl rfl ?_
    refine XS.dup X5.here hx rfl (hb hby d8_56) rfl rfl ?_
    refine st6 _ ?_
    show Steps p.tables e below (T6.setTop (mkF m 60 #[vR o0, vI p1, vD d2, s_, vI (9 : Int32), vD qf, s_] [(.long qg), (.ref o0)])) _
    refine XS.lconst X6.here hx rfl (hb hby d8_60) ?_
    refine Jvm.OwnK.ladd X6.here hx rfl (hb hby d8_61) rfl hz61 ?_
    refine st7 _ ?_
    show Steps p.tables e below (T7.setTop (mkF m 65 #[vR o0, vI p1, vD d2, s_, vI (9 : Int32), vD qf, s_] [])) _
    refine XS.dload X7.here hx rfl (hb hby d8_65) rfl ?_
    refine XS.aloadN X7.here hx rfl (hb hby d8_67) rfl rfl ?_
    refine st10 _ ?_
    show Steps p.tables e below (T10.setTop (mkF m 71 #[vR o0, vI p1, vD d2, s_, vI (9 : Int32), vD qf, s_] [(.ref qc), (.double qf)])) _
    refine XS.iload X10.here hx rfl (hb hby d8_71) rfl ?_
    refine X10.daload hx (j := (9 : Int32)) (v := (.double y9)) (by rw [e10]; exact Ar12.1) (State.isArrayOf_alike hZ.alike Ar12.2.1) Ar12.2.2 in12 (Has.at Ha12 in12 rfl) (g := (mkF m 73 #[vR o0, vI p1, vD d2, s_, vI (9 : Int32), vD qf, s_] [(.int (9 : Int32)), (.ref qc), (.double qf)])) rfl rfl (hb hby d8_73) _ ?_
    refine st13 _ ?_
    exact k
  by_cases hb77 : qk = (0 : Int32)
  · skip
    have c15 : ∀ t, Steps p.tables e below (T13.setTop (mkF m 101 #[vR o0, vI p1, vD d2, s_, vI (9 : Int32), vD qf, s_] [])) t → Steps p.tables e below (T0.setTop (mkF m 24 #[vR o0, vI p1, vD d2, s_, vI (9 : Int32), u_, u_] [])) t := by
      intro t k
      refine c14 t ?_
      show Steps p.tables e below (T13.setTop (mkF m 77 #[vR o0, vI p1, vD d2, s_, vI (9 : Int32), vD qf, s_] [(.int qk)])) _
      refine XS.ifNo X13.here hx rfl (hb hby d8_77) rfl (Jvm.Free.XT.i0_ne_f hb77) ?_
      refine XS.goto X13.here hx rfl (pc0 := 80) (pc' := 101) rfl (hb hby d8_80) (by decide) (by decide) ?_
      exact k
    obtain ⟨fs, hr, hrun, hended, hW, hsame⟩ := X13.leave (v := none) (fun _ => rfl)
    refine ⟨_, _, c15 _ ?_, hrun, hended, _, _, rfl, ?_, ⟨_, rfl⟩, hW, hsame.mono (by decide) (by decide)⟩
    · show Steps p.tables e below (T13.setTop (mkF m 101 #[vR o0, vI p1, vD d2, s_, vI (9 : Int32), vD qf, s_] [])) _
      exact X13.returnOut hx Bd.returns (hb hby d8_101) hr
    · show Q8_n9 Z o0 p1 d2 qd y0 y1 y2 y3 y4 y5 y6 y7 y8 y9 y10 y11 y12 y13 y14 y15 y16 y17 y18 y19 y20 y21 y22 y23 y24 y25 y26 y27 y28 y29 y30 y31 qj qc qg qf z61 qk qdf qfA qco qbM qeh qcE qbm qea qdw h0 n0 _ T13.heap _
      rw [e13]
      exact ⟨z61, rfl, N13, K8, (Eq.mp (congrArg (fun l => Arv Z _ qc qd .double (32 : Int32) l (.double (0 : UInt64))) (show (t32 y0 y1 y2 y3 y4 y5 y6 y7 y8 y9 y10 y11 y12 y13 y14 y15 y16 y17 y18 y19 y20 y21 y22 y23 y24 y25 y26 y27 y28 y29 y30 y31) = (t32 y0 qbm qbM y3 qdf y5 y6 y7 y8 qf y10 y11 y12 y13 y14 y15 y16 y17 y18 y19 y20 y21 y22 y23 y24 y25 y26 y27 y28 y29 y30 y31) by rw [eq0_1 hb77, eq0_2 hb77, eq0_4 hb77, eq0_9 hb77])) f11), (qi.other W7 (Or.inr (slot_ne (Or.inl (hwi hw 22 rfl)) (Or.inl (hwi hw 52 rfl)) (by decide) (t := .int) (t' := .long) (by decide) (by decide)))), (qo.other W7 (Or.inr (slot_ne (Or.inl (hwi hw 38 rfl)) (Or.inl (hwi hw 52 rfl)) (by decide) (t := .int) (t' := .long) (by decide) (by decide)))), f9, F7w, (qbS.wr W7)⟩
  · skip
    obtain ⟨T16, X16, e16, st16⟩ := getF X13 hx hZ hown (host := "") (Or.inl (hwi hw 19 rfl)) Via.refl e13 f9 (g := (mkF m 84 #[vR o0, vI p1, vD d2, s_, vI (9 : Int32), vD qf, s_] [(.ref o0)])) rfl rfl (hb hby d8_84)
    obtain ⟨cl17, Ar17, q17, S17, Nn17, Ha17, G17⟩ := id f11
    have in17 : ¬ ((9 : Int32) < 0 ∨ cl17.slots.size ≤ ((9 : Int32)).toNatClampNeg) := inb_of S17 ⟨by decide, by decide⟩
    obtain ⟨T18, h18, X18, e18, W18, st18⟩ := stD X16 hx hZ e16 Ar17 (j := (9 : Int32)) in17 (g := (mkF m 91 #[vR o0, vI p1, vD d2, s_, vI (9 : Int32), vD qf, s_] [(.double qf), (.int (9 : Int32)), (.ref qc)])) rfl rfl (hb hby d8_91)
    have N18 := Fr.snoc X18 N13 qp
    have K19 : Keep h0 h18 [o0, qc] := K8.wr W18 (Or.inl (by simp))
    have V18 : Arv Z h18 qc qd .double (32 : Int32) (t32 y0 y1 y2 y3 y4 y5 y6 y7 y8 qf y10 y11 y12 y13 y14 y15 y16 y17 y18 y19 y20 y21 y22 y23 y24 y25 y26 y27 y28 y29 y30 y31) (.double (0 : UInt64)) := Arv.set Ar17 q17 S17 Nn17 Ha17 G17 rfl W18 9 rfl (show (9 : Nat) < 32 by decide)
    have c20 : ∀ t, Steps p.tables e below (T18.setTop (mkF m 24 #[vR o0, vI p1, vD d2, s_, vI (4 : Int32), vD qf, s_] [])) t → Steps p.tables e below (T0.setTop (mkF m 24 #[vR o0, vI p1, vD d2, s_, vI (9 : Int32), u_, u_] [])) t := by
      intro t k
      refine c14 t ?_
      show Steps p.tables e below (T13.setTop (mkF m 77 #[vR o0, vI p1, vD d2, s_, vI (9 : Int32), vD qf, s_] [(.int qk)])) _
      refine XS.ifYes X13.here hx rfl (pc0 := 77) (pc' := 83) rfl (hb hby d8_77) rfl (Jvm.Free.XT.i0_ne_t hb77) (by decide) (by decide) ?_
      refine XS.aloadN X13.here hx rfl (hb hby d8_83) rfl rfl ?_
      refine st16 _ ?_
      show Steps p.tables e below (T16.setTop (mkF m 87 #[vR o0, vI p1, vD d2, s_, vI (9 : Int32), vD qf, s_] [(.ref qc)])) _
      refine XS.iload X16.here hx rfl (hb hby d8_87) rfl ?_
      refine XS.dload X16.here hx rfl (hb hby d8_89) rfl ?_
      refine st18 _ ?_
      show Steps p.tables e below (T18.setTop (mkF m 92 #[vR o0, vI p1, vD d2, s_, vI (9 : Int32), vD qf, s_] [])) _
      refine XS.iload X18.here hx rfl (hb hby d8_92) rfl ?_
      refine XS.iconst X18.here hx rfl (hb hby d8_94) ?_
      refine Jvm.OwnK.idiv X18.here hx rfl (hb hby d8_95) rfl (by decide) (v := (4 : Int32)) (by decide) ?_
      refine XS.istore X18.here hx rfl (hb hby d8_96) rfl (l' := #[vR o0, vI p1, vD d2, s_, vI (4 : Int32), vD qf, s_]) rfl ?_
      refine XS.goto X18.here hx rfl (pc0 := 98) (pc' := 24) rfl (hb hby d8_98) (by decide) (by decide) ?_
      exact k
    have f22 := ((qi.other W7 (Or.inr (slot_ne (Or.inl (hwi hw 22 rfl)) (Or.inl (hwi hw 52 rfl)) (by decide) (t := .int) (t' := .long) (by decide) (by decide)))).other W18 (Or.inl qe))
    have f23 := ((qo.other W7 (Or.inr (slot_ne (Or.inl (hwi hw 38 rfl)) (Or.inl (hwi hw 52 rfl)) (by decide) (t := .int) (t' := .long) (by decide) (by decide)))).other W18 (Or.inl qe))
    have f24 := (f9.other W18 (Or.inl qe))
    have f25 := (F7w.other W18 (Or.inl qe))
    have f26 := ((qbS.wr W7).wr W18)
    obtain ⟨T21, o21q, sq21, rq21, eq21, _, L21, ho21, ⟨qdJ, rfl, N21, K21q, Q21_0, Q21_1, Q21_2, Q21_3, Q21_4, Q21_5⟩, hF21⟩ := tl8_n4 l Z a0 hw ws o0 p1 d2 qd y0 y1 y2 y3 y4 y5 y6 y7 y8 qf y10 y11 y12 y13 y14 y15 y16 y17 y18 y19 y20 y21 y22 y23 y24 y25 y26 y27 y28 y29 y30 y31 qj qc z61 qf qdf qfA qco qbM qeh qcE qbm qea qdw h18 n0 (Nat.le_trans (Nat.le_trans Z0 (Keep.of_wr W7).1) (Keep.of_wr W18).1) V18 qe f22 f23 f24 f25 qp f26 qU qlI qn2 qlJ qiX qlK qiY qg9 qiZ qha (qmD hb77) (qmE hb77) (qjN hb77) (qjO hb77) (qhE hb77) (qhF hb77) (qh7 hb77) (qkQ hb77) (qkR hb77) (qnC hb77) (qnD hb77) (qnE hb77) Bd hml0 hZ X18 e18 N18
    have K27 : Keep h0 T21.heap [o0, qc] := Keep.trans K19 K21q (allS (Or.inl (by simp)) (allS (Or.inl (by simp)) all0))
    exact ⟨T21, o21q, c20 _ sq21, rq21, eq21, _, L21, ho21, ⟨qdJ, rfl, N21, K27, Q21_0, Q21_1, Q21_2, Q21_3, Q21_4, Q21_5⟩, hF21⟩
def Q8_n10 (Z : State) (o0 : Addr) (p1 : Int32) (d2 : UInt64) (qd : ClassId) (y0 y1 y2 y3 y4 y5 y6 y7 y8 y9 y10 y11 y12 y13 y14 y15 y16 y17 y18 y19 y20 y21 y22 y23 y24 y25 y26 y27 y28 y29 y30 y31 : UInt64) (qj : Int32) (qc : Addr) (qg : Int64) (qf : UInt64) (z61 : Int64) (qk : Int32) (qdg : UInt64) (qfB : Int64) (qcp : Int32) (qbN : UInt64) (qei : Int64) (qcF : Int32) (qbn : UInt64) (qeb : Int64) (qdx : Int32) (h0 : Heap) (n0 : Nat) (v : Option Value) (h : Heap) (L : List Loc) : Prop := ∃ vx_visits_o0 : Int64, v = none ∧ Fr n0 L ∧ Keep h0 h [o0, qc] ∧ Arv Z h qc qd .double (32 : Int32) (t32 y0 qbn qbN y3 y4 qdg y6 y7 y8 y9 qf y11 y12 y13 y14 y15 y16 y17 y18 y19 y20 y21 y22 y23 y24 y25 y26 y27 y28 y29 y30 y31) (.double (0 : UInt64)) ∧ Fld Z h o0 MTc "capacity" "I" (.int (16 : Int32)) ∧ Fld Z h o0 MTc "count" "I" (.int qj) ∧ Fld Z h o0 MTc "minima" "[D" (.ref qc) ∧ Fld Z h o0 MTc "visits" "J" (.long vx_visits_o0) ∧ Exa Z h o0 MTc
set_option maxRecDepth 65536 in
set_option maxHeartbeats 40000000 in
theorem tl8_n10 (l : Launch) (Z : State) (a0 : Array Value) (hw : ∀ d ∈ tables_1, d.before a0 Z = true) (ws : List Jvm.Cond) (o0 : Addr) (p1 : Int32) (d2 : UInt64) (qd : ClassId) (y0 y1 y2 y3 y4 y5 y6 y7 y8 y9 y10 y11 y12 y13 y14 y15 y16 y17 y18 y19 y20 y21 y22 y23 y24 y25 y26 y27 y28 y29 y30 y31 : UInt64) (qj : Int32) (qc : Addr) (qg : Int64) (qf : UInt64) (z61 : Int64) (qk : Int32) (qdg : UInt64) (qfB : Int64) (qcp : Int32) (qbN : UInt64) (qei : Int64) (qcF : Int32) (qbn : UInt64) (qeb : Int64) (qdx : Int32) (h0 : Heap) (n0 : Nat) (Z0 : n0 ≤ h0.size) (qm : Arv Z h0 qc qd .double (32 : Int32) (t32 y0 y1 y2 y3 y4 y5 y6 y7 y8 y9 y10 y11 y12 y13 y14 y15 y16 y17 y18 y19 y20 y21 y22 y23 y24 y25 y26 y27 y28 y29 y30 y31) (.double (0 : UInt64))) (qe : o0 ≠ qc) (qi : Fld Z h0 o0 MTc "capacity" "I" (.int (16 : Int32))) (qo : Fld Z h0 o0 MTc "count" "I" (.int qj)) (qn : Fld Z h0 o0 MTc "minima" "[D" (.ref qc)) (qr : Fld Z h0 o0 MTc "visits" "J" (.long qg)) (qp : n0 ≤ qc) (qbS : Exa Z h0 o0 MTc) (qU : n0 ≤ o0) (qez : mnf y20 y21 = qf) (hz61 : qg + (1 : Int64) = z61) (qeA : cmpf qf y10 = qk) (qlL : mnf qf y11 = qdg) (qn3 : z61 + (1 : Int64) = qfB) (qlM : cmpf qdg y5 = qcp) (qi0 : mnf y4 qdg = qbN) (qlN : qfB + (1 : Int64) = qei) (qi1 : cmpf qbN y2 = qcF) (qhb : mnf qbN y3 = qbn) (qi2 : qei + (1 : Int64) = qeb) (qhc : cmpf qbn y1 = qdx) (qe0 : TV y20) (qe1 : TV y21) (qmF : (¬ qk = (0 : Int32)) → TV qf) (qmG : (¬ qk = (0 : Int32)) → TV y11) (qjP : (¬ qk = (0 : Int32)) → (¬ qcp = (0 : Int32)) → TV y4) (qjQ : (¬ qk = (0 : Int32)) → (¬ qcp = (0 : Int32)) → TV qdg) (qhG : (¬ qk = (0 : Int32)) → (¬ qcp = (0 : Int32)) → (¬ qcF = (0 : Int32)) → TV qbN) (qhH : (¬ qk = (0 : Int32)) → (¬ qcp = (0 : Int32)) → (¬ qcF = (0 : Int32)) → TV y3) (qh8 : (¬ qk = (0 : Int32)) → (¬ qcp = (0 : Int32)) → (¬ qcF = (0 : Int32)) → (qdx = (0 : Int32)) → y1 = qbn) (qkS : (¬ qk = (0 : Int32)) → (¬ qcp = (0 : Int32)) → (qcF = (0 : Int32)) → y1 = qbn) (qkT : (¬ qk = (0 : Int32)) → (¬ qcp = (0 : Int32)) → (qcF = (0 : Int32)) → y2 = qbN) (qnF : (¬ qk = (0 : Int32)) → (qcp = (0 : Int32)) → y1 = qbn) (qnG : (¬ qk = (0 : Int32)) → (qcp = (0 : Int32)) → y2 = qbN) (qnH : (¬ qk = (0 : Int32)) → (qcp = (0 : Int32)) → y5 = qdg) (eq0_1 : (qk = (0 : Int32)) → y1 = qbn) (eq0_2 : (qk = (0 : Int32)) → y2 = qbN) (eq0_5 : (qk = (0 : Int32)) → y5 = qdg) (eq0_10 : (qk = (0 : Int32)) → y10 = qf) {p : Program} {e : Env} {s : State} {m : MethodId} {below : List Frame} {meth : Method} {c : Code} {s₁ T0 : State} {locs0 : List Loc} (Bd : BodyLoose p l (⟨MTc, "set", "(ID)V"⟩ : MethodName) (head1 (Jvm.Cond.code (⟨MTc, "set", "(ID)V"⟩ : MethodName) prog_28_method_3_code 7 none :: ws) ({ frames := 3, cells := 0, slots := 0, locals := 90 } : Room)) prog_28_method_3_code 7 none e s m #[(.ref o0), (.int p1), (.double d2)] below meth c s₁) (hml0 : c.maxLocals = 7) (hZ : Z.Warmed39 s.vm) (X0 : Stand p l e ({ frames := 3, cells := 0, slots := 0, locals := 90 } : Room) s m #[(.ref o0), (.int p1), (.double d2)] below meth c T0 locs0 0 0) (e0 : T0.heap = h0) (N0 : Fr n0 locs0) :
    ∃ t o, Steps p.tables e below (T0.setTop (mkF m 24 #[vR o0, vI p1, vD d2, s_, vI (10 : Int32), u_, u_] [])) t ∧ t.status = .running ∧ Ended t below o ∧ ∃ v L, o = .returned v ∧ Q8_n10 Z o0 p1 d2 qd y0 y1 y2 y3 y4 y5 y6 y7 y8 y9 y10 y11 y12 y13 y14 y15 y16 y17 y18 y19 y20 y21 y22 y23 y24 y25 y26 y27 y28 y29 y30 y31 qj qc qg qf z61 qk qdg qfB qcp qbN qei qcF qbn qeb qdx h0 n0 v t.heap L ∧ FrameEnd s o t L ({ frames := 3, cells := 0, slots := 0, locals := 90 } : Room).cells ({ frames := 3, cells := 0, slots := 0, locals := 90 } : Room).slots := by
  have hx := Bd.exec
  have hby := Bd.bytes
  have hml : c.maxLocals = 7 := hml0
  have hown : s.vm.findClass MTc = some m.cls := findClass_of_methodNamed Bd.named
  have hnm := (name_of_methodNamed Bd.named Bd.method).1
  have c0 : ∀ t, Steps p.tables e below (T0.setTop (mkF m 24 #[vR o0, vI p1, vD d2, s_, vI (10 : Int32), u_, u_] [])) t → Steps p.tables e below (T0.setTop (mkF m 24 #[vR o0, vI p1, vD d2, s_, vI (10 : Int32), u_, u_] [])) t := fun _ k => k
  obtain ⟨T1, X1, e1, st1⟩ := getF X0 hx hZ hown (host := "") (Or.inl (hwi hw 19 rfl)) Via.refl e0 qn (g := (mkF m 31 #[vR o0, vI p1, vD d2, s_, vI (10 : Int32), u_, u_] [(.ref o0)])) rfl rfl (hb hby d8_31)
  obtain ⟨cl2, Ar2, -, S2, -, Ha2, -⟩ := id qm
  have in2 : ¬ ((20 : Int32) < 0 ∨ cl2.slots.size ≤ ((20 : Int32)).toNatClampNeg) := inb_of S2 ⟨by decide, by decide⟩
  obtain ⟨T3, X3, e3, st3⟩ := getF X1 hx hZ hown (host := "") (Or.inl (hwi hw 19 rfl)) Via.refl e1 qn (g := (mkF m 40 #[vR o0, vI p1, vD d2, s_, vI (10 : Int32), u_, u_] [(.ref o0), (.double y20)])) rfl rfl (hb hby d8_40)
  obtain ⟨cl4, Ar4, -, S4, -, Ha4, -⟩ := id qm
  have in4 : ¬ ((21 : Int32) < 0 ∨ cl4.slots.size ≤ ((21 : Int32)).toNatClampNeg) := inb_of S4 ⟨by decide, by decide⟩
  obtain ⟨_, _, ⟨T5, L5, k5, n5⟩, -, X5, ⟨Lc5, hQ5, ql5, qy5, qz5⟩, st5⟩ := Jvm.LawKit.callS X3 hx (y := (⟨MTc, "min", "(DD)D"⟩ : MethodName)) hown (mvT hZ (hwi hw 44 rfl)) (mvT hZ (hwi hw 45 rfl)) (mvT hZ (hwi hw 4 rfl)) (mvT hZ (hwi hw 46 rfl)) (by decide) (backOf (W := 0) (rm9w l Z a0 hw [] y20 y21 qf h0 n0 Z0 qez qe0 qe1) hZ (hwi hw 46 rfl) (hwi hw 4 rfl) (by decide) (by decide)) (g := (mkF m 50 #[vR o0, vI p1, vD d2, s_, vI (10 : Int32), u_, u_] [(.double y21), (.double y20)])) rfl (by rw [hml]; rfl) (argsL := [(.double y20), (.double y21)]) (rest := []) (lenOf pd_2 rfl) rfl (by show 2 * 0 + _ ≤ _; exact Nat.le_of_eq rfl) (hb hby d8_50) (fun _ _ => ⟨rfl, e3, (by decide : 0 + 0 ≤ _), (by decide : 0 + 0 ≤ _)⟩)
  dsimp only [Pt.U, Pt.locs, Pt.cells, Pt.slots] at X5 ql5 qy5 qz5 st5 hQ5
  subst ql5 qy5 qz5
  obtain ⟨rfl, N5q, e5⟩ := hQ5
  have N5 := Fr.app N0 N5q
  obtain ⟨T6, X6, e6, st6⟩ := getF X5 hx hZ hown (host := "") (Or.inl (hwi hw 51 rfl)) Via.refl e5 qr (g := (mkF m 57 #[vR o0, vI p1, vD d2, s_, vI (10 : Int32), vD qf, s_] [(.ref o0), (.ref o0)])) rfl rfl (hb hby d8_57)
  obtain ⟨T7, h7, X7, e7, W7, st7⟩ := putF X6 hx hZ hown (host := "") (Or.inl (hwi hw 51 rfl)) Via.refl e6 qr qbS (Or.inl (hwi hw 52 rfl)) (hwi hw 3 rfl) (ty := .long) (by decide) rfl rfl (g := (mkF m 62 #[vR o0, vI p1, vD d2, s_, vI (10 : Int32), vD qf, s_] [(.long z61), (.ref o0)])) rfl rfl (hb hby d8_62)
  have N7 := Fr.snoc X7 N5 qU
  have K8 : Keep h0 h7 [o0, qc] := (Keep.refl h0 [o0, qc]).wr W7 (Or.inl (by simp))
  have F7w := qr.same W7
  have f9 := (qn.other W7 (Or.inr (slot_ne (Or.inl (hwi hw 20 rfl)) (Or.inl (hwi hw 52 rfl)) (by decide) (t := (.array .double)) (t' := .long) (by decide) (by decide))))
  obtain ⟨T10, X10, e10, st10⟩ := getF X7 hx hZ hown (host := "") (Or.inl (hwi hw 19 rfl)) Via.refl e7 f9 (g := (mkF m 68 #[vR o0, vI p1, vD d2, s_, vI (10 : Int32), vD qf, s_] [(.ref o0), (.double qf)])) rfl rfl (hb hby d8_68)
  have f11 := (qm.other W7 (Ne.symm qe))
  obtain ⟨cl12, Ar12, -, S12, -, Ha12, -⟩ := id f11
  have in12 : ¬ ((10 : Int32) < 0 ∨ cl12.slots.size ≤ ((10 : Int32)).toNatClampNeg) := inb_of S12 ⟨by decide, by decide⟩
  obtain ⟨_, _, ⟨T13, L13, k13, n13⟩, -, X13, ⟨Lc13, hQ13, ql13, qy13, qz13⟩, st13⟩ := Jvm.LawKit.callS X10 hx (y := (⟨"java/lang/Double", "compare", "(DD)I"⟩ : MethodName)) hown (mvT hZ (hwi hw 53 rfl)) (mvT hZ (hwi hw 54 rfl)) (mvT hZ (hwi hw 49 rfl)) (mvT hZ (hwi hw 55 rfl)) (by decide) (backOf (W := 0) (rm11w l Z a0 hw [] qf y10 qk h7 n0 (Nat.le_trans Z0 (Keep.of_wr W7).1) qeA) hZ (hwi hw 55 rfl) (hwi hw 49 rfl) (by decide) (by decide)) (g := (mkF m 74 #[vR o0, vI p1, vD d2, s_, vI (10 : Int32), vD qf, s_] [(.double y10), (.double qf)])) rfl (by rw [hml]; rfl) (argsL := [(.double qf), (.double y10)]) (rest := []) (lenOf pd_5 rfl) rfl (by show 2 * 0 + _ ≤ _; exact Nat.le_of_eq rfl) (hb hby d8_74) (fun _ _ => ⟨rfl, e10, (by decide : 0 + 0 ≤ _), (by decide : 0 + 0 ≤ _)⟩)
  dsimp only [Pt.U, Pt.locs, Pt.cells, Pt.slots] at X13 ql13 qy13 qz13 st13 hQ13
  subst ql13 qy13 qz13
  obtain ⟨rfl, N13q, e13⟩ := hQ13
  have N13 := Fr.app N7 N13q
  have c14 : ∀ t, Steps p.tables e below (T13.setTop (mkF m 77 #[vR o0, vI p1, vD d2, s_, vI (10 : Int32), vD qf, s_] [(.int qk)])) t → Steps p.tables e below (T0.setTop (mkF m 24 #[vR o0, vI p1, vD d2, s_, vI (10 : Int32), u_, u_] [])) t := by
    intro t k
    refine c0 t ?_
    show Steps p.tables e below (T0.setTop (mkF m 24 #[vR o0, vI p1, vD d2, s_, vI (10 : Int32), u_, u_] [])) _
    refine XS.iload X0.here hx rfl (hb hby d8_24) rfl ?_
    refine XS.iconst X0.here hx rfl (hb hby d8_26) ?_
    refine XS.icmpNo X0.here hx rfl (hb hby d8_27) rfl (Jvm.Free.XT.ii_lt_f (by decide)) ?_
    refine XS.aloadN X0.here hx rfl (hb hby d8_30) rfl rfl ?_
    refine st1 _ ?_
    show Steps p.tables e below (T1.setTop (mkF m 34 #[vR o0, vI p1, vD d2, s_, vI (10 : Int32), u_, u_] [(.ref qc)])) _
    refine XS.iconst X1.here hx rfl (hb hby d8_34) ?_
    refine XS.iload X1.here hx rfl (hb hby d8_35) rfl ?_
    refine Jvm.OwnK.imul X1.here hx rfl (hb hby d8_37) rfl (v := (20 : Int32)) (by decide) ?_
    refine X1.daload hx (j := (20 : Int32)) (v := (.double y20)) (by rw [e1]; exact Ar2.1) (State.isArrayOf_alike hZ.alike Ar2.2.1) Ar2.2.2 in2 (Has.at Ha2 in2 rfl) (g := (mkF m 38 #[vR o0, vI p1, vD d2, s_, vI (10 : Int32), u_, u_] [(.int (20 : Int32)), (.ref qc)])) rfl rfl (hb hby d8_38) _ ?_
    refine XS.aloadN X1.here hx rfl (hb hby d8_39) rfl rfl ?_
    refine st3 _ ?_
    show Steps p.tables e below (T3.setTop (mkF m 43 #[vR o0, vI p1, vD d2, s_, vI (10 : Int32), u_, u_] [(.ref qc), (.double y20)])) _
    refine XS.iconst X3.here hx rfl (hb hby d8_43) ?_
    refine XS.iload X3.here hx rfl (hb hby d8_44) rfl ?_
    refine Jvm.OwnK.imul X3.here hx rfl (hb hby d8_46) rfl (v := (20 : Int32)) (by decide) ?_
    refine XS.iconst X3.here hx rfl (hb hby d8_47) ?_
    refine Jvm.OwnK.iadd X3.here hx rfl (hb hby d8_48) rfl (v := (21 : Int32)) (by decide) ?_
    refine X3.daload hx (j := (21 : Int32)) (v := (.double y21)) (by rw [e3]; exact Ar4.1) (State.isArrayOf_alike hZ.alike Ar4.2.1) Ar4.2.2 in4 (Has.at Ha4 in4 rfl) (g := (mkF m 49 #[vR o0, vI p1, vD d2, s_, vI (10 : Int32), u_, u_] [(.int (21 : Int32)), (.ref qc), (.double y20)])) rfl rfl (hb hby d8_49) _ ?_
    show Steps p.tables e below (T3.setTop (mkF m 50 #[vR o0, vI p1, vD d2, s_, vI (10 : Int32), u_, u_] [(.double y21), (.double y20)])) _
    refine st5 _ ?_
    show Steps p.tables e below (T5.setTop (mkF m 53 #[vR o0, vI p1, vD d2, s_, vI (10 : Int32), u_, u_] [(.double qf)])) _
    refine XS.dstore X5.here hx rfl (hb hby d8_53) rfl (l' := #[vR o0, vI p1, vD d2, s_, vI (10 : Int32), vD qf, s_]) rfl ?_
    refine XS.aloadN X5.here hx rfl (hb hby d8_55) rfl rfl ?_
    refine XS.dup X5.here hx rfl (hb hby d8_56) rfl rfl ?_
    refine st6 _ ?_
    show Steps p.tables e below (T6.setTop (mkF m 60 #[vR o0, vI p1, vD d2, s_, vI (10 : Int32), vD qf, s_] [(.long qg), (.ref o0)])) _
    refine XS.lconst X6.here hx rfl (hb hby d8_60) ?_
    refine Jvm.OwnK.ladd X6.here hx rfl (hb hby d8_61) rfl hz61 ?_
    refine st7 _ ?_
    show Steps p.tables e below (T7.setTop (mkF m 65 #[vR o0, vI p1, vD d2, s_, vI (10 : Int32), vD qf, s_] [])) _
    refine XS.dload X7.here hx rfl (hb hby d8_65) rfl ?_
    refine XS.aloadN X7.here hx rfl (hb hby d8_67) rfl rfl ?_
    refine st10 _ ?_
    show Steps p.tables e below (T10.setTop (mkF m 71 #[vR o0, vI p1, vD d2, s_, vI (10 : Int32), vD qf, s_] [(.ref qc), (.double qf)])) _
    refine XS.iload X10.here hx rfl (hb hby d8_71) rfl ?_
    refine X10.daload hx (j := (10 : Int32)) (v := (.double y10)) (by rw [e10]; exact Ar12.1) (State.isArrayOf_alike hZ.alike Ar12.2.1) Ar12.2.2 in12 (Has.at Ha12 in12 rfl) (g := (mkF m 73 #[vR o0, vI p1, vD d2, s_, vI (10 : Int32), vD qf, s_] [(.int (10 : Int32)), (.ref qc), (.double qf)])) rfl rfl (hb hby d8_73) _ ?_
    refine st13 _ ?_
    exact k
  by_cases hb77 : qk = (0 : Int32)
  · skip
    have c15 : ∀ t, Steps p.tables e below (T13.setTop (mkF m 101 #[vR o0, vI p1, vD d2, s_, vI (10 : Int32), vD qf, s_] [])) t → Steps p.tables e below (T0.setTop (mkF m 24 #[vR o0, vI p1, vD d2, s_, vI (10 : Int32), u_, u_] [])) t := by
      intro t k
      refine c14 t ?_
      show Steps p.tables e below (T13.setTop (mkF m 77 #[vR o0, vI p1, vD d2, s_, vI (10 : Int32), vD qf, s_] [(.int qk)])) _
      refine XS.ifNo X13.here hx rfl (hb hby d8_77) rfl (Jvm.Free.XT.i0_ne_f hb77) ?_
      refine XS.goto X13.here hx rfl (pc0 := 80) (pc' := 101) rfl (hb hby d8_80) (by decide) (by decide) ?_
      exact k
    obtain ⟨fs, hr, hrun, hended, hW, hsame⟩ := X13.leave (v := none) (fun _ => rfl)
    refine ⟨_, _, c15 _ ?_, hrun, hended, _, _, rfl, ?_, ⟨_, rfl⟩, hW, hsame.mono (by decide) (by decide)⟩
    · show Steps p.tables e below (T13.setTop (mkF m 101 #[vR o0, vI p1, vD d2, s_, vI (10 : Int32), vD qf, s_] [])) _
      exact X13.returnOut hx Bd.returns (hb hby d8_101) hr
    · show Q8_n10 Z o0 p1 d2 qd y0 y1 y2 y3 y4 y5 y6 y7 y8 y9 y10 y11 y12 y13 y14 y15 y16 y17 y18 y19 y20 y21 y22 y23 y24 y25 y26 y27 y28 y29 y30 y31 qj qc qg qf z61 qk qdg qfB qcp qbN qei qcF qbn qeb qdx h0 n0 _ T13.heap _
      rw [e13]
      exact ⟨z61, rfl, N13, K8, (Eq.mp (congrArg (fun l => Arv Z _ qc qd .double (32 : Int32) l (.double (0 : UInt64))) (show (t32 y0 y1 y2 y3 y4 y5 y6 y7 y8 y9 y10 y11 y12 y13 y14 y15 y16 y17 y18 y19 y20 y21 y22 y23 y24 y25 y26 y27 y28 y29 y30 y31) = (t32 y0 qbn qbN y3 y4 qdg y6 y7 y8 y9 qf y11 y12 y13 y14 y15 y16 y17 y18 y19 y20 y21 y22 y23 y24 y25 y26 y27 y28 y29 y30 y31) by rw [eq0_1 hb77, eq0_2 hb77, eq0_5 hb77, eq0_10 hb77])) f11), (qi.other W7 (Or.inr (slot_ne (Or.inl (hwi hw 22 rfl)) (Or.inl (hwi hw 52 rfl)) (by decide) (t := .int) (t' := .long) (by decide) (by decide)))), (qo.other W7 (Or.inr (slot_ne (Or.inl (hwi hw 38 rfl)) (Or.inl (hwi hw 52 rfl)) (by decide) (t := .int) (t' := .long) (by decide) (by decide)))), f9, F7w, (qbS.wr W7)⟩
  · skip
    obtain ⟨T16, X16, e16, st16⟩ := getF X13 hx hZ hown (host := "") (Or.inl (hwi hw 19 rfl)) Via.refl e13 f9 (g := (mkF m 84 #[vR o0, vI p1, vD d2, s_, vI (10 : Int32), vD qf, s_] [(.ref o0)])) rfl rfl (hb hby d8_84)
    obtain ⟨cl17, Ar17, q17, S17, Nn17, Ha17, G17⟩ := id f11
    have in17 : ¬ ((10 : Int32) < 0 ∨ cl17.slots.size ≤ ((10 : Int32)).toNatClampNeg) := inb_of S17 ⟨by decide, by decide⟩
    obtain ⟨T18, h18, X18, e18, W18, st18⟩ := stD X16 hx hZ e16 Ar17 (j := (10 : Int32)) in17 (g := (mkF m 91 #[vR o0, vI p1, vD d2, s_, vI (10 : Int32), vD qf, s_] [(.double qf), (.int (10 : Int32)), (.ref qc)])) rfl rfl (hb hby d8_91)
    have N18 := Fr.snoc X18 N13 qp
    have K19 : Keep h0 h18 [o0, qc] := K8.wr W18 (Or.inl (by simp))
    have V18 : Arv Z h18 qc qd .double (32 : Int32) (t32 y0 y1 y2 y3 y4 y5 y6 y7 y8 y9 qf y11 y12 y13 y14 y15 y16 y17 y18 y19 y20 y21 y22 y23 y24 y25 y26 y27 y28 y29 y30 y31) (.double (0 : UInt64)) := Arv.set Ar17 q17 S17 Nn17 Ha17 G17 rfl W18 10 rfl (show (10 : Nat) < 32 by decide)
    have c20 : ∀ t, Steps p.tables e below (T18.setTop (mkF m 24 #[vR o0, vI p1, vD d2, s_, vI (5 : Int32), vD qf, s_] [])) t → Steps p.tables e below (T0.setTop (mkF m 24 #[vR o0, vI p1, vD d2, s_, vI (10 : Int32), u_, u_] [])) t := by
      intro t k
      refine c14 t ?_
      show Steps p.tables e below (T13.setTop (mkF m 77 #[vR o0, vI p1, vD d2, s_, vI (10 : Int32), vD qf, s_] [(.int qk)])) _
      refine XS.ifYes X13.here hx rfl (pc0 := 77) (pc' := 83) rfl (hb hby d8_77) rfl (Jvm.Free.XT.i0_ne_t hb77) (by decide) (by decide) ?_
      refine XS.aloadN X13.here hx rfl (hb hby d8_83) rfl rfl ?_
      refine st16 _ ?_
      show Steps p.tables e below (T16.setTop (mkF m 87 #[vR o0, vI p1, vD d2, s_, vI (10 : Int32), vD qf, s_] [(.ref qc)])) _
      refine XS.iload X16.here hx rfl (hb hby d8_87) rfl ?_
      refine XS.dload X16.here hx rfl (hb hby d8_89) rfl ?_
      refine st18 _ ?_
      show Steps p.tables e below (T18.setTop (mkF m 92 #[vR o0, vI p1, vD d2, s_, vI (10 : Int32), vD qf, s_] [])) _
      refine XS.iload X18.here hx rfl (hb hby d8_92) rfl ?_
      refine XS.iconst X18.here hx rfl (hb hby d8_94) ?_
      refine Jvm.OwnK.idiv X18.here hx rfl (hb hby d8_95) rfl (by decide) (v := (5 : Int32)) (by decide) ?_
      refine XS.istore X18.here hx rfl (hb hby d8_96) rfl (l' := #[vR o0, vI p1, vD d2, s_, vI (5 : Int32), vD qf, s_]) rfl ?_
      refine XS.goto X18.here hx rfl (pc0 := 98) (pc' := 24) rfl (hb hby d8_98) (by decide) (by decide) ?_
      exact k
    have f22 := ((qi.other W7 (Or.inr (slot_ne (Or.inl (hwi hw 22 rfl)) (Or.inl (hwi hw 52 rfl)) (by decide) (t := .int) (t' := .long) (by decide) (by decide)))).other W18 (Or.inl qe))
    have f23 := ((qo.other W7 (Or.inr (slot_ne (Or.inl (hwi hw 38 rfl)) (Or.inl (hwi hw 52 rfl)) (by decide) (t := .int) (t' := .long) (by decide) (by decide)))).other W18 (Or.inl qe))
    have f24 := (f9.other W18 (Or.inl qe))
    have f25 := (F7w.other W18 (Or.inl qe))
    have f26 := ((qbS.wr W7).wr W18)
    obtain ⟨T21, o21q, sq21, rq21, eq21, _, L21, ho21, ⟨qdJ, rfl, N21, K21q, Q21_0, Q21_1, Q21_2, Q21_3, Q21_4, Q21_5⟩, hF21⟩ := tl8_n5 l Z a0 hw ws o0 p1 d2 qd y0 y1 y2 y3 y4 y5 y6 y7 y8 y9 qf y11 y12 y13 y14 y15 y16 y17 y18 y19 y20 y21 y22 y23 y24 y25 y26 y27 y28 y29 y30 y31 qj qc z61 qf qdg qfB qcp qbN qei qcF qbn qeb qdx h18 n0 (Nat.le_trans (Nat.le_trans Z0 (Keep.of_wr W7).1) (Keep.of_wr W18).1) V18 qe f22 f23 f24 f25 qp f26 qU qlL qn3 qlM qi0 qlN qi1 qhb qi2 qhc (qmF hb77) (qmG hb77) (qjP hb77) (qjQ hb77) (qhG hb77) (qhH hb77) (qh8 hb77) (qkS hb77) (qkT hb77) (qnF hb77) (qnG hb77) (qnH hb77) Bd hml0 hZ X18 e18 N18
    have K27 : Keep h0 T21.heap [o0, qc] := Keep.trans K19 K21q (allS (Or.inl (by simp)) (allS (Or.inl (by simp)) all0))
    exact ⟨T21, o21q, c20 _ sq21, rq21, eq21, _, L21, ho21, ⟨qdJ, rfl, N21, K27, Q21_0, Q21_1, Q21_2, Q21_3, Q21_4, Q21_5⟩, hF21⟩
def Q8_n11 (Z : State) (o0 : Addr) (p1 : Int32) (d2 : UInt64) (qd : ClassId) (y0 y1 y2 y3 y4 y5 y6 y7 y8 y9 y10 y11 y12 y13 y14 y15 y16 y17 y18 y19 y20 y21 y22 y23 y24 y25 y26 y27 y28 y29 y30 y31 : UInt64) (qj : Int32) (qc : Addr) (qg : Int64) (qf : UInt64) (z61 : Int64) (qk : Int32) (qdg : UInt64) (qfB : Int64) (qcp : Int32) (qbN : UInt64) (qei : Int64) (qcF : Int32) (qbn : UInt64) (qeb : Int64) (qdx : Int32) (h0 : Heap) (n0 : Nat) (v : Option Value) (h : Heap) (L : List Loc) : Prop := ∃ vx_visits_o0 : Int64, v = none ∧ Fr n0 L ∧ Keep h0 h [o0, qc] ∧ Arv Z h qc qd .double (32 : Int32) (t32 y0 qbn qbN y3 y4 qdg y6 y7 y8 y9 y10 qf y12 y13 y14 y15 y16 y17 y18 y19 y20 y21 y22 y23 y24 y25 y26 y27 y28 y29 y30 y31) (.double (0 : UInt64)) ∧ Fld Z h o0 MTc "capacity" "I" (.int (16 : Int32)) ∧ Fld Z h o0 MTc "count" "I" (.int qj) ∧ Fld Z h o0 MTc "minima" "[D" (.ref qc) ∧ Fld Z h o0 MTc "visits" "J" (.long vx_visits_o0) ∧ Exa Z h o0 MTc
set_option maxRecDepth 65536 in
set_option maxHeartbeats 40000000 in
theorem tl8_n11 (l : Launch) (Z : State) (a0 : Array Value) (hw : ∀ d ∈ tables_1, d.before a0 Z = true) (ws : List Jvm.Cond) (o0 : Addr) (p1 : Int32) (d2 : UInt64) (qd : ClassId) (y0 y1 y2 y3 y4 y5 y6 y7 y8 y9 y10 y11 y12 y13 y14 y15 y16 y17 y18 y19 y20 y21 y22 y23 y24 y25 y26 y27 y28 y29 y30 y31 : UInt64) (qj : Int32) (qc : Addr) (qg : Int64) (qf : UInt64) (z61 : Int64) (qk : Int32) (qdg : UInt64) (qfB : Int64) (qcp : Int32) (qbN : UInt64) (qei : Int64) (qcF : Int32) (qbn : UInt64) (qeb : Int64) (qdx : Int32) (h0 : Heap) (n0 : Nat) (Z0 : n0 ≤ h0.size) (qm : Arv Z h0 qc qd .double (32 : Int32) (t32 y0 y1 y2 y3 y4 y5 y6 y7 y8 y9 y10 y11 y12 y13 y14 y15 y16 y17 y18 y19 y20 y21 y22 y23 y24 y25 y26 y27 y28 y29 y30 y31) (.double (0 : UInt64))) (qe : o0 ≠ qc) (qi : Fld Z h0 o0 MTc "capacity" "I" (.int (16 : Int32))) (qo : Fld Z h0 o0 MTc "count" "I" (.int qj)) (qn : Fld Z h0 o0 MTc "minima" "[D" (.ref qc)) (qr : Fld Z h0 o0 MTc "visits" "J" (.long qg)) (qp : n0 ≤ qc) (qbS : Exa Z h0 o0 MTc) (qU : n0 ≤ o0) (qez : mnf y22 y23 = qf) (hz61 : qg + (1 : Int64) = z61) (qeA : cmpf qf y11 = qk) (qlL : mnf y10 qf = qdg) (qn3 : z61 + (1 : Int64) = qfB) (qlM : cmpf qdg y5 = qcp) (qi0 : mnf y4 qdg = qbN) (qlN : qfB + (1 : Int64) = qei) (qi1 : cmpf qbN y2 = qcF) (qhb : mnf qbN y3 = qbn) (qi2 : qei + (1 : Int64) = qeb) (qhc : cmpf qbn y1 = qdx) (qe0 : TV y22) (qe1 : TV y23) (qmF : (¬ qk = (0 : Int32)) → TV y10) (qmG : (¬ qk = (0 : Int32)) → TV qf) (qjP : (¬ qk = (0 : Int32)) → (¬ qcp = (0 : Int32)) → TV y4) (qjQ : (¬ qk = (0 : Int32)) → (¬ qcp = (0 : Int32)) → TV qdg) (qhG : (¬ qk = (0 : Int32)) → (¬ qcp = (0 : Int32)) → (¬ qcF = (0 : Int32)) → TV qbN) (qhH : (¬ qk = (0 : Int32)) → (¬ qcp = (0 : Int32)) → (¬ qcF = (0 : Int32)) → TV y3) (qh8 : (¬ qk = (0 : Int32)) → (¬ qcp = (0 : Int32)) → (¬ qcF = (0 : Int32)) → (qdx = (0 : Int32)) → y1 = qbn) (qkS : (¬ qk = (0 : Int32)) → (¬ qcp = (0 : Int32)) → (qcF = (0 : Int32)) → y1 = qbn) (qkT : (¬ qk = (0 : Int32)) → (¬ qcp = (0 : Int32)) → (qcF = (0 : Int32)) → y2 = qbN) (qnF : (¬ qk = (0 : Int32)) → (qcp = (0 : Int32)) → y1 = qbn) (qnG : (¬ qk = (0 : Int32)) → (qcp = (0 : Int32)) → y2 = qbN) (qnH : (¬ qk = (0 : Int32)) → (qcp = (0 : Int32)) → y5 = qdg) (eq0_1 : (qk = (0 : Int32)) → y1 = qbn) (eq0_2 : (qk = (0 : Int32)) → y2 = qbN) (eq0_5 : (qk = (0 : Int32)) → y5 = qdg) (eq0_11 : (qk = (0 : Int32)) → y11 = qf) {p : Program} {e : Env} {s : State} {m : MethodId} {below : List Frame} {meth : Method} {c : Code} {s₁ T0 : State} {locs0 : List Loc} (Bd : BodyLoose p l (⟨MTc, "set", "(ID)V"⟩ : MethodName) (head1 (Jvm.Cond.code (⟨MTc, "set", "(ID)V"⟩ : MethodName) prog_28_method_3_code 7 none :: ws) ({ frames := 3, cells := 0, slots := 0, locals := 90 } : Room)) prog_28_method_3_code 7 none e s m #[(.ref o0), (.int p1), (.double d2)] below meth c s₁) (hml0 : c.maxLocals = 7) (hZ : Z.Warmed39 s.vm) (X0 : Stand p l e ({ frames := 3, cells := 0, slots := 0, locals := 90 } : Room) s m #[(.ref o0), (.int p1), (.double d2)] below meth c T0 locs0 0 0) (e0 : T0.heap = h0) (N0 : Fr n0 locs0) :
    ∃ t o, Steps p.tables e below (T0.setTop (mkF m 24 #[vR o0, vI p1, vD d2, s_, vI (11 : Int32), u_, u_] [])) t ∧ t.status = .running ∧ Ended t below o ∧ ∃ v L, o = .returned v ∧ Q8_n11 Z o0 p1 d2 qd y0 y1 y2 y3 y4 y5 y6 y7 y8 y9 y10 y11 y12 y13 y14 y15 y16 y17 y18 y19 y20 y21 y22 y23 y24 y25 y26 y27 y28 y29 y30 y31 qj qc qg qf z61 qk qdg qfB qcp qbN qei qcF qbn qeb qdx h0 n0 v t.heap L ∧ FrameEnd s o t L ({ frames := 3, cells := 0, slots := 0, locals := 90 } : Room).cells ({ frames := 3, cells := 0, slots := 0, locals := 90 } : Room).slots := by
  have hx := Bd.exec
  have hby := Bd.bytes
  have hml : c.maxLocals = 7 := hml0
  have hown : s.vm.findClass MTc = some m.cls := findClass_of_methodNamed Bd.named
  have hnm := (name_of_methodNamed Bd.named Bd.method).1
  have c0 : ∀ t, Steps p.tables e below (T0.setTop (mkF m 24 #[vR o0, vI p1, vD d2, s_, vI (11 : Int32), u_, u_] [])) t → Steps p.tables e below (T0.setTop (mkF m 24 #[vR o0, vI p1, vD d2, s_, vI (11 : Int32), u_, u_] [])) t := fun _ k => k
  obtain ⟨T1, X1, e1, st1⟩ := getF X0 hx hZ hown (host := "") (Or.inl (hwi hw 19 rfl)) Via.refl e0 qn (g := (mkF m 31 #[vR o0, vI p1, vD d2, s_, vI (11 : Int32), u_, u_] [(.ref o0)])) rfl rfl (hb hby d8_31)
  obtain ⟨cl2, Ar2, -, S2, -, Ha2, -⟩ := id qm
  have in2 : ¬ ((22 : Int32) < 0 ∨ cl2.slots.size ≤ ((22 : Int32)).toNatClampNeg) := inb_of S2 ⟨by decide, by decide⟩
  obtain ⟨T3, X3, e3, st3⟩ := getF X1 hx hZ hown (host := "") (Or.inl (hwi hw 19 rfl)) Via.refl e1 qn (g := (mkF m 40 #[vR o0, vI p1, vD d2, s_, vI (11 : Int32), u_, u_] [(.ref o0), (.double y22)])) rfl rfl (hb hby d8_40)
  obtain ⟨cl4, Ar4, -, S4, -, Ha4, -⟩ := id qm
  have in4 : ¬ ((23 : Int32) < 0 ∨ cl4.slots.size ≤ ((23 : Int32)).toNatClampNeg) := inb_of S4 ⟨by decide, by decide⟩
  obtain ⟨_, _, ⟨T5, L5, k5, n5⟩, -, X5, ⟨Lc5, hQ5, ql5, qy5, qz5⟩, st5⟩ := Jvm.LawKit.callS X3 hx (y := (⟨MTc, "min", "(DD)D"⟩ : MethodName)) hown (mvT hZ (hwi hw 44 rfl)) (mvT hZ (hwi hw 45 rfl)) (mvT hZ (hwi hw 4 rfl)) (mvT hZ (hwi hw 46 rfl)) (by decide) (backOf (W := 0) (rm9w l Z a0 hw [] y22 y23 qf h0 n0 Z0 qez qe0 qe1) hZ (hwi hw 46 rfl) (hwi hw 4 rfl) (by decide) (by decide)) (g := (mkF m 50 #[vR o0, vI p1, vD d2, s_, vI (11 : Int32), u_, u_] [(.double y23), (.double y22)])) rfl (by rw [hml]; rfl) (argsL := [(.double y22), (.double y23)]) (rest := []) (lenOf pd_2 rfl) rfl (by show 2 * 0 + _ ≤ _; exact Nat.le_of_eq rfl) (hb hby d8_50) (fun _ _ => ⟨rfl, e3, (by decide : 0 + 0 ≤ _), (by decide : 0 + 0 ≤ _)⟩)
  dsimp only [Pt.U, Pt.locs, Pt.cells, Pt.slots] at X5 ql5 qy5 qz5 st5 hQ5
  subst ql5 qy5 qz5
  obtain ⟨rfl, N5q, e5⟩ := hQ5
  have N5 := Fr.app N0 N5q
  obtain ⟨T6, X6, e6, st6⟩ := getF X5 hx hZ hown (host := "") (Or.inl (hwi hw 51 rfl)) Via.refl e5 qr (g := (mkF m 57 #[vR o0, vI p1, vD d2, s_, vI (11 : Int32), vD qf, s_] [(.ref o0), (.ref o0)])) rfl rfl (hb hby d8_57)
  obtain ⟨T7, h7, X7, e7, W7, st7⟩ := putF X6 hx hZ hown (host := "") (Or.inl (hwi hw 51 rfl)) Via.refl e6 qr qbS (Or.inl (hwi hw 52 rfl)) (hwi hw 3 rfl) (ty := .long) (by decide) rfl rfl (g := (mkF m 62 #[vR o0, vI p1, vD d2, s_, vI (11 : Int32), vD qf, s_] [(.long z61), (.ref o0)])) rfl rfl (hb hby d8_62)
  have N7 := Fr.snoc X7 N5 qU
  have K8 : Keep h0 h7 [o0, qc] := (Keep.refl h0 [o0, qc]).wr W7 (Or.inl (by simp))
  have F7w := qr.same W7
  have f9 := (qn.other W7 (Or.inr (slot_ne (Or.inl (hwi hw 20 rfl)) (Or.inl (hwi hw 52 rfl)) (by decide) (t := (.array .double)) (t' := .long) (by decide) (by decide))))
  obtain ⟨T10, X10, e10, st10⟩ := getF X7 hx hZ hown (host := "") (Or.inl (hwi hw 19 rfl)) Via.refl e7 f9 (g := (mkF m 68 #[vR o0, vI p1, vD d2, s_, vI (11 : Int32), vD qf, s_] [(.ref o0), (.double qf)])) rfl rfl (hb hby d8_68)
  have f11 := (qm.other W7 (Ne.symm qe))
  obtain ⟨cl12, Ar12, -, S12, -, Ha12, -⟩ := id f11
  have in12 : ¬ ((11 : Int32) < 0 ∨ cl12.slots.size ≤ ((11 : Int32)).toNatClampNeg) := inb_of S12 ⟨by decide, by decide⟩
  obtain ⟨_, _, ⟨T13, L13, k13, n13⟩, -, X13, ⟨Lc13, hQ13, ql13, qy13, qz13⟩, st13⟩ := Jvm.LawKit.callS X10 hx (y := (⟨"java/lang/Double", "compare", "(DD)I"⟩ : MethodName)) hown (mvT hZ (hwi hw 53 rfl)) (mvT hZ (hwi hw 54 rfl)) (mvT hZ (hwi hw 49 rfl)) (mvT hZ (hwi hw 55 rfl)) (by decide) (backOf (W := 0) (rm11w l Z a0 hw [] qf y11 qk h7 n0 (Nat.le_trans Z0 (Keep.of_wr W7).1) qeA) hZ (hwi hw 55 rfl) (hwi hw 49 rfl) (by decide) (by decide)) (g := (mkF m 74 #[vR o0, vI p1, vD d2, s_, vI (11 : Int32), vD qf, s_] [(.double y11), (.double qf)])) rfl (by rw [hml]; rfl) (argsL := [(.double qf), (.double y11)]) (rest := []) (lenOf pd_5 rfl) rfl (by show 2 * 0 + _ ≤ _; exact Nat.le_of_eq rfl) (hb hby d8_74) (fun _ _ => ⟨rfl, e10, (by decide : 0 + 0 ≤ _), (by decide : 0 + 0 ≤ _)⟩)
  dsimp only [Pt.U, Pt.locs, Pt.cells, Pt.slots] at X13 ql13 qy13 qz13 st13 hQ13
  subst ql13 qy13 qz13
  obtain ⟨rfl, N13q, e13⟩ := hQ13
  have N13 := Fr.app N7 N13q
  have c14 : ∀ t, Steps p.tables e below (T13.setTop (mkF m 77 #[vR o0, vI p1, vD d2, s_, vI (11 : Int32), vD qf, s_] [(.int qk)])) t → Steps p.tables e below (T0.setTop (mkF m 24 #[vR o0, vI p1, vD d2, s_, vI (11 : Int32), u_, u_] [])) t := by
    intro t k
    refine c0 t ?_
    show Steps p.tables e below (T0.setTop (mkF m 24 #[vR o0, vI p1, vD d2, s_, vI (11 : Int32), u_, u_] [])) _
    refine XS.iload X0.here hx rfl (hb hby d8_24) rfl ?_
    refine XS.iconst X0.here hx rfl (hb hby d8_26) ?_
    refine XS.icmpNo X0.here hx rfl (hb hby d8_27) rfl (Jvm.Free.XT.ii_lt_f (by decide)) ?_
    refine XS.aloadN X0.here hx rfl (hb hby d8_30) rfl rfl ?_
    refine st1 _ ?_
    show Steps p.tables e below (T1.setTop (mkF m 34 #[vR o0, vI p1, vD d2, s_, vI (11 : Int32), u_, u_] [(.ref qc)])) _
    refine XS.iconst X1.here hx rfl (hb hby d8_34) ?_
    refine XS.iload X1.here hx rfl (hb hby d8_35) rfl ?_
    refine Jvm.OwnK.imul X1.here hx rfl (hb hby d8_37) rfl (v := (22 : Int32)) (by decide) ?_
    refine X1.daload hx (j := (22 : Int32)) (v := (.double y22)) (by rw [e1]; exact Ar2.1) (State.isArrayOf_alike hZ.alike Ar2.2.1) Ar2.2.2 in2 (Has.at Ha2 in2 rfl) (g := (mkF m 38 #[vR o0, vI p1, vD d2, s_, vI (11 : Int32), u_, u_] [(.int (22 : Int32)), (.ref qc)])) rfl rfl (hb hby d8_38) _ ?_
    refine XS.aloadN X1.here hx rfl (hb hby d8_39) rfl rfl ?_
    refine st3 _ ?_
    show Steps p.tables e below (T3.setTop (mkF m 43 #[vR o0, vI p1, vD d2, s_, vI (11 : Int32), u_, u_] [(.ref qc), (.double y22)])) _
    refine XS.iconst X3.here hx rfl (hb hby d8_43) ?_
    refine XS.iload X3.here hx rfl (hb hby d8_44) rfl ?_
    refine Jvm.OwnK.imul X3.here hx rfl (hb hby d8_46) rfl (v := (22 : Int32)) (by decide) ?_
    refine XS.iconst X3.here hx rfl (hb hby d8_47) ?_
    refine Jvm.OwnK.iadd X3.here hx rfl (hb hby d8_48) rfl (v := (23 : Int32)) (by decide) ?_
    refine X3.daload hx (j := (23 : Int32)) (v := (.double y23)) (by rw [e3]; exact Ar4.1) (State.isArrayOf_alike hZ.alike Ar4.2.1) Ar4.2.2 in4 (Has.at Ha4 in4 rfl) (g := (mkF m 49 #[vR o0, vI p1, vD d2, s_, vI (11 : Int32), u_, u_] [(.int (23 : Int32)), (.ref qc), (.double y22)])) rfl rfl (hb hby d8_49) _ ?_
    show Steps p.tables e below (T3.setTop (mkF m 50 #[vR o0, vI p1, vD d2, s_, vI (11 : Int32), u_, u_] [(.double y23), (.double y22)])) _
    refine st5 _ ?_
    show Steps p.tables e below (T5.setTop (mkF m 53 #[vR o0, vI p1, vD d2, s_, vI (11 : Int32), u_, u_] [(.double qf)])) _
    refine XS.dstore X5.here hx rfl (hb hby d8_53) rfl (l' := #[vR o0, vI p1, vD d2, s_, vI (11 : Int32), vD qf, s_]) rfl ?_
    refine XS.aloadN X5.here hx rfl (hb hby d8_55) rfl rfl ?_
    refine XS.dup X5.here hx rfl (hb hby d8_56) rfl rfl ?_
    refine st6 _ ?_
    show Steps p.tables e below (T6.setTop (mkF m 60 #[vR o0, vI p1, vD d2, s_, vI (11 : Int32), vD qf, s_] [(.long qg), (.ref o0)])) _
    refine XS.lconst X6.here hx rfl (hb hby d8_60) ?_
    refine Jvm.OwnK.ladd X6.here hx rfl (hb hby d8_61) rfl hz61 ?_
    refine st7 _ ?_
    show Steps p.tables e below (T7.setTop (mkF m 65 #[vR o0, vI p1, vD d2, s_, vI (11 : Int32), vD qf, s_] [])) _
    refine XS.dload X7.here hx rfl (hb hby d8_65) rfl ?_
    refine XS.aloadN X7.here hx rfl (hb hby d8_67) rfl rfl ?_
    refine st10 _ ?_
    show Steps p.tables e below (T10.setTop (mkF m 71 #[vR o0, vI p1, vD d2, s_, vI (11 : Int32), vD qf, s_] [(.ref qc), (.double qf)])) _
    refine XS.iload X10.here hx rfl (hb hby d8_71) rfl ?_
    refine X10.daload hx (j := (11 : Int32)) (v := (.double y11)) (by rw [e10]; exact Ar12.1) (State.isArrayOf_alike hZ.alike Ar12.2.1) Ar12.2.2 in12 (Has.at Ha12 in12 rfl) (g := (mkF m 73 #[vR o0, vI p1, vD d2, s_, vI (11 : Int32), vD qf, s_] [(.int (11 : Int32)), (.ref qc), (.double qf)])) rfl rfl (hb hby d8_73) _ ?_
    refine st13 _ ?_
    exact k
  by_cases hb77 : qk = (0 : Int32)
  · skip
    have c15 : ∀ t, Steps p.tables e below (T13.setTop (mkF m 101 #[vR o0, vI p1, vD d2, s_, vI (11 : Int32), vD qf, s_] [])) t → Steps p.tables e below (T0.setTop (mkF m 24 #[vR o0, vI p1, vD d2, s_, vI (11 : Int32), u_, u_] [])) t := by
      intro t k
      refine c14 t ?_
      show Steps p.tables e below (T13.setTop (mkF m 77 #[vR o0, vI p1, vD d2, s_, vI (11 : Int32), vD qf, s_] [(.int qk)])) _
      refine XS.ifNo X13.here hx rfl (hb hby d8_77) rfl (Jvm.Free.XT.i0_ne_f hb77) ?_
      refine XS.goto X13.here hx rfl (pc0 := 80) (pc' := 101) rfl (hb hby d8_80) (by decide) (by decide) ?_
      exact k
    obtain ⟨fs, hr, hrun, hended, hW, hsame⟩ := X13.leave (v := none) (fun _ => rfl)
    refine ⟨_, _, c15 _ ?_, hrun, hended, _, _, rfl, ?_, ⟨_, rfl⟩, hW, hsame.mono (by decide) (by decide)⟩
    · show Steps p.tables e below (T13.setTop (mkF m 101 #[vR o0, vI p1, vD d2, s_, vI (11 : Int32), vD qf, s_] [])) _
      exact X13.returnOut hx Bd.returns (hb hby d8_101) hr
    · show Q8_n11 Z o0 p1 d2 qd y0 y1 y2 y3 y4 y5 y6 y7 y8 y9 y10 y11 y12 y13 y14 y15 y16 y17 y18 y19 y20 y21 y22 y23 y24 y25 y26 y27 y28 y29 y30 y31 qj qc qg qf z61 qk qdg qfB qcp qbN qei qcF qbn qeb qdx h0 n0 _ T13.heap _
      rw [e13]
      exact ⟨z61, rfl, N13, K8, (Eq.mp (congrArg (fun l => Arv Z _ qc qd .double (32 : Int32) l (.double (0 : UInt64))) (show (t32 y0 y1 y2 y3 y4 y5 y6 y7 y8 y9 y10 y11 y12 y13 y14 y15 y16 y17 y18 y19 y20 y21 y22 y23 y24 y25 y26 y27 y28 y29 y30 y31) = (t32 y0 qbn qbN y3 y4 qdg y6 y7 y8 y9 y10 qf y12 y13 y14 y15 y16 y17 y18 y19 y20 y21 y22 y23 y24 y25 y26 y27 y28 y29 y30 y31) by rw [eq0_1 hb77, eq0_2 hb77, eq0_5 hb77, eq0_11 hb77])) f11), (qi.other W7 (Or.inr (slot_ne (Or.inl (hwi hw 22 rfl)) (Or.inl (hwi hw 52 rfl)) (by decide) (t := .int) (t' := .long) (by decide) (by decide)))), (qo.other W7 (Or.inr (slot_ne (Or.inl (hwi hw 38 rfl)) (Or.inl (hwi hw 52 rfl)) (by decide) (t := .int) (t' := .long) (by decide) (by decide)))), f9, F7w, (qbS.wr W7)⟩
  · skip
    obtain ⟨T16, X16, e16, st16⟩ := getF X13 hx hZ hown (host := "") (Or.inl (hwi hw 19 rfl)) Via.refl e13 f9 (g := (mkF m 84 #[vR o0, vI p1, vD d2, s_, vI (11 : Int32), vD qf, s_] [(.ref o0)])) rfl rfl (hb hby d8_84)
    obtain ⟨cl17, Ar17, q17, S17, Nn17, Ha17, G17⟩ := id f11
    have in17 : ¬ ((11 : Int32) < 0 ∨ cl17.slots.size ≤ ((11 : Int32)).toNatClampNeg) := inb_of S17 ⟨by decide, by decide⟩
    obtain ⟨T18, h18, X18, e18, W18, st18⟩ := stD X16 hx hZ e16 Ar17 (j := (11 : Int32)) in17 (g := (mkF m 91 #[vR o0, vI p1, vD d2, s_, vI (11 : Int32), vD qf, s_] [(.double qf), (.int (11 : Int32)), (.ref qc)])) rfl rfl (hb hby d8_91)
    have N18 := Fr.snoc X18 N13 qp
    have K19 : Keep h0 h18 [o0, qc] := K8.wr W18 (Or.inl (by simp))
    have V18 : Arv Z h18 qc qd .double (32 : Int32) (t32 y0 y1 y2 y3 y4 y5 y6 y7 y8 y9 y10 qf y12 y13 y14 y15 y16 y17 y18 y19 y20 y21 y22 y23 y24 y25 y26 y27 y28 y29 y30 y31) (.double (0 : UInt64)) := Arv.set Ar17 q17 S17 Nn17 Ha17 G17 rfl W18 11 rfl (show (11 : Nat) < 32 by decide)
    have c20 : ∀ t, Steps p.tables e below (T18.setTop (mkF m 24 #[vR o0, vI p1, vD d2, s_, vI (5 : Int32), vD qf, s_] [])) t → Steps p.tables e below (T0.setTop (mkF m 24 #[vR o0, vI p1, vD d2, s_, vI (11 : Int32), u_, u_] [])) t := by
      intro t k
      refine c14 t ?_
      show Steps p.tables e below (T13.setTop (mkF m 77 #[vR o0, vI p1, vD d2, s_, vI (11 : Int32), vD qf, s_] [(.int qk)])) _
      refine XS.ifYes X13.here hx rfl (pc0 := 77) (pc' := 83) rfl (hb hby d8_77) rfl (Jvm.Free.XT.i0_ne_t hb77) (by decide) (by decide) ?_
      refine XS.aloadN X13.here hx rfl (hb hby d8_83) rfl rfl ?_
      refine st16 _ ?_
      show Steps p.tables e below (T16.setTop (mkF m 87 #[vR o0, vI p1, vD d2, s_, vI (11 : Int32), vD qf, s_] [(.ref qc)])) _
      refine XS.iload X16.here hx rfl (hb hby d8_87) rfl ?_
      refine XS.dload X16.here hx rfl (hb hby d8_89) rfl ?_
      refine st18 _ ?_
      show Steps p.tables e below (T18.setTop (mkF m 92 #[vR o0, vI p1, vD d2, s_, vI (11 : Int32), vD qf, s_] [])) _
      refine XS.iload X18.here hx rfl (hb hby d8_92) rfl ?_
      refine XS.iconst X18.here hx rfl (hb hby d8_94) ?_
      refine Jvm.OwnK.idiv X18.here hx rfl (hb hby d8_95) rfl (by decide) (v := (5 : Int32)) (by decide) ?_
      refine XS.istore X18.here hx rfl (hb hby d8_96) rfl (l' := #[vR o0, vI p1, vD d2, s_, vI (5 : Int32), vD qf, s_]) rfl ?_
      refine XS.goto X18.here hx rfl (pc0 := 98) (pc' := 24) rfl (hb hby d8_98) (by decide) (by decide) ?_
      exact k
    have f22 := ((qi.other W7 (Or.inr (slot_ne (Or.inl (hwi hw 22 rfl)) (Or.inl (hwi hw 52 rfl)) (by decide) (t := .int) (t' := .long) (by decide) (by decide)))).other W18 (Or.inl qe))
    have f23 := ((qo.other W7 (Or.inr (slot_ne (Or.inl (hwi hw 38 rfl)) (Or.inl (hwi hw 52 rfl)) (by decide) (t := .int) (t' := .long) (by decide) (by decide)))).other W18 (Or.inl qe))
    have f24 := (f9.other W18 (Or.inl qe))
    have f25 := (F7w.other W18 (Or.inl qe))
    have f26 := ((qbS.wr W7).wr W18)
    obtain ⟨T21, o21q, sq21, rq21, eq21, _, L21, ho21, ⟨qdJ, rfl, N21, K21q, Q21_0, Q21_1, Q21_2, Q21_3, Q21_4, Q21_5⟩, hF21⟩ := tl8_n5 l Z a0 hw ws o0 p1 d2 qd y0 y1 y2 y3 y4 y5 y6 y7 y8 y9 y10 qf y12 y13 y14 y15 y16 y17 y18 y19 y20 y21 y22 y23 y24 y25 y26 y27 y28 y29 y30 y31 qj qc z61 qf qdg qfB qcp qbN qei qcF qbn qeb qdx h18 n0 (Nat.le_trans (Nat.le_trans Z0 (Keep.of_wr W7).1) (Keep.of_wr W18).1) V18 qe f22 f23 f24 f25 qp f26 qU qlL qn3 qlM qi0 qlN qi1 qhb qi2 qhc (qmF hb77) (qmG hb77) (qjP hb77) (qjQ hb77) (qhG hb77) (qhH hb77) (qh8 hb77) (qkS hb77) (qkT hb77) (qnF hb77) (qnG hb77) (qnH hb77) Bd hml0 hZ X18 e18 N18
    have K27 : Keep h0 T21.heap [o0, qc] := Keep.trans K19 K21q (allS (Or.inl (by simp)) (allS (Or.inl (by simp)) all0))
    exact ⟨T21, o21q, c20 _ sq21, rq21, eq21, _, L21, ho21, ⟨qdJ, rfl, N21, K27, Q21_0, Q21_1, Q21_2, Q21_3, Q21_4, Q21_5⟩, hF21⟩
def Q8_1 (Z : State) (o0 : Addr) (d2 : UInt64) (qd : ClassId) (y0 y1 y2 y3 y4 y5 y6 y7 y8 y9 y10 y11 y12 y13 y14 y15 y16 y17 y18 y19 y20 y21 y22 y23 y24 y25 y26 y27 y28 y29 y30 y31 : UInt64) (qj : Int32) (qc : Addr) (qg : Int64) (qdN : UInt64) (qgs : Int64) (qbu : Int32) (qcG : UInt64) (qeG : Int64) (qby : Int32) (qbz : UInt64) (qec : Int64) (qcj : Int32) (qbk : UInt64) (qd8 : Int64) (qdq : Int32) (h0 : Heap) (n0 : Nat) (v : Option Value) (h : Heap) (L : List Loc) : Prop := ∃ vx_visits_o0 : Int64, v = none ∧ Fr n0 L ∧ Keep h0 h [qc, o0] ∧ Arv Z h qc qd .double (32 : Int32) (t32 y0 qbk qbz y3 qcG y5 y6 y7 qdN y9 y10 y11 y12 y13 y14 y15 d2 y17 y18 y19 y20 y21 y22 y23 y24 y25 y26 y27 y28 y29 y30 y31) (.double (0 : UInt64)) ∧ Fld Z h o0 MTc "capacity" "I" (.int (16 : Int32)) ∧ Fld Z h o0 MTc "count" "I" (.int qj) ∧ Fld Z h o0 MTc "minima" "[D" (.ref qc) ∧ Fld Z h o0 MTc "visits" "J" (.long vx_visits_o0) ∧ Exa Z h o0 MTc
set_option maxRecDepth 65536 in
set_option maxHeartbeats 40000000 in
theorem rm8_1 (l : Launch) (Z : State) (a0 : Array Value) (hw : ∀ d ∈ tables_1, d.before a0 Z = true) (ws : List Jvm.Cond) (o0 : Addr) (d2 : UInt64) (qd : ClassId) (y0 y1 y2 y3 y4 y5 y6 y7 y8 y9 y10 y11 y12 y13 y14 y15 y16 y17 y18 y19 y20 y21 y22 y23 y24 y25 y26 y27 y28 y29 y30 y31 : UInt64) (qj : Int32) (qc : Addr) (qg : Int64) (qdN : UInt64) (qgs : Int64) (qbu : Int32) (qcG : UInt64) (qeG : Int64) (qby : Int32) (qbz : UInt64) (qec : Int64) (qcj : Int32) (qbk : UInt64) (qd8 : Int64) (qdq : Int32) (h0 : Heap) (n0 : Nat) (Z0 : n0 ≤ h0.size) (qm : Arv Z h0 qc qd .double (32 : Int32) (t32 y0 y1 y2 y3 y4 y5 y6 y7 y8 y9 y10 y11 y12 y13 y14 y15 y16 y17 y18 y19 y20 y21 y22 y23 y24 y25 y26 y27 y28 y29 y30 y31) (.double (0 : UInt64))) (qe : o0 ≠ qc) (qi : Fld Z h0 o0 MTc "capacity" "I" (.int (16 : Int32))) (qo : Fld Z h0 o0 MTc "count" "I" (.int qj)) (qn : Fld Z h0 o0 MTc "minima" "[D" (.ref qc)) (qr : Fld Z h0 o0 MTc "visits" "J" (.long qg)) (qp : n0 ≤ qc) (qbS : Exa Z h0 o0 MTc) (qU : n0 ≤ o0) (qlO : mnf d2 y17 = qdN) (qn4 : qg + (1 : Int64) = qgs) (qlP : cmpf qdN y8 = qbu) (qi3 : mnf qdN y9 = qcG) (qlQ : qgs + (1 : Int64) = qeG) (qi4 : cmpf qcG y4 = qby) (qhd : mnf qcG y5 = qbz) (qi5 : qeG + (1 : Int64) = qec) (qhe : cmpf qbz y2 = qcj) (qgc : mnf qbz y3 = qbk) (qhf : qec + (1 : Int64) = qd8) (qgd : cmpf qbk y1 = qdq) (qmH : TV d2) (qmI : TV y17) (qjR : (¬ qbu = (0 : Int32)) → TV qdN) (qjS : (¬ qbu = (0 : Int32)) → TV y9) (qhI : (¬ qbu = (0 : Int32)) → (¬ qby = (0 : Int32)) → TV qcG) (qhJ : (¬ qbu = (0 : Int32)) → (¬ qby = (0 : Int32)) → TV y5) (qgt : (¬ qbu = (0 : Int32)) → (¬ qby = (0 : Int32)) → (¬ qcj = (0 : Int32)) → TV qbz) (qgu : (¬ qbu = (0 : Int32)) → (¬ qby = (0 : Int32)) → (¬ qcj = (0 : Int32)) → TV y3) (qgK : (¬ qbu = (0 : Int32)) → (¬ qby = (0 : Int32)) → (¬ qcj = (0 : Int32)) → (qdq = (0 : Int32)) → y1 = qbk) (qh9 : (¬ qbu = (0 : Int32)) → (¬ qby = (0 : Int32)) → (qcj = (0 : Int32)) → y1 = qbk) (qia : (¬ qbu = (0 : Int32)) → (¬ qby = (0 : Int32)) → (qcj = (0 : Int32)) → y2 = qbz) (qkU : (¬ qbu = (0 : Int32)) → (qby = (0 : Int32)) → y1 = qbk) (qkV : (¬ qbu = (0 : Int32)) → (qby = (0 : Int32)) → y2 = qbz) (qkW : (¬ qbu = (0 : Int32)) → (qby = (0 : Int32)) → y4 = qcG) (qnI : (qbu = (0 : Int32)) → y1 = qbk) (qnJ : (qbu = (0 : Int32)) → y2 = qbz) (qnK : (qbu = (0 : Int32)) → y4 = qcG) (qnL : (qbu = (0 : Int32)) → y8 = qdN) :
    MetFree l (⟨MTc, "set", "(ID)V"⟩ : MethodName) (head1 (Jvm.Cond.code (⟨MTc, "set", "(ID)V"⟩ : MethodName) prog_28_method_3_code 7 none :: ws) ({ frames := 3, cells := 0, slots := 0, locals := 90 } : Room)) (fun a U => a = #[(.ref o0), (.int (1 : Int32)), (.double d2)] ∧ Z.Warmed39 U.vm ∧ U.heap = h0) (fun _ _ _ _ _ => True) (fun _ U o U' => ∃ v L, o = .returned v ∧ Q8_1 Z o0 d2 qd y0 y1 y2 y3 y4 y5 y6 y7 y8 y9 y10 y11 y12 y13 y14 y15 y16 y17 y18 y19 y20 y21 y22 y23 y24 y25 y26 y27 y28 y29 y30 y31 qj qc qg qdN qgs qbu qcG qeG qby qbz qec qcj qbk qd8 qdq h0 n0 v U'.heap L ∧ FrameEnd U o U' L ({ frames := 3, cells := 0, slots := 0, locals := 90 } : Room).cells ({ frames := 3, cells := 0, slots := 0, locals := 90 } : Room).slots) := by
  refine MetFree.of_bodySF (plainFor_of_name pn_1) hisR ?_
  intro p e s m args below meth c s₁ Bd hml0 hP hK
  obtain ⟨rfl, hZ, hh⟩ := hP
  have hx := Bd.exec
  have hby := Bd.bytes
  have hml : c.maxLocals = 7 := hml0
  have hown : s.vm.findClass MTc = some m.cls := findClass_of_methodNamed Bd.named
  have hnm := (name_of_methodNamed Bd.named Bd.method).1
  have X0 : Stand p l e ({ frames := 3, cells := 0, slots := 0, locals := 90 } : Room) s m #[(.ref o0), (.int (1 : Int32)), (.double d2)] below meth c s₁ [] 0 0 := Stand.of_body Bd
  have e0 : s₁.heap = h0 := by rw [← hh, Bd.state]; rfl
  have N0 := Fr.nil n0
  have c0 : ∀ t, Steps p.tables e below (s₁.setTop (mkF m 0 #[vR o0, vI (1 : Int32), vD d2, s_, u_, u_, u_] [])) t → Steps p.tables e below (s₁.setTop (entryFrame m #[(.ref o0), (.int (1 : Int32)), (.double d2)] 7)) t := fun t k => castTop (ef_rm8_1 m o0 d2) k
  obtain ⟨T1, X1, e1, st1⟩ := getF X0 hx hZ hown (host := "") (Or.inl (hwi hw 21 rfl)) Via.refl e0 qi (g := (mkF m 1 #[vR o0, vI (1 : Int32), vD d2, s_, u_, u_, u_] [(.ref o0)])) rfl rfl (hb hby d8_1)
  obtain ⟨T2, X2, e2, st2⟩ := getF X1 hx hZ hown (host := "") (Or.inl (hwi hw 19 rfl)) Via.refl e1 qn (g := (mkF m 11 #[vR o0, vI (1 : Int32), vD d2, s_, vI (16 : Int32), u_, u_] [(.ref o0)])) rfl rfl (hb hby d8_11)
  obtain ⟨cl3, Ar3, q3, S3, Nn3, Ha3, G3⟩ := id qm
  have in3 : ¬ ((16 : Int32) < 0 ∨ cl3.slots.size ≤ ((16 : Int32)).toNatClampNeg) := inb_of S3 ⟨by decide, by decide⟩
  obtain ⟨T4, h4, X4, e4, W4, st4⟩ := stD X2 hx hZ e2 Ar3 (j := (16 : Int32)) in3 (g := (mkF m 17 #[vR o0, vI (1 : Int32), vD d2, s_, vI (16 : Int32), u_, u_] [(.double d2), (.int (16 : Int32)), (.ref qc)])) rfl rfl (hb hby d8_17)
  have N4 := Fr.snoc X4 N0 qp
  have K5 : Keep h0 h4 [qc, o0] := (Keep.refl h0 [qc, o0]).wr W4 (Or.inl (by simp))
  have V4 : Arv Z h4 qc qd .double (32 : Int32) (t32 y0 y1 y2 y3 y4 y5 y6 y7 y8 y9 y10 y11 y12 y13 y14 y15 d2 y17 y18 y19 y20 y21 y22 y23 y24 y25 y26 y27 y28 y29 y30 y31) (.double (0 : UInt64)) := Arv.set Ar3 q3 S3 Nn3 Ha3 G3 rfl W4 16 rfl (show (16 : Nat) < 32 by decide)
  have c6 : ∀ t, Steps p.tables e below (T4.setTop (mkF m 24 #[vR o0, vI (1 : Int32), vD d2, s_, vI (8 : Int32), u_, u_] [])) t → Steps p.tables e below (s₁.setTop (entryFrame m #[(.ref o0), (.int (1 : Int32)), (.double d2)] 7)) t := by
    intro t k
    refine c0 t ?_
    show Steps p.tables e below (s₁.setTop (mkF m 0 #[vR o0, vI (1 : Int32), vD d2, s_, u_, u_, u_] [])) _
    refine XS.aloadN X0.here hx rfl (hb hby d8_0) rfl rfl ?_
    refine st1 _ ?_
    show Steps p.tables e below (T1.setTop (mkF m 4 #[vR o0, vI (1 : Int32), vD d2, s_, u_, u_, u_] [(.int (16 : Int32))])) _
    refine XS.iloadN X1.here hx rfl (hb hby d8_4) rfl ?_
    refine Jvm.OwnK.iadd X1.here hx rfl (hb hby d8_5) rfl (v := (17 : Int32)) (by decide) ?_
    refine XS.iconst X1.here hx rfl (hb hby d8_6) ?_
    refine Jvm.OwnK.isub X1.here hx rfl (hb hby d8_7) rfl (v := (16 : Int32)) (by decide) ?_
    refine XS.istore X1.here hx rfl (hb hby d8_8) rfl (l' := #[vR o0, vI (1 : Int32), vD d2, s_, vI (16 : Int32), u_, u_]) rfl ?_
    refine XS.aloadN X1.here hx rfl (hb hby d8_10) rfl rfl ?_
    show Steps p.tables e below (T1.setTop (mkF m 11 #[vR o0, vI (1 : Int32), vD d2, s_, vI (16 : Int32), u_, u_] [(.ref o0)])) _
    refine st2 _ ?_
    show Steps p.tables e below (T2.setTop (mkF m 14 #[vR o0, vI (1 : Int32), vD d2, s_, vI (16 : Int32), u_, u_] [(.ref qc)])) _
    refine XS.iload X2.here hx rfl (hb hby d8_14) rfl ?_
    refine XS.dloadN X2.here hx rfl (hb hby d8_16) rfl ?_
    refine st4 _ ?_
    show Steps p.tables e below (T4.setTop (mkF m 18 #[vR o0, vI (1 : Int32), vD d2, s_, vI (16 : Int32), u_, u_] [])) _
    refine XS.iload X4.here hx rfl (hb hby d8_18) rfl ?_
    refine XS.iconst X4.here hx rfl (hb hby d8_20) ?_
    refine Jvm.OwnK.idiv X4.here hx rfl (hb hby d8_21) rfl (by decide) (v := (8 : Int32)) (by decide) ?_
    refine XS.istore X4.here hx rfl (hb hby d8_22) rfl (l' := #[vR o0, vI (1 : Int32), vD d2, s_, vI (8 : Int32), u_, u_]) rfl ?_
    exact k
  have f8 := (qi.other W4 (Or.inl qe))
  have f9 := (qo.other W4 (Or.inl qe))
  have f10 := (qn.other W4 (Or.inl qe))
  have f11 := (qr.other W4 (Or.inl qe))
  have f12 := (qbS.wr W4)
  obtain ⟨T7, o7q, sq7, rq7, eq7, _, L7, ho7, ⟨qc9, rfl, N7, K7q, Q7_0, Q7_1, Q7_2, Q7_3, Q7_4, Q7_5⟩, hF7⟩ := tl8_n8 l Z a0 hw ws o0 (1 : Int32) d2 qd y0 y1 y2 y3 y4 y5 y6 y7 y8 y9 y10 y11 y12 y13 y14 y15 d2 y17 y18 y19 y20 y21 y22 y23 y24 y25 y26 y27 y28 y29 y30 y31 qj qc qg qdN qgs qbu qcG qeG qby qbz qec qcj qbk qd8 qdq h4 n0 (Nat.le_trans Z0 (Keep.of_wr W4).1) V4 qe f8 f9 f10 f11 qp f12 qU qlO qn4 qlP qi3 qlQ qi4 qhd qi5 qhe qgc qhf qgd qmH qmI qjR qjS qhI qhJ qgt qgu qgK qh9 qia qkU qkV qkW qnI qnJ qnK qnL Bd hml0 hZ X4 e4 N4
  have K13 : Keep h0 T7.heap [qc, o0] := Keep.trans K5 K7q (allS (Or.inl (by simp)) (allS (Or.inl (by simp)) all0))
  exact ⟨T7, o7q, c6 _ sq7, rq7, eq7, _, L7, ho7, ⟨qc9, rfl, N7, K13, Q7_0, Q7_1, Q7_2, Q7_3, Q7_4, Q7_5⟩, hF7⟩
def Q7_1 (Z : State) (o0 : Addr) (d1 : UInt64) (qd : ClassId) (y0 y1 y2 y3 y4 y5 y6 y7 y8 y9 y10 y11 y12 y13 y14 y15 y16 y17 y18 y19 y20 y21 y22 y23 y24 y25 y26 y27 y28 y29 y30 y31 : UInt64) (qc : Addr) (qg : Int64) (qcq : UInt64) (qee : Int64) (qx : Int32) (qbq : UInt64) (qdL : Int64) (qP : Int32) (qS : UInt64) (qdo : Int64) (qba : Int32) (qG : UInt64) (qdk : Int64) (qcb : Int32) (h0 : Heap) (n0 : Nat) (v : Option Value) (h : Heap) (L : List Loc) : Prop := ∃ qQ : Int64, v = none ∧ Fr n0 L ∧ Keep h0 h [o0, qc] ∧ Fld Z h o0 MTc "minima" "[D" (.ref qc) ∧ Fld Z h o0 MTc "visits" "J" (.long qQ) ∧ Fld Z h o0 MTc "count" "I" (.int (1 : Int32)) ∧ Fld Z h o0 MTc "capacity" "I" (.int (16 : Int32)) ∧ Exa Z h o0 MTc ∧ Arv Z h qc qd .double (32 : Int32) (t32 y0 qG qS y3 qbq y5 y6 y7 qcq y9 y10 y11 y12 y13 y14 y15 d1 y17 y18 y19 y20 y21 y22 y23 y24 y25 y26 y27 y28 y29 y30 y31) (.double (0 : UInt64))
set_option maxRecDepth 65536 in
set_option maxHeartbeats 40000000 in
theorem rm7_1 (l : Launch) (Z : State) (a0 : Array Value) (hw : ∀ d ∈ tables_1, d.before a0 Z = true) (ws : List Jvm.Cond) (o0 : Addr) (d1 : UInt64) (qd : ClassId) (y0 y1 y2 y3 y4 y5 y6 y7 y8 y9 y10 y11 y12 y13 y14 y15 y16 y17 y18 y19 y20 y21 y22 y23 y24 y25 y26 y27 y28 y29 y30 y31 : UInt64) (qc : Addr) (qg : Int64) (qcq : UInt64) (qee : Int64) (qx : Int32) (qbq : UInt64) (qdL : Int64) (qP : Int32) (qS : UInt64) (qdo : Int64) (qba : Int32) (qG : UInt64) (qdk : Int64) (qcb : Int32) (h0 : Heap) (n0 : Nat) (Z0 : n0 ≤ h0.size) (qm : Arv Z h0 qc qd .double (32 : Int32) (t32 y0 y1 y2 y3 y4 y5 y6 y7 y8 y9 y10 y11 y12 y13 y14 y15 y16 y17 y18 y19 y20 y21 y22 y23 y24 y25 y26 y27 y28 y29 y30 y31) (.double (0 : UInt64))) (qe : o0 ≠ qc) (qn : Fld Z h0 o0 MTc "minima" "[D" (.ref qc)) (qr : Fld Z h0 o0 MTc "visits" "J" (.long qg)) (qp : n0 ≤ qc) (qo : Fld Z h0 o0 MTc "count" "I" (.int (0 : Int32))) (qi : Fld Z h0 o0 MTc "capacity" "I" (.int (16 : Int32))) (qbS : Exa Z h0 o0 MTc) (qU : n0 ≤ o0) (qib : mnf d1 y17 = qcq) (qkX : qg + (1 : Int64) = qee) (qic : cmpf qcq y8 = qx) (qgL : mnf qcq y9 = qbq) (qid : qee + (1 : Int64) = qdL) (qgM : cmpf qbq y4 = qP) (qfY : mnf qbq y5 = qS) (qgN : qdL + (1 : Int64) = qdo) (qfZ : cmpf qS y2 = qba) (qfb : mnf qS y3 = qG) (qf0 : qdo + (1 : Int64) = qdk) (qfc : cmpf qG y1 = qcb) (qi6 : TV d1) (qi7 : TV y17) (qhg : (¬ qx = (0 : Int32)) → TV qcq) (qhh : (¬ qx = (0 : Int32)) → TV y9) (qge : (¬ qx = (0 : Int32)) → (¬ qP = (0 : Int32)) → TV qbq) (qgf : (¬ qx = (0 : Int32)) → (¬ qP = (0 : Int32)) → TV y5) (qfo : (¬ qx = (0 : Int32)) → (¬ qP = (0 : Int32)) → (¬ qba = (0 : Int32)) → TV qS) (qfp : (¬ qx = (0 : Int32)) → (¬ qP = (0 : Int32)) → (¬ qba = (0 : Int32)) → TV y3) (qfC : (¬ qx = (0 : Int32)) → (¬ qP = (0 : Int32)) → (¬ qba = (0 : Int32)) → (qcb = (0 : Int32)) → y1 = qG) (qgv : (¬ qx = (0 : Int32)) → (¬ qP = (0 : Int32)) → (qba = (0 : Int32)) → y1 = qG) (qgw : (¬ qx = (0 : Int32)) → (¬ qP = (0 : Int32)) → (qba = (0 : Int32)) → y2 = qS) (qhK : (¬ qx = (0 : Int32)) → (qP = (0 : Int32)) → y1 = qG) (qhL : (¬ qx = (0 : Int32)) → (qP = (0 : Int32)) → y2 = qS) (qhM : (¬ qx = (0 : Int32)) → (qP = (0 : Int32)) → y4 = qbq) (qjT : (qx = (0 : Int32)) → y1 = qG) (qjU : (qx = (0 : Int32)) → y2 = qS) (qjV : (qx = (0 : Int32)) → y4 = qbq) (qjW : (qx = (0 : Int32)) → y8 = qcq) :
    MetFree l (⟨MTc, "add", "(D)V"⟩ : MethodName) (head1 (Jvm.Cond.code (⟨MTc, "add", "(D)V"⟩ : MethodName) prog_28_method_2_code 3 none :: ws) ({ frames := 4, cells := 0, slots := 0, locals := 108 } : Room)) (fun a U => a = #[(.ref o0), (.double d1)] ∧ Z.Warmed39 U.vm ∧ U.heap = h0) (fun _ _ _ _ _ => True) (fun _ U o U' => ∃ v L, o = .returned v ∧ Q7_1 Z o0 d1 qd y0 y1 y2 y3 y4 y5 y6 y7 y8 y9 y10 y11 y12 y13 y14 y15 y16 y17 y18 y19 y20 y21 y22 y23 y24 y25 y26 y27 y28 y29 y30 y31 qc qg qcq qee qx qbq qdL qP qS qdo qba qG qdk qcb h0 n0 v U'.heap L ∧ FrameEnd U o U' L ({ frames := 4, cells := 0, slots := 0, locals := 108 } : Room).cells ({ frames := 4, cells := 0, slots := 0, locals := 108 } : Room).slots) := by
  refine MetFree.of_bodySF (plainFor_of_name pn_1) hisR ?_
  intro p e s m args below meth c s₁ Bd hml0 hP hK
  obtain ⟨rfl, hZ, hh⟩ := hP
  have hx := Bd.exec
  have hby := Bd.bytes
  have hml : c.maxLocals = 3 := hml0
  have hown : s.vm.findClass MTc = some m.cls := findClass_of_methodNamed Bd.named
  have hnm := (name_of_methodNamed Bd.named Bd.method).1
  have X0 : Stand p l e ({ frames := 4, cells := 0, slots := 0, locals := 108 } : Room) s m #[(.ref o0), (.double d1)] below meth c s₁ [] 0 0 := Stand.of_body Bd
  have e0 : s₁.heap = h0 := by rw [← hh, Bd.state]; rfl
  have N0 := Fr.nil n0
  have c0 : ∀ t, Steps p.tables e below (s₁.setTop (mkF m 0 #[vR o0, vD d1, s_] [])) t → Steps p.tables e below (s₁.setTop (entryFrame m #[(.ref o0), (.double d1)] 3)) t := fun t k => castTop (ef_rm7_1 m o0 d1) k
  obtain ⟨T1, X1, e1, st1⟩ := getF X0 hx hZ hown (host := "") (Or.inl (hwi hw 37 rfl)) Via.refl e0 qo (g := (mkF m 1 #[vR o0, vD d1, s_] [(.ref o0)])) rfl rfl (hb hby d7_1)
  obtain ⟨T2, X2, e2, st2⟩ := getF X1 hx hZ hown (host := "") (Or.inl (hwi hw 21 rfl)) Via.refl e1 qi (g := (mkF m 5 #[vR o0, vD d1, s_] [(.ref o0), (.int (0 : Int32))])) rfl rfl (hb hby d7_5)
  obtain ⟨T3, X3, e3, st3⟩ := getF X2 hx hZ hown (host := "") (Or.inl (hwi hw 37 rfl)) Via.refl e2 qo (g := (mkF m 17 #[vR o0, vD d1, s_] [(.ref o0), (.ref o0)])) rfl rfl (hb hby d7_17)
  obtain ⟨T4, h4, X4, e4, W4, st4⟩ := putF X3 hx hZ hown (host := "") (Or.inl (hwi hw 37 rfl)) Via.refl e3 qo qbS (Or.inl (hwi hw 38 rfl)) (hwi hw 3 rfl) (ty := .int) (by decide) rfl rfl (g := (mkF m 22 #[vR o0, vD d1, s_] [(.int (1 : Int32)), (.ref o0)])) rfl rfl (hb hby d7_22)
  have N4 := Fr.snoc X4 N0 qU
  have K5 : Keep h0 h4 [o0, qc] := (Keep.refl h0 [o0, qc]).wr W4 (Or.inl (by simp))
  have F4w := qo.same W4
  obtain ⟨T6, X6, e6, st6⟩ := getF X4 hx hZ hown (host := "") (Or.inl (hwi hw 37 rfl)) Via.refl e4 F4w (g := (mkF m 27 #[vR o0, vD d1, s_] [(.ref o0), (.ref o0)])) rfl rfl (hb hby d7_27)
  have f7 := (qm.other W4 (Ne.symm qe))
  have f8 := (qi.other W4 (Or.inr (slot_ne (Or.inl (hwi hw 22 rfl)) (Or.inl (hwi hw 38 rfl)) (by decide) (t := .int) (t' := .int) (by decide) (by decide))))
  have f9 := (qn.other W4 (Or.inr (slot_ne (Or.inl (hwi hw 20 rfl)) (Or.inl (hwi hw 38 rfl)) (by decide) (t := (.array .double)) (t' := .int) (by decide) (by decide))))
  have f10 := (qr.other W4 (Or.inr (slot_ne (Or.inl (hwi hw 52 rfl)) (Or.inl (hwi hw 38 rfl)) (by decide) (t := .long) (t' := .int) (by decide) (by decide))))
  have f11 := (qbS.wr W4)
  obtain ⟨cq12, kq12, q12a, q12b, q12c⟩ := isOf hZ e6 f11
  obtain ⟨_, _, ⟨T12, L12, k12, n12⟩, -, X12, ⟨Lc12, hQ12, ql12, qy12, qz12⟩, st12⟩ := X6.virtualBack hx (y := (⟨MTc, "set", "(ID)V"⟩ : MethodName)) (z := (⟨MTc, "set", "(ID)V"⟩ : MethodName)) hown (mvT hZ (hwi hw 39 rfl)) (mvT hZ (hwi hw 40 rfl)) (notFace_of_selects (args := #[]) (mvT hZ (hwi hw 42 rfl))) (mvT hZ (hwi hw 42 rfl)) (mvT hZ (hwi hw 41 rfl)) (by decide) (backOf (W := 0) (rm8_1 l Z a0 hw [] o0 d1 qd y0 y1 y2 y3 y4 y5 y6 y7 y8 y9 y10 y11 y12 y13 y14 y15 y16 y17 y18 y19 y20 y21 y22 y23 y24 y25 y26 y27 y28 y29 y30 y31 (1 : Int32) qc qg qcq qee qx qbq qdL qP qS qdo qba qG qdk qcb h4 n0 (Nat.le_trans Z0 (Keep.of_wr W4).1) f7 qe f8 F4w f9 f10 qp f11 qU qib qkX qic qgL qid qgM qfY qgN qfZ qfb qf0 qfc qi6 qi7 qhg qhh qge qgf qfo qfp qfC qgv qgw qhK qhL qhM qjT qjU qjV qjW) hZ (hwi hw 43 rfl) (hwi hw 4 rfl) (by decide) (by decide)) q12a q12c (g := (mkF m 31 #[vR o0, vD d1, s_] [(.double d1), (.int (1 : Int32)), (.ref o0)])) rfl (by rw [hml]; rfl) (Steps.refl _) (argsL := [(.int (1 : Int32)), (.double d1)]) (rest := []) (lenOf pd_6 rfl) rfl (by show 2 * 0 + _ ≤ _; exact Nat.le_of_eq rfl) (hb hby d7_31) (fun _ _ => ⟨rfl, e6, (by decide : 0 + 0 ≤ _), (by decide : 0 + 0 ≤ _)⟩)
  dsimp only [Pt.U, Pt.locs, Pt.cells, Pt.slots] at X12 ql12 qy12 qz12 st12 hQ12
  subst ql12 qy12 qz12
  obtain ⟨qQ, rfl, N12q, K12q, Q12_0, Q12_1, Q12_2, Q12_3, Q12_4, Q12_5⟩ := hQ12
  have N12 := Fr.app N4 N12q
  have K13 : Keep h0 T12.heap [o0, qc] := Keep.trans K5 K12q (allS (Or.inl (by simp)) (allS (Or.inl (by simp)) all0))
  have c14 : ∀ t, Steps p.tables e below (T12.setTop (mkF m 34 #[vR o0, vD d1, s_] [])) t → Steps p.tables e below (s₁.setTop (entryFrame m #[(.ref o0), (.double d1)] 3)) t := by
    intro t k
    refine c0 t ?_
    show Steps p.tables e below (s₁.setTop (mkF m 0 #[vR o0, vD d1, s_] [])) _
    refine XS.aloadN X0.here hx rfl (hb hby d7_0) rfl rfl ?_
    refine st1 _ ?_
    show Steps p.tables e below (T1.setTop (mkF m 4 #[vR o0, vD d1, s_] [(.int (0 : Int32))])) _
    refine XS.aloadN X1.here hx rfl (hb hby d7_4) rfl rfl ?_
    refine st2 _ ?_
    show Steps p.tables e below (T2.setTop (mkF m 8 #[vR o0, vD d1, s_] [(.int (16 : Int32)), (.int (0 : Int32))])) _
    refine XS.icmpYes X2.here hx rfl (pc0 := 8) (pc' := 15) rfl (hb hby d7_8) rfl (Jvm.Free.XT.ii_ne_t (by decide)) (by decide) (by decide) ?_
    refine XS.aloadN X2.here hx rfl (hb hby d7_15) rfl rfl ?_
    refine XS.dup X2.here hx rfl (hb hby d7_16) rfl rfl ?_
    refine st3 _ ?_
    show Steps p.tables e below (T3.setTop (mkF m 20 #[vR o0, vD d1, s_] [(.int (0 : Int32)), (.ref o0)])) _
    refine XS.iconst X3.here hx rfl (hb hby d7_20) ?_
    refine Jvm.OwnK.iadd X3.here hx rfl (hb hby d7_21) rfl (v := (1 : Int32)) (by decide) ?_
    refine st4 _ ?_
    show Steps p.tables e below (T4.setTop (mkF m 25 #[vR o0, vD d1, s_] [])) _
    refine XS.aloadN X4.here hx rfl (hb hby d7_25) rfl rfl ?_
    refine XS.aloadN X4.here hx rfl (hb hby d7_26) rfl rfl ?_
    refine st6 _ ?_
    show Steps p.tables e below (T6.setTop (mkF m 30 #[vR o0, vD d1, s_] [(.int (1 : Int32)), (.ref o0)])) _
    refine XS.dloadN X6.here hx rfl (hb hby d7_30) rfl ?_
    refine st12.trans ?_
    exact k
  obtain ⟨fs, hr, hrun, hended, hW, hsame⟩ := X12.leave (v := none) (fun _ => rfl)
  refine ⟨_, _, c14 _ ?_, hrun, hended, _, _, rfl, ?_, ⟨_, rfl⟩, hW, hsame.mono (by decide) (by decide)⟩
  · show Steps p.tables e below (T12.setTop (mkF m 34 #[vR o0, vD d1, s_] [])) _
    exact X12.returnOut hx Bd.returns (hb hby d7_34) hr
  · show Q7_1 Z o0 d1 qd y0 y1 y2 y3 y4 y5 y6 y7 y8 y9 y10 y11 y12 y13 y14 y15 y16 y17 y18 y19 y20 y21 y22 y23 y24 y25 y26 y27 y28 y29 y30 y31 qc qg qcq qee qx qbq qdL qP qS qdo qba qG qdk qcb h0 n0 _ T12.heap _
    exact ⟨qQ, rfl, N12, K13, Q12_3, Q12_4, Q12_2, Q12_1, Q12_5, Q12_0⟩
def Q8_2 (Z : State) (o0 : Addr) (d2 : UInt64) (qd : ClassId) (y0 y1 y2 y3 y4 y5 y6 y7 y8 y9 y10 y11 y12 y13 y14 y15 y16 y17 y18 y19 y20 y21 y22 y23 y24 y25 y26 y27 y28 y29 y30 y31 : UInt64) (qj : Int32) (qc : Addr) (qg : Int64) (qdN : UInt64) (qgs : Int64) (qbu : Int32) (qcG : UInt64) (qeG : Int64) (qby : Int32) (qbz : UInt64) (qec : Int64) (qcj : Int32) (qbk : UInt64) (qd8 : Int64) (qdq : Int32) (h0 : Heap) (n0 : Nat) (v : Option Value) (h : Heap) (L : List Loc) : Prop := ∃ vx_visits_o0 : Int64, v = none ∧ Fr n0 L ∧ Keep h0 h [qc, o0] ∧ Arv Z h qc qd .double (32 : Int32) (t32 y0 qbk qbz y3 qcG y5 y6 y7 qdN y9 y10 y11 y12 y13 y14 y15 y16 d2 y18 y19 y20 y21 y22 y23 y24 y25 y26 y27 y28 y29 y30 y31) (.double (0 : UInt64)) ∧ Fld Z h o0 MTc "capacity" "I" (.int (16 : Int32)) ∧ Fld Z h o0 MTc "count" "I" (.int qj) ∧ Fld Z h o0 MTc "minima" "[D" (.ref qc) ∧ Fld Z h o0 MTc "visits" "J" (.long vx_visits_o0) ∧ Exa Z h o0 MTc
set_option maxRecDepth 65536 in
set_option maxHeartbeats 40000000 in
theorem rm8_2 (l : Launch) (Z : State) (a0 : Array Value) (hw : ∀ d ∈ tables_1, d.before a0 Z = true) (ws : List Jvm.Cond) (o0 : Addr) (d2 : UInt64) (qd : ClassId) (y0 y1 y2 y3 y4 y5 y6 y7 y8 y9 y10 y11 y12 y13 y14 y15 y16 y17 y18 y19 y20 y21 y22 y23 y24 y25 y26 y27 y28 y29 y30 y31 : UInt64) (qj : Int32) (qc : Addr) (qg : Int64) (qdN : UInt64) (qgs : Int64) (qbu : Int32) (qcG : UInt64) (qeG : Int64) (qby : Int32) (qbz : UInt64) (qec : Int64) (qcj : Int32) (qbk : UInt64) (qd8 : Int64) (qdq : Int32) (h0 : Heap) (n0 : Nat) (Z0 : n0 ≤ h0.size) (qm : Arv Z h0 qc qd .double (32 : Int32) (t32 y0 y1 y2 y3 y4 y5 y6 y7 y8 y9 y10 y11 y12 y13 y14 y15 y16 y17 y18 y19 y20 y21 y22 y23 y24 y25 y26 y27 y28 y29 y30 y31) (.double (0 : UInt64))) (qe : o0 ≠ qc) (qi : Fld Z h0 o0 MTc "capacity" "I" (.int (16 : Int32))) (qo : Fld Z h0 o0 MTc "count" "I" (.int qj)) (qn : Fld Z h0 o0 MTc "minima" "[D" (.ref qc)) (qr : Fld Z h0 o0 MTc "visits" "J" (.long qg)) (qp : n0 ≤ qc) (qbS : Exa Z h0 o0 MTc) (qU : n0 ≤ o0) (qlO : mnf y16 d2 = qdN) (qn4 : qg + (1 : Int64) = qgs) (qlP : cmpf qdN y8 = qbu) (qi3 : mnf qdN y9 = qcG) (qlQ : qgs + (1 : Int64) = qeG) (qi4 : cmpf qcG y4 = qby) (qhd : mnf qcG y5 = qbz) (qi5 : qeG + (1 : Int64) = qec) (qhe : cmpf qbz y2 = qcj) (qgc : mnf qbz y3 = qbk) (qhf : qec + (1 : Int64) = qd8) (qgd : cmpf qbk y1 = qdq) (qmH : TV y16) (qmI : TV d2) (qjR : (¬ qbu = (0 : Int32)) → TV qdN) (qjS : (¬ qbu = (0 : Int32)) → TV y9) (qhI : (¬ qbu = (0 : Int32)) → (¬ qby = (0 : Int32)) → TV qcG) (qhJ : (¬ qbu = (0 : Int32)) → (¬ qby = (0 : Int32)) → TV y5) (qgt : (¬ qbu = (0 : Int32)) → (¬ qby = (0 : Int32)) → (¬ qcj = (0 : Int32)) → TV qbz) (qgu : (¬ qbu = (0 : Int32)) → (¬ qby = (0 : Int32)) → (¬ qcj = (0 : Int32)) → TV y3) (qgK : (¬ qbu = (0 : Int32)) → (¬ qby = (0 : Int32)) → (¬ qcj = (0 : Int32)) → (qdq = (0 : Int32)) → y1 = qbk) (qh9 : (¬ qbu = (0 : Int32)) → (¬ qby = (0 : Int32)) → (qcj = (0 : Int32)) → y1 = qbk) (qia : (¬ qbu = (0 : Int32)) → (¬ qby = (0 : Int32)) → (qcj = (0 : Int32)) → y2 = qbz) (qkU : (¬ qbu = (0 : Int32)) → (qby = (0 : Int32)) → y1 = qbk) (qkV : (¬ qbu = (0 : Int32)) → (qby = (0 : Int32)) → y2 = qbz) (qkW : (¬ qbu = (0 : Int32)) → (qby = (0 : Int32)) → y4 = qcG) (qnI : (qbu = (0 : Int32)) → y1 = qbk) (qnJ : (qbu = (0 : Int32)) → y2 = qbz) (qnK : (qbu = (0 : Int32)) → y4 = qcG) (qnL : (qbu = (0 : Int32)) → y8 = qdN) :
    MetFree l (⟨MTc, "set", "(ID)V"⟩ : MethodName) (head1 (Jvm.Cond.code (⟨MTc, "set", "(ID)V"⟩ : MethodName) prog_28_method_3_code 7 none :: ws) ({ frames := 3, cells := 0, slots := 0, locals := 90 } : Room)) (fun a U => a = #[(.ref o0), (.int (2 : Int32)), (.double d2)] ∧ Z.Warmed39 U.vm ∧ U.heap = h0) (fun _ _ _ _ _ => True) (fun _ U o U' => ∃ v L, o = .returned v ∧ Q8_2 Z o0 d2 qd y0 y1 y2 y3 y4 y5 y6 y7 y8 y9 y10 y11 y12 y13 y14 y15 y16 y17 y18 y19 y20 y21 y22 y23 y24 y25 y26 y27 y28 y29 y30 y31 qj qc qg qdN qgs qbu qcG qeG qby qbz qec qcj qbk qd8 qdq h0 n0 v U'.heap L ∧ FrameEnd U o U' L ({ frames := 3, cells := 0, slots := 0, locals := 90 } : Room).cells ({ frames := 3, cells := 0, slots := 0, locals := 90 } : Room).slots) := by
  refine MetFree.of_bodySF (plainFor_of_name pn_1) hisR ?_
  intro p e s m args below meth c s₁ Bd hml0 hP hK
  obtain ⟨rfl, hZ, hh⟩ := hP
  have hx := Bd.exec
  have hby := Bd.bytes
  have hml : c.maxLocals = 7 := hml0
  have hown : s.vm.findClass MTc = some m.cls := findClass_of_methodNamed Bd.named
  have hnm := (name_of_methodNamed Bd.named Bd.method).1
  have X0 : Stand p l e ({ frames := 3, cells := 0, slots := 0, locals := 90 } : Room) s m #[(.ref o0), (.int (2 : Int32)), (.double d2)] below meth c s₁ [] 0 0 := Stand.of_body Bd
  have e0 : s₁.heap = h0 := by rw [← hh, Bd.state]; rfl
  have N0 := Fr.nil n0
  have c0 : ∀ t, Steps p.tables e below (s₁.setTop (mkF m 0 #[vR o0, vI (2 : Int32), vD d2, s_, u_, u_, u_] [])) t → Steps p.tables e below (s₁.setTop (entryFrame m #[(.ref o0), (.int (2 : Int32)), (.double d2)] 7)) t := fun t k => castTop (ef_rm8_2 m o0 d2) k
  obtain ⟨T1, X1, e1, st1⟩ := getF X0 hx hZ hown (host := "") (Or.inl (hwi hw 21 rfl)) Via.refl e0 qi (g := (mkF m 1 #[vR o0, vI (2 : Int32), vD d2, s_, u_, u_, u_] [(.ref o0)])) rfl rfl (hb hby d8_1)
  obtain ⟨T2, X2, e2, st2⟩ := getF X1 hx hZ hown (host := "") (Or.inl (hwi hw 19 rfl)) Via.refl e1 qn (g := (mkF m 11 #[vR o0, vI (2 : Int32), vD d2, s_, vI (17 : Int32), u_, u_] [(.ref o0)])) rfl rfl (hb hby d8_11)
  obtain ⟨cl3, Ar3, q3, S3, Nn3, Ha3, G3⟩ := id qm
  have in3 : ¬ ((17 : Int32) < 0 ∨ cl3.slots.size ≤ ((17 : Int32)).toNatClampNeg) := inb_of S3 ⟨by decide, by decide⟩
  obtain ⟨T4, h4, X4, e4, W4, st4⟩ := stD X2 hx hZ e2 Ar3 (j := (17 : Int32)) in3 (g := (mkF m 17 #[vR o0, vI (2 : Int32), vD d2, s_, vI (17 : Int32), u_, u_] [(.double d2), (.int (17 : Int32)), (.ref qc)])) rfl rfl (hb hby d8_17)
  have N4 := Fr.snoc X4 N0 qp
  have K5 : Keep h0 h4 [qc, o0] := (Keep.refl h0 [qc, o0]).wr W4 (Or.inl (by simp))
  have V4 : Arv Z h4 qc qd .double (32 : Int32) (t32 y0 y1 y2 y3 y4 y5 y6 y7 y8 y9 y10 y11 y12 y13 y14 y15 y16 d2 y18 y19 y20 y21 y22 y23 y24 y25 y26 y27 y28 y29 y30 y31) (.double (0 : UInt64)) := Arv.set Ar3 q3 S3 Nn3 Ha3 G3 rfl W4 17 rfl (show (17 : Nat) < 32 by decide)
  have c6 : ∀ t, Steps p.tables e below (T4.setTop (mkF m 24 #[vR o0, vI (2 : Int32), vD d2, s_, vI (8 : Int32), u_, u_] [])) t → Steps p.tables e below (s₁.setTop (entryFrame m #[(.ref o0), (.int (2 : Int32)), (.double d2)] 7)) t := by
    intro t k
    refine c0 t ?_
    show Steps p.tables e below (s₁.setTop (mkF m 0 #[vR o0, vI (2 : Int32), vD d2, s_, u_, u_, u_] [])) _
    refine XS.aloadN X0.here hx rfl (hb hby d8_0) rfl rfl ?_
    refine st1 _ ?_
    show Steps p.tables e below (T1.setTop (mkF m 4 #[vR o0, vI (2 : Int32), vD d2, s_, u_, u_, u_] [(.int (16 : Int32))])) _
    refine XS.iloadN X1.here hx rfl (hb hby d8_4) rfl ?_
    refine Jvm.OwnK.iadd X1.here hx rfl (hb hby d8_5) rfl (v := (18 : Int32)) (by decide) ?_
    refine XS.iconst X1.here hx rfl (hb hby d8_6) ?_
    refine Jvm.OwnK.isub X1.here hx rfl (hb hby d8_7) rfl (v := (17 : Int32)) (by decide) ?_
    refine XS.istore X1.here hx rfl (hb hby d8_8) rfl (l' := #[vR o0, vI (2 : Int32), vD d2, s_, vI (17 : Int32), u_, u_]) rfl ?_
    refine XS.aloadN X1.here hx rfl (hb hby d8_10) rfl rfl ?_
    show Steps p.tables e below (T1.setTop (mkF m 11 #[vR o0, vI (2 : Int32), vD d2, s_, vI (17 : Int32), u_, u_] [(.ref o0)])) _
    refine st2 _ ?_
    show Steps p.tables e below (T2.setTop (mkF m 14 #[vR o0, vI (2 : Int32), vD d2, s_, vI (17 : Int32), u_, u_] [(.ref qc)])) _
    refine XS.iload X2.here hx rfl (hb hby d8_14) rfl ?_
    refine XS.dloadN X2.here hx rfl (hb hby d8_16) rfl ?_
    refine st4 _ ?_
    show Steps p.tables e below (T4.setTop (mkF m 18 #[vR o0, vI (2 : Int32), vD d2, s_, vI (17 : Int32), u_, u_] [])) _
    refine XS.iload X4.here hx rfl (hb hby d8_18) rfl ?_
    refine XS.iconst X4.here hx rfl (hb hby d8_20) ?_
    refine Jvm.OwnK.idiv X4.here hx rfl (hb hby d8_21) rfl (by decide) (v := (8 : Int32)) (by decide) ?_
    refine XS.istore X4.here hx rfl (hb hby d8_22) rfl (l' := #[vR o0, vI (2 : Int32), vD d2, s_, vI (8 : Int32), u_, u_]) rfl ?_
    exact k
  have f8 := (qi.other W4 (Or.inl qe))
  have f9 := (qo.other W4 (Or.inl qe))
  have f10 := (qn.other W4 (Or.inl qe))
  have f11 := (qr.other W4 (Or.inl qe))
  have f12 := (qbS.wr W4)
  obtain ⟨T7, o7q, sq7, rq7, eq7, _, L7, ho7, ⟨qc9, rfl, N7, K7q, Q7_0, Q7_1, Q7_2, Q7_3, Q7_4, Q7_5⟩, hF7⟩ := tl8_n8 l Z a0 hw ws o0 (2 : Int32) d2 qd y0 y1 y2 y3 y4 y5 y6 y7 y8 y9 y10 y11 y12 y13 y14 y15 y16 d2 y18 y19 y20 y21 y22 y23 y24 y25 y26 y27 y28 y29 y30 y31 qj qc qg qdN qgs qbu qcG qeG qby qbz qec qcj qbk qd8 qdq h4 n0 (Nat.le_trans Z0 (Keep.of_wr W4).1) V4 qe f8 f9 f10 f11 qp f12 qU qlO qn4 qlP qi3 qlQ qi4 qhd qi5 qhe qgc qhf qgd qmH qmI qjR qjS qhI qhJ qgt qgu qgK qh9 qia qkU qkV qkW qnI qnJ qnK qnL Bd hml0 hZ X4 e4 N4
  have K13 : Keep h0 T7.heap [qc, o0] := Keep.trans K5 K7q (allS (Or.inl (by simp)) (allS (Or.inl (by simp)) all0))
  exact ⟨T7, o7q, c6 _ sq7, rq7, eq7, _, L7, ho7, ⟨qc9, rfl, N7, K13, Q7_0, Q7_1, Q7_2, Q7_3, Q7_4, Q7_5⟩, hF7⟩
def Q7_2 (Z : State) (o0 : Addr) (d1 : UInt64) (qd : ClassId) (y0 y1 y2 y3 y4 y5 y6 y7 y8 y9 y10 y11 y12 y13 y14 y15 y16 y17 y18 y19 y20 y21 y22 y23 y24 y25 y26 y27 y28 y29 y30 y31 : UInt64) (qc : Addr) (qg : Int64) (qcq : UInt64) (qee : Int64) (qx : Int32) (qbq : UInt64) (qdL : Int64) (qP : Int32) (qS : UInt64) (qdo : Int64) (qba : Int32) (qG : UInt64) (qdk : Int64) (qcb : Int32) (h0 : Heap) (n0 : Nat) (v : Option Value) (h : Heap) (L : List Loc) : Prop := ∃ qQ : Int64, v = none ∧ Fr n0 L ∧ Keep h0 h [o0, qc] ∧ Fld Z h o0 MTc "minima" "[D" (.ref qc) ∧ Fld Z h o0 MTc "visits" "J" (.long qQ) ∧ Fld Z h o0 MTc "count" "I" (.int (2 : Int32)) ∧ Fld Z h o0 MTc "capacity" "I" (.int (16 : Int32)) ∧ Exa Z h o0 MTc ∧ Arv Z h qc qd .double (32 : Int32) (t32 y0 qG qS y3 qbq y5 y6 y7 qcq y9 y10 y11 y12 y13 y14 y15 y16 d1 y18 y19 y20 y21 y22 y23 y24 y25 y26 y27 y28 y29 y30 y31) (.double (0 : UInt64))
set_option maxRecDepth 65536 in
set_option maxHeartbeats 40000000 in
theorem rm7_2 (l : Launch) (Z : State) (a0 : Array Value) (hw : ∀ d ∈ tables_1, d.before a0 Z = true) (ws : List Jvm.Cond) (o0 : Addr) (d1 : UInt64) (qd : ClassId) (y0 y1 y2 y3 y4 y5 y6 y7 y8 y9 y10 y11 y12 y13 y14 y15 y16 y17 y18 y19 y20 y21 y22 y23 y24 y25 y26 y27 y28 y29 y30 y31 : UInt64) (qc : Addr) (qg : Int64) (qcq : UInt64) (qee : Int64) (qx : Int32) (qbq : UInt64) (qdL : Int64) (qP : Int32) (qS : UInt64) (qdo : Int64) (qba : Int32) (qG : UInt64) (qdk : Int64) (qcb : Int32) (h0 : Heap) (n0 : Nat) (Z0 : n0 ≤ h0.size) (qm : Arv Z h0 qc qd .double (32 : Int32) (t32 y0 y1 y2 y3 y4 y5 y6 y7 y8 y9 y10 y11 y12 y13 y14 y15 y16 y17 y18 y19 y20 y21 y22 y23 y24 y25 y26 y27 y28 y29 y30 y31) (.double (0 : UInt64))) (qe : o0 ≠ qc) (qn : Fld Z h0 o0 MTc "minima" "[D" (.ref qc)) (qr : Fld Z h0 o0 MTc "visits" "J" (.long qg)) (qp : n0 ≤ qc) (qo : Fld Z h0 o0 MTc "count" "I" (.int (1 : Int32))) (qi : Fld Z h0 o0 MTc "capacity" "I" (.int (16 : Int32))) (qbS : Exa Z h0 o0 MTc) (qU : n0 ≤ o0) (qib : mnf y16 d1 = qcq) (qkX : qg + (1 : Int64) = qee) (qic : cmpf qcq y8 = qx) (qgL : mnf qcq y9 = qbq) (qid : qee + (1 : Int64) = qdL) (qgM : cmpf qbq y4 = qP) (qfY : mnf qbq y5 = qS) (qgN : qdL + (1 : Int64) = qdo) (qfZ : cmpf qS y2 = qba) (qfb : mnf qS y3 = qG) (qf0 : qdo + (1 : Int64) = qdk) (qfc : cmpf qG y1 = qcb) (qi6 : TV y16) (qi7 : TV d1) (qhg : (¬ qx = (0 : Int32)) → TV qcq) (qhh : (¬ qx = (0 : Int32)) → TV y9) (qge : (¬ qx = (0 : Int32)) → (¬ qP = (0 : Int32)) → TV qbq) (qgf : (¬ qx = (0 : Int32)) → (¬ qP = (0 : Int32)) → TV y5) (qfo : (¬ qx = (0 : Int32)) → (¬ qP = (0 : Int32)) → (¬ qba = (0 : Int32)) → TV qS) (qfp : (¬ qx = (0 : Int32)) → (¬ qP = (0 : Int32)) → (¬ qba = (0 : Int32)) → TV y3) (qfC : (¬ qx = (0 : Int32)) → (¬ qP = (0 : Int32)) → (¬ qba = (0 : Int32)) → (qcb = (0 : Int32)) → y1 = qG) (qgv : (¬ qx = (0 : Int32)) → (¬ qP = (0 : Int32)) → (qba = (0 : Int32)) → y1 = qG) (qgw : (¬ qx = (0 : Int32)) → (¬ qP = (0 : Int32)) → (qba = (0 : Int32)) → y2 = qS) (qhK : (¬ qx = (0 : Int32)) → (qP = (0 : Int32)) → y1 = qG) (qhL : (¬ qx = (0 : Int32)) → (qP = (0 : Int32)) → y2 = qS) (qhM : (¬ qx = (0 : Int32)) → (qP = (0 : Int32)) → y4 = qbq) (qjT : (qx = (0 : Int32)) → y1 = qG) (qjU : (qx = (0 : Int32)) → y2 = qS) (qjV : (qx = (0 : Int32)) → y4 = qbq) (qjW : (qx = (0 : Int32)) → y8 = qcq) :
    MetFree l (⟨MTc, "add", "(D)V"⟩ : MethodName) (head1 (Jvm.Cond.code (⟨MTc, "add", "(D)V"⟩ : MethodName) prog_28_method_2_code 3 none :: ws) ({ frames := 4, cells := 0, slots := 0, locals := 108 } : Room)) (fun a U => a = #[(.ref o0), (.double d1)] ∧ Z.Warmed39 U.vm ∧ U.heap = h0) (fun _ _ _ _ _ => True) (fun _ U o U' => ∃ v L, o = .returned v ∧ Q7_2 Z o0 d1 qd y0 y1 y2 y3 y4 y5 y6 y7 y8 y9 y10 y11 y12 y13 y14 y15 y16 y17 y18 y19 y20 y21 y22 y23 y24 y25 y26 y27 y28 y29 y30 y31 qc qg qcq qee qx qbq qdL qP qS qdo qba qG qdk qcb h0 n0 v U'.heap L ∧ FrameEnd U o U' L ({ frames := 4, cells := 0, slots := 0, locals := 108 } : Room).cells ({ frames := 4, cells := 0, slots := 0, locals := 108 } : Room).slots) := by
  refine MetFree.of_bodySF (plainFor_of_name pn_1) hisR ?_
  intro p e s m args below meth c s₁ Bd hml0 hP hK
  obtain ⟨rfl, hZ, hh⟩ := hP
  have hx := Bd.exec
  have hby := Bd.bytes
  have hml : c.maxLocals = 3 := hml0
  have hown : s.vm.findClass MTc = some m.cls := findClass_of_methodNamed Bd.named
  have hnm := (name_of_methodNamed Bd.named Bd.method).1
  have X0 : Stand p l e ({ frames := 4, cells := 0, slots := 0, locals := 108 } : Room) s m #[(.ref o0), (.double d1)] below meth c s₁ [] 0 0 := Stand.of_body Bd
  have e0 : s₁.heap = h0 := by rw [← hh, Bd.state]; rfl
  have N0 := Fr.nil n0
  have c0 : ∀ t, Steps p.tables e below (s₁.setTop (mkF m 0 #[vR o0, vD d1, s_] [])) t → Steps p.tables e below (s₁.setTop (entryFrame m #[(.ref o0), (.double d1)] 3)) t := fun t k => castTop (ef_rm7_2 m o0 d1) k
  obtain ⟨T1, X1, e1, st1⟩ := getF X0 hx hZ hown (host := "") (Or.inl (hwi hw 37 rfl)) Via.refl e0 qo (g := (mkF m 1 #[vR o0, vD d1, s_] [(.ref o0)])) rfl rfl (hb hby d7_1)
  obtain ⟨T2, X2, e2, st2⟩ := getF X1 hx hZ hown (host := "") (Or.inl (hwi hw 21 rfl)) Via.refl e1 qi (g := (mkF m 5 #[vR o0, vD d1, s_] [(.ref o0), (.int (1 : Int32))])) rfl rfl (hb hby d7_5)
  obtain ⟨T3, X3, e3, st3⟩ := getF X2 hx hZ hown (host := "") (Or.inl (hwi hw 37 rfl)) Via.refl e2 qo (g := (mkF m 17 #[vR o0, vD d1, s_] [(.ref o0), (.ref o0)])) rfl rfl (hb hby d7_17)
  obtain ⟨T4, h4, X4, e4, W4, st4⟩ := putF X3 hx hZ hown (host := "") (Or.inl (hwi hw 37 rfl)) Via.refl e3 qo qbS (Or.inl (hwi hw 38 rfl)) (hwi hw 3 rfl) (ty := .int) (by decide) rfl rfl (g := (mkF m 22 #[vR o0, vD d1, s_] [(.int (2 : Int32)), (.ref o0)])) rfl rfl (hb hby d7_22)
  have N4 := Fr.snoc X4 N0 qU
  have K5 : Keep h0 h4 [o0, qc] := (Keep.refl h0 [o0, qc]).wr W4 (Or.inl (by simp))
  have F4w := qo.same W4
  obtain ⟨T6, X6, e6, st6⟩ := getF X4 hx hZ hown (host := "") (Or.inl (hwi hw 37 rfl)) Via.refl e4 F4w (g := (mkF m 27 #[vR o0, vD d1, s_] [(.ref o0), (.ref o0)])) rfl rfl (hb hby d7_27)
  have f7 := (qm.other W4 (Ne.symm qe))
  have f8 := (qi.other W4 (Or.inr (slot_ne (Or.inl (hwi hw 22 rfl)) (Or.inl (hwi hw 38 rfl)) (by decide) (t := .int) (t' := .int) (by decide) (by decide))))
  have f9 := (qn.other W4 (Or.inr (slot_ne (Or.inl (hwi hw 20 rfl)) (Or.inl (hwi hw 38 rfl)) (by decide) (t := (.array .double)) (t' := .int) (by decide) (by decide))))
  have f10 := (qr.other W4 (Or.inr (slot_ne (Or.inl (hwi hw 52 rfl)) (Or.inl (hwi hw 38 rfl)) (by decide) (t := .long) (t' := .int) (by decide) (by decide))))
  have f11 := (qbS.wr W4)
  obtain ⟨cq12, kq12, q12a, q12b, q12c⟩ := isOf hZ e6 f11
  obtain ⟨_, _, ⟨T12, L12, k12, n12⟩, -, X12, ⟨Lc12, hQ12, ql12, qy12, qz12⟩, st12⟩ := X6.virtualBack hx (y := (⟨MTc, "set", "(ID)V"⟩ : MethodName)) (z := (⟨MTc, "set", "(ID)V"⟩ : MethodName)) hown (mvT hZ (hwi hw 39 rfl)) (mvT hZ (hwi hw 40 rfl)) (notFace_of_selects (args := #[]) (mvT hZ (hwi hw 42 rfl))) (mvT hZ (hwi hw 42 rfl)) (mvT hZ (hwi hw 41 rfl)) (by decide) (backOf (W := 0) (rm8_2 l Z a0 hw [] o0 d1 qd y0 y1 y2 y3 y4 y5 y6 y7 y8 y9 y10 y11 y12 y13 y14 y15 y16 y17 y18 y19 y20 y21 y22 y23 y24 y25 y26 y27 y28 y29 y30 y31 (2 : Int32) qc qg qcq qee qx qbq qdL qP qS qdo qba qG qdk qcb h4 n0 (Nat.le_trans Z0 (Keep.of_wr W4).1) f7 qe f8 F4w f9 f10 qp f11 qU qib qkX qic qgL qid qgM qfY qgN qfZ qfb qf0 qfc qi6 qi7 qhg qhh qge qgf qfo qfp qfC qgv qgw qhK qhL qhM qjT qjU qjV qjW) hZ (hwi hw 43 rfl) (hwi hw 4 rfl) (by decide) (by decide)) q12a q12c (g := (mkF m 31 #[vR o0, vD d1, s_] [(.double d1), (.int (2 : Int32)), (.ref o0)])) rfl (by rw [hml]; rfl) (Steps.refl _) (argsL := [(.int (2 : Int32)), (.double d1)]) (rest := []) (lenOf pd_6 rfl) rfl (by show 2 * 0 + _ ≤ _; exact Nat.le_of_eq rfl) (hb hby d7_31) (fun _ _ => ⟨rfl, e6, (by decide : 0 + 0 ≤ _), (by decide : 0 + 0 ≤ _)⟩)
  dsimp only [Pt.U, Pt.locs, Pt.cells, Pt.slots] at X12 ql12 qy12 qz12 st12 hQ12
  subst ql12 qy12 qz12
  obtain ⟨qQ, rfl, N12q, K12q, Q12_0, Q12_1, Q12_2, Q12_3, Q12_4, Q12_5⟩ := hQ12
  have N12 := Fr.app N4 N12q
  have K13 : Keep h0 T12.heap [o0, qc] := Keep.trans K5 K12q (allS (Or.inl (by simp)) (allS (Or.inl (by simp)) all0))
  have c14 : ∀ t, Steps p.tables e below (T12.setTop (mkF m 34 #[vR o0, vD d1, s_] [])) t → Steps p.tables e below (s₁.setTop (entryFrame m #[(.ref o0), (.double d1)] 3)) t := by
    intro t k
    refine c0 t ?_
    show Steps p.tables e below (s₁.setTop (mkF m 0 #[vR o0, vD d1, s_] [])) _
    refine XS.aloadN X0.here hx rfl (hb hby d7_0) rfl rfl ?_
    refine st1 _ ?_
    show Steps p.tables e below (T1.setTop (mkF m 4 #[vR o0, vD d1, s_] [(.int (1 : Int32))])) _
    refine XS.aloadN X1.here hx rfl (hb hby d7_4) rfl rfl ?_
    refine st2 _ ?_
    show Steps p.tables e below (T2.setTop (mkF m 8 #[vR o0, vD d1, s_] [(.int (16 : Int32)), (.int (1 : Int32))])) _
    refine XS.icmpYes X2.here hx rfl (pc0 := 8) (pc' := 15) rfl (hb hby d7_8) rfl (Jvm.Free.XT.ii_ne_t (by decide)) (by decide) (by decide) ?_
    refine XS.aloadN X2.here hx rfl (hb hby d7_15) rfl rfl ?_
    refine XS.dup X2.here hx rfl (hb hby d7_16) rfl rfl ?_
    refine st3 _ ?_
    show Steps p.tables e below (T3.setTop (mkF m 20 #[vR o0, vD d1, s_] [(.int (1 : Int32)), (.ref o0)])) _
    refine XS.iconst X3.here hx rfl (hb hby d7_20) ?_
    refine Jvm.OwnK.iadd X3.here hx rfl (hb hby d7_21) rfl (v := (2 : Int32)) (by decide) ?_
    refine st4 _ ?_
    show Steps p.tables e below (T4.setTop (mkF m 25 #[vR o0, vD d1, s_] [])) _
    refine XS.aloadN X4.here hx rfl (hb hby d7_25) rfl rfl ?_
    refine XS.aloadN X4.here hx rfl (hb hby d7_26) rfl rfl ?_
    refine st6 _ ?_
    show Steps p.tables e below (T6.setTop (mkF m 30 #[vR o0, vD d1, s_] [(.int (2 : Int32)), (.ref o0)])) _
    refine XS.dloadN X6.here hx rfl (hb hby d7_30) rfl ?_
    refine st12.trans ?_
    exact k
  obtain ⟨fs, hr, hrun, hended, hW, hsame⟩ := X12.leave (v := none) (fun _ => rfl)
  refine ⟨_, _, c14 _ ?_, hrun, hended, _, _, rfl, ?_, ⟨_, rfl⟩, hW, hsame.mono (by decide) (by decide)⟩
  · show Steps p.tables e below (T12.setTop (mkF m 34 #[vR o0, vD d1, s_] [])) _
    exact X12.returnOut hx Bd.returns (hb hby d7_34) hr
  · show Q7_2 Z o0 d1 qd y0 y1 y2 y3 y4 y5 y6 y7 y8 y9 y10 y11 y12 y13 y14 y15 y16 y17 y18 y19 y20 y21 y22 y23 y24 y25 y26 y27 y28 y29 y30 y31 qc qg qcq qee qx qbq qdL qP qS qdo qba qG qdk qcb h0 n0 _ T12.heap _
    exact ⟨qQ, rfl, N12, K13, Q12_3, Q12_4, Q12_2, Q12_1, Q12_5, Q12_0⟩
def Q8_3 (Z : State) (o0 : Addr) (d2 : UInt64) (qd : ClassId) (y0 y1 y2 y3 y4 y5 y6 y7 y8 y9 y10 y11 y12 y13 y14 y15 y16 y17 y18 y19 y20 y21 y22 y23 y24 y25 y26 y27 y28 y29 y30 y31 : UInt64) (qj : Int32) (qc : Addr) (qg : Int64) (qdO : UInt64) (qgx : Int64) (qbv : Int32) (qcH : UInt64) (qeH : Int64) (qbA : Int32) (qbB : UInt64) (qed : Int64) (qck : Int32) (qbl : UInt64) (qd9 : Int64) (qdr : Int32) (h0 : Heap) (n0 : Nat) (v : Option Value) (h : Heap) (L : List Loc) : Prop := ∃ vx_visits_o0 : Int64, v = none ∧ Fr n0 L ∧ Keep h0 h [qc, o0] ∧ Arv Z h qc qd .double (32 : Int32) (t32 y0 qbl qbB y3 qcH y5 y6 y7 y8 qdO y10 y11 y12 y13 y14 y15 y16 y17 d2 y19 y20 y21 y22 y23 y24 y25 y26 y27 y28 y29 y30 y31) (.double (0 : UInt64)) ∧ Fld Z h o0 MTc "capacity" "I" (.int (16 : Int32)) ∧ Fld Z h o0 MTc "count" "I" (.int qj) ∧ Fld Z h o0 MTc "minima" "[D" (.ref qc) ∧ Fld Z h o0 MTc "visits" "J" (.long vx_visits_o0) ∧ Exa Z h o0 MTc
set_option maxRecDepth 65536 in
set_option maxHeartbeats 40000000 in
theorem rm8_3 (l : Launch) (Z : State) (a0 : Array Value) (hw : ∀ d ∈ tables_1, d.before a0 Z = true) (ws : List Jvm.Cond) (o0 : Addr) (d2 : UInt64) (qd : ClassId) (y0 y1 y2 y3 y4 y5 y6 y7 y8 y9 y10 y11 y12 y13 y14 y15 y16 y17 y18 y19 y20 y21 y22 y23 y24 y25 y26 y27 y28 y29 y30 y31 : UInt64) (qj : Int32) (qc : Addr) (qg : Int64) (qdO : UInt64) (qgx : Int64) (qbv : Int32) (qcH : UInt64) (qeH : Int64) (qbA : Int32) (qbB : UInt64) (qed : Int64) (qck : Int32) (qbl : UInt64) (qd9 : Int64) (qdr : Int32) (h0 : Heap) (n0 : Nat) (Z0 : n0 ≤ h0.size) (qm : Arv Z h0 qc qd .double (32 : Int32) (t32 y0 y1 y2 y3 y4 y5 y6 y7 y8 y9 y10 y11 y12 y13 y14 y15 y16 y17 y18 y19 y20 y21 y22 y23 y24 y25 y26 y27 y28 y29 y30 y31) (.double (0 : UInt64))) (qe : o0 ≠ qc) (qi : Fld Z h0 o0 MTc "capacity" "I" (.int (16 : Int32))) (qo : Fld Z h0 o0 MTc "count" "I" (.int qj)) (qn : Fld Z h0 o0 MTc "minima" "[D" (.ref qc)) (qr : Fld Z h0 o0 MTc "visits" "J" (.long qg)) (qp : n0 ≤ qc) (qbS : Exa Z h0 o0 MTc) (qU : n0 ≤ o0) (qlR : mnf d2 y19 = qdO) (qn5 : qg + (1 : Int64) = qgx) (qlS : cmpf qdO y9 = qbv) (qi8 : mnf y8 qdO = qcH) (qlT : qgx + (1 : Int64) = qeH) (qi9 : cmpf qcH y4 = qbA) (qhi : mnf qcH y5 = qbB) (qja : qeH + (1 : Int64) = qed) (qhj : cmpf qbB y2 = qck) (qgg : mnf qbB y3 = qbl) (qhk : qed + (1 : Int64) = qd9) (qgh : cmpf qbl y1 = qdr) (qmJ : TV d2) (qmK : TV y19) (qjX : (¬ qbv = (0 : Int32)) → TV y8) (qjY : (¬ qbv = (0 : Int32)) → TV qdO) (qhN : (¬ qbv = (0 : Int32)) → (¬ qbA = (0 : Int32)) → TV qcH) (qhO : (¬ qbv = (0 : Int32)) → (¬ qbA = (0 : Int32)) → TV y5) (qgy : (¬ qbv = (0 : Int32)) → (¬ qbA = (0 : Int32)) → (¬ qck = (0 : Int32)) → TV qbB) (qgz : (¬ qbv = (0 : Int32)) → (¬ qbA = (0 : Int32)) → (¬ qck = (0 : Int32)) → TV y3) (qgO : (¬ qbv = (0 : Int32)) → (¬ qbA = (0 : Int32)) → (¬ qck = (0 : Int32)) → (qdr = (0 : Int32)) → y1 = qbl) (qie : (¬ qbv = (0 : Int32)) → (¬ qbA = (0 : Int32)) → (qck = (0 : Int32)) → y1 = qbl) (qif : (¬ qbv = (0 : Int32)) → (¬ qbA = (0 : Int32)) → (qck = (0 : Int32)) → y2 = qbB) (qkY : (¬ qbv = (0 : Int32)) → (qbA = (0 : Int32)) → y1 = qbl) (qkZ : (¬ qbv = (0 : Int32)) → (qbA = (0 : Int32)) → y2 = qbB) (qk0 : (¬ qbv = (0 : Int32)) → (qbA = (0 : Int32)) → y4 = qcH) (qnM : (qbv = (0 : Int32)) → y1 = qbl) (qnN : (qbv = (0 : Int32)) → y2 = qbB) (qnO : (qbv = (0 : Int32)) → y4 = qcH) (qnP : (qbv = (0 : Int32)) → y9 = qdO) :
    MetFree l (⟨MTc, "set", "(ID)V"⟩ : MethodName) (head1 (Jvm.Cond.code (⟨MTc, "set", "(ID)V"⟩ : MethodName) prog_28_method_3_code 7 none :: ws) ({ frames := 3, cells := 0, slots := 0, locals := 90 } : Room)) (fun a U => a = #[(.ref o0), (.int (3 : Int32)), (.double d2)] ∧ Z.Warmed39 U.vm ∧ U.heap = h0) (fun _ _ _ _ _ => True) (fun _ U o U' => ∃ v L, o = .returned v ∧ Q8_3 Z o0 d2 qd y0 y1 y2 y3 y4 y5 y6 y7 y8 y9 y10 y11 y12 y13 y14 y15 y16 y17 y18 y19 y20 y21 y22 y23 y24 y25 y26 y27 y28 y29 y30 y31 qj qc qg qdO qgx qbv qcH qeH qbA qbB qed qck qbl qd9 qdr h0 n0 v U'.heap L ∧ FrameEnd U o U' L ({ frames := 3, cells := 0, slots := 0, locals := 90 } : Room).cells ({ frames := 3, cells := 0, slots := 0, locals := 90 } : Room).slots) := by
  refine MetFree.of_bodySF (plainFor_of_name pn_1) hisR ?_
  intro p e s m args below meth c s₁ Bd hml0 hP hK
  obtain ⟨rfl, hZ, hh⟩ := hP
  have hx := Bd.exec
  have hby := Bd.bytes
  have hml : c.maxLocals = 7 := hml0
  have hown : s.vm.findClass MTc = some m.cls := findClass_of_methodNamed Bd.named
  have hnm := (name_of_methodNamed Bd.named Bd.method).1
  have X0 : Stand p l e ({ frames := 3, cells := 0, slots := 0, locals := 90 } : Room) s m #[(.ref o0), (.int (3 : Int32)), (.double d2)] below meth c s₁ [] 0 0 := Stand.of_body Bd
  have e0 : s₁.heap = h0 := by rw [← hh, Bd.state]; rfl
  have N0 := Fr.nil n0
  have c0 : ∀ t, Steps p.tables e below (s₁.setTop (mkF m 0 #[vR o0, vI (3 : Int32), vD d2, s_, u_, u_, u_] [])) t → Steps p.tables e below (s₁.setTop (entryFrame m #[(.ref o0), (.int (3 : Int32)), (.double d2)] 7)) t := fun t k => castTop (ef_rm8_3 m o0 d2) k
  obtain ⟨T1, X1, e1, st1⟩ := getF X0 hx hZ hown (host := "") (Or.inl (hwi hw 21 rfl)) Via.refl e0 qi (g := (mkF m 1 #[vR o0, vI (3 : Int32), vD d2, s_, u_, u_, u_] [(.ref o0)])) rfl rfl (hb hby d8_1)
  obtain ⟨T2, X2, e2, st2⟩ := getF X1 hx hZ hown (host := "") (Or.inl (hwi hw 19 rfl)) Via.refl e1 qn (g := (mkF m 11 #[vR o0, vI (3 : Int32), vD d2, s_, vI (18 : Int32), u_, u_] [(.ref o0)])) rfl rfl (hb hby d8_11)
  obtain ⟨cl3, Ar3, q3, S3, Nn3, Ha3, G3⟩ := id qm
  have in3 : ¬ ((18 : Int32) < 0 ∨ cl3.slots.size ≤ ((18 : Int32)).toNatClampNeg) := inb_of S3 ⟨by decide, by decide⟩
  obtain ⟨T4, h4, X4, e4, W4, st4⟩ := stD X2 hx hZ e2 Ar3 (j := (18 : Int32)) in3 (g := (mkF m 17 #[vR o0, vI (3 : Int32), vD d2, s_, vI (18 : Int32), u_, u_] [(.double d2), (.int (18 : Int32)), (.ref qc)])) rfl rfl (hb hby d8_17)
  have N4 := Fr.snoc X4 N0 qp
  have K5 : Keep h0 h4 [qc, o0] := (Keep.refl h0 [qc, o0]).wr W4 (Or.inl (by simp))
  have V4 : Arv Z h4 qc qd .double (32 : Int32) (t32 y0 y1 y2 y3 y4 y5 y6 y7 y8 y9 y10 y11 y12 y13 y14 y15 y16 y17 d2 y19 y20 y21 y22 y23 y24 y25 y26 y27 y28 y29 y30 y31) (.double (0 : UInt64)) := Arv.set Ar3 q3 S3 Nn3 Ha3 G3 rfl W4 18 rfl (show (18 : Nat) < 32 by decide)
  have c6 : ∀ t, Steps p.tables e below (T4.setTop (mkF m 24 #[vR o0, vI (3 : Int32), vD d2, s_, vI (9 : Int32), u_, u_] [])) t → Steps p.tables e below (s₁.setTop (entryFrame m #[(.ref o0), (.int (3 : Int32)), (.double d2)] 7)) t := by
    intro t k
    refine c0 t ?_
    show Steps p.tables e below (s₁.setTop (mkF m 0 #[vR o0, vI (3 : Int32), vD d2, s_, u_, u_, u_] [])) _
    refine XS.aloadN X0.here hx rfl (hb hby d8_0) rfl rfl ?_
    refine st1 _ ?_
    show Steps p.tables e below (T1.setTop (mkF m 4 #[vR o0, vI (3 : Int32), vD d2, s_, u_, u_, u_] [(.int (16 : Int32))])) _
    refine XS.iloadN X1.here hx rfl (hb hby d8_4) rfl ?_
    refine Jvm.OwnK.iadd X1.here hx rfl (hb hby d8_5) rfl (v := (19 : Int32)) (by decide) ?_
    refine XS.iconst X1.here hx rfl (hb hby d8_6) ?_
    refine Jvm.OwnK.isub X1.here hx rfl (hb hby d8_7) rfl (v := (18 : Int32)) (by decide) ?_
    refine XS.istore X1.here hx rfl (hb hby d8_8) rfl (l' := #[vR o0, vI (3 : Int32), vD d2, s_, vI (18 : Int32), u_, u_]) rfl ?_
    refine XS.aloadN X1.here hx rfl (hb hby d8_10) rfl rfl ?_
    show Steps p.tables e below (T1.setTop (mkF m 11 #[vR o0, vI (3 : Int32), vD d2, s_, vI (18 : Int32), u_, u_] [(.ref o0)])) _
    refine st2 _ ?_
    show Steps p.tables e below (T2.setTop (mkF m 14 #[vR o0, vI (3 : Int32), vD d2, s_, vI (18 : Int32), u_, u_] [(.ref qc)])) _
    refine XS.iload X2.here hx rfl (hb hby d8_14) rfl ?_
    refine XS.dloadN X2.here hx rfl (hb hby d8_16) rfl ?_
    refine st4 _ ?_
    show Steps p.tables e below (T4.setTop (mkF m 18 #[vR o0, vI (3 : Int32), vD d2, s_, vI (18 : Int32), u_, u_] [])) _
    refine XS.iload X4.here hx rfl (hb hby d8_18) rfl ?_
    refine XS.iconst X4.here hx rfl (hb hby d8_20) ?_
    refine Jvm.OwnK.idiv X4.here hx rfl (hb hby d8_21) rfl (by decide) (v := (9 : Int32)) (by decide) ?_
    refine XS.istore X4.here hx rfl (hb hby d8_22) rfl (l' := #[vR o0, vI (3 : Int32), vD d2, s_, vI (9 : Int32), u_, u_]) rfl ?_
    exact k
  have f8 := (qi.other W4 (Or.inl qe))
  have f9 := (qo.other W4 (Or.inl qe))
  have f10 := (qn.other W4 (Or.inl qe))
  have f11 := (qr.other W4 (Or.inl qe))
  have f12 := (qbS.wr W4)
  obtain ⟨T7, o7q, sq7, rq7, eq7, _, L7, ho7, ⟨qc9, rfl, N7, K7q, Q7_0, Q7_1, Q7_2, Q7_3, Q7_4, Q7_5⟩, hF7⟩ := tl8_n9 l Z a0 hw ws o0 (3 : Int32) d2 qd y0 y1 y2 y3 y4 y5 y6 y7 y8 y9 y10 y11 y12 y13 y14 y15 y16 y17 d2 y19 y20 y21 y22 y23 y24 y25 y26 y27 y28 y29 y30 y31 qj qc qg qdO qgx qbv qcH qeH qbA qbB qed qck qbl qd9 qdr h4 n0 (Nat.le_trans Z0 (Keep.of_wr W4).1) V4 qe f8 f9 f10 f11 qp f12 qU qlR qn5 qlS qi8 qlT qi9 qhi qja qhj qgg qhk qgh qmJ qmK qjX qjY qhN qhO qgy qgz qgO qie qif qkY qkZ qk0 qnM qnN qnO qnP Bd hml0 hZ X4 e4 N4
  have K13 : Keep h0 T7.heap [qc, o0] := Keep.trans K5 K7q (allS (Or.inl (by simp)) (allS (Or.inl (by simp)) all0))
  exact ⟨T7, o7q, c6 _ sq7, rq7, eq7, _, L7, ho7, ⟨qc9, rfl, N7, K13, Q7_0, Q7_1, Q7_2, Q7_3, Q7_4, Q7_5⟩, hF7⟩
def Q7_3 (Z : State) (o0 : Addr) (d1 : UInt64) (qd : ClassId) (y0 y1 y2 y3 y4 y5 y6 y7 y8 y9 y10 y11 y12 y13 y14 y15 y16 y17 y18 y19 y20 y21 y22 y23 y24 y25 y26 y27 y28 y29 y30 y31 : UInt64) (qc : Addr) (qg : Int64) (qcr : UInt64) (qef : Int64) (qy : Int32) (qbr : UInt64) (qdM : Int64) (qR : Int32) (qT : UInt64) (qdp : Int64) (qbb : Int32) (qH : UInt64) (qdl : Int64) (qcc : Int32) (h0 : Heap) (n0 : Nat) (v : Option Value) (h : Heap) (L : List Loc) : Prop := ∃ qQ : Int64, v = none ∧ Fr n0 L ∧ Keep h0 h [o0, qc] ∧ Fld Z h o0 MTc "minima" "[D" (.ref qc) ∧ Fld Z h o0 MTc "visits" "J" (.long qQ) ∧ Fld Z h o0 MTc "count" "I" (.int (3 : Int32)) ∧ Fld Z h o0 MTc "capacity" "I" (.int (16 : Int32)) ∧ Exa Z h o0 MTc ∧ Arv Z h qc qd .double (32 : Int32) (t32 y0 qH qT y3 qbr y5 y6 y7 y8 qcr y10 y11 y12 y13 y14 y15 y16 y17 d1 y19 y20 y21 y22 y23 y24 y25 y26 y27 y28 y29 y30 y31) (.double (0 : UInt64))
set_option maxRecDepth 65536 in
set_option maxHeartbeats 40000000 in
theorem rm7_3 (l : Launch) (Z : State) (a0 : Array Value) (hw : ∀ d ∈ tables_1, d.before a0 Z = true) (ws : List Jvm.Cond) (o0 : Addr) (d1 : UInt64) (qd : ClassId) (y0 y1 y2 y3 y4 y5 y6 y7 y8 y9 y10 y11 y12 y13 y14 y15 y16 y17 y18 y19 y20 y21 y22 y23 y24 y25 y26 y27 y28 y29 y30 y31 : UInt64) (qc : Addr) (qg : Int64) (qcr : UInt64) (qef : Int64) (qy : Int32) (qbr : UInt64) (qdM : Int64) (qR : Int32) (qT : UInt64) (qdp : Int64) (qbb : Int32) (qH : UInt64) (qdl : Int64) (qcc : Int32) (h0 : Heap) (n0 : Nat) (Z0 : n0 ≤ h0.size) (qm : Arv Z h0 qc qd .double (32 : Int32) (t32 y0 y1 y2 y3 y4 y5 y6 y7 y8 y9 y10 y11 y12 y13 y14 y15 y16 y17 y18 y19 y20 y21 y22 y23 y24 y25 y26 y27 y28 y29 y30 y31) (.double (0 : UInt64))) (qe : o0 ≠ qc) (qn : Fld Z h0 o0 MTc "minima" "[D" (.ref qc)) (qr : Fld Z h0 o0 MTc "visits" "J" (.long qg)) (qp : n0 ≤ qc) (qo : Fld Z h0 o0 MTc "count" "I" (.int (2 : Int32))) (qi : Fld Z h0 o0 MTc "capacity" "I" (.int (16 : Int32))) (qbS : Exa Z h0 o0 MTc) (qU : n0 ≤ o0) (qig : mnf d1 y19 = qcr) (qk1 : qg + (1 : Int64) = qef) (qih : cmpf qcr y9 = qy) (qgP : mnf y8 qcr = qbr) (qii : qef + (1 : Int64) = qdM) (qgQ : cmpf qbr y4 = qR) (qf1 : mnf qbr y5 = qT) (qgR : qdM + (1 : Int64) = qdp) (qf2 : cmpf qT y2 = qbb) (qfd : mnf qT y3 = qH) (qf3 : qdp + (1 : Int64) = qdl) (qfe : cmpf qH y1 = qcc) (qjb : TV d1) (qjc : TV y19) (qhl : (¬ qy = (0 : Int32)) → TV y8) (qhm : (¬ qy = (0 : Int32)) → TV qcr) (qgi : (¬ qy = (0 : Int32)) → (¬ qR = (0 : Int32)) → TV qbr) (qgj : (¬ qy = (0 : Int32)) → (¬ qR = (0 : Int32)) → TV y5) (qfq : (¬ qy = (0 : Int32)) → (¬ qR = (0 : Int32)) → (¬ qbb = (0 : Int32)) → TV qT) (qfr : (¬ qy = (0 : Int32)) → (¬ qR = (0 : Int32)) → (¬ qbb = (0 : Int32)) → TV y3) (qfD : (¬ qy = (0 : Int32)) → (¬ qR = (0 : Int32)) → (¬ qbb = (0 : Int32)) → (qcc = (0 : Int32)) → y1 = qH) (qgA : (¬ qy = (0 : Int32)) → (¬ qR = (0 : Int32)) → (qbb = (0 : Int32)) → y1 = qH) (qgB : (¬ qy = (0 : Int32)) → (¬ qR = (0 : Int32)) → (qbb = (0 : Int32)) → y2 = qT) (qhP : (¬ qy = (0 : Int32)) → (qR = (0 : Int32)) → y1 = qH) (qhQ : (¬ qy = (0 : Int32)) → (qR = (0 : Int32)) → y2 = qT) (qhR : (¬ qy = (0 : Int32)) → (qR = (0 : Int32)) → y4 = qbr) (qjZ : (qy = (0 : Int32)) → y1 = qH) (qj0 : (qy = (0 : Int32)) → y2 = qT) (qj1 : (qy = (0 : Int32)) → y4 = qbr) (qj2 : (qy = (0 : Int32)) → y9 = qcr) :
    MetFree l (⟨MTc, "add", "(D)V"⟩ : MethodName) (head1 (Jvm.Cond.code (⟨MTc, "add", "(D)V"⟩ : MethodName) prog_28_method_2_code 3 none :: ws) ({ frames := 4, cells := 0, slots := 0, locals := 108 } : Room)) (fun a U => a = #[(.ref o0), (.double d1)] ∧ Z.Warmed39 U.vm ∧ U.heap = h0) (fun _ _ _ _ _ => True) (fun _ U o U' => ∃ v L, o = .returned v ∧ Q7_3 Z o0 d1 qd y0 y1 y2 y3 y4 y5 y6 y7 y8 y9 y10 y11 y12 y13 y14 y15 y16 y17 y18 y19 y20 y21 y22 y23 y24 y25 y26 y27 y28 y29 y30 y31 qc qg qcr qef qy qbr qdM qR qT qdp qbb qH qdl qcc h0 n0 v U'.heap L ∧ FrameEnd U o U' L ({ frames := 4, cells := 0, slots := 0, locals := 108 } : Room).cells ({ frames := 4, cells := 0, slots := 0, locals := 108 } : Room).slots) := by
  refine MetFree.of_bodySF (plainFor_of_name pn_1) hisR ?_
  intro p e s m args below meth c s₁ Bd hml0 hP hK
  obtain ⟨rfl, hZ, hh⟩ := hP
  have hx := Bd.exec
  have hby := Bd.bytes
  have hml : c.maxLocals = 3 := hml0
  have hown : s.vm.findClass MTc = some m.cls := findClass_of_methodNamed Bd.named
  have hnm := (name_of_methodNamed Bd.named Bd.method).1
  have X0 : Stand p l e ({ frames := 4, cells := 0, slots := 0, locals := 108 } : Room) s m #[(.ref o0), (.double d1)] below meth c s₁ [] 0 0 := Stand.of_body Bd
  have e0 : s₁.heap = h0 := by rw [← hh, Bd.state]; rfl
  have N0 := Fr.nil n0
  have c0 : ∀ t, Steps p.tables e below (s₁.setTop (mkF m 0 #[vR o0, vD d1, s_] [])) t → Steps p.tables e below (s₁.setTop (entryFrame m #[(.ref o0), (.double d1)] 3)) t := fun t k => castTop (ef_rm7_3 m o0 d1) k
  obtain ⟨T1, X1, e1, st1⟩ := getF X0 hx hZ hown (host := "") (Or.inl (hwi hw 37 rfl)) Via.refl e0 qo (g := (mkF m 1 #[vR o0, vD d1, s_] [(.ref o0)])) rfl rfl (hb hby d7_1)
  obtain ⟨T2, X2, e2, st2⟩ := getF X1 hx hZ hown (host := "") (Or.inl (hwi hw 21 rfl)) Via.refl e1 qi (g := (mkF m 5 #[vR o0, vD d1, s_] [(.ref o0), (.int (2 : Int32))])) rfl rfl (hb hby d7_5)
  obtain ⟨T3, X3, e3, st3⟩ := getF X2 hx hZ hown (host := "") (Or.inl (hwi hw 37 rfl)) Via.refl e2 qo (g := (mkF m 17 #[vR o0, vD d1, s_] [(.ref o0), (.ref o0)])) rfl rfl (hb hby d7_17)
  obtain ⟨T4, h4, X4, e4, W4, st4⟩ := putF X3 hx hZ hown (host := "") (Or.inl (hwi hw 37 rfl)) Via.refl e3 qo qbS (Or.inl (hwi hw 38 rfl)) (hwi hw 3 rfl) (ty := .int) (by decide) rfl rfl (g := (mkF m 22 #[vR o0, vD d1, s_] [(.int (3 : Int32)), (.ref o0)])) rfl rfl (hb hby d7_22)
  have N4 := Fr.snoc X4 N0 qU
  have K5 : Keep h0 h4 [o0, qc] := (Keep.refl h0 [o0, qc]).wr W4 (Or.inl (by simp))
  have F4w := qo.same W4
  obtain ⟨T6, X6, e6, st6⟩ := getF X4 hx hZ hown (host := "") (Or.inl (hwi hw 37 rfl)) Via.refl e4 F4w (g := (mkF m 27 #[vR o0, vD d1, s_] [(.ref o0), (.ref o0)])) rfl rfl (hb hby d7_27)
  have f7 := (qm.other W4 (Ne.symm qe))
  have f8 := (qi.other W4 (Or.inr (slot_ne (Or.inl (hwi hw 22 rfl)) (Or.inl (hwi hw 38 rfl)) (by decide) (t := .int) (t' := .int) (by decide) (by decide))))
  have f9 := (qn.other W4 (Or.inr (slot_ne (Or.inl (hwi hw 20 rfl)) (Or.inl (hwi hw 38 rfl)) (by decide) (t := (.array .double)) (t' := .int) (by decide) (by decide))))
  have f10 := (qr.other W4 (Or.inr (slot_ne (Or.inl (hwi hw 52 rfl)) (Or.inl (hwi hw 38 rfl)) (by decide) (t := .long) (t' := .int) (by decide) (by decide))))
  have f11 := (qbS.wr W4)
  obtain ⟨cq12, kq12, q12a, q12b, q12c⟩ := isOf hZ e6 f11
  obtain ⟨_, _, ⟨T12, L12, k12, n12⟩, -, X12, ⟨Lc12, hQ12, ql12, qy12, qz12⟩, st12⟩ := X6.virtualBack hx (y := (⟨MTc, "set", "(ID)V"⟩ : MethodName)) (z := (⟨MTc, "set", "(ID)V"⟩ : MethodName)) hown (mvT hZ (hwi hw 39 rfl)) (mvT hZ (hwi hw 40 rfl)) (notFace_of_selects (args := #[]) (mvT hZ (hwi hw 42 rfl))) (mvT hZ (hwi hw 42 rfl)) (mvT hZ (hwi hw 41 rfl)) (by decide) (backOf (W := 0) (rm8_3 l Z a0 hw [] o0 d1 qd y0 y1 y2 y3 y4 y5 y6 y7 y8 y9 y10 y11 y12 y13 y14 y15 y16 y17 y18 y19 y20 y21 y22 y23 y24 y25 y26 y27 y28 y29 y30 y31 (3 : Int32) qc qg qcr qef qy qbr qdM qR qT qdp qbb qH qdl qcc h4 n0 (Nat.le_trans Z0 (Keep.of_wr W4).1) f7 qe f8 F4w f9 f10 qp f11 qU qig qk1 qih qgP qii qgQ qf1 qgR qf2 qfd qf3 qfe qjb qjc qhl qhm qgi qgj qfq qfr qfD qgA qgB qhP qhQ qhR qjZ qj0 qj1 qj2) hZ (hwi hw 43 rfl) (hwi hw 4 rfl) (by decide) (by decide)) q12a q12c (g := (mkF m 31 #[vR o0, vD d1, s_] [(.double d1), (.int (3 : Int32)), (.ref o0)])) rfl (by rw [hml]; rfl) (Steps.refl _) (argsL := [(.int (3 : Int32)), (.double d1)]) (rest := []) (lenOf pd_6 rfl) rfl (by show 2 * 0 + _ ≤ _; exact Nat.le_of_eq rfl) (hb hby d7_31) (fun _ _ => ⟨rfl, e6, (by decide : 0 + 0 ≤ _), (by decide : 0 + 0 ≤ _)⟩)
  dsimp only [Pt.U, Pt.locs, Pt.cells, Pt.slots] at X12 ql12 qy12 qz12 st12 hQ12
  subst ql12 qy12 qz12
  obtain ⟨qQ, rfl, N12q, K12q, Q12_0, Q12_1, Q12_2, Q12_3, Q12_4, Q12_5⟩ := hQ12
  have N12 := Fr.app N4 N12q
  have K13 : Keep h0 T12.heap [o0, qc] := Keep.trans K5 K12q (allS (Or.inl (by simp)) (allS (Or.inl (by simp)) all0))
  have c14 : ∀ t, Steps p.tables e below (T12.setTop (mkF m 34 #[vR o0, vD d1, s_] [])) t → Steps p.tables e below (s₁.setTop (entryFrame m #[(.ref o0), (.double d1)] 3)) t := by
    intro t k
    refine c0 t ?_
    show Steps p.tables e below (s₁.setTop (mkF m 0 #[vR o0, vD d1, s_] [])) _
    refine XS.aloadN X0.here hx rfl (hb hby d7_0) rfl rfl ?_
    refine st1 _ ?_
    show Steps p.tables e below (T1.setTop (mkF m 4 #[vR o0, vD d1, s_] [(.int (2 : Int32))])) _
    refine XS.aloadN X1.here hx rfl (hb hby d7_4) rfl rfl ?_
    refine st2 _ ?_
    show Steps p.tables e below (T2.setTop (mkF m 8 #[vR o0, vD d1, s_] [(.int (16 : Int32)), (.int (2 : Int32))])) _
    refine XS.icmpYes X2.here hx rfl (pc0 := 8) (pc' := 15) rfl (hb hby d7_8) rfl (Jvm.Free.XT.ii_ne_t (by decide)) (by decide) (by decide) ?_
    refine XS.aloadN X2.here hx rfl (hb hby d7_15) rfl rfl ?_
    refine XS.dup X2.here hx rfl (hb hby d7_16) rfl rfl ?_
    refine st3 _ ?_
    show Steps p.tables e below (T3.setTop (mkF m 20 #[vR o0, vD d1, s_] [(.int (2 : Int32)), (.ref o0)])) _
    refine XS.iconst X3.here hx rfl (hb hby d7_20) ?_
    refine Jvm.OwnK.iadd X3.here hx rfl (hb hby d7_21) rfl (v := (3 : Int32)) (by decide) ?_
    refine st4 _ ?_
    show Steps p.tables e below (T4.setTop (mkF m 25 #[vR o0, vD d1, s_] [])) _
    refine XS.aloadN X4.here hx rfl (hb hby d7_25) rfl rfl ?_
    refine XS.aloadN X4.here hx rfl (hb hby d7_26) rfl rfl ?_
    refine st6 _ ?_
    show Steps p.tables e below (T6.setTop (mkF m 30 #[vR o0, vD d1, s_] [(.int (3 : Int32)), (.ref o0)])) _
    refine XS.dloadN X6.here hx rfl (hb hby d7_30) rfl ?_
    refine st12.trans ?_
    exact k
  obtain ⟨fs, hr, hrun, hended, hW, hsame⟩ := X12.leave (v := none) (fun _ => rfl)
  refine ⟨_, _, c14 _ ?_, hrun, hended, _, _, rfl, ?_, ⟨_, rfl⟩, hW, hsame.mono (by decide) (by decide)⟩
  · show Steps p.tables e below (T12.setTop (mkF m 34 #[vR o0, vD d1, s_] [])) _
    exact X12.returnOut hx Bd.returns (hb hby d7_34) hr
  · show Q7_3 Z o0 d1 qd y0 y1 y2 y3 y4 y5 y6 y7 y8 y9 y10 y11 y12 y13 y14 y15 y16 y17 y18 y19 y20 y21 y22 y23 y24 y25 y26 y27 y28 y29 y30 y31 qc qg qcr qef qy qbr qdM qR qT qdp qbb qH qdl qcc h0 n0 _ T12.heap _
    exact ⟨qQ, rfl, N12, K13, Q12_3, Q12_4, Q12_2, Q12_1, Q12_5, Q12_0⟩
def Q8_4 (Z : State) (o0 : Addr) (d2 : UInt64) (qd : ClassId) (y0 y1 y2 y3 y4 y5 y6 y7 y8 y9 y10 y11 y12 y13 y14 y15 y16 y17 y18 y19 y20 y21 y22 y23 y24 y25 y26 y27 y28 y29 y30 y31 : UInt64) (qj : Int32) (qc : Addr) (qg : Int64) (qdO : UInt64) (qgx : Int64) (qbv : Int32) (qcH : UInt64) (qeH : Int64) (qbA : Int32) (qbB : UInt64) (qed : Int64) (qck : Int32) (qbl : UInt64) (qd9 : Int64) (qdr : Int32) (h0 : Heap) (n0 : Nat) (v : Option Value) (h : Heap) (L : List Loc) : Prop := ∃ vx_visits_o0 : Int64, v = none ∧ Fr n0 L ∧ Keep h0 h [qc, o0] ∧ Arv Z h qc qd .double (32 : Int32) (t32 y0 qbl qbB y3 qcH y5 y6 y7 y8 qdO y10 y11 y12 y13 y14 y15 y16 y17 y18 d2 y20 y21 y22 y23 y24 y25 y26 y27 y28 y29 y30 y31) (.double (0 : UInt64)) ∧ Fld Z h o0 MTc "capacity" "I" (.int (16 : Int32)) ∧ Fld Z h o0 MTc "count" "I" (.int qj) ∧ Fld Z h o0 MTc "minima" "[D" (.ref qc) ∧ Fld Z h o0 MTc "visits" "J" (.long vx_visits_o0) ∧ Exa Z h o0 MTc
set_option maxRecDepth 65536 in
set_option maxHeartbeats 40000000 in
theorem rm8_4 (l : Launch) (Z : State) (a0 : Array Value) (hw : ∀ d ∈ tables_1, d.before a0 Z = true) (ws : List Jvm.Cond) (o0 : Addr) (d2 : UInt64) (qd : ClassId) (y0 y1 y2 y3 y4 y5 y6 y7 y8 y9 y10 y11 y12 y13 y14 y15 y16 y17 y18 y19 y20 y21 y22 y23 y24 y25 y26 y27 y28 y29 y30 y31 : UInt64) (qj : Int32) (qc : Addr) (qg : Int64) (qdO : UInt64) (qgx : Int64) (qbv : Int32) (qcH : UInt64) (qeH : Int64) (qbA : Int32) (qbB : UInt64) (qed : Int64) (qck : Int32) (qbl : UInt64) (qd9 : Int64) (qdr : Int32) (h0 : Heap) (n0 : Nat) (Z0 : n0 ≤ h0.size) (qm : Arv Z h0 qc qd .double (32 : Int32) (t32 y0 y1 y2 y3 y4 y5 y6 y7 y8 y9 y10 y11 y12 y13 y14 y15 y16 y17 y18 y19 y20 y21 y22 y23 y24 y25 y26 y27 y28 y29 y30 y31) (.double (0 : UInt64))) (qe : o0 ≠ qc) (qi : Fld Z h0 o0 MTc "capacity" "I" (.int (16 : Int32))) (qo : Fld Z h0 o0 MTc "count" "I" (.int qj)) (qn : Fld Z h0 o0 MTc "minima" "[D" (.ref qc)) (qr : Fld Z h0 o0 MTc "visits" "J" (.long qg)) (qp : n0 ≤ qc) (qbS : Exa Z h0 o0 MTc) (qU : n0 ≤ o0) (qlR : mnf y18 d2 = qdO) (qn5 : qg + (1 : Int64) = qgx) (qlS : cmpf qdO y9 = qbv) (qi8 : mnf y8 qdO = qcH) (qlT : qgx + (1 : Int64) = qeH) (qi9 : cmpf qcH y4 = qbA) (qhi : mnf qcH y5 = qbB) (qja : qeH + (1 : Int64) = qed) (qhj : cmpf qbB y2 = qck) (qgg : mnf qbB y3 = qbl) (qhk : qed + (1 : Int64) = qd9) (qgh : cmpf qbl y1 = qdr) (qmJ : TV y18) (qmK : TV d2) (qjX : (¬ qbv = (0 : Int32)) → TV y8) (qjY : (¬ qbv = (0 : Int32)) → TV qdO) (qhN : (¬ qbv = (0 : Int32)) → (¬ qbA = (0 : Int32)) → TV qcH) (qhO : (¬ qbv = (0 : Int32)) → (¬ qbA = (0 : Int32)) → TV y5) (qgy : (¬ qbv = (0 : Int32)) → (¬ qbA = (0 : Int32)) → (¬ qck = (0 : Int32)) → TV qbB) (qgz : (¬ qbv = (0 : Int32)) → (¬ qbA = (0 : Int32)) → (¬ qck = (0 : Int32)) → TV y3) (qgO : (¬ qbv = (0 : Int32)) → (¬ qbA = (0 : Int32)) → (¬ qck = (0 : Int32)) → (qdr = (0 : Int32)) → y1 = qbl) (qie : (¬ qbv = (0 : Int32)) → (¬ qbA = (0 : Int32)) → (qck = (0 : Int32)) → y1 = qbl) (qif : (¬ qbv = (0 : Int32)) → (¬ qbA = (0 : Int32)) → (qck = (0 : Int32)) → y2 = qbB) (qkY : (¬ qbv = (0 : Int32)) → (qbA = (0 : Int32)) → y1 = qbl) (qkZ : (¬ qbv = (0 : Int32)) → (qbA = (0 : Int32)) → y2 = qbB) (qk0 : (¬ qbv = (0 : Int32)) → (qbA = (0 : Int32)) → y4 = qcH) (qnM : (qbv = (0 : Int32)) → y1 = qbl) (qnN : (qbv = (0 : Int32)) → y2 = qbB) (qnO : (qbv = (0 : Int32)) → y4 = qcH) (qnP : (qbv = (0 : Int32)) → y9 = qdO) :
    MetFree l (⟨MTc, "set", "(ID)V"⟩ : MethodName) (head1 (Jvm.Cond.code (⟨MTc, "set", "(ID)V"⟩ : MethodName) prog_28_method_3_code 7 none :: ws) ({ frames := 3, cells := 0, slots := 0, locals := 90 } : Room)) (fun a U => a = #[(.ref o0), (.int (4 : Int32)), (.double d2)] ∧ Z.Warmed39 U.vm ∧ U.heap = h0) (fun _ _ _ _ _ => True) (fun _ U o U' => ∃ v L, o = .returned v ∧ Q8_4 Z o0 d2 qd y0 y1 y2 y3 y4 y5 y6 y7 y8 y9 y10 y11 y12 y13 y14 y15 y16 y17 y18 y19 y20 y21 y22 y23 y24 y25 y26 y27 y28 y29 y30 y31 qj qc qg qdO qgx qbv qcH qeH qbA qbB qed qck qbl qd9 qdr h0 n0 v U'.heap L ∧ FrameEnd U o U' L ({ frames := 3, cells := 0, slots := 0, locals := 90 } : Room).cells ({ frames := 3, cells := 0, slots := 0, locals := 90 } : Room).slots) := by
  refine MetFree.of_bodySF (plainFor_of_name pn_1) hisR ?_
  intro p e s m args below meth c s₁ Bd hml0 hP hK
  obtain ⟨rfl, hZ, hh⟩ := hP
  have hx := Bd.exec
  have hby := Bd.bytes
  have hml : c.maxLocals = 7 := hml0
  have hown : s.vm.findClass MTc = some m.cls := findClass_of_methodNamed Bd.named
  have hnm := (name_of_methodNamed Bd.named Bd.method).1
  have X0 : Stand p l e ({ frames := 3, cells := 0, slots := 0, locals := 90 } : Room) s m #[(.ref o0), (.int (4 : Int32)), (.double d2)] below meth c s₁ [] 0 0 := Stand.of_body Bd
  have e0 : s₁.heap = h0 := by rw [← hh, Bd.state]; rfl
  have N0 := Fr.nil n0
  have c0 : ∀ t, Steps p.tables e below (s₁.setTop (mkF m 0 #[vR o0, vI (4 : Int32), vD d2, s_, u_, u_, u_] [])) t → Steps p.tables e below (s₁.setTop (entryFrame m #[(.ref o0), (.int (4 : Int32)), (.double d2)] 7)) t := fun t k => castTop (ef_rm8_4 m o0 d2) k
  obtain ⟨T1, X1, e1, st1⟩ := getF X0 hx hZ hown (host := "") (Or.inl (hwi hw 21 rfl)) Via.refl e0 qi (g := (mkF m 1 #[vR o0, vI (4 : Int32), vD d2, s_, u_, u_, u_] [(.ref o0)])) rfl rfl (hb hby d8_1)
  obtain ⟨T2, X2, e2, st2⟩ := getF X1 hx hZ hown (host := "") (Or.inl (hwi hw 19 rfl)) Via.refl e1 qn (g := (mkF m 11 #[vR o0, vI (4 : Int32), vD d2, s_, vI (19 : Int32), u_, u_] [(.ref o0)])) rfl rfl (hb hby d8_11)
  obtain ⟨cl3, Ar3, q3, S3, Nn3, Ha3, G3⟩ := id qm
  have in3 : ¬ ((19 : Int32) < 0 ∨ cl3.slots.size ≤ ((19 : Int32)).toNatClampNeg) := inb_of S3 ⟨by decide, by decide⟩
  obtain ⟨T4, h4, X4, e4, W4, st4⟩ := stD X2 hx hZ e2 Ar3 (j := (19 : Int32)) in3 (g := (mkF m 17 #[vR o0, vI (4 : Int32), vD d2, s_, vI (19 : Int32), u_, u_] [(.double d2), (.int (19 : Int32)), (.ref qc)])) rfl rfl (hb hby d8_17)
  have N4 := Fr.snoc X4 N0 qp
  have K5 : Keep h0 h4 [qc, o0] := (Keep.refl h0 [qc, o0]).wr W4 (Or.inl (by simp))
  have V4 : Arv Z h4 qc qd .double (32 : Int32) (t32 y0 y1 y2 y3 y4 y5 y6 y7 y8 y9 y10 y11 y12 y13 y14 y15 y16 y17 y18 d2 y20 y21 y22 y23 y24 y25 y26 y27 y28 y29 y30 y31) (.double (0 : UInt64)) := Arv.set Ar3 q3 S3 Nn3 Ha3 G3 rfl W4 19 rfl (show (19 : Nat) < 32 by decide)
  have c6 : ∀ t, Steps p.tables e below (T4.setTop (mkF m 24 #[vR o0, vI (4 : Int32), vD d2, s_, vI (9 : Int32), u_, u_] [])) t → Steps p.tables e below (s₁.setTop (entryFrame m #[(.ref o0), (.int (4 : Int32)), (.double d2)] 7)) t := by
    intro t k
    refine c0 t ?_
    show Steps p.tables e below (s₁.setTop (mkF m 0 #[vR o0, vI (4 : Int32), vD d2, s_, u_, u_, u_] [])) _
    refine XS.aloadN X0.here hx rfl (hb hby d8_0) rfl rfl ?_
    refine st1 _ ?_
    show Steps p.tables e below (T1.setTop (mkF m 4 #[vR o0, vI (4 : Int32), vD d2, s_, u_, u_, u_] [(.int (16 : Int32))])) _
    refine XS.iloadN X1.here hx rfl (hb hby d8_4) rfl ?_
    refine Jvm.OwnK.iadd X1.here hx rfl (hb hby d8_5) rfl (v := (20 : Int32)) (by decide) ?_
    refine XS.iconst X1.here hx rfl (hb hby d8_6) ?_
    refine Jvm.OwnK.isub X1.here hx rfl (hb hby d8_7) rfl (v := (19 : Int32)) (by decide) ?_
    refine XS.istore X1.here hx rfl (hb hby d8_8) rfl (l' := #[vR o0, vI (4 : Int32), vD d2, s_, vI (19 : Int32), u_, u_]) rfl ?_
    refine XS.aloadN X1.here hx rfl (hb hby d8_10) rfl rfl ?_
    show Steps p.tables e below (T1.setTop (mkF m 11 #[vR o0, vI (4 : Int32), vD d2, s_, vI (19 : Int32), u_, u_] [(.ref o0)])) _
    refine st2 _ ?_
    show Steps p.tables e below (T2.setTop (mkF m 14 #[vR o0, vI (4 : Int32), vD d2, s_, vI (19 : Int32), u_, u_] [(.ref qc)])) _
    refine XS.iload X2.here hx rfl (hb hby d8_14) rfl ?_
    refine XS.dloadN X2.here hx rfl (hb hby d8_16) rfl ?_
    refine st4 _ ?_
    show Steps p.tables e below (T4.setTop (mkF m 18 #[vR o0, vI (4 : Int32), vD d2, s_, vI (19 : Int32), u_, u_] [])) _
    refine XS.iload X4.here hx rfl (hb hby d8_18) rfl ?_
    refine XS.iconst X4.here hx rfl (hb hby d8_20) ?_
    refine Jvm.OwnK.idiv X4.here hx rfl (hb hby d8_21) rfl (by decide) (v := (9 : Int32)) (by decide) ?_
    refine XS.istore X4.here hx rfl (hb hby d8_22) rfl (l' := #[vR o0, vI (4 : Int32), vD d2, s_, vI (9 : Int32), u_, u_]) rfl ?_
    exact k
  have f8 := (qi.other W4 (Or.inl qe))
  have f9 := (qo.other W4 (Or.inl qe))
  have f10 := (qn.other W4 (Or.inl qe))
  have f11 := (qr.other W4 (Or.inl qe))
  have f12 := (qbS.wr W4)
  obtain ⟨T7, o7q, sq7, rq7, eq7, _, L7, ho7, ⟨qc9, rfl, N7, K7q, Q7_0, Q7_1, Q7_2, Q7_3, Q7_4, Q7_5⟩, hF7⟩ := tl8_n9 l Z a0 hw ws o0 (4 : Int32) d2 qd y0 y1 y2 y3 y4 y5 y6 y7 y8 y9 y10 y11 y12 y13 y14 y15 y16 y17 y18 d2 y20 y21 y22 y23 y24 y25 y26 y27 y28 y29 y30 y31 qj qc qg qdO qgx qbv qcH qeH qbA qbB qed qck qbl qd9 qdr h4 n0 (Nat.le_trans Z0 (Keep.of_wr W4).1) V4 qe f8 f9 f10 f11 qp f12 qU qlR qn5 qlS qi8 qlT qi9 qhi qja qhj qgg qhk qgh qmJ qmK qjX qjY qhN qhO qgy qgz qgO qie qif qkY qkZ qk0 qnM qnN qnO qnP Bd hml0 hZ X4 e4 N4
  have K13 : Keep h0 T7.heap [qc, o0] := Keep.trans K5 K7q (allS (Or.inl (by simp)) (allS (Or.inl (by simp)) all0))
  exact ⟨T7, o7q, c6 _ sq7, rq7, eq7, _, L7, ho7, ⟨qc9, rfl, N7, K13, Q7_0, Q7_1, Q7_2, Q7_3, Q7_4, Q7_5⟩, hF7⟩
def Q7_4 (Z : State) (o0 : Addr) (d1 : UInt64) (qd : ClassId) (y0 y1 y2 y3 y4 y5 y6 y7 y8 y9 y10 y11 y12 y13 y14 y15 y16 y17 y18 y19 y20 y21 y22 y23 y24 y25 y26 y27 y28 y29 y30 y31 : UInt64) (qc : Addr) (qg : Int64) (qcr : UInt64) (qef : Int64) (qy : Int32) (qbr : UInt64) (qdM : Int64) (qR : Int32) (qT : UInt64) (qdp : Int64) (qbb : Int32) (qH : UInt64) (qdl : Int64) (qcc : Int32) (h0 : Heap) (n0 : Nat) (v : Option Value) (h : Heap) (L : List Loc) : Prop := ∃ qQ : Int64, v = none ∧ Fr n0 L ∧ Keep h0 h [o0, qc] ∧ Fld Z h o0 MTc "minima" "[D" (.ref qc) ∧ Fld Z h o0 MTc "visits" "J" (.long qQ) ∧ Fld Z h o0 MTc "count" "I" (.int (4 : Int32)) ∧ Fld Z h o0 MTc "capacity" "I" (.int (16 : Int32)) ∧ Exa Z h o0 MTc ∧ Arv Z h qc qd .double (32 : Int32) (t32 y0 qH qT y3 qbr y5 y6 y7 y8 qcr y10 y11 y12 y13 y14 y15 y16 y17 y18 d1 y20 y21 y22 y23 y24 y25 y26 y27 y28 y29 y30 y31) (.double (0 : UInt64))
set_option maxRecDepth 65536 in
set_option maxHeartbeats 40000000 in
theorem rm7_4 (l : Launch) (Z : State) (a0 : Array Value) (hw : ∀ d ∈ tables_1, d.before a0 Z = true) (ws : List Jvm.Cond) (o0 : Addr) (d1 : UInt64) (qd : ClassId) (y0 y1 y2 y3 y4 y5 y6 y7 y8 y9 y10 y11 y12 y13 y14 y15 y16 y17 y18 y19 y20 y21 y22 y23 y24 y25 y26 y27 y28 y29 y30 y31 : UInt64) (qc : Addr) (qg : Int64) (qcr : UInt64) (qef : Int64) (qy : Int32) (qbr : UInt64) (qdM : Int64) (qR : Int32) (qT : UInt64) (qdp : Int64) (qbb : Int32) (qH : UInt64) (qdl : Int64) (qcc : Int32) (h0 : Heap) (n0 : Nat) (Z0 : n0 ≤ h0.size) (qm : Arv Z h0 qc qd .double (32 : Int32) (t32 y0 y1 y2 y3 y4 y5 y6 y7 y8 y9 y10 y11 y12 y13 y14 y15 y16 y17 y18 y19 y20 y21 y22 y23 y24 y25 y26 y27 y28 y29 y30 y31) (.double (0 : UInt64))) (qe : o0 ≠ qc) (qn : Fld Z h0 o0 MTc "minima" "[D" (.ref qc)) (qr : Fld Z h0 o0 MTc "visits" "J" (.long qg)) (qp : n0 ≤ qc) (qo : Fld Z h0 o0 MTc "count" "I" (.int (3 : Int32))) (qi : Fld Z h0 o0 MTc "capacity" "I" (.int (16 : Int32))) (qbS : Exa Z h0 o0 MTc) (qU : n0 ≤ o0) (qig : mnf y18 d1 = qcr) (qk1 : qg + (1 : Int64) = qef) (qih : cmpf qcr y9 = qy) (qgP : mnf y8 qcr = qbr) (qii : qef + (1 : Int64) = qdM) (qgQ : cmpf qbr y4 = qR) (qf1 : mnf qbr y5 = qT) (qgR : qdM + (1 : Int64) = qdp) (qf2 : cmpf qT y2 = qbb) (qfd : mnf qT y3 = qH) (qf3 : qdp + (1 : Int64) = qdl) (qfe : cmpf qH y1 = qcc) (qjb : TV y18) (qjc : TV d1) (qhl : (¬ qy = (0 : Int32)) → TV y8) (qhm : (¬ qy = (0 : Int32)) → TV qcr) (qgi : (¬ qy = (0 : Int32)) → (¬ qR = (0 : Int32)) → TV qbr) (qgj : (¬ qy = (0 : Int32)) → (¬ qR = (0 : Int32)) → TV y5) (qfq : (¬ qy = (0 : Int32)) → (¬ qR = (0 : Int32)) → (¬ qbb = (0 : Int32)) → TV qT) (qfr : (¬ qy = (0 : Int32)) → (¬ qR = (0 : Int32)) → (¬ qbb = (0 : Int32)) → TV y3) (qfD : (¬ qy = (0 : Int32)) → (¬ qR = (0 : Int32)) → (¬ qbb = (0 : Int32)) → (qcc = (0 : Int32)) → y1 = qH) (qgA : (¬ qy = (0 : Int32)) → (¬ qR = (0 : Int32)) → (qbb = (0 : Int32)) → y1 = qH) (qgB : (¬ qy = (0 : Int32)) → (¬ qR = (0 : Int32)) → (qbb = (0 : Int32)) → y2 = qT) (qhP : (¬ qy = (0 : Int32)) → (qR = (0 : Int32)) → y1 = qH) (qhQ : (¬ qy = (0 : Int32)) → (qR = (0 : Int32)) → y2 = qT) (qhR : (¬ qy = (0 : Int32)) → (qR = (0 : Int32)) → y4 = qbr) (qjZ : (qy = (0 : Int32)) → y1 = qH) (qj0 : (qy = (0 : Int32)) → y2 = qT) (qj1 : (qy = (0 : Int32)) → y4 = qbr) (qj2 : (qy = (0 : Int32)) → y9 = qcr) :
    MetFree l (⟨MTc, "add", "(D)V"⟩ : MethodName) (head1 (Jvm.Cond.code (⟨MTc, "add", "(D)V"⟩ : MethodName) prog_28_method_2_code 3 none :: ws) ({ frames := 4, cells := 0, slots := 0, locals := 108 } : Room)) (fun a U => a = #[(.ref o0), (.double d1)] ∧ Z.Warmed39 U.vm ∧ U.heap = h0) (fun _ _ _ _ _ => True) (fun _ U o U' => ∃ v L, o = .returned v ∧ Q7_4 Z o0 d1 qd y0 y1 y2 y3 y4 y5 y6 y7 y8 y9 y10 y11 y12 y13 y14 y15 y16 y17 y18 y19 y20 y21 y22 y23 y24 y25 y26 y27 y28 y29 y30 y31 qc qg qcr qef qy qbr qdM qR qT qdp qbb qH qdl qcc h0 n0 v U'.heap L ∧ FrameEnd U o U' L ({ frames := 4, cells := 0, slots := 0, locals := 108 } : Room).cells ({ frames := 4, cells := 0, slots := 0, locals := 108 } : Room).slots) := by
  refine MetFree.of_bodySF (plainFor_of_name pn_1) hisR ?_
  intro p e s m args below meth c s₁ Bd hml0 hP hK
  obtain ⟨rfl, hZ, hh⟩ := hP
  have hx := Bd.exec
  have hby := Bd.bytes
  have hml : c.maxLocals = 3 := hml0
  have hown : s.vm.findClass MTc = some m.cls := findClass_of_methodNamed Bd.named
  have hnm := (name_of_methodNamed Bd.named Bd.method).1
  have X0 : Stand p l e ({ frames := 4, cells := 0, slots := 0, locals := 108 } : Room) s m #[(.ref o0), (.double d1)] below meth c s₁ [] 0 0 := Stand.of_body Bd
  have e0 : s₁.heap = h0 := by rw [← hh, Bd.state]; rfl
  have N0 := Fr.nil n0
  have c0 : ∀ t, Steps p.tables e below (s₁.setTop (mkF m 0 #[vR o0, vD d1, s_] [])) t → Steps p.tables e below (s₁.setTop (entryFrame m #[(.ref o0), (.double d1)] 3)) t := fun t k => castTop (ef_rm7_4 m o0 d1) k
  obtain ⟨T1, X1, e1, st1⟩ := getF X0 hx hZ hown (host := "") (Or.inl (hwi hw 37 rfl)) Via.refl e0 qo (g := (mkF m 1 #[vR o0, vD d1, s_] [(.ref o0)])) rfl rfl (hb hby d7_1)
  obtain ⟨T2, X2, e2, st2⟩ := getF X1 hx hZ hown (host := "") (Or.inl (hwi hw 21 rfl)) Via.refl e1 qi (g := (mkF m 5 #[vR o0, vD d1, s_] [(.ref o0), (.int (3 : Int32))])) rfl rfl (hb hby d7_5)
  obtain ⟨T3, X3, e3, st3⟩ := getF X2 hx hZ hown (host := "") (Or.inl (hwi hw 37 rfl)) Via.refl e2 qo (g := (mkF m 17 #[vR o0, vD d1, s_] [(.ref o0), (.ref o0)])) rfl rfl (hb hby d7_17)
  obtain ⟨T4, h4, X4, e4, W4, st4⟩ := putF X3 hx hZ hown (host := "") (Or.inl (hwi hw 37 rfl)) Via.refl e3 qo qbS (Or.inl (hwi hw 38 rfl)) (hwi hw 3 rfl) (ty := .int) (by decide) rfl rfl (g := (mkF m 22 #[vR o0, vD d1, s_] [(.int (4 : Int32)), (.ref o0)])) rfl rfl (hb hby d7_22)
  have N4 := Fr.snoc X4 N0 qU
  have K5 : Keep h0 h4 [o0, qc] := (Keep.refl h0 [o0, qc]).wr W4 (Or.inl (by simp))
  have F4w := qo.same W4
  obtain ⟨T6, X6, e6, st6⟩ := getF X4 hx hZ hown (host := "") (Or.inl (hwi hw 37 rfl)) Via.refl e4 F4w (g := (mkF m 27 #[vR o0, vD d1, s_] [(.ref o0), (.ref o0)])) rfl rfl (hb hby d7_27)
  have f7 := (qm.other W4 (Ne.symm qe))
  have f8 := (qi.other W4 (Or.inr (slot_ne (Or.inl (hwi hw 22 rfl)) (Or.inl (hwi hw 38 rfl)) (by decide) (t := .int) (t' := .int) (by decide) (by decide))))
  have f9 := (qn.other W4 (Or.inr (slot_ne (Or.inl (hwi hw 20 rfl)) (Or.inl (hwi hw 38 rfl)) (by decide) (t := (.array .double)) (t' := .int) (by decide) (by decide))))
  have f10 := (qr.other W4 (Or.inr (slot_ne (Or.inl (hwi hw 52 rfl)) (Or.inl (hwi hw 38 rfl)) (by decide) (t := .long) (t' := .int) (by decide) (by decide))))
  have f11 := (qbS.wr W4)
  obtain ⟨cq12, kq12, q12a, q12b, q12c⟩ := isOf hZ e6 f11
  obtain ⟨_, _, ⟨T12, L12, k12, n12⟩, -, X12, ⟨Lc12, hQ12, ql12, qy12, qz12⟩, st12⟩ := X6.virtualBack hx (y := (⟨MTc, "set", "(ID)V"⟩ : MethodName)) (z := (⟨MTc, "set", "(ID)V"⟩ : MethodName)) hown (mvT hZ (hwi hw 39 rfl)) (mvT hZ (hwi hw 40 rfl)) (notFace_of_selects (args := #[]) (mvT hZ (hwi hw 42 rfl))) (mvT hZ (hwi hw 42 rfl)) (mvT hZ (hwi hw 41 rfl)) (by decide) (backOf (W := 0) (rm8_4 l Z a0 hw [] o0 d1 qd y0 y1 y2 y3 y4 y5 y6 y7 y8 y9 y10 y11 y12 y13 y14 y15 y16 y17 y18 y19 y20 y21 y22 y23 y24 y25 y26 y27 y28 y29 y30 y31 (4 : Int32) qc qg qcr qef qy qbr qdM qR qT qdp qbb qH qdl qcc h4 n0 (Nat.le_trans Z0 (Keep.of_wr W4).1) f7 qe f8 F4w f9 f10 qp f11 qU qig qk1 qih qgP qii qgQ qf1 qgR qf2 qfd qf3 qfe qjb qjc qhl qhm qgi qgj qfq qfr qfD qgA qgB qhP qhQ qhR qjZ qj0 qj1 qj2) hZ (hwi hw 43 rfl) (hwi hw 4 rfl) (by decide) (by decide)) q12a q12c (g := (mkF m 31 #[vR o0, vD d1, s_] [(.double d1), (.int (4 : Int32)), (.ref o0)])) rfl (by rw [hml]; rfl) (Steps.refl _) (argsL := [(.int (4 : Int32)), (.double d1)]) (rest := []) (lenOf pd_6 rfl) rfl (by show 2 * 0 + _ ≤ _; exact Nat.le_of_eq rfl) (hb hby d7_31) (fun _ _ => ⟨rfl, e6, (by decide : 0 + 0 ≤ _), (by decide : 0 + 0 ≤ _)⟩)
  dsimp only [Pt.U, Pt.locs, Pt.cells, Pt.slots] at X12 ql12 qy12 qz12 st12 hQ12
  subst ql12 qy12 qz12
  obtain ⟨qQ, rfl, N12q, K12q, Q12_0, Q12_1, Q12_2, Q12_3, Q12_4, Q12_5⟩ := hQ12
  have N12 := Fr.app N4 N12q
  have K13 : Keep h0 T12.heap [o0, qc] := Keep.trans K5 K12q (allS (Or.inl (by simp)) (allS (Or.inl (by simp)) all0))
  have c14 : ∀ t, Steps p.tables e below (T12.setTop (mkF m 34 #[vR o0, vD d1, s_] [])) t → Steps p.tables e below (s₁.setTop (entryFrame m #[(.ref o0), (.double d1)] 3)) t := by
    intro t k
    refine c0 t ?_
    show Steps p.tables e below (s₁.setTop (mkF m 0 #[vR o0, vD d1, s_] [])) _
    refine XS.aloadN X0.here hx rfl (hb hby d7_0) rfl rfl ?_
    refine st1 _ ?_
    show Steps p.tables e below (T1.setTop (mkF m 4 #[vR o0, vD d1, s_] [(.int (3 : Int32))])) _
    refine XS.aloadN X1.here hx rfl (hb hby d7_4) rfl rfl ?_
    refine st2 _ ?_
    show Steps p.tables e below (T2.setTop (mkF m 8 #[vR o0, vD d1, s_] [(.int (16 : Int32)), (.int (3 : Int32))])) _
    refine XS.icmpYes X2.here hx rfl (pc0 := 8) (pc' := 15) rfl (hb hby d7_8) rfl (Jvm.Free.XT.ii_ne_t (by decide)) (by decide) (by decide) ?_
    refine XS.aloadN X2.here hx rfl (hb hby d7_15) rfl rfl ?_
    refine XS.dup X2.here hx rfl (hb hby d7_16) rfl rfl ?_
    refine st3 _ ?_
    show Steps p.tables e below (T3.setTop (mkF m 20 #[vR o0, vD d1, s_] [(.int (3 : Int32)), (.ref o0)])) _
    refine XS.iconst X3.here hx rfl (hb hby d7_20) ?_
    refine Jvm.OwnK.iadd X3.here hx rfl (hb hby d7_21) rfl (v := (4 : Int32)) (by decide) ?_
    refine st4 _ ?_
    show Steps p.tables e below (T4.setTop (mkF m 25 #[vR o0, vD d1, s_] [])) _
    refine XS.aloadN X4.here hx rfl (hb hby d7_25) rfl rfl ?_
    refine XS.aloadN X4.here hx rfl (hb hby d7_26) rfl rfl ?_
    refine st6 _ ?_
    show Steps p.tables e below (T6.setTop (mkF m 30 #[vR o0, vD d1, s_] [(.int (4 : Int32)), (.ref o0)])) _
    refine XS.dloadN X6.here hx rfl (hb hby d7_30) rfl ?_
    refine st12.trans ?_
    exact k
  obtain ⟨fs, hr, hrun, hended, hW, hsame⟩ := X12.leave (v := none) (fun _ => rfl)
  refine ⟨_, _, c14 _ ?_, hrun, hended, _, _, rfl, ?_, ⟨_, rfl⟩, hW, hsame.mono (by decide) (by decide)⟩
  · show Steps p.tables e below (T12.setTop (mkF m 34 #[vR o0, vD d1, s_] [])) _
    exact X12.returnOut hx Bd.returns (hb hby d7_34) hr
  · show Q7_4 Z o0 d1 qd y0 y1 y2 y3 y4 y5 y6 y7 y8 y9 y10 y11 y12 y13 y14 y15 y16 y17 y18 y19 y20 y21 y22 y23 y24 y25 y26 y27 y28 y29 y30 y31 qc qg qcr qef qy qbr qdM qR qT qdp qbb qH qdl qcc h0 n0 _ T12.heap _
    exact ⟨qQ, rfl, N12, K13, Q12_3, Q12_4, Q12_2, Q12_1, Q12_5, Q12_0⟩
def Q8_5 (Z : State) (o0 : Addr) (d2 : UInt64) (qd : ClassId) (y0 y1 y2 y3 y4 y5 y6 y7 y8 y9 y10 y11 y12 y13 y14 y15 y16 y17 y18 y19 y20 y21 y22 y23 y24 y25 y26 y27 y28 y29 y30 y31 : UInt64) (qj : Int32) (qc : Addr) (qg : Int64) (qdz : UInt64) (qfE : Int64) (q4 : Int32) (qcs : UInt64) (qel : Int64) (qbo : Int32) (qbs : UInt64) (qd3 : Int64) (qb0 : Int32) (qbc : UInt64) (qd0 : Int64) (qdm : Int32) (h0 : Heap) (n0 : Nat) (v : Option Value) (h : Heap) (L : List Loc) : Prop := ∃ vx_visits_o0 : Int64, v = none ∧ Fr n0 L ∧ Keep h0 h [qc, o0] ∧ Arv Z h qc qd .double (32 : Int32) (t32 y0 qbc qbs y3 y4 qcs y6 y7 y8 y9 qdz y11 y12 y13 y14 y15 y16 y17 y18 y19 d2 y21 y22 y23 y24 y25 y26 y27 y28 y29 y30 y31) (.double (0 : UInt64)) ∧ Fld Z h o0 MTc "capacity" "I" (.int (16 : Int32)) ∧ Fld Z h o0 MTc "count" "I" (.int qj) ∧ Fld Z h o0 MTc "minima" "[D" (.ref qc) ∧ Fld Z h o0 MTc "visits" "J" (.long vx_visits_o0) ∧ Exa Z h o0 MTc
set_option maxRecDepth 65536 in
set_option maxHeartbeats 40000000 in
theorem rm8_5 (l : Launch) (Z : State) (a0 : Array Value) (hw : ∀ d ∈ tables_1, d.before a0 Z = true) (ws : List Jvm.Cond) (o0 : Addr) (d2 : UInt64) (qd : ClassId) (y0 y1 y2 y3 y4 y5 y6 y7 y8 y9 y10 y11 y12 y13 y14 y15 y16 y17 y18 y19 y20 y21 y22 y23 y24 y25 y26 y27 y28 y29 y30 y31 : UInt64) (qj : Int32) (qc : Addr) (qg : Int64) (qdz : UInt64) (qfE : Int64) (q4 : Int32) (qcs : UInt64) (qel : Int64) (qbo : Int32) (qbs : UInt64) (qd3 : Int64) (qb0 : Int32) (qbc : UInt64) (qd0 : Int64) (qdm : Int32) (h0 : Heap) (n0 : Nat) (Z0 : n0 ≤ h0.size) (qm : Arv Z h0 qc qd .double (32 : Int32) (t32 y0 y1 y2 y3 y4 y5 y6 y7 y8 y9 y10 y11 y12 y13 y14 y15 y16 y17 y18 y19 y20 y21 y22 y23 y24 y25 y26 y27 y28 y29 y30 y31) (.double (0 : UInt64))) (qe : o0 ≠ qc) (qi : Fld Z h0 o0 MTc "capacity" "I" (.int (16 : Int32))) (qo : Fld Z h0 o0 MTc "count" "I" (.int qj)) (qn : Fld Z h0 o0 MTc "minima" "[D" (.ref qc)) (qr : Fld Z h0 o0 MTc "visits" "J" (.long qg)) (qp : n0 ≤ qc) (qbS : Exa Z h0 o0 MTc) (qU : n0 ≤ o0) (qk2 : mnf d2 y21 = qdz) (qnQ : qg + (1 : Int64) = qfE) (qk3 : cmpf qdz y10 = q4) (qij : mnf qdz y11 = qcs) (qk4 : qfE + (1 : Int64) = qel) (qik : cmpf qcs y5 = qbo) (qgS : mnf y4 qcs = qbs) (qil : qel + (1 : Int64) = qd3) (qgT : cmpf qbs y2 = qb0) (qf4 : mnf qbs y3 = qbc) (qgU : qd3 + (1 : Int64) = qd0) (qf5 : cmpf qbc y1 = qdm) (qlU : TV d2) (qlV : TV y21) (qjd : (¬ q4 = (0 : Int32)) → TV qdz) (qje : (¬ q4 = (0 : Int32)) → TV y11) (qhn : (¬ q4 = (0 : Int32)) → (¬ qbo = (0 : Int32)) → TV y4) (qho : (¬ q4 = (0 : Int32)) → (¬ qbo = (0 : Int32)) → TV qcs) (qgk : (¬ q4 = (0 : Int32)) → (¬ qbo = (0 : Int32)) → (¬ qb0 = (0 : Int32)) → TV qbs) (qgl : (¬ q4 = (0 : Int32)) → (¬ qbo = (0 : Int32)) → (¬ qb0 = (0 : Int32)) → TV y3) (qgC : (¬ q4 = (0 : Int32)) → (¬ qbo = (0 : Int32)) → (¬ qb0 = (0 : Int32)) → (qdm = (0 : Int32)) → y1 = qbc) (qhS : (¬ q4 = (0 : Int32)) → (¬ qbo = (0 : Int32)) → (qb0 = (0 : Int32)) → y1 = qbc) (qhT : (¬ q4 = (0 : Int32)) → (¬ qbo = (0 : Int32)) → (qb0 = (0 : Int32)) → y2 = qbs) (qj3 : (¬ q4 = (0 : Int32)) → (qbo = (0 : Int32)) → y1 = qbc) (qj4 : (¬ q4 = (0 : Int32)) → (qbo = (0 : Int32)) → y2 = qbs) (qj5 : (¬ q4 = (0 : Int32)) → (qbo = (0 : Int32)) → y5 = qcs) (qmL : (q4 = (0 : Int32)) → y1 = qbc) (qmM : (q4 = (0 : Int32)) → y2 = qbs) (qmN : (q4 = (0 : Int32)) → y5 = qcs) (qlW : (q4 = (0 : Int32)) → y10 = qdz) :
    MetFree l (⟨MTc, "set", "(ID)V"⟩ : MethodName) (head1 (Jvm.Cond.code (⟨MTc, "set", "(ID)V"⟩ : MethodName) prog_28_method_3_code 7 none :: ws) ({ frames := 3, cells := 0, slots := 0, locals := 90 } : Room)) (fun a U => a = #[(.ref o0), (.int (5 : Int32)), (.double d2)] ∧ Z.Warmed39 U.vm ∧ U.heap = h0) (fun _ _ _ _ _ => True) (fun _ U o U' => ∃ v L, o = .returned v ∧ Q8_5 Z o0 d2 qd y0 y1 y2 y3 y4 y5 y6 y7 y8 y9 y10 y11 y12 y13 y14 y15 y16 y17 y18 y19 y20 y21 y22 y23 y24 y25 y26 y27 y28 y29 y30 y31 qj qc qg qdz qfE q4 qcs qel qbo qbs qd3 qb0 qbc qd0 qdm h0 n0 v U'.heap L ∧ FrameEnd U o U' L ({ frames := 3, cells := 0, slots := 0, locals := 90 } : Room).cells ({ frames := 3, cells := 0, slots := 0, locals := 90 } : Room).slots) := by
  refine MetFree.of_bodySF (plainFor_of_name pn_1) hisR ?_
  intro p e s m args below meth c s₁ Bd hml0 hP hK
  obtain ⟨rfl, hZ, hh⟩ := hP
  have hx := Bd.exec
  have hby := Bd.bytes
  have hml : c.maxLocals = 7 := hml0
  have hown : s.vm.findClass MTc = some m.cls := findClass_of_methodNamed Bd.named
  have hnm := (name_of_methodNamed Bd.named Bd.method).1
  have X0 : Stand p l e ({ frames := 3, cells := 0, slots := 0, locals := 90 } : Room) s m #[(.ref o0), (.int (5 : Int32)), (.double d2)] below meth c s₁ [] 0 0 := Stand.of_body Bd
  have e0 : s₁.heap = h0 := by rw [← hh, Bd.state]; rfl
  have N0 := Fr.nil n0
  have c0 : ∀ t, Steps p.tables e below (s₁.setTop (mkF m 0 #[vR o0, vI (5 : Int32), vD d2, s_, u_, u_, u_] [])) t → Steps p.tables e below (s₁.setTop (entryFrame m #[(.ref o0), (.int (5 : Int32)), (.double d2)] 7)) t := fun t k => castTop (ef_rm8_5 m o0 d2) k
  obtain ⟨T1, X1, e1, st1⟩ := getF X0 hx hZ hown (host := "") (Or.inl (hwi hw 21 rfl)) Via.refl e0 qi (g := (mkF m 1 #[vR o0, vI (5 : Int32), vD d2, s_, u_, u_, u_] [(.ref o0)])) rfl rfl (hb hby d8_1)
  obtain ⟨T2, X2, e2, st2⟩ := getF X1 hx hZ hown (host := "") (Or.inl (hwi hw 19 rfl)) Via.refl e1 qn (g := (mkF m 11 #[vR o0, vI (5 : Int32), vD d2, s_, vI (20 : Int32), u_, u_] [(.ref o0)])) rfl rfl (hb hby d8_11)
  obtain ⟨cl3, Ar3, q3, S3, Nn3, Ha3, G3⟩ := id qm
  have in3 : ¬ ((20 : Int32) < 0 ∨ cl3.slots.size ≤ ((20 : Int32)).toNatClampNeg) := inb_of S3 ⟨by decide, by decide⟩
  obtain ⟨T4, h4, X4, e4, W4, st4⟩ := stD X2 hx hZ e2 Ar3 (j := (20 : Int32)) in3 (g := (mkF m 17 #[vR o0, vI (5 : Int32), vD d2, s_, vI (20 : Int32), u_, u_] [(.double d2), (.int (20 : Int32)), (.ref qc)])) rfl rfl (hb hby d8_17)
  have N4 := Fr.snoc X4 N0 qp
  have K5 : Keep h0 h4 [qc, o0] := (Keep.refl h0 [qc, o0]).wr W4 (Or.inl (by simp))
  have V4 : Arv Z h4 qc qd .double (32 : Int32) (t32 y0 y1 y2 y3 y4 y5 y6 y7 y8 y9 y10 y11 y12 y13 y14 y15 y16 y17 y18 y19 d2 y21 y22 y23 y24 y25 y26 y27 y28 y29 y30 y31) (.double (0 : UInt64)) := Arv.set Ar3 q3 S3 Nn3 Ha3 G3 rfl W4 20 rfl (show (20 : Nat) < 32 by decide)
  have c6 : ∀ t, Steps p.tables e below (T4.setTop (mkF m 24 #[vR o0, vI (5 : Int32), vD d2, s_, vI (10 : Int32), u_, u_] [])) t → Steps p.tables e below (s₁.setTop (entryFrame m #[(.ref o0), (.int (5 : Int32)), (.double d2)] 7)) t := by
    intro t k
    refine c0 t ?_
    show Steps p.tables e below (s₁.setTop (mkF m 0 #[vR o0, vI (5 : Int32), vD d2, s_, u_, u_, u_] [])) _
    refine XS.aloadN X0.here hx rfl (hb hby d8_0) rfl rfl ?_
    refine st1 _ ?_
    show Steps p.tables e below (T1.setTop (mkF m 4 #[vR o0, vI (5 : Int32), vD d2, s_, u_, u_, u_] [(.int (16 : Int32))])) _
    refine XS.iloadN X1.here hx rfl (hb hby d8_4) rfl ?_
    refine Jvm.OwnK.iadd X1.here hx rfl (hb hby d8_5) rfl (v := (21 : Int32)) (by decide) ?_
    refine XS.iconst X1.here hx rfl (hb hby d8_6) ?_
    refine Jvm.OwnK.isub X1.here hx rfl (hb hby d8_7) rfl (v := (20 : Int32)) (by decide) ?_
    refine XS.istore X1.here hx rfl (hb hby d8_8) rfl (l' := #[vR o0, vI (5 : Int32), vD d2, s_, vI (20 : Int32), u_, u_]) rfl ?_
    refine XS.aloadN X1.here hx rfl (hb hby d8_10) rfl rfl ?_
    show Steps p.tables e below (T1.setTop (mkF m 11 #[vR o0, vI (5 : Int32), vD d2, s_, vI (20 : Int32), u_, u_] [(.ref o0)])) _
    refine st2 _ ?_
    show Steps p.tables e below (T2.setTop (mkF m 14 #[vR o0, vI (5 : Int32), vD d2, s_, vI (20 : Int32), u_, u_] [(.ref qc)])) _
    refine XS.iload X2.here hx rfl (hb hby d8_14) rfl ?_
    refine XS.dloadN X2.here hx rfl (hb hby d8_16) rfl ?_
    refine st4 _ ?_
    show Steps p.tables e below (T4.setTop (mkF m 18 #[vR o0, vI (5 : Int32), vD d2, s_, vI (20 : Int32), u_, u_] [])) _
    refine XS.iload X4.here hx rfl (hb hby d8_18) rfl ?_
    refine XS.iconst X4.here hx rfl (hb hby d8_20) ?_
    refine Jvm.OwnK.idiv X4.here hx rfl (hb hby d8_21) rfl (by decide) (v := (10 : Int32)) (by decide) ?_
    refine XS.istore X4.here hx rfl (hb hby d8_22) rfl (l' := #[vR o0, vI (5 : Int32), vD d2, s_, vI (10 : Int32), u_, u_]) rfl ?_
    exact k
  have f8 := (qi.other W4 (Or.inl qe))
  have f9 := (qo.other W4 (Or.inl qe))
  have f10 := (qn.other W4 (Or.inl qe))
  have f11 := (qr.other W4 (Or.inl qe))
  have f12 := (qbS.wr W4)
  obtain ⟨T7, o7q, sq7, rq7, eq7, _, L7, ho7, ⟨qc9, rfl, N7, K7q, Q7_0, Q7_1, Q7_2, Q7_3, Q7_4, Q7_5⟩, hF7⟩ := tl8_n10 l Z a0 hw ws o0 (5 : Int32) d2 qd y0 y1 y2 y3 y4 y5 y6 y7 y8 y9 y10 y11 y12 y13 y14 y15 y16 y17 y18 y19 d2 y21 y22 y23 y24 y25 y26 y27 y28 y29 y30 y31 qj qc qg qdz qfE q4 qcs qel qbo qbs qd3 qb0 qbc qd0 qdm h4 n0 (Nat.le_trans Z0 (Keep.of_wr W4).1) V4 qe f8 f9 f10 f11 qp f12 qU qk2 qnQ qk3 qij qk4 qik qgS qil qgT qf4 qgU qf5 qlU qlV qjd qje qhn qho qgk qgl qgC qhS qhT qj3 qj4 qj5 qmL qmM qmN qlW Bd hml0 hZ X4 e4 N4
  have K13 : Keep h0 T7.heap [qc, o0] := Keep.trans K5 K7q (allS (Or.inl (by simp)) (allS (Or.inl (by simp)) all0))
  exact ⟨T7, o7q, c6 _ sq7, rq7, eq7, _, L7, ho7, ⟨qc9, rfl, N7, K13, Q7_0, Q7_1, Q7_2, Q7_3, Q7_4, Q7_5⟩, hF7⟩
def Q7_5 (Z : State) (o0 : Addr) (d1 : UInt64) (qd : ClassId) (y0 y1 y2 y3 y4 y5 y6 y7 y8 y9 y10 y11 y12 y13 y14 y15 y16 y17 y18 y19 y20 y21 y22 y23 y24 y25 y26 y27 y28 y29 y30 y31 : UInt64) (qc : Addr) (qg : Int64) (qcd : UInt64) (qd5 : Int64) (qt : Int32) (qbe : UInt64) (qdG : Int64) (qB : Int32) (qJ : UInt64) (qdc : Int64) (qW : Int32) (qz : UInt64) (qda : Int64) (qbY : Int32) (h0 : Heap) (n0 : Nat) (v : Option Value) (h : Heap) (L : List Loc) : Prop := ∃ qQ : Int64, v = none ∧ Fr n0 L ∧ Keep h0 h [o0, qc] ∧ Fld Z h o0 MTc "minima" "[D" (.ref qc) ∧ Fld Z h o0 MTc "visits" "J" (.long qQ) ∧ Fld Z h o0 MTc "count" "I" (.int (5 : Int32)) ∧ Fld Z h o0 MTc "capacity" "I" (.int (16 : Int32)) ∧ Exa Z h o0 MTc ∧ Arv Z h qc qd .double (32 : Int32) (t32 y0 qz qJ y3 y4 qbe y6 y7 y8 y9 qcd y11 y12 y13 y14 y15 y16 y17 y18 y19 d1 y21 y22 y23 y24 y25 y26 y27 y28 y29 y30 y31) (.double (0 : UInt64))
set_option maxRecDepth 65536 in
set_option maxHeartbeats 40000000 in
theorem rm7_5 (l : Launch) (Z : State) (a0 : Array Value) (hw : ∀ d ∈ tables_1, d.before a0 Z = true) (ws : List Jvm.Cond) (o0 : Addr) (d1 : UInt64) (qd : ClassId) (y0 y1 y2 y3 y4 y5 y6 y7 y8 y9 y10 y11 y12 y13 y14 y15 y16 y17 y18 y19 y20 y21 y22 y23 y24 y25 y26 y27 y28 y29 y30 y31 : UInt64) (qc : Addr) (qg : Int64) (qcd : UInt64) (qd5 : Int64) (qt : Int32) (qbe : UInt64) (qdG : Int64) (qB : Int32) (qJ : UInt64) (qdc : Int64) (qW : Int32) (qz : UInt64) (qda : Int64) (qbY : Int32) (h0 : Heap) (n0 : Nat) (Z0 : n0 ≤ h0.size) (qm : Arv Z h0 qc qd .double (32 : Int32) (t32 y0 y1 y2 y3 y4 y5 y6 y7 y8 y9 y10 y11 y12 y13 y14 y15 y16 y17 y18 y19 y20 y21 y22 y23 y24 y25 y26 y27 y28 y29 y30 y31) (.double (0 : UInt64))) (qe : o0 ≠ qc) (qn : Fld Z h0 o0 MTc "minima" "[D" (.ref qc)) (qr : Fld Z h0 o0 MTc "visits" "J" (.long qg)) (qp : n0 ≤ qc) (qo : Fld Z h0 o0 MTc "count" "I" (.int (4 : Int32))) (qi : Fld Z h0 o0 MTc "capacity" "I" (.int (16 : Int32))) (qbS : Exa Z h0 o0 MTc) (qU : n0 ≤ o0) (qhU : mnf d1 y21 = qcd) (qj6 : qg + (1 : Int64) = qd5) (qhV : cmpf qcd y10 = qt) (qgD : mnf qcd y11 = qbe) (qhW : qd5 + (1 : Int64) = qdG) (qgE : cmpf qbe y5 = qB) (qfF : mnf y4 qbe = qJ) (qgF : qdG + (1 : Int64) = qdc) (qfG : cmpf qJ y2 = qW) (qe2 : mnf qJ y3 = qz) (qfH : qdc + (1 : Int64) = qda) (qe3 : cmpf qz y1 = qbY) (qim : TV d1) (qin : TV y21) (qgV : (¬ qt = (0 : Int32)) → TV qcd) (qgW : (¬ qt = (0 : Int32)) → TV y11) (qf6 : (¬ qt = (0 : Int32)) → (¬ qB = (0 : Int32)) → TV y4) (qf7 : (¬ qt = (0 : Int32)) → (¬ qB = (0 : Int32)) → TV qbe) (qff : (¬ qt = (0 : Int32)) → (¬ qB = (0 : Int32)) → (¬ qW = (0 : Int32)) → TV qJ) (qfg : (¬ qt = (0 : Int32)) → (¬ qB = (0 : Int32)) → (¬ qW = (0 : Int32)) → TV y3) (qfs : (¬ qt = (0 : Int32)) → (¬ qB = (0 : Int32)) → (¬ qW = (0 : Int32)) → (qbY = (0 : Int32)) → y1 = qz) (qgm : (¬ qt = (0 : Int32)) → (¬ qB = (0 : Int32)) → (qW = (0 : Int32)) → y1 = qz) (qgn : (¬ qt = (0 : Int32)) → (¬ qB = (0 : Int32)) → (qW = (0 : Int32)) → y2 = qJ) (qhp : (¬ qt = (0 : Int32)) → (qB = (0 : Int32)) → y1 = qz) (qhq : (¬ qt = (0 : Int32)) → (qB = (0 : Int32)) → y2 = qJ) (qhr : (¬ qt = (0 : Int32)) → (qB = (0 : Int32)) → y5 = qbe) (qjf : (qt = (0 : Int32)) → y1 = qz) (qjg : (qt = (0 : Int32)) → y2 = qJ) (qjh : (qt = (0 : Int32)) → y5 = qbe) (qio : (qt = (0 : Int32)) → y10 = qcd) :
    MetFree l (⟨MTc, "add", "(D)V"⟩ : MethodName) (head1 (Jvm.Cond.code (⟨MTc, "add", "(D)V"⟩ : MethodName) prog_28_method_2_code 3 none :: ws) ({ frames := 4, cells := 0, slots := 0, locals := 108 } : Room)) (fun a U => a = #[(.ref o0), (.double d1)] ∧ Z.Warmed39 U.vm ∧ U.heap = h0) (fun _ _ _ _ _ => True) (fun _ U o U' => ∃ v L, o = .returned v ∧ Q7_5 Z o0 d1 qd y0 y1 y2 y3 y4 y5 y6 y7 y8 y9 y10 y11 y12 y13 y14 y15 y16 y17 y18 y19 y20 y21 y22 y23 y24 y25 y26 y27 y28 y29 y30 y31 qc qg qcd qd5 qt qbe qdG qB qJ qdc qW qz qda qbY h0 n0 v U'.heap L ∧ FrameEnd U o U' L ({ frames := 4, cells := 0, slots := 0, locals := 108 } : Room).cells ({ frames := 4, cells := 0, slots := 0, locals := 108 } : Room).slots) := by
  refine MetFree.of_bodySF (plainFor_of_name pn_1) hisR ?_
  intro p e s m args below meth c s₁ Bd hml0 hP hK
  obtain ⟨rfl, hZ, hh⟩ := hP
  have hx := Bd.exec
  have hby := Bd.bytes
  have hml : c.maxLocals = 3 := hml0
  have hown : s.vm.findClass MTc = some m.cls := findClass_of_methodNamed Bd.named
  have hnm := (name_of_methodNamed Bd.named Bd.method).1
  have X0 : Stand p l e ({ frames := 4, cells := 0, slots := 0, locals := 108 } : Room) s m #[(.ref o0), (.double d1)] below meth c s₁ [] 0 0 := Stand.of_body Bd
  have e0 : s₁.heap = h0 := by rw [← hh, Bd.state]; rfl
  have N0 := Fr.nil n0
  have c0 : ∀ t, Steps p.tables e below (s₁.setTop (mkF m 0 #[vR o0, vD d1, s_] [])) t → Steps p.tables e below (s₁.setTop (entryFrame m #[(.ref o0), (.double d1)] 3)) t := fun t k => castTop (ef_rm7_5 m o0 d1) k
  obtain ⟨T1, X1, e1, st1⟩ := getF X0 hx hZ hown (host := "") (Or.inl (hwi hw 37 rfl)) Via.refl e0 qo (g := (mkF m 1 #[vR o0, vD d1, s_] [(.ref o0)])) rfl rfl (hb hby d7_1)
  obtain ⟨T2, X2, e2, st2⟩ := getF X1 hx hZ hown (host := "") (Or.inl (hwi hw 21 rfl)) Via.refl e1 qi (g := (mkF m 5 #[vR o0, vD d1, s_] [(.ref o0), (.int (4 : Int32))])) rfl rfl (hb hby d7_5)
  obtain ⟨T3, X3, e3, st3⟩ := getF X2 hx hZ hown (host := "") (Or.inl (hwi hw 37 rfl)) Via.refl e2 qo (g := (mkF m 17 #[vR o0, vD d1, s_] [(.ref o0), (.ref o0)])) rfl rfl (hb hby d7_17)
  obtain ⟨T4, h4, X4, e4, W4, st4⟩ := putF X3 hx hZ hown (host := "") (Or.inl (hwi hw 37 rfl)) Via.refl e3 qo qbS (Or.inl (hwi hw 38 rfl)) (hwi hw 3 rfl) (ty := .int) (by decide) rfl rfl (g := (mkF m 22 #[vR o0, vD d1, s_] [(.int (5 : Int32)), (.ref o0)])) rfl rfl (hb hby d7_22)
  have N4 := Fr.snoc X4 N0 qU
  have K5 : Keep h0 h4 [o0, qc] := (Keep.refl h0 [o0, qc]).wr W4 (Or.inl (by simp))
  have F4w := qo.same W4
  obtain ⟨T6, X6, e6, st6⟩ := getF X4 hx hZ hown (host := "") (Or.inl (hwi hw 37 rfl)) Via.refl e4 F4w (g := (mkF m 27 #[vR o0, vD d1, s_] [(.ref o0), (.ref o0)])) rfl rfl (hb hby d7_27)
  have f7 := (qm.other W4 (Ne.symm qe))
  have f8 := (qi.other W4 (Or.inr (slot_ne (Or.inl (hwi hw 22 rfl)) (Or.inl (hwi hw 38 rfl)) (by decide) (t := .int) (t' := .int) (by decide) (by decide))))
  have f9 := (qn.other W4 (Or.inr (slot_ne (Or.inl (hwi hw 20 rfl)) (Or.inl (hwi hw 38 rfl)) (by decide) (t := (.array .double)) (t' := .int) (by decide) (by decide))))
  have f10 := (qr.other W4 (Or.inr (slot_ne (Or.inl (hwi hw 52 rfl)) (Or.inl (hwi hw 38 rfl)) (by decide) (t := .long) (t' := .int) (by decide) (by decide))))
  have f11 := (qbS.wr W4)
  obtain ⟨cq12, kq12, q12a, q12b, q12c⟩ := isOf hZ e6 f11
  obtain ⟨_, _, ⟨T12, L12, k12, n12⟩, -, X12, ⟨Lc12, hQ12, ql12, qy12, qz12⟩, st12⟩ := X6.virtualBack hx (y := (⟨MTc, "set", "(ID)V"⟩ : MethodName)) (z := (⟨MTc, "set", "(ID)V"⟩ : MethodName)) hown (mvT hZ (hwi hw 39 rfl)) (mvT hZ (hwi hw 40 rfl)) (notFace_of_selects (args := #[]) (mvT hZ (hwi hw 42 rfl))) (mvT hZ (hwi hw 42 rfl)) (mvT hZ (hwi hw 41 rfl)) (by decide) (backOf (W := 0) (rm8_5 l Z a0 hw [] o0 d1 qd y0 y1 y2 y3 y4 y5 y6 y7 y8 y9 y10 y11 y12 y13 y14 y15 y16 y17 y18 y19 y20 y21 y22 y23 y24 y25 y26 y27 y28 y29 y30 y31 (5 : Int32) qc qg qcd qd5 qt qbe qdG qB qJ qdc qW qz qda qbY h4 n0 (Nat.le_trans Z0 (Keep.of_wr W4).1) f7 qe f8 F4w f9 f10 qp f11 qU qhU qj6 qhV qgD qhW qgE qfF qgF qfG qe2 qfH qe3 qim qin qgV qgW qf6 qf7 qff qfg qfs qgm qgn qhp qhq qhr qjf qjg qjh qio) hZ (hwi hw 43 rfl) (hwi hw 4 rfl) (by decide) (by decide)) q12a q12c (g := (mkF m 31 #[vR o0, vD d1, s_] [(.double d1), (.int (5 : Int32)), (.ref o0)])) rfl (by rw [hml]; rfl) (Steps.refl _) (argsL := [(.int (5 : Int32)), (.double d1)]) (rest := []) (lenOf pd_6 rfl) rfl (by show 2 * 0 + _ ≤ _; exact Nat.le_of_eq rfl) (hb hby d7_31) (fun _ _ => ⟨rfl, e6, (by decide : 0 + 0 ≤ _), (by decide : 0 + 0 ≤ _)⟩)
  dsimp only [Pt.U, Pt.locs, Pt.cells, Pt.slots] at X12 ql12 qy12 qz12 st12 hQ12
  subst ql12 qy12 qz12
  obtain ⟨qQ, rfl, N12q, K12q, Q12_0, Q12_1, Q12_2, Q12_3, Q12_4, Q12_5⟩ := hQ12
  have N12 := Fr.app N4 N12q
  have K13 : Keep h0 T12.heap [o0, qc] := Keep.trans K5 K12q (allS (Or.inl (by simp)) (allS (Or.inl (by simp)) all0))
  have c14 : ∀ t, Steps p.tables e below (T12.setTop (mkF m 34 #[vR o0, vD d1, s_] [])) t → Steps p.tables e below (s₁.setTop (entryFrame m #[(.ref o0), (.double d1)] 3)) t := by
    intro t k
    refine c0 t ?_
    show Steps p.tables e below (s₁.setTop (mkF m 0 #[vR o0, vD d1, s_] [])) _
    refine XS.aloadN X0.here hx rfl (hb hby d7_0) rfl rfl ?_
    refine st1 _ ?_
    show Steps p.tables e below (T1.setTop (mkF m 4 #[vR o0, vD d1, s_] [(.int (4 : Int32))])) _
    refine XS.aloadN X1.here hx rfl (hb hby d7_4) rfl rfl ?_
    refine st2 _ ?_
    show Steps p.tables e below (T2.setTop (mkF m 8 #[vR o0, vD d1, s_] [(.int (16 : Int32)), (.int (4 : Int32))])) _
    refine XS.icmpYes X2.here hx rfl (pc0 := 8) (pc' := 15) rfl (hb hby d7_8) rfl (Jvm.Free.XT.ii_ne_t (by decide)) (by decide) (by decide) ?_
    refine XS.aloadN X2.here hx rfl (hb hby d7_15) rfl rfl ?_
    refine XS.dup X2.here hx rfl (hb hby d7_16) rfl rfl ?_
    refine st3 _ ?_
    show Steps p.tables e below (T3.setTop (mkF m 20 #[vR o0, vD d1, s_] [(.int (4 : Int32)), (.ref o0)])) _
    refine XS.iconst X3.here hx rfl (hb hby d7_20) ?_
    refine Jvm.OwnK.iadd X3.here hx rfl (hb hby d7_21) rfl (v := (5 : Int32)) (by decide) ?_
    refine st4 _ ?_
    show Steps p.tables e below (T4.setTop (mkF m 25 #[vR o0, vD d1, s_] [])) _
    refine XS.aloadN X4.here hx rfl (hb hby d7_25) rfl rfl ?_
    refine XS.aloadN X4.here hx rfl (hb hby d7_26) rfl rfl ?_
    refine st6 _ ?_
    show Steps p.tables e below (T6.setTop (mkF m 30 #[vR o0, vD d1, s_] [(.int (5 : Int32)), (.ref o0)])) _
    refine XS.dloadN X6.here hx rfl (hb hby d7_30) rfl ?_
    refine st12.trans ?_
    exact k
  obtain ⟨fs, hr, hrun, hended, hW, hsame⟩ := X12.leave (v := none) (fun _ => rfl)
  refine ⟨_, _, c14 _ ?_, hrun, hended, _, _, rfl, ?_, ⟨_, rfl⟩, hW, hsame.mono (by decide) (by decide)⟩
  · show Steps p.tables e below (T12.setTop (mkF m 34 #[vR o0, vD d1, s_] [])) _
    exact X12.returnOut hx Bd.returns (hb hby d7_34) hr
  · show Q7_5 Z o0 d1 qd y0 y1 y2 y3 y4 y5 y6 y7 y8 y9 y10 y11 y12 y13 y14 y15 y16 y17 y18 y19 y20 y21 y22 y23 y24 y25 y26 y27 y28 y29 y30 y31 qc qg qcd qd5 qt qbe qdG qB qJ qdc qW qz qda qbY h0 n0 _ T12.heap _
    exact ⟨qQ, rfl, N12, K13, Q12_3, Q12_4, Q12_2, Q12_1, Q12_5, Q12_0⟩
def Q8_6 (Z : State) (o0 : Addr) (d2 : UInt64) (qd : ClassId) (y0 y1 y2 y3 y4 y5 y6 y7 y8 y9 y10 y11 y12 y13 y14 y15 y16 y17 y18 y19 y20 y21 y22 y23 y24 y25 y26 y27 y28 y29 y30 y31 : UInt64) (qj : Int32) (qc : Addr) (qg : Int64) (qdz : UInt64) (qfE : Int64) (q4 : Int32) (qcs : UInt64) (qel : Int64) (qbo : Int32) (qbs : UInt64) (qd3 : Int64) (qb0 : Int32) (qbc : UInt64) (qd0 : Int64) (qdm : Int32) (h0 : Heap) (n0 : Nat) (v : Option Value) (h : Heap) (L : List Loc) : Prop := ∃ vx_visits_o0 : Int64, v = none ∧ Fr n0 L ∧ Keep h0 h [qc, o0] ∧ Arv Z h qc qd .double (32 : Int32) (t32 y0 qbc qbs y3 y4 qcs y6 y7 y8 y9 qdz y11 y12 y13 y14 y15 y16 y17 y18 y19 y20 d2 y22 y23 y24 y25 y26 y27 y28 y29 y30 y31) (.double (0 : UInt64)) ∧ Fld Z h o0 MTc "capacity" "I" (.int (16 : Int32)) ∧ Fld Z h o0 MTc "count" "I" (.int qj) ∧ Fld Z h o0 MTc "minima" "[D" (.ref qc) ∧ Fld Z h o0 MTc "visits" "J" (.long vx_visits_o0) ∧ Exa Z h o0 MTc
set_option maxRecDepth 65536 in
set_option maxHeartbeats 40000000 in
theorem rm8_6 (l : Launch) (Z : State) (a0 : Array Value) (hw : ∀ d ∈ tables_1, d.before a0 Z = true) (ws : List Jvm.Cond) (o0 : Addr) (d2 : UInt64) (qd : ClassId) (y0 y1 y2 y3 y4 y5 y6 y7 y8 y9 y10 y11 y12 y13 y14 y15 y16 y17 y18 y19 y20 y21 y22 y23 y24 y25 y26 y27 y28 y29 y30 y31 : UInt64) (qj : Int32) (qc : Addr) (qg : Int64) (qdz : UInt64) (qfE : Int64) (q4 : Int32) (qcs : UInt64) (qel : Int64) (qbo : Int32) (qbs : UInt64) (qd3 : Int64) (qb0 : Int32) (qbc : UInt64) (qd0 : Int64) (qdm : Int32) (h0 : Heap) (n0 : Nat) (Z0 : n0 ≤ h0.size) (qm : Arv Z h0 qc qd .double (32 : Int32) (t32 y0 y1 y2 y3 y4 y5 y6 y7 y8 y9 y10 y11 y12 y13 y14 y15 y16 y17 y18 y19 y20 y21 y22 y23 y24 y25 y26 y27 y28 y29 y30 y31) (.double (0 : UInt64))) (qe : o0 ≠ qc) (qi : Fld Z h0 o0 MTc "capacity" "I" (.int (16 : Int32))) (qo : Fld Z h0 o0 MTc "count" "I" (.int qj)) (qn : Fld Z h0 o0 MTc "minima" "[D" (.ref qc)) (qr : Fld Z h0 o0 MTc "visits" "J" (.long qg)) (qp : n0 ≤ qc) (qbS : Exa Z h0 o0 MTc) (qU : n0 ≤ o0) (qk2 : mnf y20 d2 = qdz) (qnQ : qg + (1 : Int64) = qfE) (qk3 : cmpf qdz y10 = q4) (qij : mnf qdz y11 = qcs) (qk4 : qfE + (1 : Int64) = qel) (qik : cmpf qcs y5 = qbo) (qgS : mnf y4 qcs = qbs) (qil : qel + (1 : Int64) = qd3) (qgT : cmpf qbs y2 = qb0) (qf4 : mnf qbs y3 = qbc) (qgU : qd3 + (1 : Int64) = qd0) (qf5 : cmpf qbc y1 = qdm) (qlU : TV y20) (qlV : TV d2) (qjd : (¬ q4 = (0 : Int32)) → TV qdz) (qje : (¬ q4 = (0 : Int32)) → TV y11) (qhn : (¬ q4 = (0 : Int32)) → (¬ qbo = (0 : Int32)) → TV y4) (qho : (¬ q4 = (0 : Int32)) → (¬ qbo = (0 : Int32)) → TV qcs) (qgk : (¬ q4 = (0 : Int32)) → (¬ qbo = (0 : Int32)) → (¬ qb0 = (0 : Int32)) → TV qbs) (qgl : (¬ q4 = (0 : Int32)) → (¬ qbo = (0 : Int32)) → (¬ qb0 = (0 : Int32)) → TV y3) (qgC : (¬ q4 = (0 : Int32)) → (¬ qbo = (0 : Int32)) → (¬ qb0 = (0 : Int32)) → (qdm = (0 : Int32)) → y1 = qbc) (qhS : (¬ q4 = (0 : Int32)) → (¬ qbo = (0 : Int32)) → (qb0 = (0 : Int32)) → y1 = qbc) (qhT : (¬ q4 = (0 : Int32)) → (¬ qbo = (0 : Int32)) → (qb0 = (0 : Int32)) → y2 = qbs) (qj3 : (¬ q4 = (0 : Int32)) → (qbo = (0 : Int32)) → y1 = qbc) (qj4 : (¬ q4 = (0 : Int32)) → (qbo = (0 : Int32)) → y2 = qbs) (qj5 : (¬ q4 = (0 : Int32)) → (qbo = (0 : Int32)) → y5 = qcs) (qmL : (q4 = (0 : Int32)) → y1 = qbc) (qmM : (q4 = (0 : Int32)) → y2 = qbs) (qmN : (q4 = (0 : Int32)) → y5 = qcs) (qlW : (q4 = (0 : Int32)) → y10 = qdz) :
    MetFree l (⟨MTc, "set", "(ID)V"⟩ : MethodName) (head1 (Jvm.Cond.code (⟨MTc, "set", "(ID)V"⟩ : MethodName) prog_28_method_3_code 7 none :: ws) ({ frames := 3, cells := 0, slots := 0, locals := 90 } : Room)) (fun a U => a = #[(.ref o0), (.int (6 : Int32)), (.double d2)] ∧ Z.Warmed39 U.vm ∧ U.heap = h0) (fun _ _ _ _ _ => True) (fun _ U o U' => ∃ v L, o = .returned v ∧ Q8_6 Z o0 d2 qd y0 y1 y2 y3 y4 y5 y6 y7 y8 y9 y10 y11 y12 y13 y14 y15 y16 y17 y18 y19 y20 y21 y22 y23 y24 y25 y26 y27 y28 y29 y30 y31 qj qc qg qdz qfE q4 qcs qel qbo qbs qd3 qb0 qbc qd0 qdm h0 n0 v U'.heap L ∧ FrameEnd U o U' L ({ frames := 3, cells := 0, slots := 0, locals := 90 } : Room).cells ({ frames := 3, cells := 0, slots := 0, locals := 90 } : Room).slots) := by
  refine MetFree.of_bodySF (plainFor_of_name pn_1) hisR ?_
  intro p e s m args below meth c s₁ Bd hml0 hP hK
  obtain ⟨rfl, hZ, hh⟩ := hP
  have hx := Bd.exec
  have hby := Bd.bytes
  have hml : c.maxLocals = 7 := hml0
  have hown : s.vm.findClass MTc = some m.cls := findClass_of_methodNamed Bd.named
  have hnm := (name_of_methodNamed Bd.named Bd.method).1
  have X0 : Stand p l e ({ frames := 3, cells := 0, slots := 0, locals := 90 } : Room) s m #[(.ref o0), (.int (6 : Int32)), (.double d2)] below meth c s₁ [] 0 0 := Stand.of_body Bd
  have e0 : s₁.heap = h0 := by rw [← hh, Bd.state]; rfl
  have N0 := Fr.nil n0
  have c0 : ∀ t, Steps p.tables e below (s₁.setTop (mkF m 0 #[vR o0, vI (6 : Int32), vD d2, s_, u_, u_, u_] [])) t → Steps p.tables e below (s₁.setTop (entryFrame m #[(.ref o0), (.int (6 : Int32)), (.double d2)] 7)) t := fun t k => castTop (ef_rm8_6 m o0 d2) k
  obtain ⟨T1, X1, e1, st1⟩ := getF X0 hx hZ hown (host := "") (Or.inl (hwi hw 21 rfl)) Via.refl e0 qi (g := (mkF m 1 #[vR o0, vI (6 : Int32), vD d2, s_, u_, u_, u_] [(.ref o0)])) rfl rfl (hb hby d8_1)
  obtain ⟨T2, X2, e2, st2⟩ := getF X1 hx hZ hown (host := "") (Or.inl (hwi hw 19 rfl)) Via.refl e1 qn (g := (mkF m 11 #[vR o0, vI (6 : Int32), vD d2, s_, vI (21 : Int32), u_, u_] [(.ref o0)])) rfl rfl (hb hby d8_11)
  obtain ⟨cl3, Ar3, q3, S3, Nn3, Ha3, G3⟩ := id qm
  have in3 : ¬ ((21 : Int32) < 0 ∨ cl3.slots.size ≤ ((21 : Int32)).toNatClampNeg) := inb_of S3 ⟨by decide, by decide⟩
  obtain ⟨T4, h4, X4, e4, W4, st4⟩ := stD X2 hx hZ e2 Ar3 (j := (21 : Int32)) in3 (g := (mkF m 17 #[vR o0, vI (6 : Int32), vD d2, s_, vI (21 : Int32), u_, u_] [(.double d2), (.int (21 : Int32)), (.ref qc)])) rfl rfl (hb hby d8_17)
  have N4 := Fr.snoc X4 N0 qp
  have K5 : Keep h0 h4 [qc, o0] := (Keep.refl h0 [qc, o0]).wr W4 (Or.inl (by simp))
  have V4 : Arv Z h4 qc qd .double (32 : Int32) (t32 y0 y1 y2 y3 y4 y5 y6 y7 y8 y9 y10 y11 y12 y13 y14 y15 y16 y17 y18 y19 y20 d2 y22 y23 y24 y25 y26 y27 y28 y29 y30 y31) (.double (0 : UInt64)) := Arv.set Ar3 q3 S3 Nn3 Ha3 G3 rfl W4 21 rfl (show (21 : Nat) < 32 by decide)
  have c6 : ∀ t, Steps p.tables e below (T4.setTop (mkF m 24 #[vR o0, vI (6 : Int32), vD d2, s_, vI (10 : Int32), u_, u_] [])) t → Steps p.tables e below (s₁.setTop (entryFrame m #[(.ref o0), (.int (6 : Int32)), (.double d2)] 7)) t := by
    intro t k
    refine c0 t ?_
    show Steps p.tables e below (s₁.setTop (mkF m 0 #[vR o0, vI (6 : Int32), vD d2, s_, u_, u_, u_] [])) _
    refine XS.aloadN X0.here hx rfl (hb hby d8_0) rfl rfl ?_
    refine st1 _ ?_
    show Steps p.tables e below (T1.setTop (mkF m 4 #[vR o0, vI (6 : Int32), vD d2, s_, u_, u_, u_] [(.int (16 : Int32))])) _
    refine XS.iloadN X1.here hx rfl (hb hby d8_4) rfl ?_
    refine Jvm.OwnK.iadd X1.here hx rfl (hb hby d8_5) rfl (v := (22 : Int32)) (by decide) ?_
    refine XS.iconst X1.here hx rfl (hb hby d8_6) ?_
    refine Jvm.OwnK.isub X1.here hx rfl (hb hby d8_7) rfl (v := (21 : Int32)) (by decide) ?_
    refine XS.istore X1.here hx rfl (hb hby d8_8) rfl (l' := #[vR o0, vI (6 : Int32), vD d2, s_, vI (21 : Int32), u_, u_]) rfl ?_
    refine XS.aloadN X1.here hx rfl (hb hby d8_10) rfl rfl ?_
    show Steps p.tables e below (T1.setTop (mkF m 11 #[vR o0, vI (6 : Int32), vD d2, s_, vI (21 : Int32), u_, u_] [(.ref o0)])) _
    refine st2 _ ?_
    show Steps p.tables e below (T2.setTop (mkF m 14 #[vR o0, vI (6 : Int32), vD d2, s_, vI (21 : Int32), u_, u_] [(.ref qc)])) _
    refine XS.iload X2.here hx rfl (hb hby d8_14) rfl ?_
    refine XS.dloadN X2.here hx rfl (hb hby d8_16) rfl ?_
    refine st4 _ ?_
    show Steps p.tables e below (T4.setTop (mkF m 18 #[vR o0, vI (6 : Int32), vD d2, s_, vI (21 : Int32), u_, u_] [])) _
    refine XS.iload X4.here hx rfl (hb hby d8_18) rfl ?_
    refine XS.iconst X4.here hx rfl (hb hby d8_20) ?_
    refine Jvm.OwnK.idiv X4.here hx rfl (hb hby d8_21) rfl (by decide) (v := (10 : Int32)) (by decide) ?_
    refine XS.istore X4.here hx rfl (hb hby d8_22) rfl (l' := #[vR o0, vI (6 : Int32), vD d2, s_, vI (10 : Int32), u_, u_]) rfl ?_
    exact k
  have f8 := (qi.other W4 (Or.inl qe))
  have f9 := (qo.other W4 (Or.inl qe))
  have f10 := (qn.other W4 (Or.inl qe))
  have f11 := (qr.other W4 (Or.inl qe))
  have f12 := (qbS.wr W4)
  obtain ⟨T7, o7q, sq7, rq7, eq7, _, L7, ho7, ⟨qc9, rfl, N7, K7q, Q7_0, Q7_1, Q7_2, Q7_3, Q7_4, Q7_5⟩, hF7⟩ := tl8_n10 l Z a0 hw ws o0 (6 : Int32) d2 qd y0 y1 y2 y3 y4 y5 y6 y7 y8 y9 y10 y11 y12 y13 y14 y15 y16 y17 y18 y19 y20 d2 y22 y23 y24 y25 y26 y27 y28 y29 y30 y31 qj qc qg qdz qfE q4 qcs qel qbo qbs qd3 qb0 qbc qd0 qdm h4 n0 (Nat.le_trans Z0 (Keep.of_wr W4).1) V4 qe f8 f9 f10 f11 qp f12 qU qk2 qnQ qk3 qij qk4 qik qgS qil qgT qf4 qgU qf5 qlU qlV qjd qje qhn qho qgk qgl qgC qhS qhT qj3 qj4 qj5 qmL qmM qmN qlW Bd hml0 hZ X4 e4 N4
  have K13 : Keep h0 T7.heap [qc, o0] := Keep.trans K5 K7q (allS (Or.inl (by simp)) (allS (Or.inl (by simp)) all0))
  exact ⟨T7, o7q, c6 _ sq7, rq7, eq7, _, L7, ho7, ⟨qc9, rfl, N7, K13, Q7_0, Q7_1, Q7_2, Q7_3, Q7_4, Q7_5⟩, hF7⟩
def Q7_6 (Z : State) (o0 : Addr) (d1 : UInt64) (qd : ClassId) (y0 y1 y2 y3 y4 y5 y6 y7 y8 y9 y10 y11 y12 y13 y14 y15 y16 y17 y18 y19 y20 y21 y22 y23 y24 y25 y26 y27 y28 y29 y30 y31 : UInt64) (qc : Addr) (qg : Int64) (qcd : UInt64) (qd5 : Int64) (qt : Int32) (qbe : UInt64) (qdG : Int64) (qB : Int32) (qJ : UInt64) (qdc : Int64) (qW : Int32) (qz : UInt64) (qda : Int64) (qbY : Int32) (h0 : Heap) (n0 : Nat) (v : Option Value) (h : Heap) (L : List Loc) : Prop := ∃ qQ : Int64, v = none ∧ Fr n0 L ∧ Keep h0 h [o0, qc] ∧ Fld Z h o0 MTc "minima" "[D" (.ref qc) ∧ Fld Z h o0 MTc "visits" "J" (.long qQ) ∧ Fld Z h o0 MTc "count" "I" (.int (6 : Int32)) ∧ Fld Z h o0 MTc "capacity" "I" (.int (16 : Int32)) ∧ Exa Z h o0 MTc ∧ Arv Z h qc qd .double (32 : Int32) (t32 y0 qz qJ y3 y4 qbe y6 y7 y8 y9 qcd y11 y12 y13 y14 y15 y16 y17 y18 y19 y20 d1 y22 y23 y24 y25 y26 y27 y28 y29 y30 y31) (.double (0 : UInt64))
set_option maxRecDepth 65536 in
set_option maxHeartbeats 40000000 in
theorem rm7_6 (l : Launch) (Z : State) (a0 : Array Value) (hw : ∀ d ∈ tables_1, d.before a0 Z = true) (ws : List Jvm.Cond) (o0 : Addr) (d1 : UInt64) (qd : ClassId) (y0 y1 y2 y3 y4 y5 y6 y7 y8 y9 y10 y11 y12 y13 y14 y15 y16 y17 y18 y19 y20 y21 y22 y23 y24 y25 y26 y27 y28 y29 y30 y31 : UInt64) (qc : Addr) (qg : Int64) (qcd : UInt64) (qd5 : Int64) (qt : Int32) (qbe : UInt64) (qdG : Int64) (qB : Int32) (qJ : UInt64) (qdc : Int64) (qW : Int32) (qz : UInt64) (qda : Int64) (qbY : Int32) (h0 : Heap) (n0 : Nat) (Z0 : n0 ≤ h0.size) (qm : Arv Z h0 qc qd .double (32 : Int32) (t32 y0 y1 y2 y3 y4 y5 y6 y7 y8 y9 y10 y11 y12 y13 y14 y15 y16 y17 y18 y19 y20 y21 y22 y23 y24 y25 y26 y27 y28 y29 y30 y31) (.double (0 : UInt64))) (qe : o0 ≠ qc) (qn : Fld Z h0 o0 MTc "minima" "[D" (.ref qc)) (qr : Fld Z h0 o0 MTc "visits" "J" (.long qg)) (qp : n0 ≤ qc) (qo : Fld Z h0 o0 MTc "count" "I" (.int (5 : Int32))) (qi : Fld Z h0 o0 MTc "capacity" "I" (.int (16 : Int32))) (qbS : Exa Z h0 o0 MTc) (qU : n0 ≤ o0) (qhU : mnf y20 d1 = qcd) (qj6 : qg + (1 : Int64) = qd5) (qhV : cmpf qcd y10 = qt) (qgD : mnf qcd y11 = qbe) (qhW : qd5 + (1 : Int64) = qdG) (qgE : cmpf qbe y5 = qB) (qfF : mnf y4 qbe = qJ) (qgF : qdG + (1 : Int64) = qdc) (qfG : cmpf qJ y2 = qW) (qe2 : mnf qJ y3 = qz) (qfH : qdc + (1 : Int64) = qda) (qe3 : cmpf qz y1 = qbY) (qim : TV y20) (qin : TV d1) (qgV : (¬ qt = (0 : Int32)) → TV qcd) (qgW : (¬ qt = (0 : Int32)) → TV y11) (qf6 : (¬ qt = (0 : Int32)) → (¬ qB = (0 : Int32)) → TV y4) (qf7 : (¬ qt = (0 : Int32)) → (¬ qB = (0 : Int32)) → TV qbe) (qff : (¬ qt = (0 : Int32)) → (¬ qB = (0 : Int32)) → (¬ qW = (0 : Int32)) → TV qJ) (qfg : (¬ qt = (0 : Int32)) → (¬ qB = (0 : Int32)) → (¬ qW = (0 : Int32)) → TV y3) (qfs : (¬ qt = (0 : Int32)) → (¬ qB = (0 : Int32)) → (¬ qW = (0 : Int32)) → (qbY = (0 : Int32)) → y1 = qz) (qgm : (¬ qt = (0 : Int32)) → (¬ qB = (0 : Int32)) → (qW = (0 : Int32)) → y1 = qz) (qgn : (¬ qt = (0 : Int32)) → (¬ qB = (0 : Int32)) → (qW = (0 : Int32)) → y2 = qJ) (qhp : (¬ qt = (0 : Int32)) → (qB = (0 : Int32)) → y1 = qz) (qhq : (¬ qt = (0 : Int32)) → (qB = (0 : Int32)) → y2 = qJ) (qhr : (¬ qt = (0 : Int32)) → (qB = (0 : Int32)) → y5 = qbe) (qjf : (qt = (0 : Int32)) → y1 = qz) (qjg : (qt = (0 : Int32)) → y2 = qJ) (qjh : (qt = (0 : Int32)) → y5 = qbe) (qio : (qt = (0 : Int32)) → y10 = qcd) :
    MetFree l (⟨MTc, "add", "(D)V"⟩ : MethodName) (head1 (Jvm.Cond.code (⟨MTc, "add", "(D)V"⟩ : MethodName) prog_28_method_2_code 3 none :: ws) ({ frames := 4, cells := 0, slots := 0, locals := 108 } : Room)) (fun a U => a = #[(.ref o0), (.double d1)] ∧ Z.Warmed39 U.vm ∧ U.heap = h0) (fun _ _ _ _ _ => True) (fun _ U o U' => ∃ v L, o = .returned v ∧ Q7_6 Z o0 d1 qd y0 y1 y2 y3 y4 y5 y6 y7 y8 y9 y10 y11 y12 y13 y14 y15 y16 y17 y18 y19 y20 y21 y22 y23 y24 y25 y26 y27 y28 y29 y30 y31 qc qg qcd qd5 qt qbe qdG qB qJ qdc qW qz qda qbY h0 n0 v U'.heap L ∧ FrameEnd U o U' L ({ frames := 4, cells := 0, slots := 0, locals := 108 } : Room).cells ({ frames := 4, cells := 0, slots := 0, locals := 108 } : Room).slots) := by
  refine MetFree.of_bodySF (plainFor_of_name pn_1) hisR ?_
  intro p e s m args below meth c s₁ Bd hml0 hP hK
  obtain ⟨rfl, hZ, hh⟩ := hP
  have hx := Bd.exec
  have hby := Bd.bytes
  have hml : c.maxLocals = 3 := hml0
  have hown : s.vm.findClass MTc = some m.cls := findClass_of_methodNamed Bd.named
  have hnm := (name_of_methodNamed Bd.named Bd.method).1
  have X0 : Stand p l e ({ frames := 4, cells := 0, slots := 0, locals := 108 } : Room) s m #[(.ref o0), (.double d1)] below meth c s₁ [] 0 0 := Stand.of_body Bd
  have e0 : s₁.heap = h0 := by rw [← hh, Bd.state]; rfl
  have N0 := Fr.nil n0
  have c0 : ∀ t, Steps p.tables e below (s₁.setTop (mkF m 0 #[vR o0, vD d1, s_] [])) t → Steps p.tables e below (s₁.setTop (entryFrame m #[(.ref o0), (.double d1)] 3)) t := fun t k => castTop (ef_rm7_6 m o0 d1) k
  obtain ⟨T1, X1, e1, st1⟩ := getF X0 hx hZ hown (host := "") (Or.inl (hwi hw 37 rfl)) Via.refl e0 qo (g := (mkF m 1 #[vR o0, vD d1, s_] [(.ref o0)])) rfl rfl (hb hby d7_1)
  obtain ⟨T2, X2, e2, st2⟩ := getF X1 hx hZ hown (host := "") (Or.inl (hwi hw 21 rfl)) Via.refl e1 qi (g := (mkF m 5 #[vR o0, vD d1, s_] [(.ref o0), (.int (5 : Int32))])) rfl rfl (hb hby d7_5)
  obtain ⟨T3, X3, e3, st3⟩ := getF X2 hx hZ hown (host := "") (Or.inl (hwi hw 37 rfl)) Via.refl e2 qo (g := (mkF m 17 #[vR o0, vD d1, s_] [(.ref o0), (.ref o0)])) rfl rfl (hb hby d7_17)
  obtain ⟨T4, h4, X4, e4, W4, st4⟩ := putF X3 hx hZ hown (host := "") (Or.inl (hwi hw 37 rfl)) Via.refl e3 qo qbS (Or.inl (hwi hw 38 rfl)) (hwi hw 3 rfl) (ty := .int) (by decide) rfl rfl (g := (mkF m 22 #[vR o0, vD d1, s_] [(.int (6 : Int32)), (.ref o0)])) rfl rfl (hb hby d7_22)
  have N4 := Fr.snoc X4 N0 qU
  have K5 : Keep h0 h4 [o0, qc] := (Keep.refl h0 [o0, qc]).wr W4 (Or.inl (by simp))
  have F4w := qo.same W4
  obtain ⟨T6, X6, e6, st6⟩ := getF X4 hx hZ hown (host := "") (Or.inl (hwi hw 37 rfl)) Via.refl e4 F4w (g := (mkF m 27 #[vR o0, vD d1, s_] [(.ref o0), (.ref o0)])) rfl rfl (hb hby d7_27)
  have f7 := (qm.other W4 (Ne.symm qe))
  have f8 := (qi.other W4 (Or.inr (slot_ne (Or.inl (hwi hw 22 rfl)) (Or.inl (hwi hw 38 rfl)) (by decide) (t := .int) (t' := .int) (by decide) (by decide))))
  have f9 := (qn.other W4 (Or.inr (slot_ne (Or.inl (hwi hw 20 rfl)) (Or.inl (hwi hw 38 rfl)) (by decide) (t := (.array .double)) (t' := .int) (by decide) (by decide))))
  have f10 := (qr.other W4 (Or.inr (slot_ne (Or.inl (hwi hw 52 rfl)) (Or.inl (hwi hw 38 rfl)) (by decide) (t := .long) (t' := .int) (by decide) (by decide))))
  have f11 := (qbS.wr W4)
  obtain ⟨cq12, kq12, q12a, q12b, q12c⟩ := isOf hZ e6 f11
  obtain ⟨_, _, ⟨T12, L12, k12, n12⟩, -, X12, ⟨Lc12, hQ12, ql12, qy12, qz12⟩, st12⟩ := X6.virtualBack hx (y := (⟨MTc, "set", "(ID)V"⟩ : MethodName)) (z := (⟨MTc, "set", "(ID)V"⟩ : MethodName)) hown (mvT hZ (hwi hw 39 rfl)) (mvT hZ (hwi hw 40 rfl)) (notFace_of_selects (args := #[]) (mvT hZ (hwi hw 42 rfl))) (mvT hZ (hwi hw 42 rfl)) (mvT hZ (hwi hw 41 rfl)) (by decide) (backOf (W := 0) (rm8_6 l Z a0 hw [] o0 d1 qd y0 y1 y2 y3 y4 y5 y6 y7 y8 y9 y10 y11 y12 y13 y14 y15 y16 y17 y18 y19 y20 y21 y22 y23 y24 y25 y26 y27 y28 y29 y30 y31 (6 : Int32) qc qg qcd qd5 qt qbe qdG qB qJ qdc qW qz qda qbY h4 n0 (Nat.le_trans Z0 (Keep.of_wr W4).1) f7 qe f8 F4w f9 f10 qp f11 qU qhU qj6 qhV qgD qhW qgE qfF qgF qfG qe2 qfH qe3 qim qin qgV qgW qf6 qf7 qff qfg qfs qgm qgn qhp qhq qhr qjf qjg qjh qio) hZ (hwi hw 43 rfl) (hwi hw 4 rfl) (by decide) (by decide)) q12a q12c (g := (mkF m 31 #[vR o0, vD d1, s_] [(.double d1), (.int (6 : Int32)), (.ref o0)])) rfl (by rw [hml]; rfl) (Steps.refl _) (argsL := [(.int (6 : Int32)), (.double d1)]) (rest := []) (lenOf pd_6 rfl) rfl (by show 2 * 0 + _ ≤ _; exact Nat.le_of_eq rfl) (hb hby d7_31) (fun _ _ => ⟨rfl, e6, (by decide : 0 + 0 ≤ _), (by decide : 0 + 0 ≤ _)⟩)
  dsimp only [Pt.U, Pt.locs, Pt.cells, Pt.slots] at X12 ql12 qy12 qz12 st12 hQ12
  subst ql12 qy12 qz12
  obtain ⟨qQ, rfl, N12q, K12q, Q12_0, Q12_1, Q12_2, Q12_3, Q12_4, Q12_5⟩ := hQ12
  have N12 := Fr.app N4 N12q
  have K13 : Keep h0 T12.heap [o0, qc] := Keep.trans K5 K12q (allS (Or.inl (by simp)) (allS (Or.inl (by simp)) all0))
  have c14 : ∀ t, Steps p.tables e below (T12.setTop (mkF m 34 #[vR o0, vD d1, s_] [])) t → Steps p.tables e below (s₁.setTop (entryFrame m #[(.ref o0), (.double d1)] 3)) t := by
    intro t k
    refine c0 t ?_
    show Steps p.tables e below (s₁.setTop (mkF m 0 #[vR o0, vD d1, s_] [])) _
    refine XS.aloadN X0.here hx rfl (hb hby d7_0) rfl rfl ?_
    refine st1 _ ?_
    show Steps p.tables e below (T1.setTop (mkF m 4 #[vR o0, vD d1, s_] [(.int (5 : Int32))])) _
    refine XS.aloadN X1.here hx rfl (hb hby d7_4) rfl rfl ?_
    refine st2 _ ?_
    show Steps p.tables e below (T2.setTop (mkF m 8 #[vR o0, vD d1, s_] [(.int (16 : Int32)), (.int (5 : Int32))])) _
    refine XS.icmpYes X2.here hx rfl (pc0 := 8) (pc' := 15) rfl (hb hby d7_8) rfl (Jvm.Free.XT.ii_ne_t (by decide)) (by decide) (by decide) ?_
    refine XS.aloadN X2.here hx rfl (hb hby d7_15) rfl rfl ?_
    refine XS.dup X2.here hx rfl (hb hby d7_16) rfl rfl ?_
    refine st3 _ ?_
    show Steps p.tables e below (T3.setTop (mkF m 20 #[vR o0, vD d1, s_] [(.int (5 : Int32)), (.ref o0)])) _
    refine XS.iconst X3.here hx rfl (hb hby d7_20) ?_
    refine Jvm.OwnK.iadd X3.here hx rfl (hb hby d7_21) rfl (v := (6 : Int32)) (by decide) ?_
    refine st4 _ ?_
    show Steps p.tables e below (T4.setTop (mkF m 25 #[vR o0, vD d1, s_] [])) _
    refine XS.aloadN X4.here hx rfl (hb hby d7_25) rfl rfl ?_
    refine XS.aloadN X4.here hx rfl (hb hby d7_26) rfl rfl ?_
    refine st6 _ ?_
    show Steps p.tables e below (T6.setTop (mkF m 30 #[vR o0, vD d1, s_] [(.int (6 : Int32)), (.ref o0)])) _
    refine XS.dloadN X6.here hx rfl (hb hby d7_30) rfl ?_
    refine st12.trans ?_
    exact k
  obtain ⟨fs, hr, hrun, hended, hW, hsame⟩ := X12.leave (v := none) (fun _ => rfl)
  refine ⟨_, _, c14 _ ?_, hrun, hended, _, _, rfl, ?_, ⟨_, rfl⟩, hW, hsame.mono (by decide) (by decide)⟩
  · show Steps p.tables e below (T12.setTop (mkF m 34 #[vR o0, vD d1, s_] [])) _
    exact X12.returnOut hx Bd.returns (hb hby d7_34) hr
  · show Q7_6 Z o0 d1 qd y0 y1 y2 y3 y4 y5 y6 y7 y8 y9 y10 y11 y12 y13 y14 y15 y16 y17 y18 y19 y20 y21 y22 y23 y24 y25 y26 y27 y28 y29 y30 y31 qc qg qcd qd5 qt qbe qdG qB qJ qdc qW qz qda qbY h0 n0 _ T12.heap _
    exact ⟨qQ, rfl, N12, K13, Q12_3, Q12_4, Q12_2, Q12_1, Q12_5, Q12_0⟩
def Q8_7 (Z : State) (o0 : Addr) (d2 : UInt64) (qd : ClassId) (y0 y1 y2 y3 y4 y5 y6 y7 y8 y9 y10 y11 y12 y13 y14 y15 y16 y17 y18 y19 y20 y21 y22 y23 y24 y25 y26 y27 y28 y29 y30 y31 : UInt64) (qj : Int32) (qc : Addr) (qg : Int64) (qdA : UInt64) (qfI : Int64) (q7 : Int32) (qct : UInt64) (qem : Int64) (qbp : Int32) (qbt : UInt64) (qd4 : Int64) (qb1 : Int32) (qbd : UInt64) (qd1 : Int64) (qdn : Int32) (h0 : Heap) (n0 : Nat) (v : Option Value) (h : Heap) (L : List Loc) : Prop := ∃ vx_visits_o0 : Int64, v = none ∧ Fr n0 L ∧ Keep h0 h [qc, o0] ∧ Arv Z h qc qd .double (32 : Int32) (t32 y0 qbd qbt y3 y4 qct y6 y7 y8 y9 y10 qdA y12 y13 y14 y15 y16 y17 y18 y19 y20 y21 d2 y23 y24 y25 y26 y27 y28 y29 y30 y31) (.double (0 : UInt64)) ∧ Fld Z h o0 MTc "capacity" "I" (.int (16 : Int32)) ∧ Fld Z h o0 MTc "count" "I" (.int qj) ∧ Fld Z h o0 MTc "minima" "[D" (.ref qc) ∧ Fld Z h o0 MTc "visits" "J" (.long vx_visits_o0) ∧ Exa Z h o0 MTc
set_option maxRecDepth 65536 in
set_option maxHeartbeats 40000000 in
theorem rm8_7 (l : Launch) (Z : State) (a0 : Array Value) (hw : ∀ d ∈ tables_1, d.before a0 Z = true) (ws : List Jvm.Cond) (o0 : Addr) (d2 : UInt64) (qd : ClassId) (y0 y1 y2 y3 y4 y5 y6 y7 y8 y9 y10 y11 y12 y13 y14 y15 y16 y17 y18 y19 y20 y21 y22 y23 y24 y25 y26 y27 y28 y29 y30 y31 : UInt64) (qj : Int32) (qc : Addr) (qg : Int64) (qdA : UInt64) (qfI : Int64) (q7 : Int32) (qct : UInt64) (qem : Int64) (qbp : Int32) (qbt : UInt64) (qd4 : Int64) (qb1 : Int32) (qbd : UInt64) (qd1 : Int64) (qdn : Int32) (h0 : Heap) (n0 : Nat) (Z0 : n0 ≤ h0.size) (qm : Arv Z h0 qc qd .double (32 : Int32) (t32 y0 y1 y2 y3 y4 y5 y6 y7 y8 y9 y10 y11 y12 y13 y14 y15 y16 y17 y18 y19 y20 y21 y22 y23 y24 y25 y26 y27 y28 y29 y30 y31) (.double (0 : UInt64))) (qe : o0 ≠ qc) (qi : Fld Z h0 o0 MTc "capacity" "I" (.int (16 : Int32))) (qo : Fld Z h0 o0 MTc "count" "I" (.int qj)) (qn : Fld Z h0 o0 MTc "minima" "[D" (.ref qc)) (qr : Fld Z h0 o0 MTc "visits" "J" (.long qg)) (qp : n0 ≤ qc) (qbS : Exa Z h0 o0 MTc) (qU : n0 ≤ o0) (qk5 : mnf d2 y23 = qdA) (qnR : qg + (1 : Int64) = qfI) (qk6 : cmpf qdA y11 = q7) (qip : mnf y10 qdA = qct) (qk7 : qfI + (1 : Int64) = qem) (qiq : cmpf qct y5 = qbp) (qgX : mnf y4 qct = qbt) (qir : qem + (1 : Int64) = qd4) (qgY : cmpf qbt y2 = qb1) (qf8 : mnf qbt y3 = qbd) (qgZ : qd4 + (1 : Int64) = qd1) (qf9 : cmpf qbd y1 = qdn) (qlX : TV d2) (qlY : TV y23) (qji : (¬ q7 = (0 : Int32)) → TV y10) (qjj : (¬ q7 = (0 : Int32)) → TV qdA) (qhs : (¬ q7 = (0 : Int32)) → (¬ qbp = (0 : Int32)) → TV y4) (qht : (¬ q7 = (0 : Int32)) → (¬ qbp = (0 : Int32)) → TV qct) (qgo : (¬ q7 = (0 : Int32)) → (¬ qbp = (0 : Int32)) → (¬ qb1 = (0 : Int32)) → TV qbt) (qgp : (¬ q7 = (0 : Int32)) → (¬ qbp = (0 : Int32)) → (¬ qb1 = (0 : Int32)) → TV y3) (qgG : (¬ q7 = (0 : Int32)) → (¬ qbp = (0 : Int32)) → (¬ qb1 = (0 : Int32)) → (qdn = (0 : Int32)) → y1 = qbd) (qhX : (¬ q7 = (0 : Int32)) → (¬ qbp = (0 : Int32)) → (qb1 = (0 : Int32)) → y1 = qbd) (qhY : (¬ q7 = (0 : Int32)) → (¬ qbp = (0 : Int32)) → (qb1 = (0 : Int32)) → y2 = qbt) (qj7 : (¬ q7 = (0 : Int32)) → (qbp = (0 : Int32)) → y1 = qbd) (qj8 : (¬ q7 = (0 : Int32)) → (qbp = (0 : Int32)) → y2 = qbt) (qj9 : (¬ q7 = (0 : Int32)) → (qbp = (0 : Int32)) → y5 = qct) (qmO : (q7 = (0 : Int32)) → y1 = qbd) (qmP : (q7 = (0 : Int32)) → y2 = qbt) (qmQ : (q7 = (0 : Int32)) → y5 = qct) (qlZ : (q7 = (0 : Int32)) → y11 = qdA) :
    MetFree l (⟨MTc, "set", "(ID)V"⟩ : MethodName) (head1 (Jvm.Cond.code (⟨MTc, "set", "(ID)V"⟩ : MethodName) prog_28_method_3_code 7 none :: ws) ({ frames := 3, cells := 0, slots := 0, locals := 90 } : Room)) (fun a U => a = #[(.ref o0), (.int (7 : Int32)), (.double d2)] ∧ Z.Warmed39 U.vm ∧ U.heap = h0) (fun _ _ _ _ _ => True) (fun _ U o U' => ∃ v L, o = .returned v ∧ Q8_7 Z o0 d2 qd y0 y1 y2 y3 y4 y5 y6 y7 y8 y9 y10 y11 y12 y13 y14 y15 y16 y17 y18 y19 y20 y21 y22 y23 y24 y25 y26 y27 y28 y29 y30 y31 qj qc qg qdA qfI q7 qct qem qbp qbt qd4 qb1 qbd qd1 qdn h0 n0 v U'.heap L ∧ FrameEnd U o U' L ({ frames := 3, cells := 0, slots := 0, locals := 90 } : Room).cells ({ frames := 3, cells := 0, slots := 0, locals := 90 } : Room).slots) := by
  refine MetFree.of_bodySF (plainFor_of_name pn_1) hisR ?_
  intro p e s m args below meth c s₁ Bd hml0 hP hK
  obtain ⟨rfl, hZ, hh⟩ := hP
  have hx := Bd.exec
  have hby := Bd.bytes
  have hml : c.maxLocals = 7 := hml0
  have hown : s.vm.findClass MTc = some m.cls := findClass_of_methodNamed Bd.named
  have hnm := (name_of_methodNamed Bd.named Bd.method).1
  have X0 : Stand p l e ({ frames := 3, cells := 0, slots := 0, locals := 90 } : Room) s m #[(.ref o0), (.int (7 : Int32)), (.double d2)] below meth c s₁ [] 0 0 := Stand.of_body Bd
  have e0 : s₁.heap = h0 := by rw [← hh, Bd.state]; rfl
  have N0 := Fr.nil n0
  have c0 : ∀ t, Steps p.tables e below (s₁.setTop (mkF m 0 #[vR o0, vI (7 : Int32), vD d2, s_, u_, u_, u_] [])) t → Steps p.tables e below (s₁.setTop (entryFrame m #[(.ref o0), (.int (7 : Int32)), (.double d2)] 7)) t := fun t k => castTop (ef_rm8_7 m o0 d2) k
  obtain ⟨T1, X1, e1, st1⟩ := getF X0 hx hZ hown (host := "") (Or.inl (hwi hw 21 rfl)) Via.refl e0 qi (g := (mkF m 1 #[vR o0, vI (7 : Int32), vD d2, s_, u_, u_, u_] [(.ref o0)])) rfl rfl (hb hby d8_1)
  obtain ⟨T2, X2, e2, st2⟩ := getF X1 hx hZ hown (host := "") (Or.inl (hwi hw 19 rfl)) Via.refl e1 qn (g := (mkF m 11 #[vR o0, vI (7 : Int32), vD d2, s_, vI (22 : Int32), u_, u_] [(.ref o0)])) rfl rfl (hb hby d8_11)
  obtain ⟨cl3, Ar3, q3, S3, Nn3, Ha3, G3⟩ := id qm
  have in3 : ¬ ((22 : Int32) < 0 ∨ cl3.slots.size ≤ ((22 : Int32)).toNatClampNeg) := inb_of S3 ⟨by decide, by decide⟩
  obtain ⟨T4, h4, X4, e4, W4, st4⟩ := stD X2 hx hZ e2 Ar3 (j := (22 : Int32)) in3 (g := (mkF m 17 #[vR o0, vI (7 : Int32), vD d2, s_, vI (22 : Int32), u_, u_] [(.double d2), (.int (22 : Int32)), (.ref qc)])) rfl rfl (hb hby d8_17)
  have N4 := Fr.snoc X4 N0 qp
  have K5 : Keep h0 h4 [qc, o0] := (Keep.refl h0 [qc, o0]).wr W4 (Or.inl (by simp))
  have V4 : Arv Z h4 qc qd .double (32 : Int32) (t32 y0 y1 y2 y3 y4 y5 y6 y7 y8 y9 y10 y11 y12 y13 y14 y15 y16 y17 y18 y19 y20 y21 d2 y23 y24 y25 y26 y27 y28 y29 y30 y31) (.double (0 : UInt64)) := Arv.set Ar3 q3 S3 Nn3 Ha3 G3 rfl W4 22 rfl (show (22 : Nat) < 32 by decide)
  have c6 : ∀ t, Steps p.tables e below (T4.setTop (mkF m 24 #[vR o0, vI (7 : Int32), vD d2, s_, vI (11 : Int32), u_, u_] [])) t → Steps p.tables e below (s₁.setTop (entryFrame m #[(.ref o0), (.int (7 : Int32)), (.double d2)] 7)) t := by
    intro t k
    refine c0 t ?_
    show Steps p.tables e below (s₁.setTop (mkF m 0 #[vR o0, vI (7 : Int32), vD d2, s_, u_, u_, u_] [])) _
    refine XS.aloadN X0.here hx rfl (hb hby d8_0) rfl rfl ?_
    refine st1 _ ?_
    show Steps p.tables e below (T1.setTop (mkF m 4 #[vR o0, vI (7 : Int32), vD d2, s_, u_, u_, u_] [(.int (16 : Int32))])) _
    refine XS.iloadN X1.here hx rfl (hb hby d8_4) rfl ?_
    refine Jvm.OwnK.iadd X1.here hx rfl (hb hby d8_5) rfl (v := (23 : Int32)) (by decide) ?_
    refine XS.iconst X1.here hx rfl (hb hby d8_6) ?_
    refine Jvm.OwnK.isub X1.here hx rfl (hb hby d8_7) rfl (v := (22 : Int32)) (by decide) ?_
    refine XS.istore X1.here hx rfl (hb hby d8_8) rfl (l' := #[vR o0, vI (7 : Int32), vD d2, s_, vI (22 : Int32), u_, u_]) rfl ?_
    refine XS.aloadN X1.here hx rfl (hb hby d8_10) rfl rfl ?_
    show Steps p.tables e below (T1.setTop (mkF m 11 #[vR o0, vI (7 : Int32), vD d2, s_, vI (22 : Int32), u_, u_] [(.ref o0)])) _
    refine st2 _ ?_
    show Steps p.tables e below (T2.setTop (mkF m 14 #[vR o0, vI (7 : Int32), vD d2, s_, vI (22 : Int32), u_, u_] [(.ref qc)])) _
    refine XS.iload X2.here hx rfl (hb hby d8_14) rfl ?_
    refine XS.dloadN X2.here hx rfl (hb hby d8_16) rfl ?_
    refine st4 _ ?_
    show Steps p.tables e below (T4.setTop (mkF m 18 #[vR o0, vI (7 : Int32), vD d2, s_, vI (22 : Int32), u_, u_] [])) _
    refine XS.iload X4.here hx rfl (hb hby d8_18) rfl ?_
    refine XS.iconst X4.here hx rfl (hb hby d8_20) ?_
    refine Jvm.OwnK.idiv X4.here hx rfl (hb hby d8_21) rfl (by decide) (v := (11 : Int32)) (by decide) ?_
    refine XS.istore X4.here hx rfl (hb hby d8_22) rfl (l' := #[vR o0, vI (7 : Int32), vD d2, s_, vI (11 : Int32), u_, u_]) rfl ?_
    exact k
  have f8 := (qi.other W4 (Or.inl qe))
  have f9 := (qo.other W4 (Or.inl qe))
  have f10 := (qn.other W4 (Or.inl qe))
  have f11 := (qr.other W4 (Or.inl qe))
  have f12 := (qbS.wr W4)
  obtain ⟨T7, o7q, sq7, rq7, eq7, _, L7, ho7, ⟨qc9, rfl, N7, K7q, Q7_0, Q7_1, Q7_2, Q7_3, Q7_4, Q7_5⟩, hF7⟩ := tl8_n11 l Z a0 hw ws o0 (7 : Int32) d2 qd y0 y1 y2 y3 y4 y5 y6 y7 y8 y9 y10 y11 y12 y13 y14 y15 y16 y17 y18 y19 y20 y21 d2 y23 y24 y25 y26 y27 y28 y29 y30 y31 qj qc qg qdA qfI q7 qct qem qbp qbt qd4 qb1 qbd qd1 qdn h4 n0 (Nat.le_trans Z0 (Keep.of_wr W4).1) V4 qe f8 f9 f10 f11 qp f12 qU qk5 qnR qk6 qip qk7 qiq qgX qir qgY qf8 qgZ qf9 qlX qlY qji qjj qhs qht qgo qgp qgG qhX qhY qj7 qj8 qj9 qmO qmP qmQ qlZ Bd hml0 hZ X4 e4 N4
  have K13 : Keep h0 T7.heap [qc, o0] := Keep.trans K5 K7q (allS (Or.inl (by simp)) (allS (Or.inl (by simp)) all0))
  exact ⟨T7, o7q, c6 _ sq7, rq7, eq7, _, L7, ho7, ⟨qc9, rfl, N7, K13, Q7_0, Q7_1, Q7_2, Q7_3, Q7_4, Q7_5⟩, hF7⟩
def Q7_7 (Z : State) (o0 : Addr) (d1 : UInt64) (qd : ClassId) (y0 y1 y2 y3 y4 y5 y6 y7 y8 y9 y10 y11 y12 y13 y14 y15 y16 y17 y18 y19 y20 y21 y22 y23 y24 y25 y26 y27 y28 y29 y30 y31 : UInt64) (qc : Addr) (qg : Int64) (qce : UInt64) (qd6 : Int64) (qu : Int32) (qbf : UInt64) (qdH : Int64) (qC : Int32) (qK : UInt64) (qdd : Int64) (qX : Int32) (qA : UInt64) (qdb : Int64) (qbZ : Int32) (h0 : Heap) (n0 : Nat) (v : Option Value) (h : Heap) (L : List Loc) : Prop := ∃ qQ : Int64, v = none ∧ Fr n0 L ∧ Keep h0 h [o0, qc] ∧ Fld Z h o0 MTc "minima" "[D" (.ref qc) ∧ Fld Z h o0 MTc "visits" "J" (.long qQ) ∧ Fld Z h o0 MTc "count" "I" (.int (7 : Int32)) ∧ Fld Z h o0 MTc "capacity" "I" (.int (16 : Int32)) ∧ Exa Z h o0 MTc ∧ Arv Z h qc qd .double (32 : Int32) (t32 y0 qA qK y3 y4 qbf y6 y7 y8 y9 y10 qce y12 y13 y14 y15 y16 y17 y18 y19 y20 y21 d1 y23 y24 y25 y26 y27 y28 y29 y30 y31) (.double (0 : UInt64))
set_option maxRecDepth 65536 in
set_option maxHeartbeats 40000000 in
theorem rm7_7 (l : Launch) (Z : State) (a0 : Array Value) (hw : ∀ d ∈ tables_1, d.before a0 Z = true) (ws : List Jvm.Cond) (o0 : Addr) (d1 : UInt64) (qd : ClassId) (y0 y1 y2 y3 y4 y5 y6 y7 y8 y9 y10 y11 y12 y13 y14 y15 y16 y17 y18 y19 y20 y21 y22 y23 y24 y25 y26 y27 y28 y29 y30 y31 : UInt64) (qc : Addr) (qg : Int64) (qce : UInt64) (qd6 : Int64) (qu : Int32) (qbf : UInt64) (qdH : Int64) (qC : Int32) (qK : UInt64) (qdd : Int64) (qX : Int32) (qA : UInt64) (qdb : Int64) (qbZ : Int32) (h0 : Heap) (n0 : Nat) (Z0 : n0 ≤ h0.size) (qm : Arv Z h0 qc qd .double (32 : Int32) (t32 y0 y1 y2 y3 y4 y5 y6 y7 y8 y9 y10 y11 y12 y13 y14 y15 y16 y17 y18 y19 y20 y21 y22 y23 y24 y25 y26 y27 y28 y29 y30 y31) (.double (0 : UInt64))) (qe : o0 ≠ qc) (qn : Fld Z h0 o0 MTc "minima" "[D" (.ref qc)) (qr : Fld Z h0 o0 MTc "visits" "J" (.long qg)) (qp : n0 ≤ qc) (qo : Fld Z h0 o0 MTc "count" "I" (.int (6 : Int32))) (qi : Fld Z h0 o0 MTc "capacity" "I" (.int (16 : Int32))) (qbS : Exa Z h0 o0 MTc) (qU : n0 ≤ o0) (qhZ : mnf d1 y23 = qce) (qka : qg + (1 : Int64) = qd6) (qh0 : cmpf qce y11 = qu) (qgH : mnf y10 qce = qbf) (qh1 : qd6 + (1 : Int64) = qdH) (qgI : cmpf qbf y5 = qC) (qfJ : mnf y4 qbf = qK) (qgJ : qdH + (1 : Int64) = qdd) (qfK : cmpf qK y2 = qX) (qe4 : mnf qK y3 = qA) (qfL : qdd + (1 : Int64) = qdb) (qe5 : cmpf qA y1 = qbZ) (qis : TV d1) (qit : TV y23) (qg0 : (¬ qu = (0 : Int32)) → TV y10) (qg1 : (¬ qu = (0 : Int32)) → TV qce) (qga : (¬ qu = (0 : Int32)) → (¬ qC = (0 : Int32)) → TV y4) (qgb : (¬ qu = (0 : Int32)) → (¬ qC = (0 : Int32)) → TV qbf) (qfh : (¬ qu = (0 : Int32)) → (¬ qC = (0 : Int32)) → (¬ qX = (0 : Int32)) → TV qK) (qfi : (¬ qu = (0 : Int32)) → (¬ qC = (0 : Int32)) → (¬ qX = (0 : Int32)) → TV y3) (qft : (¬ qu = (0 : Int32)) → (¬ qC = (0 : Int32)) → (¬ qX = (0 : Int32)) → (qbZ = (0 : Int32)) → y1 = qA) (qgq : (¬ qu = (0 : Int32)) → (¬ qC = (0 : Int32)) → (qX = (0 : Int32)) → y1 = qA) (qgr : (¬ qu = (0 : Int32)) → (¬ qC = (0 : Int32)) → (qX = (0 : Int32)) → y2 = qK) (qhu : (¬ qu = (0 : Int32)) → (qC = (0 : Int32)) → y1 = qA) (qhv : (¬ qu = (0 : Int32)) → (qC = (0 : Int32)) → y2 = qK) (qhw : (¬ qu = (0 : Int32)) → (qC = (0 : Int32)) → y5 = qbf) (qjk : (qu = (0 : Int32)) → y1 = qA) (qjl : (qu = (0 : Int32)) → y2 = qK) (qjm : (qu = (0 : Int32)) → y5 = qbf) (qiu : (qu = (0 : Int32)) → y11 = qce) :
    MetFree l (⟨MTc, "add", "(D)V"⟩ : MethodName) (head1 (Jvm.Cond.code (⟨MTc, "add", "(D)V"⟩ : MethodName) prog_28_method_2_code 3 none :: ws) ({ frames := 4, cells := 0, slots := 0, locals := 108 } : Room)) (fun a U => a = #[(.ref o0), (.double d1)] ∧ Z.Warmed39 U.vm ∧ U.heap = h0) (fun _ _ _ _ _ => True) (fun _ U o U' => ∃ v L, o = .returned v ∧ Q7_7 Z o0 d1 qd y0 y1 y2 y3 y4 y5 y6 y7 y8 y9 y10 y11 y12 y13 y14 y15 y16 y17 y18 y19 y20 y21 y22 y23 y24 y25 y26 y27 y28 y29 y30 y31 qc qg qce qd6 qu qbf qdH qC qK qdd qX qA qdb qbZ h0 n0 v U'.heap L ∧ FrameEnd U o U' L ({ frames := 4, cells := 0, slots := 0, locals := 108 } : Room).cells ({ frames := 4, cells := 0, slots := 0, locals := 108 } : Room).slots) := by
  refine MetFree.of_bodySF (plainFor_of_name pn_1) hisR ?_
  intro p e s m args below meth c s₁ Bd hml0 hP hK
  obtain ⟨rfl, hZ, hh⟩ := hP
  have hx := Bd.exec
  have hby := Bd.bytes
  have hml : c.maxLocals = 3 := hml0
  have hown : s.vm.findClass MTc = some m.cls := findClass_of_methodNamed Bd.named
  have hnm := (name_of_methodNamed Bd.named Bd.method).1
  have X0 : Stand p l e ({ frames := 4, cells := 0, slots := 0, locals := 108 } : Room) s m #[(.ref o0), (.double d1)] below meth c s₁ [] 0 0 := Stand.of_body Bd
  have e0 : s₁.heap = h0 := by rw [← hh, Bd.state]; rfl
  have N0 := Fr.nil n0
  have c0 : ∀ t, Steps p.tables e below (s₁.setTop (mkF m 0 #[vR o0, vD d1, s_] [])) t → Steps p.tables e below (s₁.setTop (entryFrame m #[(.ref o0), (.double d1)] 3)) t := fun t k => castTop (ef_rm7_7 m o0 d1) k
  obtain ⟨T1, X1, e1, st1⟩ := getF X0 hx hZ hown (host := "") (Or.inl (hwi hw 37 rfl)) Via.refl e0 qo (g := (mkF m 1 #[vR o0, vD d1, s_] [(.ref o0)])) rfl rfl (hb hby d7_1)
  obtain ⟨T2, X2, e2, st2⟩ := getF X1 hx hZ hown (host := "") (Or.inl (hwi hw 21 rfl)) Via.refl e1 qi (g := (mkF m 5 #[vR o0, vD d1, s_] [(.ref o0), (.int (6 : Int32))])) rfl rfl (hb hby d7_5)
  obtain ⟨T3, X3, e3, st3⟩ := getF X2 hx hZ hown (host := "") (Or.inl (hwi hw 37 rfl)) Via.refl e2 qo (g := (mkF m 17 #[vR o0, vD d1, s_] [(.ref o0), (.ref o0)])) rfl rfl (hb hby d7_17)
  obtain ⟨T4, h4, X4, e4, W4, st4⟩ := putF X3 hx hZ hown (host := "") (Or.inl (hwi hw 37 rfl)) Via.refl e3 qo qbS (Or.inl (hwi hw 38 rfl)) (hwi hw 3 rfl) (ty := .int) (by decide) rfl rfl (g := (mkF m 22 #[vR o0, vD d1, s_] [(.int (7 : Int32)), (.ref o0)])) rfl rfl (hb hby d7_22)
  have N4 := Fr.snoc X4 N0 qU
  have K5 : Keep h0 h4 [o0, qc] := (Keep.refl h0 [o0, qc]).wr W4 (Or.inl (by simp))
  have F4w := qo.same W4
  obtain ⟨T6, X6, e6, st6⟩ := getF X4 hx hZ hown (host := "") (Or.inl (hwi hw 37 rfl)) Via.refl e4 F4w (g := (mkF m 27 #[vR o0, vD d1, s_] [(.ref o0), (.ref o0)])) rfl rfl (hb hby d7_27)
  have f7 := (qm.other W4 (Ne.symm qe))
  have f8 := (qi.other W4 (Or.inr (slot_ne (Or.inl (hwi hw 22 rfl)) (Or.inl (hwi hw 38 rfl)) (by decide) (t := .int) (t' := .int) (by decide) (by decide))))
  have f9 := (qn.other W4 (Or.inr (slot_ne (Or.inl (hwi hw 20 rfl)) (Or.inl (hwi hw 38 rfl)) (by decide) (t := (.array .double)) (t' := .int) (by decide) (by decide))))
  have f10 := (qr.other W4 (Or.inr (slot_ne (Or.inl (hwi hw 52 rfl)) (Or.inl (hwi hw 38 rfl)) (by decide) (t := .long) (t' := .int) (by decide) (by decide))))
  have f11 := (qbS.wr W4)
  obtain ⟨cq12, kq12, q12a, q12b, q12c⟩ := isOf hZ e6 f11
  obtain ⟨_, _, ⟨T12, L12, k12, n12⟩, -, X12, ⟨Lc12, hQ12, ql12, qy12, qz12⟩, st12⟩ := X6.virtualBack hx (y := (⟨MTc, "set", "(ID)V"⟩ : MethodName)) (z := (⟨MTc, "set", "(ID)V"⟩ : MethodName)) hown (mvT hZ (hwi hw 39 rfl)) (mvT hZ (hwi hw 40 rfl)) (notFace_of_selects (args := #[]) (mvT hZ (hwi hw 42 rfl))) (mvT hZ (hwi hw 42 rfl)) (mvT hZ (hwi hw 41 rfl)) (by decide) (backOf (W := 0) (rm8_7 l Z a0 hw [] o0 d1 qd y0 y1 y2 y3 y4 y5 y6 y7 y8 y9 y10 y11 y12 y13 y14 y15 y16 y17 y18 y19 y20 y21 y22 y23 y24 y25 y26 y27 y28 y29 y30 y31 (7 : Int32) qc qg qce qd6 qu qbf qdH qC qK qdd qX qA qdb qbZ h4 n0 (Nat.le_trans Z0 (Keep.of_wr W4).1) f7 qe f8 F4w f9 f10 qp f11 qU qhZ qka qh0 qgH qh1 qgI qfJ qgJ qfK qe4 qfL qe5 qis qit qg0 qg1 qga qgb qfh qfi qft qgq qgr qhu qhv qhw qjk qjl qjm qiu) hZ (hwi hw 43 rfl) (hwi hw 4 rfl) (by decide) (by decide)) q12a q12c (g := (mkF m 31 #[vR o0, vD d1, s_] [(.double d1), (.int (7 : Int32)), (.ref o0)])) rfl (by rw [hml]; rfl) (Steps.refl _) (argsL := [(.int (7 : Int32)), (.double d1)]) (rest := []) (lenOf pd_6 rfl) rfl (by show 2 * 0 + _ ≤ _; exact Nat.le_of_eq rfl) (hb hby d7_31) (fun _ _ => ⟨rfl, e6, (by decide : 0 + 0 ≤ _), (by decide : 0 + 0 ≤ _)⟩)
  dsimp only [Pt.U, Pt.locs, Pt.cells, Pt.slots] at X12 ql12 qy12 qz12 st12 hQ12
  subst ql12 qy12 qz12
  obtain ⟨qQ, rfl, N12q, K12q, Q12_0, Q12_1, Q12_2, Q12_3, Q12_4, Q12_5⟩ := hQ12
  have N12 := Fr.app N4 N12q
  have K13 : Keep h0 T12.heap [o0, qc] := Keep.trans K5 K12q (allS (Or.inl (by simp)) (allS (Or.inl (by simp)) all0))
  have c14 : ∀ t, Steps p.tables e below (T12.setTop (mkF m 34 #[vR o0, vD d1, s_] [])) t → Steps p.tables e below (s₁.setTop (entryFrame m #[(.ref o0), (.double d1)] 3)) t := by
    intro t k
    refine c0 t ?_
    show Steps p.tables e below (s₁.setTop (mkF m 0 #[vR o0, vD d1, s_] [])) _
    refine XS.aloadN X0.here hx rfl (hb hby d7_0) rfl rfl ?_
    refine st1 _ ?_
    show Steps p.tables e below (T1.setTop (mkF m 4 #[vR o0, vD d1, s_] [(.int (6 : Int32))])) _
    refine XS.aloadN X1.here hx rfl (hb hby d7_4) rfl rfl ?_
    refine st2 _ ?_
    show Steps p.tables e below (T2.setTop (mkF m 8 #[vR o0, vD d1, s_] [(.int (16 : Int32)), (.int (6 : Int32))])) _
    refine XS.icmpYes X2.here hx rfl (pc0 := 8) (pc' := 15) rfl (hb hby d7_8) rfl (Jvm.Free.XT.ii_ne_t (by decide)) (by decide) (by decide) ?_
    refine XS.aloadN X2.here hx rfl (hb hby d7_15) rfl rfl ?_
    refine XS.dup X2.here hx rfl (hb hby d7_16) rfl rfl ?_
    refine st3 _ ?_
    show Steps p.tables e below (T3.setTop (mkF m 20 #[vR o0, vD d1, s_] [(.int (6 : Int32)), (.ref o0)])) _
    refine XS.iconst X3.here hx rfl (hb hby d7_20) ?_
    refine Jvm.OwnK.iadd X3.here hx rfl (hb hby d7_21) rfl (v := (7 : Int32)) (by decide) ?_
    refine st4 _ ?_
    show Steps p.tables e below (T4.setTop (mkF m 25 #[vR o0, vD d1, s_] [])) _
    refine XS.aloadN X4.here hx rfl (hb hby d7_25) rfl rfl ?_
    refine XS.aloadN X4.here hx rfl (hb hby d7_26) rfl rfl ?_
    refine st6 _ ?_
    show Steps p.tables e below (T6.setTop (mkF m 30 #[vR o0, vD d1, s_] [(.int (7 : Int32)), (.ref o0)])) _
    refine XS.dloadN X6.here hx rfl (hb hby d7_30) rfl ?_
    refine st12.trans ?_
    exact k
  obtain ⟨fs, hr, hrun, hended, hW, hsame⟩ := X12.leave (v := none) (fun _ => rfl)
  refine ⟨_, _, c14 _ ?_, hrun, hended, _, _, rfl, ?_, ⟨_, rfl⟩, hW, hsame.mono (by decide) (by decide)⟩
  · show Steps p.tables e below (T12.setTop (mkF m 34 #[vR o0, vD d1, s_] [])) _
    exact X12.returnOut hx Bd.returns (hb hby d7_34) hr
  · show Q7_7 Z o0 d1 qd y0 y1 y2 y3 y4 y5 y6 y7 y8 y9 y10 y11 y12 y13 y14 y15 y16 y17 y18 y19 y20 y21 y22 y23 y24 y25 y26 y27 y28 y29 y30 y31 qc qg qce qd6 qu qbf qdH qC qK qdd qX qA qdb qbZ h0 n0 _ T12.heap _
    exact ⟨qQ, rfl, N12, K13, Q12_3, Q12_4, Q12_2, Q12_1, Q12_5, Q12_0⟩
def Q8_8 (Z : State) (o0 : Addr) (d2 : UInt64) (qd : ClassId) (y0 y1 y2 y3 y4 y5 y6 y7 y8 y9 y10 y11 y12 y13 y14 y15 y16 y17 y18 y19 y20 y21 y22 y23 y24 y25 y26 y27 y28 y29 y30 y31 : UInt64) (qj : Int32) (qc : Addr) (qg : Int64) (qdA : UInt64) (qfI : Int64) (q7 : Int32) (qct : UInt64) (qem : Int64) (qbp : Int32) (qbt : UInt64) (qd4 : Int64) (qb1 : Int32) (qbd : UInt64) (qd1 : Int64) (qdn : Int32) (h0 : Heap) (n0 : Nat) (v : Option Value) (h : Heap) (L : List Loc) : Prop := ∃ vx_visits_o0 : Int64, v = none ∧ Fr n0 L ∧ Keep h0 h [qc, o0] ∧ Arv Z h qc qd .double (32 : Int32) (t32 y0 qbd qbt y3 y4 qct y6 y7 y8 y9 y10 qdA y12 y13 y14 y15 y16 y17 y18 y19 y20 y21 y22 d2 y24 y25 y26 y27 y28 y29 y30 y31) (.double (0 : UInt64)) ∧ Fld Z h o0 MTc "capacity" "I" (.int (16 : Int32)) ∧ Fld Z h o0 MTc "count" "I" (.int qj) ∧ Fld Z h o0 MTc "minima" "[D" (.ref qc) ∧ Fld Z h o0 MTc "visits" "J" (.long vx_visits_o0) ∧ Exa Z h o0 MTc
set_option maxRecDepth 65536 in
set_option maxHeartbeats 40000000 in
theorem rm8_8 (l : Launch) (Z : State) (a0 : Array Value) (hw : ∀ d ∈ tables_1, d.before a0 Z = true) (ws : List Jvm.Cond) (o0 : Addr) (d2 : UInt64) (qd : ClassId) (y0 y1 y2 y3 y4 y5 y6 y7 y8 y9 y10 y11 y12 y13 y14 y15 y16 y17 y18 y19 y20 y21 y22 y23 y24 y25 y26 y27 y28 y29 y30 y31 : UInt64) (qj : Int32) (qc : Addr) (qg : Int64) (qdA : UInt64) (qfI : Int64) (q7 : Int32) (qct : UInt64) (qem : Int64) (qbp : Int32) (qbt : UInt64) (qd4 : Int64) (qb1 : Int32) (qbd : UInt64) (qd1 : Int64) (qdn : Int32) (h0 : Heap) (n0 : Nat) (Z0 : n0 ≤ h0.size) (qm : Arv Z h0 qc qd .double (32 : Int32) (t32 y0 y1 y2 y3 y4 y5 y6 y7 y8 y9 y10 y11 y12 y13 y14 y15 y16 y17 y18 y19 y20 y21 y22 y23 y24 y25 y26 y27 y28 y29 y30 y31) (.double (0 : UInt64))) (qe : o0 ≠ qc) (qi : Fld Z h0 o0 MTc "capacity" "I" (.int (16 : Int32))) (qo : Fld Z h0 o0 MTc "count" "I" (.int qj)) (qn : Fld Z h0 o0 MTc "minima" "[D" (.ref qc)) (qr : Fld Z h0 o0 MTc "visits" "J" (.long qg)) (qp : n0 ≤ qc) (qbS : Exa Z h0 o0 MTc) (qU : n0 ≤ o0) (qk5 : mnf y22 d2 = qdA) (qnR : qg + (1 : Int64) = qfI) (qk6 : cmpf qdA y11 = q7) (qip : mnf y10 qdA = qct) (qk7 : qfI + (1 : Int64) = qem) (qiq : cmpf qct y5 = qbp) (qgX : mnf y4 qct = qbt) (qir : qem + (1 : Int64) = qd4) (qgY : cmpf qbt y2 = qb1) (qf8 : mnf qbt y3 = qbd) (qgZ : qd4 + (1 : Int64) = qd1) (qf9 : cmpf qbd y1 = qdn) (qlX : TV y22) (qlY : TV d2) (qji : (¬ q7 = (0 : Int32)) → TV y10) (qjj : (¬ q7 = (0 : Int32)) → TV qdA) (qhs : (¬ q7 = (0 : Int32)) → (¬ qbp = (0 : Int32)) → TV y4) (qht : (¬ q7 = (0 : Int32)) → (¬ qbp = (0 : Int32)) → TV qct) (qgo : (¬ q7 = (0 : Int32)) → (¬ qbp = (0 : Int32)) → (¬ qb1 = (0 : Int32)) → TV qbt) (qgp : (¬ q7 = (0 : Int32)) → (¬ qbp = (0 : Int32)) → (¬ qb1 = (0 : Int32)) → TV y3) (qgG : (¬ q7 = (0 : Int32)) → (¬ qbp = (0 : Int32)) → (¬ qb1 = (0 : Int32)) → (qdn = (0 : Int32)) → y1 = qbd) (qhX : (¬ q7 = (0 : Int32)) → (¬ qbp = (0 : Int32)) → (qb1 = (0 : Int32)) → y1 = qbd) (qhY : (¬ q7 = (0 : Int32)) → (¬ qbp = (0 : Int32)) → (qb1 = (0 : Int32)) → y2 = qbt) (qj7 : (¬ q7 = (0 : Int32)) → (qbp = (0 : Int32)) → y1 = qbd) (qj8 : (¬ q7 = (0 : Int32)) → (qbp = (0 : Int32)) → y2 = qbt) (qj9 : (¬ q7 = (0 : Int32)) → (qbp = (0 : Int32)) → y5 = qct) (qmO : (q7 = (0 : Int32)) → y1 = qbd) (qmP : (q7 = (0 : Int32)) → y2 = qbt) (qmQ : (q7 = (0 : Int32)) → y5 = qct) (qlZ : (q7 = (0 : Int32)) → y11 = qdA) :
    MetFree l (⟨MTc, "set", "(ID)V"⟩ : MethodName) (head1 (Jvm.Cond.code (⟨MTc, "set", "(ID)V"⟩ : MethodName) prog_28_method_3_code 7 none :: ws) ({ frames := 3, cells := 0, slots := 0, locals := 90 } : Room)) (fun a U => a = #[(.ref o0), (.int (8 : Int32)), (.double d2)] ∧ Z.Warmed39 U.vm ∧ U.heap = h0) (fun _ _ _ _ _ => True) (fun _ U o U' => ∃ v L, o = .returned v ∧ Q8_8 Z o0 d2 qd y0 y1 y2 y3 y4 y5 y6 y7 y8 y9 y10 y11 y12 y13 y14 y15 y16 y17 y18 y19 y20 y21 y22 y23 y24 y25 y26 y27 y28 y29 y30 y31 qj qc qg qdA qfI q7 qct qem qbp qbt qd4 qb1 qbd qd1 qdn h0 n0 v U'.heap L ∧ FrameEnd U o U' L ({ frames := 3, cells := 0, slots := 0, locals := 90 } : Room).cells ({ frames := 3, cells := 0, slots := 0, locals := 90 } : Room).slots) := by
  refine MetFree.of_bodySF (plainFor_of_name pn_1) hisR ?_
  intro p e s m args below meth c s₁ Bd hml0 hP hK
  obtain ⟨rfl, hZ, hh⟩ := hP
  have hx := Bd.exec
  have hby := Bd.bytes
  have hml : c.maxLocals = 7 := hml0
  have hown : s.vm.findClass MTc = some m.cls := findClass_of_methodNamed Bd.named
  have hnm := (name_of_methodNamed Bd.named Bd.method).1
  have X0 : Stand p l e ({ frames := 3, cells := 0, slots := 0, locals := 90 } : Room) s m #[(.ref o0), (.int (8 : Int32)), (.double d2)] below meth c s₁ [] 0 0 := Stand.of_body Bd
  have e0 : s₁.heap = h0 := by rw [← hh, Bd.state]; rfl
  have N0 := Fr.nil n0
  have c0 : ∀ t, Steps p.tables e below (s₁.setTop (mkF m 0 #[vR o0, vI (8 : Int32), vD d2, s_, u_, u_, u_] [])) t → Steps p.tables e below (s₁.setTop (entryFrame m #[(.ref o0), (.int (8 : Int32)), (.double d2)] 7)) t := fun t k => castTop (ef_rm8_8 m o0 d2) k
  obtain ⟨T1, X1, e1, st1⟩ := getF X0 hx hZ hown (host := "") (Or.inl (hwi hw 21 rfl)) Via.refl e0 qi (g := (mkF m 1 #[vR o0, vI (8 : Int32), vD d2, s_, u_, u_, u_] [(.ref o0)])) rfl rfl (hb hby d8_1)
  obtain ⟨T2, X2, e2, st2⟩ := getF X1 hx hZ hown (host := "") (Or.inl (hwi hw 19 rfl)) Via.refl e1 qn (g := (mkF m 11 #[vR o0, vI (8 : Int32), vD d2, s_, vI (23 : Int32), u_, u_] [(.ref o0)])) rfl rfl (hb hby d8_11)
  obtain ⟨cl3, Ar3, q3, S3, Nn3, Ha3, G3⟩ := id qm
  have in3 : ¬ ((23 : Int32) < 0 ∨ cl3.slots.size ≤ ((23 : Int32)).toNatClampNeg) := inb_of S3 ⟨by decide, by decide⟩
  obtain ⟨T4, h4, X4, e4, W4, st4⟩ := stD X2 hx hZ e2 Ar3 (j := (23 : Int32)) in3 (g := (mkF m 17 #[vR o0, vI (8 : Int32), vD d2, s_, vI (23 : Int32), u_, u_] [(.double d2), (.int (23 : Int32)), (.ref qc)])) rfl rfl (hb hby d8_17)
  have N4 := Fr.snoc X4 N0 qp
  have K5 : Keep h0 h4 [qc, o0] := (Keep.refl h0 [qc, o0]).wr W4 (Or.inl (by simp))
  have V4 : Arv Z h4 qc qd .double (32 : Int32) (t32 y0 y1 y2 y3 y4 y5 y6 y7 y8 y9 y10 y11 y12 y13 y14 y15 y16 y17 y18 y19 y20 y21 y22 d2 y24 y25 y26 y27 y28 y29 y30 y31) (.double (0 : UInt64)) := Arv.set Ar3 q3 S3 Nn3 Ha3 G3 rfl W4 23 rfl (show (23 : Nat) < 32 by decide)
  have c6 : ∀ t, Steps p.tables e below (T4.setTop (mkF m 24 #[vR o0, vI (8 : Int32), vD d2, s_, vI (11 : Int32), u_, u_] [])) t → Steps p.tables e below (s₁.setTop (entryFrame m #[(.ref o0), (.int (8 : Int32)), (.double d2)] 7)) t := by
    intro t k
    refine c0 t ?_
    show Steps p.tables e below (s₁.setTop (mkF m 0 #[vR o0, vI (8 : Int32), vD d2, s_, u_, u_, u_] [])) _
    refine XS.aloadN X0.here hx rfl (hb hby d8_0) rfl rfl ?_
    refine st1 _ ?_
    show Steps p.tables e below (T1.setTop (mkF m 4 #[vR o0, vI (8 : Int32), vD d2, s_, u_, u_, u_] [(.int (16 : Int32))])) _
    refine XS.iloadN X1.here hx rfl (hb hby d8_4) rfl ?_
    refine Jvm.OwnK.iadd X1.here hx rfl (hb hby d8_5) rfl (v := (24 : Int32)) (by decide) ?_
    refine XS.iconst X1.here hx rfl (hb hby d8_6) ?_
    refine Jvm.OwnK.isub X1.here hx rfl (hb hby d8_7) rfl (v := (23 : Int32)) (by decide) ?_
    refine XS.istore X1.here hx rfl (hb hby d8_8) rfl (l' := #[vR o0, vI (8 : Int32), vD d2, s_, vI (23 : Int32), u_, u_]) rfl ?_
    refine XS.aloadN X1.here hx rfl (hb hby d8_10) rfl rfl ?_
    show Steps p.tables e below (T1.setTop (mkF m 11 #[vR o0, vI (8 : Int32), vD d2, s_, vI (23 : Int32), u_, u_] [(.ref o0)])) _
    refine st2 _ ?_
    show Steps p.tables e below (T2.setTop (mkF m 14 #[vR o0, vI (8 : Int32), vD d2, s_, vI (23 : Int32), u_, u_] [(.ref qc)])) _
    refine XS.iload X2.here hx rfl (hb hby d8_14) rfl ?_
    refine XS.dloadN X2.here hx rfl (hb hby d8_16) rfl ?_
    refine st4 _ ?_
    show Steps p.tables e below (T4.setTop (mkF m 18 #[vR o0, vI (8 : Int32), vD d2, s_, vI (23 : Int32), u_, u_] [])) _
    refine XS.iload X4.here hx rfl (hb hby d8_18) rfl ?_
    refine XS.iconst X4.here hx rfl (hb hby d8_20) ?_
    refine Jvm.OwnK.idiv X4.here hx rfl (hb hby d8_21) rfl (by decide) (v := (11 : Int32)) (by decide) ?_
    refine XS.istore X4.here hx rfl (hb hby d8_22) rfl (l' := #[vR o0, vI (8 : Int32), vD d2, s_, vI (11 : Int32), u_, u_]) rfl ?_
    exact k
  have f8 := (qi.other W4 (Or.inl qe))
  have f9 := (qo.other W4 (Or.inl qe))
  have f10 := (qn.other W4 (Or.inl qe))
  have f11 := (qr.other W4 (Or.inl qe))
  have f12 := (qbS.wr W4)
  obtain ⟨T7, o7q, sq7, rq7, eq7, _, L7, ho7, ⟨qc9, rfl, N7, K7q, Q7_0, Q7_1, Q7_2, Q7_3, Q7_4, Q7_5⟩, hF7⟩ := tl8_n11 l Z a0 hw ws o0 (8 : Int32) d2 qd y0 y1 y2 y3 y4 y5 y6 y7 y8 y9 y10 y11 y12 y13 y14 y15 y16 y17 y18 y19 y20 y21 y22 d2 y24 y25 y26 y27 y28 y29 y30 y31 qj qc qg qdA qfI q7 qct qem qbp qbt qd4 qb1 qbd qd1 qdn h4 n0 (Nat.le_trans Z0 (Keep.of_wr W4).1) V4 qe f8 f9 f10 f11 qp f12 qU qk5 qnR qk6 qip qk7 qiq qgX qir qgY qf8 qgZ qf9 qlX qlY qji qjj qhs qht qgo qgp qgG qhX qhY qj7 qj8 qj9 qmO qmP qmQ qlZ Bd hml0 hZ X4 e4 N4
  have K13 : Keep h0 T7.heap [qc, o0] := Keep.trans K5 K7q (allS (Or.inl (by simp)) (allS (Or.inl (by simp)) all0))
  exact ⟨T7, o7q, c6 _ sq7, rq7, eq7, _, L7, ho7, ⟨qc9, rfl, N7, K13, Q7_0, Q7_1, Q7_2, Q7_3, Q7_4, Q7_5⟩, hF7⟩
def Q7_8 (Z : State) (o0 : Addr) (d1 : UInt64) (qd : ClassId) (y0 y1 y2 y3 y4 y5 y6 y7 y8 y9 y10 y11 y12 y13 y14 y15 y16 y17 y18 y19 y20 y21 y22 y23 y24 y25 y26 y27 y28 y29 y30 y31 : UInt64) (qc : Addr) (qg : Int64) (qce : UInt64) (qd6 : Int64) (qu : Int32) (qbf : UInt64) (qdH : Int64) (qC : Int32) (qK : UInt64) (qdd : Int64) (qX : Int32) (qA : UInt64) (qdb : Int64) (qbZ : Int32) (h0 : Heap) (n0 : Nat) (v : Option Value) (h : Heap) (L : List Loc) : Prop := ∃ qQ : Int64, v = none ∧ Fr n0 L ∧ Keep h0 h [o0, qc] ∧ Fld Z h o0 MTc "minima" "[D" (.ref qc) ∧ Fld Z h o0 MTc "visits" "J" (.long qQ) ∧ Fld Z h o0 MTc "count" "I" (.int (8 : Int32)) ∧ Fld Z h o0 MTc "capacity" "I" (.int (16 : Int32)) ∧ Exa Z h o0 MTc ∧ Arv Z h qc qd .double (32 : Int32) (t32 y0 qA qK y3 y4 qbf y6 y7 y8 y9 y10 qce y12 y13 y14 y15 y16 y17 y18 y19 y20 y21 y22 d1 y24 y25 y26 y27 y28 y29 y30 y31) (.double (0 : UInt64))
set_option maxRecDepth 65536 in
set_option maxHeartbeats 40000000 in
theorem rm7_8 (l : Launch) (Z : State) (a0 : Array Value) (hw : ∀ d ∈ tables_1, d.before a0 Z = true) (ws : List Jvm.Cond) (o0 : Addr) (d1 : UInt64) (qd : ClassId) (y0 y1 y2 y3 y4 y5 y6 y7 y8 y9 y10 y11 y12 y13 y14 y15 y16 y17 y18 y19 y20 y21 y22 y23 y24 y25 y26 y27 y28 y29 y30 y31 : UInt64) (qc : Addr) (qg : Int64) (qce : UInt64) (qd6 : Int64) (qu : Int32) (qbf : UInt64) (qdH : Int64) (qC : Int32) (qK : UInt64) (qdd : Int64) (qX : Int32) (qA : UInt64) (qdb : Int64) (qbZ : Int32) (h0 : Heap) (n0 : Nat) (Z0 : n0 ≤ h0.size) (qm : Arv Z h0 qc qd .double (32 : Int32) (t32 y0 y1 y2 y3 y4 y5 y6 y7 y8 y9 y10 y11 y12 y13 y14 y15 y16 y17 y18 y19 y20 y21 y22 y23 y24 y25 y26 y27 y28 y29 y30 y31) (.double (0 : UInt64))) (qe : o0 ≠ qc) (qn : Fld Z h0 o0 MTc "minima" "[D" (.ref qc)) (qr : Fld Z h0 o0 MTc "visits" "J" (.long qg)) (qp : n0 ≤ qc) (qo : Fld Z h0 o0 MTc "count" "I" (.int (7 : Int32))) (qi : Fld Z h0 o0 MTc "capacity" "I" (.int (16 : Int32))) (qbS : Exa Z h0 o0 MTc) (qU : n0 ≤ o0) (qhZ : mnf y22 d1 = qce) (qka : qg + (1 : Int64) = qd6) (qh0 : cmpf qce y11 = qu) (qgH : mnf y10 qce = qbf) (qh1 : qd6 + (1 : Int64) = qdH) (qgI : cmpf qbf y5 = qC) (qfJ : mnf y4 qbf = qK) (qgJ : qdH + (1 : Int64) = qdd) (qfK : cmpf qK y2 = qX) (qe4 : mnf qK y3 = qA) (qfL : qdd + (1 : Int64) = qdb) (qe5 : cmpf qA y1 = qbZ) (qis : TV y22) (qit : TV d1) (qg0 : (¬ qu = (0 : Int32)) → TV y10) (qg1 : (¬ qu = (0 : Int32)) → TV qce) (qga : (¬ qu = (0 : Int32)) → (¬ qC = (0 : Int32)) → TV y4) (qgb : (¬ qu = (0 : Int32)) → (¬ qC = (0 : Int32)) → TV qbf) (qfh : (¬ qu = (0 : Int32)) → (¬ qC = (0 : Int32)) → (¬ qX = (0 : Int32)) → TV qK) (qfi : (¬ qu = (0 : Int32)) → (¬ qC = (0 : Int32)) → (¬ qX = (0 : Int32)) → TV y3) (qft : (¬ qu = (0 : Int32)) → (¬ qC = (0 : Int32)) → (¬ qX = (0 : Int32)) → (qbZ = (0 : Int32)) → y1 = qA) (qgq : (¬ qu = (0 : Int32)) → (¬ qC = (0 : Int32)) → (qX = (0 : Int32)) → y1 = qA) (qgr : (¬ qu = (0 : Int32)) → (¬ qC = (0 : Int32)) → (qX = (0 : Int32)) → y2 = qK) (qhu : (¬ qu = (0 : Int32)) → (qC = (0 : Int32)) → y1 = qA) (qhv : (¬ qu = (0 : Int32)) → (qC = (0 : Int32)) → y2 = qK) (qhw : (¬ qu = (0 : Int32)) → (qC = (0 : Int32)) → y5 = qbf) (qjk : (qu = (0 : Int32)) → y1 = qA) (qjl : (qu = (0 : Int32)) → y2 = qK) (qjm : (qu = (0 : Int32)) → y5 = qbf) (qiu : (qu = (0 : Int32)) → y11 = qce) :
    MetFree l (⟨MTc, "add", "(D)V"⟩ : MethodName) (head1 (Jvm.Cond.code (⟨MTc, "add", "(D)V"⟩ : MethodName) prog_28_method_2_code 3 none :: ws) ({ frames := 4, cells := 0, slots := 0, locals := 108 } : Room)) (fun a U => a = #[(.ref o0), (.double d1)] ∧ Z.Warmed39 U.vm ∧ U.heap = h0) (fun _ _ _ _ _ => True) (fun _ U o U' => ∃ v L, o = .returned v ∧ Q7_8 Z o0 d1 qd y0 y1 y2 y3 y4 y5 y6 y7 y8 y9 y10 y11 y12 y13 y14 y15 y16 y17 y18 y19 y20 y21 y22 y23 y24 y25 y26 y27 y28 y29 y30 y31 qc qg qce qd6 qu qbf qdH qC qK qdd qX qA qdb qbZ h0 n0 v U'.heap L ∧ FrameEnd U o U' L ({ frames := 4, cells := 0, slots := 0, locals := 108 } : Room).cells ({ frames := 4, cells := 0, slots := 0, locals := 108 } : Room).slots) := by
  refine MetFree.of_bodySF (plainFor_of_name pn_1) hisR ?_
  intro p e s m args below meth c s₁ Bd hml0 hP hK
  obtain ⟨rfl, hZ, hh⟩ := hP
  have hx := Bd.exec
  have hby := Bd.bytes
  have hml : c.maxLocals = 3 := hml0
  have hown : s.vm.findClass MTc = some m.cls := findClass_of_methodNamed Bd.named
  have hnm := (name_of_methodNamed Bd.named Bd.method).1
  have X0 : Stand p l e ({ frames := 4, cells := 0, slots := 0, locals := 108 } : Room) s m #[(.ref o0), (.double d1)] below meth c s₁ [] 0 0 := Stand.of_body Bd
  have e0 : s₁.heap = h0 := by rw [← hh, Bd.state]; rfl
  have N0 := Fr.nil n0
  have c0 : ∀ t, Steps p.tables e below (s₁.setTop (mkF m 0 #[vR o0, vD d1, s_] [])) t → Steps p.tables e below (s₁.setTop (entryFrame m #[(.ref o0), (.double d1)] 3)) t := fun t k => castTop (ef_rm7_8 m o0 d1) k
  obtain ⟨T1, X1, e1, st1⟩ := getF X0 hx hZ hown (host := "") (Or.inl (hwi hw 37 rfl)) Via.refl e0 qo (g := (mkF m 1 #[vR o0, vD d1, s_] [(.ref o0)])) rfl rfl (hb hby d7_1)
  obtain ⟨T2, X2, e2, st2⟩ := getF X1 hx hZ hown (host := "") (Or.inl (hwi hw 21 rfl)) Via.refl e1 qi (g := (mkF m 5 #[vR o0, vD d1, s_] [(.ref o0), (.int (7 : Int32))])) rfl rfl (hb hby d7_5)
  obtain ⟨T3, X3, e3, st3⟩ := getF X2 hx hZ hown (host := "") (Or.inl (hwi hw 37 rfl)) Via.refl e2 qo (g := (mkF m 17 #[vR o0, vD d1, s_] [(.ref o0), (.ref o0)])) rfl rfl (hb hby d7_17)
  obtain ⟨T4, h4, X4, e4, W4, st4⟩ := putF X3 hx hZ hown (host := "") (Or.inl (hwi hw 37 rfl)) Via.refl e3 qo qbS (Or.inl (hwi hw 38 rfl)) (hwi hw 3 rfl) (ty := .int) (by decide) rfl rfl (g := (mkF m 22 #[vR o0, vD d1, s_] [(.int (8 : Int32)), (.ref o0)])) rfl rfl (hb hby d7_22)
  have N4 := Fr.snoc X4 N0 qU
  have K5 : Keep h0 h4 [o0, qc] := (Keep.refl h0 [o0, qc]).wr W4 (Or.inl (by simp))
  have F4w := qo.same W4
  obtain ⟨T6, X6, e6, st6⟩ := getF X4 hx hZ hown (host := "") (Or.inl (hwi hw 37 rfl)) Via.refl e4 F4w (g := (mkF m 27 #[vR o0, vD d1, s_] [(.ref o0), (.ref o0)])) rfl rfl (hb hby d7_27)
  have f7 := (qm.other W4 (Ne.symm qe))
  have f8 := (qi.other W4 (Or.inr (slot_ne (Or.inl (hwi hw 22 rfl)) (Or.inl (hwi hw 38 rfl)) (by decide) (t := .int) (t' := .int) (by decide) (by decide))))
  have f9 := (qn.other W4 (Or.inr (slot_ne (Or.inl (hwi hw 20 rfl)) (Or.inl (hwi hw 38 rfl)) (by decide) (t := (.array .double)) (t' := .int) (by decide) (by decide))))
  have f10 := (qr.other W4 (Or.inr (slot_ne (Or.inl (hwi hw 52 rfl)) (Or.inl (hwi hw 38 rfl)) (by decide) (t := .long) (t' := .int) (by decide) (by decide))))
  have f11 := (qbS.wr W4)
  obtain ⟨cq12, kq12, q12a, q12b, q12c⟩ := isOf hZ e6 f11
  obtain ⟨_, _, ⟨T12, L12, k12, n12⟩, -, X12, ⟨Lc12, hQ12, ql12, qy12, qz12⟩, st12⟩ := X6.virtualBack hx (y := (⟨MTc, "set", "(ID)V"⟩ : MethodName)) (z := (⟨MTc, "set", "(ID)V"⟩ : MethodName)) hown (mvT hZ (hwi hw 39 rfl)) (mvT hZ (hwi hw 40 rfl)) (notFace_of_selects (args := #[]) (mvT hZ (hwi hw 42 rfl))) (mvT hZ (hwi hw 42 rfl)) (mvT hZ (hwi hw 41 rfl)) (by decide) (backOf (W := 0) (rm8_8 l Z a0 hw [] o0 d1 qd y0 y1 y2 y3 y4 y5 y6 y7 y8 y9 y10 y11 y12 y13 y14 y15 y16 y17 y18 y19 y20 y21 y22 y23 y24 y25 y26 y27 y28 y29 y30 y31 (8 : Int32) qc qg qce qd6 qu qbf qdH qC qK qdd qX qA qdb qbZ h4 n0 (Nat.le_trans Z0 (Keep.of_wr W4).1) f7 qe f8 F4w f9 f10 qp f11 qU qhZ qka qh0 qgH qh1 qgI qfJ qgJ qfK qe4 qfL qe5 qis qit qg0 qg1 qga qgb qfh qfi qft qgq qgr qhu qhv qhw qjk qjl qjm qiu) hZ (hwi hw 43 rfl) (hwi hw 4 rfl) (by decide) (by decide)) q12a q12c (g := (mkF m 31 #[vR o0, vD d1, s_] [(.double d1), (.int (8 : Int32)), (.ref o0)])) rfl (by rw [hml]; rfl) (Steps.refl _) (argsL := [(.int (8 : Int32)), (.double d1)]) (rest := []) (lenOf pd_6 rfl) rfl (by show 2 * 0 + _ ≤ _; exact Nat.le_of_eq rfl) (hb hby d7_31) (fun _ _ => ⟨rfl, e6, (by decide : 0 + 0 ≤ _), (by decide : 0 + 0 ≤ _)⟩)
  dsimp only [Pt.U, Pt.locs, Pt.cells, Pt.slots] at X12 ql12 qy12 qz12 st12 hQ12
  subst ql12 qy12 qz12
  obtain ⟨qQ, rfl, N12q, K12q, Q12_0, Q12_1, Q12_2, Q12_3, Q12_4, Q12_5⟩ := hQ12
  have N12 := Fr.app N4 N12q
  have K13 : Keep h0 T12.heap [o0, qc] := Keep.trans K5 K12q (allS (Or.inl (by simp)) (allS (Or.inl (by simp)) all0))
  have c14 : ∀ t, Steps p.tables e below (T12.setTop (mkF m 34 #[vR o0, vD d1, s_] [])) t → Steps p.tables e below (s₁.setTop (entryFrame m #[(.ref o0), (.double d1)] 3)) t := by
    intro t k
    refine c0 t ?_
    show Steps p.tables e below (s₁.setTop (mkF m 0 #[vR o0, vD d1, s_] [])) _
    refine XS.aloadN X0.here hx rfl (hb hby d7_0) rfl rfl ?_
    refine st1 _ ?_
    show Steps p.tables e below (T1.setTop (mkF m 4 #[vR o0, vD d1, s_] [(.int (7 : Int32))])) _
    refine XS.aloadN X1.here hx rfl (hb hby d7_4) rfl rfl ?_
    refine st2 _ ?_
    show Steps p.tables e below (T2.setTop (mkF m 8 #[vR o0, vD d1, s_] [(.int (16 : Int32)), (.int (7 : Int32))])) _
    refine XS.icmpYes X2.here hx rfl (pc0 := 8) (pc' := 15) rfl (hb hby d7_8) rfl (Jvm.Free.XT.ii_ne_t (by decide)) (by decide) (by decide) ?_
    refine XS.aloadN X2.here hx rfl (hb hby d7_15) rfl rfl ?_
    refine XS.dup X2.here hx rfl (hb hby d7_16) rfl rfl ?_
    refine st3 _ ?_
    show Steps p.tables e below (T3.setTop (mkF m 20 #[vR o0, vD d1, s_] [(.int (7 : Int32)), (.ref o0)])) _
    refine XS.iconst X3.here hx rfl (hb hby d7_20) ?_
    refine Jvm.OwnK.iadd X3.here hx rfl (hb hby d7_21) rfl (v := (8 : Int32)) (by decide) ?_
    refine st4 _ ?_
    show Steps p.tables e below (T4.setTop (mkF m 25 #[vR o0, vD d1, s_] [])) _
    refine XS.aloadN X4.here hx rfl (hb hby d7_25) rfl rfl ?_
    refine XS.aloadN X4.here hx rfl (hb hby d7_26) rfl rfl ?_
    refine st6 _ ?_
    show Steps p.tables e below (T6.setTop (mkF m 30 #[vR o0, vD d1, s_] [(.int (8 : Int32)), (.ref o0)])) _
    refine XS.dloadN X6.here hx rfl (hb hby d7_30) rfl ?_
    refine st12.trans ?_
    exact k
  obtain ⟨fs, hr, hrun, hended, hW, hsame⟩ := X12.leave (v := none) (fun _ => rfl)
  refine ⟨_, _, c14 _ ?_, hrun, hended, _, _, rfl, ?_, ⟨_, rfl⟩, hW, hsame.mono (by decide) (by decide)⟩
  · show Steps p.tables e below (T12.setTop (mkF m 34 #[vR o0, vD d1, s_] [])) _
    exact X12.returnOut hx Bd.returns (hb hby d7_34) hr
  · show Q7_8 Z o0 d1 qd y0 y1 y2 y3 y4 y5 y6 y7 y8 y9 y10 y11 y12 y13 y14 y15 y16 y17 y18 y19 y20 y21 y22 y23 y24 y25 y26 y27 y28 y29 y30 y31 qc qg qce qd6 qu qbf qdH qC qK qdd qX qA qdb qbZ h0 n0 _ T12.heap _
    exact ⟨qQ, rfl, N12, K13, Q12_3, Q12_4, Q12_2, Q12_1, Q12_5, Q12_0⟩
def Q5 (Z : State) (o0 : Addr) (d1 : UInt64) (qd : ClassId) (y0 y1 y2 y3 y4 y5 y6 y7 y8 y9 y10 y11 y12 y13 y14 y15 y16 y17 y18 y19 y20 y21 y22 y23 y24 y25 y26 y27 y28 y29 y30 y31 : UInt64) (qc : Addr) (qg : Int64) (z7 z32t : Int32) (z54t : Int64) (z32_2t : Int32) (z54_2tt : Int64) (z32_3tt : Int32) (z54_3ttt : Int64) (z32_4ttt : Int32) (z54_4tttt z54_4tttf z54_3ttf : Int64) (z32_4ttf : Int32) (z54_4ttft z54_4ttff z54_2tf : Int64) (z32_3tf : Int32) (z54_3tft : Int64) (z32_4tft : Int32) (z54_4tftt z54_4tftf z54_3tff : Int64) (z32_4tff : Int32) (z54_4tfft z54_4tfff : Int64) (rv : Int32) (h0 : Heap) (n0 : Nat) (v : Option Value) (h : Heap) (L : List Loc) : Prop := ∃ vx_visits_o0 : Int64, v = some (.int rv) ∧ Fr n0 L ∧ Keep h0 h [o0] ∧ Fld Z h o0 MTc "minima" "[D" (.ref qc) ∧ Fld Z h o0 MTc "capacity" "I" (.int (16 : Int32)) ∧ Fld Z h o0 MTc "visits" "J" (.long vx_visits_o0) ∧ Exa Z h o0 MTc
set_option maxRecDepth 65536 in
set_option maxHeartbeats 40000000 in
theorem rm5 (l : Launch) (Z : State) (a0 : Array Value) (hw : ∀ d ∈ tables_1, d.before a0 Z = true) (ws : List Jvm.Cond) (o0 : Addr) (d1 : UInt64) (qd : ClassId) (y0 y1 y2 y3 y4 y5 y6 y7 y8 y9 y10 y11 y12 y13 y14 y15 y16 y17 y18 y19 y20 y21 y22 y23 y24 y25 y26 y27 y28 y29 y30 y31 : UInt64) (qc : Addr) (qg : Int64) (z7 z32t : Int32) (z54t : Int64) (z32_2t : Int32) (z54_2tt : Int64) (z32_3tt : Int32) (z54_3ttt : Int64) (z32_4ttt : Int32) (z54_4tttt z54_4tttf z54_3ttf : Int64) (z32_4ttf : Int32) (z54_4ttft z54_4ttff z54_2tf : Int64) (z32_3tf : Int32) (z54_3tft : Int64) (z32_4tft : Int32) (z54_4tftt z54_4tftf z54_3tff : Int64) (z32_4tff : Int32) (z54_4tfft z54_4tfff : Int64) (rv : Int32) (h0 : Heap) (n0 : Nat) (Z0 : n0 ≤ h0.size) (qm : Arv Z h0 qc qd .double (32 : Int32) (t32 y0 y1 y2 y3 y4 y5 y6 y7 y8 y9 y10 y11 y12 y13 y14 y15 y16 y17 y18 y19 y20 y21 y22 y23 y24 y25 y26 y27 y28 y29 y30 y31) (.double (0 : UInt64))) (qe : o0 ≠ qc) (qn : Fld Z h0 o0 MTc "minima" "[D" (.ref qc)) (qi : Fld Z h0 o0 MTc "capacity" "I" (.int (16 : Int32))) (qr : Fld Z h0 o0 MTc "visits" "J" (.long qg)) (qbS : Exa Z h0 o0 MTc) (qU : n0 ≤ o0) (hz7 : cmpValue (FP.dcmp y1 d1) .g = z7) (hz32t : cmpValue (FP.dcmp y2 d1) .g = z32t) (hz54t : qg + (1 : Int64) = z54t) (hz32_2t : cmpValue (FP.dcmp y4 d1) .g = z32_2t) (hz54_2tt : z54t + (1 : Int64) = z54_2tt) (hz32_3tt : cmpValue (FP.dcmp y10 d1) .g = z32_3tt) (hz54_3ttt : z54_2tt + (1 : Int64) = z54_3ttt) (hz32_4ttt : cmpValue (FP.dcmp y22 d1) .g = z32_4ttt) (hz54_4tttt : z54_3ttt + (1 : Int64) = z54_4tttt) (hz54_4tttf : z54_3ttt + (1 : Int64) = z54_4tttf) (hz54_3ttf : z54_2tt + (1 : Int64) = z54_3ttf) (hz32_4ttf : cmpValue (FP.dcmp y20 d1) .g = z32_4ttf) (hz54_4ttft : z54_3ttf + (1 : Int64) = z54_4ttft) (hz54_4ttff : z54_3ttf + (1 : Int64) = z54_4ttff) (hz54_2tf : z54t + (1 : Int64) = z54_2tf) (hz32_3tf : cmpValue (FP.dcmp y8 d1) .g = z32_3tf) (hz54_3tft : z54_2tf + (1 : Int64) = z54_3tft) (hz32_4tft : cmpValue (FP.dcmp y18 d1) .g = z32_4tft) (hz54_4tftt : z54_3tft + (1 : Int64) = z54_4tftt) (hz54_4tftf : z54_3tft + (1 : Int64) = z54_4tftf) (hz54_3tff : z54_2tf + (1 : Int64) = z54_3tff) (hz32_4tff : cmpValue (FP.dcmp y16 d1) .g = z32_4tff) (hz54_4tfft : z54_3tff + (1 : Int64) = z54_4tfft) (hz54_4tfff : z54_3tff + (1 : Int64) = z54_4tfff) (hrv : (if (0 : Int32) < z7 then (0 : Int32) else (if (0 : Int32) < z32_2t then (if (0 : Int32) < z32_3tt then (if (0 : Int32) < z32_4ttt then (8 : Int32) else (7 : Int32)) else (if (0 : Int32) < z32_4ttf then (6 : Int32) else (5 : Int32))) else (if (0 : Int32) < z32_3tf then (if (0 : Int32) < z32_4tft then (4 : Int32) else (3 : Int32)) else (if (0 : Int32) < z32_4tff then (2 : Int32) else (1 : Int32))))) = rv) (br33t : (¬ (0 : Int32) < z7) → ¬ (0 : Int32) < z32t) :
    MetFree l (⟨MTc, "firstBy", "(D)I"⟩ : MethodName) (head1 (Jvm.Cond.code (⟨MTc, "firstBy", "(D)I"⟩ : MethodName) prog_28_method_6_code 4 (some .int) :: ws) ({ frames := 0, cells := 0, slots := 0, locals := 0 } : Room)) (fun a U => a = #[(.ref o0), (.double d1)] ∧ Z.Warmed39 U.vm ∧ U.heap = h0) (fun _ _ _ _ _ => True) (fun _ U o U' => ∃ v L, o = .returned v ∧ Q5 Z o0 d1 qd y0 y1 y2 y3 y4 y5 y6 y7 y8 y9 y10 y11 y12 y13 y14 y15 y16 y17 y18 y19 y20 y21 y22 y23 y24 y25 y26 y27 y28 y29 y30 y31 qc qg z7 z32t z54t z32_2t z54_2tt z32_3tt z54_3ttt z32_4ttt z54_4tttt z54_4tttf z54_3ttf z32_4ttf z54_4ttft z54_4ttff z54_2tf z32_3tf z54_3tft z32_4tft z54_4tftt z54_4tftf z54_3tff z32_4tff z54_4tfft z54_4tfff rv h0 n0 v U'.heap L ∧ FrameEnd U o U' L ({ frames := 0, cells := 0, slots := 0, locals := 0 } : Room).cells ({ frames := 0, cells := 0, slots := 0, locals := 0 } : Room).slots) := by
  refine MetFree.of_bodySF (plainFor_of_name pn_1) hisR ?_
  intro p e s m args below meth c s₁ Bd hml0 hP hK
  obtain ⟨rfl, hZ, hh⟩ := hP
  have hx := Bd.exec
  have hby := Bd.bytes
  have hml : c.maxLocals = 4 := hml0
  have hown : s.vm.findClass MTc = some m.cls := findClass_of_methodNamed Bd.named
  have hnm := (name_of_methodNamed Bd.named Bd.method).1
  have X0 : Stand p l e ({ frames := 0, cells := 0, slots := 0, locals := 0 } : Room) s m #[(.ref o0), (.double d1)] below meth c s₁ [] 0 0 := Stand.of_body Bd
  have e0 : s₁.heap = h0 := by rw [← hh, Bd.state]; rfl
  have N0 := Fr.nil n0
  have c0 : ∀ t, Steps p.tables e below (s₁.setTop (mkF m 0 #[vR o0, vD d1, s_, u_] [])) t → Steps p.tables e below (s₁.setTop (entryFrame m #[(.ref o0), (.double d1)] 4)) t := fun t k => castTop (ef_rm5 m o0 d1) k
  obtain ⟨T1, X1, e1, st1⟩ := getF X0 hx hZ hown (host := "") (Or.inl (hwi hw 19 rfl)) Via.refl e0 qn (g := (mkF m 1 #[vR o0, vD d1, s_, u_] [(.ref o0)])) rfl rfl (hb hby d5_1)
  obtain ⟨cl2, Ar2, -, S2, -, Ha2, -⟩ := id qm
  have in2 : ¬ ((1 : Int32) < 0 ∨ cl2.slots.size ≤ ((1 : Int32)).toNatClampNeg) := inb_of S2 ⟨by decide, by decide⟩
  have c3 : ∀ t, Steps p.tables e below (T1.setTop (mkF m 8 #[vR o0, vD d1, s_, u_] [(.int z7)])) t → Steps p.tables e below (s₁.setTop (entryFrame m #[(.ref o0), (.double d1)] 4)) t := by
    intro t k
    refine c0 t ?_
    show Steps p.tables e below (s₁.setTop (mkF m 0 #[vR o0, vD d1, s_, u_] [])) _
    refine XS.aloadN X0.here hx rfl (hb hby d5_0) rfl rfl ?_
    refine st1 _ ?_
    show Steps p.tables e below (T1.setTop (mkF m 4 #[vR o0, vD d1, s_, u_] [(.ref qc)])) _
    refine XS.iconst X1.here hx rfl (hb hby d5_4) ?_
    refine X1.daload hx (j := (1 : Int32)) (v := (.double y1)) (by rw [e1]; exact Ar2.1) (State.isArrayOf_alike hZ.alike Ar2.2.1) Ar2.2.2 in2 (Has.at Ha2 in2 rfl) (g := (mkF m 5 #[vR o0, vD d1, s_, u_] [(.int (1 : Int32)), (.ref qc)])) rfl rfl (hb hby d5_5) _ ?_
    refine XS.dloadN X1.here hx rfl (hb hby d5_6) rfl ?_
    refine XS.dcmpS X1.here hx rfl (hb hby d5_7) rfl hz7 ?_
    exact k
  by_cases hb8 : (0 : Int32) < z7
  · skip
    have c4 : ∀ t, Steps p.tables e below (T1.setTop (mkF m 12 #[vR o0, vD d1, s_, u_] [(.int (0 : Int32))])) t → Steps p.tables e below (s₁.setTop (entryFrame m #[(.ref o0), (.double d1)] 4)) t := by
      intro t k
      refine c3 t ?_
      show Steps p.tables e below (T1.setTop (mkF m 8 #[vR o0, vD d1, s_, u_] [(.int z7)])) _
      refine XS.ifNo X1.here hx rfl (hb hby d5_8) rfl (Jvm.Free.XT.i0_le_f hb8) ?_
      refine XS.iconst X1.here hx rfl (hb hby d5_11) ?_
      exact k
    obtain ⟨fs, hr, hrun, hended, hW, hsame⟩ := X1.leave (v := some (.int (0 : Int32))) (fun h => by rw [Bd.returns] at h; cases h)
    refine ⟨_, _, c4 _ ?_, hrun, hended, _, _, rfl, ?_, ⟨_, rfl⟩, hW, hsame.mono (by decide) (by decide)⟩
    · show Steps p.tables e below (T1.setTop (mkF m 12 #[vR o0, vD d1, s_, u_] [(.int (0 : Int32))])) _
      exact retOut X1 hx Bd.returns rfl (Or.inl ⟨rfl, by simp, _, rfl⟩) (hb hby d5_12) hr
    · show Q5 Z o0 d1 qd y0 y1 y2 y3 y4 y5 y6 y7 y8 y9 y10 y11 y12 y13 y14 y15 y16 y17 y18 y19 y20 y21 y22 y23 y24 y25 y26 y27 y28 y29 y30 y31 qc qg z7 z32t z54t z32_2t z54_2tt z32_3tt z54_3ttt z32_4ttt z54_4tttt z54_4tttf z54_3ttf z32_4ttf z54_4ttft z54_4ttff z54_2tf z32_3tf z54_3tft z32_4tft z54_4tftt z54_4tftf z54_3tff z32_4tff z54_4tfft z54_4tfff rv h0 n0 _ T1.heap _
      rw [e1]
      exact ⟨qg, (congrArg (fun z => some (Value.int z)) (show (0 : Int32) = rv by rw [← hrv]; simp only [if_pos hb8])), N0, (Keep.refl h0 [o0]), qn, qi, qr, qbS⟩
  · skip
    obtain ⟨T5, X5, e5, st5⟩ := getF X1 hx hZ hown (host := "") (Or.inl (hwi hw 21 rfl)) Via.refl e1 qi (g := (mkF m 17 #[vR o0, vD d1, s_, vI (1 : Int32)] [(.ref o0), (.int (1 : Int32))])) rfl rfl (hb hby d5_17)
    obtain ⟨T6, X6, e6, st6⟩ := getF X5 hx hZ hown (host := "") (Or.inl (hwi hw 19 rfl)) Via.refl e5 qn (g := (mkF m 24 #[vR o0, vD d1, s_, vI (1 : Int32)] [(.ref o0)])) rfl rfl (hb hby d5_24)
    obtain ⟨cl7, Ar7, -, S7, -, Ha7, -⟩ := id qm
    have in7 : ¬ ((2 : Int32) < 0 ∨ cl7.slots.size ≤ ((2 : Int32)).toNatClampNeg) := inb_of S7 ⟨by decide, by decide⟩
    obtain ⟨T8, X8, e8, st8⟩ := getF X6 hx hZ hown (host := "") (Or.inl (hwi hw 51 rfl)) Via.refl e6 qr (g := (mkF m 50 #[vR o0, vD d1, s_, vI (2 : Int32)] [(.ref o0), (.ref o0)])) rfl rfl (hb hby d5_50)
    obtain ⟨T9, h9, X9, e9, W9, st9⟩ := putF X8 hx hZ hown (host := "") (Or.inl (hwi hw 51 rfl)) Via.refl e8 qr qbS (Or.inl (hwi hw 52 rfl)) (hwi hw 3 rfl) (ty := .long) (by decide) rfl rfl (g := (mkF m 55 #[vR o0, vD d1, s_, vI (2 : Int32)] [(.long z54t), (.ref o0)])) rfl rfl (hb hby d5_55)
    have N9 := Fr.snoc X9 N0 qU
    have K10 : Keep h0 h9 [o0] := (Keep.refl h0 [o0]).wr W9 (Or.inl (by simp))
    have F9w := qr.same W9
    have f11 := (qi.other W9 (Or.inr (slot_ne (Or.inl (hwi hw 22 rfl)) (Or.inl (hwi hw 52 rfl)) (by decide) (t := .int) (t' := .long) (by decide) (by decide))))
    obtain ⟨T12, X12, e12, st12⟩ := getF X9 hx hZ hown (host := "") (Or.inl (hwi hw 21 rfl)) Via.refl e9 f11 (g := (mkF m 17 #[vR o0, vD d1, s_, vI (2 : Int32)] [(.ref o0), (.int (2 : Int32))])) rfl rfl (hb hby d5_17)
    have f13 := (qn.other W9 (Or.inr (slot_ne (Or.inl (hwi hw 20 rfl)) (Or.inl (hwi hw 52 rfl)) (by decide) (t := (.array .double)) (t' := .long) (by decide) (by decide))))
    obtain ⟨T14, X14, e14, st14⟩ := getF X12 hx hZ hown (host := "") (Or.inl (hwi hw 19 rfl)) Via.refl e12 f13 (g := (mkF m 24 #[vR o0, vD d1, s_, vI (2 : Int32)] [(.ref o0)])) rfl rfl (hb hby d5_24)
    have f15 := (qm.other W9 (Ne.symm qe))
    obtain ⟨cl16, Ar16, -, S16, -, Ha16, -⟩ := id f15
    have in16 : ¬ ((4 : Int32) < 0 ∨ cl16.slots.size ≤ ((4 : Int32)).toNatClampNeg) := inb_of S16 ⟨by decide, by decide⟩
    have c17 : ∀ t, Steps p.tables e below (T14.setTop (mkF m 33 #[vR o0, vD d1, s_, vI (2 : Int32)] [(.int z32_2t)])) t → Steps p.tables e below (s₁.setTop (entryFrame m #[(.ref o0), (.double d1)] 4)) t := by
      intro t k
      refine c3 t ?_
      show Steps p.tables e below (T1.setTop (mkF m 8 #[vR o0, vD d1, s_, u_] [(.int z7)])) _
      refine XS.ifYes X1.here hx rfl (pc0 := 8) (pc' := 13) rfl (hb hby d5_8) rfl (Jvm.Free.XT.i0_le_t hb8) (by decide) (by decide) ?_
      refine XS.iconst X1.here hx rfl (hb hby d5_13) ?_
      refine XS.istoreN X1.here hx rfl (hb hby d5_14) rfl (l' := #[vR o0, vD d1, s_, vI (1 : Int32)]) rfl ?_
      refine XS.iloadN X1.here hx rfl (hb hby d5_15) rfl ?_
      refine XS.aloadN X1.here hx rfl (hb hby d5_16) rfl rfl ?_
      refine st5 _ ?_
      show Steps p.tables e below (T5.setTop (mkF m 20 #[vR o0, vD d1, s_, vI (1 : Int32)] [(.int (16 : Int32)), (.int (1 : Int32))])) _
      refine XS.icmpNo X5.here hx rfl (hb hby d5_20) rfl (Jvm.Free.XT.ii_ge_f (by decide)) ?_
      refine XS.aloadN X5.here hx rfl (hb hby d5_23) rfl rfl ?_
      refine st6 _ ?_
      show Steps p.tables e below (T6.setTop (mkF m 27 #[vR o0, vD d1, s_, vI (1 : Int32)] [(.ref qc)])) _
      refine XS.iconst X6.here hx rfl (hb hby d5_27) ?_
      refine XS.iloadN X6.here hx rfl (hb hby d5_28) rfl ?_
      refine Jvm.OwnK.imul X6.here hx rfl (hb hby d5_29) rfl (v := (2 : Int32)) (by decide) ?_
      refine X6.daload hx (j := (2 : Int32)) (v := (.double y2)) (by rw [e6]; exact Ar7.1) (State.isArrayOf_alike hZ.alike Ar7.2.1) Ar7.2.2 in7 (Has.at Ha7 in7 rfl) (g := (mkF m 30 #[vR o0, vD d1, s_, vI (1 : Int32)] [(.int (2 : Int32)), (.ref qc)])) rfl rfl (hb hby d5_30) _ ?_
      refine XS.dloadN X6.here hx rfl (hb hby d5_31) rfl ?_
      refine XS.dcmpS X6.here hx rfl (hb hby d5_32) rfl hz32t ?_
      show Steps p.tables e below (T6.setTop (mkF m 33 #[vR o0, vD d1, s_, vI (1 : Int32)] [(.int z32t)])) _
      refine XS.ifNo X6.here hx rfl (hb hby d5_33) rfl (Jvm.Free.XT.i0_gt_f (br33t hb8)) ?_
      refine XS.iconst X6.here hx rfl (hb hby d5_36) ?_
      refine XS.iloadN X6.here hx rfl (hb hby d5_37) rfl ?_
      refine Jvm.OwnK.imul X6.here hx rfl (hb hby d5_38) rfl (v := (2 : Int32)) (by decide) ?_
      refine XS.goto X6.here hx rfl (pc0 := 39) (pc' := 47) rfl (hb hby d5_39) (by decide) (by decide) ?_
      refine XS.istoreN X6.here hx rfl (hb hby d5_47) rfl (l' := #[vR o0, vD d1, s_, vI (2 : Int32)]) rfl ?_
      show Steps p.tables e below (T6.setTop (mkF m 48 #[vR o0, vD d1, s_, vI (2 : Int32)] [])) _
      refine XS.aloadN X6.here hx rfl (hb hby d5_48) rfl rfl ?_
      refine XS.dup X6.here hx rfl (hb hby d5_49) rfl rfl ?_
      refine st8 _ ?_
      show Steps p.tables e below (T8.setTop (mkF m 53 #[vR o0, vD d1, s_, vI (2 : Int32)] [(.long qg), (.ref o0)])) _
      refine XS.lconst X8.here hx rfl (hb hby d5_53) ?_
      refine Jvm.OwnK.ladd X8.here hx rfl (hb hby d5_54) rfl hz54t ?_
      refine st9 _ ?_
      show Steps p.tables e below (T9.setTop (mkF m 58 #[vR o0, vD d1, s_, vI (2 : Int32)] [])) _
      refine XS.goto X9.here hx rfl (pc0 := 58) (pc' := 15) rfl (hb hby d5_58) (by decide) (by decide) ?_
      refine XS.iloadN X9.here hx rfl (hb hby d5_15) rfl ?_
      refine XS.aloadN X9.here hx rfl (hb hby d5_16) rfl rfl ?_
      refine st12 _ ?_
      show Steps p.tables e below (T12.setTop (mkF m 20 #[vR o0, vD d1, s_, vI (2 : Int32)] [(.int (16 : Int32)), (.int (2 : Int32))])) _
      refine XS.icmpNo X12.here hx rfl (hb hby d5_20) rfl (Jvm.Free.XT.ii_ge_f (by decide)) ?_
      refine XS.aloadN X12.here hx rfl (hb hby d5_23) rfl rfl ?_
      refine st14 _ ?_
      show Steps p.tables e below (T14.setTop (mkF m 27 #[vR o0, vD d1, s_, vI (2 : Int32)] [(.ref qc)])) _
      refine XS.iconst X14.here hx rfl (hb hby d5_27) ?_
      refine XS.iloadN X14.here hx rfl (hb hby d5_28) rfl ?_
      refine Jvm.OwnK.imul X14.here hx rfl (hb hby d5_29) rfl (v := (4 : Int32)) (by decide) ?_
      refine X14.daload hx (j := (4 : Int32)) (v := (.double y4)) (by rw [e14]; exact Ar16.1) (State.isArrayOf_alike hZ.alike Ar16.2.1) Ar16.2.2 in16 (Has.at Ha16 in16 rfl) (g := (mkF m 30 #[vR o0, vD d1, s_, vI (2 : Int32)] [(.int (4 : Int32)), (.ref qc)])) rfl rfl (hb hby d5_30) _ ?_
      refine XS.dloadN X14.here hx rfl (hb hby d5_31) rfl ?_
      refine XS.dcmpS X14.here hx rfl (hb hby d5_32) rfl hz32_2t ?_
      exact k
    by_cases hb33_2t : (0 : Int32) < z32_2t
    · skip
      obtain ⟨T18, X18, e18, st18⟩ := getF X14 hx hZ hown (host := "") (Or.inl (hwi hw 51 rfl)) Via.refl e14 F9w (g := (mkF m 50 #[vR o0, vD d1, s_, vI (5 : Int32)] [(.ref o0), (.ref o0)])) rfl rfl (hb hby d5_50)
      have f19 := (qbS.wr W9)
      obtain ⟨T20, h20, X20, e20, W20, st20⟩ := putF X18 hx hZ hown (host := "") (Or.inl (hwi hw 51 rfl)) Via.refl e18 F9w f19 (Or.inl (hwi hw 52 rfl)) (hwi hw 3 rfl) (ty := .long) (by decide) rfl rfl (g := (mkF m 55 #[vR o0, vD d1, s_, vI (5 : Int32)] [(.long z54_2tt), (.ref o0)])) rfl rfl (hb hby d5_55)
      have N20 := Fr.snoc X20 N9 qU
      have K21 : Keep h0 h20 [o0] := K10.wr W20 (Or.inl (by simp))
      have F20w := F9w.same W20
      have f22 := (f11.other W20 (Or.inr (slot_ne (Or.inl (hwi hw 22 rfl)) (Or.inl (hwi hw 52 rfl)) (by decide) (t := .int) (t' := .long) (by decide) (by decide))))
      obtain ⟨T23, X23, e23, st23⟩ := getF X20 hx hZ hown (host := "") (Or.inl (hwi hw 21 rfl)) Via.refl e20 f22 (g := (mkF m 17 #[vR o0, vD d1, s_, vI (5 : Int32)] [(.ref o0), (.int (5 : Int32))])) rfl rfl (hb hby d5_17)
      have f24 := (f13.other W20 (Or.inr (slot_ne (Or.inl (hwi hw 20 rfl)) (Or.inl (hwi hw 52 rfl)) (by decide) (t := (.array .double)) (t' := .long) (by decide) (by decide))))
      obtain ⟨T25, X25, e25, st25⟩ := getF X23 hx hZ hown (host := "") (Or.inl (hwi hw 19 rfl)) Via.refl e23 f24 (g := (mkF m 24 #[vR o0, vD d1, s_, vI (5 : Int32)] [(.ref o0)])) rfl rfl (hb hby d5_24)
      have f26 := (f15.other W20 (Ne.symm qe))
      obtain ⟨cl27, Ar27, -, S27, -, Ha27, -⟩ := id f26
      have in27 : ¬ ((10 : Int32) < 0 ∨ cl27.slots.size ≤ ((10 : Int32)).toNatClampNeg) := inb_of S27 ⟨by decide, by decide⟩
      have c28 : ∀ t, Steps p.tables e below (T25.setTop (mkF m 33 #[vR o0, vD d1, s_, vI (5 : Int32)] [(.int z32_3tt)])) t → Steps p.tables e below (s₁.setTop (entryFrame m #[(.ref o0), (.double d1)] 4)) t := by
        intro t k
        refine c17 t ?_
        show Steps p.tables e below (T14.setTop (mkF m 33 #[vR o0, vD d1, s_, vI (2 : Int32)] [(.int z32_2t)])) _
        refine XS.ifYes X14.here hx rfl (pc0 := 33) (pc' := 42) rfl (hb hby d5_33) rfl (Jvm.Free.XT.i0_gt_t hb33_2t) (by decide) (by decide) ?_
        refine XS.iconst X14.here hx rfl (hb hby d5_42) ?_
        refine XS.iloadN X14.here hx rfl (hb hby d5_43) rfl ?_
        refine Jvm.OwnK.imul X14.here hx rfl (hb hby d5_44) rfl (v := (4 : Int32)) (by decide) ?_
        refine XS.iconst X14.here hx rfl (hb hby d5_45) ?_
        refine Jvm.OwnK.iadd X14.here hx rfl (hb hby d5_46) rfl (v := (5 : Int32)) (by decide) ?_
        show Steps p.tables e below (T14.setTop (mkF m 47 #[vR o0, vD d1, s_, vI (2 : Int32)] [(.int (5 : Int32))])) _
        refine XS.istoreN X14.here hx rfl (hb hby d5_47) rfl (l' := #[vR o0, vD d1, s_, vI (5 : Int32)]) rfl ?_
        refine XS.aloadN X14.here hx rfl (hb hby d5_48) rfl rfl ?_
        refine XS.dup X14.here hx rfl (hb hby d5_49) rfl rfl ?_
        refine st18 _ ?_
        show Steps p.tables e below (T18.setTop (mkF m 53 #[vR o0, vD d1, s_, vI (5 : Int32)] [(.long z54t), (.ref o0)])) _
        refine XS.lconst X18.here hx rfl (hb hby d5_53) ?_
        refine Jvm.OwnK.ladd X18.here hx rfl (hb hby d5_54) rfl hz54_2tt ?_
        refine st20 _ ?_
        show Steps p.tables e below (T20.setTop (mkF m 58 #[vR o0, vD d1, s_, vI (5 : Int32)] [])) _
        refine XS.goto X20.here hx rfl (pc0 := 58) (pc' := 15) rfl (hb hby d5_58) (by decide) (by decide) ?_
        refine XS.iloadN X20.here hx rfl (hb hby d5_15) rfl ?_
        refine XS.aloadN X20.here hx rfl (hb hby d5_16) rfl rfl ?_
        refine st23 _ ?_
        show Steps p.tables e below (T23.setTop (mkF m 20 #[vR o0, vD d1, s_, vI (5 : Int32)] [(.int (16 : Int32)), (.int (5 : Int32))])) _
        refine XS.icmpNo X23.here hx rfl (hb hby d5_20) rfl (Jvm.Free.XT.ii_ge_f (by decide)) ?_
        refine XS.aloadN X23.here hx rfl (hb hby d5_23) rfl rfl ?_
        refine st25 _ ?_
        show Steps p.tables e below (T25.setTop (mkF m 27 #[vR o0, vD d1, s_, vI (5 : Int32)] [(.ref qc)])) _
        refine XS.iconst X25.here hx rfl (hb hby d5_27) ?_
        refine XS.iloadN X25.here hx rfl (hb hby d5_28) rfl ?_
        refine Jvm.OwnK.imul X25.here hx rfl (hb hby d5_29) rfl (v := (10 : Int32)) (by decide) ?_
        refine X25.daload hx (j := (10 : Int32)) (v := (.double y10)) (by rw [e25]; exact Ar27.1) (State.isArrayOf_alike hZ.alike Ar27.2.1) Ar27.2.2 in27 (Has.at Ha27 in27 rfl) (g := (mkF m 30 #[vR o0, vD d1, s_, vI (5 : Int32)] [(.int (10 : Int32)), (.ref qc)])) rfl rfl (hb hby d5_30) _ ?_
        refine XS.dloadN X25.here hx rfl (hb hby d5_31) rfl ?_
        refine XS.dcmpS X25.here hx rfl (hb hby d5_32) rfl hz32_3tt ?_
        exact k
      by_cases hb33_3tt : (0 : Int32) < z32_3tt
      · skip
        obtain ⟨T29, X29, e29, st29⟩ := getF X25 hx hZ hown (host := "") (Or.inl (hwi hw 51 rfl)) Via.refl e25 F20w (g := (mkF m 50 #[vR o0, vD d1, s_, vI (11 : Int32)] [(.ref o0), (.ref o0)])) rfl rfl (hb hby d5_50)
        have f30 := (f19.wr W20)
        obtain ⟨T31, h31, X31, e31, W31, st31⟩ := putF X29 hx hZ hown (host := "") (Or.inl (hwi hw 51 rfl)) Via.refl e29 F20w f30 (Or.inl (hwi hw 52 rfl)) (hwi hw 3 rfl) (ty := .long) (by decide) rfl rfl (g := (mkF m 55 #[vR o0, vD d1, s_, vI (11 : Int32)] [(.long z54_3ttt), (.ref o0)])) rfl rfl (hb hby d5_55)
        have N31 := Fr.snoc X31 N20 qU
        have K32 : Keep h0 h31 [o0] := K21.wr W31 (Or.inl (by simp))
        have F31w := F20w.same W31
        have f33 := (f22.other W31 (Or.inr (slot_ne (Or.inl (hwi hw 22 rfl)) (Or.inl (hwi hw 52 rfl)) (by decide) (t := .int) (t' := .long) (by decide) (by decide))))
        obtain ⟨T34, X34, e34, st34⟩ := getF X31 hx hZ hown (host := "") (Or.inl (hwi hw 21 rfl)) Via.refl e31 f33 (g := (mkF m 17 #[vR o0, vD d1, s_, vI (11 : Int32)] [(.ref o0), (.int (11 : Int32))])) rfl rfl (hb hby d5_17)
        have f35 := (f24.other W31 (Or.inr (slot_ne (Or.inl (hwi hw 20 rfl)) (Or.inl (hwi hw 52 rfl)) (by decide) (t := (.array .double)) (t' := .long) (by decide) (by decide))))
        obtain ⟨T36, X36, e36, st36⟩ := getF X34 hx hZ hown (host := "") (Or.inl (hwi hw 19 rfl)) Via.refl e34 f35 (g := (mkF m 24 #[vR o0, vD d1, s_, vI (11 : Int32)] [(.ref o0)])) rfl rfl (hb hby d5_24)
        have f37 := (f26.other W31 (Ne.symm qe))
        obtain ⟨cl38, Ar38, -, S38, -, Ha38, -⟩ := id f37
        have in38 : ¬ ((22 : Int32) < 0 ∨ cl38.slots.size ≤ ((22 : Int32)).toNatClampNeg) := inb_of S38 ⟨by decide, by decide⟩
        have c39 : ∀ t, Steps p.tables e below (T36.setTop (mkF m 33 #[vR o0, vD d1, s_, vI (11 : Int32)] [(.int z32_4ttt)])) t → Steps p.tables e below (s₁.setTop (entryFrame m #[(.ref o0), (.double d1)] 4)) t := by
          intro t k
          refine c28 t ?_
          show Steps p.tables e below (T25.setTop (mkF m 33 #[vR o0, vD d1, s_, vI (5 : Int32)] [(.int z32_3tt)])) _
          refine XS.ifYes X25.here hx rfl (pc0 := 33) (pc' := 42) rfl (hb hby d5_33) rfl (Jvm.Free.XT.i0_gt_t hb33_3tt) (by decide) (by decide) ?_
          refine XS.iconst X25.here hx rfl (hb hby d5_42) ?_
          refine XS.iloadN X25.here hx rfl (hb hby d5_43) rfl ?_
          refine Jvm.OwnK.imul X25.here hx rfl (hb hby d5_44) rfl (v := (10 : Int32)) (by decide) ?_
          refine XS.iconst X25.here hx rfl (hb hby d5_45) ?_
          refine Jvm.OwnK.iadd X25.here hx rfl (hb hby d5_46) rfl (v := (11 : Int32)) (by decide) ?_
          show Steps p.tables e below (T25.setTop (mkF m 47 #[vR o0, vD d1, s_, vI (5 : Int32)] [(.int (11 : Int32))])) _
          refine XS.istoreN X25.here hx rfl (hb hby d5_47) rfl (l' := #[vR o0, vD d1, s_, vI (11 : Int32)]) rfl ?_
          refine XS.aloadN X25.here hx rfl (hb hby d5_48) rfl rfl ?_
          refine XS.dup X25.here hx rfl (hb hby d5_49) rfl rfl ?_
          refine st29 _ ?_
          show Steps p.tables e below (T29.setTop (mkF m 53 #[vR o0, vD d1, s_, vI (11 : Int32)] [(.long z54_2tt), (.ref o0)])) _
          refine XS.lconst X29.here hx rfl (hb hby d5_53) ?_
          refine Jvm.OwnK.ladd X29.here hx rfl (hb hby d5_54) rfl hz54_3ttt ?_
          refine st31 _ ?_
          show Steps p.tables e below (T31.setTop (mkF m 58 #[vR o0, vD d1, s_, vI (11 : Int32)] [])) _
          refine XS.goto X31.here hx rfl (pc0 := 58) (pc' := 15) rfl (hb hby d5_58) (by decide) (by decide) ?_
          refine XS.iloadN X31.here hx rfl (hb hby d5_15) rfl ?_
          refine XS.aloadN X31.here hx rfl (hb hby d5_16) rfl rfl ?_
          refine st34 _ ?_
          show Steps p.tables e below (T34.setTop (mkF m 20 #[vR o0, vD d1, s_, vI (11 : Int32)] [(.int (16 : Int32)), (.int (11 : Int32))])) _
          refine XS.icmpNo X34.here hx rfl (hb hby d5_20) rfl (Jvm.Free.XT.ii_ge_f (by decide)) ?_
          refine XS.aloadN X34.here hx rfl (hb hby d5_23) rfl rfl ?_
          refine st36 _ ?_
          show Steps p.tables e below (T36.setTop (mkF m 27 #[vR o0, vD d1, s_, vI (11 : Int32)] [(.ref qc)])) _
          refine XS.iconst X36.here hx rfl (hb hby d5_27) ?_
          refine XS.iloadN X36.here hx rfl (hb hby d5_28) rfl ?_
          refine Jvm.OwnK.imul X36.here hx rfl (hb hby d5_29) rfl (v := (22 : Int32)) (by decide) ?_
          refine X36.daload hx (j := (22 : Int32)) (v := (.double y22)) (by rw [e36]; exact Ar38.1) (State.isArrayOf_alike hZ.alike Ar38.2.1) Ar38.2.2 in38 (Has.at Ha38 in38 rfl) (g := (mkF m 30 #[vR o0, vD d1, s_, vI (11 : Int32)] [(.int (22 : Int32)), (.ref qc)])) rfl rfl (hb hby d5_30) _ ?_
          refine XS.dloadN X36.here hx rfl (hb hby d5_31) rfl ?_
          refine XS.dcmpS X36.here hx rfl (hb hby d5_32) rfl hz32_4ttt ?_
          exact k
        by_cases hb33_4ttt : (0 : Int32) < z32_4ttt
        · skip
          obtain ⟨T40, X40, e40, st40⟩ := getF X36 hx hZ hown (host := "") (Or.inl (hwi hw 51 rfl)) Via.refl e36 F31w (g := (mkF m 50 #[vR o0, vD d1, s_, vI (23 : Int32)] [(.ref o0), (.ref o0)])) rfl rfl (hb hby d5_50)
          have f41 := (f30.wr W31)
          obtain ⟨T42, h42, X42, e42, W42, st42⟩ := putF X40 hx hZ hown (host := "") (Or.inl (hwi hw 51 rfl)) Via.refl e40 F31w f41 (Or.inl (hwi hw 52 rfl)) (hwi hw 3 rfl) (ty := .long) (by decide) rfl rfl (g := (mkF m 55 #[vR o0, vD d1, s_, vI (23 : Int32)] [(.long z54_4tttt), (.ref o0)])) rfl rfl (hb hby d5_55)
          have N42 := Fr.snoc X42 N31 qU
          have K43 : Keep h0 h42 [o0] := K32.wr W42 (Or.inl (by simp))
          have F42w := F31w.same W42
          have f44 := (f33.other W42 (Or.inr (slot_ne (Or.inl (hwi hw 22 rfl)) (Or.inl (hwi hw 52 rfl)) (by decide) (t := .int) (t' := .long) (by decide) (by decide))))
          obtain ⟨T45, X45, e45, st45⟩ := getF X42 hx hZ hown (host := "") (Or.inl (hwi hw 21 rfl)) Via.refl e42 f44 (g := (mkF m 17 #[vR o0, vD d1, s_, vI (23 : Int32)] [(.ref o0), (.int (23 : Int32))])) rfl rfl (hb hby d5_17)
          obtain ⟨T46, X46, e46, st46⟩ := getF X45 hx hZ hown (host := "") (Or.inl (hwi hw 21 rfl)) Via.refl e45 f44 (g := (mkF m 63 #[vR o0, vD d1, s_, vI (23 : Int32)] [(.ref o0), (.int (23 : Int32))])) rfl rfl (hb hby d5_63)
          have c47 : ∀ t, Steps p.tables e below (T46.setTop (mkF m 69 #[vR o0, vD d1, s_, vI (23 : Int32)] [(.int (8 : Int32))])) t → Steps p.tables e below (s₁.setTop (entryFrame m #[(.ref o0), (.double d1)] 4)) t := by
            intro t k
            refine c39 t ?_
            show Steps p.tables e below (T36.setTop (mkF m 33 #[vR o0, vD d1, s_, vI (11 : Int32)] [(.int z32_4ttt)])) _
            refine XS.ifYes X36.here hx rfl (pc0 := 33) (pc' := 42) rfl (hb hby d5_33) rfl (Jvm.Free.XT.i0_gt_t hb33_4ttt) (by decide) (by decide) ?_
            refine XS.iconst X36.here hx rfl (hb hby d5_42) ?_
            refine XS.iloadN X36.here hx rfl (hb hby d5_43) rfl ?_
            refine Jvm.OwnK.imul X36.here hx rfl (hb hby d5_44) rfl (v := (22 : Int32)) (by decide) ?_
            refine XS.iconst X36.here hx rfl (hb hby d5_45) ?_
            refine Jvm.OwnK.iadd X36.here hx rfl (hb hby d5_46) rfl (v := (23 : Int32)) (by decide) ?_
            show Steps p.tables e below (T36.setTop (mkF m 47 #[vR o0, vD d1, s_, vI (11 : Int32)] [(.int (23 : Int32))])) _
            refine XS.istoreN X36.here hx rfl (hb hby d5_47) rfl (l' := #[vR o0, vD d1, s_, vI (23 : Int32)]) rfl ?_
            refine XS.aloadN X36.here hx rfl (hb hby d5_48) rfl rfl ?_
            refine XS.dup X36.here hx rfl (hb hby d5_49) rfl rfl ?_
            refine st40 _ ?_
            show Steps p.tables e below (T40.setTop (mkF m 53 #[vR o0, vD d1, s_, vI (23 : Int32)] [(.long z54_3ttt), (.ref o0)])) _
            refine XS.lconst X40.here hx rfl (hb hby d5_53) ?_
            refine Jvm.OwnK.ladd X40.here hx rfl (hb hby d5_54) rfl hz54_4tttt ?_
            refine st42 _ ?_
            show Steps p.tables e below (T42.setTop (mkF m 58 #[vR o0, vD d1, s_, vI (23 : Int32)] [])) _
            refine XS.goto X42.here hx rfl (pc0 := 58) (pc' := 15) rfl (hb hby d5_58) (by decide) (by decide) ?_
            refine XS.iloadN X42.here hx rfl (hb hby d5_15) rfl ?_
            refine XS.aloadN X42.here hx rfl (hb hby d5_16) rfl rfl ?_
            refine st45 _ ?_
            show Steps p.tables e below (T45.setTop (mkF m 20 #[vR o0, vD d1, s_, vI (23 : Int32)] [(.int (16 : Int32)), (.int (23 : Int32))])) _
            refine XS.icmpYes X45.here hx rfl (pc0 := 20) (pc' := 61) rfl (hb hby d5_20) rfl (Jvm.Free.XT.ii_ge_t (by decide)) (by decide) (by decide) ?_
            refine XS.iloadN X45.here hx rfl (hb hby d5_61) rfl ?_
            refine XS.aloadN X45.here hx rfl (hb hby d5_62) rfl rfl ?_
            refine st46 _ ?_
            show Steps p.tables e below (T46.setTop (mkF m 66 #[vR o0, vD d1, s_, vI (23 : Int32)] [(.int (16 : Int32)), (.int (23 : Int32))])) _
            refine Jvm.OwnK.isub X46.here hx rfl (hb hby d5_66) rfl (v := (7 : Int32)) (by decide) ?_
            refine XS.iconst X46.here hx rfl (hb hby d5_67) ?_
            refine Jvm.OwnK.iadd X46.here hx rfl (hb hby d5_68) rfl (v := (8 : Int32)) (by decide) ?_
            exact k
          obtain ⟨fs, hr, hrun, hended, hW, hsame⟩ := X46.leave (v := some (.int (8 : Int32))) (fun h => by rw [Bd.returns] at h; cases h)
          refine ⟨_, _, c47 _ ?_, hrun, hended, _, _, rfl, ?_, ⟨_, rfl⟩, hW, hsame.mono (by decide) (by decide)⟩
          · show Steps p.tables e below (T46.setTop (mkF m 69 #[vR o0, vD d1, s_, vI (23 : Int32)] [(.int (8 : Int32))])) _
            exact retOut X46 hx Bd.returns rfl (Or.inl ⟨rfl, by simp, _, rfl⟩) (hb hby d5_69) hr
          · show Q5 Z o0 d1 qd y0 y1 y2 y3 y4 y5 y6 y7 y8 y9 y10 y11 y12 y13 y14 y15 y16 y17 y18 y19 y20 y21 y22 y23 y24 y25 y26 y27 y28 y29 y30 y31 qc qg z7 z32t z54t z32_2t z54_2tt z32_3tt z54_3ttt z32_4ttt z54_4tttt z54_4tttf z54_3ttf z32_4ttf z54_4ttft z54_4ttff z54_2tf z32_3tf z54_3tft z32_4tft z54_4tftt z54_4tftf z54_3tff z32_4tff z54_4tfft z54_4tfff rv h0 n0 _ T46.heap _
            rw [e46]
            exact ⟨z54_4tttt, (congrArg (fun z => some (Value.int z)) (show (8 : Int32) = rv by rw [← hrv]; simp only [if_neg hb8, if_pos hb33_2t, if_pos hb33_3tt, if_pos hb33_4ttt])), N42, K43, (f35.other W42 (Or.inr (slot_ne (Or.inl (hwi hw 20 rfl)) (Or.inl (hwi hw 52 rfl)) (by decide) (t := (.array .double)) (t' := .long) (by decide) (by decide)))), f44, F42w, (f41.wr W42)⟩
        · skip
          obtain ⟨T48, X48, e48, st48⟩ := getF X36 hx hZ hown (host := "") (Or.inl (hwi hw 51 rfl)) Via.refl e36 F31w (g := (mkF m 50 #[vR o0, vD d1, s_, vI (22 : Int32)] [(.ref o0), (.ref o0)])) rfl rfl (hb hby d5_50)
          have f49 := (f30.wr W31)
          obtain ⟨T50, h50, X50, e50, W50, st50⟩ := putF X48 hx hZ hown (host := "") (Or.inl (hwi hw 51 rfl)) Via.refl e48 F31w f49 (Or.inl (hwi hw 52 rfl)) (hwi hw 3 rfl) (ty := .long) (by decide) rfl rfl (g := (mkF m 55 #[vR o0, vD d1, s_, vI (22 : Int32)] [(.long z54_4tttf), (.ref o0)])) rfl rfl (hb hby d5_55)
          have N50 := Fr.snoc X50 N31 qU
          have K51 : Keep h0 h50 [o0] := K32.wr W50 (Or.inl (by simp))
          have F50w := F31w.same W50
          have f52 := (f33.other W50 (Or.inr (slot_ne (Or.inl (hwi hw 22 rfl)) (Or.inl (hwi hw 52 rfl)) (by decide) (t := .int) (t' := .long) (by decide) (by decide))))
          obtain ⟨T53, X53, e53, st53⟩ := getF X50 hx hZ hown (host := "") (Or.inl (hwi hw 21 rfl)) Via.refl e50 f52 (g := (mkF m 17 #[vR o0, vD d1, s_, vI (22 : Int32)] [(.ref o0), (.int (22 : Int32))])) rfl rfl (hb hby d5_17)
          obtain ⟨T54, X54, e54, st54⟩ := getF X53 hx hZ hown (host := "") (Or.inl (hwi hw 21 rfl)) Via.refl e53 f52 (g := (mkF m 63 #[vR o0, vD d1, s_, vI (22 : Int32)] [(.ref o0), (.int (22 : Int32))])) rfl rfl (hb hby d5_63)
          have c55 : ∀ t, Steps p.tables e below (T54.setTop (mkF m 69 #[vR o0, vD d1, s_, vI (22 : Int32)] [(.int (7 : Int32))])) t → Steps p.tables e below (s₁.setTop (entryFrame m #[(.ref o0), (.double d1)] 4)) t := by
            intro t k
            refine c39 t ?_
            show Steps p.tables e below (T36.setTop (mkF m 33 #[vR o0, vD d1, s_, vI (11 : Int32)] [(.int z32_4ttt)])) _
            refine XS.ifNo X36.here hx rfl (hb hby d5_33) rfl (Jvm.Free.XT.i0_gt_f hb33_4ttt) ?_
            refine XS.iconst X36.here hx rfl (hb hby d5_36) ?_
            refine XS.iloadN X36.here hx rfl (hb hby d5_37) rfl ?_
            refine Jvm.OwnK.imul X36.here hx rfl (hb hby d5_38) rfl (v := (22 : Int32)) (by decide) ?_
            refine XS.goto X36.here hx rfl (pc0 := 39) (pc' := 47) rfl (hb hby d5_39) (by decide) (by decide) ?_
            refine XS.istoreN X36.here hx rfl (hb hby d5_47) rfl (l' := #[vR o0, vD d1, s_, vI (22 : Int32)]) rfl ?_
            show Steps p.tables e below (T36.setTop (mkF m 48 #[vR o0, vD d1, s_, vI (22 : Int32)] [])) _
            refine XS.aloadN X36.here hx rfl (hb hby d5_48) rfl rfl ?_
            refine XS.dup X36.here hx rfl (hb hby d5_49) rfl rfl ?_
            refine st48 _ ?_
            show Steps p.tables e below (T48.setTop (mkF m 53 #[vR o0, vD d1, s_, vI (22 : Int32)] [(.long z54_3ttt), (.ref o0)])) _
            refine XS.lconst X48.here hx rfl (hb hby d5_53) ?_
            refine Jvm.OwnK.ladd X48.here hx rfl (hb hby d5_54) rfl hz54_4tttf ?_
            refine st50 _ ?_
            show Steps p.tables e below (T50.setTop (mkF m 58 #[vR o0, vD d1, s_, vI (22 : Int32)] [])) _
            refine XS.goto X50.here hx rfl (pc0 := 58) (pc' := 15) rfl (hb hby d5_58) (by decide) (by decide) ?_
            refine XS.iloadN X50.here hx rfl (hb hby d5_15) rfl ?_
            refine XS.aloadN X50.here hx rfl (hb hby d5_16) rfl rfl ?_
            refine st53 _ ?_
            show Steps p.tables e below (T53.setTop (mkF m 20 #[vR o0, vD d1, s_, vI (22 : Int32)] [(.int (16 : Int32)), (.int (22 : Int32))])) _
            refine XS.icmpYes X53.here hx rfl (pc0 := 20) (pc' := 61) rfl (hb hby d5_20) rfl (Jvm.Free.XT.ii_ge_t (by decide)) (by decide) (by decide) ?_
            refine XS.iloadN X53.here hx rfl (hb hby d5_61) rfl ?_
            refine XS.aloadN X53.here hx rfl (hb hby d5_62) rfl rfl ?_
            refine st54 _ ?_
            show Steps p.tables e below (T54.setTop (mkF m 66 #[vR o0, vD d1, s_, vI (22 : Int32)] [(.int (16 : Int32)), (.int (22 : Int32))])) _
            refine Jvm.OwnK.isub X54.here hx rfl (hb hby d5_66) rfl (v := (6 : Int32)) (by decide) ?_
            refine XS.iconst X54.here hx rfl (hb hby d5_67) ?_
            refine Jvm.OwnK.iadd X54.here hx rfl (hb hby d5_68) rfl (v := (7 : Int32)) (by decide) ?_
            exact k
          obtain ⟨fs, hr, hrun, hended, hW, hsame⟩ := X54.leave (v := some (.int (7 : Int32))) (fun h => by rw [Bd.returns] at h; cases h)
          refine ⟨_, _, c55 _ ?_, hrun, hended, _, _, rfl, ?_, ⟨_, rfl⟩, hW, hsame.mono (by decide) (by decide)⟩
          · show Steps p.tables e below (T54.setTop (mkF m 69 #[vR o0, vD d1, s_, vI (22 : Int32)] [(.int (7 : Int32))])) _
            exact retOut X54 hx Bd.returns rfl (Or.inl ⟨rfl, by simp, _, rfl⟩) (hb hby d5_69) hr
          · show Q5 Z o0 d1 qd y0 y1 y2 y3 y4 y5 y6 y7 y8 y9 y10 y11 y12 y13 y14 y15 y16 y17 y18 y19 y20 y21 y22 y23 y24 y25 y26 y27 y28 y29 y30 y31 qc qg z7 z32t z54t z32_2t z54_2tt z32_3tt z54_3ttt z32_4ttt z54_4tttt z54_4tttf z54_3ttf z32_4ttf z54_4ttft z54_4ttff z54_2tf z32_3tf z54_3tft z32_4tft z54_4tftt z54_4tftf z54_3tff z32_4tff z54_4tfft z54_4tfff rv h0 n0 _ T54.heap _
            rw [e54]
            exact ⟨z54_4tttf, (congrArg (fun z => some (Value.int z)) (show (7 : Int32) = rv by rw [← hrv]; simp only [if_neg hb8, if_pos hb33_2t, if_pos hb33_3tt, if_neg hb33_4ttt])), N50, K51, (f35.other W50 (Or.inr (slot_ne (Or.inl (hwi hw 20 rfl)) (Or.inl (hwi hw 52 rfl)) (by decide) (t := (.array .double)) (t' := .long) (by decide) (by decide)))), f52, F50w, (f49.wr W50)⟩
      · skip
        obtain ⟨T56, X56, e56, st56⟩ := getF X25 hx hZ hown (host := "") (Or.inl (hwi hw 51 rfl)) Via.refl e25 F20w (g := (mkF m 50 #[vR o0, vD d1, s_, vI (10 : Int32)] [(.ref o0), (.ref o0)])) rfl rfl (hb hby d5_50)
        have f57 := (f19.wr W20)
        obtain ⟨T58, h58, X58, e58, W58, st58⟩ := putF X56 hx hZ hown (host := "") (Or.inl (hwi hw 51 rfl)) Via.refl e56 F20w f57 (Or.inl (hwi hw 52 rfl)) (hwi hw 3 rfl) (ty := .long) (by decide) rfl rfl (g := (mkF m 55 #[vR o0, vD d1, s_, vI (10 : Int32)] [(.long z54_3ttf), (.ref o0)])) rfl rfl (hb hby d5_55)
        have N58 := Fr.snoc X58 N20 qU
        have K59 : Keep h0 h58 [o0] := K21.wr W58 (Or.inl (by simp))
        have F58w := F20w.same W58
        have f60 := (f22.other W58 (Or.inr (slot_ne (Or.inl (hwi hw 22 rfl)) (Or.inl (hwi hw 52 rfl)) (by decide) (t := .int) (t' := .long) (by decide) (by decide))))
        obtain ⟨T61, X61, e61, st61⟩ := getF X58 hx hZ hown (host := "") (Or.inl (hwi hw 21 rfl)) Via.refl e58 f60 (g := (mkF m 17 #[vR o0, vD d1, s_, vI (10 : Int32)] [(.ref o0), (.int (10 : Int32))])) rfl rfl (hb hby d5_17)
        have f62 := (f24.other W58 (Or.inr (slot_ne (Or.inl (hwi hw 20 rfl)) (Or.inl (hwi hw 52 rfl)) (by decide) (t := (.array .double)) (t' := .long) (by decide) (by decide))))
        obtain ⟨T63, X63, e63, st63⟩ := getF X61 hx hZ hown (host := "") (Or.inl (hwi hw 19 rfl)) Via.refl e61 f62 (g := (mkF m 24 #[vR o0, vD d1, s_, vI (10 : Int32)] [(.ref o0)])) rfl rfl (hb hby d5_24)
        have f64 := (f26.other W58 (Ne.symm qe))
        obtain ⟨cl65, Ar65, -, S65, -, Ha65, -⟩ := id f64
        have in65 : ¬ ((20 : Int32) < 0 ∨ cl65.slots.size ≤ ((20 : Int32)).toNatClampNeg) := inb_of S65 ⟨by decide, by decide⟩
        have c66 : ∀ t, Steps p.tables e below (T63.setTop (mkF m 33 #[vR o0, vD d1, s_, vI (10 : Int32)] [(.int z32_4ttf)])) t → Steps p.tables e below (s₁.setTop (entryFrame m #[(.ref o0), (.double d1)] 4)) t := by
          intro t k
          refine c28 t ?_
          show Steps p.tables e below (T25.setTop (mkF m 33 #[vR o0, vD d1, s_, vI (5 : Int32)] [(.int z32_3tt)])) _
          refine XS.ifNo X25.here hx rfl (hb hby d5_33) rfl (Jvm.Free.XT.i0_gt_f hb33_3tt) ?_
          refine XS.iconst X25.here hx rfl (hb hby d5_36) ?_
          refine XS.iloadN X25.here hx rfl (hb hby d5_37) rfl ?_
          refine Jvm.OwnK.imul X25.here hx rfl (hb hby d5_38) rfl (v := (10 : Int32)) (by decide) ?_
          refine XS.goto X25.here hx rfl (pc0 := 39) (pc' := 47) rfl (hb hby d5_39) (by decide) (by decide) ?_
          refine XS.istoreN X25.here hx rfl (hb hby d5_47) rfl (l' := #[vR o0, vD d1, s_, vI (10 : Int32)]) rfl ?_
          show Steps p.tables e below (T25.setTop (mkF m 48 #[vR o0, vD d1, s_, vI (10 : Int32)] [])) _
          refine XS.aloadN X25.here hx rfl (hb hby d5_48) rfl rfl ?_
          refine XS.dup X25.here hx rfl (hb hby d5_49) rfl rfl ?_
          refine st56 _ ?_
          show Steps p.tables e below (T56.setTop (mkF m 53 #[vR o0, vD d1, s_, vI (10 : Int32)] [(.long z54_2tt), (.ref o0)])) _
          refine XS.lconst X56.here hx rfl (hb hby d5_53) ?_
          refine Jvm.OwnK.ladd X56.here hx rfl (hb hby d5_54) rfl hz54_3ttf ?_
          refine st58 _ ?_
          show Steps p.tables e below (T58.setTop (mkF m 58 #[vR o0, vD d1, s_, vI (10 : Int32)] [])) _
          refine XS.goto X58.here hx rfl (pc0 := 58) (pc' := 15) rfl (hb hby d5_58) (by decide) (by decide) ?_
          refine XS.iloadN X58.here hx rfl (hb hby d5_15) rfl ?_
          refine XS.aloadN X58.here hx rfl (hb hby d5_16) rfl rfl ?_
          refine st61 _ ?_
          show Steps p.tables e below (T61.setTop (mkF m 20 #[vR o0, vD d1, s_, vI (10 : Int32)] [(.int (16 : Int32)), (.int (10 : Int32))])) _
          refine XS.icmpNo X61.here hx rfl (hb hby d5_20) rfl (Jvm.Free.XT.ii_ge_f (by decide)) ?_
          refine XS.aloadN X61.here hx rfl (hb hby d5_23) rfl rfl ?_
          refine st63 _ ?_
          show Steps p.tables e below (T63.setTop (mkF m 27 #[vR o0, vD d1, s_, vI (10 : Int32)] [(.ref qc)])) _
          refine XS.iconst X63.here hx rfl (hb hby d5_27) ?_
          refine XS.iloadN X63.here hx rfl (hb hby d5_28) rfl ?_
          refine Jvm.OwnK.imul X63.here hx rfl (hb hby d5_29) rfl (v := (20 : Int32)) (by decide) ?_
          refine X63.daload hx (j := (20 : Int32)) (v := (.double y20)) (by rw [e63]; exact Ar65.1) (State.isArrayOf_alike hZ.alike Ar65.2.1) Ar65.2.2 in65 (Has.at Ha65 in65 rfl) (g := (mkF m 30 #[vR o0, vD d1, s_, vI (10 : Int32)] [(.int (20 : Int32)), (.ref qc)])) rfl rfl (hb hby d5_30) _ ?_
          refine XS.dloadN X63.here hx rfl (hb hby d5_31) rfl ?_
          refine XS.dcmpS X63.here hx rfl (hb hby d5_32) rfl hz32_4ttf ?_
          exact k
        by_cases hb33_4ttf : (0 : Int32) < z32_4ttf
        · skip
          obtain ⟨T67, X67, e67, st67⟩ := getF X63 hx hZ hown (host := "") (Or.inl (hwi hw 51 rfl)) Via.refl e63 F58w (g := (mkF m 50 #[vR o0, vD d1, s_, vI (21 : Int32)] [(.ref o0), (.ref o0)])) rfl rfl (hb hby d5_50)
          have f68 := (f57.wr W58)
          obtain ⟨T69, h69, X69, e69, W69, st69⟩ := putF X67 hx hZ hown (host := "") (Or.inl (hwi hw 51 rfl)) Via.refl e67 F58w f68 (Or.inl (hwi hw 52 rfl)) (hwi hw 3 rfl) (ty := .long) (by decide) rfl rfl (g := (mkF m 55 #[vR o0, vD d1, s_, vI (21 : Int32)] [(.long z54_4ttft), (.ref o0)])) rfl rfl (hb hby d5_55)
          have N69 := Fr.snoc X69 N58 qU
          have K70 : Keep h0 h69 [o0] := K59.wr W69 (Or.inl (by simp))
          have F69w := F58w.same W69
          have f71 := (f60.other W69 (Or.inr (slot_ne (Or.inl (hwi hw 22 rfl)) (Or.inl (hwi hw 52 rfl)) (by decide) (t := .int) (t' := .long) (by decide) (by decide))))
          obtain ⟨T72, X72, e72, st72⟩ := getF X69 hx hZ hown (host := "") (Or.inl (hwi hw 21 rfl)) Via.refl e69 f71 (g := (mkF m 17 #[vR o0, vD d1, s_, vI (21 : Int32)] [(.ref o0), (.int (21 : Int32))])) rfl rfl (hb hby d5_17)
          obtain ⟨T73, X73, e73, st73⟩ := getF X72 hx hZ hown (host := "") (Or.inl (hwi hw 21 rfl)) Via.refl e72 f71 (g := (mkF m 63 #[vR o0, vD d1, s_, vI (21 : Int32)] [(.ref o0), (.int (21 : Int32))])) rfl rfl (hb hby d5_63)
          have c74 : ∀ t, Steps p.tables e below (T73.setTop (mkF m 69 #[vR o0, vD d1, s_, vI (21 : Int32)] [(.int (6 : Int32))])) t → Steps p.tables e below (s₁.setTop (entryFrame m #[(.ref o0), (.double d1)] 4)) t := by
            intro t k
            refine c66 t ?_
            show Steps p.tables e below (T63.setTop (mkF m 33 #[vR o0, vD d1, s_, vI (10 : Int32)] [(.int z32_4ttf)])) _
            refine XS.ifYes X63.here hx rfl (pc0 := 33) (pc' := 42) rfl (hb hby d5_33) rfl (Jvm.Free.XT.i0_gt_t hb33_4ttf) (by decide) (by decide) ?_
            refine XS.iconst X63.here hx rfl (hb hby d5_42) ?_
            refine XS.iloadN X63.here hx rfl (hb hby d5_43) rfl ?_
            refine Jvm.OwnK.imul X63.here hx rfl (hb hby d5_44) rfl (v := (20 : Int32)) (by decide) ?_
            refine XS.iconst X63.here hx rfl (hb hby d5_45) ?_
            refine Jvm.OwnK.iadd X63.here hx rfl (hb hby d5_46) rfl (v := (21 : Int32)) (by decide) ?_
            show Steps p.tables e below (T63.setTop (mkF m 47 #[vR o0, vD d1, s_, vI (10 : Int32)] [(.int (21 : Int32))])) _
            refine XS.istoreN X63.here hx rfl (hb hby d5_47) rfl (l' := #[vR o0, vD d1, s_, vI (21 : Int32)]) rfl ?_
            refine XS.aloadN X63.here hx rfl (hb hby d5_48) rfl rfl ?_
            refine XS.dup X63.here hx rfl (hb hby d5_49) rfl rfl ?_
            refine st67 _ ?_
            show Steps p.tables e below (T67.setTop (mkF m 53 #[vR o0, vD d1, s_, vI (21 : Int32)] [(.long z54_3ttf), (.ref o0)])) _
            refine XS.lconst X67.here hx rfl (hb hby d5_53) ?_
            refine Jvm.OwnK.ladd X67.here hx rfl (hb hby d5_54) rfl hz54_4ttft ?_
            refine st69 _ ?_
            show Steps p.tables e below (T69.setTop (mkF m 58 #[vR o0, vD d1, s_, vI (21 : Int32)] [])) _
            refine XS.goto X69.here hx rfl (pc0 := 58) (pc' := 15) rfl (hb hby d5_58) (by decide) (by decide) ?_
            refine XS.iloadN X69.here hx rfl (hb hby d5_15) rfl ?_
            refine XS.aloadN X69.here hx rfl (hb hby d5_16) rfl rfl ?_
            refine st72 _ ?_
            show Steps p.tables e below (T72.setTop (mkF m 20 #[vR o0, vD d1, s_, vI (21 : Int32)] [(.int (16 : Int32)), (.int (21 : Int32))])) _
            refine XS.icmpYes X72.here hx rfl (pc0 := 20) (pc' := 61) rfl (hb hby d5_20) rfl (Jvm.Free.XT.ii_ge_t (by decide)) (by decide) (by decide) ?_
            refine XS.iloadN X72.here hx rfl (hb hby d5_61) rfl ?_
            refine XS.aloadN X72.here hx rfl (hb hby d5_62) rfl rfl ?_
            refine st73 _ ?_
            show Steps p.tables e below (T73.setTop (mkF m 66 #[vR o0, vD d1, s_, vI (21 : Int32)] [(.int (16 : Int32)), (.int (21 : Int32))])) _
            refine Jvm.OwnK.isub X73.here hx rfl (hb hby d5_66) rfl (v := (5 : Int32)) (by decide) ?_
            refine XS.iconst X73.here hx rfl (hb hby d5_67) ?_
            refine Jvm.OwnK.iadd X73.here hx rfl (hb hby d5_68) rfl (v := (6 : Int32)) (by decide) ?_
            exact k
          obtain ⟨fs, hr, hrun, hended, hW, hsame⟩ := X73.leave (v := some (.int (6 : Int32))) (fun h => by rw [Bd.returns] at h; cases h)
          refine ⟨_, _, c74 _ ?_, hrun, hended, _, _, rfl, ?_, ⟨_, rfl⟩, hW, hsame.mono (by decide) (by decide)⟩
          · show Steps p.tables e below (T73.setTop (mkF m 69 #[vR o0, vD d1, s_, vI (21 : Int32)] [(.int (6 : Int32))])) _
            exact retOut X73 hx Bd.returns rfl (Or.inl ⟨rfl, by simp, _, rfl⟩) (hb hby d5_69) hr
          · show Q5 Z o0 d1 qd y0 y1 y2 y3 y4 y5 y6 y7 y8 y9 y10 y11 y12 y13 y14 y15 y16 y17 y18 y19 y20 y21 y22 y23 y24 y25 y26 y27 y28 y29 y30 y31 qc qg z7 z32t z54t z32_2t z54_2tt z32_3tt z54_3ttt z32_4ttt z54_4tttt z54_4tttf z54_3ttf z32_4ttf z54_4ttft z54_4ttff z54_2tf z32_3tf z54_3tft z32_4tft z54_4tftt z54_4tftf z54_3tff z32_4tff z54_4tfft z54_4tfff rv h0 n0 _ T73.heap _
            rw [e73]
            exact ⟨z54_4ttft, (congrArg (fun z => some (Value.int z)) (show (6 : Int32) = rv by rw [← hrv]; simp only [if_neg hb8, if_pos hb33_2t, if_neg hb33_3tt, if_pos hb33_4ttf])), N69, K70, (f62.other W69 (Or.inr (slot_ne (Or.inl (hwi hw 20 rfl)) (Or.inl (hwi hw 52 rfl)) (by decide) (t := (.array .double)) (t' := .long) (by decide) (by decide)))), f71, F69w, (f68.wr W69)⟩
        · skip
          obtain ⟨T75, X75, e75, st75⟩ := getF X63 hx hZ hown (host := "") (Or.inl (hwi hw 51 rfl)) Via.refl e63 F58w (g := (mkF m 50 #[vR o0, vD d1, s_, vI (20 : Int32)] [(.ref o0), (.ref o0)])) rfl rfl (hb hby d5_50)
          have f76 := (f57.wr W58)
          obtain ⟨T77, h77, X77, e77, W77, st77⟩ := putF X75 hx hZ hown (host := "") (Or.inl (hwi hw 51 rfl)) Via.refl e75 F58w f76 (Or.inl (hwi hw 52 rfl)) (hwi hw 3 rfl) (ty := .long) (by decide) rfl rfl (g := (mkF m 55 #[vR o0, vD d1, s_, vI (20 : Int32)] [(.long z54_4ttff), (.ref o0)])) rfl rfl (hb hby d5_55)
          have N77 := Fr.snoc X77 N58 qU
          have K78 : Keep h0 h77 [o0] := K59.wr W77 (Or.inl (by simp))
          have F77w := F58w.same W77
          have f79 := (f60.other W77 (Or.inr (slot_ne (Or.inl (hwi hw 22 rfl)) (Or.inl (hwi hw 52 rfl)) (by decide) (t := .int) (t' := .long) (by decide) (by decide))))
          obtain ⟨T80, X80, e80, st80⟩ := getF X77 hx hZ hown (host := "") (Or.inl (hwi hw 21 rfl)) Via.refl e77 f79 (g := (mkF m 17 #[vR o0, vD d1, s_, vI (20 : Int32)] [(.ref o0), (.int (20 : Int32))])) rfl rfl (hb hby d5_17)
          obtain ⟨T81, X81, e81, st81⟩ := getF X80 hx hZ hown (host := "") (Or.inl (hwi hw 21 rfl)) Via.refl e80 f79 (g := (mkF m 63 #[vR o0, vD d1, s_, vI (20 : Int32)] [(.ref o0), (.int (20 : Int32))])) rfl rfl (hb hby d5_63)
          have c82 : ∀ t, Steps p.tables e below (T81.setTop (mkF m 69 #[vR o0, vD d1, s_, vI (20 : Int32)] [(.int (5 : Int32))])) t → Steps p.tables e below (s₁.setTop (entryFrame m #[(.ref o0), (.double d1)] 4)) t := by
            intro t k
            refine c66 t ?_
            show Steps p.tables e below (T63.setTop (mkF m 33 #[vR o0, vD d1, s_, vI (10 : Int32)] [(.int z32_4ttf)])) _
            refine XS.ifNo X63.here hx rfl (hb hby d5_33) rfl (Jvm.Free.XT.i0_gt_f hb33_4ttf) ?_
            refine XS.iconst X63.here hx rfl (hb hby d5_36) ?_
            refine XS.iloadN X63.here hx rfl (hb hby d5_37) rfl ?_
            refine Jvm.OwnK.imul X63.here hx rfl (hb hby d5_38) rfl (v := (20 : Int32)) (by decide) ?_
            refine XS.goto X63.here hx rfl (pc0 := 39) (pc' := 47) rfl (hb hby d5_39) (by decide) (by decide) ?_
            refine XS.istoreN X63.here hx rfl (hb hby d5_47) rfl (l' := #[vR o0, vD d1, s_, vI (20 : Int32)]) rfl ?_
            show Steps p.tables e below (T63.setTop (mkF m 48 #[vR o0, vD d1, s_, vI (20 : Int32)] [])) _
            refine XS.aloadN X63.here hx rfl (hb hby d5_48) rfl rfl ?_
            refine XS.dup X63.here hx rfl (hb hby d5_49) rfl rfl ?_
            refine st75 _ ?_
            show Steps p.tables e below (T75.setTop (mkF m 53 #[vR o0, vD d1, s_, vI (20 : Int32)] [(.long z54_3ttf), (.ref o0)])) _
            refine XS.lconst X75.here hx rfl (hb hby d5_53) ?_
            refine Jvm.OwnK.ladd X75.here hx rfl (hb hby d5_54) rfl hz54_4ttff ?_
            refine st77 _ ?_
            show Steps p.tables e below (T77.setTop (mkF m 58 #[vR o0, vD d1, s_, vI (20 : Int32)] [])) _
            refine XS.goto X77.here hx rfl (pc0 := 58) (pc' := 15) rfl (hb hby d5_58) (by decide) (by decide) ?_
            refine XS.iloadN X77.here hx rfl (hb hby d5_15) rfl ?_
            refine XS.aloadN X77.here hx rfl (hb hby d5_16) rfl rfl ?_
            refine st80 _ ?_
            show Steps p.tables e below (T80.setTop (mkF m 20 #[vR o0, vD d1, s_, vI (20 : Int32)] [(.int (16 : Int32)), (.int (20 : Int32))])) _
            refine XS.icmpYes X80.here hx rfl (pc0 := 20) (pc' := 61) rfl (hb hby d5_20) rfl (Jvm.Free.XT.ii_ge_t (by decide)) (by decide) (by decide) ?_
            refine XS.iloadN X80.here hx rfl (hb hby d5_61) rfl ?_
            refine XS.aloadN X80.here hx rfl (hb hby d5_62) rfl rfl ?_
            refine st81 _ ?_
            show Steps p.tables e below (T81.setTop (mkF m 66 #[vR o0, vD d1, s_, vI (20 : Int32)] [(.int (16 : Int32)), (.int (20 : Int32))])) _
            refine Jvm.OwnK.isub X81.here hx rfl (hb hby d5_66) rfl (v := (4 : Int32)) (by decide) ?_
            refine XS.iconst X81.here hx rfl (hb hby d5_67) ?_
            refine Jvm.OwnK.iadd X81.here hx rfl (hb hby d5_68) rfl (v := (5 : Int32)) (by decide) ?_
            exact k
          obtain ⟨fs, hr, hrun, hended, hW, hsame⟩ := X81.leave (v := some (.int (5 : Int32))) (fun h => by rw [Bd.returns] at h; cases h)
          refine ⟨_, _, c82 _ ?_, hrun, hended, _, _, rfl, ?_, ⟨_, rfl⟩, hW, hsame.mono (by decide) (by decide)⟩
          · show Steps p.tables e below (T81.setTop (mkF m 69 #[vR o0, vD d1, s_, vI (20 : Int32)] [(.int (5 : Int32))])) _
            exact retOut X81 hx Bd.returns rfl (Or.inl ⟨rfl, by simp, _, rfl⟩) (hb hby d5_69) hr
          · show Q5 Z o0 d1 qd y0 y1 y2 y3 y4 y5 y6 y7 y8 y9 y10 y11 y12 y13 y14 y15 y16 y17 y18 y19 y20 y21 y22 y23 y24 y25 y26 y27 y28 y29 y30 y31 qc qg z7 z32t z54t z32_2t z54_2tt z32_3tt z54_3ttt z32_4ttt z54_4tttt z54_4tttf z54_3ttf z32_4ttf z54_4ttft z54_4ttff z54_2tf z32_3tf z54_3tft z32_4tft z54_4tftt z54_4tftf z54_3tff z32_4tff z54_4tfft z54_4tfff rv h0 n0 _ T81.heap _
            rw [e81]
            exact ⟨z54_4ttff, (congrArg (fun z => some (Value.int z)) (show (5 : Int32) = rv by rw [← hrv]; simp only [if_neg hb8, if_pos hb33_2t, if_neg hb33_3tt, if_neg hb33_4ttf])), N77, K78, (f62.other W77 (Or.inr (slot_ne (Or.inl (hwi hw 20 rfl)) (Or.inl (hwi hw 52 rfl)) (by decide) (t := (.array .double)) (t' := .long) (by decide) (by decide)))), f79, F77w, (f76.wr W77)⟩
    · skip
      obtain ⟨T83, X83, e83, st83⟩ := getF X14 hx hZ hown (host := "") (Or.inl (hwi hw 51 rfl)) Via.refl e14 F9w (g := (mkF m 50 #[vR o0, vD d1, s_, vI (4 : Int32)] [(.ref o0), (.ref o0)])) rfl rfl (hb hby d5_50)
      have f84 := (qbS.wr W9)
      obtain ⟨T85, h85, X85, e85, W85, st85⟩ := putF X83 hx hZ hown (host := "") (Or.inl (hwi hw 51 rfl)) Via.refl e83 F9w f84 (Or.inl (hwi hw 52 rfl)) (hwi hw 3 rfl) (ty := .long) (by decide) rfl rfl (g := (mkF m 55 #[vR o0, vD d1, s_, vI (4 : Int32)] [(.long z54_2tf), (.ref o0)])) rfl rfl (hb hby d5_55)
      have N85 := Fr.snoc X85 N9 qU
      have K86 : Keep h0 h85 [o0] := K10.wr W85 (Or.inl (by simp))
      have F85w := F9w.same W85
      have f87 := (f11.other W85 (Or.inr (slot_ne (Or.inl (hwi hw 22 rfl)) (Or.inl (hwi hw 52 rfl)) (by decide) (t := .int) (t' := .long) (by decide) (by decide))))
      obtain ⟨T88, X88, e88, st88⟩ := getF X85 hx hZ hown (host := "") (Or.inl (hwi hw 21 rfl)) Via.refl e85 f87 (g := (mkF m 17 #[vR o0, vD d1, s_, vI (4 : Int32)] [(.ref o0), (.int (4 : Int32))])) rfl rfl (hb hby d5_17)
      have f89 := (f13.other W85 (Or.inr (slot_ne (Or.inl (hwi hw 20 rfl)) (Or.inl (hwi hw 52 rfl)) (by decide) (t := (.array .double)) (t' := .long) (by decide) (by decide))))
      obtain ⟨T90, X90, e90, st90⟩ := getF X88 hx hZ hown (host := "") (Or.inl (hwi hw 19 rfl)) Via.refl e88 f89 (g := (mkF m 24 #[vR o0, vD d1, s_, vI (4 : Int32)] [(.ref o0)])) rfl rfl (hb hby d5_24)
      have f91 := (f15.other W85 (Ne.symm qe))
      obtain ⟨cl92, Ar92, -, S92, -, Ha92, -⟩ := id f91
      have in92 : ¬ ((8 : Int32) < 0 ∨ cl92.slots.size ≤ ((8 : Int32)).toNatClampNeg) := inb_of S92 ⟨by decide, by decide⟩
      have c93 : ∀ t, Steps p.tables e below (T90.setTop (mkF m 33 #[vR o0, vD d1, s_, vI (4 : Int32)] [(.int z32_3tf)])) t → Steps p.tables e below (s₁.setTop (entryFrame m #[(.ref o0), (.double d1)] 4)) t := by
        intro t k
        refine c17 t ?_
        show Steps p.tables e below (T14.setTop (mkF m 33 #[vR o0, vD d1, s_, vI (2 : Int32)] [(.int z32_2t)])) _
        refine XS.ifNo X14.here hx rfl (hb hby d5_33) rfl (Jvm.Free.XT.i0_gt_f hb33_2t) ?_
        refine XS.iconst X14.here hx rfl (hb hby d5_36) ?_
        refine XS.iloadN X14.here hx rfl (hb hby d5_37) rfl ?_
        refine Jvm.OwnK.imul X14.here hx rfl (hb hby d5_38) rfl (v := (4 : Int32)) (by decide) ?_
        refine XS.goto X14.here hx rfl (pc0 := 39) (pc' := 47) rfl (hb hby d5_39) (by decide) (by decide) ?_
        refine XS.istoreN X14.here hx rfl (hb hby d5_47) rfl (l' := #[vR o0, vD d1, s_, vI (4 : Int32)]) rfl ?_
        show Steps p.tables e below (T14.setTop (mkF m 48 #[vR o0, vD d1, s_, vI (4 : Int32)] [])) _
        refine XS.aloadN X14.here hx rfl (hb hby d5_48) rfl rfl ?_
        refine XS.dup X14.here hx rfl (hb hby d5_49) rfl rfl ?_
        refine st83 _ ?_
        show Steps p.tables e below (T83.setTop (mkF m 53 #[vR o0, vD d1, s_, vI (4 : Int32)] [(.long z54t), (.ref o0)])) _
        refine XS.lconst X83.here hx rfl (hb hby d5_53) ?_
        refine Jvm.OwnK.ladd X83.here hx rfl (hb hby d5_54) rfl hz54_2tf ?_
        refine st85 _ ?_
        show Steps p.tables e below (T85.setTop (mkF m 58 #[vR o0, vD d1, s_, vI (4 : Int32)] [])) _
        refine XS.goto X85.here hx rfl (pc0 := 58) (pc' := 15) rfl (hb hby d5_58) (by decide) (by decide) ?_
        refine XS.iloadN X85.here hx rfl (hb hby d5_15) rfl ?_
        refine XS.aloadN X85.here hx rfl (hb hby d5_16) rfl rfl ?_
        refine st88 _ ?_
        show Steps p.tables e below (T88.setTop (mkF m 20 #[vR o0, vD d1, s_, vI (4 : Int32)] [(.int (16 : Int32)), (.int (4 : Int32))])) _
        refine XS.icmpNo X88.here hx rfl (hb hby d5_20) rfl (Jvm.Free.XT.ii_ge_f (by decide)) ?_
        refine XS.aloadN X88.here hx rfl (hb hby d5_23) rfl rfl ?_
        refine st90 _ ?_
        show Steps p.tables e below (T90.setTop (mkF m 27 #[vR o0, vD d1, s_, vI (4 : Int32)] [(.ref qc)])) _
        refine XS.iconst X90.here hx rfl (hb hby d5_27) ?_
        refine XS.iloadN X90.here hx rfl (hb hby d5_28) rfl ?_
        refine Jvm.OwnK.imul X90.here hx rfl (hb hby d5_29) rfl (v := (8 : Int32)) (by decide) ?_
        refine X90.daload hx (j := (8 : Int32)) (v := (.double y8)) (by rw [e90]; exact Ar92.1) (State.isArrayOf_alike hZ.alike Ar92.2.1) Ar92.2.2 in92 (Has.at Ha92 in92 rfl) (g := (mkF m 30 #[vR o0, vD d1, s_, vI (4 : Int32)] [(.int (8 : Int32)), (.ref qc)])) rfl rfl (hb hby d5_30) _ ?_
        refine XS.dloadN X90.here hx rfl (hb hby d5_31) rfl ?_
        refine XS.dcmpS X90.here hx rfl (hb hby d5_32) rfl hz32_3tf ?_
        exact k
      by_cases hb33_3tf : (0 : Int32) < z32_3tf
      · skip
        obtain ⟨T94, X94, e94, st94⟩ := getF X90 hx hZ hown (host := "") (Or.inl (hwi hw 51 rfl)) Via.refl e90 F85w (g := (mkF m 50 #[vR o0, vD d1, s_, vI (9 : Int32)] [(.ref o0), (.ref o0)])) rfl rfl (hb hby d5_50)
        have f95 := (f84.wr W85)
        obtain ⟨T96, h96, X96, e96, W96, st96⟩ := putF X94 hx hZ hown (host := "") (Or.inl (hwi hw 51 rfl)) Via.refl e94 F85w f95 (Or.inl (hwi hw 52 rfl)) (hwi hw 3 rfl) (ty := .long) (by decide) rfl rfl (g := (mkF m 55 #[vR o0, vD d1, s_, vI (9 : Int32)] [(.long z54_3tft), (.ref o0)])) rfl rfl (hb hby d5_55)
        have N96 := Fr.snoc X96 N85 qU
        have K97 : Keep h0 h96 [o0] := K86.wr W96 (Or.inl (by simp))
        have F96w := F85w.same W96
        have f98 := (f87.other W96 (Or.inr (slot_ne (Or.inl (hwi hw 22 rfl)) (Or.inl (hwi hw 52 rfl)) (by decide) (t := .int) (t' := .long) (by decide) (by decide))))
        obtain ⟨T99, X99, e99, st99⟩ := getF X96 hx hZ hown (host := "") (Or.inl (hwi hw 21 rfl)) Via.refl e96 f98 (g := (mkF m 17 #[vR o0, vD d1, s_, vI (9 : Int32)] [(.ref o0), (.int (9 : Int32))])) rfl rfl (hb hby d5_17)
        have f100 := (f89.other W96 (Or.inr (slot_ne (Or.inl (hwi hw 20 rfl)) (Or.inl (hwi hw 52 rfl)) (by decide) (t := (.array .double)) (t' := .long) (by decide) (by decide))))
        obtain ⟨T101, X101, e101, st101⟩ := getF X99 hx hZ hown (host := "") (Or.inl (hwi hw 19 rfl)) Via.refl e99 f100 (g := (mkF m 24 #[vR o0, vD d1, s_, vI (9 : Int32)] [(.ref o0)])) rfl rfl (hb hby d5_24)
        have f102 := (f91.other W96 (Ne.symm qe))
        obtain ⟨cl103, Ar103, -, S103, -, Ha103, -⟩ := id f102
        have in103 : ¬ ((18 : Int32) < 0 ∨ cl103.slots.size ≤ ((18 : Int32)).toNatClampNeg) := inb_of S103 ⟨by decide, by decide⟩
        have c104 : ∀ t, Steps p.tables e below (T101.setTop (mkF m 33 #[vR o0, vD d1, s_, vI (9 : Int32)] [(.int z32_4tft)])) t → Steps p.tables e below (s₁.setTop (entryFrame m #[(.ref o0), (.double d1)] 4)) t := by
          intro t k
          refine c93 t ?_
          show Steps p.tables e below (T90.setTop (mkF m 33 #[vR o0, vD d1, s_, vI (4 : Int32)] [(.int z32_3tf)])) _
          refine XS.ifYes X90.here hx rfl (pc0 := 33) (pc' := 42) rfl (hb hby d5_33) rfl (Jvm.Free.XT.i0_gt_t hb33_3tf) (by decide) (by decide) ?_
          refine XS.iconst X90.here hx rfl (hb hby d5_42) ?_
          refine XS.iloadN X90.here hx rfl (hb hby d5_43) rfl ?_
          refine Jvm.OwnK.imul X90.here hx rfl (hb hby d5_44) rfl (v := (8 : Int32)) (by decide) ?_
          refine XS.iconst X90.here hx rfl (hb hby d5_45) ?_
          refine Jvm.OwnK.iadd X90.here hx rfl (hb hby d5_46) rfl (v := (9 : Int32)) (by decide) ?_
          show Steps p.tables e below (T90.setTop (mkF m 47 #[vR o0, vD d1, s_, vI (4 : Int32)] [(.int (9 : Int32))])) _
          refine XS.istoreN X90.here hx rfl (hb hby d5_47) rfl (l' := #[vR o0, vD d1, s_, vI (9 : Int32)]) rfl ?_
          refine XS.aloadN X90.here hx rfl (hb hby d5_48) rfl rfl ?_
          refine XS.dup X90.here hx rfl (hb hby d5_49) rfl rfl ?_
          refine st94 _ ?_
          show Steps p.tables e below (T94.setTop (mkF m 53 #[vR o0, vD d1, s_, vI (9 : Int32)] [(.long z54_2tf), (.ref o0)])) _
          refine XS.lconst X94.here hx rfl (hb hby d5_53) ?_
          refine Jvm.OwnK.ladd X94.here hx rfl (hb hby d5_54) rfl hz54_3tft ?_
          refine st96 _ ?_
          show Steps p.tables e below (T96.setTop (mkF m 58 #[vR o0, vD d1, s_, vI (9 : Int32)] [])) _
          refine XS.goto X96.here hx rfl (pc0 := 58) (pc' := 15) rfl (hb hby d5_58) (by decide) (by decide) ?_
          refine XS.iloadN X96.here hx rfl (hb hby d5_15) rfl ?_
          refine XS.aloadN X96.here hx rfl (hb hby d5_16) rfl rfl ?_
          refine st99 _ ?_
          show Steps p.tables e below (T99.setTop (mkF m 20 #[vR o0, vD d1, s_, vI (9 : Int32)] [(.int (16 : Int32)), (.int (9 : Int32))])) _
          refine XS.icmpNo X99.here hx rfl (hb hby d5_20) rfl (Jvm.Free.XT.ii_ge_f (by decide)) ?_
          refine XS.aloadN X99.here hx rfl (hb hby d5_23) rfl rfl ?_
          refine st101 _ ?_
          show Steps p.tables e below (T101.setTop (mkF m 27 #[vR o0, vD d1, s_, vI (9 : Int32)] [(.ref qc)])) _
          refine XS.iconst X101.here hx rfl (hb hby d5_27) ?_
          refine XS.iloadN X101.here hx rfl (hb hby d5_28) rfl ?_
          refine Jvm.OwnK.imul X101.here hx rfl (hb hby d5_29) rfl (v := (18 : Int32)) (by decide) ?_
          refine X101.daload hx (j := (18 : Int32)) (v := (.double y18)) (by rw [e101]; exact Ar103.1) (State.isArrayOf_alike hZ.alike Ar103.2.1) Ar103.2.2 in103 (Has.at Ha103 in103 rfl) (g := (mkF m 30 #[vR o0, vD d1, s_, vI (9 : Int32)] [(.int (18 : Int32)), (.ref qc)])) rfl rfl (hb hby d5_30) _ ?_
          refine XS.dloadN X101.here hx rfl (hb hby d5_31) rfl ?_
          refine XS.dcmpS X101.here hx rfl (hb hby d5_32) rfl hz32_4tft ?_
          exact k
        by_cases hb33_4tft : (0 : Int32) < z32_4tft
        · skip
          obtain ⟨T105, X105, e105, st105⟩ := getF X101 hx hZ hown (host := "") (Or.inl (hwi hw 51 rfl)) Via.refl e101 F96w (g := (mkF m 50 #[vR o0, vD d1, s_, vI (19 : Int32)] [(.ref o0), (.ref o0)])) rfl rfl (hb hby d5_50)
          have f106 := (f95.wr W96)
          obtain ⟨T107, h107, X107, e107, W107, st107⟩ := putF X105 hx hZ hown (host := "") (Or.inl (hwi hw 51 rfl)) Via.refl e105 F96w f106 (Or.inl (hwi hw 52 rfl)) (hwi hw 3 rfl) (ty := .long) (by decide) rfl rfl (g := (mkF m 55 #[vR o0, vD d1, s_, vI (19 : Int32)] [(.long z54_4tftt), (.ref o0)])) rfl rfl (hb hby d5_55)
          have N107 := Fr.snoc X107 N96 qU
          have K108 : Keep h0 h107 [o0] := K97.wr W107 (Or.inl (by simp))
          have F107w := F96w.same W107
          have f109 := (f98.other W107 (Or.inr (slot_ne (Or.inl (hwi hw 22 rfl)) (Or.inl (hwi hw 52 rfl)) (by decide) (t := .int) (t' := .long) (by decide) (by decide))))
          obtain ⟨T110, X110, e110, st110⟩ := getF X107 hx hZ hown (host := "") (Or.inl (hwi hw 21 rfl)) Via.refl e107 f109 (g := (mkF m 17 #[vR o0, vD d1, s_, vI (19 : Int32)] [(.ref o0), (.int (19 : Int32))])) rfl rfl (hb hby d5_17)
          obtain ⟨T111, X111, e111, st111⟩ := getF X110 hx hZ hown (host := "") (Or.inl (hwi hw 21 rfl)) Via.refl e110 f109 (g := (mkF m 63 #[vR o0, vD d1, s_, vI (19 : Int32)] [(.ref o0), (.int (19 : Int32))])) rfl rfl (hb hby d5_63)
          have c112 : ∀ t, Steps p.tables e below (T111.setTop (mkF m 69 #[vR o0, vD d1, s_, vI (19 : Int32)] [(.int (4 : Int32))])) t → Steps p.tables e below (s₁.setTop (entryFrame m #[(.ref o0), (.double d1)] 4)) t := by
            intro t k
            refine c104 t ?_
            show Steps p.tables e below (T101.setTop (mkF m 33 #[vR o0, vD d1, s_, vI (9 : Int32)] [(.int z32_4tft)])) _
            refine XS.ifYes X101.here hx rfl (pc0 := 33) (pc' := 42) rfl (hb hby d5_33) rfl (Jvm.Free.XT.i0_gt_t hb33_4tft) (by decide) (by decide) ?_
            refine XS.iconst X101.here hx rfl (hb hby d5_42) ?_
            refine XS.iloadN X101.here hx rfl (hb hby d5_43) rfl ?_
            refine Jvm.OwnK.imul X101.here hx rfl (hb hby d5_44) rfl (v := (18 : Int32)) (by decide) ?_
            refine XS.iconst X101.here hx rfl (hb hby d5_45) ?_
            refine Jvm.OwnK.iadd X101.here hx rfl (hb hby d5_46) rfl (v := (19 : Int32)) (by decide) ?_
            show Steps p.tables e below (T101.setTop (mkF m 47 #[vR o0, vD d1, s_, vI (9 : Int32)] [(.int (19 : Int32))])) _
            refine XS.istoreN X101.here hx rfl (hb hby d5_47) rfl (l' := #[vR o0, vD d1, s_, vI (19 : Int32)]) rfl ?_
            refine XS.aloadN X101.here hx rfl (hb hby d5_48) rfl rfl ?_
            refine XS.dup X101.here hx rfl (hb hby d5_49) rfl rfl ?_
            refine st105 _ ?_
            show Steps p.tables e below (T105.setTop (mkF m 53 #[vR o0, vD d1, s_, vI (19 : Int32)] [(.long z54_3tft), (.ref o0)])) _
            refine XS.lconst X105.here hx rfl (hb hby d5_53) ?_
            refine Jvm.OwnK.ladd X105.here hx rfl (hb hby d5_54) rfl hz54_4tftt ?_
            refine st107 _ ?_
            show Steps p.tables e below (T107.setTop (mkF m 58 #[vR o0, vD d1, s_, vI (19 : Int32)] [])) _
            refine XS.goto X107.here hx rfl (pc0 := 58) (pc' := 15) rfl (hb hby d5_58) (by decide) (by decide) ?_
            refine XS.iloadN X107.here hx rfl (hb hby d5_15) rfl ?_
            refine XS.aloadN X107.here hx rfl (hb hby d5_16) rfl rfl ?_
            refine st110 _ ?_
            show Steps p.tables e below (T110.setTop (mkF m 20 #[vR o0, vD d1, s_, vI (19 : Int32)] [(.int (16 : Int32)), (.int (19 : Int32))])) _
            refine XS.icmpYes X110.here hx rfl (pc0 := 20) (pc' := 61) rfl (hb hby d5_20) rfl (Jvm.Free.XT.ii_ge_t (by decide)) (by decide) (by decide) ?_
            refine XS.iloadN X110.here hx rfl (hb hby d5_61) rfl ?_
            refine XS.aloadN X110.here hx rfl (hb hby d5_62) rfl rfl ?_
            refine st111 _ ?_
            show Steps p.tables e below (T111.setTop (mkF m 66 #[vR o0, vD d1, s_, vI (19 : Int32)] [(.int (16 : Int32)), (.int (19 : Int32))])) _
            refine Jvm.OwnK.isub X111.here hx rfl (hb hby d5_66) rfl (v := (3 : Int32)) (by decide) ?_
            refine XS.iconst X111.here hx rfl (hb hby d5_67) ?_
            refine Jvm.OwnK.iadd X111.here hx rfl (hb hby d5_68) rfl (v := (4 : Int32)) (by decide) ?_
            exact k
          obtain ⟨fs, hr, hrun, hended, hW, hsame⟩ := X111.leave (v := some (.int (4 : Int32))) (fun h => by rw [Bd.returns] at h; cases h)
          refine ⟨_, _, c112 _ ?_, hrun, hended, _, _, rfl, ?_, ⟨_, rfl⟩, hW, hsame.mono (by decide) (by decide)⟩
          · show Steps p.tables e below (T111.setTop (mkF m 69 #[vR o0, vD d1, s_, vI (19 : Int32)] [(.int (4 : Int32))])) _
            exact retOut X111 hx Bd.returns rfl (Or.inl ⟨rfl, by simp, _, rfl⟩) (hb hby d5_69) hr
          · show Q5 Z o0 d1 qd y0 y1 y2 y3 y4 y5 y6 y7 y8 y9 y10 y11 y12 y13 y14 y15 y16 y17 y18 y19 y20 y21 y22 y23 y24 y25 y26 y27 y28 y29 y30 y31 qc qg z7 z32t z54t z32_2t z54_2tt z32_3tt z54_3ttt z32_4ttt z54_4tttt z54_4tttf z54_3ttf z32_4ttf z54_4ttft z54_4ttff z54_2tf z32_3tf z54_3tft z32_4tft z54_4tftt z54_4tftf z54_3tff z32_4tff z54_4tfft z54_4tfff rv h0 n0 _ T111.heap _
            rw [e111]
            exact ⟨z54_4tftt, (congrArg (fun z => some (Value.int z)) (show (4 : Int32) = rv by rw [← hrv]; simp only [if_neg hb8, if_neg hb33_2t, if_pos hb33_3tf, if_pos hb33_4tft])), N107, K108, (f100.other W107 (Or.inr (slot_ne (Or.inl (hwi hw 20 rfl)) (Or.inl (hwi hw 52 rfl)) (by decide) (t := (.array .double)) (t' := .long) (by decide) (by decide)))), f109, F107w, (f106.wr W107)⟩
        · skip
          obtain ⟨T113, X113, e113, st113⟩ := getF X101 hx hZ hown (host := "") (Or.inl (hwi hw 51 rfl)) Via.refl e101 F96w (g := (mkF m 50 #[vR o0, vD d1, s_, vI (18 : Int32)] [(.ref o0), (.ref o0)])) rfl rfl (hb hby d5_50)
          have f114 := (f95.wr W96)
          obtain ⟨T115, h115, X115, e115, W115, st115⟩ := putF X113 hx hZ hown (host := "") (Or.inl (hwi hw 51 rfl)) Via.refl e113 F96w f114 (Or.inl (hwi hw 52 rfl)) (hwi hw 3 rfl) (ty := .long) (by decide) rfl rfl (g := (mkF m 55 #[vR o0, vD d1, s_, vI (18 : Int32)] [(.long z54_4tftf), (.ref o0)])) rfl rfl (hb hby d5_55)
          have N115 := Fr.snoc X115 N96 qU
          have K116 : Keep h0 h115 [o0] := K97.wr W115 (Or.inl (by simp))
          have F115w := F96w.same W115
          have f117 := (f98.other W115 (Or.inr (slot_ne (Or.inl (hwi hw 22 rfl)) (Or.inl (hwi hw 52 rfl)) (by decide) (t := .int) (t' := .long) (by decide) (by decide))))
          obtain ⟨T118, X118, e118, st118⟩ := getF X115 hx hZ hown (host := "") (Or.inl (hwi hw 21 rfl)) Via.refl e115 f117 (g := (mkF m 17 #[vR o0, vD d1, s_, vI (18 : Int32)] [(.ref o0), (.int (18 : Int32))])) rfl rfl (hb hby d5_17)
          obtain ⟨T119, X119, e119, st119⟩ := getF X118 hx hZ hown (host := "") (Or.inl (hwi hw 21 rfl)) Via.refl e118 f117 (g := (mkF m 63 #[vR o0, vD d1, s_, vI (18 : Int32)] [(.ref o0), (.int (18 : Int32))])) rfl rfl (hb hby d5_63)
          have c120 : ∀ t, Steps p.tables e below (T119.setTop (mkF m 69 #[vR o0, vD d1, s_, vI (18 : Int32)] [(.int (3 : Int32))])) t → Steps p.tables e below (s₁.setTop (entryFrame m #[(.ref o0), (.double d1)] 4)) t := by
            intro t k
            refine c104 t ?_
            show Steps p.tables e below (T101.setTop (mkF m 33 #[vR o0, vD d1, s_, vI (9 : Int32)] [(.int z32_4tft)])) _
            refine XS.ifNo X101.here hx rfl (hb hby d5_33) rfl (Jvm.Free.XT.i0_gt_f hb33_4tft) ?_
            refine XS.iconst X101.here hx rfl (hb hby d5_36) ?_
            refine XS.iloadN X101.here hx rfl (hb hby d5_37) rfl ?_
            refine Jvm.OwnK.imul X101.here hx rfl (hb hby d5_38) rfl (v := (18 : Int32)) (by decide) ?_
            refine XS.goto X101.here hx rfl (pc0 := 39) (pc' := 47) rfl (hb hby d5_39) (by decide) (by decide) ?_
            refine XS.istoreN X101.here hx rfl (hb hby d5_47) rfl (l' := #[vR o0, vD d1, s_, vI (18 : Int32)]) rfl ?_
            show Steps p.tables e below (T101.setTop (mkF m 48 #[vR o0, vD d1, s_, vI (18 : Int32)] [])) _
            refine XS.aloadN X101.here hx rfl (hb hby d5_48) rfl rfl ?_
            refine XS.dup X101.here hx rfl (hb hby d5_49) rfl rfl ?_
            refine st113 _ ?_
            show Steps p.tables e below (T113.setTop (mkF m 53 #[vR o0, vD d1, s_, vI (18 : Int32)] [(.long z54_3tft), (.ref o0)])) _
            refine XS.lconst X113.here hx rfl (hb hby d5_53) ?_
            refine Jvm.OwnK.ladd X113.here hx rfl (hb hby d5_54) rfl hz54_4tftf ?_
            refine st115 _ ?_
            show Steps p.tables e below (T115.setTop (mkF m 58 #[vR o0, vD d1, s_, vI (18 : Int32)] [])) _
            refine XS.goto X115.here hx rfl (pc0 := 58) (pc' := 15) rfl (hb hby d5_58) (by decide) (by decide) ?_
            refine XS.iloadN X115.here hx rfl (hb hby d5_15) rfl ?_
            refine XS.aloadN X115.here hx rfl (hb hby d5_16) rfl rfl ?_
            refine st118 _ ?_
            show Steps p.tables e below (T118.setTop (mkF m 20 #[vR o0, vD d1, s_, vI (18 : Int32)] [(.int (16 : Int32)), (.int (18 : Int32))])) _
            refine XS.icmpYes X118.here hx rfl (pc0 := 20) (pc' := 61) rfl (hb hby d5_20) rfl (Jvm.Free.XT.ii_ge_t (by decide)) (by decide) (by decide) ?_
            refine XS.iloadN X118.here hx rfl (hb hby d5_61) rfl ?_
            refine XS.aloadN X118.here hx rfl (hb hby d5_62) rfl rfl ?_
            refine st119 _ ?_
            show Steps p.tables e below (T119.setTop (mkF m 66 #[vR o0, vD d1, s_, vI (18 : Int32)] [(.int (16 : Int32)), (.int (18 : Int32))])) _
            refine Jvm.OwnK.isub X119.here hx rfl (hb hby d5_66) rfl (v := (2 : Int32)) (by decide) ?_
            refine XS.iconst X119.here hx rfl (hb hby d5_67) ?_
            refine Jvm.OwnK.iadd X119.here hx rfl (hb hby d5_68) rfl (v := (3 : Int32)) (by decide) ?_
            exact k
          obtain ⟨fs, hr, hrun, hended, hW, hsame⟩ := X119.leave (v := some (.int (3 : Int32))) (fun h => by rw [Bd.returns] at h; cases h)
          refine ⟨_, _, c120 _ ?_, hrun, hended, _, _, rfl, ?_, ⟨_, rfl⟩, hW, hsame.mono (by decide) (by decide)⟩
          · show Steps p.tables e below (T119.setTop (mkF m 69 #[vR o0, vD d1, s_, vI (18 : Int32)] [(.int (3 : Int32))])) _
            exact retOut X119 hx Bd.returns rfl (Or.inl ⟨rfl, by simp, _, rfl⟩) (hb hby d5_69) hr
          · show Q5 Z o0 d1 qd y0 y1 y2 y3 y4 y5 y6 y7 y8 y9 y10 y11 y12 y13 y14 y15 y16 y17 y18 y19 y20 y21 y22 y23 y24 y25 y26 y27 y28 y29 y30 y31 qc qg z7 z32t z54t z32_2t z54_2tt z32_3tt z54_3ttt z32_4ttt z54_4tttt z54_4tttf z54_3ttf z32_4ttf z54_4ttft z54_4ttff z54_2tf z32_3tf z54_3tft z32_4tft z54_4tftt z54_4tftf z54_3tff z32_4tff z54_4tfft z54_4tfff rv h0 n0 _ T119.heap _
            rw [e119]
            exact ⟨z54_4tftf, (congrArg (fun z => some (Value.int z)) (show (3 : Int32) = rv by rw [← hrv]; simp only [if_neg hb8, if_neg hb33_2t, if_pos hb33_3tf, if_neg hb33_4tft])), N115, K116, (f100.other W115 (Or.inr (slot_ne (Or.inl (hwi hw 20 rfl)) (Or.inl (hwi hw 52 rfl)) (by decide) (t := (.array .double)) (t' := .long) (by decide) (by decide)))), f117, F115w, (f114.wr W115)⟩
      · skip
        obtain ⟨T121, X121, e121, st121⟩ := getF X90 hx hZ hown (host := "") (Or.inl (hwi hw 51 rfl)) Via.refl e90 F85w (g := (mkF m 50 #[vR o0, vD d1, s_, vI (8 : Int32)] [(.ref o0), (.ref o0)])) rfl rfl (hb hby d5_50)
        have f122 := (f84.wr W85)
        obtain ⟨T123, h123, X123, e123, W123, st123⟩ := putF X121 hx hZ hown (host := "") (Or.inl (hwi hw 51 rfl)) Via.refl e121 F85w f122 (Or.inl (hwi hw 52 rfl)) (hwi hw 3 rfl) (ty := .long) (by decide) rfl rfl (g := (mkF m 55 #[vR o0, vD d1, s_, vI (8 : Int32)] [(.long z54_3tff), (.ref o0)])) rfl rfl (hb hby d5_55)
        have N123 := Fr.snoc X123 N85 qU
        have K124 : Keep h0 h123 [o0] := K86.wr W123 (Or.inl (by simp))
        have F123w := F85w.same W123
        have f125 := (f87.other W123 (Or.inr (slot_ne (Or.inl (hwi hw 22 rfl)) (Or.inl (hwi hw 52 rfl)) (by decide) (t := .int) (t' := .long) (by decide) (by decide))))
        obtain ⟨T126, X126, e126, st126⟩ := getF X123 hx hZ hown (host := "") (Or.inl (hwi hw 21 rfl)) Via.refl e123 f125 (g := (mkF m 17 #[vR o0, vD d1, s_, vI (8 : Int32)] [(.ref o0), (.int (8 : Int32))])) rfl rfl (hb hby d5_17)
        have f127 := (f89.other W123 (Or.inr (slot_ne (Or.inl (hwi hw 20 rfl)) (Or.inl (hwi hw 52 rfl)) (by decide) (t := (.array .double)) (t' := .long) (by decide) (by decide))))
        obtain ⟨T128, X128, e128, st128⟩ := getF X126 hx hZ hown (host := "") (Or.inl (hwi hw 19 rfl)) Via.refl e126 f127 (g := (mkF m 24 #[vR o0, vD d1, s_, vI (8 : Int32)] [(.ref o0)])) rfl rfl (hb hby d5_24)
        have f129 := (f91.other W123 (Ne.symm qe))
        obtain ⟨cl130, Ar130, -, S130, -, Ha130, -⟩ := id f129
        have in130 : ¬ ((16 : Int32) < 0 ∨ cl130.slots.size ≤ ((16 : Int32)).toNatClampNeg) := inb_of S130 ⟨by decide, by decide⟩
        have c131 : ∀ t, Steps p.tables e below (T128.setTop (mkF m 33 #[vR o0, vD d1, s_, vI (8 : Int32)] [(.int z32_4tff)])) t → Steps p.tables e below (s₁.setTop (entryFrame m #[(.ref o0), (.double d1)] 4)) t := by
          intro t k
          refine c93 t ?_
          show Steps p.tables e below (T90.setTop (mkF m 33 #[vR o0, vD d1, s_, vI (4 : Int32)] [(.int z32_3tf)])) _
          refine XS.ifNo X90.here hx rfl (hb hby d5_33) rfl (Jvm.Free.XT.i0_gt_f hb33_3tf) ?_
          refine XS.iconst X90.here hx rfl (hb hby d5_36) ?_
          refine XS.iloadN X90.here hx rfl (hb hby d5_37) rfl ?_
          refine Jvm.OwnK.imul X90.here hx rfl (hb hby d5_38) rfl (v := (8 : Int32)) (by decide) ?_
          refine XS.goto X90.here hx rfl (pc0 := 39) (pc' := 47) rfl (hb hby d5_39) (by decide) (by decide) ?_
          refine XS.istoreN X90.here hx rfl (hb hby d5_47) rfl (l' := #[vR o0, vD d1, s_, vI (8 : Int32)]) rfl ?_
          show Steps p.tables e below (T90.setTop (mkF m 48 #[vR o0, vD d1, s_, vI (8 : Int32)] [])) _
          refine XS.aloadN X90.here hx rfl (hb hby d5_48) rfl rfl ?_
          refine XS.dup X90.here hx rfl (hb hby d5_49) rfl rfl ?_
          refine st121 _ ?_
          show Steps p.tables e below (T121.setTop (mkF m 53 #[vR o0, vD d1, s_, vI (8 : Int32)] [(.long z54_2tf), (.ref o0)])) _
          refine XS.lconst X121.here hx rfl (hb hby d5_53) ?_
          refine Jvm.OwnK.ladd X121.here hx rfl (hb hby d5_54) rfl hz54_3tff ?_
          refine st123 _ ?_
          show Steps p.tables e below (T123.setTop (mkF m 58 #[vR o0, vD d1, s_, vI (8 : Int32)] [])) _
          refine XS.goto X123.here hx rfl (pc0 := 58) (pc' := 15) rfl (hb hby d5_58) (by decide) (by decide) ?_
          refine XS.iloadN X123.here hx rfl (hb hby d5_15) rfl ?_
          refine XS.aloadN X123.here hx rfl (hb hby d5_16) rfl rfl ?_
          refine st126 _ ?_
          show Steps p.tables e below (T126.setTop (mkF m 20 #[vR o0, vD d1, s_, vI (8 : Int32)] [(.int (16 : Int32)), (.int (8 : Int32))])) _
          refine XS.icmpNo X126.here hx rfl (hb hby d5_20) rfl (Jvm.Free.XT.ii_ge_f (by decide)) ?_
          refine XS.aloadN X126.here hx rfl (hb hby d5_23) rfl rfl ?_
          refine st128 _ ?_
          show Steps p.tables e below (T128.setTop (mkF m 27 #[vR o0, vD d1, s_, vI (8 : Int32)] [(.ref qc)])) _
          refine XS.iconst X128.here hx rfl (hb hby d5_27) ?_
          refine XS.iloadN X128.here hx rfl (hb hby d5_28) rfl ?_
          refine Jvm.OwnK.imul X128.here hx rfl (hb hby d5_29) rfl (v := (16 : Int32)) (by decide) ?_
          refine X128.daload hx (j := (16 : Int32)) (v := (.double y16)) (by rw [e128]; exact Ar130.1) (State.isArrayOf_alike hZ.alike Ar130.2.1) Ar130.2.2 in130 (Has.at Ha130 in130 rfl) (g := (mkF m 30 #[vR o0, vD d1, s_, vI (8 : Int32)] [(.int (16 : Int32)), (.ref qc)])) rfl rfl (hb hby d5_30) _ ?_
          refine XS.dloadN X128.here hx rfl (hb hby d5_31) rfl ?_
          refine XS.dcmpS X128.here hx rfl (hb hby d5_32) rfl hz32_4tff ?_
          exact k
        by_cases hb33_4tff : (0 : Int32) < z32_4tff
        · skip
          obtain ⟨T132, X132, e132, st132⟩ := getF X128 hx hZ hown (host := "") (Or.inl (hwi hw 51 rfl)) Via.refl e128 F123w (g := (mkF m 50 #[vR o0, vD d1, s_, vI (17 : Int32)] [(.ref o0), (.ref o0)])) rfl rfl (hb hby d5_50)
          have f133 := (f122.wr W123)
          obtain ⟨T134, h134, X134, e134, W134, st134⟩ := putF X132 hx hZ hown (host := "") (Or.inl (hwi hw 51 rfl)) Via.refl e132 F123w f133 (Or.inl (hwi hw 52 rfl)) (hwi hw 3 rfl) (ty := .long) (by decide) rfl rfl (g := (mkF m 55 #[vR o0, vD d1, s_, vI (17 : Int32)] [(.long z54_4tfft), (.ref o0)])) rfl rfl (hb hby d5_55)
          have N134 := Fr.snoc X134 N123 qU
          have K135 : Keep h0 h134 [o0] := K124.wr W134 (Or.inl (by simp))
          have F134w := F123w.same W134
          have f136 := (f125.other W134 (Or.inr (slot_ne (Or.inl (hwi hw 22 rfl)) (Or.inl (hwi hw 52 rfl)) (by decide) (t := .int) (t' := .long) (by decide) (by decide))))
          obtain ⟨T137, X137, e137, st137⟩ := getF X134 hx hZ hown (host := "") (Or.inl (hwi hw 21 rfl)) Via.refl e134 f136 (g := (mkF m 17 #[vR o0, vD d1, s_, vI (17 : Int32)] [(.ref o0), (.int (17 : Int32))])) rfl rfl (hb hby d5_17)
          obtain ⟨T138, X138, e138, st138⟩ := getF X137 hx hZ hown (host := "") (Or.inl (hwi hw 21 rfl)) Via.refl e137 f136 (g := (mkF m 63 #[vR o0, vD d1, s_, vI (17 : Int32)] [(.ref o0), (.int (17 : Int32))])) rfl rfl (hb hby d5_63)
          have c139 : ∀ t, Steps p.tables e below (T138.setTop (mkF m 69 #[vR o0, vD d1, s_, vI (17 : Int32)] [(.int (2 : Int32))])) t → Steps p.tables e below (s₁.setTop (entryFrame m #[(.ref o0), (.double d1)] 4)) t := by
            intro t k
            refine c131 t ?_
            show Steps p.tables e below (T128.setTop (mkF m 33 #[vR o0, vD d1, s_, vI (8 : Int32)] [(.int z32_4tff)])) _
            refine XS.ifYes X128.here hx rfl (pc0 := 33) (pc' := 42) rfl (hb hby d5_33) rfl (Jvm.Free.XT.i0_gt_t hb33_4tff) (by decide) (by decide) ?_
            refine XS.iconst X128.here hx rfl (hb hby d5_42) ?_
            refine XS.iloadN X128.here hx rfl (hb hby d5_43) rfl ?_
            refine Jvm.OwnK.imul X128.here hx rfl (hb hby d5_44) rfl (v := (16 : Int32)) (by decide) ?_
            refine XS.iconst X128.here hx rfl (hb hby d5_45) ?_
            refine Jvm.OwnK.iadd X128.here hx rfl (hb hby d5_46) rfl (v := (17 : Int32)) (by decide) ?_
            show Steps p.tables e below (T128.setTop (mkF m 47 #[vR o0, vD d1, s_, vI (8 : Int32)] [(.int (17 : Int32))])) _
            refine XS.istoreN X128.here hx rfl (hb hby d5_47) rfl (l' := #[vR o0, vD d1, s_, vI (17 : Int32)]) rfl ?_
            refine XS.aloadN X128.here hx rfl (hb hby d5_48) rfl rfl ?_
            refine XS.dup X128.here hx rfl (hb hby d5_49) rfl rfl ?_
            refine st132 _ ?_
            show Steps p.tables e below (T132.setTop (mkF m 53 #[vR o0, vD d1, s_, vI (17 : Int32)] [(.long z54_3tff), (.ref o0)])) _
            refine XS.lconst X132.here hx rfl (hb hby d5_53) ?_
            refine Jvm.OwnK.ladd X132.here hx rfl (hb hby d5_54) rfl hz54_4tfft ?_
            refine st134 _ ?_
            show Steps p.tables e below (T134.setTop (mkF m 58 #[vR o0, vD d1, s_, vI (17 : Int32)] [])) _
            refine XS.goto X134.here hx rfl (pc0 := 58) (pc' := 15) rfl (hb hby d5_58) (by decide) (by decide) ?_
            refine XS.iloadN X134.here hx rfl (hb hby d5_15) rfl ?_
            refine XS.aloadN X134.here hx rfl (hb hby d5_16) rfl rfl ?_
            refine st137 _ ?_
            show Steps p.tables e below (T137.setTop (mkF m 20 #[vR o0, vD d1, s_, vI (17 : Int32)] [(.int (16 : Int32)), (.int (17 : Int32))])) _
            refine XS.icmpYes X137.here hx rfl (pc0 := 20) (pc' := 61) rfl (hb hby d5_20) rfl (Jvm.Free.XT.ii_ge_t (by decide)) (by decide) (by decide) ?_
            refine XS.iloadN X137.here hx rfl (hb hby d5_61) rfl ?_
            refine XS.aloadN X137.here hx rfl (hb hby d5_62) rfl rfl ?_
            refine st138 _ ?_
            show Steps p.tables e below (T138.setTop (mkF m 66 #[vR o0, vD d1, s_, vI (17 : Int32)] [(.int (16 : Int32)), (.int (17 : Int32))])) _
            refine Jvm.OwnK.isub X138.here hx rfl (hb hby d5_66) rfl (v := (1 : Int32)) (by decide) ?_
            refine XS.iconst X138.here hx rfl (hb hby d5_67) ?_
            refine Jvm.OwnK.iadd X138.here hx rfl (hb hby d5_68) rfl (v := (2 : Int32)) (by decide) ?_
            exact k
          obtain ⟨fs, hr, hrun, hended, hW, hsame⟩ := X138.leave (v := some (.int (2 : Int32))) (fun h => by rw [Bd.returns] at h; cases h)
          refine ⟨_, _, c139 _ ?_, hrun, hended, _, _, rfl, ?_, ⟨_, rfl⟩, hW, hsame.mono (by decide) (by decide)⟩
          · show Steps p.tables e below (T138.setTop (mkF m 69 #[vR o0, vD d1, s_, vI (17 : Int32)] [(.int (2 : Int32))])) _
            exact retOut X138 hx Bd.returns rfl (Or.inl ⟨rfl, by simp, _, rfl⟩) (hb hby d5_69) hr
          · show Q5 Z o0 d1 qd y0 y1 y2 y3 y4 y5 y6 y7 y8 y9 y10 y11 y12 y13 y14 y15 y16 y17 y18 y19 y20 y21 y22 y23 y24 y25 y26 y27 y28 y29 y30 y31 qc qg z7 z32t z54t z32_2t z54_2tt z32_3tt z54_3ttt z32_4ttt z54_4tttt z54_4tttf z54_3ttf z32_4ttf z54_4ttft z54_4ttff z54_2tf z32_3tf z54_3tft z32_4tft z54_4tftt z54_4tftf z54_3tff z32_4tff z54_4tfft z54_4tfff rv h0 n0 _ T138.heap _
            rw [e138]
            exact ⟨z54_4tfft, (congrArg (fun z => some (Value.int z)) (show (2 : Int32) = rv by rw [← hrv]; simp only [if_neg hb8, if_neg hb33_2t, if_neg hb33_3tf, if_pos hb33_4tff])), N134, K135, (f127.other W134 (Or.inr (slot_ne (Or.inl (hwi hw 20 rfl)) (Or.inl (hwi hw 52 rfl)) (by decide) (t := (.array .double)) (t' := .long) (by decide) (by decide)))), f136, F134w, (f133.wr W134)⟩
        · skip
          obtain ⟨T140, X140, e140, st140⟩ := getF X128 hx hZ hown (host := "") (Or.inl (hwi hw 51 rfl)) Via.refl e128 F123w (g := (mkF m 50 #[vR o0, vD d1, s_, vI (16 : Int32)] [(.ref o0), (.ref o0)])) rfl rfl (hb hby d5_50)
          have f141 := (f122.wr W123)
          obtain ⟨T142, h142, X142, e142, W142, st142⟩ := putF X140 hx hZ hown (host := "") (Or.inl (hwi hw 51 rfl)) Via.refl e140 F123w f141 (Or.inl (hwi hw 52 rfl)) (hwi hw 3 rfl) (ty := .long) (by decide) rfl rfl (g := (mkF m 55 #[vR o0, vD d1, s_, vI (16 : Int32)] [(.long z54_4tfff), (.ref o0)])) rfl rfl (hb hby d5_55)
          have N142 := Fr.snoc X142 N123 qU
          have K143 : Keep h0 h142 [o0] := K124.wr W142 (Or.inl (by simp))
          have F142w := F123w.same W142
          have f144 := (f125.other W142 (Or.inr (slot_ne (Or.inl (hwi hw 22 rfl)) (Or.inl (hwi hw 52 rfl)) (by decide) (t := .int) (t' := .long) (by decide) (by decide))))
          obtain ⟨T145, X145, e145, st145⟩ := getF X142 hx hZ hown (host := "") (Or.inl (hwi hw 21 rfl)) Via.refl e142 f144 (g := (mkF m 17 #[vR o0, vD d1, s_, vI (16 : Int32)] [(.ref o0), (.int (16 : Int32))])) rfl rfl (hb hby d5_17)
          obtain ⟨T146, X146, e146, st146⟩ := getF X145 hx hZ hown (host := "") (Or.inl (hwi hw 21 rfl)) Via.refl e145 f144 (g := (mkF m 63 #[vR o0, vD d1, s_, vI (16 : Int32)] [(.ref o0), (.int (16 : Int32))])) rfl rfl (hb hby d5_63)
          have c147 : ∀ t, Steps p.tables e below (T146.setTop (mkF m 69 #[vR o0, vD d1, s_, vI (16 : Int32)] [(.int (1 : Int32))])) t → Steps p.tables e below (s₁.setTop (entryFrame m #[(.ref o0), (.double d1)] 4)) t := by
            intro t k
            refine c131 t ?_
            show Steps p.tables e below (T128.setTop (mkF m 33 #[vR o0, vD d1, s_, vI (8 : Int32)] [(.int z32_4tff)])) _
            refine XS.ifNo X128.here hx rfl (hb hby d5_33) rfl (Jvm.Free.XT.i0_gt_f hb33_4tff) ?_
            refine XS.iconst X128.here hx rfl (hb hby d5_36) ?_
            refine XS.iloadN X128.here hx rfl (hb hby d5_37) rfl ?_
            refine Jvm.OwnK.imul X128.here hx rfl (hb hby d5_38) rfl (v := (16 : Int32)) (by decide) ?_
            refine XS.goto X128.here hx rfl (pc0 := 39) (pc' := 47) rfl (hb hby d5_39) (by decide) (by decide) ?_
            refine XS.istoreN X128.here hx rfl (hb hby d5_47) rfl (l' := #[vR o0, vD d1, s_, vI (16 : Int32)]) rfl ?_
            show Steps p.tables e below (T128.setTop (mkF m 48 #[vR o0, vD d1, s_, vI (16 : Int32)] [])) _
            refine XS.aloadN X128.here hx rfl (hb hby d5_48) rfl rfl ?_
            refine XS.dup X128.here hx rfl (hb hby d5_49) rfl rfl ?_
            refine st140 _ ?_
            show Steps p.tables e below (T140.setTop (mkF m 53 #[vR o0, vD d1, s_, vI (16 : Int32)] [(.long z54_3tff), (.ref o0)])) _
            refine XS.lconst X140.here hx rfl (hb hby d5_53) ?_
            refine Jvm.OwnK.ladd X140.here hx rfl (hb hby d5_54) rfl hz54_4tfff ?_
            refine st142 _ ?_
            show Steps p.tables e below (T142.setTop (mkF m 58 #[vR o0, vD d1, s_, vI (16 : Int32)] [])) _
            refine XS.goto X142.here hx rfl (pc0 := 58) (pc' := 15) rfl (hb hby d5_58) (by decide) (by decide) ?_
            refine XS.iloadN X142.here hx rfl (hb hby d5_15) rfl ?_
            refine XS.aloadN X142.here hx rfl (hb hby d5_16) rfl rfl ?_
            refine st145 _ ?_
            show Steps p.tables e below (T145.setTop (mkF m 20 #[vR o0, vD d1, s_, vI (16 : Int32)] [(.int (16 : Int32)), (.int (16 : Int32))])) _
            refine XS.icmpYes X145.here hx rfl (pc0 := 20) (pc' := 61) rfl (hb hby d5_20) rfl (Jvm.Free.XT.ii_ge_t (by decide)) (by decide) (by decide) ?_
            refine XS.iloadN X145.here hx rfl (hb hby d5_61) rfl ?_
            refine XS.aloadN X145.here hx rfl (hb hby d5_62) rfl rfl ?_
            refine st146 _ ?_
            show Steps p.tables e below (T146.setTop (mkF m 66 #[vR o0, vD d1, s_, vI (16 : Int32)] [(.int (16 : Int32)), (.int (16 : Int32))])) _
            refine Jvm.OwnK.isub X146.here hx rfl (hb hby d5_66) rfl (v := (0 : Int32)) (by decide) ?_
            refine XS.iconst X146.here hx rfl (hb hby d5_67) ?_
            refine Jvm.OwnK.iadd X146.here hx rfl (hb hby d5_68) rfl (v := (1 : Int32)) (by decide) ?_
            exact k
          obtain ⟨fs, hr, hrun, hended, hW, hsame⟩ := X146.leave (v := some (.int (1 : Int32))) (fun h => by rw [Bd.returns] at h; cases h)
          refine ⟨_, _, c147 _ ?_, hrun, hended, _, _, rfl, ?_, ⟨_, rfl⟩, hW, hsame.mono (by decide) (by decide)⟩
          · show Steps p.tables e below (T146.setTop (mkF m 69 #[vR o0, vD d1, s_, vI (16 : Int32)] [(.int (1 : Int32))])) _
            exact retOut X146 hx Bd.returns rfl (Or.inl ⟨rfl, by simp, _, rfl⟩) (hb hby d5_69) hr
          · show Q5 Z o0 d1 qd y0 y1 y2 y3 y4 y5 y6 y7 y8 y9 y10 y11 y12 y13 y14 y15 y16 y17 y18 y19 y20 y21 y22 y23 y24 y25 y26 y27 y28 y29 y30 y31 qc qg z7 z32t z54t z32_2t z54_2tt z32_3tt z54_3ttt z32_4ttt z54_4tttt z54_4tttf z54_3ttf z32_4ttf z54_4ttft z54_4ttff z54_2tf z32_3tf z54_3tft z32_4tft z54_4tftt z54_4tftf z54_3tff z32_4tff z54_4tfft z54_4tfff rv h0 n0 _ T146.heap _
            rw [e146]
            exact ⟨z54_4tfff, (congrArg (fun z => some (Value.int z)) (show (1 : Int32) = rv by rw [← hrv]; simp only [if_neg hb8, if_neg hb33_2t, if_neg hb33_3tf, if_neg hb33_4tff])), N142, K143, (f127.other W142 (Or.inr (slot_ne (Or.inl (hwi hw 20 rfl)) (Or.inl (hwi hw 52 rfl)) (by decide) (t := (.array .double)) (t' := .long) (by decide) (by decide)))), f144, F142w, (f141.wr W142)⟩
def Q6 (Z : State) (o0 : Addr) (p1 : Int32) (d2 : UInt64) (qcP : ClassId) (y0 y1 y2 y3 y4 y5 y6 y7 : UInt64) (z8 z23 z38 z53 z68 z83 z101 z119 rv : Int32) (h0 : Heap) (n0 : Nat) (v : Option Value) (h : Heap) (L : List Loc) : Prop := v = some (.int rv) ∧ Fr n0 L ∧ h = h0
set_option maxRecDepth 65536 in
set_option maxHeartbeats 40000000 in
theorem rm6 (l : Launch) (Z : State) (a0 : Array Value) (hw : ∀ d ∈ tables_1, d.before a0 Z = true) (ws : List Jvm.Cond) (o0 : Addr) (p1 : Int32) (d2 : UInt64) (qcP : ClassId) (y0 y1 y2 y3 y4 y5 y6 y7 : UInt64) (z8 z23 z38 z53 z68 z83 z101 z119 rv : Int32) (h0 : Heap) (n0 : Nat) (Z0 : n0 ≤ h0.size) (qh6 : Arv Z h0 o0 qcP .double (8 : Int32) (t8 y0 y1 y2 y3 y4 y5 y6 y7) (.double (0 : UInt64))) (hz8 : cmpValue (FP.dcmp y0 d2) .g = z8) (hz23 : cmpValue (FP.dcmp y1 d2) .g = z23) (hz38 : cmpValue (FP.dcmp y2 d2) .g = z38) (hz53 : cmpValue (FP.dcmp y3 d2) .g = z53) (hz68 : cmpValue (FP.dcmp y4 d2) .g = z68) (hz83 : cmpValue (FP.dcmp y5 d2) .g = z83) (hz101 : cmpValue (FP.dcmp y6 d2) .g = z101) (hz119 : cmpValue (FP.dcmp y7 d2) .g = z119) (hrv : (if (0 : Int32) < p1 then (if (0 : Int32) < z8 then (if (1 : Int32) < p1 then (if (0 : Int32) < z23 then (if (2 : Int32) < p1 then (if (0 : Int32) < z38 then (if (3 : Int32) < p1 then (if (0 : Int32) < z53 then (if (4 : Int32) < p1 then (if (0 : Int32) < z68 then (if (5 : Int32) < p1 then (if (0 : Int32) < z83 then (if (6 : Int32) < p1 then (if (0 : Int32) < z101 then (if (7 : Int32) < p1 then (if (0 : Int32) < z119 then (0 : Int32) else (8 : Int32)) else (0 : Int32)) else (7 : Int32)) else (0 : Int32)) else (6 : Int32)) else (0 : Int32)) else (5 : Int32)) else (0 : Int32)) else (4 : Int32)) else (0 : Int32)) else (3 : Int32)) else (0 : Int32)) else (2 : Int32)) else (0 : Int32)) else (1 : Int32)) else (0 : Int32)) = rv) :
    MetFree l (⟨"com/example/kinetic_fleet/kineticfleet/fleet/MachineTimesFirstByPinLaw", "ref", "([DID)I"⟩ : MethodName) (head1 (Jvm.Cond.code (⟨"com/example/kinetic_fleet/kineticfleet/fleet/MachineTimesFirstByPinLaw", "ref", "([DID)I"⟩ : MethodName) method_3_code 4 (some .int) :: ws) ({ frames := 0, cells := 0, slots := 0, locals := 0 } : Room)) (fun a U => a = #[(.ref o0), (.int p1), (.double d2)] ∧ Z.Warmed39 U.vm ∧ U.heap = h0) (fun _ _ _ _ _ => True) (fun _ U o U' => ∃ v L, o = .returned v ∧ Q6 Z o0 p1 d2 qcP y0 y1 y2 y3 y4 y5 y6 y7 z8 z23 z38 z53 z68 z83 z101 z119 rv h0 n0 v U'.heap L ∧ FrameEnd U o U' L ({ frames := 0, cells := 0, slots := 0, locals := 0 } : Room).cells ({ frames := 0, cells := 0, slots := 0, locals := 0 } : Room).slots) := by
  refine MetFree.of_bodySF (plainFor_of_name pn_3) hisR ?_
  intro p e s m args below meth c s₁ Bd hml0 hP hK
  obtain ⟨rfl, hZ, hh⟩ := hP
  have hx := Bd.exec
  have hby := Bd.bytes
  have hml : c.maxLocals = 4 := hml0
  have hown : s.vm.findClass "com/example/kinetic_fleet/kineticfleet/fleet/MachineTimesFirstByPinLaw" = some m.cls := findClass_of_methodNamed Bd.named
  have hnm := (name_of_methodNamed Bd.named Bd.method).1
  have X0 : Stand p l e ({ frames := 0, cells := 0, slots := 0, locals := 0 } : Room) s m #[(.ref o0), (.int p1), (.double d2)] below meth c s₁ [] 0 0 := Stand.of_body Bd
  have e0 : s₁.heap = h0 := by rw [← hh, Bd.state]; rfl
  have N0 := Fr.nil n0
  have c0 : ∀ t, Steps p.tables e below (s₁.setTop (mkF m 0 #[vR o0, vI p1, vD d2, s_] [])) t → Steps p.tables e below (s₁.setTop (entryFrame m #[(.ref o0), (.int p1), (.double d2)] 4)) t := fun t k => castTop (ef_rm6 m o0 p1 d2) k
  have c1 : ∀ t, Steps p.tables e below (s₁.setTop (mkF m 1 #[vR o0, vI p1, vD d2, s_] [(.int p1)])) t → Steps p.tables e below (s₁.setTop (entryFrame m #[(.ref o0), (.int p1), (.double d2)] 4)) t := by
    intro t k
    refine c0 t ?_
    show Steps p.tables e below (s₁.setTop (mkF m 0 #[vR o0, vI p1, vD d2, s_] [])) _
    refine XS.iloadN X0.here hx rfl (hb hby d6_0) rfl ?_
    exact k
  by_cases hb1 : (0 : Int32) < p1
  · skip
    obtain ⟨cl2, Ar2, -, S2, -, Ha2, -⟩ := id qh6
    have in2 : ¬ ((0 : Int32) < 0 ∨ cl2.slots.size ≤ ((0 : Int32)).toNatClampNeg) := inb_of S2 ⟨by decide, by decide⟩
    have c3 : ∀ t, Steps p.tables e below (s₁.setTop (mkF m 9 #[vR o0, vI p1, vD d2, s_] [(.int z8)])) t → Steps p.tables e below (s₁.setTop (entryFrame m #[(.ref o0), (.int p1), (.double d2)] 4)) t := by
      intro t k
      refine c1 t ?_
      show Steps p.tables e below (s₁.setTop (mkF m 1 #[vR o0, vI p1, vD d2, s_] [(.int p1)])) _
      refine XS.ifNo X0.here hx rfl (hb hby d6_1) rfl (Jvm.Free.XT.i0_le_f hb1) ?_
      refine XS.aloadN X0.here hx rfl (hb hby d6_4) rfl rfl ?_
      refine XS.iconst X0.here hx rfl (hb hby d6_5) ?_
      refine X0.daload hx (j := (0 : Int32)) (v := (.double y0)) (by rw [e0]; exact Ar2.1) (State.isArrayOf_alike hZ.alike Ar2.2.1) Ar2.2.2 in2 (Has.at Ha2 in2 rfl) (g := (mkF m 6 #[vR o0, vI p1, vD d2, s_] [(.int (0 : Int32)), (.ref o0)])) rfl rfl (hb hby d6_6) _ ?_
      refine XS.dloadN X0.here hx rfl (hb hby d6_7) rfl ?_
      refine XS.dcmpS X0.here hx rfl (hb hby d6_8) rfl hz8 ?_
      exact k
    by_cases hb9 : (0 : Int32) < z8
    · skip
      have c4 : ∀ t, Steps p.tables e below (s₁.setTop (mkF m 16 #[vR o0, vI p1, vD d2, s_] [(.int (1 : Int32)), (.int p1)])) t → Steps p.tables e below (s₁.setTop (entryFrame m #[(.ref o0), (.int p1), (.double d2)] 4)) t := by
        intro t k
        refine c3 t ?_
        show Steps p.tables e below (s₁.setTop (mkF m 9 #[vR o0, vI p1, vD d2, s_] [(.int z8)])) _
        refine XS.ifYes X0.here hx rfl (pc0 := 9) (pc' := 14) rfl (hb hby d6_9) rfl (Jvm.Free.XT.i0_gt_t hb9) (by decide) (by decide) ?_
        refine XS.iloadN X0.here hx rfl (hb hby d6_14) rfl ?_
        refine XS.iconst X0.here hx rfl (hb hby d6_15) ?_
        exact k
      by_cases hb16 : (1 : Int32) < p1
      · skip
        obtain ⟨cl5, Ar5, -, S5, -, Ha5, -⟩ := id qh6
        have in5 : ¬ ((1 : Int32) < 0 ∨ cl5.slots.size ≤ ((1 : Int32)).toNatClampNeg) := inb_of S5 ⟨by decide, by decide⟩
        have c6 : ∀ t, Steps p.tables e below (s₁.setTop (mkF m 24 #[vR o0, vI p1, vD d2, s_] [(.int z23)])) t → Steps p.tables e below (s₁.setTop (entryFrame m #[(.ref o0), (.int p1), (.double d2)] 4)) t := by
          intro t k
          refine c4 t ?_
          show Steps p.tables e below (s₁.setTop (mkF m 16 #[vR o0, vI p1, vD d2, s_] [(.int (1 : Int32)), (.int p1)])) _
          refine XS.icmpNo X0.here hx rfl (hb hby d6_16) rfl (Jvm.Free.XT.ii_le_f hb16) ?_
          refine XS.aloadN X0.here hx rfl (hb hby d6_19) rfl rfl ?_
          refine XS.iconst X0.here hx rfl (hb hby d6_20) ?_
          refine X0.daload hx (j := (1 : Int32)) (v := (.double y1)) (by rw [e0]; exact Ar5.1) (State.isArrayOf_alike hZ.alike Ar5.2.1) Ar5.2.2 in5 (Has.at Ha5 in5 rfl) (g := (mkF m 21 #[vR o0, vI p1, vD d2, s_] [(.int (1 : Int32)), (.ref o0)])) rfl rfl (hb hby d6_21) _ ?_
          refine XS.dloadN X0.here hx rfl (hb hby d6_22) rfl ?_
          refine XS.dcmpS X0.here hx rfl (hb hby d6_23) rfl hz23 ?_
          exact k
        by_cases hb24 : (0 : Int32) < z23
        · skip
          have c7 : ∀ t, Steps p.tables e below (s₁.setTop (mkF m 31 #[vR o0, vI p1, vD d2, s_] [(.int (2 : Int32)), (.int p1)])) t → Steps p.tables e below (s₁.setTop (entryFrame m #[(.ref o0), (.int p1), (.double d2)] 4)) t := by
            intro t k
            refine c6 t ?_
            show Steps p.tables e below (s₁.setTop (mkF m 24 #[vR o0, vI p1, vD d2, s_] [(.int z23)])) _
            refine XS.ifYes X0.here hx rfl (pc0 := 24) (pc' := 29) rfl (hb hby d6_24) rfl (Jvm.Free.XT.i0_gt_t hb24) (by decide) (by decide) ?_
            refine XS.iloadN X0.here hx rfl (hb hby d6_29) rfl ?_
            refine XS.iconst X0.here hx rfl (hb hby d6_30) ?_
            exact k
          by_cases hb31 : (2 : Int32) < p1
          · skip
            obtain ⟨cl8, Ar8, -, S8, -, Ha8, -⟩ := id qh6
            have in8 : ¬ ((2 : Int32) < 0 ∨ cl8.slots.size ≤ ((2 : Int32)).toNatClampNeg) := inb_of S8 ⟨by decide, by decide⟩
            have c9 : ∀ t, Steps p.tables e below (s₁.setTop (mkF m 39 #[vR o0, vI p1, vD d2, s_] [(.int z38)])) t → Steps p.tables e below (s₁.setTop (entryFrame m #[(.ref o0), (.int p1), (.double d2)] 4)) t := by
              intro t k
              refine c7 t ?_
              show Steps p.tables e below (s₁.setTop (mkF m 31 #[vR o0, vI p1, vD d2, s_] [(.int (2 : Int32)), (.int p1)])) _
              refine XS.icmpNo X0.here hx rfl (hb hby d6_31) rfl (Jvm.Free.XT.ii_le_f hb31) ?_
              refine XS.aloadN X0.here hx rfl (hb hby d6_34) rfl rfl ?_
              refine XS.iconst X0.here hx rfl (hb hby d6_35) ?_
              refine X0.daload hx (j := (2 : Int32)) (v := (.double y2)) (by rw [e0]; exact Ar8.1) (State.isArrayOf_alike hZ.alike Ar8.2.1) Ar8.2.2 in8 (Has.at Ha8 in8 rfl) (g := (mkF m 36 #[vR o0, vI p1, vD d2, s_] [(.int (2 : Int32)), (.ref o0)])) rfl rfl (hb hby d6_36) _ ?_
              refine XS.dloadN X0.here hx rfl (hb hby d6_37) rfl ?_
              refine XS.dcmpS X0.here hx rfl (hb hby d6_38) rfl hz38 ?_
              exact k
            by_cases hb39 : (0 : Int32) < z38
            · skip
              have c10 : ∀ t, Steps p.tables e below (s₁.setTop (mkF m 46 #[vR o0, vI p1, vD d2, s_] [(.int (3 : Int32)), (.int p1)])) t → Steps p.tables e below (s₁.setTop (entryFrame m #[(.ref o0), (.int p1), (.double d2)] 4)) t := by
                intro t k
                refine c9 t ?_
                show Steps p.tables e below (s₁.setTop (mkF m 39 #[vR o0, vI p1, vD d2, s_] [(.int z38)])) _
                refine XS.ifYes X0.here hx rfl (pc0 := 39) (pc' := 44) rfl (hb hby d6_39) rfl (Jvm.Free.XT.i0_gt_t hb39) (by decide) (by decide) ?_
                refine XS.iloadN X0.here hx rfl (hb hby d6_44) rfl ?_
                refine XS.iconst X0.here hx rfl (hb hby d6_45) ?_
                exact k
              by_cases hb46 : (3 : Int32) < p1
              · skip
                obtain ⟨cl11, Ar11, -, S11, -, Ha11, -⟩ := id qh6
                have in11 : ¬ ((3 : Int32) < 0 ∨ cl11.slots.size ≤ ((3 : Int32)).toNatClampNeg) := inb_of S11 ⟨by decide, by decide⟩
                have c12 : ∀ t, Steps p.tables e below (s₁.setTop (mkF m 54 #[vR o0, vI p1, vD d2, s_] [(.int z53)])) t → Steps p.tables e below (s₁.setTop (entryFrame m #[(.ref o0), (.int p1), (.double d2)] 4)) t := by
                  intro t k
                  refine c10 t ?_
                  show Steps p.tables e below (s₁.setTop (mkF m 46 #[vR o0, vI p1, vD d2, s_] [(.int (3 : Int32)), (.int p1)])) _
                  refine XS.icmpNo X0.here hx rfl (hb hby d6_46) rfl (Jvm.Free.XT.ii_le_f hb46) ?_
                  refine XS.aloadN X0.here hx rfl (hb hby d6_49) rfl rfl ?_
                  refine XS.iconst X0.here hx rfl (hb hby d6_50) ?_
                  refine X0.daload hx (j := (3 : Int32)) (v := (.double y3)) (by rw [e0]; exact Ar11.1) (State.isArrayOf_alike hZ.alike Ar11.2.1) Ar11.2.2 in11 (Has.at Ha11 in11 rfl) (g := (mkF m 51 #[vR o0, vI p1, vD d2, s_] [(.int (3 : Int32)), (.ref o0)])) rfl rfl (hb hby d6_51) _ ?_
                  refine XS.dloadN X0.here hx rfl (hb hby d6_52) rfl ?_
                  refine XS.dcmpS X0.here hx rfl (hb hby d6_53) rfl hz53 ?_
                  exact k
                by_cases hb54 : (0 : Int32) < z53
                · skip
                  have c13 : ∀ t, Steps p.tables e below (s₁.setTop (mkF m 61 #[vR o0, vI p1, vD d2, s_] [(.int (4 : Int32)), (.int p1)])) t → Steps p.tables e below (s₁.setTop (entryFrame m #[(.ref o0), (.int p1), (.double d2)] 4)) t := by
                    intro t k
                    refine c12 t ?_
                    show Steps p.tables e below (s₁.setTop (mkF m 54 #[vR o0, vI p1, vD d2, s_] [(.int z53)])) _
                    refine XS.ifYes X0.here hx rfl (pc0 := 54) (pc' := 59) rfl (hb hby d6_54) rfl (Jvm.Free.XT.i0_gt_t hb54) (by decide) (by decide) ?_
                    refine XS.iloadN X0.here hx rfl (hb hby d6_59) rfl ?_
                    refine XS.iconst X0.here hx rfl (hb hby d6_60) ?_
                    exact k
                  by_cases hb61 : (4 : Int32) < p1
                  · skip
                    obtain ⟨cl14, Ar14, -, S14, -, Ha14, -⟩ := id qh6
                    have in14 : ¬ ((4 : Int32) < 0 ∨ cl14.slots.size ≤ ((4 : Int32)).toNatClampNeg) := inb_of S14 ⟨by decide, by decide⟩
                    have c15 : ∀ t, Steps p.tables e below (s₁.setTop (mkF m 69 #[vR o0, vI p1, vD d2, s_] [(.int z68)])) t → Steps p.tables e below (s₁.setTop (entryFrame m #[(.ref o0), (.int p1), (.double d2)] 4)) t := by
                      intro t k
                      refine c13 t ?_
                      show Steps p.tables e below (s₁.setTop (mkF m 61 #[vR o0, vI p1, vD d2, s_] [(.int (4 : Int32)), (.int p1)])) _
                      refine XS.icmpNo X0.here hx rfl (hb hby d6_61) rfl (Jvm.Free.XT.ii_le_f hb61) ?_
                      refine XS.aloadN X0.here hx rfl (hb hby d6_64) rfl rfl ?_
                      refine XS.iconst X0.here hx rfl (hb hby d6_65) ?_
                      refine X0.daload hx (j := (4 : Int32)) (v := (.double y4)) (by rw [e0]; exact Ar14.1) (State.isArrayOf_alike hZ.alike Ar14.2.1) Ar14.2.2 in14 (Has.at Ha14 in14 rfl) (g := (mkF m 66 #[vR o0, vI p1, vD d2, s_] [(.int (4 : Int32)), (.ref o0)])) rfl rfl (hb hby d6_66) _ ?_
                      refine XS.dloadN X0.here hx rfl (hb hby d6_67) rfl ?_
                      refine XS.dcmpS X0.here hx rfl (hb hby d6_68) rfl hz68 ?_
                      exact k
                    by_cases hb69 : (0 : Int32) < z68
                    · skip
                      have c16 : ∀ t, Steps p.tables e below (s₁.setTop (mkF m 76 #[vR o0, vI p1, vD d2, s_] [(.int (5 : Int32)), (.int p1)])) t → Steps p.tables e below (s₁.setTop (entryFrame m #[(.ref o0), (.int p1), (.double d2)] 4)) t := by
                        intro t k
                        refine c15 t ?_
                        show Steps p.tables e below (s₁.setTop (mkF m 69 #[vR o0, vI p1, vD d2, s_] [(.int z68)])) _
                        refine XS.ifYes X0.here hx rfl (pc0 := 69) (pc' := 74) rfl (hb hby d6_69) rfl (Jvm.Free.XT.i0_gt_t hb69) (by decide) (by decide) ?_
                        refine XS.iloadN X0.here hx rfl (hb hby d6_74) rfl ?_
                        refine XS.iconst X0.here hx rfl (hb hby d6_75) ?_
                        exact k
                      by_cases hb76 : (5 : Int32) < p1
                      · skip
                        obtain ⟨cl17, Ar17, -, S17, -, Ha17, -⟩ := id qh6
                        have in17 : ¬ ((5 : Int32) < 0 ∨ cl17.slots.size ≤ ((5 : Int32)).toNatClampNeg) := inb_of S17 ⟨by decide, by decide⟩
                        have c18 : ∀ t, Steps p.tables e below (s₁.setTop (mkF m 84 #[vR o0, vI p1, vD d2, s_] [(.int z83)])) t → Steps p.tables e below (s₁.setTop (entryFrame m #[(.ref o0), (.int p1), (.double d2)] 4)) t := by
                          intro t k
                          refine c16 t ?_
                          show Steps p.tables e below (s₁.setTop (mkF m 76 #[vR o0, vI p1, vD d2, s_] [(.int (5 : Int32)), (.int p1)])) _
                          refine XS.icmpNo X0.here hx rfl (hb hby d6_76) rfl (Jvm.Free.XT.ii_le_f hb76) ?_
                          refine XS.aloadN X0.here hx rfl (hb hby d6_79) rfl rfl ?_
                          refine XS.iconst X0.here hx rfl (hb hby d6_80) ?_
                          refine X0.daload hx (j := (5 : Int32)) (v := (.double y5)) (by rw [e0]; exact Ar17.1) (State.isArrayOf_alike hZ.alike Ar17.2.1) Ar17.2.2 in17 (Has.at Ha17 in17 rfl) (g := (mkF m 81 #[vR o0, vI p1, vD d2, s_] [(.int (5 : Int32)), (.ref o0)])) rfl rfl (hb hby d6_81) _ ?_
                          refine XS.dloadN X0.here hx rfl (hb hby d6_82) rfl ?_
                          refine XS.dcmpS X0.here hx rfl (hb hby d6_83) rfl hz83 ?_
                          exact k
                        by_cases hb84 : (0 : Int32) < z83
                        · skip
                          have c19 : ∀ t, Steps p.tables e below (s₁.setTop (mkF m 93 #[vR o0, vI p1, vD d2, s_] [(.int (6 : Int32)), (.int p1)])) t → Steps p.tables e below (s₁.setTop (entryFrame m #[(.ref o0), (.int p1), (.double d2)] 4)) t := by
                            intro t k
                            refine c18 t ?_
                            show Steps p.tables e below (s₁.setTop (mkF m 84 #[vR o0, vI p1, vD d2, s_] [(.int z83)])) _
                            refine XS.ifYes X0.here hx rfl (pc0 := 84) (pc' := 90) rfl (hb hby d6_84) rfl (Jvm.Free.XT.i0_gt_t hb84) (by decide) (by decide) ?_
                            refine XS.iloadN X0.here hx rfl (hb hby d6_90) rfl ?_
                            refine XS.bipush X0.here hx rfl (hb hby d6_91) ?_
                            exact k
                          by_cases hb93 : (6 : Int32) < p1
                          · skip
                            obtain ⟨cl20, Ar20, -, S20, -, Ha20, -⟩ := id qh6
                            have in20 : ¬ ((6 : Int32) < 0 ∨ cl20.slots.size ≤ ((6 : Int32)).toNatClampNeg) := inb_of S20 ⟨by decide, by decide⟩
                            have c21 : ∀ t, Steps p.tables e below (s₁.setTop (mkF m 102 #[vR o0, vI p1, vD d2, s_] [(.int z101)])) t → Steps p.tables e below (s₁.setTop (entryFrame m #[(.ref o0), (.int p1), (.double d2)] 4)) t := by
                              intro t k
                              refine c19 t ?_
                              show Steps p.tables e below (s₁.setTop (mkF m 93 #[vR o0, vI p1, vD d2, s_] [(.int (6 : Int32)), (.int p1)])) _
                              refine XS.icmpNo X0.here hx rfl (hb hby d6_93) rfl (Jvm.Free.XT.ii_le_f hb93) ?_
                              refine XS.aloadN X0.here hx rfl (hb hby d6_96) rfl rfl ?_
                              refine XS.bipush X0.here hx rfl (hb hby d6_97) ?_
                              refine X0.daload hx (j := (6 : Int32)) (v := (.double y6)) (by rw [e0]; exact Ar20.1) (State.isArrayOf_alike hZ.alike Ar20.2.1) Ar20.2.2 in20 (Has.at Ha20 in20 rfl) (g := (mkF m 99 #[vR o0, vI p1, vD d2, s_] [(.int (6 : Int32)), (.ref o0)])) rfl rfl (hb hby d6_99) _ ?_
                              refine XS.dloadN X0.here hx rfl (hb hby d6_100) rfl ?_
                              refine XS.dcmpS X0.here hx rfl (hb hby d6_101) rfl hz101 ?_
                              exact k
                            by_cases hb102 : (0 : Int32) < z101
                            · skip
                              have c22 : ∀ t, Steps p.tables e below (s₁.setTop (mkF m 111 #[vR o0, vI p1, vD d2, s_] [(.int (7 : Int32)), (.int p1)])) t → Steps p.tables e below (s₁.setTop (entryFrame m #[(.ref o0), (.int p1), (.double d2)] 4)) t := by
                                intro t k
                                refine c21 t ?_
                                show Steps p.tables e below (s₁.setTop (mkF m 102 #[vR o0, vI p1, vD d2, s_] [(.int z101)])) _
                                refine XS.ifYes X0.here hx rfl (pc0 := 102) (pc' := 108) rfl (hb hby d6_102) rfl (Jvm.Free.XT.i0_gt_t hb102) (by decide) (by decide) ?_
                                refine XS.iloadN X0.here hx rfl (hb hby d6_108) rfl ?_
                                refine XS.bipush X0.here hx rfl (hb hby d6_109) ?_
                                exact k
                              by_cases hb111 : (7 : Int32) < p1
                              · skip
                                obtain ⟨cl23, Ar23, -, S23, -, Ha23, -⟩ := id qh6
                                have in23 : ¬ ((7 : Int32) < 0 ∨ cl23.slots.size ≤ ((7 : Int32)).toNatClampNeg) := inb_of S23 ⟨by decide, by decide⟩
                                have c24 : ∀ t, Steps p.tables e below (s₁.setTop (mkF m 120 #[vR o0, vI p1, vD d2, s_] [(.int z119)])) t → Steps p.tables e below (s₁.setTop (entryFrame m #[(.ref o0), (.int p1), (.double d2)] 4)) t := by
                                  intro t k
                                  refine c22 t ?_
                                  show Steps p.tables e below (s₁.setTop (mkF m 111 #[vR o0, vI p1, vD d2, s_] [(.int (7 : Int32)), (.int p1)])) _
                                  refine XS.icmpNo X0.here hx rfl (hb hby d6_111) rfl (Jvm.Free.XT.ii_le_f hb111) ?_
                                  refine XS.aloadN X0.here hx rfl (hb hby d6_114) rfl rfl ?_
                                  refine XS.bipush X0.here hx rfl (hb hby d6_115) ?_
                                  refine X0.daload hx (j := (7 : Int32)) (v := (.double y7)) (by rw [e0]; exact Ar23.1) (State.isArrayOf_alike hZ.alike Ar23.2.1) Ar23.2.2 in23 (Has.at Ha23 in23 rfl) (g := (mkF m 117 #[vR o0, vI p1, vD d2, s_] [(.int (7 : Int32)), (.ref o0)])) rfl rfl (hb hby d6_117) _ ?_
                                  refine XS.dloadN X0.here hx rfl (hb hby d6_118) rfl ?_
                                  refine XS.dcmpS X0.here hx rfl (hb hby d6_119) rfl hz119 ?_
                                  exact k
                                by_cases hb120 : (0 : Int32) < z119
                                · skip
                                  have c25 : ∀ t, Steps p.tables e below (s₁.setTop (mkF m 127 #[vR o0, vI p1, vD d2, s_] [(.int (0 : Int32))])) t → Steps p.tables e below (s₁.setTop (entryFrame m #[(.ref o0), (.int p1), (.double d2)] 4)) t := by
                                    intro t k
                                    refine c24 t ?_
                                    show Steps p.tables e below (s₁.setTop (mkF m 120 #[vR o0, vI p1, vD d2, s_] [(.int z119)])) _
                                    refine XS.ifYes X0.here hx rfl (pc0 := 120) (pc' := 126) rfl (hb hby d6_120) rfl (Jvm.Free.XT.i0_gt_t hb120) (by decide) (by decide) ?_
                                    refine XS.iconst X0.here hx rfl (hb hby d6_126) ?_
                                    exact k
                                  obtain ⟨fs, hr, hrun, hended, hW, hsame⟩ := X0.leave (v := some (.int (0 : Int32))) (fun h => by rw [Bd.returns] at h; cases h)
                                  refine ⟨_, _, c25 _ ?_, hrun, hended, _, _, rfl, ?_, ⟨_, rfl⟩, hW, hsame.mono (by decide) (by decide)⟩
                                  · show Steps p.tables e below (s₁.setTop (mkF m 127 #[vR o0, vI p1, vD d2, s_] [(.int (0 : Int32))])) _
                                    exact retOut X0 hx Bd.returns rfl (Or.inl ⟨rfl, by simp, _, rfl⟩) (hb hby d6_127) hr
                                  · show Q6 Z o0 p1 d2 qcP y0 y1 y2 y3 y4 y5 y6 y7 z8 z23 z38 z53 z68 z83 z101 z119 rv h0 n0 _ s₁.heap _
                                    rw [e0]
                                    exact ⟨(congrArg (fun z => some (Value.int z)) (show (0 : Int32) = rv by rw [← hrv]; simp only [if_pos hb1, if_pos hb9, if_pos hb16, if_pos hb24, if_pos hb31, if_pos hb39, if_pos hb46, if_pos hb54, if_pos hb61, if_pos hb69, if_pos hb76, if_pos hb84, if_pos hb93, if_pos hb102, if_pos hb111, if_pos hb120])), by first | assumption | exact N0, rfl⟩
                                · skip
                                  have c26 : ∀ t, Steps p.tables e below (s₁.setTop (mkF m 125 #[vR o0, vI p1, vD d2, s_] [(.int (8 : Int32))])) t → Steps p.tables e below (s₁.setTop (entryFrame m #[(.ref o0), (.int p1), (.double d2)] 4)) t := by
                                    intro t k
                                    refine c24 t ?_
                                    show Steps p.tables e below (s₁.setTop (mkF m 120 #[vR o0, vI p1, vD d2, s_] [(.int z119)])) _
                                    refine XS.ifNo X0.here hx rfl (hb hby d6_120) rfl (Jvm.Free.XT.i0_gt_f hb120) ?_
                                    refine XS.bipush X0.here hx rfl (hb hby d6_123) ?_
                                    exact k
                                  obtain ⟨fs, hr, hrun, hended, hW, hsame⟩ := X0.leave (v := some (.int (8 : Int32))) (fun h => by rw [Bd.returns] at h; cases h)
                                  refine ⟨_, _, c26 _ ?_, hrun, hended, _, _, rfl, ?_, ⟨_, rfl⟩, hW, hsame.mono (by decide) (by decide)⟩
                                  · show Steps p.tables e below (s₁.setTop (mkF m 125 #[vR o0, vI p1, vD d2, s_] [(.int (8 : Int32))])) _
                                    exact retOut X0 hx Bd.returns rfl (Or.inl ⟨rfl, by simp, _, rfl⟩) (hb hby d6_125) hr
                                  · show Q6 Z o0 p1 d2 qcP y0 y1 y2 y3 y4 y5 y6 y7 z8 z23 z38 z53 z68 z83 z101 z119 rv h0 n0 _ s₁.heap _
                                    rw [e0]
                                    exact ⟨(congrArg (fun z => some (Value.int z)) (show (8 : Int32) = rv by rw [← hrv]; simp only [if_pos hb1, if_pos hb9, if_pos hb16, if_pos hb24, if_pos hb31, if_pos hb39, if_pos hb46, if_pos hb54, if_pos hb61, if_pos hb69, if_pos hb76, if_pos hb84, if_pos hb93, if_pos hb102, if_pos hb111, if_neg hb120])), by first | assumption | exact N0, rfl⟩
                              · skip
                                have c27 : ∀ t, Steps p.tables e below (s₁.setTop (mkF m 127 #[vR o0, vI p1, vD d2, s_] [(.int (0 : Int32))])) t → Steps p.tables e below (s₁.setTop (entryFrame m #[(.ref o0), (.int p1), (.double d2)] 4)) t := by
                                  intro t k
                                  refine c22 t ?_
                                  show Steps p.tables e below (s₁.setTop (mkF m 111 #[vR o0, vI p1, vD d2, s_] [(.int (7 : Int32)), (.int p1)])) _
                                  refine XS.icmpYes X0.here hx rfl (pc0 := 111) (pc' := 126) rfl (hb hby d6_111) rfl (Jvm.Free.XT.ii_le_t hb111) (by decide) (by decide) ?_
                                  refine XS.iconst X0.here hx rfl (hb hby d6_126) ?_
                                  exact k
                                obtain ⟨fs, hr, hrun, hended, hW, hsame⟩ := X0.leave (v := some (.int (0 : Int32))) (fun h => by rw [Bd.returns] at h; cases h)
                                refine ⟨_, _, c27 _ ?_, hrun, hended, _, _, rfl, ?_, ⟨_, rfl⟩, hW, hsame.mono (by decide) (by decide)⟩
                                · show Steps p.tables e below (s₁.setTop (mkF m 127 #[vR o0, vI p1, vD d2, s_] [(.int (0 : Int32))])) _
                                  exact retOut X0 hx Bd.returns rfl (Or.inl ⟨rfl, by simp, _, rfl⟩) (hb hby d6_127) hr
                                · show Q6 Z o0 p1 d2 qcP y0 y1 y2 y3 y4 y5 y6 y7 z8 z23 z38 z53 z68 z83 z101 z119 rv h0 n0 _ s₁.heap _
                                  rw [e0]
                                  exact ⟨(congrArg (fun z => some (Value.int z)) (show (0 : Int32) = rv by rw [← hrv]; simp only [if_pos hb1, if_pos hb9, if_pos hb16, if_pos hb24, if_pos hb31, if_pos hb39, if_pos hb46, if_pos hb54, if_pos hb61, if_pos hb69, if_pos hb76, if_pos hb84, if_pos hb93, if_pos hb102, if_neg hb111])), by first | assumption | exact N0, rfl⟩
                            · skip
                              have c28 : ∀ t, Steps p.tables e below (s₁.setTop (mkF m 107 #[vR o0, vI p1, vD d2, s_] [(.int (7 : Int32))])) t → Steps p.tables e below (s₁.setTop (entryFrame m #[(.ref o0), (.int p1), (.double d2)] 4)) t := by
                                intro t k
                                refine c21 t ?_
                                show Steps p.tables e below (s₁.setTop (mkF m 102 #[vR o0, vI p1, vD d2, s_] [(.int z101)])) _
                                refine XS.ifNo X0.here hx rfl (hb hby d6_102) rfl (Jvm.Free.XT.i0_gt_f hb102) ?_
                                refine XS.bipush X0.here hx rfl (hb hby d6_105) ?_
                                exact k
                              obtain ⟨fs, hr, hrun, hended, hW, hsame⟩ := X0.leave (v := some (.int (7 : Int32))) (fun h => by rw [Bd.returns] at h; cases h)
                              refine ⟨_, _, c28 _ ?_, hrun, hended, _, _, rfl, ?_, ⟨_, rfl⟩, hW, hsame.mono (by decide) (by decide)⟩
                              · show Steps p.tables e below (s₁.setTop (mkF m 107 #[vR o0, vI p1, vD d2, s_] [(.int (7 : Int32))])) _
                                exact retOut X0 hx Bd.returns rfl (Or.inl ⟨rfl, by simp, _, rfl⟩) (hb hby d6_107) hr
                              · show Q6 Z o0 p1 d2 qcP y0 y1 y2 y3 y4 y5 y6 y7 z8 z23 z38 z53 z68 z83 z101 z119 rv h0 n0 _ s₁.heap _
                                rw [e0]
                                exact ⟨(congrArg (fun z => some (Value.int z)) (show (7 : Int32) = rv by rw [← hrv]; simp only [if_pos hb1, if_pos hb9, if_pos hb16, if_pos hb24, if_pos hb31, if_pos hb39, if_pos hb46, if_pos hb54, if_pos hb61, if_pos hb69, if_pos hb76, if_pos hb84, if_pos hb93, if_neg hb102])), by first | assumption | exact N0, rfl⟩
                          · skip
                            have c29 : ∀ t, Steps p.tables e below (s₁.setTop (mkF m 127 #[vR o0, vI p1, vD d2, s_] [(.int (0 : Int32))])) t → Steps p.tables e below (s₁.setTop (entryFrame m #[(.ref o0), (.int p1), (.double d2)] 4)) t := by
                              intro t k
                              refine c19 t ?_
                              show Steps p.tables e below (s₁.setTop (mkF m 93 #[vR o0, vI p1, vD d2, s_] [(.int (6 : Int32)), (.int p1)])) _
                              refine XS.icmpYes X0.here hx rfl (pc0 := 93) (pc' := 108) rfl (hb hby d6_93) rfl (Jvm.Free.XT.ii_le_t hb93) (by decide) (by decide) ?_
                              refine XS.iloadN X0.here hx rfl (hb hby d6_108) rfl ?_
                              refine XS.bipush X0.here hx rfl (hb hby d6_109) ?_
                              refine XS.icmpYes X0.here hx rfl (pc0 := 111) (pc' := 126) rfl (hb hby d6_111) rfl (Jvm.Free.XT.ii_le_t (up1 hb93 (by decide))) (by decide) (by decide) ?_
                              refine XS.iconst X0.here hx rfl (hb hby d6_126) ?_
                              exact k
                            obtain ⟨fs, hr, hrun, hended, hW, hsame⟩ := X0.leave (v := some (.int (0 : Int32))) (fun h => by rw [Bd.returns] at h; cases h)
                            refine ⟨_, _, c29 _ ?_, hrun, hended, _, _, rfl, ?_, ⟨_, rfl⟩, hW, hsame.mono (by decide) (by decide)⟩
                            · show Steps p.tables e below (s₁.setTop (mkF m 127 #[vR o0, vI p1, vD d2, s_] [(.int (0 : Int32))])) _
                              exact retOut X0 hx Bd.returns rfl (Or.inl ⟨rfl, by simp, _, rfl⟩) (hb hby d6_127) hr
                            · show Q6 Z o0 p1 d2 qcP y0 y1 y2 y3 y4 y5 y6 y7 z8 z23 z38 z53 z68 z83 z101 z119 rv h0 n0 _ s₁.heap _
                              rw [e0]
                              exact ⟨(congrArg (fun z => some (Value.int z)) (show (0 : Int32) = rv by rw [← hrv]; simp only [if_pos hb1, if_pos hb9, if_pos hb16, if_pos hb24, if_pos hb31, if_pos hb39, if_pos hb46, if_pos hb54, if_pos hb61, if_pos hb69, if_pos hb76, if_pos hb84, if_neg hb93])), by first | assumption | exact N0, rfl⟩
                        · skip
                          have c30 : ∀ t, Steps p.tables e below (s₁.setTop (mkF m 89 #[vR o0, vI p1, vD d2, s_] [(.int (6 : Int32))])) t → Steps p.tables e below (s₁.setTop (entryFrame m #[(.ref o0), (.int p1), (.double d2)] 4)) t := by
                            intro t k
                            refine c18 t ?_
                            show Steps p.tables e below (s₁.setTop (mkF m 84 #[vR o0, vI p1, vD d2, s_] [(.int z83)])) _
                            refine XS.ifNo X0.here hx rfl (hb hby d6_84) rfl (Jvm.Free.XT.i0_gt_f hb84) ?_
                            refine XS.bipush X0.here hx rfl (hb hby d6_87) ?_
                            exact k
                          obtain ⟨fs, hr, hrun, hended, hW, hsame⟩ := X0.leave (v := some (.int (6 : Int32))) (fun h => by rw [Bd.returns] at h; cases h)
                          refine ⟨_, _, c30 _ ?_, hrun, hended, _, _, rfl, ?_, ⟨_, rfl⟩, hW, hsame.mono (by decide) (by decide)⟩
                          · show Steps p.tables e below (s₁.setTop (mkF m 89 #[vR o0, vI p1, vD d2, s_] [(.int (6 : Int32))])) _
                            exact retOut X0 hx Bd.returns rfl (Or.inl ⟨rfl, by simp, _, rfl⟩) (hb hby d6_89) hr
                          · show Q6 Z o0 p1 d2 qcP y0 y1 y2 y3 y4 y5 y6 y7 z8 z23 z38 z53 z68 z83 z101 z119 rv h0 n0 _ s₁.heap _
                            rw [e0]
                            exact ⟨(congrArg (fun z => some (Value.int z)) (show (6 : Int32) = rv by rw [← hrv]; simp only [if_pos hb1, if_pos hb9, if_pos hb16, if_pos hb24, if_pos hb31, if_pos hb39, if_pos hb46, if_pos hb54, if_pos hb61, if_pos hb69, if_pos hb76, if_neg hb84])), by first | assumption | exact N0, rfl⟩
                      · skip
                        have c31 : ∀ t, Steps p.tables e below (s₁.setTop (mkF m 127 #[vR o0, vI p1, vD d2, s_] [(.int (0 : Int32))])) t → Steps p.tables e below (s₁.setTop (entryFrame m #[(.ref o0), (.int p1), (.double d2)] 4)) t := by
                          intro t k
                          refine c16 t ?_
                          show Steps p.tables e below (s₁.setTop (mkF m 76 #[vR o0, vI p1, vD d2, s_] [(.int (5 : Int32)), (.int p1)])) _
                          refine XS.icmpYes X0.here hx rfl (pc0 := 76) (pc' := 90) rfl (hb hby d6_76) rfl (Jvm.Free.XT.ii_le_t hb76) (by decide) (by decide) ?_
                          refine XS.iloadN X0.here hx rfl (hb hby d6_90) rfl ?_
                          refine XS.bipush X0.here hx rfl (hb hby d6_91) ?_
                          refine XS.icmpYes X0.here hx rfl (pc0 := 93) (pc' := 108) rfl (hb hby d6_93) rfl (Jvm.Free.XT.ii_le_t (up1 hb76 (by decide))) (by decide) (by decide) ?_
                          refine XS.iloadN X0.here hx rfl (hb hby d6_108) rfl ?_
                          refine XS.bipush X0.here hx rfl (hb hby d6_109) ?_
                          show Steps p.tables e below (s₁.setTop (mkF m 111 #[vR o0, vI p1, vD d2, s_] [(.int (7 : Int32)), (.int p1)])) _
                          refine XS.icmpYes X0.here hx rfl (pc0 := 111) (pc' := 126) rfl (hb hby d6_111) rfl (Jvm.Free.XT.ii_le_t (up1 hb76 (by decide))) (by decide) (by decide) ?_
                          refine XS.iconst X0.here hx rfl (hb hby d6_126) ?_
                          exact k
                        obtain ⟨fs, hr, hrun, hended, hW, hsame⟩ := X0.leave (v := some (.int (0 : Int32))) (fun h => by rw [Bd.returns] at h; cases h)
                        refine ⟨_, _, c31 _ ?_, hrun, hended, _, _, rfl, ?_, ⟨_, rfl⟩, hW, hsame.mono (by decide) (by decide)⟩
                        · show Steps p.tables e below (s₁.setTop (mkF m 127 #[vR o0, vI p1, vD d2, s_] [(.int (0 : Int32))])) _
                          exact retOut X0 hx Bd.returns rfl (Or.inl ⟨rfl, by simp, _, rfl⟩) (hb hby d6_127) hr
                        · show Q6 Z o0 p1 d2 qcP y0 y1 y2 y3 y4 y5 y6 y7 z8 z23 z38 z53 z68 z83 z101 z119 rv h0 n0 _ s₁.heap _
                          rw [e0]
                          exact ⟨(congrArg (fun z => some (Value.int z)) (show (0 : Int32) = rv by rw [← hrv]; simp only [if_pos hb1, if_pos hb9, if_pos hb16, if_pos hb24, if_pos hb31, if_pos hb39, if_pos hb46, if_pos hb54, if_pos hb61, if_pos hb69, if_neg hb76])), by first | assumption | exact N0, rfl⟩
                    · skip
                      have c32 : ∀ t, Steps p.tables e below (s₁.setTop (mkF m 73 #[vR o0, vI p1, vD d2, s_] [(.int (5 : Int32))])) t → Steps p.tables e below (s₁.setTop (entryFrame m #[(.ref o0), (.int p1), (.double d2)] 4)) t := by
                        intro t k
                        refine c15 t ?_
                        show Steps p.tables e below (s₁.setTop (mkF m 69 #[vR o0, vI p1, vD d2, s_] [(.int z68)])) _
                        refine XS.ifNo X0.here hx rfl (hb hby d6_69) rfl (Jvm.Free.XT.i0_gt_f hb69) ?_
                        refine XS.iconst X0.here hx rfl (hb hby d6_72) ?_
                        exact k
                      obtain ⟨fs, hr, hrun, hended, hW, hsame⟩ := X0.leave (v := some (.int (5 : Int32))) (fun h => by rw [Bd.returns] at h; cases h)
                      refine ⟨_, _, c32 _ ?_, hrun, hended, _, _, rfl, ?_, ⟨_, rfl⟩, hW, hsame.mono (by decide) (by decide)⟩
                      · show Steps p.tables e below (s₁.setTop (mkF m 73 #[vR o0, vI p1, vD d2, s_] [(.int (5 : Int32))])) _
                        exact retOut X0 hx Bd.returns rfl (Or.inl ⟨rfl, by simp, _, rfl⟩) (hb hby d6_73) hr
                      · show Q6 Z o0 p1 d2 qcP y0 y1 y2 y3 y4 y5 y6 y7 z8 z23 z38 z53 z68 z83 z101 z119 rv h0 n0 _ s₁.heap _
                        rw [e0]
                        exact ⟨(congrArg (fun z => some (Value.int z)) (show (5 : Int32) = rv by rw [← hrv]; simp only [if_pos hb1, if_pos hb9, if_pos hb16, if_pos hb24, if_pos hb31, if_pos hb39, if_pos hb46, if_pos hb54, if_pos hb61, if_neg hb69])), by first | assumption | exact N0, rfl⟩
                  · skip
                    have c33 : ∀ t, Steps p.tables e below (s₁.setTop (mkF m 127 #[vR o0, vI p1, vD d2, s_] [(.int (0 : Int32))])) t → Steps p.tables e below (s₁.setTop (entryFrame m #[(.ref o0), (.int p1), (.double d2)] 4)) t := by
                      intro t k
                      refine c13 t ?_
                      show Steps p.tables e below (s₁.setTop (mkF m 61 #[vR o0, vI p1, vD d2, s_] [(.int (4 : Int32)), (.int p1)])) _
                      refine XS.icmpYes X0.here hx rfl (pc0 := 61) (pc' := 74) rfl (hb hby d6_61) rfl (Jvm.Free.XT.ii_le_t hb61) (by decide) (by decide) ?_
                      refine XS.iloadN X0.here hx rfl (hb hby d6_74) rfl ?_
                      refine XS.iconst X0.here hx rfl (hb hby d6_75) ?_
                      refine XS.icmpYes X0.here hx rfl (pc0 := 76) (pc' := 90) rfl (hb hby d6_76) rfl (Jvm.Free.XT.ii_le_t (up1 hb61 (by decide))) (by decide) (by decide) ?_
                      refine XS.iloadN X0.here hx rfl (hb hby d6_90) rfl ?_
                      refine XS.bipush X0.here hx rfl (hb hby d6_91) ?_
                      show Steps p.tables e below (s₁.setTop (mkF m 93 #[vR o0, vI p1, vD d2, s_] [(.int (6 : Int32)), (.int p1)])) _
                      refine XS.icmpYes X0.here hx rfl (pc0 := 93) (pc' := 108) rfl (hb hby d6_93) rfl (Jvm.Free.XT.ii_le_t (up1 hb61 (by decide))) (by decide) (by decide) ?_
                      refine XS.iloadN X0.here hx rfl (hb hby d6_108) rfl ?_
                      refine XS.bipush X0.here hx rfl (hb hby d6_109) ?_
                      refine XS.icmpYes X0.here hx rfl (pc0 := 111) (pc' := 126) rfl (hb hby d6_111) rfl (Jvm.Free.XT.ii_le_t (up1 hb61 (by decide))) (by decide) (by decide) ?_
                      refine XS.iconst X0.here hx rfl (hb hby d6_126) ?_
                      exact k
                    obtain ⟨fs, hr, hrun, hended, hW, hsame⟩ := X0.leave (v := some (.int (0 : Int32))) (fun h => by rw [Bd.returns] at h; cases h)
                    refine ⟨_, _, c33 _ ?_, hrun, hended, _, _, rfl, ?_, ⟨_, rfl⟩, hW, hsame.mono (by decide) (by decide)⟩
                    · show Steps p.tables e below (s₁.setTop (mkF m 127 #[vR o0, vI p1, vD d2, s_] [(.int (0 : Int32))])) _
                      exact retOut X0 hx Bd.returns rfl (Or.inl ⟨rfl, by simp, _, rfl⟩) (hb hby d6_127) hr
                    · show Q6 Z o0 p1 d2 qcP y0 y1 y2 y3 y4 y5 y6 y7 z8 z23 z38 z53 z68 z83 z101 z119 rv h0 n0 _ s₁.heap _
                      rw [e0]
                      exact ⟨(congrArg (fun z => some (Value.int z)) (show (0 : Int32) = rv by rw [← hrv]; simp only [if_pos hb1, if_pos hb9, if_pos hb16, if_pos hb24, if_pos hb31, if_pos hb39, if_pos hb46, if_pos hb54, if_neg hb61])), by first | assumption | exact N0, rfl⟩
                · skip
                  have c34 : ∀ t, Steps p.tables e below (s₁.setTop (mkF m 58 #[vR o0, vI p1, vD d2, s_] [(.int (4 : Int32))])) t → Steps p.tables e below (s₁.setTop (entryFrame m #[(.ref o0), (.int p1), (.double d2)] 4)) t := by
                    intro t k
                    refine c12 t ?_
                    show Steps p.tables e below (s₁.setTop (mkF m 54 #[vR o0, vI p1, vD d2, s_] [(.int z53)])) _
                    refine XS.ifNo X0.here hx rfl (hb hby d6_54) rfl (Jvm.Free.XT.i0_gt_f hb54) ?_
                    refine XS.iconst X0.here hx rfl (hb hby d6_57) ?_
                    exact k
                  obtain ⟨fs, hr, hrun, hended, hW, hsame⟩ := X0.leave (v := some (.int (4 : Int32))) (fun h => by rw [Bd.returns] at h; cases h)
                  refine ⟨_, _, c34 _ ?_, hrun, hended, _, _, rfl, ?_, ⟨_, rfl⟩, hW, hsame.mono (by decide) (by decide)⟩
                  · show Steps p.tables e below (s₁.setTop (mkF m 58 #[vR o0, vI p1, vD d2, s_] [(.int (4 : Int32))])) _
                    exact retOut X0 hx Bd.returns rfl (Or.inl ⟨rfl, by simp, _, rfl⟩) (hb hby d6_58) hr
                  · show Q6 Z o0 p1 d2 qcP y0 y1 y2 y3 y4 y5 y6 y7 z8 z23 z38 z53 z68 z83 z101 z119 rv h0 n0 _ s₁.heap _
                    rw [e0]
                    exact ⟨(congrArg (fun z => some (Value.int z)) (show (4 : Int32) = rv by rw [← hrv]; simp only [if_pos hb1, if_pos hb9, if_pos hb16, if_pos hb24, if_pos hb31, if_pos hb39, if_pos hb46, if_neg hb54])), by first | assumption | exact N0, rfl⟩
              · skip
                have c35 : ∀ t, Steps p.tables e below (s₁.setTop (mkF m 127 #[vR o0, vI p1, vD d2, s_] [(.int (0 : Int32))])) t → Steps p.tables e below (s₁.setTop (entryFrame m #[(.ref o0), (.int p1), (.double d2)] 4)) t := by
                  intro t k
                  refine c10 t ?_
                  show Steps p.tables e below (s₁.setTop (mkF m 46 #[vR o0, vI p1, vD d2, s_] [(.int (3 : Int32)), (.int p1)])) _
                  refine XS.icmpYes X0.here hx rfl (pc0 := 46) (pc' := 59) rfl (hb hby d6_46) rfl (Jvm.Free.XT.ii_le_t hb46) (by decide) (by decide) ?_
                  refine XS.iloadN X0.here hx rfl (hb hby d6_59) rfl ?_
                  refine XS.iconst X0.here hx rfl (hb hby d6_60) ?_
                  refine XS.icmpYes X0.here hx rfl (pc0 := 61) (pc' := 74) rfl (hb hby d6_61) rfl (Jvm.Free.XT.ii_le_t (up1 hb46 (by decide))) (by decide) (by decide) ?_
                  refine XS.iloadN X0.here hx rfl (hb hby d6_74) rfl ?_
                  refine XS.iconst X0.here hx rfl (hb hby d6_75) ?_
                  show Steps p.tables e below (s₁.setTop (mkF m 76 #[vR o0, vI p1, vD d2, s_] [(.int (5 : Int32)), (.int p1)])) _
                  refine XS.icmpYes X0.here hx rfl (pc0 := 76) (pc' := 90) rfl (hb hby d6_76) rfl (Jvm.Free.XT.ii_le_t (up1 hb46 (by decide))) (by decide) (by decide) ?_
                  refine XS.iloadN X0.here hx rfl (hb hby d6_90) rfl ?_
                  refine XS.bipush X0.here hx rfl (hb hby d6_91) ?_
                  refine XS.icmpYes X0.here hx rfl (pc0 := 93) (pc' := 108) rfl (hb hby d6_93) rfl (Jvm.Free.XT.ii_le_t (up1 hb46 (by decide))) (by decide) (by decide) ?_
                  refine XS.iloadN X0.here hx rfl (hb hby d6_108) rfl ?_
                  refine XS.bipush X0.here hx rfl (hb hby d6_109) ?_
                  show Steps p.tables e below (s₁.setTop (mkF m 111 #[vR o0, vI p1, vD d2, s_] [(.int (7 : Int32)), (.int p1)])) _
                  refine XS.icmpYes X0.here hx rfl (pc0 := 111) (pc' := 126) rfl (hb hby d6_111) rfl (Jvm.Free.XT.ii_le_t (up1 hb46 (by decide))) (by decide) (by decide) ?_
                  refine XS.iconst X0.here hx rfl (hb hby d6_126) ?_
                  exact k
                obtain ⟨fs, hr, hrun, hended, hW, hsame⟩ := X0.leave (v := some (.int (0 : Int32))) (fun h => by rw [Bd.returns] at h; cases h)
                refine ⟨_, _, c35 _ ?_, hrun, hended, _, _, rfl, ?_, ⟨_, rfl⟩, hW, hsame.mono (by decide) (by decide)⟩
                · show Steps p.tables e below (s₁.setTop (mkF m 127 #[vR o0, vI p1, vD d2, s_] [(.int (0 : Int32))])) _
                  exact retOut X0 hx Bd.returns rfl (Or.inl ⟨rfl, by simp, _, rfl⟩) (hb hby d6_127) hr
                · show Q6 Z o0 p1 d2 qcP y0 y1 y2 y3 y4 y5 y6 y7 z8 z23 z38 z53 z68 z83 z101 z119 rv h0 n0 _ s₁.heap _
                  rw [e0]
                  exact ⟨(congrArg (fun z => some (Value.int z)) (show (0 : Int32) = rv by rw [← hrv]; simp only [if_pos hb1, if_pos hb9, if_pos hb16, if_pos hb24, if_pos hb31, if_pos hb39, if_neg hb46])), by first | assumption | exact N0, rfl⟩
            · skip
              have c36 : ∀ t, Steps p.tables e below (s₁.setTop (mkF m 43 #[vR o0, vI p1, vD d2, s_] [(.int (3 : Int32))])) t → Steps p.tables e below (s₁.setTop (entryFrame m #[(.ref o0), (.int p1), (.double d2)] 4)) t := by
                intro t k
                refine c9 t ?_
                show Steps p.tables e below (s₁.setTop (mkF m 39 #[vR o0, vI p1, vD d2, s_] [(.int z38)])) _
                refine XS.ifNo X0.here hx rfl (hb hby d6_39) rfl (Jvm.Free.XT.i0_gt_f hb39) ?_
                refine XS.iconst X0.here hx rfl (hb hby d6_42) ?_
                exact k
              obtain ⟨fs, hr, hrun, hended, hW, hsame⟩ := X0.leave (v := some (.int (3 : Int32))) (fun h => by rw [Bd.returns] at h; cases h)
              refine ⟨_, _, c36 _ ?_, hrun, hended, _, _, rfl, ?_, ⟨_, rfl⟩, hW, hsame.mono (by decide) (by decide)⟩
              · show Steps p.tables e below (s₁.setTop (mkF m 43 #[vR o0, vI p1, vD d2, s_] [(.int (3 : Int32))])) _
                exact retOut X0 hx Bd.returns rfl (Or.inl ⟨rfl, by simp, _, rfl⟩) (hb hby d6_43) hr
              · show Q6 Z o0 p1 d2 qcP y0 y1 y2 y3 y4 y5 y6 y7 z8 z23 z38 z53 z68 z83 z101 z119 rv h0 n0 _ s₁.heap _
                rw [e0]
                exact ⟨(congrArg (fun z => some (Value.int z)) (show (3 : Int32) = rv by rw [← hrv]; simp only [if_pos hb1, if_pos hb9, if_pos hb16, if_pos hb24, if_pos hb31, if_neg hb39])), by first | assumption | exact N0, rfl⟩
          · skip
            have c37 : ∀ t, Steps p.tables e below (s₁.setTop (mkF m 127 #[vR o0, vI p1, vD d2, s_] [(.int (0 : Int32))])) t → Steps p.tables e below (s₁.setTop (entryFrame m #[(.ref o0), (.int p1), (.double d2)] 4)) t := by
              intro t k
              refine c7 t ?_
              show Steps p.tables e below (s₁.setTop (mkF m 31 #[vR o0, vI p1, vD d2, s_] [(.int (2 : Int32)), (.int p1)])) _
              refine XS.icmpYes X0.here hx rfl (pc0 := 31) (pc' := 44) rfl (hb hby d6_31) rfl (Jvm.Free.XT.ii_le_t hb31) (by decide) (by decide) ?_
              refine XS.iloadN X0.here hx rfl (hb hby d6_44) rfl ?_
              refine XS.iconst X0.here hx rfl (hb hby d6_45) ?_
              refine XS.icmpYes X0.here hx rfl (pc0 := 46) (pc' := 59) rfl (hb hby d6_46) rfl (Jvm.Free.XT.ii_le_t (up1 hb31 (by decide))) (by decide) (by decide) ?_
              refine XS.iloadN X0.here hx rfl (hb hby d6_59) rfl ?_
              refine XS.iconst X0.here hx rfl (hb hby d6_60) ?_
              show Steps p.tables e below (s₁.setTop (mkF m 61 #[vR o0, vI p1, vD d2, s_] [(.int (4 : Int32)), (.int p1)])) _
              refine XS.icmpYes X0.here hx rfl (pc0 := 61) (pc' := 74) rfl (hb hby d6_61) rfl (Jvm.Free.XT.ii_le_t (up1 hb31 (by decide))) (by decide) (by decide) ?_
              refine XS.iloadN X0.here hx rfl (hb hby d6_74) rfl ?_
              refine XS.iconst X0.here hx rfl (hb hby d6_75) ?_
              refine XS.icmpYes X0.here hx rfl (pc0 := 76) (pc' := 90) rfl (hb hby d6_76) rfl (Jvm.Free.XT.ii_le_t (up1 hb31 (by decide))) (by decide) (by decide) ?_
              refine XS.iloadN X0.here hx rfl (hb hby d6_90) rfl ?_
              refine XS.bipush X0.here hx rfl (hb hby d6_91) ?_
              show Steps p.tables e below (s₁.setTop (mkF m 93 #[vR o0, vI p1, vD d2, s_] [(.int (6 : Int32)), (.int p1)])) _
              refine XS.icmpYes X0.here hx rfl (pc0 := 93) (pc' := 108) rfl (hb hby d6_93) rfl (Jvm.Free.XT.ii_le_t (up1 hb31 (by decide))) (by decide) (by decide) ?_
              refine XS.iloadN X0.here hx rfl (hb hby d6_108) rfl ?_
              refine XS.bipush X0.here hx rfl (hb hby d6_109) ?_
              refine XS.icmpYes X0.here hx rfl (pc0 := 111) (pc' := 126) rfl (hb hby d6_111) rfl (Jvm.Free.XT.ii_le_t (up1 hb31 (by decide))) (by decide) (by decide) ?_
              refine XS.iconst X0.here hx rfl (hb hby d6_126) ?_
              exact k
            obtain ⟨fs, hr, hrun, hended, hW, hsame⟩ := X0.leave (v := some (.int (0 : Int32))) (fun h => by rw [Bd.returns] at h; cases h)
            refine ⟨_, _, c37 _ ?_, hrun, hended, _, _, rfl, ?_, ⟨_, rfl⟩, hW, hsame.mono (by decide) (by decide)⟩
            · show Steps p.tables e below (s₁.setTop (mkF m 127 #[vR o0, vI p1, vD d2, s_] [(.int (0 : Int32))])) _
              exact retOut X0 hx Bd.returns rfl (Or.inl ⟨rfl, by simp, _, rfl⟩) (hb hby d6_127) hr
            · show Q6 Z o0 p1 d2 qcP y0 y1 y2 y3 y4 y5 y6 y7 z8 z23 z38 z53 z68 z83 z101 z119 rv h0 n0 _ s₁.heap _
              rw [e0]
              exact ⟨(congrArg (fun z => some (Value.int z)) (show (0 : Int32) = rv by rw [← hrv]; simp only [if_pos hb1, if_pos hb9, if_pos hb16, if_pos hb24, if_neg hb31])), by first | assumption | exact N0, rfl⟩
        · skip
          have c38 : ∀ t, Steps p.tables e below (s₁.setTop (mkF m 28 #[vR o0, vI p1, vD d2, s_] [(.int (2 : Int32))])) t → Steps p.tables e below (s₁.setTop (entryFrame m #[(.ref o0), (.int p1), (.double d2)] 4)) t := by
            intro t k
            refine c6 t ?_
            show Steps p.tables e below (s₁.setTop (mkF m 24 #[vR o0, vI p1, vD d2, s_] [(.int z23)])) _
            refine XS.ifNo X0.here hx rfl (hb hby d6_24) rfl (Jvm.Free.XT.i0_gt_f hb24) ?_
            refine XS.iconst X0.here hx rfl (hb hby d6_27) ?_
            exact k
          obtain ⟨fs, hr, hrun, hended, hW, hsame⟩ := X0.leave (v := some (.int (2 : Int32))) (fun h => by rw [Bd.returns] at h; cases h)
          refine ⟨_, _, c38 _ ?_, hrun, hended, _, _, rfl, ?_, ⟨_, rfl⟩, hW, hsame.mono (by decide) (by decide)⟩
          · show Steps p.tables e below (s₁.setTop (mkF m 28 #[vR o0, vI p1, vD d2, s_] [(.int (2 : Int32))])) _
            exact retOut X0 hx Bd.returns rfl (Or.inl ⟨rfl, by simp, _, rfl⟩) (hb hby d6_28) hr
          · show Q6 Z o0 p1 d2 qcP y0 y1 y2 y3 y4 y5 y6 y7 z8 z23 z38 z53 z68 z83 z101 z119 rv h0 n0 _ s₁.heap _
            rw [e0]
            exact ⟨(congrArg (fun z => some (Value.int z)) (show (2 : Int32) = rv by rw [← hrv]; simp only [if_pos hb1, if_pos hb9, if_pos hb16, if_neg hb24])), by first | assumption | exact N0, rfl⟩
      · skip
        have c39 : ∀ t, Steps p.tables e below (s₁.setTop (mkF m 127 #[vR o0, vI p1, vD d2, s_] [(.int (0 : Int32))])) t → Steps p.tables e below (s₁.setTop (entryFrame m #[(.ref o0), (.int p1), (.double d2)] 4)) t := by
          intro t k
          refine c4 t ?_
          show Steps p.tables e below (s₁.setTop (mkF m 16 #[vR o0, vI p1, vD d2, s_] [(.int (1 : Int32)), (.int p1)])) _
          refine XS.icmpYes X0.here hx rfl (pc0 := 16) (pc' := 29) rfl (hb hby d6_16) rfl (Jvm.Free.XT.ii_le_t hb16) (by decide) (by decide) ?_
          refine XS.iloadN X0.here hx rfl (hb hby d6_29) rfl ?_
          refine XS.iconst X0.here hx rfl (hb hby d6_30) ?_
          refine XS.icmpYes X0.here hx rfl (pc0 := 31) (pc' := 44) rfl (hb hby d6_31) rfl (Jvm.Free.XT.ii_le_t (up1 hb16 (by decide))) (by decide) (by decide) ?_
          refine XS.iloadN X0.here hx rfl (hb hby d6_44) rfl ?_
          refine XS.iconst X0.here hx rfl (hb hby d6_45) ?_
          show Steps p.tables e below (s₁.setTop (mkF m 46 #[vR o0, vI p1, vD d2, s_] [(.int (3 : Int32)), (.int p1)])) _
          refine XS.icmpYes X0.here hx rfl (pc0 := 46) (pc' := 59) rfl (hb hby d6_46) rfl (Jvm.Free.XT.ii_le_t (up1 hb16 (by decide))) (by decide) (by decide) ?_
          refine XS.iloadN X0.here hx rfl (hb hby d6_59) rfl ?_
          refine XS.iconst X0.here hx rfl (hb hby d6_60) ?_
          refine XS.icmpYes X0.here hx rfl (pc0 := 61) (pc' := 74) rfl (hb hby d6_61) rfl (Jvm.Free.XT.ii_le_t (up1 hb16 (by decide))) (by decide) (by decide) ?_
          refine XS.iloadN X0.here hx rfl (hb hby d6_74) rfl ?_
          refine XS.iconst X0.here hx rfl (hb hby d6_75) ?_
          show Steps p.tables e below (s₁.setTop (mkF m 76 #[vR o0, vI p1, vD d2, s_] [(.int (5 : Int32)), (.int p1)])) _
          refine XS.icmpYes X0.here hx rfl (pc0 := 76) (pc' := 90) rfl (hb hby d6_76) rfl (Jvm.Free.XT.ii_le_t (up1 hb16 (by decide))) (by decide) (by decide) ?_
          refine XS.iloadN X0.here hx rfl (hb hby d6_90) rfl ?_
          refine XS.bipush X0.here hx rfl (hb hby d6_91) ?_
          refine XS.icmpYes X0.here hx rfl (pc0 := 93) (pc' := 108) rfl (hb hby d6_93) rfl (Jvm.Free.XT.ii_le_t (up1 hb16 (by decide))) (by decide) (by decide) ?_
          refine XS.iloadN X0.here hx rfl (hb hby d6_108) rfl ?_
          refine XS.bipush X0.here hx rfl (hb hby d6_109) ?_
          show Steps p.tables e below (s₁.setTop (mkF m 111 #[vR o0, vI p1, vD d2, s_] [(.int (7 : Int32)), (.int p1)])) _
          refine XS.icmpYes X0.here hx rfl (pc0 := 111) (pc' := 126) rfl (hb hby d6_111) rfl (Jvm.Free.XT.ii_le_t (up1 hb16 (by decide))) (by decide) (by decide) ?_
          refine XS.iconst X0.here hx rfl (hb hby d6_126) ?_
          exact k
        obtain ⟨fs, hr, hrun, hended, hW, hsame⟩ := X0.leave (v := some (.int (0 : Int32))) (fun h => by rw [Bd.returns] at h; cases h)
        refine ⟨_, _, c39 _ ?_, hrun, hended, _, _, rfl, ?_, ⟨_, rfl⟩, hW, hsame.mono (by decide) (by decide)⟩
        · show Steps p.tables e below (s₁.setTop (mkF m 127 #[vR o0, vI p1, vD d2, s_] [(.int (0 : Int32))])) _
          exact retOut X0 hx Bd.returns rfl (Or.inl ⟨rfl, by simp, _, rfl⟩) (hb hby d6_127) hr
        · show Q6 Z o0 p1 d2 qcP y0 y1 y2 y3 y4 y5 y6 y7 z8 z23 z38 z53 z68 z83 z101 z119 rv h0 n0 _ s₁.heap _
          rw [e0]
          exact ⟨(congrArg (fun z => some (Value.int z)) (show (0 : Int32) = rv by rw [← hrv]; simp only [if_pos hb1, if_pos hb9, if_neg hb16])), by first | assumption | exact N0, rfl⟩
    · skip
      have c40 : ∀ t, Steps p.tables e below (s₁.setTop (mkF m 13 #[vR o0, vI p1, vD d2, s_] [(.int (1 : Int32))])) t → Steps p.tables e below (s₁.setTop (entryFrame m #[(.ref o0), (.int p1), (.double d2)] 4)) t := by
        intro t k
        refine c3 t ?_
        show Steps p.tables e below (s₁.setTop (mkF m 9 #[vR o0, vI p1, vD d2, s_] [(.int z8)])) _
        refine XS.ifNo X0.here hx rfl (hb hby d6_9) rfl (Jvm.Free.XT.i0_gt_f hb9) ?_
        refine XS.iconst X0.here hx rfl (hb hby d6_12) ?_
        exact k
      obtain ⟨fs, hr, hrun, hended, hW, hsame⟩ := X0.leave (v := some (.int (1 : Int32))) (fun h => by rw [Bd.returns] at h; cases h)
      refine ⟨_, _, c40 _ ?_, hrun, hended, _, _, rfl, ?_, ⟨_, rfl⟩, hW, hsame.mono (by decide) (by decide)⟩
      · show Steps p.tables e below (s₁.setTop (mkF m 13 #[vR o0, vI p1, vD d2, s_] [(.int (1 : Int32))])) _
        exact retOut X0 hx Bd.returns rfl (Or.inl ⟨rfl, by simp, _, rfl⟩) (hb hby d6_13) hr
      · show Q6 Z o0 p1 d2 qcP y0 y1 y2 y3 y4 y5 y6 y7 z8 z23 z38 z53 z68 z83 z101 z119 rv h0 n0 _ s₁.heap _
        rw [e0]
        exact ⟨(congrArg (fun z => some (Value.int z)) (show (1 : Int32) = rv by rw [← hrv]; simp only [if_pos hb1, if_neg hb9])), by first | assumption | exact N0, rfl⟩
  · skip
    have c41 : ∀ t, Steps p.tables e below (s₁.setTop (mkF m 127 #[vR o0, vI p1, vD d2, s_] [(.int (0 : Int32))])) t → Steps p.tables e below (s₁.setTop (entryFrame m #[(.ref o0), (.int p1), (.double d2)] 4)) t := by
      intro t k
      refine c1 t ?_
      show Steps p.tables e below (s₁.setTop (mkF m 1 #[vR o0, vI p1, vD d2, s_] [(.int p1)])) _
      refine XS.ifYes X0.here hx rfl (pc0 := 1) (pc' := 14) rfl (hb hby d6_1) rfl (Jvm.Free.XT.i0_le_t hb1) (by decide) (by decide) ?_
      refine XS.iloadN X0.here hx rfl (hb hby d6_14) rfl ?_
      refine XS.iconst X0.here hx rfl (hb hby d6_15) ?_
      refine XS.icmpYes X0.here hx rfl (pc0 := 16) (pc' := 29) rfl (hb hby d6_16) rfl (Jvm.Free.XT.ii_le_t (up1 hb1 (by decide))) (by decide) (by decide) ?_
      refine XS.iloadN X0.here hx rfl (hb hby d6_29) rfl ?_
      refine XS.iconst X0.here hx rfl (hb hby d6_30) ?_
      show Steps p.tables e below (s₁.setTop (mkF m 31 #[vR o0, vI p1, vD d2, s_] [(.int (2 : Int32)), (.int p1)])) _
      refine XS.icmpYes X0.here hx rfl (pc0 := 31) (pc' := 44) rfl (hb hby d6_31) rfl (Jvm.Free.XT.ii_le_t (up1 hb1 (by decide))) (by decide) (by decide) ?_
      refine XS.iloadN X0.here hx rfl (hb hby d6_44) rfl ?_
      refine XS.iconst X0.here hx rfl (hb hby d6_45) ?_
      refine XS.icmpYes X0.here hx rfl (pc0 := 46) (pc' := 59) rfl (hb hby d6_46) rfl (Jvm.Free.XT.ii_le_t (up1 hb1 (by decide))) (by decide) (by decide) ?_
      refine XS.iloadN X0.here hx rfl (hb hby d6_59) rfl ?_
      refine XS.iconst X0.here hx rfl (hb hby d6_60) ?_
      show Steps p.tables e below (s₁.setTop (mkF m 61 #[vR o0, vI p1, vD d2, s_] [(.int (4 : Int32)), (.int p1)])) _
      refine XS.icmpYes X0.here hx rfl (pc0 := 61) (pc' := 74) rfl (hb hby d6_61) rfl (Jvm.Free.XT.ii_le_t (up1 hb1 (by decide))) (by decide) (by decide) ?_
      refine XS.iloadN X0.here hx rfl (hb hby d6_74) rfl ?_
      refine XS.iconst X0.here hx rfl (hb hby d6_75) ?_
      refine XS.icmpYes X0.here hx rfl (pc0 := 76) (pc' := 90) rfl (hb hby d6_76) rfl (Jvm.Free.XT.ii_le_t (up1 hb1 (by decide))) (by decide) (by decide) ?_
      refine XS.iloadN X0.here hx rfl (hb hby d6_90) rfl ?_
      refine XS.bipush X0.here hx rfl (hb hby d6_91) ?_
      show Steps p.tables e below (s₁.setTop (mkF m 93 #[vR o0, vI p1, vD d2, s_] [(.int (6 : Int32)), (.int p1)])) _
      refine XS.icmpYes X0.here hx rfl (pc0 := 93) (pc' := 108) rfl (hb hby d6_93) rfl (Jvm.Free.XT.ii_le_t (up1 hb1 (by decide))) (by decide) (by decide) ?_
      refine XS.iloadN X0.here hx rfl (hb hby d6_108) rfl ?_
      refine XS.bipush X0.here hx rfl (hb hby d6_109) ?_
      refine XS.icmpYes X0.here hx rfl (pc0 := 111) (pc' := 126) rfl (hb hby d6_111) rfl (Jvm.Free.XT.ii_le_t (up1 hb1 (by decide))) (by decide) (by decide) ?_
      refine XS.iconst X0.here hx rfl (hb hby d6_126) ?_
      exact k
    obtain ⟨fs, hr, hrun, hended, hW, hsame⟩ := X0.leave (v := some (.int (0 : Int32))) (fun h => by rw [Bd.returns] at h; cases h)
    refine ⟨_, _, c41 _ ?_, hrun, hended, _, _, rfl, ?_, ⟨_, rfl⟩, hW, hsame.mono (by decide) (by decide)⟩
    · show Steps p.tables e below (s₁.setTop (mkF m 127 #[vR o0, vI p1, vD d2, s_] [(.int (0 : Int32))])) _
      exact retOut X0 hx Bd.returns rfl (Or.inl ⟨rfl, by simp, _, rfl⟩) (hb hby d6_127) hr
    · show Q6 Z o0 p1 d2 qcP y0 y1 y2 y3 y4 y5 y6 y7 z8 z23 z38 z53 z68 z83 z101 z119 rv h0 n0 _ s₁.heap _
      rw [e0]
      exact ⟨(congrArg (fun z => some (Value.int z)) (show (0 : Int32) = rv by rw [← hrv]; simp only [if_neg hb1])), by first | assumption | exact N0, rfl⟩
def Q5w (Z : State) (o0 : Addr) (d1 : UInt64) (qd : ClassId) (y0 y1 y2 y3 y4 y5 y6 y7 y8 y9 y10 y11 y12 y13 y14 y15 y16 y17 y18 y19 y20 y21 y22 y23 y24 y25 y26 y27 y28 y29 y30 y31 : UInt64) (qc : Addr) (qg : Int64) (rv : Int32) (h0 : Heap) (n0 : Nat) (v : Option Value) (h : Heap) (L : List Loc) : Prop := ∃ vx_visits_o0 : Int64, v = some (.int rv) ∧ Fr n0 L ∧ Keep h0 h [o0] ∧ Fld Z h o0 MTc "minima" "[D" (.ref qc) ∧ Fld Z h o0 MTc "capacity" "I" (.int (16 : Int32)) ∧ Fld Z h o0 MTc "visits" "J" (.long vx_visits_o0) ∧ Exa Z h o0 MTc
theorem rm5w (l : Launch) (Z : State) (a0 : Array Value) (hw : ∀ d ∈ tables_1, d.before a0 Z = true) (ws : List Jvm.Cond) (o0 : Addr) (d1 : UInt64) (qd : ClassId) (y0 y1 y2 y3 y4 y5 y6 y7 y8 y9 y10 y11 y12 y13 y14 y15 y16 y17 y18 y19 y20 y21 y22 y23 y24 y25 y26 y27 y28 y29 y30 y31 : UInt64) (qc : Addr) (qg : Int64) (rv : Int32) (h0 : Heap) (n0 : Nat) (Z0 : n0 ≤ h0.size) (qm : Arv Z h0 qc qd .double (32 : Int32) (t32 y0 y1 y2 y3 y4 y5 y6 y7 y8 y9 y10 y11 y12 y13 y14 y15 y16 y17 y18 y19 y20 y21 y22 y23 y24 y25 y26 y27 y28 y29 y30 y31) (.double (0 : UInt64))) (qe : o0 ≠ qc) (qn : Fld Z h0 o0 MTc "minima" "[D" (.ref qc)) (qi : Fld Z h0 o0 MTc "capacity" "I" (.int (16 : Int32))) (qr : Fld Z h0 o0 MTc "visits" "J" (.long qg)) (qbS : Exa Z h0 o0 MTc) (qU : n0 ≤ o0) (hrv : fbf y1 y4 y8 y10 y16 y18 y20 y22 d1 = rv) (ob : (¬ (0 : Int32) < cmpValue (FP.dcmp y1 d1) .g) → ¬ (0 : Int32) < cmpValue (FP.dcmp y2 d1) .g) :
    MetFree l (⟨MTc, "firstBy", "(D)I"⟩ : MethodName) (head1 (Jvm.Cond.code (⟨MTc, "firstBy", "(D)I"⟩ : MethodName) prog_28_method_6_code 4 (some .int) :: ws) ({ frames := 0, cells := 0, slots := 0, locals := 0 } : Room)) (fun a U => a = #[(.ref o0), (.double d1)] ∧ Z.Warmed39 U.vm ∧ U.heap = h0) (fun _ _ _ _ _ => True) (fun _ U o U' => ∃ v L, o = .returned v ∧ Q5w Z o0 d1 qd y0 y1 y2 y3 y4 y5 y6 y7 y8 y9 y10 y11 y12 y13 y14 y15 y16 y17 y18 y19 y20 y21 y22 y23 y24 y25 y26 y27 y28 y29 y30 y31 qc qg rv h0 n0 v U'.heap L ∧ FrameEnd U o U' L ({ frames := 0, cells := 0, slots := 0, locals := 0 } : Room).cells ({ frames := 0, cells := 0, slots := 0, locals := 0 } : Room).slots) :=
  rm5 l Z a0 hw ws o0 d1 qd y0 y1 y2 y3 y4 y5 y6 y7 y8 y9 y10 y11 y12 y13 y14 y15 y16 y17 y18 y19 y20 y21 y22 y23 y24 y25 y26 y27 y28 y29 y30 y31 qc qg _ _ _ _ _ _ _ _ _ _ _ _ _ _ _ _ _ _ _ _ _ _ _ _ rv h0 n0 Z0 qm qe qn qi qr qbS qU rfl rfl rfl rfl rfl rfl rfl rfl rfl rfl rfl rfl rfl rfl rfl rfl rfl rfl rfl rfl rfl rfl rfl rfl hrv (ob)
def Q6w (Z : State) (o0 : Addr) (p1 : Int32) (d2 : UInt64) (qcP : ClassId) (y0 y1 y2 y3 y4 y5 y6 y7 : UInt64) (rv : Int32) (h0 : Heap) (n0 : Nat) (v : Option Value) (h : Heap) (L : List Loc) : Prop := v = some (.int rv) ∧ Fr n0 L ∧ h = h0
theorem rm6w (l : Launch) (Z : State) (a0 : Array Value) (hw : ∀ d ∈ tables_1, d.before a0 Z = true) (ws : List Jvm.Cond) (o0 : Addr) (p1 : Int32) (d2 : UInt64) (qcP : ClassId) (y0 y1 y2 y3 y4 y5 y6 y7 : UInt64) (rv : Int32) (h0 : Heap) (n0 : Nat) (Z0 : n0 ≤ h0.size) (qh6 : Arv Z h0 o0 qcP .double (8 : Int32) (t8 y0 y1 y2 y3 y4 y5 y6 y7) (.double (0 : UInt64))) (hrv : rff p1 y0 y1 y2 y3 y4 y5 y6 y7 d2 = rv) :
    MetFree l (⟨"com/example/kinetic_fleet/kineticfleet/fleet/MachineTimesFirstByPinLaw", "ref", "([DID)I"⟩ : MethodName) (head1 (Jvm.Cond.code (⟨"com/example/kinetic_fleet/kineticfleet/fleet/MachineTimesFirstByPinLaw", "ref", "([DID)I"⟩ : MethodName) method_3_code 4 (some .int) :: ws) ({ frames := 0, cells := 0, slots := 0, locals := 0 } : Room)) (fun a U => a = #[(.ref o0), (.int p1), (.double d2)] ∧ Z.Warmed39 U.vm ∧ U.heap = h0) (fun _ _ _ _ _ => True) (fun _ U o U' => ∃ v L, o = .returned v ∧ Q6w Z o0 p1 d2 qcP y0 y1 y2 y3 y4 y5 y6 y7 rv h0 n0 v U'.heap L ∧ FrameEnd U o U' L ({ frames := 0, cells := 0, slots := 0, locals := 0 } : Room).cells ({ frames := 0, cells := 0, slots := 0, locals := 0 } : Room).slots) :=
  rm6 l Z a0 hw ws o0 p1 d2 qcP y0 y1 y2 y3 y4 y5 y6 y7 _ _ _ _ _ _ _ _ rv h0 n0 Z0 qh6 rfl rfl rfl rfl rfl rfl rfl rfl hrv 
def Q0 (n0 : Nat) (v : Option Value) (h : Heap) (L : List Loc) : Prop := v = some (.int 1) ∧ Fr n0 L
set_option maxRecDepth 65536 in
set_option maxHeartbeats 40000000 in
theorem rm0 (l : Launch) (Z : State) (a0 : Array Value) (hw : ∀ d ∈ tables_1, d.before a0 Z = true) (ws : List Jvm.Cond) (p0 : Int32) (q1 : Int64) (p2 p3 : Int32)  (h0 : Heap) (n0 : Nat) (Z0 : n0 ≤ h0.size)  :
    MetFree l x (head1 (Jvm.Cond.code x code maxLocals ret :: ws) room_1) (fun a U => a = #[(.int p0), (.long q1), (.int p2), (.int p3)] ∧ Z.Warmed39 U.vm ∧ U.heap = h0) (fun _ _ _ _ _ => True) (fun _ U o U' => ∃ v L, o = .returned v ∧ Q0 n0 v U'.heap L ∧ FrameEnd U o U' L room_1.cells room_1.slots) := by
  refine MetFree.of_bodySF (plainFor_of_name pn_3) hisR ?_
  intro p e s m args below meth c s₁ Bd hml0 hP hK
  obtain ⟨rfl, hZ, hh⟩ := hP
  have hx := Bd.exec
  have hby := Bd.bytes
  have hml : c.maxLocals = 14 := hml0
  have hown : s.vm.findClass "com/example/kinetic_fleet/kineticfleet/fleet/MachineTimesFirstByPinLaw" = some m.cls := findClass_of_methodNamed Bd.named
  have hnm := (name_of_methodNamed Bd.named Bd.method).1
  have X0 : Stand p l e room_1 s m #[(.int p0), (.long q1), (.int p2), (.int p3)] below meth c s₁ [] 0 0 := Stand.of_body Bd
  have e0 : s₁.heap = h0 := by rw [← hh, Bd.state]; rfl
  have N0 := Fr.nil n0
  have c0 : ∀ t, Steps p.tables e below (s₁.setTop (mkF m 0 #[vI p0, vJ q1, s_, vI p2, vI p3, u_, u_, u_, u_, u_, u_, u_, u_, u_] [])) t → Steps p.tables e below (s₁.setTop (entryFrame m #[(.int p0), (.long q1), (.int p2), (.int p3)] maxLocals)) t := fun t k => castTop (ef_rm0 m p0 q1 p2 p3) k
  obtain ⟨z3, hz3⟩ : ∃ z : Int32, p0 &&& (2147483647 : Int32) = z := ⟨_, rfl⟩
  obtain ⟨z6, hz6⟩ : ∃ z : Int32, z3 % (9 : Int32) = z := ⟨_, rfl⟩
  obtain ⟨z19, hz19⟩ : ∃ z : Int64, p2.toInt64 = z := ⟨_, rfl⟩
  obtain ⟨z21, hz21⟩ : ∃ z : Int32, q1.toInt32 = z := ⟨_, rfl⟩
  obtain ⟨z22, hz22⟩ : ∃ z : Int32, z21.toInt8.toInt32 = z := ⟨_, rfl⟩
  obtain ⟨z23, hz23⟩ : ∃ z : Int64, z22.toInt64 = z := ⟨_, rfl⟩
  obtain ⟨z24, hz24⟩ : ∃ z : Int64, z19 + z23 = z := ⟨_, rfl⟩
  obtain ⟨z25, hz25⟩ : ∃ z : UInt64, FP.l2d z24 = z := ⟨_, rfl⟩
  obtain ⟨z31, hz31⟩ : ∃ z : Int64, p2.toInt64 = z := ⟨_, rfl⟩
  obtain ⟨z35, hz35⟩ : ∃ z : Int64, (q1.toUInt64 >>> ((8 : Int32) &&& 0x3f).toInt64.toUInt64).toInt64 = z := ⟨_, rfl⟩
  obtain ⟨z36, hz36⟩ : ∃ z : Int32, z35.toInt32 = z := ⟨_, rfl⟩
  obtain ⟨z37, hz37⟩ : ∃ z : Int32, z36.toInt8.toInt32 = z := ⟨_, rfl⟩
  obtain ⟨z38, hz38⟩ : ∃ z : Int64, z37.toInt64 = z := ⟨_, rfl⟩
  obtain ⟨z39, hz39⟩ : ∃ z : Int64, z31 + z38 = z := ⟨_, rfl⟩
  obtain ⟨z40, hz40⟩ : ∃ z : UInt64, FP.l2d z39 = z := ⟨_, rfl⟩
  obtain ⟨z46, hz46⟩ : ∃ z : Int64, p2.toInt64 = z := ⟨_, rfl⟩
  obtain ⟨z50, hz50⟩ : ∃ z : Int64, (q1.toUInt64 >>> ((16 : Int32) &&& 0x3f).toInt64.toUInt64).toInt64 = z := ⟨_, rfl⟩
  obtain ⟨z51, hz51⟩ : ∃ z : Int32, z50.toInt32 = z := ⟨_, rfl⟩
  obtain ⟨z52, hz52⟩ : ∃ z : Int32, z51.toInt8.toInt32 = z := ⟨_, rfl⟩
  obtain ⟨z53, hz53⟩ : ∃ z : Int64, z52.toInt64 = z := ⟨_, rfl⟩
  obtain ⟨z54, hz54⟩ : ∃ z : Int64, z46 + z53 = z := ⟨_, rfl⟩
  obtain ⟨z55, hz55⟩ : ∃ z : UInt64, FP.l2d z54 = z := ⟨_, rfl⟩
  obtain ⟨z61, hz61⟩ : ∃ z : Int64, p2.toInt64 = z := ⟨_, rfl⟩
  obtain ⟨z65, hz65⟩ : ∃ z : Int64, (q1.toUInt64 >>> ((24 : Int32) &&& 0x3f).toInt64.toUInt64).toInt64 = z := ⟨_, rfl⟩
  obtain ⟨z66, hz66⟩ : ∃ z : Int32, z65.toInt32 = z := ⟨_, rfl⟩
  obtain ⟨z67, hz67⟩ : ∃ z : Int32, z66.toInt8.toInt32 = z := ⟨_, rfl⟩
  obtain ⟨z68, hz68⟩ : ∃ z : Int64, z67.toInt64 = z := ⟨_, rfl⟩
  obtain ⟨z69, hz69⟩ : ∃ z : Int64, z61 + z68 = z := ⟨_, rfl⟩
  obtain ⟨z70, hz70⟩ : ∃ z : UInt64, FP.l2d z69 = z := ⟨_, rfl⟩
  obtain ⟨z76, hz76⟩ : ∃ z : Int64, p2.toInt64 = z := ⟨_, rfl⟩
  obtain ⟨z80, hz80⟩ : ∃ z : Int64, (q1.toUInt64 >>> ((32 : Int32) &&& 0x3f).toInt64.toUInt64).toInt64 = z := ⟨_, rfl⟩
  obtain ⟨z81, hz81⟩ : ∃ z : Int32, z80.toInt32 = z := ⟨_, rfl⟩
  obtain ⟨z82, hz82⟩ : ∃ z : Int32, z81.toInt8.toInt32 = z := ⟨_, rfl⟩
  obtain ⟨z83, hz83⟩ : ∃ z : Int64, z82.toInt64 = z := ⟨_, rfl⟩
  obtain ⟨z84, hz84⟩ : ∃ z : Int64, z76 + z83 = z := ⟨_, rfl⟩
  obtain ⟨z85, hz85⟩ : ∃ z : UInt64, FP.l2d z84 = z := ⟨_, rfl⟩
  obtain ⟨z91, hz91⟩ : ∃ z : Int64, p2.toInt64 = z := ⟨_, rfl⟩
  obtain ⟨z95, hz95⟩ : ∃ z : Int64, (q1.toUInt64 >>> ((40 : Int32) &&& 0x3f).toInt64.toUInt64).toInt64 = z := ⟨_, rfl⟩
  obtain ⟨z96, hz96⟩ : ∃ z : Int32, z95.toInt32 = z := ⟨_, rfl⟩
  obtain ⟨z97, hz97⟩ : ∃ z : Int32, z96.toInt8.toInt32 = z := ⟨_, rfl⟩
  obtain ⟨z98, hz98⟩ : ∃ z : Int64, z97.toInt64 = z := ⟨_, rfl⟩
  obtain ⟨z99, hz99⟩ : ∃ z : Int64, z91 + z98 = z := ⟨_, rfl⟩
  obtain ⟨z100, hz100⟩ : ∃ z : UInt64, FP.l2d z99 = z := ⟨_, rfl⟩
  obtain ⟨z107, hz107⟩ : ∃ z : Int64, p2.toInt64 = z := ⟨_, rfl⟩
  obtain ⟨z111, hz111⟩ : ∃ z : Int64, (q1.toUInt64 >>> ((48 : Int32) &&& 0x3f).toInt64.toUInt64).toInt64 = z := ⟨_, rfl⟩
  obtain ⟨z112, hz112⟩ : ∃ z : Int32, z111.toInt32 = z := ⟨_, rfl⟩
  obtain ⟨z113, hz113⟩ : ∃ z : Int32, z112.toInt8.toInt32 = z := ⟨_, rfl⟩
  obtain ⟨z114, hz114⟩ : ∃ z : Int64, z113.toInt64 = z := ⟨_, rfl⟩
  obtain ⟨z115, hz115⟩ : ∃ z : Int64, z107 + z114 = z := ⟨_, rfl⟩
  obtain ⟨z116, hz116⟩ : ∃ z : UInt64, FP.l2d z115 = z := ⟨_, rfl⟩
  obtain ⟨z123, hz123⟩ : ∃ z : Int64, p2.toInt64 = z := ⟨_, rfl⟩
  obtain ⟨z127, hz127⟩ : ∃ z : Int64, (q1.toUInt64 >>> ((56 : Int32) &&& 0x3f).toInt64.toUInt64).toInt64 = z := ⟨_, rfl⟩
  obtain ⟨z128, hz128⟩ : ∃ z : Int32, z127.toInt32 = z := ⟨_, rfl⟩
  obtain ⟨z129, hz129⟩ : ∃ z : Int32, z128.toInt8.toInt32 = z := ⟨_, rfl⟩
  obtain ⟨z130, hz130⟩ : ∃ z : Int64, z129.toInt64 = z := ⟨_, rfl⟩
  obtain ⟨z131, hz131⟩ : ∃ z : Int64, z123 + z130 = z := ⟨_, rfl⟩
  obtain ⟨z132, hz132⟩ : ∃ z : UInt64, FP.l2d z131 = z := ⟨_, rfl⟩
  obtain ⟨z135, hz135⟩ : ∃ z : Int64, p2.toInt64 = z := ⟨_, rfl⟩
  obtain ⟨z138, hz138⟩ : ∃ z : Int32, p3.toInt8.toInt32 = z := ⟨_, rfl⟩
  obtain ⟨z139, hz139⟩ : ∃ z : Int64, z138.toInt64 = z := ⟨_, rfl⟩
  obtain ⟨z140, hz140⟩ : ∃ z : Int64, z135 + z139 = z := ⟨_, rfl⟩
  obtain ⟨z141, hz141⟩ : ∃ z : UInt64, FP.l2d z140 = z := ⟨_, rfl⟩
  obtain ⟨z146, hz146⟩ : ∃ z : UInt64, FP.i2d p3 = z := ⟨_, rfl⟩
  obtain ⟨T1, h1, k1, X1, e1, E1, A1, st1⟩ := newP X0 hx hZ (hwi hw 1 rfl) e0 (g := (mkF m 11 #[vI p0, vJ q1, s_, vI p2, vI p3, vI z6, u_, u_, u_, u_, u_, u_, u_, u_] [(.int (8 : Int32))])) rfl (hb hby at_11) rfl (by decide) (cap := 8) (by decide) (by decide) (by decide) (by decide)
  obtain ⟨b1, g1⟩ : ∃ z, z = h0.size := ⟨_, rfl⟩
  rw [← g1] at A1 st1
  have gn1 : n0 ≤ b1 := Nat.le_trans Z0 (Nat.le_of_eq g1.symm)
  have gz1 : h0.size ≤ b1 := Nat.le_trans ((Keep.refl h0 [])).1 (Nat.le_of_eq g1.symm)
  have K2 : Keep h0 h1 [] := (Keep.refl h0 []).ext E1
  have V1 : Arv Z h1 b1 k1 .double (8 : Int32) (t8 (0 : UInt64) (0 : UInt64) (0 : UInt64) (0 : UInt64) (0 : UInt64) (0 : UInt64) (0 : UInt64) (0 : UInt64)) (.double (0 : UInt64)) := (Arv.new A1 (by decide)).pad (pad_rep [] (.double (0 : UInt64)) 8)
  obtain ⟨cl3, Ar3, q3, S3, Nn3, Ha3, G3⟩ := id V1
  have in3 : ¬ ((0 : Int32) < 0 ∨ cl3.slots.size ≤ ((0 : Int32)).toNatClampNeg) := inb_of S3 ⟨by decide, by decide⟩
  obtain ⟨T4, h4, X4, e4, W4, st4⟩ := stD X1 hx hZ e1 Ar3 (j := (0 : Int32)) in3 (g := (mkF m 26 #[vI p0, vJ q1, s_, vI p2, vI p3, vI z6, vR b1, u_, u_, u_, u_, u_, u_, u_] [(.double z25), (.int (0 : Int32)), (.ref b1)])) rfl rfl (hb hby at_26)
  have N4 := Fr.snoc X4 N0 gn1
  have K5 : Keep h0 h4 [] := K2.wr W4 (Or.inr gz1)
  have V4 : Arv Z h4 b1 k1 .double (8 : Int32) (t8 z25 (0 : UInt64) (0 : UInt64) (0 : UInt64) (0 : UInt64) (0 : UInt64) (0 : UInt64) (0 : UInt64)) (.double (0 : UInt64)) := Arv.set Ar3 q3 S3 Nn3 Ha3 G3 rfl W4 0 rfl (show (0 : Nat) < 8 by decide)
  obtain ⟨cl6, Ar6, q6, S6, Nn6, Ha6, G6⟩ := id V4
  have in6 : ¬ ((1 : Int32) < 0 ∨ cl6.slots.size ≤ ((1 : Int32)).toNatClampNeg) := inb_of S6 ⟨by decide, by decide⟩
  obtain ⟨T7, h7, X7, e7, W7, st7⟩ := stD X4 hx hZ e4 Ar6 (j := (1 : Int32)) in6 (g := (mkF m 41 #[vI p0, vJ q1, s_, vI p2, vI p3, vI z6, vR b1, u_, u_, u_, u_, u_, u_, u_] [(.double z40), (.int (1 : Int32)), (.ref b1)])) rfl rfl (hb hby at_41)
  have N7 := Fr.snoc X7 N4 gn1
  have K8 : Keep h0 h7 [] := K5.wr W7 (Or.inr gz1)
  have V7 : Arv Z h7 b1 k1 .double (8 : Int32) (t8 z25 z40 (0 : UInt64) (0 : UInt64) (0 : UInt64) (0 : UInt64) (0 : UInt64) (0 : UInt64)) (.double (0 : UInt64)) := Arv.set Ar6 q6 S6 Nn6 Ha6 G6 rfl W7 1 rfl (show (1 : Nat) < 8 by decide)
  obtain ⟨cl9, Ar9, q9, S9, Nn9, Ha9, G9⟩ := id V7
  have in9 : ¬ ((2 : Int32) < 0 ∨ cl9.slots.size ≤ ((2 : Int32)).toNatClampNeg) := inb_of S9 ⟨by decide, by decide⟩
  obtain ⟨T10, h10, X10, e10, W10, st10⟩ := stD X7 hx hZ e7 Ar9 (j := (2 : Int32)) in9 (g := (mkF m 56 #[vI p0, vJ q1, s_, vI p2, vI p3, vI z6, vR b1, u_, u_, u_, u_, u_, u_, u_] [(.double z55), (.int (2 : Int32)), (.ref b1)])) rfl rfl (hb hby at_56)
  have N10 := Fr.snoc X10 N7 gn1
  have K11 : Keep h0 h10 [] := K8.wr W10 (Or.inr gz1)
  have V10 : Arv Z h10 b1 k1 .double (8 : Int32) (t8 z25 z40 z55 (0 : UInt64) (0 : UInt64) (0 : UInt64) (0 : UInt64) (0 : UInt64)) (.double (0 : UInt64)) := Arv.set Ar9 q9 S9 Nn9 Ha9 G9 rfl W10 2 rfl (show (2 : Nat) < 8 by decide)
  obtain ⟨cl12, Ar12, q12, S12, Nn12, Ha12, G12⟩ := id V10
  have in12 : ¬ ((3 : Int32) < 0 ∨ cl12.slots.size ≤ ((3 : Int32)).toNatClampNeg) := inb_of S12 ⟨by decide, by decide⟩
  obtain ⟨T13, h13, X13, e13, W13, st13⟩ := stD X10 hx hZ e10 Ar12 (j := (3 : Int32)) in12 (g := (mkF m 71 #[vI p0, vJ q1, s_, vI p2, vI p3, vI z6, vR b1, u_, u_, u_, u_, u_, u_, u_] [(.double z70), (.int (3 : Int32)), (.ref b1)])) rfl rfl (hb hby at_71)
  have N13 := Fr.snoc X13 N10 gn1
  have K14 : Keep h0 h13 [] := K11.wr W13 (Or.inr gz1)
  have V13 : Arv Z h13 b1 k1 .double (8 : Int32) (t8 z25 z40 z55 z70 (0 : UInt64) (0 : UInt64) (0 : UInt64) (0 : UInt64)) (.double (0 : UInt64)) := Arv.set Ar12 q12 S12 Nn12 Ha12 G12 rfl W13 3 rfl (show (3 : Nat) < 8 by decide)
  obtain ⟨cl15, Ar15, q15, S15, Nn15, Ha15, G15⟩ := id V13
  have in15 : ¬ ((4 : Int32) < 0 ∨ cl15.slots.size ≤ ((4 : Int32)).toNatClampNeg) := inb_of S15 ⟨by decide, by decide⟩
  obtain ⟨T16, h16, X16, e16, W16, st16⟩ := stD X13 hx hZ e13 Ar15 (j := (4 : Int32)) in15 (g := (mkF m 86 #[vI p0, vJ q1, s_, vI p2, vI p3, vI z6, vR b1, u_, u_, u_, u_, u_, u_, u_] [(.double z85), (.int (4 : Int32)), (.ref b1)])) rfl rfl (hb hby at_86)
  have N16 := Fr.snoc X16 N13 gn1
  have K17 : Keep h0 h16 [] := K14.wr W16 (Or.inr gz1)
  have V16 : Arv Z h16 b1 k1 .double (8 : Int32) (t8 z25 z40 z55 z70 z85 (0 : UInt64) (0 : UInt64) (0 : UInt64)) (.double (0 : UInt64)) := Arv.set Ar15 q15 S15 Nn15 Ha15 G15 rfl W16 4 rfl (show (4 : Nat) < 8 by decide)
  obtain ⟨cl18, Ar18, q18, S18, Nn18, Ha18, G18⟩ := id V16
  have in18 : ¬ ((5 : Int32) < 0 ∨ cl18.slots.size ≤ ((5 : Int32)).toNatClampNeg) := inb_of S18 ⟨by decide, by decide⟩
  obtain ⟨T19, h19, X19, e19, W19, st19⟩ := stD X16 hx hZ e16 Ar18 (j := (5 : Int32)) in18 (g := (mkF m 101 #[vI p0, vJ q1, s_, vI p2, vI p3, vI z6, vR b1, u_, u_, u_, u_, u_, u_, u_] [(.double z100), (.int (5 : Int32)), (.ref b1)])) rfl rfl (hb hby at_101)
  have N19 := Fr.snoc X19 N16 gn1
  have K20 : Keep h0 h19 [] := K17.wr W19 (Or.inr gz1)
  have V19 : Arv Z h19 b1 k1 .double (8 : Int32) (t8 z25 z40 z55 z70 z85 z100 (0 : UInt64) (0 : UInt64)) (.double (0 : UInt64)) := Arv.set Ar18 q18 S18 Nn18 Ha18 G18 rfl W19 5 rfl (show (5 : Nat) < 8 by decide)
  obtain ⟨cl21, Ar21, q21, S21, Nn21, Ha21, G21⟩ := id V19
  have in21 : ¬ ((6 : Int32) < 0 ∨ cl21.slots.size ≤ ((6 : Int32)).toNatClampNeg) := inb_of S21 ⟨by decide, by decide⟩
  obtain ⟨T22, h22, X22, e22, W22, st22⟩ := stD X19 hx hZ e19 Ar21 (j := (6 : Int32)) in21 (g := (mkF m 117 #[vI p0, vJ q1, s_, vI p2, vI p3, vI z6, vR b1, u_, u_, u_, u_, u_, u_, u_] [(.double z116), (.int (6 : Int32)), (.ref b1)])) rfl rfl (hb hby at_117)
  have N22 := Fr.snoc X22 N19 gn1
  have K23 : Keep h0 h22 [] := K20.wr W22 (Or.inr gz1)
  have V22 : Arv Z h22 b1 k1 .double (8 : Int32) (t8 z25 z40 z55 z70 z85 z100 z116 (0 : UInt64)) (.double (0 : UInt64)) := Arv.set Ar21 q21 S21 Nn21 Ha21 G21 rfl W22 6 rfl (show (6 : Nat) < 8 by decide)
  obtain ⟨cl24, Ar24, q24, S24, Nn24, Ha24, G24⟩ := id V22
  have in24 : ¬ ((7 : Int32) < 0 ∨ cl24.slots.size ≤ ((7 : Int32)).toNatClampNeg) := inb_of S24 ⟨by decide, by decide⟩
  obtain ⟨T25, h25, X25, e25, W25, st25⟩ := stD X22 hx hZ e22 Ar24 (j := (7 : Int32)) in24 (g := (mkF m 133 #[vI p0, vJ q1, s_, vI p2, vI p3, vI z6, vR b1, u_, u_, u_, u_, u_, u_, u_] [(.double z132), (.int (7 : Int32)), (.ref b1)])) rfl rfl (hb hby at_133)
  have N25 := Fr.snoc X25 N22 gn1
  have K26 : Keep h0 h25 [] := K23.wr W25 (Or.inr gz1)
  have V25 : Arv Z h25 b1 k1 .double (8 : Int32) (t8 z25 z40 z55 z70 z85 z100 z116 z132) (.double (0 : UInt64)) := Arv.set Ar24 q24 S24 Nn24 Ha24 G24 rfl W25 7 rfl (show (7 : Nat) < 8 by decide)
  have nn_z25 : Jvm.Free.Fl.NoNaN64 z25 := by rw [← hz25]; exact Jvm.OwnF.noNaN_fin (Jvm.OwnF.V_l2d _).1
  have nn_z40 : Jvm.Free.Fl.NoNaN64 z40 := by rw [← hz40]; exact Jvm.OwnF.noNaN_fin (Jvm.OwnF.V_l2d _).1
  have nn_z55 : Jvm.Free.Fl.NoNaN64 z55 := by rw [← hz55]; exact Jvm.OwnF.noNaN_fin (Jvm.OwnF.V_l2d _).1
  have nn_z70 : Jvm.Free.Fl.NoNaN64 z70 := by rw [← hz70]; exact Jvm.OwnF.noNaN_fin (Jvm.OwnF.V_l2d _).1
  have nn_z85 : Jvm.Free.Fl.NoNaN64 z85 := by rw [← hz85]; exact Jvm.OwnF.noNaN_fin (Jvm.OwnF.V_l2d _).1
  have nn_z100 : Jvm.Free.Fl.NoNaN64 z100 := by rw [← hz100]; exact Jvm.OwnF.noNaN_fin (Jvm.OwnF.V_l2d _).1
  have nn_z116 : Jvm.Free.Fl.NoNaN64 z116 := by rw [← hz116]; exact Jvm.OwnF.noNaN_fin (Jvm.OwnF.V_l2d _).1
  have nn_z132 : Jvm.Free.Fl.NoNaN64 z132 := by rw [← hz132]; exact Jvm.OwnF.noNaN_fin (Jvm.OwnF.V_l2d _).1
  have nn_z141 : Jvm.Free.Fl.NoNaN64 z141 := by rw [← hz141]; exact Jvm.OwnF.noNaN_fin (Jvm.OwnF.V_l2d _).1
  have nn_z146 : Jvm.Free.Fl.NoNaN64 z146 := by rw [← hz146]; exact (Jvm.OwnF.DV_i2d _).nn
  obtain ⟨T27, h27, X27, e27, E27, A27, D27, -, st27⟩ := newO X25 hx hZ hown (hwi hw 2 rfl) (hwi hw 3 rfl) (hwi hw 4 rfl) e25 (g := (mkF m 149 #[vI p0, vJ q1, s_, vI p2, vI p3, vI z6, vR b1, vD z141, s_, vD z146, s_, u_, u_, u_] [])) rfl (hb hby at_149) (by decide) (by decide)
  obtain ⟨b27, g27⟩ : ∃ z, z = h25.size := ⟨_, rfl⟩
  rw [← g27] at A27 D27 st27
  have gn27 : n0 ≤ b27 := Nat.le_trans (Nat.le_trans (Nat.le_trans (Nat.le_trans (Nat.le_trans (Nat.le_trans (Nat.le_trans (Nat.le_trans (Nat.le_trans (Nat.le_trans Z0 E1.1) (Keep.of_wr W4).1) (Keep.of_wr W7).1) (Keep.of_wr W10).1) (Keep.of_wr W13).1) (Keep.of_wr W16).1) (Keep.of_wr W19).1) (Keep.of_wr W22).1) (Keep.of_wr W25).1) (Nat.le_of_eq g27.symm)
  have gz27 : h0.size ≤ b27 := Nat.le_trans (K26).1 (Nat.le_of_eq g27.symm)
  have K28 : Keep h0 h27 [] := K26.ext E27
  have F27_minima : Fld Z h27 b27 MTc "minima" "[D" .null := D27 (Or.inl (hwi hw 20 rfl)) (ty := (.array .double)) (by decide)
  have F27_capacity : Fld Z h27 b27 MTc "capacity" "I" (.int (0 : Int32)) := D27 (Or.inl (hwi hw 22 rfl)) (ty := .int) (by decide)
  have F27_count : Fld Z h27 b27 MTc "count" "I" (.int (0 : Int32)) := D27 (Or.inl (hwi hw 38 rfl)) (ty := .int) (by decide)
  have F27_visits : Fld Z h27 b27 MTc "visits" "J" (.long (0 : Int64)) := D27 (Or.inl (hwi hw 52 rfl)) (ty := .long) (by decide)
  obtain ⟨_, _, ⟨T29, L29, k29, n29⟩, -, X29, ⟨Lc29, hQ29, ql29, qy29, qz29⟩, st29⟩ := X27.specialBack hx (y := (⟨MTc, "<init>", "()V"⟩ : MethodName)) rfl hown (mvT hZ (hwi hw 5 rfl)) (mvT hZ (hwi hw 6 rfl)) (mvT hZ (hwi hw 7 rfl)) (by decide) (backOf (W := 1) (rm1 l Z a0 hw [] b27 (.null) ((.int (0 : Int32)))  h27 n0 (Nat.le_trans (Nat.le_trans (Nat.le_trans (Nat.le_trans (Nat.le_trans (Nat.le_trans (Nat.le_trans (Nat.le_trans (Nat.le_trans (Nat.le_trans Z0 E1.1) (Keep.of_wr W4).1) (Keep.of_wr W7).1) (Keep.of_wr W10).1) (Keep.of_wr W13).1) (Keep.of_wr W16).1) (Keep.of_wr W19).1) (Keep.of_wr W22).1) (Keep.of_wr W25).1) E27.1) F27_count F27_visits A27 F27_minima gn27 F27_capacity) hZ (hwi hw 7 rfl) (hwi hw 4 rfl) (by decide) (by decide)) (g := (mkF m 153 #[vI p0, vJ q1, s_, vI p2, vI p3, vI z6, vR b1, vD z141, s_, vD z146, s_, u_, u_, u_] [(.ref b27), (.ref b27)])) rfl (by rw [hml]; rfl) (Steps.refl _) (a := b27) (argsL := []) (rest := [(.ref b27)]) (lenOf pd_7 rfl) rfl (by show 2 * 0 + _ ≤ _; exact Nat.le_of_eq rfl) (hb hby at_153) (fun _ _ => ⟨rfl, e27, (by decide : 2 + 1 ≤ _), (by decide : 12 + 32 ≤ _)⟩)
  dsimp only [Pt.U, Pt.locs, Pt.cells, Pt.slots] at X29 ql29 qy29 qz29 st29 hQ29
  subst ql29 qy29 qz29
  obtain ⟨qb2, qcm, rfl, N29q, qv, K29q, Q29_0, Q29_1, Q29_2, Q29_3, Q29_4, Q29_5⟩ := hQ29
  have N29 := Fr.app N25 N29q
  have qeY : n0 ≤ qb2 := Nat.le_trans (Nat.le_trans (Nat.le_trans (Nat.le_trans (Nat.le_trans (Nat.le_trans (Nat.le_trans (Nat.le_trans (Nat.le_trans (Nat.le_trans (Nat.le_trans Z0 E1.1) (Keep.of_wr W4).1) (Keep.of_wr W7).1) (Keep.of_wr W10).1) (Keep.of_wr W13).1) (Keep.of_wr W16).1) (Keep.of_wr W19).1) (Keep.of_wr W22).1) (Keep.of_wr W25).1) E27.1) qv
  have qeZ : h0.size ≤ qb2 := Nat.le_trans (K28).1 qv
  have K30 : Keep h0 T29.heap [] := Keep.trans K28 K29q (allS (Or.inr gz27) all0)
  have c31 : ∀ t, Steps p.tables e below (T29.setTop (mkF m 160 #[vI p0, vJ q1, s_, vI p2, vI p3, vI z6, vR b1, vD z141, s_, vD z146, s_, vR b27, u_, u_] [(.int z6)])) t → Steps p.tables e below (s₁.setTop (entryFrame m #[(.int p0), (.long q1), (.int p2), (.int p3)] maxLocals)) t := by
    intro t k
    refine c0 t ?_
    show Steps p.tables e below (s₁.setTop (mkF m 0 #[vI p0, vJ q1, s_, vI p2, vI p3, u_, u_, u_, u_, u_, u_, u_, u_, u_] [])) _
    refine XS.iloadN X0.here hx rfl (hb hby at_0) rfl ?_
    refine X0.ldcInt hx hown (mvT hZ (hwi hw 0 rfl)) (g := (mkF m 1 #[vI p0, vJ q1, s_, vI p2, vI p3, u_, u_, u_, u_, u_, u_, u_, u_, u_] [(.int p0)])) rfl (hb hby at_1) _ ?_
    refine Jvm.OwnK.iand X0.here hx rfl (hb hby at_3) rfl hz3 ?_
    refine XS.bipush X0.here hx rfl (hb hby at_4) ?_
    refine Jvm.OwnK.irem X0.here hx rfl (hb hby at_6) rfl (by decide) hz6 ?_
    refine XS.istore X0.here hx rfl (hb hby at_7) rfl (l' := #[vI p0, vJ q1, s_, vI p2, vI p3, vI z6, u_, u_, u_, u_, u_, u_, u_, u_]) rfl ?_
    show Steps p.tables e below (s₁.setTop (mkF m 9 #[vI p0, vJ q1, s_, vI p2, vI p3, vI z6, u_, u_, u_, u_, u_, u_, u_, u_] [])) _
    refine XS.bipush X0.here hx rfl (hb hby at_9) ?_
    refine st1 _ ?_
    show Steps p.tables e below (T1.setTop (mkF m 13 #[vI p0, vJ q1, s_, vI p2, vI p3, vI z6, u_, u_, u_, u_, u_, u_, u_, u_] [(.ref b1)])) _
    refine XS.astore X1.here hx rfl (hb hby at_13) rfl rfl (l' := #[vI p0, vJ q1, s_, vI p2, vI p3, vI z6, vR b1, u_, u_, u_, u_, u_, u_, u_]) rfl ?_
    refine XS.aload X1.here hx rfl (hb hby at_15) rfl rfl ?_
    refine XS.iconst X1.here hx rfl (hb hby at_17) ?_
    refine XS.iloadN X1.here hx rfl (hb hby at_18) rfl ?_
    refine Jvm.OwnK.i2l X1.here hx rfl (hb hby at_19) rfl hz19 ?_
    refine XS.lloadN X1.here hx rfl (hb hby at_20) rfl ?_
    show Steps p.tables e below (T1.setTop (mkF m 21 #[vI p0, vJ q1, s_, vI p2, vI p3, vI z6, vR b1, u_, u_, u_, u_, u_, u_, u_] [(.long q1), (.long z19), (.int (0 : Int32)), (.ref b1)])) _
    refine Jvm.OwnK.l2i X1.here hx rfl (hb hby at_21) rfl hz21 ?_
    refine Jvm.OwnK.i2b X1.here hx rfl (hb hby at_22) rfl hz22 ?_
    refine Jvm.OwnK.i2l X1.here hx rfl (hb hby at_23) rfl hz23 ?_
    refine Jvm.OwnK.ladd X1.here hx rfl (hb hby at_24) rfl hz24 ?_
    refine XS.l2dS X1.here hx rfl (hb hby at_25) rfl hz25 ?_
    refine st4 _ ?_
    show Steps p.tables e below (T4.setTop (mkF m 27 #[vI p0, vJ q1, s_, vI p2, vI p3, vI z6, vR b1, u_, u_, u_, u_, u_, u_, u_] [])) _
    refine XS.aload X4.here hx rfl (hb hby at_27) rfl rfl ?_
    refine XS.iconst X4.here hx rfl (hb hby at_29) ?_
    refine XS.iloadN X4.here hx rfl (hb hby at_30) rfl ?_
    refine Jvm.OwnK.i2l X4.here hx rfl (hb hby at_31) rfl hz31 ?_
    refine XS.lloadN X4.here hx rfl (hb hby at_32) rfl ?_
    refine XS.bipush X4.here hx rfl (hb hby at_33) ?_
    show Steps p.tables e below (T4.setTop (mkF m 35 #[vI p0, vJ q1, s_, vI p2, vI p3, vI z6, vR b1, u_, u_, u_, u_, u_, u_, u_] [(.int (8 : Int32)), (.long q1), (.long z31), (.int (1 : Int32)), (.ref b1)])) _
    refine Jvm.OwnK.lushr X4.here hx rfl (hb hby at_35) rfl hz35 ?_
    refine Jvm.OwnK.l2i X4.here hx rfl (hb hby at_36) rfl hz36 ?_
    refine Jvm.OwnK.i2b X4.here hx rfl (hb hby at_37) rfl hz37 ?_
    refine Jvm.OwnK.i2l X4.here hx rfl (hb hby at_38) rfl hz38 ?_
    refine Jvm.OwnK.ladd X4.here hx rfl (hb hby at_39) rfl hz39 ?_
    refine XS.l2dS X4.here hx rfl (hb hby at_40) rfl hz40 ?_
    show Steps p.tables e below (T4.setTop (mkF m 41 #[vI p0, vJ q1, s_, vI p2, vI p3, vI z6, vR b1, u_, u_, u_, u_, u_, u_, u_] [(.double z40), (.int (1 : Int32)), (.ref b1)])) _
    refine st7 _ ?_
    show Steps p.tables e below (T7.setTop (mkF m 42 #[vI p0, vJ q1, s_, vI p2, vI p3, vI z6, vR b1, u_, u_, u_, u_, u_, u_, u_] [])) _
    refine XS.aload X7.here hx rfl (hb hby at_42) rfl rfl ?_
    refine XS.iconst X7.here hx rfl (hb hby at_44) ?_
    refine XS.iloadN X7.here hx rfl (hb hby at_45) rfl ?_
    refine Jvm.OwnK.i2l X7.here hx rfl (hb hby at_46) rfl hz46 ?_
    refine XS.lloadN X7.here hx rfl (hb hby at_47) rfl ?_
    refine XS.bipush X7.here hx rfl (hb hby at_48) ?_
    show Steps p.tables e below (T7.setTop (mkF m 50 #[vI p0, vJ q1, s_, vI p2, vI p3, vI z6, vR b1, u_, u_, u_, u_, u_, u_, u_] [(.int (16 : Int32)), (.long q1), (.long z46), (.int (2 : Int32)), (.ref b1)])) _
    refine Jvm.OwnK.lushr X7.here hx rfl (hb hby at_50) rfl hz50 ?_
    refine Jvm.OwnK.l2i X7.here hx rfl (hb hby at_51) rfl hz51 ?_
    refine Jvm.OwnK.i2b X7.here hx rfl (hb hby at_52) rfl hz52 ?_
    refine Jvm.OwnK.i2l X7.here hx rfl (hb hby at_53) rfl hz53 ?_
    refine Jvm.OwnK.ladd X7.here hx rfl (hb hby at_54) rfl hz54 ?_
    refine XS.l2dS X7.here hx rfl (hb hby at_55) rfl hz55 ?_
    show Steps p.tables e below (T7.setTop (mkF m 56 #[vI p0, vJ q1, s_, vI p2, vI p3, vI z6, vR b1, u_, u_, u_, u_, u_, u_, u_] [(.double z55), (.int (2 : Int32)), (.ref b1)])) _
    refine st10 _ ?_
    show Steps p.tables e below (T10.setTop (mkF m 57 #[vI p0, vJ q1, s_, vI p2, vI p3, vI z6, vR b1, u_, u_, u_, u_, u_, u_, u_] [])) _
    refine XS.aload X10.here hx rfl (hb hby at_57) rfl rfl ?_
    refine XS.iconst X10.here hx rfl (hb hby at_59) ?_
    refine XS.iloadN X10.here hx rfl (hb hby at_60) rfl ?_
    refine Jvm.OwnK.i2l X10.here hx rfl (hb hby at_61) rfl hz61 ?_
    refine XS.lloadN X10.here hx rfl (hb hby at_62) rfl ?_
    refine XS.bipush X10.here hx rfl (hb hby at_63) ?_
    show Steps p.tables e below (T10.setTop (mkF m 65 #[vI p0, vJ q1, s_, vI p2, vI p3, vI z6, vR b1, u_, u_, u_, u_, u_, u_, u_] [(.int (24 : Int32)), (.long q1), (.long z61), (.int (3 : Int32)), (.ref b1)])) _
    refine Jvm.OwnK.lushr X10.here hx rfl (hb hby at_65) rfl hz65 ?_
    refine Jvm.OwnK.l2i X10.here hx rfl (hb hby at_66) rfl hz66 ?_
    refine Jvm.OwnK.i2b X10.here hx rfl (hb hby at_67) rfl hz67 ?_
    refine Jvm.OwnK.i2l X10.here hx rfl (hb hby at_68) rfl hz68 ?_
    refine Jvm.OwnK.ladd X10.here hx rfl (hb hby at_69) rfl hz69 ?_
    refine XS.l2dS X10.here hx rfl (hb hby at_70) rfl hz70 ?_
    show Steps p.tables e below (T10.setTop (mkF m 71 #[vI p0, vJ q1, s_, vI p2, vI p3, vI z6, vR b1, u_, u_, u_, u_, u_, u_, u_] [(.double z70), (.int (3 : Int32)), (.ref b1)])) _
    refine st13 _ ?_
    show Steps p.tables e below (T13.setTop (mkF m 72 #[vI p0, vJ q1, s_, vI p2, vI p3, vI z6, vR b1, u_, u_, u_, u_, u_, u_, u_] [])) _
    refine XS.aload X13.here hx rfl (hb hby at_72) rfl rfl ?_
    refine XS.iconst X13.here hx rfl (hb hby at_74) ?_
    refine XS.iloadN X13.here hx rfl (hb hby at_75) rfl ?_
    refine Jvm.OwnK.i2l X13.here hx rfl (hb hby at_76) rfl hz76 ?_
    refine XS.lloadN X13.here hx rfl (hb hby at_77) rfl ?_
    refine XS.bipush X13.here hx rfl (hb hby at_78) ?_
    show Steps p.tables e below (T13.setTop (mkF m 80 #[vI p0, vJ q1, s_, vI p2, vI p3, vI z6, vR b1, u_, u_, u_, u_, u_, u_, u_] [(.int (32 : Int32)), (.long q1), (.long z76), (.int (4 : Int32)), (.ref b1)])) _
    refine Jvm.OwnK.lushr X13.here hx rfl (hb hby at_80) rfl hz80 ?_
    refine Jvm.OwnK.l2i X13.here hx rfl (hb hby at_81) rfl hz81 ?_
    refine Jvm.OwnK.i2b X13.here hx rfl (hb hby at_82) rfl hz82 ?_
    refine Jvm.OwnK.i2l X13.here hx rfl (hb hby at_83) rfl hz83 ?_
    refine Jvm.OwnK.ladd X13.here hx rfl (hb hby at_84) rfl hz84 ?_
    refine XS.l2dS X13.here hx rfl (hb hby at_85) rfl hz85 ?_
    show Steps p.tables e below (T13.setTop (mkF m 86 #[vI p0, vJ q1, s_, vI p2, vI p3, vI z6, vR b1, u_, u_, u_, u_, u_, u_, u_] [(.double z85), (.int (4 : Int32)), (.ref b1)])) _
    refine st16 _ ?_
    show Steps p.tables e below (T16.setTop (mkF m 87 #[vI p0, vJ q1, s_, vI p2, vI p3, vI z6, vR b1, u_, u_, u_, u_, u_, u_, u_] [])) _
    refine XS.aload X16.here hx rfl (hb hby at_87) rfl rfl ?_
    refine XS.iconst X16.here hx rfl (hb hby at_89) ?_
    refine XS.iloadN X16.here hx rfl (hb hby at_90) rfl ?_
    refine Jvm.OwnK.i2l X16.here hx rfl (hb hby at_91) rfl hz91 ?_
    refine XS.lloadN X16.here hx rfl (hb hby at_92) rfl ?_
    refine XS.bipush X16.here hx rfl (hb hby at_93) ?_
    show Steps p.tables e below (T16.setTop (mkF m 95 #[vI p0, vJ q1, s_, vI p2, vI p3, vI z6, vR b1, u_, u_, u_, u_, u_, u_, u_] [(.int (40 : Int32)), (.long q1), (.long z91), (.int (5 : Int32)), (.ref b1)])) _
    refine Jvm.OwnK.lushr X16.here hx rfl (hb hby at_95) rfl hz95 ?_
    refine Jvm.OwnK.l2i X16.here hx rfl (hb hby at_96) rfl hz96 ?_
    refine Jvm.OwnK.i2b X16.here hx rfl (hb hby at_97) rfl hz97 ?_
    refine Jvm.OwnK.i2l X16.here hx rfl (hb hby at_98) rfl hz98 ?_
    refine Jvm.OwnK.ladd X16.here hx rfl (hb hby at_99) rfl hz99 ?_
    refine XS.l2dS X16.here hx rfl (hb hby at_100) rfl hz100 ?_
    show Steps p.tables e below (T16.setTop (mkF m 101 #[vI p0, vJ q1, s_, vI p2, vI p3, vI z6, vR b1, u_, u_, u_, u_, u_, u_, u_] [(.double z100), (.int (5 : Int32)), (.ref b1)])) _
    refine st19 _ ?_
    show Steps p.tables e below (T19.setTop (mkF m 102 #[vI p0, vJ q1, s_, vI p2, vI p3, vI z6, vR b1, u_, u_, u_, u_, u_, u_, u_] [])) _
    refine XS.aload X19.here hx rfl (hb hby at_102) rfl rfl ?_
    refine XS.bipush X19.here hx rfl (hb hby at_104) ?_
    refine XS.iloadN X19.here hx rfl (hb hby at_106) rfl ?_
    refine Jvm.OwnK.i2l X19.here hx rfl (hb hby at_107) rfl hz107 ?_
    refine XS.lloadN X19.here hx rfl (hb hby at_108) rfl ?_
    refine XS.bipush X19.here hx rfl (hb hby at_109) ?_
    show Steps p.tables e below (T19.setTop (mkF m 111 #[vI p0, vJ q1, s_, vI p2, vI p3, vI z6, vR b1, u_, u_, u_, u_, u_, u_, u_] [(.int (48 : Int32)), (.long q1), (.long z107), (.int (6 : Int32)), (.ref b1)])) _
    refine Jvm.OwnK.lushr X19.here hx rfl (hb hby at_111) rfl hz111 ?_
    refine Jvm.OwnK.l2i X19.here hx rfl (hb hby at_112) rfl hz112 ?_
    refine Jvm.OwnK.i2b X19.here hx rfl (hb hby at_113) rfl hz113 ?_
    refine Jvm.OwnK.i2l X19.here hx rfl (hb hby at_114) rfl hz114 ?_
    refine Jvm.OwnK.ladd X19.here hx rfl (hb hby at_115) rfl hz115 ?_
    refine XS.l2dS X19.here hx rfl (hb hby at_116) rfl hz116 ?_
    show Steps p.tables e below (T19.setTop (mkF m 117 #[vI p0, vJ q1, s_, vI p2, vI p3, vI z6, vR b1, u_, u_, u_, u_, u_, u_, u_] [(.double z116), (.int (6 : Int32)), (.ref b1)])) _
    refine st22 _ ?_
    show Steps p.tables e below (T22.setTop (mkF m 118 #[vI p0, vJ q1, s_, vI p2, vI p3, vI z6, vR b1, u_, u_, u_, u_, u_, u_, u_] [])) _
    refine XS.aload X22.here hx rfl (hb hby at_118) rfl rfl ?_
    refine XS.bipush X22.here hx rfl (hb hby at_120) ?_
    refine XS.iloadN X22.here hx rfl (hb hby at_122) rfl ?_
    refine Jvm.OwnK.i2l X22.here hx rfl (hb hby at_123) rfl hz123 ?_
    refine XS.lloadN X22.here hx rfl (hb hby at_124) rfl ?_
    refine XS.bipush X22.here hx rfl (hb hby at_125) ?_
    show Steps p.tables e below (T22.setTop (mkF m 127 #[vI p0, vJ q1, s_, vI p2, vI p3, vI z6, vR b1, u_, u_, u_, u_, u_, u_, u_] [(.int (56 : Int32)), (.long q1), (.long z123), (.int (7 : Int32)), (.ref b1)])) _
    refine Jvm.OwnK.lushr X22.here hx rfl (hb hby at_127) rfl hz127 ?_
    refine Jvm.OwnK.l2i X22.here hx rfl (hb hby at_128) rfl hz128 ?_
    refine Jvm.OwnK.i2b X22.here hx rfl (hb hby at_129) rfl hz129 ?_
    refine Jvm.OwnK.i2l X22.here hx rfl (hb hby at_130) rfl hz130 ?_
    refine Jvm.OwnK.ladd X22.here hx rfl (hb hby at_131) rfl hz131 ?_
    refine XS.l2dS X22.here hx rfl (hb hby at_132) rfl hz132 ?_
    show Steps p.tables e below (T22.setTop (mkF m 133 #[vI p0, vJ q1, s_, vI p2, vI p3, vI z6, vR b1, u_, u_, u_, u_, u_, u_, u_] [(.double z132), (.int (7 : Int32)), (.ref b1)])) _
    refine st25 _ ?_
    show Steps p.tables e below (T25.setTop (mkF m 134 #[vI p0, vJ q1, s_, vI p2, vI p3, vI z6, vR b1, u_, u_, u_, u_, u_, u_, u_] [])) _
    refine XS.iloadN X25.here hx rfl (hb hby at_134) rfl ?_
    refine Jvm.OwnK.i2l X25.here hx rfl (hb hby at_135) rfl hz135 ?_
    refine XS.iload X25.here hx rfl (hb hby at_136) rfl ?_
    refine Jvm.OwnK.i2b X25.here hx rfl (hb hby at_138) rfl hz138 ?_
    refine Jvm.OwnK.i2l X25.here hx rfl (hb hby at_139) rfl hz139 ?_
    refine Jvm.OwnK.ladd X25.here hx rfl (hb hby at_140) rfl hz140 ?_
    show Steps p.tables e below (T25.setTop (mkF m 141 #[vI p0, vJ q1, s_, vI p2, vI p3, vI z6, vR b1, u_, u_, u_, u_, u_, u_, u_] [(.long z140)])) _
    refine XS.l2dS X25.here hx rfl (hb hby at_141) rfl hz141 ?_
    refine XS.dstore X25.here hx rfl (hb hby at_142) rfl (l' := #[vI p0, vJ q1, s_, vI p2, vI p3, vI z6, vR b1, vD z141, s_, u_, u_, u_, u_, u_]) rfl ?_
    refine XS.iload X25.here hx rfl (hb hby at_144) rfl ?_
    refine XS.i2dS X25.here hx rfl (hb hby at_146) rfl hz146 ?_
    refine XS.dstore X25.here hx rfl (hb hby at_147) rfl (l' := #[vI p0, vJ q1, s_, vI p2, vI p3, vI z6, vR b1, vD z141, s_, vD z146, s_, u_, u_, u_]) rfl ?_
    refine st27 _ ?_
    show Steps p.tables e below (T27.setTop (mkF m 152 #[vI p0, vJ q1, s_, vI p2, vI p3, vI z6, vR b1, vD z141, s_, vD z146, s_, u_, u_, u_] [(.ref b27)])) _
    refine XS.dup X27.here hx rfl (hb hby at_152) rfl rfl ?_
    refine st29.trans ?_
    show Steps p.tables e below (T29.setTop (mkF m 156 #[vI p0, vJ q1, s_, vI p2, vI p3, vI z6, vR b1, vD z141, s_, vD z146, s_, u_, u_, u_] [(.ref b27)])) _
    refine XS.astore X29.here hx rfl (hb hby at_156) rfl rfl (l' := #[vI p0, vJ q1, s_, vI p2, vI p3, vI z6, vR b1, vD z141, s_, vD z146, s_, vR b27, u_, u_]) rfl ?_
    refine XS.iload X29.here hx rfl (hb hby at_158) rfl ?_
    exact k
  by_cases hb160 : (0 : Int32) < z6
  · skip
    obtain ⟨qdh, qe6⟩ : ∃ z : UInt64, mnf z25 (9221120237041090560 : UInt64) = z := ⟨_, rfl⟩
    obtain ⟨qkL, qnS⟩ : ∃ z : Int64, (0 : Int64) + (1 : Int64) = z := ⟨_, rfl⟩
    obtain ⟨qbT, qev⟩ : ∃ z : Int32, cmpf qdh (9221120237041090560 : UInt64) = z := ⟨_, rfl⟩
    obtain ⟨qb6, qc6⟩ : ∃ z : UInt64, mnf qdh (9221120237041090560 : UInt64) = z := ⟨_, rfl⟩
    obtain ⟨qiF, qml⟩ : ∃ z : Int64, qkL + (1 : Int64) = z := ⟨_, rfl⟩
    obtain ⟨qcT, qeB⟩ : ∃ z : Int32, cmpf qb6 (9221120237041090560 : UInt64) = z := ⟨_, rfl⟩
    obtain ⟨qbg, qbO⟩ : ∃ z : UInt64, mnf qb6 (9221120237041090560 : UInt64) = z := ⟨_, rfl⟩
    obtain ⟨qhy, qk8⟩ : ∃ z : Int64, qiF + (1 : Int64) = z := ⟨_, rfl⟩
    obtain ⟨qdW, qeM⟩ : ∃ z : Int32, cmpf qbg (9221120237041090560 : UInt64) = z := ⟨_, rfl⟩
    obtain ⟨qL, qcf⟩ : ∃ z : UInt64, mnf qbg (9221120237041090560 : UInt64) = z := ⟨_, rfl⟩
    obtain ⟨qkb, qjv⟩ : ∃ z : Int64, qhy + (1 : Int64) = z := ⟨_, rfl⟩
    obtain ⟨qfU, qfM⟩ : ∃ z : Int32, cmpf qL (9221120237041090560 : UInt64) = z := ⟨_, rfl⟩
    have f32 := ((V25.ext E27).keep K29q (ninS (Nat.ne_of_lt (Nat.lt_of_lt_of_le (V25).lt (Nat.le_of_eq g27.symm))) nin0))
    obtain ⟨cl33, Ar33, -, S33, -, Ha33, -⟩ := id f32
    have in33 : ¬ ((0 : Int32) < 0 ∨ cl33.slots.size ≤ ((0 : Int32)).toNatClampNeg) := inb_of S33 ⟨by decide, by decide⟩
    have qcC := nnL nn_z25 tvN qe6
    have qcI := nnL qcC tvN qc6
    have qc2 := nnL qcI tvN qbO
    have qfk := nnL qc2 tvN qcf
    have qmR : TV z25 := (Or.inr nn_z25)
    have qmS : TV (9221120237041090560 : UInt64) := tvN
    have qll : (¬ qbT = (0 : Int32)) → TV qdh := fun _ => (Or.inr qcC)
    have qlm : (¬ qbT = (0 : Int32)) → TV (9221120237041090560 : UInt64) := fun _ => tvN
    have qkc : (¬ qbT = (0 : Int32)) → (¬ qcT = (0 : Int32)) → TV qb6 := fun _ _ => (Or.inr qcI)
    have qkd : (¬ qbT = (0 : Int32)) → (¬ qcT = (0 : Int32)) → TV (9221120237041090560 : UInt64) := fun _ _ => tvN
    have qiG : (¬ qbT = (0 : Int32)) → (¬ qcT = (0 : Int32)) → (¬ qdW = (0 : Int32)) → TV qbg := fun _ _ _ => (Or.inr qc2)
    have qiH : (¬ qbT = (0 : Int32)) → (¬ qcT = (0 : Int32)) → (¬ qdW = (0 : Int32)) → TV (9221120237041090560 : UInt64) := fun _ _ _ => tvN
    have qnb : (qbT = (0 : Int32)) → (9221120237041090560 : UInt64) = qdh := fun  hb_ => (cmp0 qcC tvN qev hb_)
    have qnc : (qbT = (0 : Int32)) → (9221120237041090560 : UInt64) = qb6 := fun  hb_ => (chL (c := 0) invN (cmp0 qcC tvN qev hb_) qc6)
    have qnd : (qbT = (0 : Int32)) → (9221120237041090560 : UInt64) = qbg := fun  hb_ => (chL (c := 0) invN (chL (c := 0) invN (cmp0 qcC tvN qev hb_) qc6) qbO)
    have qne : (qbT = (0 : Int32)) → (9221120237041090560 : UInt64) = qL := fun  hb_ => (chL (c := 0) invN (chL (c := 0) invN (chL (c := 0) invN (cmp0 qcC tvN qev hb_) qc6) qbO) qcf)
    have ql0 : (¬ qbT = (0 : Int32)) → (qcT = (0 : Int32)) → (9221120237041090560 : UInt64) = qb6 := fun _ hb_ => (cmp0 qcI tvN qeB hb_)
    have ql4 : (¬ qbT = (0 : Int32)) → (qcT = (0 : Int32)) → (9221120237041090560 : UInt64) = qbg := fun _ hb_ => (chL (c := 0) invN (cmp0 qcI tvN qeB hb_) qbO)
    have ql7 : (¬ qbT = (0 : Int32)) → (qcT = (0 : Int32)) → (9221120237041090560 : UInt64) = qL := fun _ hb_ => (chL (c := 0) invN (chL (c := 0) invN (cmp0 qcI tvN qeB hb_) qbO) qcf)
    have qkz : (¬ qbT = (0 : Int32)) → (¬ qcT = (0 : Int32)) → (qdW = (0 : Int32)) → (9221120237041090560 : UInt64) = qbg := fun _ _ hb_ => (cmp0 qc2 tvN qeM hb_)
    have qkA : (¬ qbT = (0 : Int32)) → (¬ qcT = (0 : Int32)) → (qdW = (0 : Int32)) → (9221120237041090560 : UInt64) = qL := fun _ _ hb_ => (chL (c := 0) invN (cmp0 qc2 tvN qeM hb_) qcf)
    have qjn : (¬ qbT = (0 : Int32)) → (¬ qcT = (0 : Int32)) → (¬ qdW = (0 : Int32)) → (qfU = (0 : Int32)) → (9221120237041090560 : UInt64) = qL := fun _ _ _ hb_ => (cmp0 qfk tvN qfM hb_)
    obtain ⟨cq34, kq34, q34a, q34b, q34c⟩ := isOf hZ rfl Q29_2
    obtain ⟨_, _, ⟨T34, L34, k34, n34⟩, -, X34, ⟨Lc34, hQ34, ql34, qy34, qz34⟩, st34⟩ := X29.virtualBack hx (y := (⟨MTc, "add", "(D)V"⟩ : MethodName)) (z := (⟨MTc, "add", "(D)V"⟩ : MethodName)) hown (mvT hZ (hwi hw 32 rfl)) (mvT hZ (hwi hw 33 rfl)) (notFace_of_selects (args := #[]) (mvT hZ (hwi hw 35 rfl))) (mvT hZ (hwi hw 35 rfl)) (mvT hZ (hwi hw 34 rfl)) (by decide) (backOf (W := 0) (rm7_1 l Z a0 hw [] b27 z25 qcm (9221120237041090560 : UInt64) (9221120237041090560 : UInt64) (9221120237041090560 : UInt64) (9221120237041090560 : UInt64) (9221120237041090560 : UInt64) (9221120237041090560 : UInt64) (9221120237041090560 : UInt64) (9221120237041090560 : UInt64) (9221120237041090560 : UInt64) (9221120237041090560 : UInt64) (9221120237041090560 : UInt64) (9221120237041090560 : UInt64) (9221120237041090560 : UInt64) (9221120237041090560 : UInt64) (9221120237041090560 : UInt64) (9221120237041090560 : UInt64) (9221120237041090560 : UInt64) (9221120237041090560 : UInt64) (9221120237041090560 : UInt64) (9221120237041090560 : UInt64) (9221120237041090560 : UInt64) (9221120237041090560 : UInt64) (9221120237041090560 : UInt64) (9221120237041090560 : UInt64) (9221120237041090560 : UInt64) (9221120237041090560 : UInt64) (9221120237041090560 : UInt64) (9221120237041090560 : UInt64) (9221120237041090560 : UInt64) (9221120237041090560 : UInt64) (9221120237041090560 : UInt64) (9221120237041090560 : UInt64) qb2 (0 : Int64) qdh qkL qbT qb6 qiF qcT qbg qhy qdW qL qkb qfU T29.heap n0 (Nat.le_trans (Nat.le_trans (Nat.le_trans (Nat.le_trans (Nat.le_trans (Nat.le_trans (Nat.le_trans (Nat.le_trans (Nat.le_trans (Nat.le_trans (Nat.le_trans Z0 E1.1) (Keep.of_wr W4).1) (Keep.of_wr W7).1) (Keep.of_wr W10).1) (Keep.of_wr W13).1) (Keep.of_wr W16).1) (Keep.of_wr W19).1) (Keep.of_wr W22).1) (Keep.of_wr W25).1) E27.1) K29q.1) Q29_5 ((Nat.ne_of_lt (Nat.lt_of_lt_of_le (A27).lt qv))) Q29_3 Q29_1 qeY Q29_0 Q29_4 Q29_2 gn27 qe6 qnS qev qc6 qml qeB qbO qk8 qeM qcf qjv qfM qmR qmS qll qlm qkc qkd qiG qiH qjn qkA qkz ql7 ql4 ql0 qne qnd qnc qnb) hZ (hwi hw 36 rfl) (hwi hw 4 rfl) (by decide) (by decide)) q34a q34c (g := (mkF m 169 #[vI p0, vJ q1, s_, vI p2, vI p3, vI z6, vR b1, vD z141, s_, vD z146, s_, vR b27, u_, u_] [(.double z25), (.ref b27)])) rfl (by rw [hml]; rfl) (Steps.refl _) (argsL := [(.double z25)]) (rest := []) (lenOf pd_8 rfl) rfl (by show 2 * 0 + _ ≤ _; exact Nat.le_of_eq rfl) (hb hby at_169) (fun _ _ => ⟨rfl, rfl, (by decide : 3 + 0 ≤ _), (by decide : 44 + 0 ≤ _)⟩)
    dsimp only [Pt.U, Pt.locs, Pt.cells, Pt.slots] at X34 ql34 qy34 qz34 st34 hQ34
    subst ql34 qy34 qz34
    obtain ⟨x34_x12_vx_visits_o0, rfl, N34q, K34q, Q34_0, Q34_1, Q34_2, Q34_3, Q34_4, Q34_5⟩ := hQ34
    have N34 := Fr.app N29 N34q
    have K35 : Keep h0 T34.heap [] := Keep.trans K30 K34q (allS (Or.inr gz27) (allS (Or.inr qeZ) all0))
    have c36 : ∀ t, Steps p.tables e below (T34.setTop (mkF m 175 #[vI p0, vJ q1, s_, vI p2, vI p3, vI z6, vR b1, vD z141, s_, vD z146, s_, vR b27, u_, u_] [(.int (1 : Int32)), (.int z6)])) t → Steps p.tables e below (s₁.setTop (entryFrame m #[(.int p0), (.long q1), (.int p2), (.int p3)] maxLocals)) t := by
      intro t k
      refine c31 t ?_
      show Steps p.tables e below (T29.setTop (mkF m 160 #[vI p0, vJ q1, s_, vI p2, vI p3, vI z6, vR b1, vD z141, s_, vD z146, s_, vR b27, u_, u_] [(.int z6)])) _
      refine XS.ifNo X29.here hx rfl (hb hby at_160) rfl (Jvm.Free.XT.i0_le_f hb160) ?_
      refine XS.aload X29.here hx rfl (hb hby at_163) rfl rfl ?_
      refine XS.aload X29.here hx rfl (hb hby at_165) rfl rfl ?_
      refine XS.iconst X29.here hx rfl (hb hby at_167) ?_
      refine X29.daload hx (j := (0 : Int32)) (v := (.double z25)) Ar33.1 (State.isArrayOf_alike hZ.alike Ar33.2.1) Ar33.2.2 in33 (Has.at Ha33 in33 rfl) (g := (mkF m 168 #[vI p0, vJ q1, s_, vI p2, vI p3, vI z6, vR b1, vD z141, s_, vD z146, s_, vR b27, u_, u_] [(.int (0 : Int32)), (.ref b1), (.ref b27)])) rfl rfl (hb hby at_168) _ ?_
      refine st34.trans ?_
      show Steps p.tables e below (T34.setTop (mkF m 172 #[vI p0, vJ q1, s_, vI p2, vI p3, vI z6, vR b1, vD z141, s_, vD z146, s_, vR b27, u_, u_] [])) _
      refine XS.iload X34.here hx rfl (hb hby at_172) rfl ?_
      refine XS.iconst X34.here hx rfl (hb hby at_174) ?_
      exact k
    by_cases hb175 : (1 : Int32) < z6
    · skip
      obtain ⟨qs, qbX⟩ : ∃ z : UInt64, mnf z25 z40 = z := ⟨_, rfl⟩
      obtain ⟨qkM, qnT⟩ : ∃ z : Int64, x34_x12_vx_visits_o0 + (1 : Int64) = z := ⟨_, rfl⟩
      obtain ⟨qbU, qew⟩ : ∃ z : Int32, cmpf qs qdh = z := ⟨_, rfl⟩
      obtain ⟨qb7, qc7⟩ : ∃ z : UInt64, mnf qs (9221120237041090560 : UInt64) = z := ⟨_, rfl⟩
      obtain ⟨qiI, qmm⟩ : ∃ z : Int64, qkM + (1 : Int64) = z := ⟨_, rfl⟩
      obtain ⟨qcU, qeC⟩ : ∃ z : Int32, cmpf qb7 qb6 = z := ⟨_, rfl⟩
      obtain ⟨qbh, qbP⟩ : ∃ z : UInt64, mnf qb7 (9221120237041090560 : UInt64) = z := ⟨_, rfl⟩
      obtain ⟨qhz, qk9⟩ : ∃ z : Int64, qiI + (1 : Int64) = z := ⟨_, rfl⟩
      obtain ⟨qdX, qeN⟩ : ∃ z : Int32, cmpf qbh qbg = z := ⟨_, rfl⟩
      obtain ⟨qM, qcg⟩ : ∃ z : UInt64, mnf qbh (9221120237041090560 : UInt64) = z := ⟨_, rfl⟩
      obtain ⟨qke, qjw⟩ : ∃ z : Int64, qhz + (1 : Int64) = z := ⟨_, rfl⟩
      obtain ⟨qfV, qfN⟩ : ∃ z : Int32, cmpf qM qL = z := ⟨_, rfl⟩
      have f37 := (f32.keep K34q (ninS (Nat.ne_of_lt (Nat.lt_of_lt_of_le (V25).lt (Nat.le_of_eq g27.symm))) (ninS (Nat.ne_of_lt (Nat.lt_of_lt_of_le ((V25.ext E27)).lt qv)) nin0)))
      obtain ⟨cl38, Ar38, -, S38, -, Ha38, -⟩ := id f37
      have in38 : ¬ ((1 : Int32) < 0 ∨ cl38.slots.size ≤ ((1 : Int32)).toNatClampNeg) := inb_of S38 ⟨by decide, by decide⟩
      have qI := nnR (Or.inr nn_z25) nn_z40 qbX
      have qcJ := nnL qI tvN qc7
      have qc3 := nnL qcJ tvN qbP
      have qfl := nnL qc3 tvN qcg
      have qmT : TV z25 := (Or.inr nn_z25)
      have qmU : TV z40 := (Or.inr nn_z40)
      have qln : (¬ qbU = (0 : Int32)) → TV qs := fun _ => (Or.inr qI)
      have qlo : (¬ qbU = (0 : Int32)) → TV (9221120237041090560 : UInt64) := fun _ => tvN
      have qkf : (¬ qbU = (0 : Int32)) → (¬ qcU = (0 : Int32)) → TV qb7 := fun _ _ => (Or.inr qcJ)
      have qkg : (¬ qbU = (0 : Int32)) → (¬ qcU = (0 : Int32)) → TV (9221120237041090560 : UInt64) := fun _ _ => tvN
      have qiJ : (¬ qbU = (0 : Int32)) → (¬ qcU = (0 : Int32)) → (¬ qdX = (0 : Int32)) → TV qbh := fun _ _ _ => (Or.inr qc3)
      have qiK : (¬ qbU = (0 : Int32)) → (¬ qcU = (0 : Int32)) → (¬ qdX = (0 : Int32)) → TV (9221120237041090560 : UInt64) := fun _ _ _ => tvN
      have qnf : (qbU = (0 : Int32)) → qdh = qs := fun  hb_ => (cmp0 qI (Or.inr qcC) qew hb_)
      have qng : (qbU = (0 : Int32)) → qb6 = qb7 := fun  hb_ => (chL (c := 0) qc6 (cmp0 qI (Or.inr qcC) qew hb_) qc7)
      have qnh : (qbU = (0 : Int32)) → qbg = qbh := fun  hb_ => (chL (c := 0) qbO (chL (c := 0) qc6 (cmp0 qI (Or.inr qcC) qew hb_) qc7) qbP)
      have qni : (qbU = (0 : Int32)) → qL = qM := fun  hb_ => (chL (c := 0) qcf (chL (c := 0) qbO (chL (c := 0) qc6 (cmp0 qI (Or.inr qcC) qew hb_) qc7) qbP) qcg)
      have ql8 : (¬ qbU = (0 : Int32)) → (qcU = (0 : Int32)) → qb6 = qb7 := fun _ hb_ => (cmp0 qcJ (Or.inr qcI) qeC hb_)
      have ql9 : (¬ qbU = (0 : Int32)) → (qcU = (0 : Int32)) → qbg = qbh := fun _ hb_ => (chL (c := 0) qbO (cmp0 qcJ (Or.inr qcI) qeC hb_) qbP)
      have qma : (¬ qbU = (0 : Int32)) → (qcU = (0 : Int32)) → qL = qM := fun _ hb_ => (chL (c := 0) qcf (chL (c := 0) qbO (cmp0 qcJ (Or.inr qcI) qeC hb_) qbP) qcg)
      have qkB : (¬ qbU = (0 : Int32)) → (¬ qcU = (0 : Int32)) → (qdX = (0 : Int32)) → qbg = qbh := fun _ _ hb_ => (cmp0 qc3 (Or.inr qc2) qeN hb_)
      have qkC : (¬ qbU = (0 : Int32)) → (¬ qcU = (0 : Int32)) → (qdX = (0 : Int32)) → qL = qM := fun _ _ hb_ => (chL (c := 0) qcf (cmp0 qc3 (Or.inr qc2) qeN hb_) qcg)
      have qjo : (¬ qbU = (0 : Int32)) → (¬ qcU = (0 : Int32)) → (¬ qdX = (0 : Int32)) → (qfV = (0 : Int32)) → qL = qM := fun _ _ _ hb_ => (cmp0 qfl (Or.inr qfk) qfN hb_)
      obtain ⟨cq39, kq39, q39a, q39b, q39c⟩ := isOf hZ rfl Q34_4
      obtain ⟨_, _, ⟨T39, L39, k39, n39⟩, -, X39, ⟨Lc39, hQ39, ql39, qy39, qz39⟩, st39⟩ := X34.virtualBack hx (y := (⟨MTc, "add", "(D)V"⟩ : MethodName)) (z := (⟨MTc, "add", "(D)V"⟩ : MethodName)) hown (mvT hZ (hwi hw 32 rfl)) (mvT hZ (hwi hw 33 rfl)) (notFace_of_selects (args := #[]) (mvT hZ (hwi hw 35 rfl))) (mvT hZ (hwi hw 35 rfl)) (mvT hZ (hwi hw 34 rfl)) (by decide) (backOf (W := 0) (rm7_2 l Z a0 hw [] b27 z40 qcm (9221120237041090560 : UInt64) qL qbg (9221120237041090560 : UInt64) qb6 (9221120237041090560 : UInt64) (9221120237041090560 : UInt64) (9221120237041090560 : UInt64) qdh (9221120237041090560 : UInt64) (9221120237041090560 : UInt64) (9221120237041090560 : UInt64) (9221120237041090560 : UInt64) (9221120237041090560 : UInt64) (9221120237041090560 : UInt64) (9221120237041090560 : UInt64) z25 (9221120237041090560 : UInt64) (9221120237041090560 : UInt64) (9221120237041090560 : UInt64) (9221120237041090560 : UInt64) (9221120237041090560 : UInt64) (9221120237041090560 : UInt64) (9221120237041090560 : UInt64) (9221120237041090560 : UInt64) (9221120237041090560 : UInt64) (9221120237041090560 : UInt64) (9221120237041090560 : UInt64) (9221120237041090560 : UInt64) (9221120237041090560 : UInt64) (9221120237041090560 : UInt64) (9221120237041090560 : UInt64) qb2 x34_x12_vx_visits_o0 qs qkM qbU qb7 qiI qcU qbh qhz qdX qM qke qfV T34.heap n0 (Nat.le_trans (Nat.le_trans (Nat.le_trans (Nat.le_trans (Nat.le_trans (Nat.le_trans (Nat.le_trans (Nat.le_trans (Nat.le_trans (Nat.le_trans (Nat.le_trans (Nat.le_trans Z0 E1.1) (Keep.of_wr W4).1) (Keep.of_wr W7).1) (Keep.of_wr W10).1) (Keep.of_wr W13).1) (Keep.of_wr W16).1) (Keep.of_wr W19).1) (Keep.of_wr W22).1) (Keep.of_wr W25).1) E27.1) K29q.1) K34q.1) Q34_5 ((Nat.ne_of_lt (Nat.lt_of_lt_of_le (A27).lt qv))) Q34_0 Q34_1 qeY Q34_2 Q34_3 Q34_4 gn27 qbX qnT qew qc7 qmm qeC qbP qk9 qeN qcg qjw qfN qmT qmU qln qlo qkf qkg qiJ qiK qjo qkC qkB qma ql9 ql8 qni qnh qng qnf) hZ (hwi hw 36 rfl) (hwi hw 4 rfl) (by decide) (by decide)) q39a q39c (g := (mkF m 184 #[vI p0, vJ q1, s_, vI p2, vI p3, vI z6, vR b1, vD z141, s_, vD z146, s_, vR b27, u_, u_] [(.double z40), (.ref b27)])) rfl (by rw [hml]; rfl) (Steps.refl _) (argsL := [(.double z40)]) (rest := []) (lenOf pd_8 rfl) rfl (by show 2 * 0 + _ ≤ _; exact Nat.le_of_eq rfl) (hb hby at_184) (fun _ _ => ⟨rfl, rfl, (by decide : 3 + 0 ≤ _), (by decide : 44 + 0 ≤ _)⟩)
      dsimp only [Pt.U, Pt.locs, Pt.cells, Pt.slots] at X39 ql39 qy39 qz39 st39 hQ39
      subst ql39 qy39 qz39
      obtain ⟨x39_x12_vx_visits_o0, rfl, N39q, K39q, Q39_0, Q39_1, Q39_2, Q39_3, Q39_4, Q39_5⟩ := hQ39
      have N39 := Fr.app N34 N39q
      have K40 : Keep h0 T39.heap [] := Keep.trans K35 K39q (allS (Or.inr gz27) (allS (Or.inr qeZ) all0))
      have c41 : ∀ t, Steps p.tables e below (T39.setTop (mkF m 190 #[vI p0, vJ q1, s_, vI p2, vI p3, vI z6, vR b1, vD z141, s_, vD z146, s_, vR b27, u_, u_] [(.int (2 : Int32)), (.int z6)])) t → Steps p.tables e below (s₁.setTop (entryFrame m #[(.int p0), (.long q1), (.int p2), (.int p3)] maxLocals)) t := by
        intro t k
        refine c36 t ?_
        show Steps p.tables e below (T34.setTop (mkF m 175 #[vI p0, vJ q1, s_, vI p2, vI p3, vI z6, vR b1, vD z141, s_, vD z146, s_, vR b27, u_, u_] [(.int (1 : Int32)), (.int z6)])) _
        refine XS.icmpNo X34.here hx rfl (hb hby at_175) rfl (Jvm.Free.XT.ii_le_f hb175) ?_
        refine XS.aload X34.here hx rfl (hb hby at_178) rfl rfl ?_
        refine XS.aload X34.here hx rfl (hb hby at_180) rfl rfl ?_
        refine XS.iconst X34.here hx rfl (hb hby at_182) ?_
        refine X34.daload hx (j := (1 : Int32)) (v := (.double z40)) Ar38.1 (State.isArrayOf_alike hZ.alike Ar38.2.1) Ar38.2.2 in38 (Has.at Ha38 in38 rfl) (g := (mkF m 183 #[vI p0, vJ q1, s_, vI p2, vI p3, vI z6, vR b1, vD z141, s_, vD z146, s_, vR b27, u_, u_] [(.int (1 : Int32)), (.ref b1), (.ref b27)])) rfl rfl (hb hby at_183) _ ?_
        refine st39.trans ?_
        show Steps p.tables e below (T39.setTop (mkF m 187 #[vI p0, vJ q1, s_, vI p2, vI p3, vI z6, vR b1, vD z141, s_, vD z146, s_, vR b27, u_, u_] [])) _
        refine XS.iload X39.here hx rfl (hb hby at_187) rfl ?_
        refine XS.iconst X39.here hx rfl (hb hby at_189) ?_
        exact k
      by_cases hb190 : (2 : Int32) < z6
      · skip
        obtain ⟨qdD, qe7⟩ : ∃ z : UInt64, mnf z55 (9221120237041090560 : UInt64) = z := ⟨_, rfl⟩
        obtain ⟨qkN, qnU⟩ : ∃ z : Int64, x39_x12_vx_visits_o0 + (1 : Int64) = z := ⟨_, rfl⟩
        obtain ⟨qbV, qex⟩ : ∃ z : Int32, cmpf qdD (9221120237041090560 : UInt64) = z := ⟨_, rfl⟩
        obtain ⟨qb8, qc8⟩ : ∃ z : UInt64, mnf qs qdD = z := ⟨_, rfl⟩
        obtain ⟨qiL, qmn⟩ : ∃ z : Int64, qkN + (1 : Int64) = z := ⟨_, rfl⟩
        obtain ⟨qcV, qeD⟩ : ∃ z : Int32, cmpf qb8 qb7 = z := ⟨_, rfl⟩
        obtain ⟨qbi, qbQ⟩ : ∃ z : UInt64, mnf qb8 (9221120237041090560 : UInt64) = z := ⟨_, rfl⟩
        obtain ⟨qhA, qla⟩ : ∃ z : Int64, qiL + (1 : Int64) = z := ⟨_, rfl⟩
        obtain ⟨qdY, qeO⟩ : ∃ z : Int32, cmpf qbi qbh = z := ⟨_, rfl⟩
        obtain ⟨qN, qch⟩ : ∃ z : UInt64, mnf qbi (9221120237041090560 : UInt64) = z := ⟨_, rfl⟩
        obtain ⟨qkh, qjx⟩ : ∃ z : Int64, qhA + (1 : Int64) = z := ⟨_, rfl⟩
        obtain ⟨qfW, qfO⟩ : ∃ z : Int32, cmpf qN qM = z := ⟨_, rfl⟩
        have f42 := (f37.keep K39q (ninS (Nat.ne_of_lt (Nat.lt_of_lt_of_le (V25).lt (Nat.le_of_eq g27.symm))) (ninS (Nat.ne_of_lt (Nat.lt_of_lt_of_le ((V25.ext E27)).lt qv)) nin0)))
        obtain ⟨cl43, Ar43, -, S43, -, Ha43, -⟩ := id f42
        have in43 : ¬ ((2 : Int32) < 0 ∨ cl43.slots.size ≤ ((2 : Int32)).toNatClampNeg) := inb_of S43 ⟨by decide, by decide⟩
        have qcD := nnL nn_z55 tvN qe7
        have qcK := nnR (Or.inr qI) qcD qc8
        have qc4 := nnL qcK tvN qbQ
        have qfm := nnL qc4 tvN qch
        have qmV : TV z55 := (Or.inr nn_z55)
        have qmW : TV (9221120237041090560 : UInt64) := tvN
        have qlp : (¬ qbV = (0 : Int32)) → TV qs := fun _ => (Or.inr qI)
        have qlq : (¬ qbV = (0 : Int32)) → TV qdD := fun _ => (Or.inr qcD)
        have qki : (¬ qbV = (0 : Int32)) → (¬ qcV = (0 : Int32)) → TV qb8 := fun _ _ => (Or.inr qcK)
        have qkj : (¬ qbV = (0 : Int32)) → (¬ qcV = (0 : Int32)) → TV (9221120237041090560 : UInt64) := fun _ _ => tvN
        have qiM : (¬ qbV = (0 : Int32)) → (¬ qcV = (0 : Int32)) → (¬ qdY = (0 : Int32)) → TV qbi := fun _ _ _ => (Or.inr qc4)
        have qiN : (¬ qbV = (0 : Int32)) → (¬ qcV = (0 : Int32)) → (¬ qdY = (0 : Int32)) → TV (9221120237041090560 : UInt64) := fun _ _ _ => tvN
        have qnj : (qbV = (0 : Int32)) → (9221120237041090560 : UInt64) = qdD := fun  hb_ => (cmp0 qcD tvN qex hb_)
        have qnk : (qbV = (0 : Int32)) → qb7 = qb8 := fun  hb_ => (chR (c := 0) qc7 (cmp0 qcD tvN qex hb_) qc8)
        have qnl : (qbV = (0 : Int32)) → qbh = qbi := fun  hb_ => (chL (c := 0) qbP (chR (c := 0) qc7 (cmp0 qcD tvN qex hb_) qc8) qbQ)
        have qnm : (qbV = (0 : Int32)) → qM = qN := fun  hb_ => (chL (c := 0) qcg (chL (c := 0) qbP (chR (c := 0) qc7 (cmp0 qcD tvN qex hb_) qc8) qbQ) qch)
        have qmb : (¬ qbV = (0 : Int32)) → (qcV = (0 : Int32)) → qb7 = qb8 := fun _ hb_ => (cmp0 qcK (Or.inr qcJ) qeD hb_)
        have qmc : (¬ qbV = (0 : Int32)) → (qcV = (0 : Int32)) → qbh = qbi := fun _ hb_ => (chL (c := 0) qbP (cmp0 qcK (Or.inr qcJ) qeD hb_) qbQ)
        have qmd : (¬ qbV = (0 : Int32)) → (qcV = (0 : Int32)) → qM = qN := fun _ hb_ => (chL (c := 0) qcg (chL (c := 0) qbP (cmp0 qcK (Or.inr qcJ) qeD hb_) qbQ) qch)
        have qkD : (¬ qbV = (0 : Int32)) → (¬ qcV = (0 : Int32)) → (qdY = (0 : Int32)) → qbh = qbi := fun _ _ hb_ => (cmp0 qc4 (Or.inr qc3) qeO hb_)
        have qkE : (¬ qbV = (0 : Int32)) → (¬ qcV = (0 : Int32)) → (qdY = (0 : Int32)) → qM = qN := fun _ _ hb_ => (chL (c := 0) qcg (cmp0 qc4 (Or.inr qc3) qeO hb_) qch)
        have qjp : (¬ qbV = (0 : Int32)) → (¬ qcV = (0 : Int32)) → (¬ qdY = (0 : Int32)) → (qfW = (0 : Int32)) → qM = qN := fun _ _ _ hb_ => (cmp0 qfm (Or.inr qfl) qfO hb_)
        obtain ⟨cq44, kq44, q44a, q44b, q44c⟩ := isOf hZ rfl Q39_4
        obtain ⟨_, _, ⟨T44, L44, k44, n44⟩, -, X44, ⟨Lc44, hQ44, ql44, qy44, qz44⟩, st44⟩ := X39.virtualBack hx (y := (⟨MTc, "add", "(D)V"⟩ : MethodName)) (z := (⟨MTc, "add", "(D)V"⟩ : MethodName)) hown (mvT hZ (hwi hw 32 rfl)) (mvT hZ (hwi hw 33 rfl)) (notFace_of_selects (args := #[]) (mvT hZ (hwi hw 35 rfl))) (mvT hZ (hwi hw 35 rfl)) (mvT hZ (hwi hw 34 rfl)) (by decide) (backOf (W := 0) (rm7_3 l Z a0 hw [] b27 z55 qcm (9221120237041090560 : UInt64) qM qbh (9221120237041090560 : UInt64) qb7 (9221120237041090560 : UInt64) (9221120237041090560 : UInt64) (9221120237041090560 : UInt64) qs (9221120237041090560 : UInt64) (9221120237041090560 : UInt64) (9221120237041090560 : UInt64) (9221120237041090560 : UInt64) (9221120237041090560 : UInt64) (9221120237041090560 : UInt64) (9221120237041090560 : UInt64) z25 z40 (9221120237041090560 : UInt64) (9221120237041090560 : UInt64) (9221120237041090560 : UInt64) (9221120237041090560 : UInt64) (9221120237041090560 : UInt64) (9221120237041090560 : UInt64) (9221120237041090560 : UInt64) (9221120237041090560 : UInt64) (9221120237041090560 : UInt64) (9221120237041090560 : UInt64) (9221120237041090560 : UInt64) (9221120237041090560 : UInt64) (9221120237041090560 : UInt64) (9221120237041090560 : UInt64) qb2 x39_x12_vx_visits_o0 qdD qkN qbV qb8 qiL qcV qbi qhA qdY qN qkh qfW T39.heap n0 (Nat.le_trans (Nat.le_trans (Nat.le_trans (Nat.le_trans (Nat.le_trans (Nat.le_trans (Nat.le_trans (Nat.le_trans (Nat.le_trans (Nat.le_trans (Nat.le_trans (Nat.le_trans (Nat.le_trans Z0 E1.1) (Keep.of_wr W4).1) (Keep.of_wr W7).1) (Keep.of_wr W10).1) (Keep.of_wr W13).1) (Keep.of_wr W16).1) (Keep.of_wr W19).1) (Keep.of_wr W22).1) (Keep.of_wr W25).1) E27.1) K29q.1) K34q.1) K39q.1) Q39_5 ((Nat.ne_of_lt (Nat.lt_of_lt_of_le (A27).lt qv))) Q39_0 Q39_1 qeY Q39_2 Q39_3 Q39_4 gn27 qe7 qnU qex qc8 qmn qeD qbQ qla qeO qch qjx qfO qmV qmW qlp qlq qki qkj qiM qiN qjp qkE qkD qmd qmc qmb qnm qnl qnk qnj) hZ (hwi hw 36 rfl) (hwi hw 4 rfl) (by decide) (by decide)) q44a q44c (g := (mkF m 199 #[vI p0, vJ q1, s_, vI p2, vI p3, vI z6, vR b1, vD z141, s_, vD z146, s_, vR b27, u_, u_] [(.double z55), (.ref b27)])) rfl (by rw [hml]; rfl) (Steps.refl _) (argsL := [(.double z55)]) (rest := []) (lenOf pd_8 rfl) rfl (by show 2 * 0 + _ ≤ _; exact Nat.le_of_eq rfl) (hb hby at_199) (fun _ _ => ⟨rfl, rfl, (by decide : 3 + 0 ≤ _), (by decide : 44 + 0 ≤ _)⟩)
        dsimp only [Pt.U, Pt.locs, Pt.cells, Pt.slots] at X44 ql44 qy44 qz44 st44 hQ44
        subst ql44 qy44 qz44
        obtain ⟨x44_x12_vx_visits_o0, rfl, N44q, K44q, Q44_0, Q44_1, Q44_2, Q44_3, Q44_4, Q44_5⟩ := hQ44
        have N44 := Fr.app N39 N44q
        have K45 : Keep h0 T44.heap [] := Keep.trans K40 K44q (allS (Or.inr gz27) (allS (Or.inr qeZ) all0))
        have c46 : ∀ t, Steps p.tables e below (T44.setTop (mkF m 205 #[vI p0, vJ q1, s_, vI p2, vI p3, vI z6, vR b1, vD z141, s_, vD z146, s_, vR b27, u_, u_] [(.int (3 : Int32)), (.int z6)])) t → Steps p.tables e below (s₁.setTop (entryFrame m #[(.int p0), (.long q1), (.int p2), (.int p3)] maxLocals)) t := by
          intro t k
          refine c41 t ?_
          show Steps p.tables e below (T39.setTop (mkF m 190 #[vI p0, vJ q1, s_, vI p2, vI p3, vI z6, vR b1, vD z141, s_, vD z146, s_, vR b27, u_, u_] [(.int (2 : Int32)), (.int z6)])) _
          refine XS.icmpNo X39.here hx rfl (hb hby at_190) rfl (Jvm.Free.XT.ii_le_f hb190) ?_
          refine XS.aload X39.here hx rfl (hb hby at_193) rfl rfl ?_
          refine XS.aload X39.here hx rfl (hb hby at_195) rfl rfl ?_
          refine XS.iconst X39.here hx rfl (hb hby at_197) ?_
          refine X39.daload hx (j := (2 : Int32)) (v := (.double z55)) Ar43.1 (State.isArrayOf_alike hZ.alike Ar43.2.1) Ar43.2.2 in43 (Has.at Ha43 in43 rfl) (g := (mkF m 198 #[vI p0, vJ q1, s_, vI p2, vI p3, vI z6, vR b1, vD z141, s_, vD z146, s_, vR b27, u_, u_] [(.int (2 : Int32)), (.ref b1), (.ref b27)])) rfl rfl (hb hby at_198) _ ?_
          refine st44.trans ?_
          show Steps p.tables e below (T44.setTop (mkF m 202 #[vI p0, vJ q1, s_, vI p2, vI p3, vI z6, vR b1, vD z141, s_, vD z146, s_, vR b27, u_, u_] [])) _
          refine XS.iload X44.here hx rfl (hb hby at_202) rfl ?_
          refine XS.iconst X44.here hx rfl (hb hby at_204) ?_
          exact k
        by_cases hb205 : (3 : Int32) < z6
        · skip
          obtain ⟨qbC, qc0⟩ : ∃ z : UInt64, mnf z55 z70 = z := ⟨_, rfl⟩
          obtain ⟨qkO, qnV⟩ : ∃ z : Int64, x44_x12_vx_visits_o0 + (1 : Int64) = z := ⟨_, rfl⟩
          obtain ⟨qbW, qey⟩ : ∃ z : Int32, cmpf qbC qdD = z := ⟨_, rfl⟩
          obtain ⟨qq, qbE⟩ : ∃ z : UInt64, mnf qs qbC = z := ⟨_, rfl⟩
          obtain ⟨qiO, qmo⟩ : ∃ z : Int64, qkO + (1 : Int64) = z := ⟨_, rfl⟩
          obtain ⟨qcW, qeE⟩ : ∃ z : Int32, cmpf qq qb8 = z := ⟨_, rfl⟩
          obtain ⟨qbj, qbR⟩ : ∃ z : UInt64, mnf qq (9221120237041090560 : UInt64) = z := ⟨_, rfl⟩
          obtain ⟨qhB, qlb⟩ : ∃ z : Int64, qiO + (1 : Int64) = z := ⟨_, rfl⟩
          obtain ⟨qdZ, qeP⟩ : ∃ z : Int32, cmpf qbj qbi = z := ⟨_, rfl⟩
          obtain ⟨qO, qci⟩ : ∃ z : UInt64, mnf qbj (9221120237041090560 : UInt64) = z := ⟨_, rfl⟩
          obtain ⟨qkk, qjy⟩ : ∃ z : Int64, qhB + (1 : Int64) = z := ⟨_, rfl⟩
          obtain ⟨qfX, qfP⟩ : ∃ z : Int32, cmpf qO qN = z := ⟨_, rfl⟩
          have f47 := (f42.keep K44q (ninS (Nat.ne_of_lt (Nat.lt_of_lt_of_le (V25).lt (Nat.le_of_eq g27.symm))) (ninS (Nat.ne_of_lt (Nat.lt_of_lt_of_le ((V25.ext E27)).lt qv)) nin0)))
          obtain ⟨cl48, Ar48, -, S48, -, Ha48, -⟩ := id f47
          have in48 : ¬ ((3 : Int32) < 0 ∨ cl48.slots.size ≤ ((3 : Int32)).toNatClampNeg) := inb_of S48 ⟨by decide, by decide⟩
          have qbD := nnR (Or.inr nn_z55) nn_z70 qc0
          have qw := nnR (Or.inr qI) qbD qbE
          have qc5 := nnL qw tvN qbR
          have qfn := nnL qc5 tvN qci
          have qmX : TV z55 := (Or.inr nn_z55)
          have qmY : TV z70 := (Or.inr nn_z70)
          have qlr : (¬ qbW = (0 : Int32)) → TV qs := fun _ => (Or.inr qI)
          have qls : (¬ qbW = (0 : Int32)) → TV qbC := fun _ => (Or.inr qbD)
          have qkl : (¬ qbW = (0 : Int32)) → (¬ qcW = (0 : Int32)) → TV qq := fun _ _ => (Or.inr qw)
          have qkm : (¬ qbW = (0 : Int32)) → (¬ qcW = (0 : Int32)) → TV (9221120237041090560 : UInt64) := fun _ _ => tvN
          have qiP : (¬ qbW = (0 : Int32)) → (¬ qcW = (0 : Int32)) → (¬ qdZ = (0 : Int32)) → TV qbj := fun _ _ _ => (Or.inr qc5)
          have qiQ : (¬ qbW = (0 : Int32)) → (¬ qcW = (0 : Int32)) → (¬ qdZ = (0 : Int32)) → TV (9221120237041090560 : UInt64) := fun _ _ _ => tvN
          have qnn : (qbW = (0 : Int32)) → qdD = qbC := fun  hb_ => (cmp0 qbD (Or.inr qcD) qey hb_)
          have qno : (qbW = (0 : Int32)) → qb8 = qq := fun  hb_ => (chR (c := 0) qc8 (cmp0 qbD (Or.inr qcD) qey hb_) qbE)
          have qnp : (qbW = (0 : Int32)) → qbi = qbj := fun  hb_ => (chL (c := 0) qbQ (chR (c := 0) qc8 (cmp0 qbD (Or.inr qcD) qey hb_) qbE) qbR)
          have qnq : (qbW = (0 : Int32)) → qN = qO := fun  hb_ => (chL (c := 0) qch (chL (c := 0) qbQ (chR (c := 0) qc8 (cmp0 qbD (Or.inr qcD) qey hb_) qbE) qbR) qci)
          have qme : (¬ qbW = (0 : Int32)) → (qcW = (0 : Int32)) → qb8 = qq := fun _ hb_ => (cmp0 qw (Or.inr qcK) qeE hb_)
          have qmf : (¬ qbW = (0 : Int32)) → (qcW = (0 : Int32)) → qbi = qbj := fun _ hb_ => (chL (c := 0) qbQ (cmp0 qw (Or.inr qcK) qeE hb_) qbR)
          have qmg : (¬ qbW = (0 : Int32)) → (qcW = (0 : Int32)) → qN = qO := fun _ hb_ => (chL (c := 0) qch (chL (c := 0) qbQ (cmp0 qw (Or.inr qcK) qeE hb_) qbR) qci)
          have qkF : (¬ qbW = (0 : Int32)) → (¬ qcW = (0 : Int32)) → (qdZ = (0 : Int32)) → qbi = qbj := fun _ _ hb_ => (cmp0 qc5 (Or.inr qc4) qeP hb_)
          have qkG : (¬ qbW = (0 : Int32)) → (¬ qcW = (0 : Int32)) → (qdZ = (0 : Int32)) → qN = qO := fun _ _ hb_ => (chL (c := 0) qch (cmp0 qc5 (Or.inr qc4) qeP hb_) qci)
          have qjq : (¬ qbW = (0 : Int32)) → (¬ qcW = (0 : Int32)) → (¬ qdZ = (0 : Int32)) → (qfX = (0 : Int32)) → qN = qO := fun _ _ _ hb_ => (cmp0 qfn (Or.inr qfm) qfP hb_)
          obtain ⟨cq49, kq49, q49a, q49b, q49c⟩ := isOf hZ rfl Q44_4
          obtain ⟨_, _, ⟨T49, L49, k49, n49⟩, -, X49, ⟨Lc49, hQ49, ql49, qy49, qz49⟩, st49⟩ := X44.virtualBack hx (y := (⟨MTc, "add", "(D)V"⟩ : MethodName)) (z := (⟨MTc, "add", "(D)V"⟩ : MethodName)) hown (mvT hZ (hwi hw 32 rfl)) (mvT hZ (hwi hw 33 rfl)) (notFace_of_selects (args := #[]) (mvT hZ (hwi hw 35 rfl))) (mvT hZ (hwi hw 35 rfl)) (mvT hZ (hwi hw 34 rfl)) (by decide) (backOf (W := 0) (rm7_4 l Z a0 hw [] b27 z70 qcm (9221120237041090560 : UInt64) qN qbi (9221120237041090560 : UInt64) qb8 (9221120237041090560 : UInt64) (9221120237041090560 : UInt64) (9221120237041090560 : UInt64) qs qdD (9221120237041090560 : UInt64) (9221120237041090560 : UInt64) (9221120237041090560 : UInt64) (9221120237041090560 : UInt64) (9221120237041090560 : UInt64) (9221120237041090560 : UInt64) z25 z40 z55 (9221120237041090560 : UInt64) (9221120237041090560 : UInt64) (9221120237041090560 : UInt64) (9221120237041090560 : UInt64) (9221120237041090560 : UInt64) (9221120237041090560 : UInt64) (9221120237041090560 : UInt64) (9221120237041090560 : UInt64) (9221120237041090560 : UInt64) (9221120237041090560 : UInt64) (9221120237041090560 : UInt64) (9221120237041090560 : UInt64) (9221120237041090560 : UInt64) qb2 x44_x12_vx_visits_o0 qbC qkO qbW qq qiO qcW qbj qhB qdZ qO qkk qfX T44.heap n0 (Nat.le_trans (Nat.le_trans (Nat.le_trans (Nat.le_trans (Nat.le_trans (Nat.le_trans (Nat.le_trans (Nat.le_trans (Nat.le_trans (Nat.le_trans (Nat.le_trans (Nat.le_trans (Nat.le_trans (Nat.le_trans Z0 E1.1) (Keep.of_wr W4).1) (Keep.of_wr W7).1) (Keep.of_wr W10).1) (Keep.of_wr W13).1) (Keep.of_wr W16).1) (Keep.of_wr W19).1) (Keep.of_wr W22).1) (Keep.of_wr W25).1) E27.1) K29q.1) K34q.1) K39q.1) K44q.1) Q44_5 ((Nat.ne_of_lt (Nat.lt_of_lt_of_le (A27).lt qv))) Q44_0 Q44_1 qeY Q44_2 Q44_3 Q44_4 gn27 qc0 qnV qey qbE qmo qeE qbR qlb qeP qci qjy qfP qmX qmY qlr qls qkl qkm qiP qiQ qjq qkG qkF qmg qmf qme qnq qnp qno qnn) hZ (hwi hw 36 rfl) (hwi hw 4 rfl) (by decide) (by decide)) q49a q49c (g := (mkF m 214 #[vI p0, vJ q1, s_, vI p2, vI p3, vI z6, vR b1, vD z141, s_, vD z146, s_, vR b27, u_, u_] [(.double z70), (.ref b27)])) rfl (by rw [hml]; rfl) (Steps.refl _) (argsL := [(.double z70)]) (rest := []) (lenOf pd_8 rfl) rfl (by show 2 * 0 + _ ≤ _; exact Nat.le_of_eq rfl) (hb hby at_214) (fun _ _ => ⟨rfl, rfl, (by decide : 3 + 0 ≤ _), (by decide : 44 + 0 ≤ _)⟩)
          dsimp only [Pt.U, Pt.locs, Pt.cells, Pt.slots] at X49 ql49 qy49 qz49 st49 hQ49
          subst ql49 qy49 qz49
          obtain ⟨x49_x12_vx_visits_o0, rfl, N49q, K49q, Q49_0, Q49_1, Q49_2, Q49_3, Q49_4, Q49_5⟩ := hQ49
          have N49 := Fr.app N44 N49q
          have K50 : Keep h0 T49.heap [] := Keep.trans K45 K49q (allS (Or.inr gz27) (allS (Or.inr qeZ) all0))
          have c51 : ∀ t, Steps p.tables e below (T49.setTop (mkF m 220 #[vI p0, vJ q1, s_, vI p2, vI p3, vI z6, vR b1, vD z141, s_, vD z146, s_, vR b27, u_, u_] [(.int (4 : Int32)), (.int z6)])) t → Steps p.tables e below (s₁.setTop (entryFrame m #[(.int p0), (.long q1), (.int p2), (.int p3)] maxLocals)) t := by
            intro t k
            refine c46 t ?_
            show Steps p.tables e below (T44.setTop (mkF m 205 #[vI p0, vJ q1, s_, vI p2, vI p3, vI z6, vR b1, vD z141, s_, vD z146, s_, vR b27, u_, u_] [(.int (3 : Int32)), (.int z6)])) _
            refine XS.icmpNo X44.here hx rfl (hb hby at_205) rfl (Jvm.Free.XT.ii_le_f hb205) ?_
            refine XS.aload X44.here hx rfl (hb hby at_208) rfl rfl ?_
            refine XS.aload X44.here hx rfl (hb hby at_210) rfl rfl ?_
            refine XS.iconst X44.here hx rfl (hb hby at_212) ?_
            refine X44.daload hx (j := (3 : Int32)) (v := (.double z70)) Ar48.1 (State.isArrayOf_alike hZ.alike Ar48.2.1) Ar48.2.2 in48 (Has.at Ha48 in48 rfl) (g := (mkF m 213 #[vI p0, vJ q1, s_, vI p2, vI p3, vI z6, vR b1, vD z141, s_, vD z146, s_, vR b27, u_, u_] [(.int (3 : Int32)), (.ref b1), (.ref b27)])) rfl rfl (hb hby at_213) _ ?_
            refine st49.trans ?_
            show Steps p.tables e below (T49.setTop (mkF m 217 #[vI p0, vJ q1, s_, vI p2, vI p3, vI z6, vR b1, vD z141, s_, vD z146, s_, vR b27, u_, u_] [])) _
            refine XS.iload X49.here hx rfl (hb hby at_217) rfl ?_
            refine XS.iconst X49.here hx rfl (hb hby at_219) ?_
            exact k
          by_cases hb220 : (4 : Int32) < z6
          · skip
            obtain ⟨qc1, qeQ⟩ : ∃ z : UInt64, mnf z85 (9221120237041090560 : UInt64) = z := ⟨_, rfl⟩
            obtain ⟨qkn, qnr⟩ : ∃ z : Int64, x49_x12_vx_visits_o0 + (1 : Int64) = z := ⟨_, rfl⟩
            obtain ⟨qbF, qen⟩ : ∃ z : Int32, cmpf qc1 (9221120237041090560 : UInt64) = z := ⟨_, rfl⟩
            obtain ⟨qcu, qcQ⟩ : ∃ z : UInt64, mnf qc1 (9221120237041090560 : UInt64) = z := ⟨_, rfl⟩
            obtain ⟨qh2, qmh⟩ : ∃ z : Int64, qkn + (1 : Int64) = z := ⟨_, rfl⟩
            obtain ⟨qcL, qer⟩ : ∃ z : Int32, cmpf qcu (9221120237041090560 : UInt64) = z := ⟨_, rfl⟩
            obtain ⟨qY, qbJ⟩ : ∃ z : UInt64, mnf qq qcu = z := ⟨_, rfl⟩
            obtain ⟨qg4, qkH⟩ : ∃ z : Int64, qh2 + (1 : Int64) = z := ⟨_, rfl⟩
            obtain ⟨qdQ, qeI⟩ : ∃ z : Int32, cmpf qY qbj = z := ⟨_, rfl⟩
            obtain ⟨qD, qb3⟩ : ∃ z : UInt64, mnf qY (9221120237041090560 : UInt64) = z := ⟨_, rfl⟩
            obtain ⟨qjz, qjr⟩ : ∃ z : Int64, qg4 + (1 : Int64) = z := ⟨_, rfl⟩
            obtain ⟨qfQ, qfu⟩ : ∃ z : Int32, cmpf qD qO = z := ⟨_, rfl⟩
            have f52 := (f47.keep K49q (ninS (Nat.ne_of_lt (Nat.lt_of_lt_of_le (V25).lt (Nat.le_of_eq g27.symm))) (ninS (Nat.ne_of_lt (Nat.lt_of_lt_of_le ((V25.ext E27)).lt qv)) nin0)))
            obtain ⟨cl53, Ar53, -, S53, -, Ha53, -⟩ := id f52
            have in53 : ¬ ((4 : Int32) < 0 ∨ cl53.slots.size ≤ ((4 : Int32)).toNatClampNeg) := inb_of S53 ⟨by decide, by decide⟩
            have qcv := nnL nn_z85 tvN qeQ
            have qcz := nnL qcv tvN qcQ
            have qcX := nnR (Or.inr qw) qcz qbJ
            have qe8 := nnL qcX tvN qb3
            have qmp : TV z85 := (Or.inr nn_z85)
            have qmq : TV (9221120237041090560 : UInt64) := tvN
            have qlc : (¬ qbF = (0 : Int32)) → TV qc1 := fun _ => (Or.inr qcv)
            have qld : (¬ qbF = (0 : Int32)) → TV (9221120237041090560 : UInt64) := fun _ => tvN
            have qjA : (¬ qbF = (0 : Int32)) → (¬ qcL = (0 : Int32)) → TV qq := fun _ _ => (Or.inr qw)
            have qjB : (¬ qbF = (0 : Int32)) → (¬ qcL = (0 : Int32)) → TV qcu := fun _ _ => (Or.inr qcz)
            have qiv : (¬ qbF = (0 : Int32)) → (¬ qcL = (0 : Int32)) → (¬ qdQ = (0 : Int32)) → TV qY := fun _ _ _ => (Or.inr qcX)
            have qiw : (¬ qbF = (0 : Int32)) → (¬ qcL = (0 : Int32)) → (¬ qdQ = (0 : Int32)) → TV (9221120237041090560 : UInt64) := fun _ _ _ => tvN
            have qmr : (qbF = (0 : Int32)) → (9221120237041090560 : UInt64) = qc1 := fun  hb_ => (cmp0 qcv tvN qen hb_)
            have qmZ : (qbF = (0 : Int32)) → (9221120237041090560 : UInt64) = qcu := fun  hb_ => (chL (c := 0) invN (cmp0 qcv tvN qen hb_) qcQ)
            have qm0 : (qbF = (0 : Int32)) → qbj = qY := fun  hb_ => (chR (c := 0) qbR (chL (c := 0) invN (cmp0 qcv tvN qen hb_) qcQ) qbJ)
            have qm1 : (qbF = (0 : Int32)) → qO = qD := fun  hb_ => (chL (c := 0) qci (chR (c := 0) qbR (chL (c := 0) invN (cmp0 qcv tvN qen hb_) qcQ) qbJ) qb3)
            have qlt : (¬ qbF = (0 : Int32)) → (qcL = (0 : Int32)) → (9221120237041090560 : UInt64) = qcu := fun _ hb_ => (cmp0 qcz tvN qer hb_)
            have qlu : (¬ qbF = (0 : Int32)) → (qcL = (0 : Int32)) → qbj = qY := fun _ hb_ => (chR (c := 0) qbR (cmp0 qcz tvN qer hb_) qbJ)
            have qlv : (¬ qbF = (0 : Int32)) → (qcL = (0 : Int32)) → qO = qD := fun _ hb_ => (chL (c := 0) qci (chR (c := 0) qbR (cmp0 qcz tvN qer hb_) qbJ) qb3)
            have qko : (¬ qbF = (0 : Int32)) → (¬ qcL = (0 : Int32)) → (qdQ = (0 : Int32)) → qbj = qY := fun _ _ hb_ => (cmp0 qcX (Or.inr qc5) qeI hb_)
            have qkp : (¬ qbF = (0 : Int32)) → (¬ qcL = (0 : Int32)) → (qdQ = (0 : Int32)) → qO = qD := fun _ _ hb_ => (chL (c := 0) qci (cmp0 qcX (Or.inr qc5) qeI hb_) qb3)
            have qiR : (¬ qbF = (0 : Int32)) → (¬ qcL = (0 : Int32)) → (¬ qdQ = (0 : Int32)) → (qfQ = (0 : Int32)) → qO = qD := fun _ _ _ hb_ => (cmp0 qe8 (Or.inr qfn) qfu hb_)
            obtain ⟨cq54, kq54, q54a, q54b, q54c⟩ := isOf hZ rfl Q49_4
            obtain ⟨_, _, ⟨T54, L54, k54, n54⟩, -, X54, ⟨Lc54, hQ54, ql54, qy54, qz54⟩, st54⟩ := X49.virtualBack hx (y := (⟨MTc, "add", "(D)V"⟩ : MethodName)) (z := (⟨MTc, "add", "(D)V"⟩ : MethodName)) hown (mvT hZ (hwi hw 32 rfl)) (mvT hZ (hwi hw 33 rfl)) (notFace_of_selects (args := #[]) (mvT hZ (hwi hw 35 rfl))) (mvT hZ (hwi hw 35 rfl)) (mvT hZ (hwi hw 34 rfl)) (by decide) (backOf (W := 0) (rm7_5 l Z a0 hw [] b27 z85 qcm (9221120237041090560 : UInt64) qO qbj (9221120237041090560 : UInt64) qq (9221120237041090560 : UInt64) (9221120237041090560 : UInt64) (9221120237041090560 : UInt64) qs qbC (9221120237041090560 : UInt64) (9221120237041090560 : UInt64) (9221120237041090560 : UInt64) (9221120237041090560 : UInt64) (9221120237041090560 : UInt64) (9221120237041090560 : UInt64) z25 z40 z55 z70 (9221120237041090560 : UInt64) (9221120237041090560 : UInt64) (9221120237041090560 : UInt64) (9221120237041090560 : UInt64) (9221120237041090560 : UInt64) (9221120237041090560 : UInt64) (9221120237041090560 : UInt64) (9221120237041090560 : UInt64) (9221120237041090560 : UInt64) (9221120237041090560 : UInt64) (9221120237041090560 : UInt64) (9221120237041090560 : UInt64) qb2 x49_x12_vx_visits_o0 qc1 qkn qbF qcu qh2 qcL qY qg4 qdQ qD qjz qfQ T49.heap n0 (Nat.le_trans (Nat.le_trans (Nat.le_trans (Nat.le_trans (Nat.le_trans (Nat.le_trans (Nat.le_trans (Nat.le_trans (Nat.le_trans (Nat.le_trans (Nat.le_trans (Nat.le_trans (Nat.le_trans (Nat.le_trans (Nat.le_trans Z0 E1.1) (Keep.of_wr W4).1) (Keep.of_wr W7).1) (Keep.of_wr W10).1) (Keep.of_wr W13).1) (Keep.of_wr W16).1) (Keep.of_wr W19).1) (Keep.of_wr W22).1) (Keep.of_wr W25).1) E27.1) K29q.1) K34q.1) K39q.1) K44q.1) K49q.1) Q49_5 ((Nat.ne_of_lt (Nat.lt_of_lt_of_le (A27).lt qv))) Q49_0 Q49_1 qeY Q49_2 Q49_3 Q49_4 gn27 qeQ qnr qen qcQ qmh qer qbJ qkH qeI qb3 qjr qfu qmp qmq qlc qld qjA qjB qiv qiw qiR qkp qko qlv qlu qlt qm1 qm0 qmZ qmr) hZ (hwi hw 36 rfl) (hwi hw 4 rfl) (by decide) (by decide)) q54a q54c (g := (mkF m 229 #[vI p0, vJ q1, s_, vI p2, vI p3, vI z6, vR b1, vD z141, s_, vD z146, s_, vR b27, u_, u_] [(.double z85), (.ref b27)])) rfl (by rw [hml]; rfl) (Steps.refl _) (argsL := [(.double z85)]) (rest := []) (lenOf pd_8 rfl) rfl (by show 2 * 0 + _ ≤ _; exact Nat.le_of_eq rfl) (hb hby at_229) (fun _ _ => ⟨rfl, rfl, (by decide : 3 + 0 ≤ _), (by decide : 44 + 0 ≤ _)⟩)
            dsimp only [Pt.U, Pt.locs, Pt.cells, Pt.slots] at X54 ql54 qy54 qz54 st54 hQ54
            subst ql54 qy54 qz54
            obtain ⟨x54_x12_vx_visits_o0, rfl, N54q, K54q, Q54_0, Q54_1, Q54_2, Q54_3, Q54_4, Q54_5⟩ := hQ54
            have N54 := Fr.app N49 N54q
            have K55 : Keep h0 T54.heap [] := Keep.trans K50 K54q (allS (Or.inr gz27) (allS (Or.inr qeZ) all0))
            have c56 : ∀ t, Steps p.tables e below (T54.setTop (mkF m 235 #[vI p0, vJ q1, s_, vI p2, vI p3, vI z6, vR b1, vD z141, s_, vD z146, s_, vR b27, u_, u_] [(.int (5 : Int32)), (.int z6)])) t → Steps p.tables e below (s₁.setTop (entryFrame m #[(.int p0), (.long q1), (.int p2), (.int p3)] maxLocals)) t := by
              intro t k
              refine c51 t ?_
              show Steps p.tables e below (T49.setTop (mkF m 220 #[vI p0, vJ q1, s_, vI p2, vI p3, vI z6, vR b1, vD z141, s_, vD z146, s_, vR b27, u_, u_] [(.int (4 : Int32)), (.int z6)])) _
              refine XS.icmpNo X49.here hx rfl (hb hby at_220) rfl (Jvm.Free.XT.ii_le_f hb220) ?_
              refine XS.aload X49.here hx rfl (hb hby at_223) rfl rfl ?_
              refine XS.aload X49.here hx rfl (hb hby at_225) rfl rfl ?_
              refine XS.iconst X49.here hx rfl (hb hby at_227) ?_
              refine X49.daload hx (j := (4 : Int32)) (v := (.double z85)) Ar53.1 (State.isArrayOf_alike hZ.alike Ar53.2.1) Ar53.2.2 in53 (Has.at Ha53 in53 rfl) (g := (mkF m 228 #[vI p0, vJ q1, s_, vI p2, vI p3, vI z6, vR b1, vD z141, s_, vD z146, s_, vR b27, u_, u_] [(.int (4 : Int32)), (.ref b1), (.ref b27)])) rfl rfl (hb hby at_228) _ ?_
              refine st54.trans ?_
              show Steps p.tables e below (T54.setTop (mkF m 232 #[vI p0, vJ q1, s_, vI p2, vI p3, vI z6, vR b1, vD z141, s_, vD z146, s_, vR b27, u_, u_] [])) _
              refine XS.iload X54.here hx rfl (hb hby at_232) rfl ?_
              refine XS.iconst X54.here hx rfl (hb hby at_234) ?_
              exact k
            by_cases hb235 : (5 : Int32) < z6
            · skip
              obtain ⟨qV, qdP⟩ : ∃ z : UInt64, mnf z85 z100 = z := ⟨_, rfl⟩
              obtain ⟨qkq, qns⟩ : ∃ z : Int64, x54_x12_vx_visits_o0 + (1 : Int64) = z := ⟨_, rfl⟩
              obtain ⟨qbG, qeo⟩ : ∃ z : Int32, cmpf qV qc1 = z := ⟨_, rfl⟩
              obtain ⟨qcw, qcR⟩ : ∃ z : UInt64, mnf qV (9221120237041090560 : UInt64) = z := ⟨_, rfl⟩
              obtain ⟨qh3, qmi⟩ : ∃ z : Int64, qkq + (1 : Int64) = z := ⟨_, rfl⟩
              obtain ⟨qcM, qes⟩ : ∃ z : Int32, cmpf qcw qcu = z := ⟨_, rfl⟩
              obtain ⟨qZ, qbK⟩ : ∃ z : UInt64, mnf qq qcw = z := ⟨_, rfl⟩
              obtain ⟨qg5, qkI⟩ : ∃ z : Int64, qh3 + (1 : Int64) = z := ⟨_, rfl⟩
              obtain ⟨qdR, qeJ⟩ : ∃ z : Int32, cmpf qZ qY = z := ⟨_, rfl⟩
              obtain ⟨qE, qb4⟩ : ∃ z : UInt64, mnf qZ (9221120237041090560 : UInt64) = z := ⟨_, rfl⟩
              obtain ⟨qjC, qjs⟩ : ∃ z : Int64, qg5 + (1 : Int64) = z := ⟨_, rfl⟩
              obtain ⟨qfR, qfv⟩ : ∃ z : Int32, cmpf qE qD = z := ⟨_, rfl⟩
              have f57 := (f52.keep K54q (ninS (Nat.ne_of_lt (Nat.lt_of_lt_of_le (V25).lt (Nat.le_of_eq g27.symm))) (ninS (Nat.ne_of_lt (Nat.lt_of_lt_of_le ((V25.ext E27)).lt qv)) nin0)))
              obtain ⟨cl58, Ar58, -, S58, -, Ha58, -⟩ := id f57
              have in58 : ¬ ((5 : Int32) < 0 ∨ cl58.slots.size ≤ ((5 : Int32)).toNatClampNeg) := inb_of S58 ⟨by decide, by decide⟩
              have qbw := nnR (Or.inr nn_z85) nn_z100 qdP
              have qcA := nnL qbw tvN qcR
              have qcY := nnR (Or.inr qw) qcA qbK
              have qe9 := nnL qcY tvN qb4
              have qms : TV z85 := (Or.inr nn_z85)
              have qmt : TV z100 := (Or.inr nn_z100)
              have qle : (¬ qbG = (0 : Int32)) → TV qV := fun _ => (Or.inr qbw)
              have qlf : (¬ qbG = (0 : Int32)) → TV (9221120237041090560 : UInt64) := fun _ => tvN
              have qjD : (¬ qbG = (0 : Int32)) → (¬ qcM = (0 : Int32)) → TV qq := fun _ _ => (Or.inr qw)
              have qjE : (¬ qbG = (0 : Int32)) → (¬ qcM = (0 : Int32)) → TV qcw := fun _ _ => (Or.inr qcA)
              have qix : (¬ qbG = (0 : Int32)) → (¬ qcM = (0 : Int32)) → (¬ qdR = (0 : Int32)) → TV qZ := fun _ _ _ => (Or.inr qcY)
              have qiy : (¬ qbG = (0 : Int32)) → (¬ qcM = (0 : Int32)) → (¬ qdR = (0 : Int32)) → TV (9221120237041090560 : UInt64) := fun _ _ _ => tvN
              have qmu : (qbG = (0 : Int32)) → qc1 = qV := fun  hb_ => (cmp0 qbw (Or.inr qcv) qeo hb_)
              have qm2 : (qbG = (0 : Int32)) → qcu = qcw := fun  hb_ => (chL (c := 0) qcQ (cmp0 qbw (Or.inr qcv) qeo hb_) qcR)
              have qm3 : (qbG = (0 : Int32)) → qY = qZ := fun  hb_ => (chR (c := 0) qbJ (chL (c := 0) qcQ (cmp0 qbw (Or.inr qcv) qeo hb_) qcR) qbK)
              have qm4 : (qbG = (0 : Int32)) → qD = qE := fun  hb_ => (chL (c := 0) qb3 (chR (c := 0) qbJ (chL (c := 0) qcQ (cmp0 qbw (Or.inr qcv) qeo hb_) qcR) qbK) qb4)
              have qlw : (¬ qbG = (0 : Int32)) → (qcM = (0 : Int32)) → qcu = qcw := fun _ hb_ => (cmp0 qcA (Or.inr qcz) qes hb_)
              have qlx : (¬ qbG = (0 : Int32)) → (qcM = (0 : Int32)) → qY = qZ := fun _ hb_ => (chR (c := 0) qbJ (cmp0 qcA (Or.inr qcz) qes hb_) qbK)
              have qly : (¬ qbG = (0 : Int32)) → (qcM = (0 : Int32)) → qD = qE := fun _ hb_ => (chL (c := 0) qb3 (chR (c := 0) qbJ (cmp0 qcA (Or.inr qcz) qes hb_) qbK) qb4)
              have qkr : (¬ qbG = (0 : Int32)) → (¬ qcM = (0 : Int32)) → (qdR = (0 : Int32)) → qY = qZ := fun _ _ hb_ => (cmp0 qcY (Or.inr qcX) qeJ hb_)
              have qks : (¬ qbG = (0 : Int32)) → (¬ qcM = (0 : Int32)) → (qdR = (0 : Int32)) → qD = qE := fun _ _ hb_ => (chL (c := 0) qb3 (cmp0 qcY (Or.inr qcX) qeJ hb_) qb4)
              have qiS : (¬ qbG = (0 : Int32)) → (¬ qcM = (0 : Int32)) → (¬ qdR = (0 : Int32)) → (qfR = (0 : Int32)) → qD = qE := fun _ _ _ hb_ => (cmp0 qe9 (Or.inr qe8) qfv hb_)
              obtain ⟨cq59, kq59, q59a, q59b, q59c⟩ := isOf hZ rfl Q54_4
              obtain ⟨_, _, ⟨T59, L59, k59, n59⟩, -, X59, ⟨Lc59, hQ59, ql59, qy59, qz59⟩, st59⟩ := X54.virtualBack hx (y := (⟨MTc, "add", "(D)V"⟩ : MethodName)) (z := (⟨MTc, "add", "(D)V"⟩ : MethodName)) hown (mvT hZ (hwi hw 32 rfl)) (mvT hZ (hwi hw 33 rfl)) (notFace_of_selects (args := #[]) (mvT hZ (hwi hw 35 rfl))) (mvT hZ (hwi hw 35 rfl)) (mvT hZ (hwi hw 34 rfl)) (by decide) (backOf (W := 0) (rm7_6 l Z a0 hw [] b27 z100 qcm (9221120237041090560 : UInt64) qD qY (9221120237041090560 : UInt64) qq qcu (9221120237041090560 : UInt64) (9221120237041090560 : UInt64) qs qbC qc1 (9221120237041090560 : UInt64) (9221120237041090560 : UInt64) (9221120237041090560 : UInt64) (9221120237041090560 : UInt64) (9221120237041090560 : UInt64) z25 z40 z55 z70 z85 (9221120237041090560 : UInt64) (9221120237041090560 : UInt64) (9221120237041090560 : UInt64) (9221120237041090560 : UInt64) (9221120237041090560 : UInt64) (9221120237041090560 : UInt64) (9221120237041090560 : UInt64) (9221120237041090560 : UInt64) (9221120237041090560 : UInt64) (9221120237041090560 : UInt64) (9221120237041090560 : UInt64) qb2 x54_x12_vx_visits_o0 qV qkq qbG qcw qh3 qcM qZ qg5 qdR qE qjC qfR T54.heap n0 (Nat.le_trans (Nat.le_trans (Nat.le_trans (Nat.le_trans (Nat.le_trans (Nat.le_trans (Nat.le_trans (Nat.le_trans (Nat.le_trans (Nat.le_trans (Nat.le_trans (Nat.le_trans (Nat.le_trans (Nat.le_trans (Nat.le_trans (Nat.le_trans Z0 E1.1) (Keep.of_wr W4).1) (Keep.of_wr W7).1) (Keep.of_wr W10).1) (Keep.of_wr W13).1) (Keep.of_wr W16).1) (Keep.of_wr W19).1) (Keep.of_wr W22).1) (Keep.of_wr W25).1) E27.1) K29q.1) K34q.1) K39q.1) K44q.1) K49q.1) K54q.1) Q54_5 ((Nat.ne_of_lt (Nat.lt_of_lt_of_le (A27).lt qv))) Q54_0 Q54_1 qeY Q54_2 Q54_3 Q54_4 gn27 qdP qns qeo qcR qmi qes qbK qkI qeJ qb4 qjs qfv qms qmt qle qlf qjD qjE qix qiy qiS qks qkr qly qlx qlw qm4 qm3 qm2 qmu) hZ (hwi hw 36 rfl) (hwi hw 4 rfl) (by decide) (by decide)) q59a q59c (g := (mkF m 244 #[vI p0, vJ q1, s_, vI p2, vI p3, vI z6, vR b1, vD z141, s_, vD z146, s_, vR b27, u_, u_] [(.double z100), (.ref b27)])) rfl (by rw [hml]; rfl) (Steps.refl _) (argsL := [(.double z100)]) (rest := []) (lenOf pd_8 rfl) rfl (by show 2 * 0 + _ ≤ _; exact Nat.le_of_eq rfl) (hb hby at_244) (fun _ _ => ⟨rfl, rfl, (by decide : 3 + 0 ≤ _), (by decide : 44 + 0 ≤ _)⟩)
              dsimp only [Pt.U, Pt.locs, Pt.cells, Pt.slots] at X59 ql59 qy59 qz59 st59 hQ59
              subst ql59 qy59 qz59
              obtain ⟨x59_x12_vx_visits_o0, rfl, N59q, K59q, Q59_0, Q59_1, Q59_2, Q59_3, Q59_4, Q59_5⟩ := hQ59
              have N59 := Fr.app N54 N59q
              have K60 : Keep h0 T59.heap [] := Keep.trans K55 K59q (allS (Or.inr gz27) (allS (Or.inr qeZ) all0))
              have c61 : ∀ t, Steps p.tables e below (T59.setTop (mkF m 251 #[vI p0, vJ q1, s_, vI p2, vI p3, vI z6, vR b1, vD z141, s_, vD z146, s_, vR b27, u_, u_] [(.int (6 : Int32)), (.int z6)])) t → Steps p.tables e below (s₁.setTop (entryFrame m #[(.int p0), (.long q1), (.int p2), (.int p3)] maxLocals)) t := by
                intro t k
                refine c56 t ?_
                show Steps p.tables e below (T54.setTop (mkF m 235 #[vI p0, vJ q1, s_, vI p2, vI p3, vI z6, vR b1, vD z141, s_, vD z146, s_, vR b27, u_, u_] [(.int (5 : Int32)), (.int z6)])) _
                refine XS.icmpNo X54.here hx rfl (hb hby at_235) rfl (Jvm.Free.XT.ii_le_f hb235) ?_
                refine XS.aload X54.here hx rfl (hb hby at_238) rfl rfl ?_
                refine XS.aload X54.here hx rfl (hb hby at_240) rfl rfl ?_
                refine XS.iconst X54.here hx rfl (hb hby at_242) ?_
                refine X54.daload hx (j := (5 : Int32)) (v := (.double z100)) Ar58.1 (State.isArrayOf_alike hZ.alike Ar58.2.1) Ar58.2.2 in58 (Has.at Ha58 in58 rfl) (g := (mkF m 243 #[vI p0, vJ q1, s_, vI p2, vI p3, vI z6, vR b1, vD z141, s_, vD z146, s_, vR b27, u_, u_] [(.int (5 : Int32)), (.ref b1), (.ref b27)])) rfl rfl (hb hby at_243) _ ?_
                refine st59.trans ?_
                show Steps p.tables e below (T59.setTop (mkF m 247 #[vI p0, vJ q1, s_, vI p2, vI p3, vI z6, vR b1, vD z141, s_, vD z146, s_, vR b27, u_, u_] [])) _
                refine XS.iload X59.here hx rfl (hb hby at_247) rfl ?_
                refine XS.bipush X59.here hx rfl (hb hby at_249) ?_
                exact k
              by_cases hb251 : (6 : Int32) < z6
              · skip
                obtain ⟨qdy, qeR⟩ : ∃ z : UInt64, mnf z116 (9221120237041090560 : UInt64) = z := ⟨_, rfl⟩
                obtain ⟨qkt, qnt⟩ : ∃ z : Int64, x59_x12_vx_visits_o0 + (1 : Int64) = z := ⟨_, rfl⟩
                obtain ⟨qbH, qep⟩ : ∃ z : Int32, cmpf qdy (9221120237041090560 : UInt64) = z := ⟨_, rfl⟩
                obtain ⟨qcx, qcS⟩ : ∃ z : UInt64, mnf qV qdy = z := ⟨_, rfl⟩
                obtain ⟨qh4, qmj⟩ : ∃ z : Int64, qkt + (1 : Int64) = z := ⟨_, rfl⟩
                obtain ⟨qcN, qet⟩ : ∃ z : Int32, cmpf qcx qcw = z := ⟨_, rfl⟩
                obtain ⟨q0, qbL⟩ : ∃ z : UInt64, mnf qq qcx = z := ⟨_, rfl⟩
                obtain ⟨qg6, qkJ⟩ : ∃ z : Int64, qh4 + (1 : Int64) = z := ⟨_, rfl⟩
                obtain ⟨qdS, qeK⟩ : ∃ z : Int32, cmpf q0 qZ = z := ⟨_, rfl⟩
                obtain ⟨qF, qb5⟩ : ∃ z : UInt64, mnf q0 (9221120237041090560 : UInt64) = z := ⟨_, rfl⟩
                obtain ⟨qjF, qjt⟩ : ∃ z : Int64, qg6 + (1 : Int64) = z := ⟨_, rfl⟩
                obtain ⟨qfS, qfw⟩ : ∃ z : Int32, cmpf qF qE = z := ⟨_, rfl⟩
                have f62 := (f57.keep K59q (ninS (Nat.ne_of_lt (Nat.lt_of_lt_of_le (V25).lt (Nat.le_of_eq g27.symm))) (ninS (Nat.ne_of_lt (Nat.lt_of_lt_of_le ((V25.ext E27)).lt qv)) nin0)))
                obtain ⟨cl63, Ar63, -, S63, -, Ha63, -⟩ := id f62
                have in63 : ¬ ((6 : Int32) < 0 ∨ cl63.slots.size ≤ ((6 : Int32)).toNatClampNeg) := inb_of S63 ⟨by decide, by decide⟩
                have qcy := nnL nn_z116 tvN qeR
                have qcB := nnR (Or.inr qbw) qcy qcS
                have qcZ := nnR (Or.inr qw) qcB qbL
                have qfa := nnL qcZ tvN qb5
                have qmv : TV z116 := (Or.inr nn_z116)
                have qmw : TV (9221120237041090560 : UInt64) := tvN
                have qlg : (¬ qbH = (0 : Int32)) → TV qV := fun _ => (Or.inr qbw)
                have qlh : (¬ qbH = (0 : Int32)) → TV qdy := fun _ => (Or.inr qcy)
                have qjG : (¬ qbH = (0 : Int32)) → (¬ qcN = (0 : Int32)) → TV qq := fun _ _ => (Or.inr qw)
                have qjH : (¬ qbH = (0 : Int32)) → (¬ qcN = (0 : Int32)) → TV qcx := fun _ _ => (Or.inr qcB)
                have qiz : (¬ qbH = (0 : Int32)) → (¬ qcN = (0 : Int32)) → (¬ qdS = (0 : Int32)) → TV q0 := fun _ _ _ => (Or.inr qcZ)
                have qiA : (¬ qbH = (0 : Int32)) → (¬ qcN = (0 : Int32)) → (¬ qdS = (0 : Int32)) → TV (9221120237041090560 : UInt64) := fun _ _ _ => tvN
                have qmx : (qbH = (0 : Int32)) → (9221120237041090560 : UInt64) = qdy := fun  hb_ => (cmp0 qcy tvN qep hb_)
                have qm5 : (qbH = (0 : Int32)) → qcw = qcx := fun  hb_ => (chR (c := 0) qcR (cmp0 qcy tvN qep hb_) qcS)
                have qm6 : (qbH = (0 : Int32)) → qZ = q0 := fun  hb_ => (chR (c := 0) qbK (chR (c := 0) qcR (cmp0 qcy tvN qep hb_) qcS) qbL)
                have qm7 : (qbH = (0 : Int32)) → qE = qF := fun  hb_ => (chL (c := 0) qb4 (chR (c := 0) qbK (chR (c := 0) qcR (cmp0 qcy tvN qep hb_) qcS) qbL) qb5)
                have qlz : (¬ qbH = (0 : Int32)) → (qcN = (0 : Int32)) → qcw = qcx := fun _ hb_ => (cmp0 qcB (Or.inr qcA) qet hb_)
                have qlA : (¬ qbH = (0 : Int32)) → (qcN = (0 : Int32)) → qZ = q0 := fun _ hb_ => (chR (c := 0) qbK (cmp0 qcB (Or.inr qcA) qet hb_) qbL)
                have qlB : (¬ qbH = (0 : Int32)) → (qcN = (0 : Int32)) → qE = qF := fun _ hb_ => (chL (c := 0) qb4 (chR (c := 0) qbK (cmp0 qcB (Or.inr qcA) qet hb_) qbL) qb5)
                have qku : (¬ qbH = (0 : Int32)) → (¬ qcN = (0 : Int32)) → (qdS = (0 : Int32)) → qZ = q0 := fun _ _ hb_ => (cmp0 qcZ (Or.inr qcY) qeK hb_)
                have qkv : (¬ qbH = (0 : Int32)) → (¬ qcN = (0 : Int32)) → (qdS = (0 : Int32)) → qE = qF := fun _ _ hb_ => (chL (c := 0) qb4 (cmp0 qcZ (Or.inr qcY) qeK hb_) qb5)
                have qiT : (¬ qbH = (0 : Int32)) → (¬ qcN = (0 : Int32)) → (¬ qdS = (0 : Int32)) → (qfS = (0 : Int32)) → qE = qF := fun _ _ _ hb_ => (cmp0 qfa (Or.inr qe9) qfw hb_)
                obtain ⟨cq64, kq64, q64a, q64b, q64c⟩ := isOf hZ rfl Q59_4
                obtain ⟨_, _, ⟨T64, L64, k64, n64⟩, -, X64, ⟨Lc64, hQ64, ql64, qy64, qz64⟩, st64⟩ := X59.virtualBack hx (y := (⟨MTc, "add", "(D)V"⟩ : MethodName)) (z := (⟨MTc, "add", "(D)V"⟩ : MethodName)) hown (mvT hZ (hwi hw 32 rfl)) (mvT hZ (hwi hw 33 rfl)) (notFace_of_selects (args := #[]) (mvT hZ (hwi hw 35 rfl))) (mvT hZ (hwi hw 35 rfl)) (mvT hZ (hwi hw 34 rfl)) (by decide) (backOf (W := 0) (rm7_7 l Z a0 hw [] b27 z116 qcm (9221120237041090560 : UInt64) qE qZ (9221120237041090560 : UInt64) qq qcw (9221120237041090560 : UInt64) (9221120237041090560 : UInt64) qs qbC qV (9221120237041090560 : UInt64) (9221120237041090560 : UInt64) (9221120237041090560 : UInt64) (9221120237041090560 : UInt64) (9221120237041090560 : UInt64) z25 z40 z55 z70 z85 z100 (9221120237041090560 : UInt64) (9221120237041090560 : UInt64) (9221120237041090560 : UInt64) (9221120237041090560 : UInt64) (9221120237041090560 : UInt64) (9221120237041090560 : UInt64) (9221120237041090560 : UInt64) (9221120237041090560 : UInt64) (9221120237041090560 : UInt64) (9221120237041090560 : UInt64) qb2 x59_x12_vx_visits_o0 qdy qkt qbH qcx qh4 qcN q0 qg6 qdS qF qjF qfS T59.heap n0 (Nat.le_trans (Nat.le_trans (Nat.le_trans (Nat.le_trans (Nat.le_trans (Nat.le_trans (Nat.le_trans (Nat.le_trans (Nat.le_trans (Nat.le_trans (Nat.le_trans (Nat.le_trans (Nat.le_trans (Nat.le_trans (Nat.le_trans (Nat.le_trans (Nat.le_trans Z0 E1.1) (Keep.of_wr W4).1) (Keep.of_wr W7).1) (Keep.of_wr W10).1) (Keep.of_wr W13).1) (Keep.of_wr W16).1) (Keep.of_wr W19).1) (Keep.of_wr W22).1) (Keep.of_wr W25).1) E27.1) K29q.1) K34q.1) K39q.1) K44q.1) K49q.1) K54q.1) K59q.1) Q59_5 ((Nat.ne_of_lt (Nat.lt_of_lt_of_le (A27).lt qv))) Q59_0 Q59_1 qeY Q59_2 Q59_3 Q59_4 gn27 qeR qnt qep qcS qmj qet qbL qkJ qeK qb5 qjt qfw qmv qmw qlg qlh qjG qjH qiz qiA qiT qkv qku qlB qlA qlz qm7 qm6 qm5 qmx) hZ (hwi hw 36 rfl) (hwi hw 4 rfl) (by decide) (by decide)) q64a q64c (g := (mkF m 261 #[vI p0, vJ q1, s_, vI p2, vI p3, vI z6, vR b1, vD z141, s_, vD z146, s_, vR b27, u_, u_] [(.double z116), (.ref b27)])) rfl (by rw [hml]; rfl) (Steps.refl _) (argsL := [(.double z116)]) (rest := []) (lenOf pd_8 rfl) rfl (by show 2 * 0 + _ ≤ _; exact Nat.le_of_eq rfl) (hb hby at_261) (fun _ _ => ⟨rfl, rfl, (by decide : 3 + 0 ≤ _), (by decide : 44 + 0 ≤ _)⟩)
                dsimp only [Pt.U, Pt.locs, Pt.cells, Pt.slots] at X64 ql64 qy64 qz64 st64 hQ64
                subst ql64 qy64 qz64
                obtain ⟨x64_x12_vx_visits_o0, rfl, N64q, K64q, Q64_0, Q64_1, Q64_2, Q64_3, Q64_4, Q64_5⟩ := hQ64
                have N64 := Fr.app N59 N64q
                have K65 : Keep h0 T64.heap [] := Keep.trans K60 K64q (allS (Or.inr gz27) (allS (Or.inr qeZ) all0))
                have c66 : ∀ t, Steps p.tables e below (T64.setTop (mkF m 268 #[vI p0, vJ q1, s_, vI p2, vI p3, vI z6, vR b1, vD z141, s_, vD z146, s_, vR b27, u_, u_] [(.int (7 : Int32)), (.int z6)])) t → Steps p.tables e below (s₁.setTop (entryFrame m #[(.int p0), (.long q1), (.int p2), (.int p3)] maxLocals)) t := by
                  intro t k
                  refine c61 t ?_
                  show Steps p.tables e below (T59.setTop (mkF m 251 #[vI p0, vJ q1, s_, vI p2, vI p3, vI z6, vR b1, vD z141, s_, vD z146, s_, vR b27, u_, u_] [(.int (6 : Int32)), (.int z6)])) _
                  refine XS.icmpNo X59.here hx rfl (hb hby at_251) rfl (Jvm.Free.XT.ii_le_f hb251) ?_
                  refine XS.aload X59.here hx rfl (hb hby at_254) rfl rfl ?_
                  refine XS.aload X59.here hx rfl (hb hby at_256) rfl rfl ?_
                  refine XS.bipush X59.here hx rfl (hb hby at_258) ?_
                  refine X59.daload hx (j := (6 : Int32)) (v := (.double z116)) Ar63.1 (State.isArrayOf_alike hZ.alike Ar63.2.1) Ar63.2.2 in63 (Has.at Ha63 in63 rfl) (g := (mkF m 260 #[vI p0, vJ q1, s_, vI p2, vI p3, vI z6, vR b1, vD z141, s_, vD z146, s_, vR b27, u_, u_] [(.int (6 : Int32)), (.ref b1), (.ref b27)])) rfl rfl (hb hby at_260) _ ?_
                  refine st64.trans ?_
                  show Steps p.tables e below (T64.setTop (mkF m 264 #[vI p0, vJ q1, s_, vI p2, vI p3, vI z6, vR b1, vD z141, s_, vD z146, s_, vR b27, u_, u_] [])) _
                  refine XS.iload X64.here hx rfl (hb hby at_264) rfl ?_
                  refine XS.bipush X64.here hx rfl (hb hby at_266) ?_
                  exact k
                by_cases hb268 : (7 : Int32) < z6
                · skip
                  obtain ⟨qd7, qeS⟩ : ∃ z : UInt64, mnf z116 z132 = z := ⟨_, rfl⟩
                  obtain ⟨qkw, qnu⟩ : ∃ z : Int64, x64_x12_vx_visits_o0 + (1 : Int64) = z := ⟨_, rfl⟩
                  obtain ⟨qbI, qeq⟩ : ∃ z : Int32, cmpf qd7 qdy = z := ⟨_, rfl⟩
                  obtain ⟨qdE, qdK⟩ : ∃ z : UInt64, mnf qV qd7 = z := ⟨_, rfl⟩
                  obtain ⟨qh5, qmk⟩ : ∃ z : Int64, qkw + (1 : Int64) = z := ⟨_, rfl⟩
                  obtain ⟨qcO, qeu⟩ : ∃ z : Int32, cmpf qdE qcx = z := ⟨_, rfl⟩
                  obtain ⟨qcl, qdi⟩ : ∃ z : UInt64, mnf qq qdE = z := ⟨_, rfl⟩
                  obtain ⟨qg7, qkK⟩ : ∃ z : Int64, qh5 + (1 : Int64) = z := ⟨_, rfl⟩
                  obtain ⟨qdT, qeL⟩ : ∃ z : Int32, cmpf qcl q0 = z := ⟨_, rfl⟩
                  obtain ⟨qbx, qdj⟩ : ∃ z : UInt64, mnf qcl (9221120237041090560 : UInt64) = z := ⟨_, rfl⟩
                  obtain ⟨qjI, qju⟩ : ∃ z : Int64, qg7 + (1 : Int64) = z := ⟨_, rfl⟩
                  obtain ⟨qfT, qfx⟩ : ∃ z : Int32, cmpf qbx qF = z := ⟨_, rfl⟩
                  obtain ⟨qh, qds⟩ : ∃ z : Int32, fbf qbx qq qs qV z25 z55 z85 z116 z141 = z := ⟨_, rfl⟩
                  obtain ⟨ql, qdt⟩ : ∃ z : Int32, fbf qbx qq qs qV z25 z55 z85 z116 z146 = z := ⟨_, rfl⟩
                  obtain ⟨qb9, qdu⟩ : ∃ z : Int32, rff z6 z25 z40 z55 z70 z85 z100 z116 z132 z141 = z := ⟨_, rfl⟩
                  obtain ⟨qca, qdv⟩ : ∃ z : Int32, rff z6 z25 z40 z55 z70 z85 z100 z116 z132 z146 = z := ⟨_, rfl⟩
                  have f67 := (f62.keep K64q (ninS (Nat.ne_of_lt (Nat.lt_of_lt_of_le (V25).lt (Nat.le_of_eq g27.symm))) (ninS (Nat.ne_of_lt (Nat.lt_of_lt_of_le ((V25.ext E27)).lt qv)) nin0)))
                  obtain ⟨cl68, Ar68, -, S68, -, Ha68, -⟩ := id f67
                  have in68 : ¬ ((7 : Int32) < 0 ∨ cl68.slots.size ≤ ((7 : Int32)).toNatClampNeg) := inb_of S68 ⟨by decide, by decide⟩
                  have qdF := nnR (Or.inr nn_z116) nn_z132 qeS
                  have qdB := nnR (Or.inr qbw) qdF qdK
                  have qdI := nnR (Or.inr qw) qdB qdi
                  have qhC := nnL qdI tvN qdj
                  have qmy : TV z116 := (Or.inr nn_z116)
                  have qmz : TV z132 := (Or.inr nn_z132)
                  have qli : (¬ qbI = (0 : Int32)) → TV qV := fun _ => (Or.inr qbw)
                  have qlj : (¬ qbI = (0 : Int32)) → TV qd7 := fun _ => (Or.inr qdF)
                  have qjJ : (¬ qbI = (0 : Int32)) → (¬ qcO = (0 : Int32)) → TV qq := fun _ _ => (Or.inr qw)
                  have qjK : (¬ qbI = (0 : Int32)) → (¬ qcO = (0 : Int32)) → TV qdE := fun _ _ => (Or.inr qdB)
                  have qiB : (¬ qbI = (0 : Int32)) → (¬ qcO = (0 : Int32)) → (¬ qdT = (0 : Int32)) → TV qcl := fun _ _ _ => (Or.inr qdI)
                  have qiC : (¬ qbI = (0 : Int32)) → (¬ qcO = (0 : Int32)) → (¬ qdT = (0 : Int32)) → TV (9221120237041090560 : UInt64) := fun _ _ _ => tvN
                  have qmA : (qbI = (0 : Int32)) → qdy = qd7 := fun  hb_ => (cmp0 qdF (Or.inr qcy) qeq hb_)
                  have qm8 : (qbI = (0 : Int32)) → qcx = qdE := fun  hb_ => (chR (c := 0) qcS (cmp0 qdF (Or.inr qcy) qeq hb_) qdK)
                  have qm9 : (qbI = (0 : Int32)) → q0 = qcl := fun  hb_ => (chR (c := 0) qbL (chR (c := 0) qcS (cmp0 qdF (Or.inr qcy) qeq hb_) qdK) qdi)
                  have qna : (qbI = (0 : Int32)) → qF = qbx := fun  hb_ => (chL (c := 0) qb5 (chR (c := 0) qbL (chR (c := 0) qcS (cmp0 qdF (Or.inr qcy) qeq hb_) qdK) qdi) qdj)
                  have qlC : (¬ qbI = (0 : Int32)) → (qcO = (0 : Int32)) → qcx = qdE := fun _ hb_ => (cmp0 qdB (Or.inr qcB) qeu hb_)
                  have qlD : (¬ qbI = (0 : Int32)) → (qcO = (0 : Int32)) → q0 = qcl := fun _ hb_ => (chR (c := 0) qbL (cmp0 qdB (Or.inr qcB) qeu hb_) qdi)
                  have qlE : (¬ qbI = (0 : Int32)) → (qcO = (0 : Int32)) → qF = qbx := fun _ hb_ => (chL (c := 0) qb5 (chR (c := 0) qbL (cmp0 qdB (Or.inr qcB) qeu hb_) qdi) qdj)
                  have qkx : (¬ qbI = (0 : Int32)) → (¬ qcO = (0 : Int32)) → (qdT = (0 : Int32)) → q0 = qcl := fun _ _ hb_ => (cmp0 qdI (Or.inr qcZ) qeL hb_)
                  have qky : (¬ qbI = (0 : Int32)) → (¬ qcO = (0 : Int32)) → (qdT = (0 : Int32)) → qF = qbx := fun _ _ hb_ => (chL (c := 0) qb5 (cmp0 qdI (Or.inr qcZ) qeL hb_) qdj)
                  have qiU : (¬ qbI = (0 : Int32)) → (¬ qcO = (0 : Int32)) → (¬ qdT = (0 : Int32)) → (qfT = (0 : Int32)) → qF = qbx := fun _ _ _ hb_ => (cmp0 qhC (Or.inr qfa) qfx hb_)
                  obtain ⟨cq69, kq69, q69a, q69b, q69c⟩ := isOf hZ rfl Q64_4
                  obtain ⟨_, _, ⟨T69, L69, k69, n69⟩, -, X69, ⟨Lc69, hQ69, ql69, qy69, qz69⟩, st69⟩ := X64.virtualBack hx (y := (⟨MTc, "add", "(D)V"⟩ : MethodName)) (z := (⟨MTc, "add", "(D)V"⟩ : MethodName)) hown (mvT hZ (hwi hw 32 rfl)) (mvT hZ (hwi hw 33 rfl)) (notFace_of_selects (args := #[]) (mvT hZ (hwi hw 35 rfl))) (mvT hZ (hwi hw 35 rfl)) (mvT hZ (hwi hw 34 rfl)) (by decide) (backOf (W := 0) (rm7_8 l Z a0 hw [] b27 z132 qcm (9221120237041090560 : UInt64) qF q0 (9221120237041090560 : UInt64) qq qcx (9221120237041090560 : UInt64) (9221120237041090560 : UInt64) qs qbC qV qdy (9221120237041090560 : UInt64) (9221120237041090560 : UInt64) (9221120237041090560 : UInt64) (9221120237041090560 : UInt64) z25 z40 z55 z70 z85 z100 z116 (9221120237041090560 : UInt64) (9221120237041090560 : UInt64) (9221120237041090560 : UInt64) (9221120237041090560 : UInt64) (9221120237041090560 : UInt64) (9221120237041090560 : UInt64) (9221120237041090560 : UInt64) (9221120237041090560 : UInt64) (9221120237041090560 : UInt64) qb2 x64_x12_vx_visits_o0 qd7 qkw qbI qdE qh5 qcO qcl qg7 qdT qbx qjI qfT T64.heap n0 (Nat.le_trans (Nat.le_trans (Nat.le_trans (Nat.le_trans (Nat.le_trans (Nat.le_trans (Nat.le_trans (Nat.le_trans (Nat.le_trans (Nat.le_trans (Nat.le_trans (Nat.le_trans (Nat.le_trans (Nat.le_trans (Nat.le_trans (Nat.le_trans (Nat.le_trans (Nat.le_trans Z0 E1.1) (Keep.of_wr W4).1) (Keep.of_wr W7).1) (Keep.of_wr W10).1) (Keep.of_wr W13).1) (Keep.of_wr W16).1) (Keep.of_wr W19).1) (Keep.of_wr W22).1) (Keep.of_wr W25).1) E27.1) K29q.1) K34q.1) K39q.1) K44q.1) K49q.1) K54q.1) K59q.1) K64q.1) Q64_5 ((Nat.ne_of_lt (Nat.lt_of_lt_of_le (A27).lt qv))) Q64_0 Q64_1 qeY Q64_2 Q64_3 Q64_4 gn27 qeS qnu qeq qdK qmk qeu qdi qkK qeL qdj qju qfx qmy qmz qli qlj qjJ qjK qiB qiC qiU qky qkx qlE qlD qlC qna qm9 qm8 qmA) hZ (hwi hw 36 rfl) (hwi hw 4 rfl) (by decide) (by decide)) q69a q69c (g := (mkF m 278 #[vI p0, vJ q1, s_, vI p2, vI p3, vI z6, vR b1, vD z141, s_, vD z146, s_, vR b27, u_, u_] [(.double z132), (.ref b27)])) rfl (by rw [hml]; rfl) (Steps.refl _) (argsL := [(.double z132)]) (rest := []) (lenOf pd_8 rfl) rfl (by show 2 * 0 + _ ≤ _; exact Nat.le_of_eq rfl) (hb hby at_278) (fun _ _ => ⟨rfl, rfl, (by decide : 3 + 0 ≤ _), (by decide : 44 + 0 ≤ _)⟩)
                  dsimp only [Pt.U, Pt.locs, Pt.cells, Pt.slots] at X69 ql69 qy69 qz69 st69 hQ69
                  subst ql69 qy69 qz69
                  obtain ⟨x69_x12_vx_visits_o0, rfl, N69q, K69q, Q69_0, Q69_1, Q69_2, Q69_3, Q69_4, Q69_5⟩ := hQ69
                  have N69 := Fr.app N64 N69q
                  have K70 : Keep h0 T69.heap [] := Keep.trans K65 K69q (allS (Or.inr gz27) (allS (Or.inr qeZ) all0))
                  have g285_1 := Gmn (Or.inr qdI) tvN nn_z141 qdj
                  have qej : (¬ (0 : Int32) < cmpValue (FP.dcmp qbx z141) .g) → ¬ (0 : Int32) < cmpValue (FP.dcmp qcl z141) .g := fun q q' => q (g285_1.mpr ⟨q', Gna _⟩)
                  obtain ⟨cq71, kq71, q71a, q71b, q71c⟩ := isOf hZ rfl Q69_4
                  obtain ⟨_, _, ⟨T71, L71, k71, n71⟩, -, X71, ⟨Lc71, hQ71, ql71, qy71, qz71⟩, st71⟩ := X69.virtualBack hx (y := (⟨MTc, "firstBy", "(D)I"⟩ : MethodName)) (z := (⟨MTc, "firstBy", "(D)I"⟩ : MethodName)) hown (mvT hZ (hwi hw 23 rfl)) (mvT hZ (hwi hw 24 rfl)) (notFace_of_selects (args := #[]) (mvT hZ (hwi hw 26 rfl))) (mvT hZ (hwi hw 26 rfl)) (mvT hZ (hwi hw 25 rfl)) (by decide) (backOf (W := 0) (rm5w l Z a0 hw [] b27 z141 qcm (9221120237041090560 : UInt64) qbx qcl (9221120237041090560 : UInt64) qq qdE (9221120237041090560 : UInt64) (9221120237041090560 : UInt64) qs qbC qV qd7 (9221120237041090560 : UInt64) (9221120237041090560 : UInt64) (9221120237041090560 : UInt64) (9221120237041090560 : UInt64) z25 z40 z55 z70 z85 z100 z116 z132 (9221120237041090560 : UInt64) (9221120237041090560 : UInt64) (9221120237041090560 : UInt64) (9221120237041090560 : UInt64) (9221120237041090560 : UInt64) (9221120237041090560 : UInt64) (9221120237041090560 : UInt64) (9221120237041090560 : UInt64) qb2 x69_x12_vx_visits_o0 qh T69.heap n0 (Nat.le_trans (Nat.le_trans (Nat.le_trans (Nat.le_trans (Nat.le_trans (Nat.le_trans (Nat.le_trans (Nat.le_trans (Nat.le_trans (Nat.le_trans (Nat.le_trans (Nat.le_trans (Nat.le_trans (Nat.le_trans (Nat.le_trans (Nat.le_trans (Nat.le_trans (Nat.le_trans (Nat.le_trans Z0 E1.1) (Keep.of_wr W4).1) (Keep.of_wr W7).1) (Keep.of_wr W10).1) (Keep.of_wr W13).1) (Keep.of_wr W16).1) (Keep.of_wr W19).1) (Keep.of_wr W22).1) (Keep.of_wr W25).1) E27.1) K29q.1) K34q.1) K39q.1) K44q.1) K49q.1) K54q.1) K59q.1) K64q.1) K69q.1) Q69_5 ((Nat.ne_of_lt (Nat.lt_of_lt_of_le (A27).lt qv))) Q69_0 Q69_3 Q69_1 Q69_4 gn27 qds qej) hZ (hwi hw 27 rfl) (hwi hw 4 rfl) (by decide) (by decide)) q71a q71c (g := (mkF m 285 #[vI p0, vJ q1, s_, vI p2, vI p3, vI z6, vR b1, vD z141, s_, vD z146, s_, vR b27, u_, u_] [(.double z141), (.ref b27)])) rfl (by rw [hml]; rfl) (Steps.refl _) (argsL := [(.double z141)]) (rest := []) (lenOf pd_9 rfl) rfl (by show 2 * 0 + _ ≤ _; exact Nat.le_of_eq rfl) (hb hby at_285) (fun _ _ => ⟨rfl, rfl, (by decide : 3 + 0 ≤ _), (by decide : 44 + 0 ≤ _)⟩)
                  dsimp only [Pt.U, Pt.locs, Pt.cells, Pt.slots] at X71 ql71 qy71 qz71 st71 hQ71
                  subst ql71 qy71 qz71
                  obtain ⟨qnW, rfl, N71q, K71q, Q71_0, Q71_1, Q71_2, Q71_3⟩ := hQ71
                  have N71 := Fr.app N69 N71q
                  have K72 : Keep h0 T71.heap [] := Keep.trans K70 K71q (allS (Or.inr gz27) all0)
                  have g294_1 := Gmn (Or.inr qdI) tvN nn_z146 qdj
                  have qek : (¬ (0 : Int32) < cmpValue (FP.dcmp qbx z146) .g) → ¬ (0 : Int32) < cmpValue (FP.dcmp qcl z146) .g := fun q q' => q (g294_1.mpr ⟨q', Gna _⟩)
                  have f73 := (Q69_5.keep K71q (ninS (Ne.symm (Nat.ne_of_lt (Nat.lt_of_lt_of_le (A27).lt qv))) nin0))
                  obtain ⟨cq74, kq74, q74a, q74b, q74c⟩ := isOf hZ rfl Q71_3
                  obtain ⟨_, _, ⟨T74, L74, k74, n74⟩, -, X74, ⟨Lc74, hQ74, ql74, qy74, qz74⟩, st74⟩ := X71.virtualBack hx (y := (⟨MTc, "firstBy", "(D)I"⟩ : MethodName)) (z := (⟨MTc, "firstBy", "(D)I"⟩ : MethodName)) hown (mvT hZ (hwi hw 23 rfl)) (mvT hZ (hwi hw 24 rfl)) (notFace_of_selects (args := #[]) (mvT hZ (hwi hw 26 rfl))) (mvT hZ (hwi hw 26 rfl)) (mvT hZ (hwi hw 25 rfl)) (by decide) (backOf (W := 0) (rm5w l Z a0 hw [] b27 z146 qcm (9221120237041090560 : UInt64) qbx qcl (9221120237041090560 : UInt64) qq qdE (9221120237041090560 : UInt64) (9221120237041090560 : UInt64) qs qbC qV qd7 (9221120237041090560 : UInt64) (9221120237041090560 : UInt64) (9221120237041090560 : UInt64) (9221120237041090560 : UInt64) z25 z40 z55 z70 z85 z100 z116 z132 (9221120237041090560 : UInt64) (9221120237041090560 : UInt64) (9221120237041090560 : UInt64) (9221120237041090560 : UInt64) (9221120237041090560 : UInt64) (9221120237041090560 : UInt64) (9221120237041090560 : UInt64) (9221120237041090560 : UInt64) qb2 qnW ql T71.heap n0 (Nat.le_trans (Nat.le_trans (Nat.le_trans (Nat.le_trans (Nat.le_trans (Nat.le_trans (Nat.le_trans (Nat.le_trans (Nat.le_trans (Nat.le_trans (Nat.le_trans (Nat.le_trans (Nat.le_trans (Nat.le_trans (Nat.le_trans (Nat.le_trans (Nat.le_trans (Nat.le_trans (Nat.le_trans (Nat.le_trans Z0 E1.1) (Keep.of_wr W4).1) (Keep.of_wr W7).1) (Keep.of_wr W10).1) (Keep.of_wr W13).1) (Keep.of_wr W16).1) (Keep.of_wr W19).1) (Keep.of_wr W22).1) (Keep.of_wr W25).1) E27.1) K29q.1) K34q.1) K39q.1) K44q.1) K49q.1) K54q.1) K59q.1) K64q.1) K69q.1) K71q.1) f73 ((Nat.ne_of_lt (Nat.lt_of_lt_of_le (A27).lt qv))) Q71_0 Q71_1 Q71_2 Q71_3 gn27 qdt qek) hZ (hwi hw 27 rfl) (hwi hw 4 rfl) (by decide) (by decide)) q74a q74c (g := (mkF m 294 #[vI p0, vJ q1, s_, vI p2, vI p3, vI z6, vR b1, vD z141, s_, vD z146, s_, vR b27, vI qh, u_] [(.double z146), (.ref b27)])) rfl (by rw [hml]; rfl) (Steps.refl _) (argsL := [(.double z146)]) (rest := []) (lenOf pd_9 rfl) rfl (by show 2 * 0 + _ ≤ _; exact Nat.le_of_eq rfl) (hb hby at_294) (fun _ _ => ⟨rfl, rfl, (by decide : 3 + 0 ≤ _), (by decide : 44 + 0 ≤ _)⟩)
                  dsimp only [Pt.U, Pt.locs, Pt.cells, Pt.slots] at X74 ql74 qy74 qz74 st74 hQ74
                  subst ql74 qy74 qz74
                  obtain ⟨qoo, rfl, N74q, K74q, Q74_0, Q74_1, Q74_2, Q74_3⟩ := hQ74
                  have N74 := Fr.app N71 N74q
                  have K75 : Keep h0 T74.heap [] := Keep.trans K72 K74q (allS (Or.inr gz27) all0)
                  have f76 := (((f67.keep K69q (ninS (Nat.ne_of_lt (Nat.lt_of_lt_of_le (V25).lt (Nat.le_of_eq g27.symm))) (ninS (Nat.ne_of_lt (Nat.lt_of_lt_of_le ((V25.ext E27)).lt qv)) nin0))).keep K71q (ninS (Nat.ne_of_lt (Nat.lt_of_lt_of_le (V25).lt (Nat.le_of_eq g27.symm))) nin0)).keep K74q (ninS (Nat.ne_of_lt (Nat.lt_of_lt_of_le (V25).lt (Nat.le_of_eq g27.symm))) nin0))
                  obtain ⟨_, _, ⟨T77, L77, k77, n77⟩, -, X77, ⟨Lc77, hQ77, ql77, qy77, qz77⟩, st77⟩ := Jvm.LawKit.callS X74 hx (y := (⟨"com/example/kinetic_fleet/kineticfleet/fleet/MachineTimesFirstByPinLaw", "ref", "([DID)I"⟩ : MethodName)) hown (mvT hZ (hwi hw 28 rfl)) (mvT hZ (hwi hw 29 rfl)) (mvT hZ (hwi hw 30 rfl)) (mvT hZ (hwi hw 31 rfl)) (by decide) (backOf (W := 1) (rm6w l Z a0 hw [] b1 z6 z141 k1 z25 z40 z55 z70 z85 z100 z116 z132 qb9 T74.heap n0 (Nat.le_trans (Nat.le_trans (Nat.le_trans (Nat.le_trans (Nat.le_trans (Nat.le_trans (Nat.le_trans (Nat.le_trans (Nat.le_trans (Nat.le_trans (Nat.le_trans (Nat.le_trans (Nat.le_trans (Nat.le_trans (Nat.le_trans (Nat.le_trans (Nat.le_trans (Nat.le_trans (Nat.le_trans (Nat.le_trans (Nat.le_trans Z0 E1.1) (Keep.of_wr W4).1) (Keep.of_wr W7).1) (Keep.of_wr W10).1) (Keep.of_wr W13).1) (Keep.of_wr W16).1) (Keep.of_wr W19).1) (Keep.of_wr W22).1) (Keep.of_wr W25).1) E27.1) K29q.1) K34q.1) K39q.1) K44q.1) K49q.1) K54q.1) K59q.1) K64q.1) K69q.1) K71q.1) K74q.1) f76 qdu) hZ (hwi hw 31 rfl) (hwi hw 30 rfl) (by decide) (by decide)) (g := (mkF m 307 #[vI p0, vJ q1, s_, vI p2, vI p3, vI z6, vR b1, vD z141, s_, vD z146, s_, vR b27, vI qh, vI ql] [(.double z141), (.int z6), (.ref b1), (.int qh)])) rfl (by rw [hml]; rfl) (argsL := [(.ref b1), (.int z6), (.double z141)]) (rest := [(.int qh)]) (lenOf pd_10 rfl) rfl (by show 2 * 0 + _ ≤ _; exact Nat.le_of_eq rfl) (hb hby at_307) (fun _ _ => ⟨rfl, rfl, (by decide : 3 + 0 ≤ _), (by decide : 44 + 0 ≤ _)⟩)
                  dsimp only [Pt.U, Pt.locs, Pt.cells, Pt.slots] at X77 ql77 qy77 qz77 st77 hQ77
                  subst ql77 qy77 qz77
                  obtain ⟨rfl, N77q, e77⟩ := hQ77
                  have N77 := Fr.app N74 N77q
                  have g285_8 := Gmn (Or.inr nn_z25) (Or.inr nn_z40) nn_z141 qbX
                  have g285_9 := Gmn (Or.inr nn_z55) (Or.inr nn_z70) nn_z141 qc0
                  have g285_10 := Gmn (Or.inr nn_z85) (Or.inr nn_z100) nn_z141 qdP
                  have g285_11 := Gmn (Or.inr nn_z116) (Or.inr nn_z132) nn_z141 qeS
                  have g285_4 := Gmn (Or.inr qI) (Or.inr qbD) nn_z141 qbE
                  have g285_5 := Gmn (Or.inr qbw) (Or.inr qdF) nn_z141 qdK
                  have g285_2 := Gmn (Or.inr qw) (Or.inr qdB) nn_z141 qdi
                  have A285 := g285_4.trans (and_congr g285_8 g285_9)
                  have R285 := (g285_1.trans (show _ ↔ _ from ⟨fun q => q.1, fun q => ⟨q, Gna _⟩⟩)).trans (g285_2.trans (and_congr A285 (g285_5.trans (and_congr g285_10 g285_11))))
                  have F285 := first8 g285_8 A285 g285_10 R285
                  have f285 : qh = (if (0 : Int32) < cmpValue (FP.dcmp z25 z141) .g then (if (0 : Int32) < cmpValue (FP.dcmp z40 z141) .g then (if (0 : Int32) < cmpValue (FP.dcmp z55 z141) .g then (if (0 : Int32) < cmpValue (FP.dcmp z70 z141) .g then (if (0 : Int32) < cmpValue (FP.dcmp z85 z141) .g then (if (0 : Int32) < cmpValue (FP.dcmp z100 z141) .g then (if (0 : Int32) < cmpValue (FP.dcmp z116 z141) .g then (if (0 : Int32) < cmpValue (FP.dcmp z132 z141) .g then (0 : Int32) else (8 : Int32)) else (7 : Int32)) else (6 : Int32)) else (5 : Int32)) else (4 : Int32)) else (3 : Int32)) else (2 : Int32)) else (1 : Int32)) := by
                    rw [← qds]; unfold fbf; rw [F285]
                  have e307 : qb9 = (if (0 : Int32) < cmpValue (FP.dcmp z25 z141) .g then (if (0 : Int32) < cmpValue (FP.dcmp z40 z141) .g then (if (0 : Int32) < cmpValue (FP.dcmp z55 z141) .g then (if (0 : Int32) < cmpValue (FP.dcmp z70 z141) .g then (if (0 : Int32) < cmpValue (FP.dcmp z85 z141) .g then (if (0 : Int32) < cmpValue (FP.dcmp z100 z141) .g then (if (0 : Int32) < cmpValue (FP.dcmp z116 z141) .g then (if (0 : Int32) < cmpValue (FP.dcmp z132 z141) .g then (0 : Int32) else (8 : Int32)) else (7 : Int32)) else (6 : Int32)) else (5 : Int32)) else (4 : Int32)) else (3 : Int32)) else (2 : Int32)) else (1 : Int32)) := by
                    rw [← qdu]; unfold rff
                    simp only [if_pos hb160, if_pos hb175, if_pos hb190, if_pos hb205, if_pos hb220, if_pos hb235, if_pos hb251, if_pos hb268]
                  have br310 : qh = qb9 := f285.trans e307.symm
                  obtain ⟨_, _, ⟨T78, L78, k78, n78⟩, -, X78, ⟨Lc78, hQ78, ql78, qy78, qz78⟩, st78⟩ := Jvm.LawKit.callS X77 hx (y := (⟨"com/example/kinetic_fleet/kineticfleet/fleet/MachineTimesFirstByPinLaw", "ref", "([DID)I"⟩ : MethodName)) hown (mvT hZ (hwi hw 28 rfl)) (mvT hZ (hwi hw 29 rfl)) (mvT hZ (hwi hw 30 rfl)) (mvT hZ (hwi hw 31 rfl)) (by decide) (backOf (W := 1) (rm6w l Z a0 hw [] b1 z6 z146 k1 z25 z40 z55 z70 z85 z100 z116 z132 qca T74.heap n0 (Nat.le_trans (Nat.le_trans (Nat.le_trans (Nat.le_trans (Nat.le_trans (Nat.le_trans (Nat.le_trans (Nat.le_trans (Nat.le_trans (Nat.le_trans (Nat.le_trans (Nat.le_trans (Nat.le_trans (Nat.le_trans (Nat.le_trans (Nat.le_trans (Nat.le_trans (Nat.le_trans (Nat.le_trans (Nat.le_trans (Nat.le_trans Z0 E1.1) (Keep.of_wr W4).1) (Keep.of_wr W7).1) (Keep.of_wr W10).1) (Keep.of_wr W13).1) (Keep.of_wr W16).1) (Keep.of_wr W19).1) (Keep.of_wr W22).1) (Keep.of_wr W25).1) E27.1) K29q.1) K34q.1) K39q.1) K44q.1) K49q.1) K54q.1) K59q.1) K64q.1) K69q.1) K71q.1) K74q.1) f76 qdv) hZ (hwi hw 31 rfl) (hwi hw 30 rfl) (by decide) (by decide)) (g := (mkF m 321 #[vI p0, vJ q1, s_, vI p2, vI p3, vI z6, vR b1, vD z141, s_, vD z146, s_, vR b27, vI qh, vI ql] [(.double z146), (.int z6), (.ref b1), (.int ql)])) rfl (by rw [hml]; rfl) (argsL := [(.ref b1), (.int z6), (.double z146)]) (rest := [(.int ql)]) (lenOf pd_10 rfl) rfl (by show 2 * 0 + _ ≤ _; exact Nat.le_of_eq rfl) (hb hby at_321) (fun _ _ => ⟨rfl, e77, (by decide : 3 + 0 ≤ _), (by decide : 44 + 0 ≤ _)⟩)
                  dsimp only [Pt.U, Pt.locs, Pt.cells, Pt.slots] at X78 ql78 qy78 qz78 st78 hQ78
                  subst ql78 qy78 qz78
                  obtain ⟨rfl, N78q, e78⟩ := hQ78
                  have N78 := Fr.app N77 N78q
                  have g294_8 := Gmn (Or.inr nn_z25) (Or.inr nn_z40) nn_z146 qbX
                  have g294_9 := Gmn (Or.inr nn_z55) (Or.inr nn_z70) nn_z146 qc0
                  have g294_10 := Gmn (Or.inr nn_z85) (Or.inr nn_z100) nn_z146 qdP
                  have g294_11 := Gmn (Or.inr nn_z116) (Or.inr nn_z132) nn_z146 qeS
                  have g294_4 := Gmn (Or.inr qI) (Or.inr qbD) nn_z146 qbE
                  have g294_5 := Gmn (Or.inr qbw) (Or.inr qdF) nn_z146 qdK
                  have g294_2 := Gmn (Or.inr qw) (Or.inr qdB) nn_z146 qdi
                  have A294 := g294_4.trans (and_congr g294_8 g294_9)
                  have R294 := (g294_1.trans (show _ ↔ _ from ⟨fun q => q.1, fun q => ⟨q, Gna _⟩⟩)).trans (g294_2.trans (and_congr A294 (g294_5.trans (and_congr g294_10 g294_11))))
                  have F294 := first8 g294_8 A294 g294_10 R294
                  have f294 : ql = (if (0 : Int32) < cmpValue (FP.dcmp z25 z146) .g then (if (0 : Int32) < cmpValue (FP.dcmp z40 z146) .g then (if (0 : Int32) < cmpValue (FP.dcmp z55 z146) .g then (if (0 : Int32) < cmpValue (FP.dcmp z70 z146) .g then (if (0 : Int32) < cmpValue (FP.dcmp z85 z146) .g then (if (0 : Int32) < cmpValue (FP.dcmp z100 z146) .g then (if (0 : Int32) < cmpValue (FP.dcmp z116 z146) .g then (if (0 : Int32) < cmpValue (FP.dcmp z132 z146) .g then (0 : Int32) else (8 : Int32)) else (7 : Int32)) else (6 : Int32)) else (5 : Int32)) else (4 : Int32)) else (3 : Int32)) else (2 : Int32)) else (1 : Int32)) := by
                    rw [← qdt]; unfold fbf; rw [F294]
                  have e321 : qca = (if (0 : Int32) < cmpValue (FP.dcmp z25 z146) .g then (if (0 : Int32) < cmpValue (FP.dcmp z40 z146) .g then (if (0 : Int32) < cmpValue (FP.dcmp z55 z146) .g then (if (0 : Int32) < cmpValue (FP.dcmp z70 z146) .g then (if (0 : Int32) < cmpValue (FP.dcmp z85 z146) .g then (if (0 : Int32) < cmpValue (FP.dcmp z100 z146) .g then (if (0 : Int32) < cmpValue (FP.dcmp z116 z146) .g then (if (0 : Int32) < cmpValue (FP.dcmp z132 z146) .g then (0 : Int32) else (8 : Int32)) else (7 : Int32)) else (6 : Int32)) else (5 : Int32)) else (4 : Int32)) else (3 : Int32)) else (2 : Int32)) else (1 : Int32)) := by
                    rw [← qdv]; unfold rff
                    simp only [if_pos hb160, if_pos hb175, if_pos hb190, if_pos hb205, if_pos hb220, if_pos hb235, if_pos hb251, if_pos hb268]
                  have br324 : ql = qca := f294.trans e321.symm
                  have c79 : ∀ t, Steps p.tables e below (T78.setTop (mkF m 332 #[vI p0, vJ q1, s_, vI p2, vI p3, vI z6, vR b1, vD z141, s_, vD z146, s_, vR b27, vI qh, vI ql] [(.int (1 : Int32))])) t → Steps p.tables e below (s₁.setTop (entryFrame m #[(.int p0), (.long q1), (.int p2), (.int p3)] maxLocals)) t := by
                    intro t k
                    refine c66 t ?_
                    show Steps p.tables e below (T64.setTop (mkF m 268 #[vI p0, vJ q1, s_, vI p2, vI p3, vI z6, vR b1, vD z141, s_, vD z146, s_, vR b27, u_, u_] [(.int (7 : Int32)), (.int z6)])) _
                    refine XS.icmpNo X64.here hx rfl (hb hby at_268) rfl (Jvm.Free.XT.ii_le_f hb268) ?_
                    refine XS.aload X64.here hx rfl (hb hby at_271) rfl rfl ?_
                    refine XS.aload X64.here hx rfl (hb hby at_273) rfl rfl ?_
                    refine XS.bipush X64.here hx rfl (hb hby at_275) ?_
                    refine X64.daload hx (j := (7 : Int32)) (v := (.double z132)) Ar68.1 (State.isArrayOf_alike hZ.alike Ar68.2.1) Ar68.2.2 in68 (Has.at Ha68 in68 rfl) (g := (mkF m 277 #[vI p0, vJ q1, s_, vI p2, vI p3, vI z6, vR b1, vD z141, s_, vD z146, s_, vR b27, u_, u_] [(.int (7 : Int32)), (.ref b1), (.ref b27)])) rfl rfl (hb hby at_277) _ ?_
                    refine st69.trans ?_
                    show Steps p.tables e below (T69.setTop (mkF m 281 #[vI p0, vJ q1, s_, vI p2, vI p3, vI z6, vR b1, vD z141, s_, vD z146, s_, vR b27, u_, u_] [])) _
                    refine XS.aload X69.here hx rfl (hb hby at_281) rfl rfl ?_
                    refine XS.dload X69.here hx rfl (hb hby at_283) rfl ?_
                    refine st71.trans ?_
                    show Steps p.tables e below (T71.setTop (mkF m 288 #[vI p0, vJ q1, s_, vI p2, vI p3, vI z6, vR b1, vD z141, s_, vD z146, s_, vR b27, u_, u_] [(.int qh)])) _
                    refine XS.istore X71.here hx rfl (hb hby at_288) rfl (l' := #[vI p0, vJ q1, s_, vI p2, vI p3, vI z6, vR b1, vD z141, s_, vD z146, s_, vR b27, vI qh, u_]) rfl ?_
                    refine XS.aload X71.here hx rfl (hb hby at_290) rfl rfl ?_
                    refine XS.dload X71.here hx rfl (hb hby at_292) rfl ?_
                    refine st74.trans ?_
                    show Steps p.tables e below (T74.setTop (mkF m 297 #[vI p0, vJ q1, s_, vI p2, vI p3, vI z6, vR b1, vD z141, s_, vD z146, s_, vR b27, vI qh, u_] [(.int ql)])) _
                    refine XS.istore X74.here hx rfl (hb hby at_297) rfl (l' := #[vI p0, vJ q1, s_, vI p2, vI p3, vI z6, vR b1, vD z141, s_, vD z146, s_, vR b27, vI qh, vI ql]) rfl ?_
                    refine XS.iload X74.here hx rfl (hb hby at_299) rfl ?_
                    refine XS.aload X74.here hx rfl (hb hby at_301) rfl rfl ?_
                    refine XS.iload X74.here hx rfl (hb hby at_303) rfl ?_
                    refine XS.dload X74.here hx rfl (hb hby at_305) rfl ?_
                    refine st77 _ ?_
                    show Steps p.tables e below (T77.setTop (mkF m 310 #[vI p0, vJ q1, s_, vI p2, vI p3, vI z6, vR b1, vD z141, s_, vD z146, s_, vR b27, vI qh, vI ql] [(.int qb9), (.int qh)])) _
                    refine XS.icmpNo X77.here hx rfl (hb hby at_310) rfl (Jvm.Free.XT.ii_ne_f br310) ?_
                    refine XS.iload X77.here hx rfl (hb hby at_313) rfl ?_
                    refine XS.aload X77.here hx rfl (hb hby at_315) rfl rfl ?_
                    refine XS.iload X77.here hx rfl (hb hby at_317) rfl ?_
                    refine XS.dload X77.here hx rfl (hb hby at_319) rfl ?_
                    refine st78 _ ?_
                    show Steps p.tables e below (T78.setTop (mkF m 324 #[vI p0, vJ q1, s_, vI p2, vI p3, vI z6, vR b1, vD z141, s_, vD z146, s_, vR b27, vI qh, vI ql] [(.int qca), (.int ql)])) _
                    refine XS.icmpNo X78.here hx rfl (hb hby at_324) rfl (Jvm.Free.XT.ii_ne_f br324) ?_
                    refine XS.iconst X78.here hx rfl (hb hby at_327) ?_
                    refine XS.goto X78.here hx rfl (pc0 := 328) (pc' := 332) rfl (hb hby at_328) (by decide) (by decide) ?_
                    exact k
                  obtain ⟨fs, hr, hrun, hended, hW, hsame⟩ := X78.leave (v := some (.int (1 : Int32))) (fun h => by rw [Bd.returns] at h; cases h)
                  refine ⟨_, _, c79 _ ?_, hrun, hended, _, _, rfl, ?_, ⟨_, rfl⟩, hW, hsame.mono (by decide) (by decide)⟩
                  · show Steps p.tables e below (T78.setTop (mkF m 332 #[vI p0, vJ q1, s_, vI p2, vI p3, vI z6, vR b1, vD z141, s_, vD z146, s_, vR b27, vI qh, vI ql] [(.int (1 : Int32))])) _
                    exact retOut X78 hx Bd.returns rfl (Or.inl ⟨rfl, by simp, _, rfl⟩) (hb hby at_332) hr
                  · show Q0 n0 _ T78.heap _
                    rw [e78]
                    exact ⟨rfl, by first | assumption | exact N0⟩
                · skip
                  obtain ⟨qh, qds⟩ : ∃ z : Int32, fbf qF qq qs qV z25 z55 z85 z116 z141 = z := ⟨_, rfl⟩
                  obtain ⟨ql, qdt⟩ : ∃ z : Int32, fbf qF qq qs qV z25 z55 z85 z116 z146 = z := ⟨_, rfl⟩
                  obtain ⟨qb9, qdu⟩ : ∃ z : Int32, rff z6 z25 z40 z55 z70 z85 z100 z116 z132 z141 = z := ⟨_, rfl⟩
                  obtain ⟨qca, qdv⟩ : ∃ z : Int32, rff z6 z25 z40 z55 z70 z85 z100 z116 z132 z146 = z := ⟨_, rfl⟩
                  have g285_1 := Gmn (Or.inr qcZ) tvN nn_z141 qb5
                  have qej : (¬ (0 : Int32) < cmpValue (FP.dcmp qF z141) .g) → ¬ (0 : Int32) < cmpValue (FP.dcmp q0 z141) .g := fun q q' => q (g285_1.mpr ⟨q', Gna _⟩)
                  obtain ⟨cq80, kq80, q80a, q80b, q80c⟩ := isOf hZ rfl Q64_4
                  obtain ⟨_, _, ⟨T80, L80, k80, n80⟩, -, X80, ⟨Lc80, hQ80, ql80, qy80, qz80⟩, st80⟩ := X64.virtualBack hx (y := (⟨MTc, "firstBy", "(D)I"⟩ : MethodName)) (z := (⟨MTc, "firstBy", "(D)I"⟩ : MethodName)) hown (mvT hZ (hwi hw 23 rfl)) (mvT hZ (hwi hw 24 rfl)) (notFace_of_selects (args := #[]) (mvT hZ (hwi hw 26 rfl))) (mvT hZ (hwi hw 26 rfl)) (mvT hZ (hwi hw 25 rfl)) (by decide) (backOf (W := 0) (rm5w l Z a0 hw [] b27 z141 qcm (9221120237041090560 : UInt64) qF q0 (9221120237041090560 : UInt64) qq qcx (9221120237041090560 : UInt64) (9221120237041090560 : UInt64) qs qbC qV qdy (9221120237041090560 : UInt64) (9221120237041090560 : UInt64) (9221120237041090560 : UInt64) (9221120237041090560 : UInt64) z25 z40 z55 z70 z85 z100 z116 (9221120237041090560 : UInt64) (9221120237041090560 : UInt64) (9221120237041090560 : UInt64) (9221120237041090560 : UInt64) (9221120237041090560 : UInt64) (9221120237041090560 : UInt64) (9221120237041090560 : UInt64) (9221120237041090560 : UInt64) (9221120237041090560 : UInt64) qb2 x64_x12_vx_visits_o0 qh T64.heap n0 (Nat.le_trans (Nat.le_trans (Nat.le_trans (Nat.le_trans (Nat.le_trans (Nat.le_trans (Nat.le_trans (Nat.le_trans (Nat.le_trans (Nat.le_trans (Nat.le_trans (Nat.le_trans (Nat.le_trans (Nat.le_trans (Nat.le_trans (Nat.le_trans (Nat.le_trans (Nat.le_trans Z0 E1.1) (Keep.of_wr W4).1) (Keep.of_wr W7).1) (Keep.of_wr W10).1) (Keep.of_wr W13).1) (Keep.of_wr W16).1) (Keep.of_wr W19).1) (Keep.of_wr W22).1) (Keep.of_wr W25).1) E27.1) K29q.1) K34q.1) K39q.1) K44q.1) K49q.1) K54q.1) K59q.1) K64q.1) Q64_5 ((Nat.ne_of_lt (Nat.lt_of_lt_of_le (A27).lt qv))) Q64_0 Q64_3 Q64_1 Q64_4 gn27 qds qej) hZ (hwi hw 27 rfl) (hwi hw 4 rfl) (by decide) (by decide)) q80a q80c (g := (mkF m 285 #[vI p0, vJ q1, s_, vI p2, vI p3, vI z6, vR b1, vD z141, s_, vD z146, s_, vR b27, u_, u_] [(.double z141), (.ref b27)])) rfl (by rw [hml]; rfl) (Steps.refl _) (argsL := [(.double z141)]) (rest := []) (lenOf pd_9 rfl) rfl (by show 2 * 0 + _ ≤ _; exact Nat.le_of_eq rfl) (hb hby at_285) (fun _ _ => ⟨rfl, rfl, (by decide : 3 + 0 ≤ _), (by decide : 44 + 0 ≤ _)⟩)
                  dsimp only [Pt.U, Pt.locs, Pt.cells, Pt.slots] at X80 ql80 qy80 qz80 st80 hQ80
                  subst ql80 qy80 qz80
                  obtain ⟨qnX, rfl, N80q, K80q, Q80_0, Q80_1, Q80_2, Q80_3⟩ := hQ80
                  have N80 := Fr.app N64 N80q
                  have K81 : Keep h0 T80.heap [] := Keep.trans K65 K80q (allS (Or.inr gz27) all0)
                  have g294_1 := Gmn (Or.inr qcZ) tvN nn_z146 qb5
                  have qek : (¬ (0 : Int32) < cmpValue (FP.dcmp qF z146) .g) → ¬ (0 : Int32) < cmpValue (FP.dcmp q0 z146) .g := fun q q' => q (g294_1.mpr ⟨q', Gna _⟩)
                  have f82 := (Q64_5.keep K80q (ninS (Ne.symm (Nat.ne_of_lt (Nat.lt_of_lt_of_le (A27).lt qv))) nin0))
                  obtain ⟨cq83, kq83, q83a, q83b, q83c⟩ := isOf hZ rfl Q80_3
                  obtain ⟨_, _, ⟨T83, L83, k83, n83⟩, -, X83, ⟨Lc83, hQ83, ql83, qy83, qz83⟩, st83⟩ := X80.virtualBack hx (y := (⟨MTc, "firstBy", "(D)I"⟩ : MethodName)) (z := (⟨MTc, "firstBy", "(D)I"⟩ : MethodName)) hown (mvT hZ (hwi hw 23 rfl)) (mvT hZ (hwi hw 24 rfl)) (notFace_of_selects (args := #[]) (mvT hZ (hwi hw 26 rfl))) (mvT hZ (hwi hw 26 rfl)) (mvT hZ (hwi hw 25 rfl)) (by decide) (backOf (W := 0) (rm5w l Z a0 hw [] b27 z146 qcm (9221120237041090560 : UInt64) qF q0 (9221120237041090560 : UInt64) qq qcx (9221120237041090560 : UInt64) (9221120237041090560 : UInt64) qs qbC qV qdy (9221120237041090560 : UInt64) (9221120237041090560 : UInt64) (9221120237041090560 : UInt64) (9221120237041090560 : UInt64) z25 z40 z55 z70 z85 z100 z116 (9221120237041090560 : UInt64) (9221120237041090560 : UInt64) (9221120237041090560 : UInt64) (9221120237041090560 : UInt64) (9221120237041090560 : UInt64) (9221120237041090560 : UInt64) (9221120237041090560 : UInt64) (9221120237041090560 : UInt64) (9221120237041090560 : UInt64) qb2 qnX ql T80.heap n0 (Nat.le_trans (Nat.le_trans (Nat.le_trans (Nat.le_trans (Nat.le_trans (Nat.le_trans (Nat.le_trans (Nat.le_trans (Nat.le_trans (Nat.le_trans (Nat.le_trans (Nat.le_trans (Nat.le_trans (Nat.le_trans (Nat.le_trans (Nat.le_trans (Nat.le_trans (Nat.le_trans (Nat.le_trans Z0 E1.1) (Keep.of_wr W4).1) (Keep.of_wr W7).1) (Keep.of_wr W10).1) (Keep.of_wr W13).1) (Keep.of_wr W16).1) (Keep.of_wr W19).1) (Keep.of_wr W22).1) (Keep.of_wr W25).1) E27.1) K29q.1) K34q.1) K39q.1) K44q.1) K49q.1) K54q.1) K59q.1) K64q.1) K80q.1) f82 ((Nat.ne_of_lt (Nat.lt_of_lt_of_le (A27).lt qv))) Q80_0 Q80_1 Q80_2 Q80_3 gn27 qdt qek) hZ (hwi hw 27 rfl) (hwi hw 4 rfl) (by decide) (by decide)) q83a q83c (g := (mkF m 294 #[vI p0, vJ q1, s_, vI p2, vI p3, vI z6, vR b1, vD z141, s_, vD z146, s_, vR b27, vI qh, u_] [(.double z146), (.ref b27)])) rfl (by rw [hml]; rfl) (Steps.refl _) (argsL := [(.double z146)]) (rest := []) (lenOf pd_9 rfl) rfl (by show 2 * 0 + _ ≤ _; exact Nat.le_of_eq rfl) (hb hby at_294) (fun _ _ => ⟨rfl, rfl, (by decide : 3 + 0 ≤ _), (by decide : 44 + 0 ≤ _)⟩)
                  dsimp only [Pt.U, Pt.locs, Pt.cells, Pt.slots] at X83 ql83 qy83 qz83 st83 hQ83
                  subst ql83 qy83 qz83
                  obtain ⟨qop, rfl, N83q, K83q, Q83_0, Q83_1, Q83_2, Q83_3⟩ := hQ83
                  have N83 := Fr.app N80 N83q
                  have K84 : Keep h0 T83.heap [] := Keep.trans K81 K83q (allS (Or.inr gz27) all0)
                  have f85 := (((f62.keep K64q (ninS (Nat.ne_of_lt (Nat.lt_of_lt_of_le (V25).lt (Nat.le_of_eq g27.symm))) (ninS (Nat.ne_of_lt (Nat.lt_of_lt_of_le ((V25.ext E27)).lt qv)) nin0))).keep K80q (ninS (Nat.ne_of_lt (Nat.lt_of_lt_of_le (V25).lt (Nat.le_of_eq g27.symm))) nin0)).keep K83q (ninS (Nat.ne_of_lt (Nat.lt_of_lt_of_le (V25).lt (Nat.le_of_eq g27.symm))) nin0))
                  obtain ⟨_, _, ⟨T86, L86, k86, n86⟩, -, X86, ⟨Lc86, hQ86, ql86, qy86, qz86⟩, st86⟩ := Jvm.LawKit.callS X83 hx (y := (⟨"com/example/kinetic_fleet/kineticfleet/fleet/MachineTimesFirstByPinLaw", "ref", "([DID)I"⟩ : MethodName)) hown (mvT hZ (hwi hw 28 rfl)) (mvT hZ (hwi hw 29 rfl)) (mvT hZ (hwi hw 30 rfl)) (mvT hZ (hwi hw 31 rfl)) (by decide) (backOf (W := 1) (rm6w l Z a0 hw [] b1 z6 z141 k1 z25 z40 z55 z70 z85 z100 z116 z132 qb9 T83.heap n0 (Nat.le_trans (Nat.le_trans (Nat.le_trans (Nat.le_trans (Nat.le_trans (Nat.le_trans (Nat.le_trans (Nat.le_trans (Nat.le_trans (Nat.le_trans (Nat.le_trans (Nat.le_trans (Nat.le_trans (Nat.le_trans (Nat.le_trans (Nat.le_trans (Nat.le_trans (Nat.le_trans (Nat.le_trans (Nat.le_trans Z0 E1.1) (Keep.of_wr W4).1) (Keep.of_wr W7).1) (Keep.of_wr W10).1) (Keep.of_wr W13).1) (Keep.of_wr W16).1) (Keep.of_wr W19).1) (Keep.of_wr W22).1) (Keep.of_wr W25).1) E27.1) K29q.1) K34q.1) K39q.1) K44q.1) K49q.1) K54q.1) K59q.1) K64q.1) K80q.1) K83q.1) f85 qdu) hZ (hwi hw 31 rfl) (hwi hw 30 rfl) (by decide) (by decide)) (g := (mkF m 307 #[vI p0, vJ q1, s_, vI p2, vI p3, vI z6, vR b1, vD z141, s_, vD z146, s_, vR b27, vI qh, vI ql] [(.double z141), (.int z6), (.ref b1), (.int qh)])) rfl (by rw [hml]; rfl) (argsL := [(.ref b1), (.int z6), (.double z141)]) (rest := [(.int qh)]) (lenOf pd_10 rfl) rfl (by show 2 * 0 + _ ≤ _; exact Nat.le_of_eq rfl) (hb hby at_307) (fun _ _ => ⟨rfl, rfl, (by decide : 3 + 0 ≤ _), (by decide : 44 + 0 ≤ _)⟩)
                  dsimp only [Pt.U, Pt.locs, Pt.cells, Pt.slots] at X86 ql86 qy86 qz86 st86 hQ86
                  subst ql86 qy86 qz86
                  obtain ⟨rfl, N86q, e86⟩ := hQ86
                  have N86 := Fr.app N83 N86q
                  have g285_8 := Gmn (Or.inr nn_z25) (Or.inr nn_z40) nn_z141 qbX
                  have g285_9 := Gmn (Or.inr nn_z55) (Or.inr nn_z70) nn_z141 qc0
                  have g285_10 := Gmn (Or.inr nn_z85) (Or.inr nn_z100) nn_z141 qdP
                  have g285_11 := Gmn (Or.inr nn_z116) tvN nn_z141 qeR
                  have g285_4 := Gmn (Or.inr qI) (Or.inr qbD) nn_z141 qbE
                  have g285_5 := Gmn (Or.inr qbw) (Or.inr qcy) nn_z141 qcS
                  have g285_2 := Gmn (Or.inr qw) (Or.inr qcB) nn_z141 qbL
                  have A285 := g285_4.trans (and_congr g285_8 g285_9)
                  have R285 := (g285_1.trans (show _ ↔ _ from ⟨fun q => q.1, fun q => ⟨q, Gna _⟩⟩)).trans (g285_2.trans (and_congr A285 (g285_5.trans (and_congr g285_10 g285_11))))
                  have F285 := first8 g285_8 A285 g285_10 R285
                  have f285 : qh = (if (0 : Int32) < cmpValue (FP.dcmp z25 z141) .g then (if (0 : Int32) < cmpValue (FP.dcmp z40 z141) .g then (if (0 : Int32) < cmpValue (FP.dcmp z55 z141) .g then (if (0 : Int32) < cmpValue (FP.dcmp z70 z141) .g then (if (0 : Int32) < cmpValue (FP.dcmp z85 z141) .g then (if (0 : Int32) < cmpValue (FP.dcmp z100 z141) .g then (if (0 : Int32) < cmpValue (FP.dcmp z116 z141) .g then (0 : Int32) else (7 : Int32)) else (6 : Int32)) else (5 : Int32)) else (4 : Int32)) else (3 : Int32)) else (2 : Int32)) else (1 : Int32)) := by
                    rw [← qds]; unfold fbf; rw [F285]
                    simp only [if_pos (Gna z141)]
                  have e307 : qb9 = (if (0 : Int32) < cmpValue (FP.dcmp z25 z141) .g then (if (0 : Int32) < cmpValue (FP.dcmp z40 z141) .g then (if (0 : Int32) < cmpValue (FP.dcmp z55 z141) .g then (if (0 : Int32) < cmpValue (FP.dcmp z70 z141) .g then (if (0 : Int32) < cmpValue (FP.dcmp z85 z141) .g then (if (0 : Int32) < cmpValue (FP.dcmp z100 z141) .g then (if (0 : Int32) < cmpValue (FP.dcmp z116 z141) .g then (0 : Int32) else (7 : Int32)) else (6 : Int32)) else (5 : Int32)) else (4 : Int32)) else (3 : Int32)) else (2 : Int32)) else (1 : Int32)) := by
                    rw [← qdu]; unfold rff
                    simp only [if_pos hb160, if_pos hb175, if_pos hb190, if_pos hb205, if_pos hb220, if_pos hb235, if_pos hb251, if_neg hb268]
                  have br310 : qh = qb9 := f285.trans e307.symm
                  obtain ⟨_, _, ⟨T87, L87, k87, n87⟩, -, X87, ⟨Lc87, hQ87, ql87, qy87, qz87⟩, st87⟩ := Jvm.LawKit.callS X86 hx (y := (⟨"com/example/kinetic_fleet/kineticfleet/fleet/MachineTimesFirstByPinLaw", "ref", "([DID)I"⟩ : MethodName)) hown (mvT hZ (hwi hw 28 rfl)) (mvT hZ (hwi hw 29 rfl)) (mvT hZ (hwi hw 30 rfl)) (mvT hZ (hwi hw 31 rfl)) (by decide) (backOf (W := 1) (rm6w l Z a0 hw [] b1 z6 z146 k1 z25 z40 z55 z70 z85 z100 z116 z132 qca T83.heap n0 (Nat.le_trans (Nat.le_trans (Nat.le_trans (Nat.le_trans (Nat.le_trans (Nat.le_trans (Nat.le_trans (Nat.le_trans (Nat.le_trans (Nat.le_trans (Nat.le_trans (Nat.le_trans (Nat.le_trans (Nat.le_trans (Nat.le_trans (Nat.le_trans (Nat.le_trans (Nat.le_trans (Nat.le_trans (Nat.le_trans Z0 E1.1) (Keep.of_wr W4).1) (Keep.of_wr W7).1) (Keep.of_wr W10).1) (Keep.of_wr W13).1) (Keep.of_wr W16).1) (Keep.of_wr W19).1) (Keep.of_wr W22).1) (Keep.of_wr W25).1) E27.1) K29q.1) K34q.1) K39q.1) K44q.1) K49q.1) K54q.1) K59q.1) K64q.1) K80q.1) K83q.1) f85 qdv) hZ (hwi hw 31 rfl) (hwi hw 30 rfl) (by decide) (by decide)) (g := (mkF m 321 #[vI p0, vJ q1, s_, vI p2, vI p3, vI z6, vR b1, vD z141, s_, vD z146, s_, vR b27, vI qh, vI ql] [(.double z146), (.int z6), (.ref b1), (.int ql)])) rfl (by rw [hml]; rfl) (argsL := [(.ref b1), (.int z6), (.double z146)]) (rest := [(.int ql)]) (lenOf pd_10 rfl) rfl (by show 2 * 0 + _ ≤ _; exact Nat.le_of_eq rfl) (hb hby at_321) (fun _ _ => ⟨rfl, e86, (by decide : 3 + 0 ≤ _), (by decide : 44 + 0 ≤ _)⟩)
                  dsimp only [Pt.U, Pt.locs, Pt.cells, Pt.slots] at X87 ql87 qy87 qz87 st87 hQ87
                  subst ql87 qy87 qz87
                  obtain ⟨rfl, N87q, e87⟩ := hQ87
                  have N87 := Fr.app N86 N87q
                  have g294_8 := Gmn (Or.inr nn_z25) (Or.inr nn_z40) nn_z146 qbX
                  have g294_9 := Gmn (Or.inr nn_z55) (Or.inr nn_z70) nn_z146 qc0
                  have g294_10 := Gmn (Or.inr nn_z85) (Or.inr nn_z100) nn_z146 qdP
                  have g294_11 := Gmn (Or.inr nn_z116) tvN nn_z146 qeR
                  have g294_4 := Gmn (Or.inr qI) (Or.inr qbD) nn_z146 qbE
                  have g294_5 := Gmn (Or.inr qbw) (Or.inr qcy) nn_z146 qcS
                  have g294_2 := Gmn (Or.inr qw) (Or.inr qcB) nn_z146 qbL
                  have A294 := g294_4.trans (and_congr g294_8 g294_9)
                  have R294 := (g294_1.trans (show _ ↔ _ from ⟨fun q => q.1, fun q => ⟨q, Gna _⟩⟩)).trans (g294_2.trans (and_congr A294 (g294_5.trans (and_congr g294_10 g294_11))))
                  have F294 := first8 g294_8 A294 g294_10 R294
                  have f294 : ql = (if (0 : Int32) < cmpValue (FP.dcmp z25 z146) .g then (if (0 : Int32) < cmpValue (FP.dcmp z40 z146) .g then (if (0 : Int32) < cmpValue (FP.dcmp z55 z146) .g then (if (0 : Int32) < cmpValue (FP.dcmp z70 z146) .g then (if (0 : Int32) < cmpValue (FP.dcmp z85 z146) .g then (if (0 : Int32) < cmpValue (FP.dcmp z100 z146) .g then (if (0 : Int32) < cmpValue (FP.dcmp z116 z146) .g then (0 : Int32) else (7 : Int32)) else (6 : Int32)) else (5 : Int32)) else (4 : Int32)) else (3 : Int32)) else (2 : Int32)) else (1 : Int32)) := by
                    rw [← qdt]; unfold fbf; rw [F294]
                    simp only [if_pos (Gna z146)]
                  have e321 : qca = (if (0 : Int32) < cmpValue (FP.dcmp z25 z146) .g then (if (0 : Int32) < cmpValue (FP.dcmp z40 z146) .g then (if (0 : Int32) < cmpValue (FP.dcmp z55 z146) .g then (if (0 : Int32) < cmpValue (FP.dcmp z70 z146) .g then (if (0 : Int32) < cmpValue (FP.dcmp z85 z146) .g then (if (0 : Int32) < cmpValue (FP.dcmp z100 z146) .g then (if (0 : Int32) < cmpValue (FP.dcmp z116 z146) .g then (0 : Int32) else (7 : Int32)) else (6 : Int32)) else (5 : Int32)) else (4 : Int32)) else (3 : Int32)) else (2 : Int32)) else (1 : Int32)) := by
                    rw [← qdv]; unfold rff
                    simp only [if_pos hb160, if_pos hb175, if_pos hb190, if_pos hb205, if_pos hb220, if_pos hb235, if_pos hb251, if_neg hb268]
                  have br324 : ql = qca := f294.trans e321.symm
                  have c88 : ∀ t, Steps p.tables e below (T87.setTop (mkF m 332 #[vI p0, vJ q1, s_, vI p2, vI p3, vI z6, vR b1, vD z141, s_, vD z146, s_, vR b27, vI qh, vI ql] [(.int (1 : Int32))])) t → Steps p.tables e below (s₁.setTop (entryFrame m #[(.int p0), (.long q1), (.int p2), (.int p3)] maxLocals)) t := by
                    intro t k
                    refine c66 t ?_
                    show Steps p.tables e below (T64.setTop (mkF m 268 #[vI p0, vJ q1, s_, vI p2, vI p3, vI z6, vR b1, vD z141, s_, vD z146, s_, vR b27, u_, u_] [(.int (7 : Int32)), (.int z6)])) _
                    refine XS.icmpYes X64.here hx rfl (pc0 := 268) (pc' := 281) rfl (hb hby at_268) rfl (Jvm.Free.XT.ii_le_t hb268) (by decide) (by decide) ?_
                    refine XS.aload X64.here hx rfl (hb hby at_281) rfl rfl ?_
                    refine XS.dload X64.here hx rfl (hb hby at_283) rfl ?_
                    refine st80.trans ?_
                    show Steps p.tables e below (T80.setTop (mkF m 288 #[vI p0, vJ q1, s_, vI p2, vI p3, vI z6, vR b1, vD z141, s_, vD z146, s_, vR b27, u_, u_] [(.int qh)])) _
                    refine XS.istore X80.here hx rfl (hb hby at_288) rfl (l' := #[vI p0, vJ q1, s_, vI p2, vI p3, vI z6, vR b1, vD z141, s_, vD z146, s_, vR b27, vI qh, u_]) rfl ?_
                    refine XS.aload X80.here hx rfl (hb hby at_290) rfl rfl ?_
                    refine XS.dload X80.here hx rfl (hb hby at_292) rfl ?_
                    refine st83.trans ?_
                    show Steps p.tables e below (T83.setTop (mkF m 297 #[vI p0, vJ q1, s_, vI p2, vI p3, vI z6, vR b1, vD z141, s_, vD z146, s_, vR b27, vI qh, u_] [(.int ql)])) _
                    refine XS.istore X83.here hx rfl (hb hby at_297) rfl (l' := #[vI p0, vJ q1, s_, vI p2, vI p3, vI z6, vR b1, vD z141, s_, vD z146, s_, vR b27, vI qh, vI ql]) rfl ?_
                    refine XS.iload X83.here hx rfl (hb hby at_299) rfl ?_
                    refine XS.aload X83.here hx rfl (hb hby at_301) rfl rfl ?_
                    refine XS.iload X83.here hx rfl (hb hby at_303) rfl ?_
                    refine XS.dload X83.here hx rfl (hb hby at_305) rfl ?_
                    refine st86 _ ?_
                    show Steps p.tables e below (T86.setTop (mkF m 310 #[vI p0, vJ q1, s_, vI p2, vI p3, vI z6, vR b1, vD z141, s_, vD z146, s_, vR b27, vI qh, vI ql] [(.int qb9), (.int qh)])) _
                    refine XS.icmpNo X86.here hx rfl (hb hby at_310) rfl (Jvm.Free.XT.ii_ne_f br310) ?_
                    refine XS.iload X86.here hx rfl (hb hby at_313) rfl ?_
                    refine XS.aload X86.here hx rfl (hb hby at_315) rfl rfl ?_
                    refine XS.iload X86.here hx rfl (hb hby at_317) rfl ?_
                    refine XS.dload X86.here hx rfl (hb hby at_319) rfl ?_
                    refine st87 _ ?_
                    show Steps p.tables e below (T87.setTop (mkF m 324 #[vI p0, vJ q1, s_, vI p2, vI p3, vI z6, vR b1, vD z141, s_, vD z146, s_, vR b27, vI qh, vI ql] [(.int qca), (.int ql)])) _
                    refine XS.icmpNo X87.here hx rfl (hb hby at_324) rfl (Jvm.Free.XT.ii_ne_f br324) ?_
                    refine XS.iconst X87.here hx rfl (hb hby at_327) ?_
                    refine XS.goto X87.here hx rfl (pc0 := 328) (pc' := 332) rfl (hb hby at_328) (by decide) (by decide) ?_
                    exact k
                  obtain ⟨fs, hr, hrun, hended, hW, hsame⟩ := X87.leave (v := some (.int (1 : Int32))) (fun h => by rw [Bd.returns] at h; cases h)
                  refine ⟨_, _, c88 _ ?_, hrun, hended, _, _, rfl, ?_, ⟨_, rfl⟩, hW, hsame.mono (by decide) (by decide)⟩
                  · show Steps p.tables e below (T87.setTop (mkF m 332 #[vI p0, vJ q1, s_, vI p2, vI p3, vI z6, vR b1, vD z141, s_, vD z146, s_, vR b27, vI qh, vI ql] [(.int (1 : Int32))])) _
                    exact retOut X87 hx Bd.returns rfl (Or.inl ⟨rfl, by simp, _, rfl⟩) (hb hby at_332) hr
                  · show Q0 n0 _ T87.heap _
                    rw [e87]
                    exact ⟨rfl, by first | assumption | exact N0⟩
              · skip
                obtain ⟨qh, qds⟩ : ∃ z : Int32, fbf qE qq qs qV z25 z55 z85 (9221120237041090560 : UInt64) z141 = z := ⟨_, rfl⟩
                obtain ⟨ql, qdt⟩ : ∃ z : Int32, fbf qE qq qs qV z25 z55 z85 (9221120237041090560 : UInt64) z146 = z := ⟨_, rfl⟩
                obtain ⟨qb9, qdu⟩ : ∃ z : Int32, rff z6 z25 z40 z55 z70 z85 z100 z116 z132 z141 = z := ⟨_, rfl⟩
                obtain ⟨qca, qdv⟩ : ∃ z : Int32, rff z6 z25 z40 z55 z70 z85 z100 z116 z132 z146 = z := ⟨_, rfl⟩
                have g285_1 := Gmn (Or.inr qcY) tvN nn_z141 qb4
                have qej : (¬ (0 : Int32) < cmpValue (FP.dcmp qE z141) .g) → ¬ (0 : Int32) < cmpValue (FP.dcmp qZ z141) .g := fun q q' => q (g285_1.mpr ⟨q', Gna _⟩)
                obtain ⟨cq89, kq89, q89a, q89b, q89c⟩ := isOf hZ rfl Q59_4
                obtain ⟨_, _, ⟨T89, L89, k89, n89⟩, -, X89, ⟨Lc89, hQ89, ql89, qy89, qz89⟩, st89⟩ := X59.virtualBack hx (y := (⟨MTc, "firstBy", "(D)I"⟩ : MethodName)) (z := (⟨MTc, "firstBy", "(D)I"⟩ : MethodName)) hown (mvT hZ (hwi hw 23 rfl)) (mvT hZ (hwi hw 24 rfl)) (notFace_of_selects (args := #[]) (mvT hZ (hwi hw 26 rfl))) (mvT hZ (hwi hw 26 rfl)) (mvT hZ (hwi hw 25 rfl)) (by decide) (backOf (W := 0) (rm5w l Z a0 hw [] b27 z141 qcm (9221120237041090560 : UInt64) qE qZ (9221120237041090560 : UInt64) qq qcw (9221120237041090560 : UInt64) (9221120237041090560 : UInt64) qs qbC qV (9221120237041090560 : UInt64) (9221120237041090560 : UInt64) (9221120237041090560 : UInt64) (9221120237041090560 : UInt64) (9221120237041090560 : UInt64) z25 z40 z55 z70 z85 z100 (9221120237041090560 : UInt64) (9221120237041090560 : UInt64) (9221120237041090560 : UInt64) (9221120237041090560 : UInt64) (9221120237041090560 : UInt64) (9221120237041090560 : UInt64) (9221120237041090560 : UInt64) (9221120237041090560 : UInt64) (9221120237041090560 : UInt64) (9221120237041090560 : UInt64) qb2 x59_x12_vx_visits_o0 qh T59.heap n0 (Nat.le_trans (Nat.le_trans (Nat.le_trans (Nat.le_trans (Nat.le_trans (Nat.le_trans (Nat.le_trans (Nat.le_trans (Nat.le_trans (Nat.le_trans (Nat.le_trans (Nat.le_trans (Nat.le_trans (Nat.le_trans (Nat.le_trans (Nat.le_trans (Nat.le_trans Z0 E1.1) (Keep.of_wr W4).1) (Keep.of_wr W7).1) (Keep.of_wr W10).1) (Keep.of_wr W13).1) (Keep.of_wr W16).1) (Keep.of_wr W19).1) (Keep.of_wr W22).1) (Keep.of_wr W25).1) E27.1) K29q.1) K34q.1) K39q.1) K44q.1) K49q.1) K54q.1) K59q.1) Q59_5 ((Nat.ne_of_lt (Nat.lt_of_lt_of_le (A27).lt qv))) Q59_0 Q59_3 Q59_1 Q59_4 gn27 qds qej) hZ (hwi hw 27 rfl) (hwi hw 4 rfl) (by decide) (by decide)) q89a q89c (g := (mkF m 285 #[vI p0, vJ q1, s_, vI p2, vI p3, vI z6, vR b1, vD z141, s_, vD z146, s_, vR b27, u_, u_] [(.double z141), (.ref b27)])) rfl (by rw [hml]; rfl) (Steps.refl _) (argsL := [(.double z141)]) (rest := []) (lenOf pd_9 rfl) rfl (by show 2 * 0 + _ ≤ _; exact Nat.le_of_eq rfl) (hb hby at_285) (fun _ _ => ⟨rfl, rfl, (by decide : 3 + 0 ≤ _), (by decide : 44 + 0 ≤ _)⟩)
                dsimp only [Pt.U, Pt.locs, Pt.cells, Pt.slots] at X89 ql89 qy89 qz89 st89 hQ89
                subst ql89 qy89 qz89
                obtain ⟨qnY, rfl, N89q, K89q, Q89_0, Q89_1, Q89_2, Q89_3⟩ := hQ89
                have N89 := Fr.app N59 N89q
                have K90 : Keep h0 T89.heap [] := Keep.trans K60 K89q (allS (Or.inr gz27) all0)
                have g294_1 := Gmn (Or.inr qcY) tvN nn_z146 qb4
                have qek : (¬ (0 : Int32) < cmpValue (FP.dcmp qE z146) .g) → ¬ (0 : Int32) < cmpValue (FP.dcmp qZ z146) .g := fun q q' => q (g294_1.mpr ⟨q', Gna _⟩)
                have f91 := (Q59_5.keep K89q (ninS (Ne.symm (Nat.ne_of_lt (Nat.lt_of_lt_of_le (A27).lt qv))) nin0))
                obtain ⟨cq92, kq92, q92a, q92b, q92c⟩ := isOf hZ rfl Q89_3
                obtain ⟨_, _, ⟨T92, L92, k92, n92⟩, -, X92, ⟨Lc92, hQ92, ql92, qy92, qz92⟩, st92⟩ := X89.virtualBack hx (y := (⟨MTc, "firstBy", "(D)I"⟩ : MethodName)) (z := (⟨MTc, "firstBy", "(D)I"⟩ : MethodName)) hown (mvT hZ (hwi hw 23 rfl)) (mvT hZ (hwi hw 24 rfl)) (notFace_of_selects (args := #[]) (mvT hZ (hwi hw 26 rfl))) (mvT hZ (hwi hw 26 rfl)) (mvT hZ (hwi hw 25 rfl)) (by decide) (backOf (W := 0) (rm5w l Z a0 hw [] b27 z146 qcm (9221120237041090560 : UInt64) qE qZ (9221120237041090560 : UInt64) qq qcw (9221120237041090560 : UInt64) (9221120237041090560 : UInt64) qs qbC qV (9221120237041090560 : UInt64) (9221120237041090560 : UInt64) (9221120237041090560 : UInt64) (9221120237041090560 : UInt64) (9221120237041090560 : UInt64) z25 z40 z55 z70 z85 z100 (9221120237041090560 : UInt64) (9221120237041090560 : UInt64) (9221120237041090560 : UInt64) (9221120237041090560 : UInt64) (9221120237041090560 : UInt64) (9221120237041090560 : UInt64) (9221120237041090560 : UInt64) (9221120237041090560 : UInt64) (9221120237041090560 : UInt64) (9221120237041090560 : UInt64) qb2 qnY ql T89.heap n0 (Nat.le_trans (Nat.le_trans (Nat.le_trans (Nat.le_trans (Nat.le_trans (Nat.le_trans (Nat.le_trans (Nat.le_trans (Nat.le_trans (Nat.le_trans (Nat.le_trans (Nat.le_trans (Nat.le_trans (Nat.le_trans (Nat.le_trans (Nat.le_trans (Nat.le_trans (Nat.le_trans Z0 E1.1) (Keep.of_wr W4).1) (Keep.of_wr W7).1) (Keep.of_wr W10).1) (Keep.of_wr W13).1) (Keep.of_wr W16).1) (Keep.of_wr W19).1) (Keep.of_wr W22).1) (Keep.of_wr W25).1) E27.1) K29q.1) K34q.1) K39q.1) K44q.1) K49q.1) K54q.1) K59q.1) K89q.1) f91 ((Nat.ne_of_lt (Nat.lt_of_lt_of_le (A27).lt qv))) Q89_0 Q89_1 Q89_2 Q89_3 gn27 qdt qek) hZ (hwi hw 27 rfl) (hwi hw 4 rfl) (by decide) (by decide)) q92a q92c (g := (mkF m 294 #[vI p0, vJ q1, s_, vI p2, vI p3, vI z6, vR b1, vD z141, s_, vD z146, s_, vR b27, vI qh, u_] [(.double z146), (.ref b27)])) rfl (by rw [hml]; rfl) (Steps.refl _) (argsL := [(.double z146)]) (rest := []) (lenOf pd_9 rfl) rfl (by show 2 * 0 + _ ≤ _; exact Nat.le_of_eq rfl) (hb hby at_294) (fun _ _ => ⟨rfl, rfl, (by decide : 3 + 0 ≤ _), (by decide : 44 + 0 ≤ _)⟩)
                dsimp only [Pt.U, Pt.locs, Pt.cells, Pt.slots] at X92 ql92 qy92 qz92 st92 hQ92
                subst ql92 qy92 qz92
                obtain ⟨qoq, rfl, N92q, K92q, Q92_0, Q92_1, Q92_2, Q92_3⟩ := hQ92
                have N92 := Fr.app N89 N92q
                have K93 : Keep h0 T92.heap [] := Keep.trans K90 K92q (allS (Or.inr gz27) all0)
                have f94 := (((f57.keep K59q (ninS (Nat.ne_of_lt (Nat.lt_of_lt_of_le (V25).lt (Nat.le_of_eq g27.symm))) (ninS (Nat.ne_of_lt (Nat.lt_of_lt_of_le ((V25.ext E27)).lt qv)) nin0))).keep K89q (ninS (Nat.ne_of_lt (Nat.lt_of_lt_of_le (V25).lt (Nat.le_of_eq g27.symm))) nin0)).keep K92q (ninS (Nat.ne_of_lt (Nat.lt_of_lt_of_le (V25).lt (Nat.le_of_eq g27.symm))) nin0))
                obtain ⟨_, _, ⟨T95, L95, k95, n95⟩, -, X95, ⟨Lc95, hQ95, ql95, qy95, qz95⟩, st95⟩ := Jvm.LawKit.callS X92 hx (y := (⟨"com/example/kinetic_fleet/kineticfleet/fleet/MachineTimesFirstByPinLaw", "ref", "([DID)I"⟩ : MethodName)) hown (mvT hZ (hwi hw 28 rfl)) (mvT hZ (hwi hw 29 rfl)) (mvT hZ (hwi hw 30 rfl)) (mvT hZ (hwi hw 31 rfl)) (by decide) (backOf (W := 1) (rm6w l Z a0 hw [] b1 z6 z141 k1 z25 z40 z55 z70 z85 z100 z116 z132 qb9 T92.heap n0 (Nat.le_trans (Nat.le_trans (Nat.le_trans (Nat.le_trans (Nat.le_trans (Nat.le_trans (Nat.le_trans (Nat.le_trans (Nat.le_trans (Nat.le_trans (Nat.le_trans (Nat.le_trans (Nat.le_trans (Nat.le_trans (Nat.le_trans (Nat.le_trans (Nat.le_trans (Nat.le_trans (Nat.le_trans Z0 E1.1) (Keep.of_wr W4).1) (Keep.of_wr W7).1) (Keep.of_wr W10).1) (Keep.of_wr W13).1) (Keep.of_wr W16).1) (Keep.of_wr W19).1) (Keep.of_wr W22).1) (Keep.of_wr W25).1) E27.1) K29q.1) K34q.1) K39q.1) K44q.1) K49q.1) K54q.1) K59q.1) K89q.1) K92q.1) f94 qdu) hZ (hwi hw 31 rfl) (hwi hw 30 rfl) (by decide) (by decide)) (g := (mkF m 307 #[vI p0, vJ q1, s_, vI p2, vI p3, vI z6, vR b1, vD z141, s_, vD z146, s_, vR b27, vI qh, vI ql] [(.double z141), (.int z6), (.ref b1), (.int qh)])) rfl (by rw [hml]; rfl) (argsL := [(.ref b1), (.int z6), (.double z141)]) (rest := [(.int qh)]) (lenOf pd_10 rfl) rfl (by show 2 * 0 + _ ≤ _; exact Nat.le_of_eq rfl) (hb hby at_307) (fun _ _ => ⟨rfl, rfl, (by decide : 3 + 0 ≤ _), (by decide : 44 + 0 ≤ _)⟩)
                dsimp only [Pt.U, Pt.locs, Pt.cells, Pt.slots] at X95 ql95 qy95 qz95 st95 hQ95
                subst ql95 qy95 qz95
                obtain ⟨rfl, N95q, e95⟩ := hQ95
                have N95 := Fr.app N92 N95q
                have g285_8 := Gmn (Or.inr nn_z25) (Or.inr nn_z40) nn_z141 qbX
                have g285_9 := Gmn (Or.inr nn_z55) (Or.inr nn_z70) nn_z141 qc0
                have g285_10 := Gmn (Or.inr nn_z85) (Or.inr nn_z100) nn_z141 qdP
                have g285_11 := Gmn tvN tvN nn_z141 invN
                have g285_4 := Gmn (Or.inr qI) (Or.inr qbD) nn_z141 qbE
                have g285_5 := Gmn (Or.inr qbw) tvN nn_z141 qcR
                have g285_2 := Gmn (Or.inr qw) (Or.inr qcA) nn_z141 qbK
                have A285 := g285_4.trans (and_congr g285_8 g285_9)
                have R285 := (g285_1.trans (show _ ↔ _ from ⟨fun q => q.1, fun q => ⟨q, Gna _⟩⟩)).trans (g285_2.trans (and_congr A285 (g285_5.trans (and_congr g285_10 g285_11))))
                have F285 := first8 g285_8 A285 g285_10 R285
                have f285 : qh = (if (0 : Int32) < cmpValue (FP.dcmp z25 z141) .g then (if (0 : Int32) < cmpValue (FP.dcmp z40 z141) .g then (if (0 : Int32) < cmpValue (FP.dcmp z55 z141) .g then (if (0 : Int32) < cmpValue (FP.dcmp z70 z141) .g then (if (0 : Int32) < cmpValue (FP.dcmp z85 z141) .g then (if (0 : Int32) < cmpValue (FP.dcmp z100 z141) .g then (0 : Int32) else (6 : Int32)) else (5 : Int32)) else (4 : Int32)) else (3 : Int32)) else (2 : Int32)) else (1 : Int32)) := by
                  rw [← qds]; unfold fbf; rw [F285]
                  simp only [if_pos (Gna z141)]
                have e307 : qb9 = (if (0 : Int32) < cmpValue (FP.dcmp z25 z141) .g then (if (0 : Int32) < cmpValue (FP.dcmp z40 z141) .g then (if (0 : Int32) < cmpValue (FP.dcmp z55 z141) .g then (if (0 : Int32) < cmpValue (FP.dcmp z70 z141) .g then (if (0 : Int32) < cmpValue (FP.dcmp z85 z141) .g then (if (0 : Int32) < cmpValue (FP.dcmp z100 z141) .g then (0 : Int32) else (6 : Int32)) else (5 : Int32)) else (4 : Int32)) else (3 : Int32)) else (2 : Int32)) else (1 : Int32)) := by
                  rw [← qdu]; unfold rff
                  simp only [if_pos hb160, if_pos hb175, if_pos hb190, if_pos hb205, if_pos hb220, if_pos hb235, if_neg hb251, if_neg (up1 hb251 (show (6 : Int32) < (7 : Int32) by decide))]
                have br310 : qh = qb9 := f285.trans e307.symm
                obtain ⟨_, _, ⟨T96, L96, k96, n96⟩, -, X96, ⟨Lc96, hQ96, ql96, qy96, qz96⟩, st96⟩ := Jvm.LawKit.callS X95 hx (y := (⟨"com/example/kinetic_fleet/kineticfleet/fleet/MachineTimesFirstByPinLaw", "ref", "([DID)I"⟩ : MethodName)) hown (mvT hZ (hwi hw 28 rfl)) (mvT hZ (hwi hw 29 rfl)) (mvT hZ (hwi hw 30 rfl)) (mvT hZ (hwi hw 31 rfl)) (by decide) (backOf (W := 1) (rm6w l Z a0 hw [] b1 z6 z146 k1 z25 z40 z55 z70 z85 z100 z116 z132 qca T92.heap n0 (Nat.le_trans (Nat.le_trans (Nat.le_trans (Nat.le_trans (Nat.le_trans (Nat.le_trans (Nat.le_trans (Nat.le_trans (Nat.le_trans (Nat.le_trans (Nat.le_trans (Nat.le_trans (Nat.le_trans (Nat.le_trans (Nat.le_trans (Nat.le_trans (Nat.le_trans (Nat.le_trans (Nat.le_trans Z0 E1.1) (Keep.of_wr W4).1) (Keep.of_wr W7).1) (Keep.of_wr W10).1) (Keep.of_wr W13).1) (Keep.of_wr W16).1) (Keep.of_wr W19).1) (Keep.of_wr W22).1) (Keep.of_wr W25).1) E27.1) K29q.1) K34q.1) K39q.1) K44q.1) K49q.1) K54q.1) K59q.1) K89q.1) K92q.1) f94 qdv) hZ (hwi hw 31 rfl) (hwi hw 30 rfl) (by decide) (by decide)) (g := (mkF m 321 #[vI p0, vJ q1, s_, vI p2, vI p3, vI z6, vR b1, vD z141, s_, vD z146, s_, vR b27, vI qh, vI ql] [(.double z146), (.int z6), (.ref b1), (.int ql)])) rfl (by rw [hml]; rfl) (argsL := [(.ref b1), (.int z6), (.double z146)]) (rest := [(.int ql)]) (lenOf pd_10 rfl) rfl (by show 2 * 0 + _ ≤ _; exact Nat.le_of_eq rfl) (hb hby at_321) (fun _ _ => ⟨rfl, e95, (by decide : 3 + 0 ≤ _), (by decide : 44 + 0 ≤ _)⟩)
                dsimp only [Pt.U, Pt.locs, Pt.cells, Pt.slots] at X96 ql96 qy96 qz96 st96 hQ96
                subst ql96 qy96 qz96
                obtain ⟨rfl, N96q, e96⟩ := hQ96
                have N96 := Fr.app N95 N96q
                have g294_8 := Gmn (Or.inr nn_z25) (Or.inr nn_z40) nn_z146 qbX
                have g294_9 := Gmn (Or.inr nn_z55) (Or.inr nn_z70) nn_z146 qc0
                have g294_10 := Gmn (Or.inr nn_z85) (Or.inr nn_z100) nn_z146 qdP
                have g294_11 := Gmn tvN tvN nn_z146 invN
                have g294_4 := Gmn (Or.inr qI) (Or.inr qbD) nn_z146 qbE
                have g294_5 := Gmn (Or.inr qbw) tvN nn_z146 qcR
                have g294_2 := Gmn (Or.inr qw) (Or.inr qcA) nn_z146 qbK
                have A294 := g294_4.trans (and_congr g294_8 g294_9)
                have R294 := (g294_1.trans (show _ ↔ _ from ⟨fun q => q.1, fun q => ⟨q, Gna _⟩⟩)).trans (g294_2.trans (and_congr A294 (g294_5.trans (and_congr g294_10 g294_11))))
                have F294 := first8 g294_8 A294 g294_10 R294
                have f294 : ql = (if (0 : Int32) < cmpValue (FP.dcmp z25 z146) .g then (if (0 : Int32) < cmpValue (FP.dcmp z40 z146) .g then (if (0 : Int32) < cmpValue (FP.dcmp z55 z146) .g then (if (0 : Int32) < cmpValue (FP.dcmp z70 z146) .g then (if (0 : Int32) < cmpValue (FP.dcmp z85 z146) .g then (if (0 : Int32) < cmpValue (FP.dcmp z100 z146) .g then (0 : Int32) else (6 : Int32)) else (5 : Int32)) else (4 : Int32)) else (3 : Int32)) else (2 : Int32)) else (1 : Int32)) := by
                  rw [← qdt]; unfold fbf; rw [F294]
                  simp only [if_pos (Gna z146)]
                have e321 : qca = (if (0 : Int32) < cmpValue (FP.dcmp z25 z146) .g then (if (0 : Int32) < cmpValue (FP.dcmp z40 z146) .g then (if (0 : Int32) < cmpValue (FP.dcmp z55 z146) .g then (if (0 : Int32) < cmpValue (FP.dcmp z70 z146) .g then (if (0 : Int32) < cmpValue (FP.dcmp z85 z146) .g then (if (0 : Int32) < cmpValue (FP.dcmp z100 z146) .g then (0 : Int32) else (6 : Int32)) else (5 : Int32)) else (4 : Int32)) else (3 : Int32)) else (2 : Int32)) else (1 : Int32)) := by
                  rw [← qdv]; unfold rff
                  simp only [if_pos hb160, if_pos hb175, if_pos hb190, if_pos hb205, if_pos hb220, if_pos hb235, if_neg hb251, if_neg (up1 hb251 (show (6 : Int32) < (7 : Int32) by decide))]
                have br324 : ql = qca := f294.trans e321.symm
                have c97 : ∀ t, Steps p.tables e below (T96.setTop (mkF m 332 #[vI p0, vJ q1, s_, vI p2, vI p3, vI z6, vR b1, vD z141, s_, vD z146, s_, vR b27, vI qh, vI ql] [(.int (1 : Int32))])) t → Steps p.tables e below (s₁.setTop (entryFrame m #[(.int p0), (.long q1), (.int p2), (.int p3)] maxLocals)) t := by
                  intro t k
                  refine c61 t ?_
                  show Steps p.tables e below (T59.setTop (mkF m 251 #[vI p0, vJ q1, s_, vI p2, vI p3, vI z6, vR b1, vD z141, s_, vD z146, s_, vR b27, u_, u_] [(.int (6 : Int32)), (.int z6)])) _
                  refine XS.icmpYes X59.here hx rfl (pc0 := 251) (pc' := 264) rfl (hb hby at_251) rfl (Jvm.Free.XT.ii_le_t hb251) (by decide) (by decide) ?_
                  refine XS.iload X59.here hx rfl (hb hby at_264) rfl ?_
                  refine XS.bipush X59.here hx rfl (hb hby at_266) ?_
                  refine XS.icmpYes X59.here hx rfl (pc0 := 268) (pc' := 281) rfl (hb hby at_268) rfl (Jvm.Free.XT.ii_le_t (up1 hb251 (by decide))) (by decide) (by decide) ?_
                  refine XS.aload X59.here hx rfl (hb hby at_281) rfl rfl ?_
                  refine XS.dload X59.here hx rfl (hb hby at_283) rfl ?_
                  show Steps p.tables e below (T59.setTop (mkF m 285 #[vI p0, vJ q1, s_, vI p2, vI p3, vI z6, vR b1, vD z141, s_, vD z146, s_, vR b27, u_, u_] [(.double z141), (.ref b27)])) _
                  refine st89.trans ?_
                  show Steps p.tables e below (T89.setTop (mkF m 288 #[vI p0, vJ q1, s_, vI p2, vI p3, vI z6, vR b1, vD z141, s_, vD z146, s_, vR b27, u_, u_] [(.int qh)])) _
                  refine XS.istore X89.here hx rfl (hb hby at_288) rfl (l' := #[vI p0, vJ q1, s_, vI p2, vI p3, vI z6, vR b1, vD z141, s_, vD z146, s_, vR b27, vI qh, u_]) rfl ?_
                  refine XS.aload X89.here hx rfl (hb hby at_290) rfl rfl ?_
                  refine XS.dload X89.here hx rfl (hb hby at_292) rfl ?_
                  refine st92.trans ?_
                  show Steps p.tables e below (T92.setTop (mkF m 297 #[vI p0, vJ q1, s_, vI p2, vI p3, vI z6, vR b1, vD z141, s_, vD z146, s_, vR b27, vI qh, u_] [(.int ql)])) _
                  refine XS.istore X92.here hx rfl (hb hby at_297) rfl (l' := #[vI p0, vJ q1, s_, vI p2, vI p3, vI z6, vR b1, vD z141, s_, vD z146, s_, vR b27, vI qh, vI ql]) rfl ?_
                  refine XS.iload X92.here hx rfl (hb hby at_299) rfl ?_
                  refine XS.aload X92.here hx rfl (hb hby at_301) rfl rfl ?_
                  refine XS.iload X92.here hx rfl (hb hby at_303) rfl ?_
                  refine XS.dload X92.here hx rfl (hb hby at_305) rfl ?_
                  refine st95 _ ?_
                  show Steps p.tables e below (T95.setTop (mkF m 310 #[vI p0, vJ q1, s_, vI p2, vI p3, vI z6, vR b1, vD z141, s_, vD z146, s_, vR b27, vI qh, vI ql] [(.int qb9), (.int qh)])) _
                  refine XS.icmpNo X95.here hx rfl (hb hby at_310) rfl (Jvm.Free.XT.ii_ne_f br310) ?_
                  refine XS.iload X95.here hx rfl (hb hby at_313) rfl ?_
                  refine XS.aload X95.here hx rfl (hb hby at_315) rfl rfl ?_
                  refine XS.iload X95.here hx rfl (hb hby at_317) rfl ?_
                  refine XS.dload X95.here hx rfl (hb hby at_319) rfl ?_
                  refine st96 _ ?_
                  show Steps p.tables e below (T96.setTop (mkF m 324 #[vI p0, vJ q1, s_, vI p2, vI p3, vI z6, vR b1, vD z141, s_, vD z146, s_, vR b27, vI qh, vI ql] [(.int qca), (.int ql)])) _
                  refine XS.icmpNo X96.here hx rfl (hb hby at_324) rfl (Jvm.Free.XT.ii_ne_f br324) ?_
                  refine XS.iconst X96.here hx rfl (hb hby at_327) ?_
                  refine XS.goto X96.here hx rfl (pc0 := 328) (pc' := 332) rfl (hb hby at_328) (by decide) (by decide) ?_
                  exact k
                obtain ⟨fs, hr, hrun, hended, hW, hsame⟩ := X96.leave (v := some (.int (1 : Int32))) (fun h => by rw [Bd.returns] at h; cases h)
                refine ⟨_, _, c97 _ ?_, hrun, hended, _, _, rfl, ?_, ⟨_, rfl⟩, hW, hsame.mono (by decide) (by decide)⟩
                · show Steps p.tables e below (T96.setTop (mkF m 332 #[vI p0, vJ q1, s_, vI p2, vI p3, vI z6, vR b1, vD z141, s_, vD z146, s_, vR b27, vI qh, vI ql] [(.int (1 : Int32))])) _
                  exact retOut X96 hx Bd.returns rfl (Or.inl ⟨rfl, by simp, _, rfl⟩) (hb hby at_332) hr
                · show Q0 n0 _ T96.heap _
                  rw [e96]
                  exact ⟨rfl, by first | assumption | exact N0⟩
            · skip
              obtain ⟨qh, qds⟩ : ∃ z : Int32, fbf qD qq qs qc1 z25 z55 z85 (9221120237041090560 : UInt64) z141 = z := ⟨_, rfl⟩
              obtain ⟨ql, qdt⟩ : ∃ z : Int32, fbf qD qq qs qc1 z25 z55 z85 (9221120237041090560 : UInt64) z146 = z := ⟨_, rfl⟩
              obtain ⟨qb9, qdu⟩ : ∃ z : Int32, rff z6 z25 z40 z55 z70 z85 z100 z116 z132 z141 = z := ⟨_, rfl⟩
              obtain ⟨qca, qdv⟩ : ∃ z : Int32, rff z6 z25 z40 z55 z70 z85 z100 z116 z132 z146 = z := ⟨_, rfl⟩
              have g285_1 := Gmn (Or.inr qcX) tvN nn_z141 qb3
              have qej : (¬ (0 : Int32) < cmpValue (FP.dcmp qD z141) .g) → ¬ (0 : Int32) < cmpValue (FP.dcmp qY z141) .g := fun q q' => q (g285_1.mpr ⟨q', Gna _⟩)
              obtain ⟨cq98, kq98, q98a, q98b, q98c⟩ := isOf hZ rfl Q54_4
              obtain ⟨_, _, ⟨T98, L98, k98, n98⟩, -, X98, ⟨Lc98, hQ98, ql98, qy98, qz98⟩, st98⟩ := X54.virtualBack hx (y := (⟨MTc, "firstBy", "(D)I"⟩ : MethodName)) (z := (⟨MTc, "firstBy", "(D)I"⟩ : MethodName)) hown (mvT hZ (hwi hw 23 rfl)) (mvT hZ (hwi hw 24 rfl)) (notFace_of_selects (args := #[]) (mvT hZ (hwi hw 26 rfl))) (mvT hZ (hwi hw 26 rfl)) (mvT hZ (hwi hw 25 rfl)) (by decide) (backOf (W := 0) (rm5w l Z a0 hw [] b27 z141 qcm (9221120237041090560 : UInt64) qD qY (9221120237041090560 : UInt64) qq qcu (9221120237041090560 : UInt64) (9221120237041090560 : UInt64) qs qbC qc1 (9221120237041090560 : UInt64) (9221120237041090560 : UInt64) (9221120237041090560 : UInt64) (9221120237041090560 : UInt64) (9221120237041090560 : UInt64) z25 z40 z55 z70 z85 (9221120237041090560 : UInt64) (9221120237041090560 : UInt64) (9221120237041090560 : UInt64) (9221120237041090560 : UInt64) (9221120237041090560 : UInt64) (9221120237041090560 : UInt64) (9221120237041090560 : UInt64) (9221120237041090560 : UInt64) (9221120237041090560 : UInt64) (9221120237041090560 : UInt64) (9221120237041090560 : UInt64) qb2 x54_x12_vx_visits_o0 qh T54.heap n0 (Nat.le_trans (Nat.le_trans (Nat.le_trans (Nat.le_trans (Nat.le_trans (Nat.le_trans (Nat.le_trans (Nat.le_trans (Nat.le_trans (Nat.le_trans (Nat.le_trans (Nat.le_trans (Nat.le_trans (Nat.le_trans (Nat.le_trans (Nat.le_trans Z0 E1.1) (Keep.of_wr W4).1) (Keep.of_wr W7).1) (Keep.of_wr W10).1) (Keep.of_wr W13).1) (Keep.of_wr W16).1) (Keep.of_wr W19).1) (Keep.of_wr W22).1) (Keep.of_wr W25).1) E27.1) K29q.1) K34q.1) K39q.1) K44q.1) K49q.1) K54q.1) Q54_5 ((Nat.ne_of_lt (Nat.lt_of_lt_of_le (A27).lt qv))) Q54_0 Q54_3 Q54_1 Q54_4 gn27 qds qej) hZ (hwi hw 27 rfl) (hwi hw 4 rfl) (by decide) (by decide)) q98a q98c (g := (mkF m 285 #[vI p0, vJ q1, s_, vI p2, vI p3, vI z6, vR b1, vD z141, s_, vD z146, s_, vR b27, u_, u_] [(.double z141), (.ref b27)])) rfl (by rw [hml]; rfl) (Steps.refl _) (argsL := [(.double z141)]) (rest := []) (lenOf pd_9 rfl) rfl (by show 2 * 0 + _ ≤ _; exact Nat.le_of_eq rfl) (hb hby at_285) (fun _ _ => ⟨rfl, rfl, (by decide : 3 + 0 ≤ _), (by decide : 44 + 0 ≤ _)⟩)
              dsimp only [Pt.U, Pt.locs, Pt.cells, Pt.slots] at X98 ql98 qy98 qz98 st98 hQ98
              subst ql98 qy98 qz98
              obtain ⟨qnZ, rfl, N98q, K98q, Q98_0, Q98_1, Q98_2, Q98_3⟩ := hQ98
              have N98 := Fr.app N54 N98q
              have K99 : Keep h0 T98.heap [] := Keep.trans K55 K98q (allS (Or.inr gz27) all0)
              have g294_1 := Gmn (Or.inr qcX) tvN nn_z146 qb3
              have qek : (¬ (0 : Int32) < cmpValue (FP.dcmp qD z146) .g) → ¬ (0 : Int32) < cmpValue (FP.dcmp qY z146) .g := fun q q' => q (g294_1.mpr ⟨q', Gna _⟩)
              have f100 := (Q54_5.keep K98q (ninS (Ne.symm (Nat.ne_of_lt (Nat.lt_of_lt_of_le (A27).lt qv))) nin0))
              obtain ⟨cq101, kq101, q101a, q101b, q101c⟩ := isOf hZ rfl Q98_3
              obtain ⟨_, _, ⟨T101, L101, k101, n101⟩, -, X101, ⟨Lc101, hQ101, ql101, qy101, qz101⟩, st101⟩ := X98.virtualBack hx (y := (⟨MTc, "firstBy", "(D)I"⟩ : MethodName)) (z := (⟨MTc, "firstBy", "(D)I"⟩ : MethodName)) hown (mvT hZ (hwi hw 23 rfl)) (mvT hZ (hwi hw 24 rfl)) (notFace_of_selects (args := #[]) (mvT hZ (hwi hw 26 rfl))) (mvT hZ (hwi hw 26 rfl)) (mvT hZ (hwi hw 25 rfl)) (by decide) (backOf (W := 0) (rm5w l Z a0 hw [] b27 z146 qcm (9221120237041090560 : UInt64) qD qY (9221120237041090560 : UInt64) qq qcu (9221120237041090560 : UInt64) (9221120237041090560 : UInt64) qs qbC qc1 (9221120237041090560 : UInt64) (9221120237041090560 : UInt64) (9221120237041090560 : UInt64) (9221120237041090560 : UInt64) (9221120237041090560 : UInt64) z25 z40 z55 z70 z85 (9221120237041090560 : UInt64) (9221120237041090560 : UInt64) (9221120237041090560 : UInt64) (9221120237041090560 : UInt64) (9221120237041090560 : UInt64) (9221120237041090560 : UInt64) (9221120237041090560 : UInt64) (9221120237041090560 : UInt64) (9221120237041090560 : UInt64) (9221120237041090560 : UInt64) (9221120237041090560 : UInt64) qb2 qnZ ql T98.heap n0 (Nat.le_trans (Nat.le_trans (Nat.le_trans (Nat.le_trans (Nat.le_trans (Nat.le_trans (Nat.le_trans (Nat.le_trans (Nat.le_trans (Nat.le_trans (Nat.le_trans (Nat.le_trans (Nat.le_trans (Nat.le_trans (Nat.le_trans (Nat.le_trans (Nat.le_trans Z0 E1.1) (Keep.of_wr W4).1) (Keep.of_wr W7).1) (Keep.of_wr W10).1) (Keep.of_wr W13).1) (Keep.of_wr W16).1) (Keep.of_wr W19).1) (Keep.of_wr W22).1) (Keep.of_wr W25).1) E27.1) K29q.1) K34q.1) K39q.1) K44q.1) K49q.1) K54q.1) K98q.1) f100 ((Nat.ne_of_lt (Nat.lt_of_lt_of_le (A27).lt qv))) Q98_0 Q98_1 Q98_2 Q98_3 gn27 qdt qek) hZ (hwi hw 27 rfl) (hwi hw 4 rfl) (by decide) (by decide)) q101a q101c (g := (mkF m 294 #[vI p0, vJ q1, s_, vI p2, vI p3, vI z6, vR b1, vD z141, s_, vD z146, s_, vR b27, vI qh, u_] [(.double z146), (.ref b27)])) rfl (by rw [hml]; rfl) (Steps.refl _) (argsL := [(.double z146)]) (rest := []) (lenOf pd_9 rfl) rfl (by show 2 * 0 + _ ≤ _; exact Nat.le_of_eq rfl) (hb hby at_294) (fun _ _ => ⟨rfl, rfl, (by decide : 3 + 0 ≤ _), (by decide : 44 + 0 ≤ _)⟩)
              dsimp only [Pt.U, Pt.locs, Pt.cells, Pt.slots] at X101 ql101 qy101 qz101 st101 hQ101
              subst ql101 qy101 qz101
              obtain ⟨qoh, rfl, N101q, K101q, Q101_0, Q101_1, Q101_2, Q101_3⟩ := hQ101
              have N101 := Fr.app N98 N101q
              have K102 : Keep h0 T101.heap [] := Keep.trans K99 K101q (allS (Or.inr gz27) all0)
              have f103 := (((f52.keep K54q (ninS (Nat.ne_of_lt (Nat.lt_of_lt_of_le (V25).lt (Nat.le_of_eq g27.symm))) (ninS (Nat.ne_of_lt (Nat.lt_of_lt_of_le ((V25.ext E27)).lt qv)) nin0))).keep K98q (ninS (Nat.ne_of_lt (Nat.lt_of_lt_of_le (V25).lt (Nat.le_of_eq g27.symm))) nin0)).keep K101q (ninS (Nat.ne_of_lt (Nat.lt_of_lt_of_le (V25).lt (Nat.le_of_eq g27.symm))) nin0))
              obtain ⟨_, _, ⟨T104, L104, k104, n104⟩, -, X104, ⟨Lc104, hQ104, ql104, qy104, qz104⟩, st104⟩ := Jvm.LawKit.callS X101 hx (y := (⟨"com/example/kinetic_fleet/kineticfleet/fleet/MachineTimesFirstByPinLaw", "ref", "([DID)I"⟩ : MethodName)) hown (mvT hZ (hwi hw 28 rfl)) (mvT hZ (hwi hw 29 rfl)) (mvT hZ (hwi hw 30 rfl)) (mvT hZ (hwi hw 31 rfl)) (by decide) (backOf (W := 1) (rm6w l Z a0 hw [] b1 z6 z141 k1 z25 z40 z55 z70 z85 z100 z116 z132 qb9 T101.heap n0 (Nat.le_trans (Nat.le_trans (Nat.le_trans (Nat.le_trans (Nat.le_trans (Nat.le_trans (Nat.le_trans (Nat.le_trans (Nat.le_trans (Nat.le_trans (Nat.le_trans (Nat.le_trans (Nat.le_trans (Nat.le_trans (Nat.le_trans (Nat.le_trans (Nat.le_trans (Nat.le_trans Z0 E1.1) (Keep.of_wr W4).1) (Keep.of_wr W7).1) (Keep.of_wr W10).1) (Keep.of_wr W13).1) (Keep.of_wr W16).1) (Keep.of_wr W19).1) (Keep.of_wr W22).1) (Keep.of_wr W25).1) E27.1) K29q.1) K34q.1) K39q.1) K44q.1) K49q.1) K54q.1) K98q.1) K101q.1) f103 qdu) hZ (hwi hw 31 rfl) (hwi hw 30 rfl) (by decide) (by decide)) (g := (mkF m 307 #[vI p0, vJ q1, s_, vI p2, vI p3, vI z6, vR b1, vD z141, s_, vD z146, s_, vR b27, vI qh, vI ql] [(.double z141), (.int z6), (.ref b1), (.int qh)])) rfl (by rw [hml]; rfl) (argsL := [(.ref b1), (.int z6), (.double z141)]) (rest := [(.int qh)]) (lenOf pd_10 rfl) rfl (by show 2 * 0 + _ ≤ _; exact Nat.le_of_eq rfl) (hb hby at_307) (fun _ _ => ⟨rfl, rfl, (by decide : 3 + 0 ≤ _), (by decide : 44 + 0 ≤ _)⟩)
              dsimp only [Pt.U, Pt.locs, Pt.cells, Pt.slots] at X104 ql104 qy104 qz104 st104 hQ104
              subst ql104 qy104 qz104
              obtain ⟨rfl, N104q, e104⟩ := hQ104
              have N104 := Fr.app N101 N104q
              have g285_8 := Gmn (Or.inr nn_z25) (Or.inr nn_z40) nn_z141 qbX
              have g285_9 := Gmn (Or.inr nn_z55) (Or.inr nn_z70) nn_z141 qc0
              have g285_10 := Gmn (Or.inr nn_z85) tvN nn_z141 qeQ
              have g285_11 := Gmn tvN tvN nn_z141 invN
              have g285_4 := Gmn (Or.inr qI) (Or.inr qbD) nn_z141 qbE
              have g285_5 := Gmn (Or.inr qcv) tvN nn_z141 qcQ
              have g285_2 := Gmn (Or.inr qw) (Or.inr qcz) nn_z141 qbJ
              have A285 := g285_4.trans (and_congr g285_8 g285_9)
              have R285 := (g285_1.trans (show _ ↔ _ from ⟨fun q => q.1, fun q => ⟨q, Gna _⟩⟩)).trans (g285_2.trans (and_congr A285 (g285_5.trans (and_congr g285_10 g285_11))))
              have F285 := first8 g285_8 A285 g285_10 R285
              have f285 : qh = (if (0 : Int32) < cmpValue (FP.dcmp z25 z141) .g then (if (0 : Int32) < cmpValue (FP.dcmp z40 z141) .g then (if (0 : Int32) < cmpValue (FP.dcmp z55 z141) .g then (if (0 : Int32) < cmpValue (FP.dcmp z70 z141) .g then (if (0 : Int32) < cmpValue (FP.dcmp z85 z141) .g then (0 : Int32) else (5 : Int32)) else (4 : Int32)) else (3 : Int32)) else (2 : Int32)) else (1 : Int32)) := by
                rw [← qds]; unfold fbf; rw [F285]
                simp only [if_pos (Gna z141)]
              have e307 : qb9 = (if (0 : Int32) < cmpValue (FP.dcmp z25 z141) .g then (if (0 : Int32) < cmpValue (FP.dcmp z40 z141) .g then (if (0 : Int32) < cmpValue (FP.dcmp z55 z141) .g then (if (0 : Int32) < cmpValue (FP.dcmp z70 z141) .g then (if (0 : Int32) < cmpValue (FP.dcmp z85 z141) .g then (0 : Int32) else (5 : Int32)) else (4 : Int32)) else (3 : Int32)) else (2 : Int32)) else (1 : Int32)) := by
                rw [← qdu]; unfold rff
                simp only [if_pos hb160, if_pos hb175, if_pos hb190, if_pos hb205, if_pos hb220, if_neg hb235, if_neg (up1 hb235 (show (5 : Int32) < (6 : Int32) by decide)), if_neg (up1 hb235 (show (5 : Int32) < (7 : Int32) by decide))]
              have br310 : qh = qb9 := f285.trans e307.symm
              obtain ⟨_, _, ⟨T105, L105, k105, n105⟩, -, X105, ⟨Lc105, hQ105, ql105, qy105, qz105⟩, st105⟩ := Jvm.LawKit.callS X104 hx (y := (⟨"com/example/kinetic_fleet/kineticfleet/fleet/MachineTimesFirstByPinLaw", "ref", "([DID)I"⟩ : MethodName)) hown (mvT hZ (hwi hw 28 rfl)) (mvT hZ (hwi hw 29 rfl)) (mvT hZ (hwi hw 30 rfl)) (mvT hZ (hwi hw 31 rfl)) (by decide) (backOf (W := 1) (rm6w l Z a0 hw [] b1 z6 z146 k1 z25 z40 z55 z70 z85 z100 z116 z132 qca T101.heap n0 (Nat.le_trans (Nat.le_trans (Nat.le_trans (Nat.le_trans (Nat.le_trans (Nat.le_trans (Nat.le_trans (Nat.le_trans (Nat.le_trans (Nat.le_trans (Nat.le_trans (Nat.le_trans (Nat.le_trans (Nat.le_trans (Nat.le_trans (Nat.le_trans (Nat.le_trans (Nat.le_trans Z0 E1.1) (Keep.of_wr W4).1) (Keep.of_wr W7).1) (Keep.of_wr W10).1) (Keep.of_wr W13).1) (Keep.of_wr W16).1) (Keep.of_wr W19).1) (Keep.of_wr W22).1) (Keep.of_wr W25).1) E27.1) K29q.1) K34q.1) K39q.1) K44q.1) K49q.1) K54q.1) K98q.1) K101q.1) f103 qdv) hZ (hwi hw 31 rfl) (hwi hw 30 rfl) (by decide) (by decide)) (g := (mkF m 321 #[vI p0, vJ q1, s_, vI p2, vI p3, vI z6, vR b1, vD z141, s_, vD z146, s_, vR b27, vI qh, vI ql] [(.double z146), (.int z6), (.ref b1), (.int ql)])) rfl (by rw [hml]; rfl) (argsL := [(.ref b1), (.int z6), (.double z146)]) (rest := [(.int ql)]) (lenOf pd_10 rfl) rfl (by show 2 * 0 + _ ≤ _; exact Nat.le_of_eq rfl) (hb hby at_321) (fun _ _ => ⟨rfl, e104, (by decide : 3 + 0 ≤ _), (by decide : 44 + 0 ≤ _)⟩)
              dsimp only [Pt.U, Pt.locs, Pt.cells, Pt.slots] at X105 ql105 qy105 qz105 st105 hQ105
              subst ql105 qy105 qz105
              obtain ⟨rfl, N105q, e105⟩ := hQ105
              have N105 := Fr.app N104 N105q
              have g294_8 := Gmn (Or.inr nn_z25) (Or.inr nn_z40) nn_z146 qbX
              have g294_9 := Gmn (Or.inr nn_z55) (Or.inr nn_z70) nn_z146 qc0
              have g294_10 := Gmn (Or.inr nn_z85) tvN nn_z146 qeQ
              have g294_11 := Gmn tvN tvN nn_z146 invN
              have g294_4 := Gmn (Or.inr qI) (Or.inr qbD) nn_z146 qbE
              have g294_5 := Gmn (Or.inr qcv) tvN nn_z146 qcQ
              have g294_2 := Gmn (Or.inr qw) (Or.inr qcz) nn_z146 qbJ
              have A294 := g294_4.trans (and_congr g294_8 g294_9)
              have R294 := (g294_1.trans (show _ ↔ _ from ⟨fun q => q.1, fun q => ⟨q, Gna _⟩⟩)).trans (g294_2.trans (and_congr A294 (g294_5.trans (and_congr g294_10 g294_11))))
              have F294 := first8 g294_8 A294 g294_10 R294
              have f294 : ql = (if (0 : Int32) < cmpValue (FP.dcmp z25 z146) .g then (if (0 : Int32) < cmpValue (FP.dcmp z40 z146) .g then (if (0 : Int32) < cmpValue (FP.dcmp z55 z146) .g then (if (0 : Int32) < cmpValue (FP.dcmp z70 z146) .g then (if (0 : Int32) < cmpValue (FP.dcmp z85 z146) .g then (0 : Int32) else (5 : Int32)) else (4 : Int32)) else (3 : Int32)) else (2 : Int32)) else (1 : Int32)) := by
                rw [← qdt]; unfold fbf; rw [F294]
                simp only [if_pos (Gna z146)]
              have e321 : qca = (if (0 : Int32) < cmpValue (FP.dcmp z25 z146) .g then (if (0 : Int32) < cmpValue (FP.dcmp z40 z146) .g then (if (0 : Int32) < cmpValue (FP.dcmp z55 z146) .g then (if (0 : Int32) < cmpValue (FP.dcmp z70 z146) .g then (if (0 : Int32) < cmpValue (FP.dcmp z85 z146) .g then (0 : Int32) else (5 : Int32)) else (4 : Int32)) else (3 : Int32)) else (2 : Int32)) else (1 : Int32)) := by
                rw [← qdv]; unfold rff
                simp only [if_pos hb160, if_pos hb175, if_pos hb190, if_pos hb205, if_pos hb220, if_neg hb235, if_neg (up1 hb235 (show (5 : Int32) < (6 : Int32) by decide)), if_neg (up1 hb235 (show (5 : Int32) < (7 : Int32) by decide))]
              have br324 : ql = qca := f294.trans e321.symm
              have c106 : ∀ t, Steps p.tables e below (T105.setTop (mkF m 332 #[vI p0, vJ q1, s_, vI p2, vI p3, vI z6, vR b1, vD z141, s_, vD z146, s_, vR b27, vI qh, vI ql] [(.int (1 : Int32))])) t → Steps p.tables e below (s₁.setTop (entryFrame m #[(.int p0), (.long q1), (.int p2), (.int p3)] maxLocals)) t := by
                intro t k
                refine c56 t ?_
                show Steps p.tables e below (T54.setTop (mkF m 235 #[vI p0, vJ q1, s_, vI p2, vI p3, vI z6, vR b1, vD z141, s_, vD z146, s_, vR b27, u_, u_] [(.int (5 : Int32)), (.int z6)])) _
                refine XS.icmpYes X54.here hx rfl (pc0 := 235) (pc' := 247) rfl (hb hby at_235) rfl (Jvm.Free.XT.ii_le_t hb235) (by decide) (by decide) ?_
                refine XS.iload X54.here hx rfl (hb hby at_247) rfl ?_
                refine XS.bipush X54.here hx rfl (hb hby at_249) ?_
                refine XS.icmpYes X54.here hx rfl (pc0 := 251) (pc' := 264) rfl (hb hby at_251) rfl (Jvm.Free.XT.ii_le_t (up1 hb235 (by decide))) (by decide) (by decide) ?_
                refine XS.iload X54.here hx rfl (hb hby at_264) rfl ?_
                refine XS.bipush X54.here hx rfl (hb hby at_266) ?_
                show Steps p.tables e below (T54.setTop (mkF m 268 #[vI p0, vJ q1, s_, vI p2, vI p3, vI z6, vR b1, vD z141, s_, vD z146, s_, vR b27, u_, u_] [(.int (7 : Int32)), (.int z6)])) _
                refine XS.icmpYes X54.here hx rfl (pc0 := 268) (pc' := 281) rfl (hb hby at_268) rfl (Jvm.Free.XT.ii_le_t (up1 hb235 (by decide))) (by decide) (by decide) ?_
                refine XS.aload X54.here hx rfl (hb hby at_281) rfl rfl ?_
                refine XS.dload X54.here hx rfl (hb hby at_283) rfl ?_
                refine st98.trans ?_
                show Steps p.tables e below (T98.setTop (mkF m 288 #[vI p0, vJ q1, s_, vI p2, vI p3, vI z6, vR b1, vD z141, s_, vD z146, s_, vR b27, u_, u_] [(.int qh)])) _
                refine XS.istore X98.here hx rfl (hb hby at_288) rfl (l' := #[vI p0, vJ q1, s_, vI p2, vI p3, vI z6, vR b1, vD z141, s_, vD z146, s_, vR b27, vI qh, u_]) rfl ?_
                refine XS.aload X98.here hx rfl (hb hby at_290) rfl rfl ?_
                refine XS.dload X98.here hx rfl (hb hby at_292) rfl ?_
                refine st101.trans ?_
                show Steps p.tables e below (T101.setTop (mkF m 297 #[vI p0, vJ q1, s_, vI p2, vI p3, vI z6, vR b1, vD z141, s_, vD z146, s_, vR b27, vI qh, u_] [(.int ql)])) _
                refine XS.istore X101.here hx rfl (hb hby at_297) rfl (l' := #[vI p0, vJ q1, s_, vI p2, vI p3, vI z6, vR b1, vD z141, s_, vD z146, s_, vR b27, vI qh, vI ql]) rfl ?_
                refine XS.iload X101.here hx rfl (hb hby at_299) rfl ?_
                refine XS.aload X101.here hx rfl (hb hby at_301) rfl rfl ?_
                refine XS.iload X101.here hx rfl (hb hby at_303) rfl ?_
                refine XS.dload X101.here hx rfl (hb hby at_305) rfl ?_
                refine st104 _ ?_
                show Steps p.tables e below (T104.setTop (mkF m 310 #[vI p0, vJ q1, s_, vI p2, vI p3, vI z6, vR b1, vD z141, s_, vD z146, s_, vR b27, vI qh, vI ql] [(.int qb9), (.int qh)])) _
                refine XS.icmpNo X104.here hx rfl (hb hby at_310) rfl (Jvm.Free.XT.ii_ne_f br310) ?_
                refine XS.iload X104.here hx rfl (hb hby at_313) rfl ?_
                refine XS.aload X104.here hx rfl (hb hby at_315) rfl rfl ?_
                refine XS.iload X104.here hx rfl (hb hby at_317) rfl ?_
                refine XS.dload X104.here hx rfl (hb hby at_319) rfl ?_
                refine st105 _ ?_
                show Steps p.tables e below (T105.setTop (mkF m 324 #[vI p0, vJ q1, s_, vI p2, vI p3, vI z6, vR b1, vD z141, s_, vD z146, s_, vR b27, vI qh, vI ql] [(.int qca), (.int ql)])) _
                refine XS.icmpNo X105.here hx rfl (hb hby at_324) rfl (Jvm.Free.XT.ii_ne_f br324) ?_
                refine XS.iconst X105.here hx rfl (hb hby at_327) ?_
                refine XS.goto X105.here hx rfl (pc0 := 328) (pc' := 332) rfl (hb hby at_328) (by decide) (by decide) ?_
                exact k
              obtain ⟨fs, hr, hrun, hended, hW, hsame⟩ := X105.leave (v := some (.int (1 : Int32))) (fun h => by rw [Bd.returns] at h; cases h)
              refine ⟨_, _, c106 _ ?_, hrun, hended, _, _, rfl, ?_, ⟨_, rfl⟩, hW, hsame.mono (by decide) (by decide)⟩
              · show Steps p.tables e below (T105.setTop (mkF m 332 #[vI p0, vJ q1, s_, vI p2, vI p3, vI z6, vR b1, vD z141, s_, vD z146, s_, vR b27, vI qh, vI ql] [(.int (1 : Int32))])) _
                exact retOut X105 hx Bd.returns rfl (Or.inl ⟨rfl, by simp, _, rfl⟩) (hb hby at_332) hr
              · show Q0 n0 _ T105.heap _
                rw [e105]
                exact ⟨rfl, by first | assumption | exact N0⟩
          · skip
            obtain ⟨qh, qds⟩ : ∃ z : Int32, fbf qO qq qs (9221120237041090560 : UInt64) z25 z55 (9221120237041090560 : UInt64) (9221120237041090560 : UInt64) z141 = z := ⟨_, rfl⟩
            obtain ⟨ql, qdt⟩ : ∃ z : Int32, fbf qO qq qs (9221120237041090560 : UInt64) z25 z55 (9221120237041090560 : UInt64) (9221120237041090560 : UInt64) z146 = z := ⟨_, rfl⟩
            obtain ⟨qb9, qdu⟩ : ∃ z : Int32, rff z6 z25 z40 z55 z70 z85 z100 z116 z132 z141 = z := ⟨_, rfl⟩
            obtain ⟨qca, qdv⟩ : ∃ z : Int32, rff z6 z25 z40 z55 z70 z85 z100 z116 z132 z146 = z := ⟨_, rfl⟩
            have g285_1 := Gmn (Or.inr qc5) tvN nn_z141 qci
            have qej : (¬ (0 : Int32) < cmpValue (FP.dcmp qO z141) .g) → ¬ (0 : Int32) < cmpValue (FP.dcmp qbj z141) .g := fun q q' => q (g285_1.mpr ⟨q', Gna _⟩)
            obtain ⟨cq107, kq107, q107a, q107b, q107c⟩ := isOf hZ rfl Q49_4
            obtain ⟨_, _, ⟨T107, L107, k107, n107⟩, -, X107, ⟨Lc107, hQ107, ql107, qy107, qz107⟩, st107⟩ := X49.virtualBack hx (y := (⟨MTc, "firstBy", "(D)I"⟩ : MethodName)) (z := (⟨MTc, "firstBy", "(D)I"⟩ : MethodName)) hown (mvT hZ (hwi hw 23 rfl)) (mvT hZ (hwi hw 24 rfl)) (notFace_of_selects (args := #[]) (mvT hZ (hwi hw 26 rfl))) (mvT hZ (hwi hw 26 rfl)) (mvT hZ (hwi hw 25 rfl)) (by decide) (backOf (W := 0) (rm5w l Z a0 hw [] b27 z141 qcm (9221120237041090560 : UInt64) qO qbj (9221120237041090560 : UInt64) qq (9221120237041090560 : UInt64) (9221120237041090560 : UInt64) (9221120237041090560 : UInt64) qs qbC (9221120237041090560 : UInt64) (9221120237041090560 : UInt64) (9221120237041090560 : UInt64) (9221120237041090560 : UInt64) (9221120237041090560 : UInt64) (9221120237041090560 : UInt64) z25 z40 z55 z70 (9221120237041090560 : UInt64) (9221120237041090560 : UInt64) (9221120237041090560 : UInt64) (9221120237041090560 : UInt64) (9221120237041090560 : UInt64) (9221120237041090560 : UInt64) (9221120237041090560 : UInt64) (9221120237041090560 : UInt64) (9221120237041090560 : UInt64) (9221120237041090560 : UInt64) (9221120237041090560 : UInt64) (9221120237041090560 : UInt64) qb2 x49_x12_vx_visits_o0 qh T49.heap n0 (Nat.le_trans (Nat.le_trans (Nat.le_trans (Nat.le_trans (Nat.le_trans (Nat.le_trans (Nat.le_trans (Nat.le_trans (Nat.le_trans (Nat.le_trans (Nat.le_trans (Nat.le_trans (Nat.le_trans (Nat.le_trans (Nat.le_trans Z0 E1.1) (Keep.of_wr W4).1) (Keep.of_wr W7).1) (Keep.of_wr W10).1) (Keep.of_wr W13).1) (Keep.of_wr W16).1) (Keep.of_wr W19).1) (Keep.of_wr W22).1) (Keep.of_wr W25).1) E27.1) K29q.1) K34q.1) K39q.1) K44q.1) K49q.1) Q49_5 ((Nat.ne_of_lt (Nat.lt_of_lt_of_le (A27).lt qv))) Q49_0 Q49_3 Q49_1 Q49_4 gn27 qds qej) hZ (hwi hw 27 rfl) (hwi hw 4 rfl) (by decide) (by decide)) q107a q107c (g := (mkF m 285 #[vI p0, vJ q1, s_, vI p2, vI p3, vI z6, vR b1, vD z141, s_, vD z146, s_, vR b27, u_, u_] [(.double z141), (.ref b27)])) rfl (by rw [hml]; rfl) (Steps.refl _) (argsL := [(.double z141)]) (rest := []) (lenOf pd_9 rfl) rfl (by show 2 * 0 + _ ≤ _; exact Nat.le_of_eq rfl) (hb hby at_285) (fun _ _ => ⟨rfl, rfl, (by decide : 3 + 0 ≤ _), (by decide : 44 + 0 ≤ _)⟩)
            dsimp only [Pt.U, Pt.locs, Pt.cells, Pt.slots] at X107 ql107 qy107 qz107 st107 hQ107
            subst ql107 qy107 qz107
            obtain ⟨qnv, rfl, N107q, K107q, Q107_0, Q107_1, Q107_2, Q107_3⟩ := hQ107
            have N107 := Fr.app N49 N107q
            have K108 : Keep h0 T107.heap [] := Keep.trans K50 K107q (allS (Or.inr gz27) all0)
            have g294_1 := Gmn (Or.inr qc5) tvN nn_z146 qci
            have qek : (¬ (0 : Int32) < cmpValue (FP.dcmp qO z146) .g) → ¬ (0 : Int32) < cmpValue (FP.dcmp qbj z146) .g := fun q q' => q (g294_1.mpr ⟨q', Gna _⟩)
            have f109 := (Q49_5.keep K107q (ninS (Ne.symm (Nat.ne_of_lt (Nat.lt_of_lt_of_le (A27).lt qv))) nin0))
            obtain ⟨cq110, kq110, q110a, q110b, q110c⟩ := isOf hZ rfl Q107_3
            obtain ⟨_, _, ⟨T110, L110, k110, n110⟩, -, X110, ⟨Lc110, hQ110, ql110, qy110, qz110⟩, st110⟩ := X107.virtualBack hx (y := (⟨MTc, "firstBy", "(D)I"⟩ : MethodName)) (z := (⟨MTc, "firstBy", "(D)I"⟩ : MethodName)) hown (mvT hZ (hwi hw 23 rfl)) (mvT hZ (hwi hw 24 rfl)) (notFace_of_selects (args := #[]) (mvT hZ (hwi hw 26 rfl))) (mvT hZ (hwi hw 26 rfl)) (mvT hZ (hwi hw 25 rfl)) (by decide) (backOf (W := 0) (rm5w l Z a0 hw [] b27 z146 qcm (9221120237041090560 : UInt64) qO qbj (9221120237041090560 : UInt64) qq (9221120237041090560 : UInt64) (9221120237041090560 : UInt64) (9221120237041090560 : UInt64) qs qbC (9221120237041090560 : UInt64) (9221120237041090560 : UInt64) (9221120237041090560 : UInt64) (9221120237041090560 : UInt64) (9221120237041090560 : UInt64) (9221120237041090560 : UInt64) z25 z40 z55 z70 (9221120237041090560 : UInt64) (9221120237041090560 : UInt64) (9221120237041090560 : UInt64) (9221120237041090560 : UInt64) (9221120237041090560 : UInt64) (9221120237041090560 : UInt64) (9221120237041090560 : UInt64) (9221120237041090560 : UInt64) (9221120237041090560 : UInt64) (9221120237041090560 : UInt64) (9221120237041090560 : UInt64) (9221120237041090560 : UInt64) qb2 qnv ql T107.heap n0 (Nat.le_trans (Nat.le_trans (Nat.le_trans (Nat.le_trans (Nat.le_trans (Nat.le_trans (Nat.le_trans (Nat.le_trans (Nat.le_trans (Nat.le_trans (Nat.le_trans (Nat.le_trans (Nat.le_trans (Nat.le_trans (Nat.le_trans (Nat.le_trans Z0 E1.1) (Keep.of_wr W4).1) (Keep.of_wr W7).1) (Keep.of_wr W10).1) (Keep.of_wr W13).1) (Keep.of_wr W16).1) (Keep.of_wr W19).1) (Keep.of_wr W22).1) (Keep.of_wr W25).1) E27.1) K29q.1) K34q.1) K39q.1) K44q.1) K49q.1) K107q.1) f109 ((Nat.ne_of_lt (Nat.lt_of_lt_of_le (A27).lt qv))) Q107_0 Q107_1 Q107_2 Q107_3 gn27 qdt qek) hZ (hwi hw 27 rfl) (hwi hw 4 rfl) (by decide) (by decide)) q110a q110c (g := (mkF m 294 #[vI p0, vJ q1, s_, vI p2, vI p3, vI z6, vR b1, vD z141, s_, vD z146, s_, vR b27, vI qh, u_] [(.double z146), (.ref b27)])) rfl (by rw [hml]; rfl) (Steps.refl _) (argsL := [(.double z146)]) (rest := []) (lenOf pd_9 rfl) rfl (by show 2 * 0 + _ ≤ _; exact Nat.le_of_eq rfl) (hb hby at_294) (fun _ _ => ⟨rfl, rfl, (by decide : 3 + 0 ≤ _), (by decide : 44 + 0 ≤ _)⟩)
            dsimp only [Pt.U, Pt.locs, Pt.cells, Pt.slots] at X110 ql110 qy110 qz110 st110 hQ110
            subst ql110 qy110 qz110
            obtain ⟨qoi, rfl, N110q, K110q, Q110_0, Q110_1, Q110_2, Q110_3⟩ := hQ110
            have N110 := Fr.app N107 N110q
            have K111 : Keep h0 T110.heap [] := Keep.trans K108 K110q (allS (Or.inr gz27) all0)
            have f112 := (((f47.keep K49q (ninS (Nat.ne_of_lt (Nat.lt_of_lt_of_le (V25).lt (Nat.le_of_eq g27.symm))) (ninS (Nat.ne_of_lt (Nat.lt_of_lt_of_le ((V25.ext E27)).lt qv)) nin0))).keep K107q (ninS (Nat.ne_of_lt (Nat.lt_of_lt_of_le (V25).lt (Nat.le_of_eq g27.symm))) nin0)).keep K110q (ninS (Nat.ne_of_lt (Nat.lt_of_lt_of_le (V25).lt (Nat.le_of_eq g27.symm))) nin0))
            obtain ⟨_, _, ⟨T113, L113, k113, n113⟩, -, X113, ⟨Lc113, hQ113, ql113, qy113, qz113⟩, st113⟩ := Jvm.LawKit.callS X110 hx (y := (⟨"com/example/kinetic_fleet/kineticfleet/fleet/MachineTimesFirstByPinLaw", "ref", "([DID)I"⟩ : MethodName)) hown (mvT hZ (hwi hw 28 rfl)) (mvT hZ (hwi hw 29 rfl)) (mvT hZ (hwi hw 30 rfl)) (mvT hZ (hwi hw 31 rfl)) (by decide) (backOf (W := 1) (rm6w l Z a0 hw [] b1 z6 z141 k1 z25 z40 z55 z70 z85 z100 z116 z132 qb9 T110.heap n0 (Nat.le_trans (Nat.le_trans (Nat.le_trans (Nat.le_trans (Nat.le_trans (Nat.le_trans (Nat.le_trans (Nat.le_trans (Nat.le_trans (Nat.le_trans (Nat.le_trans (Nat.le_trans (Nat.le_trans (Nat.le_trans (Nat.le_trans (Nat.le_trans (Nat.le_trans Z0 E1.1) (Keep.of_wr W4).1) (Keep.of_wr W7).1) (Keep.of_wr W10).1) (Keep.of_wr W13).1) (Keep.of_wr W16).1) (Keep.of_wr W19).1) (Keep.of_wr W22).1) (Keep.of_wr W25).1) E27.1) K29q.1) K34q.1) K39q.1) K44q.1) K49q.1) K107q.1) K110q.1) f112 qdu) hZ (hwi hw 31 rfl) (hwi hw 30 rfl) (by decide) (by decide)) (g := (mkF m 307 #[vI p0, vJ q1, s_, vI p2, vI p3, vI z6, vR b1, vD z141, s_, vD z146, s_, vR b27, vI qh, vI ql] [(.double z141), (.int z6), (.ref b1), (.int qh)])) rfl (by rw [hml]; rfl) (argsL := [(.ref b1), (.int z6), (.double z141)]) (rest := [(.int qh)]) (lenOf pd_10 rfl) rfl (by show 2 * 0 + _ ≤ _; exact Nat.le_of_eq rfl) (hb hby at_307) (fun _ _ => ⟨rfl, rfl, (by decide : 3 + 0 ≤ _), (by decide : 44 + 0 ≤ _)⟩)
            dsimp only [Pt.U, Pt.locs, Pt.cells, Pt.slots] at X113 ql113 qy113 qz113 st113 hQ113
            subst ql113 qy113 qz113
            obtain ⟨rfl, N113q, e113⟩ := hQ113
            have N113 := Fr.app N110 N113q
            have g285_8 := Gmn (Or.inr nn_z25) (Or.inr nn_z40) nn_z141 qbX
            have g285_9 := Gmn (Or.inr nn_z55) (Or.inr nn_z70) nn_z141 qc0
            have g285_10 := Gmn tvN tvN nn_z141 invN
            have g285_11 := Gmn tvN tvN nn_z141 invN
            have g285_4 := Gmn (Or.inr qI) (Or.inr qbD) nn_z141 qbE
            have g285_5 := Gmn tvN tvN nn_z141 invN
            have g285_2 := Gmn (Or.inr qw) tvN nn_z141 qbR
            have A285 := g285_4.trans (and_congr g285_8 g285_9)
            have R285 := (g285_1.trans (show _ ↔ _ from ⟨fun q => q.1, fun q => ⟨q, Gna _⟩⟩)).trans (g285_2.trans (and_congr A285 (g285_5.trans (and_congr g285_10 g285_11))))
            have F285 := first8 g285_8 A285 g285_10 R285
            have f285 : qh = (if (0 : Int32) < cmpValue (FP.dcmp z25 z141) .g then (if (0 : Int32) < cmpValue (FP.dcmp z40 z141) .g then (if (0 : Int32) < cmpValue (FP.dcmp z55 z141) .g then (if (0 : Int32) < cmpValue (FP.dcmp z70 z141) .g then (0 : Int32) else (4 : Int32)) else (3 : Int32)) else (2 : Int32)) else (1 : Int32)) := by
              rw [← qds]; unfold fbf; rw [F285]
              simp only [if_pos (Gna z141)]
            have e307 : qb9 = (if (0 : Int32) < cmpValue (FP.dcmp z25 z141) .g then (if (0 : Int32) < cmpValue (FP.dcmp z40 z141) .g then (if (0 : Int32) < cmpValue (FP.dcmp z55 z141) .g then (if (0 : Int32) < cmpValue (FP.dcmp z70 z141) .g then (0 : Int32) else (4 : Int32)) else (3 : Int32)) else (2 : Int32)) else (1 : Int32)) := by
              rw [← qdu]; unfold rff
              simp only [if_pos hb160, if_pos hb175, if_pos hb190, if_pos hb205, if_neg hb220, if_neg (up1 hb220 (show (4 : Int32) < (5 : Int32) by decide)), if_neg (up1 hb220 (show (4 : Int32) < (6 : Int32) by decide)), if_neg (up1 hb220 (show (4 : Int32) < (7 : Int32) by decide))]
            have br310 : qh = qb9 := f285.trans e307.symm
            obtain ⟨_, _, ⟨T114, L114, k114, n114⟩, -, X114, ⟨Lc114, hQ114, ql114, qy114, qz114⟩, st114⟩ := Jvm.LawKit.callS X113 hx (y := (⟨"com/example/kinetic_fleet/kineticfleet/fleet/MachineTimesFirstByPinLaw", "ref", "([DID)I"⟩ : MethodName)) hown (mvT hZ (hwi hw 28 rfl)) (mvT hZ (hwi hw 29 rfl)) (mvT hZ (hwi hw 30 rfl)) (mvT hZ (hwi hw 31 rfl)) (by decide) (backOf (W := 1) (rm6w l Z a0 hw [] b1 z6 z146 k1 z25 z40 z55 z70 z85 z100 z116 z132 qca T110.heap n0 (Nat.le_trans (Nat.le_trans (Nat.le_trans (Nat.le_trans (Nat.le_trans (Nat.le_trans (Nat.le_trans (Nat.le_trans (Nat.le_trans (Nat.le_trans (Nat.le_trans (Nat.le_trans (Nat.le_trans (Nat.le_trans (Nat.le_trans (Nat.le_trans (Nat.le_trans Z0 E1.1) (Keep.of_wr W4).1) (Keep.of_wr W7).1) (Keep.of_wr W10).1) (Keep.of_wr W13).1) (Keep.of_wr W16).1) (Keep.of_wr W19).1) (Keep.of_wr W22).1) (Keep.of_wr W25).1) E27.1) K29q.1) K34q.1) K39q.1) K44q.1) K49q.1) K107q.1) K110q.1) f112 qdv) hZ (hwi hw 31 rfl) (hwi hw 30 rfl) (by decide) (by decide)) (g := (mkF m 321 #[vI p0, vJ q1, s_, vI p2, vI p3, vI z6, vR b1, vD z141, s_, vD z146, s_, vR b27, vI qh, vI ql] [(.double z146), (.int z6), (.ref b1), (.int ql)])) rfl (by rw [hml]; rfl) (argsL := [(.ref b1), (.int z6), (.double z146)]) (rest := [(.int ql)]) (lenOf pd_10 rfl) rfl (by show 2 * 0 + _ ≤ _; exact Nat.le_of_eq rfl) (hb hby at_321) (fun _ _ => ⟨rfl, e113, (by decide : 3 + 0 ≤ _), (by decide : 44 + 0 ≤ _)⟩)
            dsimp only [Pt.U, Pt.locs, Pt.cells, Pt.slots] at X114 ql114 qy114 qz114 st114 hQ114
            subst ql114 qy114 qz114
            obtain ⟨rfl, N114q, e114⟩ := hQ114
            have N114 := Fr.app N113 N114q
            have g294_8 := Gmn (Or.inr nn_z25) (Or.inr nn_z40) nn_z146 qbX
            have g294_9 := Gmn (Or.inr nn_z55) (Or.inr nn_z70) nn_z146 qc0
            have g294_10 := Gmn tvN tvN nn_z146 invN
            have g294_11 := Gmn tvN tvN nn_z146 invN
            have g294_4 := Gmn (Or.inr qI) (Or.inr qbD) nn_z146 qbE
            have g294_5 := Gmn tvN tvN nn_z146 invN
            have g294_2 := Gmn (Or.inr qw) tvN nn_z146 qbR
            have A294 := g294_4.trans (and_congr g294_8 g294_9)
            have R294 := (g294_1.trans (show _ ↔ _ from ⟨fun q => q.1, fun q => ⟨q, Gna _⟩⟩)).trans (g294_2.trans (and_congr A294 (g294_5.trans (and_congr g294_10 g294_11))))
            have F294 := first8 g294_8 A294 g294_10 R294
            have f294 : ql = (if (0 : Int32) < cmpValue (FP.dcmp z25 z146) .g then (if (0 : Int32) < cmpValue (FP.dcmp z40 z146) .g then (if (0 : Int32) < cmpValue (FP.dcmp z55 z146) .g then (if (0 : Int32) < cmpValue (FP.dcmp z70 z146) .g then (0 : Int32) else (4 : Int32)) else (3 : Int32)) else (2 : Int32)) else (1 : Int32)) := by
              rw [← qdt]; unfold fbf; rw [F294]
              simp only [if_pos (Gna z146)]
            have e321 : qca = (if (0 : Int32) < cmpValue (FP.dcmp z25 z146) .g then (if (0 : Int32) < cmpValue (FP.dcmp z40 z146) .g then (if (0 : Int32) < cmpValue (FP.dcmp z55 z146) .g then (if (0 : Int32) < cmpValue (FP.dcmp z70 z146) .g then (0 : Int32) else (4 : Int32)) else (3 : Int32)) else (2 : Int32)) else (1 : Int32)) := by
              rw [← qdv]; unfold rff
              simp only [if_pos hb160, if_pos hb175, if_pos hb190, if_pos hb205, if_neg hb220, if_neg (up1 hb220 (show (4 : Int32) < (5 : Int32) by decide)), if_neg (up1 hb220 (show (4 : Int32) < (6 : Int32) by decide)), if_neg (up1 hb220 (show (4 : Int32) < (7 : Int32) by decide))]
            have br324 : ql = qca := f294.trans e321.symm
            have c115 : ∀ t, Steps p.tables e below (T114.setTop (mkF m 332 #[vI p0, vJ q1, s_, vI p2, vI p3, vI z6, vR b1, vD z141, s_, vD z146, s_, vR b27, vI qh, vI ql] [(.int (1 : Int32))])) t → Steps p.tables e below (s₁.setTop (entryFrame m #[(.int p0), (.long q1), (.int p2), (.int p3)] maxLocals)) t := by
              intro t k
              refine c51 t ?_
              show Steps p.tables e below (T49.setTop (mkF m 220 #[vI p0, vJ q1, s_, vI p2, vI p3, vI z6, vR b1, vD z141, s_, vD z146, s_, vR b27, u_, u_] [(.int (4 : Int32)), (.int z6)])) _
              refine XS.icmpYes X49.here hx rfl (pc0 := 220) (pc' := 232) rfl (hb hby at_220) rfl (Jvm.Free.XT.ii_le_t hb220) (by decide) (by decide) ?_
              refine XS.iload X49.here hx rfl (hb hby at_232) rfl ?_
              refine XS.iconst X49.here hx rfl (hb hby at_234) ?_
              refine XS.icmpYes X49.here hx rfl (pc0 := 235) (pc' := 247) rfl (hb hby at_235) rfl (Jvm.Free.XT.ii_le_t (up1 hb220 (by decide))) (by decide) (by decide) ?_
              refine XS.iload X49.here hx rfl (hb hby at_247) rfl ?_
              refine XS.bipush X49.here hx rfl (hb hby at_249) ?_
              show Steps p.tables e below (T49.setTop (mkF m 251 #[vI p0, vJ q1, s_, vI p2, vI p3, vI z6, vR b1, vD z141, s_, vD z146, s_, vR b27, u_, u_] [(.int (6 : Int32)), (.int z6)])) _
              refine XS.icmpYes X49.here hx rfl (pc0 := 251) (pc' := 264) rfl (hb hby at_251) rfl (Jvm.Free.XT.ii_le_t (up1 hb220 (by decide))) (by decide) (by decide) ?_
              refine XS.iload X49.here hx rfl (hb hby at_264) rfl ?_
              refine XS.bipush X49.here hx rfl (hb hby at_266) ?_
              refine XS.icmpYes X49.here hx rfl (pc0 := 268) (pc' := 281) rfl (hb hby at_268) rfl (Jvm.Free.XT.ii_le_t (up1 hb220 (by decide))) (by decide) (by decide) ?_
              refine XS.aload X49.here hx rfl (hb hby at_281) rfl rfl ?_
              refine XS.dload X49.here hx rfl (hb hby at_283) rfl ?_
              show Steps p.tables e below (T49.setTop (mkF m 285 #[vI p0, vJ q1, s_, vI p2, vI p3, vI z6, vR b1, vD z141, s_, vD z146, s_, vR b27, u_, u_] [(.double z141), (.ref b27)])) _
              refine st107.trans ?_
              show Steps p.tables e below (T107.setTop (mkF m 288 #[vI p0, vJ q1, s_, vI p2, vI p3, vI z6, vR b1, vD z141, s_, vD z146, s_, vR b27, u_, u_] [(.int qh)])) _
              refine XS.istore X107.here hx rfl (hb hby at_288) rfl (l' := #[vI p0, vJ q1, s_, vI p2, vI p3, vI z6, vR b1, vD z141, s_, vD z146, s_, vR b27, vI qh, u_]) rfl ?_
              refine XS.aload X107.here hx rfl (hb hby at_290) rfl rfl ?_
              refine XS.dload X107.here hx rfl (hb hby at_292) rfl ?_
              refine st110.trans ?_
              show Steps p.tables e below (T110.setTop (mkF m 297 #[vI p0, vJ q1, s_, vI p2, vI p3, vI z6, vR b1, vD z141, s_, vD z146, s_, vR b27, vI qh, u_] [(.int ql)])) _
              refine XS.istore X110.here hx rfl (hb hby at_297) rfl (l' := #[vI p0, vJ q1, s_, vI p2, vI p3, vI z6, vR b1, vD z141, s_, vD z146, s_, vR b27, vI qh, vI ql]) rfl ?_
              refine XS.iload X110.here hx rfl (hb hby at_299) rfl ?_
              refine XS.aload X110.here hx rfl (hb hby at_301) rfl rfl ?_
              refine XS.iload X110.here hx rfl (hb hby at_303) rfl ?_
              refine XS.dload X110.here hx rfl (hb hby at_305) rfl ?_
              refine st113 _ ?_
              show Steps p.tables e below (T113.setTop (mkF m 310 #[vI p0, vJ q1, s_, vI p2, vI p3, vI z6, vR b1, vD z141, s_, vD z146, s_, vR b27, vI qh, vI ql] [(.int qb9), (.int qh)])) _
              refine XS.icmpNo X113.here hx rfl (hb hby at_310) rfl (Jvm.Free.XT.ii_ne_f br310) ?_
              refine XS.iload X113.here hx rfl (hb hby at_313) rfl ?_
              refine XS.aload X113.here hx rfl (hb hby at_315) rfl rfl ?_
              refine XS.iload X113.here hx rfl (hb hby at_317) rfl ?_
              refine XS.dload X113.here hx rfl (hb hby at_319) rfl ?_
              refine st114 _ ?_
              show Steps p.tables e below (T114.setTop (mkF m 324 #[vI p0, vJ q1, s_, vI p2, vI p3, vI z6, vR b1, vD z141, s_, vD z146, s_, vR b27, vI qh, vI ql] [(.int qca), (.int ql)])) _
              refine XS.icmpNo X114.here hx rfl (hb hby at_324) rfl (Jvm.Free.XT.ii_ne_f br324) ?_
              refine XS.iconst X114.here hx rfl (hb hby at_327) ?_
              refine XS.goto X114.here hx rfl (pc0 := 328) (pc' := 332) rfl (hb hby at_328) (by decide) (by decide) ?_
              exact k
            obtain ⟨fs, hr, hrun, hended, hW, hsame⟩ := X114.leave (v := some (.int (1 : Int32))) (fun h => by rw [Bd.returns] at h; cases h)
            refine ⟨_, _, c115 _ ?_, hrun, hended, _, _, rfl, ?_, ⟨_, rfl⟩, hW, hsame.mono (by decide) (by decide)⟩
            · show Steps p.tables e below (T114.setTop (mkF m 332 #[vI p0, vJ q1, s_, vI p2, vI p3, vI z6, vR b1, vD z141, s_, vD z146, s_, vR b27, vI qh, vI ql] [(.int (1 : Int32))])) _
              exact retOut X114 hx Bd.returns rfl (Or.inl ⟨rfl, by simp, _, rfl⟩) (hb hby at_332) hr
            · show Q0 n0 _ T114.heap _
              rw [e114]
              exact ⟨rfl, by first | assumption | exact N0⟩
        · skip
          obtain ⟨qh, qds⟩ : ∃ z : Int32, fbf qN qb8 qs (9221120237041090560 : UInt64) z25 z55 (9221120237041090560 : UInt64) (9221120237041090560 : UInt64) z141 = z := ⟨_, rfl⟩
          obtain ⟨ql, qdt⟩ : ∃ z : Int32, fbf qN qb8 qs (9221120237041090560 : UInt64) z25 z55 (9221120237041090560 : UInt64) (9221120237041090560 : UInt64) z146 = z := ⟨_, rfl⟩
          obtain ⟨qb9, qdu⟩ : ∃ z : Int32, rff z6 z25 z40 z55 z70 z85 z100 z116 z132 z141 = z := ⟨_, rfl⟩
          obtain ⟨qca, qdv⟩ : ∃ z : Int32, rff z6 z25 z40 z55 z70 z85 z100 z116 z132 z146 = z := ⟨_, rfl⟩
          have g285_1 := Gmn (Or.inr qc4) tvN nn_z141 qch
          have qej : (¬ (0 : Int32) < cmpValue (FP.dcmp qN z141) .g) → ¬ (0 : Int32) < cmpValue (FP.dcmp qbi z141) .g := fun q q' => q (g285_1.mpr ⟨q', Gna _⟩)
          obtain ⟨cq116, kq116, q116a, q116b, q116c⟩ := isOf hZ rfl Q44_4
          obtain ⟨_, _, ⟨T116, L116, k116, n116⟩, -, X116, ⟨Lc116, hQ116, ql116, qy116, qz116⟩, st116⟩ := X44.virtualBack hx (y := (⟨MTc, "firstBy", "(D)I"⟩ : MethodName)) (z := (⟨MTc, "firstBy", "(D)I"⟩ : MethodName)) hown (mvT hZ (hwi hw 23 rfl)) (mvT hZ (hwi hw 24 rfl)) (notFace_of_selects (args := #[]) (mvT hZ (hwi hw 26 rfl))) (mvT hZ (hwi hw 26 rfl)) (mvT hZ (hwi hw 25 rfl)) (by decide) (backOf (W := 0) (rm5w l Z a0 hw [] b27 z141 qcm (9221120237041090560 : UInt64) qN qbi (9221120237041090560 : UInt64) qb8 (9221120237041090560 : UInt64) (9221120237041090560 : UInt64) (9221120237041090560 : UInt64) qs qdD (9221120237041090560 : UInt64) (9221120237041090560 : UInt64) (9221120237041090560 : UInt64) (9221120237041090560 : UInt64) (9221120237041090560 : UInt64) (9221120237041090560 : UInt64) z25 z40 z55 (9221120237041090560 : UInt64) (9221120237041090560 : UInt64) (9221120237041090560 : UInt64) (9221120237041090560 : UInt64) (9221120237041090560 : UInt64) (9221120237041090560 : UInt64) (9221120237041090560 : UInt64) (9221120237041090560 : UInt64) (9221120237041090560 : UInt64) (9221120237041090560 : UInt64) (9221120237041090560 : UInt64) (9221120237041090560 : UInt64) (9221120237041090560 : UInt64) qb2 x44_x12_vx_visits_o0 qh T44.heap n0 (Nat.le_trans (Nat.le_trans (Nat.le_trans (Nat.le_trans (Nat.le_trans (Nat.le_trans (Nat.le_trans (Nat.le_trans (Nat.le_trans (Nat.le_trans (Nat.le_trans (Nat.le_trans (Nat.le_trans (Nat.le_trans Z0 E1.1) (Keep.of_wr W4).1) (Keep.of_wr W7).1) (Keep.of_wr W10).1) (Keep.of_wr W13).1) (Keep.of_wr W16).1) (Keep.of_wr W19).1) (Keep.of_wr W22).1) (Keep.of_wr W25).1) E27.1) K29q.1) K34q.1) K39q.1) K44q.1) Q44_5 ((Nat.ne_of_lt (Nat.lt_of_lt_of_le (A27).lt qv))) Q44_0 Q44_3 Q44_1 Q44_4 gn27 qds qej) hZ (hwi hw 27 rfl) (hwi hw 4 rfl) (by decide) (by decide)) q116a q116c (g := (mkF m 285 #[vI p0, vJ q1, s_, vI p2, vI p3, vI z6, vR b1, vD z141, s_, vD z146, s_, vR b27, u_, u_] [(.double z141), (.ref b27)])) rfl (by rw [hml]; rfl) (Steps.refl _) (argsL := [(.double z141)]) (rest := []) (lenOf pd_9 rfl) rfl (by show 2 * 0 + _ ≤ _; exact Nat.le_of_eq rfl) (hb hby at_285) (fun _ _ => ⟨rfl, rfl, (by decide : 3 + 0 ≤ _), (by decide : 44 + 0 ≤ _)⟩)
          dsimp only [Pt.U, Pt.locs, Pt.cells, Pt.slots] at X116 ql116 qy116 qz116 st116 hQ116
          subst ql116 qy116 qz116
          obtain ⟨qnw, rfl, N116q, K116q, Q116_0, Q116_1, Q116_2, Q116_3⟩ := hQ116
          have N116 := Fr.app N44 N116q
          have K117 : Keep h0 T116.heap [] := Keep.trans K45 K116q (allS (Or.inr gz27) all0)
          have g294_1 := Gmn (Or.inr qc4) tvN nn_z146 qch
          have qek : (¬ (0 : Int32) < cmpValue (FP.dcmp qN z146) .g) → ¬ (0 : Int32) < cmpValue (FP.dcmp qbi z146) .g := fun q q' => q (g294_1.mpr ⟨q', Gna _⟩)
          have f118 := (Q44_5.keep K116q (ninS (Ne.symm (Nat.ne_of_lt (Nat.lt_of_lt_of_le (A27).lt qv))) nin0))
          obtain ⟨cq119, kq119, q119a, q119b, q119c⟩ := isOf hZ rfl Q116_3
          obtain ⟨_, _, ⟨T119, L119, k119, n119⟩, -, X119, ⟨Lc119, hQ119, ql119, qy119, qz119⟩, st119⟩ := X116.virtualBack hx (y := (⟨MTc, "firstBy", "(D)I"⟩ : MethodName)) (z := (⟨MTc, "firstBy", "(D)I"⟩ : MethodName)) hown (mvT hZ (hwi hw 23 rfl)) (mvT hZ (hwi hw 24 rfl)) (notFace_of_selects (args := #[]) (mvT hZ (hwi hw 26 rfl))) (mvT hZ (hwi hw 26 rfl)) (mvT hZ (hwi hw 25 rfl)) (by decide) (backOf (W := 0) (rm5w l Z a0 hw [] b27 z146 qcm (9221120237041090560 : UInt64) qN qbi (9221120237041090560 : UInt64) qb8 (9221120237041090560 : UInt64) (9221120237041090560 : UInt64) (9221120237041090560 : UInt64) qs qdD (9221120237041090560 : UInt64) (9221120237041090560 : UInt64) (9221120237041090560 : UInt64) (9221120237041090560 : UInt64) (9221120237041090560 : UInt64) (9221120237041090560 : UInt64) z25 z40 z55 (9221120237041090560 : UInt64) (9221120237041090560 : UInt64) (9221120237041090560 : UInt64) (9221120237041090560 : UInt64) (9221120237041090560 : UInt64) (9221120237041090560 : UInt64) (9221120237041090560 : UInt64) (9221120237041090560 : UInt64) (9221120237041090560 : UInt64) (9221120237041090560 : UInt64) (9221120237041090560 : UInt64) (9221120237041090560 : UInt64) (9221120237041090560 : UInt64) qb2 qnw ql T116.heap n0 (Nat.le_trans (Nat.le_trans (Nat.le_trans (Nat.le_trans (Nat.le_trans (Nat.le_trans (Nat.le_trans (Nat.le_trans (Nat.le_trans (Nat.le_trans (Nat.le_trans (Nat.le_trans (Nat.le_trans (Nat.le_trans (Nat.le_trans Z0 E1.1) (Keep.of_wr W4).1) (Keep.of_wr W7).1) (Keep.of_wr W10).1) (Keep.of_wr W13).1) (Keep.of_wr W16).1) (Keep.of_wr W19).1) (Keep.of_wr W22).1) (Keep.of_wr W25).1) E27.1) K29q.1) K34q.1) K39q.1) K44q.1) K116q.1) f118 ((Nat.ne_of_lt (Nat.lt_of_lt_of_le (A27).lt qv))) Q116_0 Q116_1 Q116_2 Q116_3 gn27 qdt qek) hZ (hwi hw 27 rfl) (hwi hw 4 rfl) (by decide) (by decide)) q119a q119c (g := (mkF m 294 #[vI p0, vJ q1, s_, vI p2, vI p3, vI z6, vR b1, vD z141, s_, vD z146, s_, vR b27, vI qh, u_] [(.double z146), (.ref b27)])) rfl (by rw [hml]; rfl) (Steps.refl _) (argsL := [(.double z146)]) (rest := []) (lenOf pd_9 rfl) rfl (by show 2 * 0 + _ ≤ _; exact Nat.le_of_eq rfl) (hb hby at_294) (fun _ _ => ⟨rfl, rfl, (by decide : 3 + 0 ≤ _), (by decide : 44 + 0 ≤ _)⟩)
          dsimp only [Pt.U, Pt.locs, Pt.cells, Pt.slots] at X119 ql119 qy119 qz119 st119 hQ119
          subst ql119 qy119 qz119
          obtain ⟨qoj, rfl, N119q, K119q, Q119_0, Q119_1, Q119_2, Q119_3⟩ := hQ119
          have N119 := Fr.app N116 N119q
          have K120 : Keep h0 T119.heap [] := Keep.trans K117 K119q (allS (Or.inr gz27) all0)
          have f121 := (((f42.keep K44q (ninS (Nat.ne_of_lt (Nat.lt_of_lt_of_le (V25).lt (Nat.le_of_eq g27.symm))) (ninS (Nat.ne_of_lt (Nat.lt_of_lt_of_le ((V25.ext E27)).lt qv)) nin0))).keep K116q (ninS (Nat.ne_of_lt (Nat.lt_of_lt_of_le (V25).lt (Nat.le_of_eq g27.symm))) nin0)).keep K119q (ninS (Nat.ne_of_lt (Nat.lt_of_lt_of_le (V25).lt (Nat.le_of_eq g27.symm))) nin0))
          obtain ⟨_, _, ⟨T122, L122, k122, n122⟩, -, X122, ⟨Lc122, hQ122, ql122, qy122, qz122⟩, st122⟩ := Jvm.LawKit.callS X119 hx (y := (⟨"com/example/kinetic_fleet/kineticfleet/fleet/MachineTimesFirstByPinLaw", "ref", "([DID)I"⟩ : MethodName)) hown (mvT hZ (hwi hw 28 rfl)) (mvT hZ (hwi hw 29 rfl)) (mvT hZ (hwi hw 30 rfl)) (mvT hZ (hwi hw 31 rfl)) (by decide) (backOf (W := 1) (rm6w l Z a0 hw [] b1 z6 z141 k1 z25 z40 z55 z70 z85 z100 z116 z132 qb9 T119.heap n0 (Nat.le_trans (Nat.le_trans (Nat.le_trans (Nat.le_trans (Nat.le_trans (Nat.le_trans (Nat.le_trans (Nat.le_trans (Nat.le_trans (Nat.le_trans (Nat.le_trans (Nat.le_trans (Nat.le_trans (Nat.le_trans (Nat.le_trans (Nat.le_trans Z0 E1.1) (Keep.of_wr W4).1) (Keep.of_wr W7).1) (Keep.of_wr W10).1) (Keep.of_wr W13).1) (Keep.of_wr W16).1) (Keep.of_wr W19).1) (Keep.of_wr W22).1) (Keep.of_wr W25).1) E27.1) K29q.1) K34q.1) K39q.1) K44q.1) K116q.1) K119q.1) f121 qdu) hZ (hwi hw 31 rfl) (hwi hw 30 rfl) (by decide) (by decide)) (g := (mkF m 307 #[vI p0, vJ q1, s_, vI p2, vI p3, vI z6, vR b1, vD z141, s_, vD z146, s_, vR b27, vI qh, vI ql] [(.double z141), (.int z6), (.ref b1), (.int qh)])) rfl (by rw [hml]; rfl) (argsL := [(.ref b1), (.int z6), (.double z141)]) (rest := [(.int qh)]) (lenOf pd_10 rfl) rfl (by show 2 * 0 + _ ≤ _; exact Nat.le_of_eq rfl) (hb hby at_307) (fun _ _ => ⟨rfl, rfl, (by decide : 3 + 0 ≤ _), (by decide : 44 + 0 ≤ _)⟩)
          dsimp only [Pt.U, Pt.locs, Pt.cells, Pt.slots] at X122 ql122 qy122 qz122 st122 hQ122
          subst ql122 qy122 qz122
          obtain ⟨rfl, N122q, e122⟩ := hQ122
          have N122 := Fr.app N119 N122q
          have g285_8 := Gmn (Or.inr nn_z25) (Or.inr nn_z40) nn_z141 qbX
          have g285_9 := Gmn (Or.inr nn_z55) tvN nn_z141 qe7
          have g285_10 := Gmn tvN tvN nn_z141 invN
          have g285_11 := Gmn tvN tvN nn_z141 invN
          have g285_4 := Gmn (Or.inr qI) (Or.inr qcD) nn_z141 qc8
          have g285_5 := Gmn tvN tvN nn_z141 invN
          have g285_2 := Gmn (Or.inr qcK) tvN nn_z141 qbQ
          have A285 := g285_4.trans (and_congr g285_8 g285_9)
          have R285 := (g285_1.trans (show _ ↔ _ from ⟨fun q => q.1, fun q => ⟨q, Gna _⟩⟩)).trans (g285_2.trans (and_congr A285 (g285_5.trans (and_congr g285_10 g285_11))))
          have F285 := first8 g285_8 A285 g285_10 R285
          have f285 : qh = (if (0 : Int32) < cmpValue (FP.dcmp z25 z141) .g then (if (0 : Int32) < cmpValue (FP.dcmp z40 z141) .g then (if (0 : Int32) < cmpValue (FP.dcmp z55 z141) .g then (0 : Int32) else (3 : Int32)) else (2 : Int32)) else (1 : Int32)) := by
            rw [← qds]; unfold fbf; rw [F285]
            simp only [if_pos (Gna z141)]
          have e307 : qb9 = (if (0 : Int32) < cmpValue (FP.dcmp z25 z141) .g then (if (0 : Int32) < cmpValue (FP.dcmp z40 z141) .g then (if (0 : Int32) < cmpValue (FP.dcmp z55 z141) .g then (0 : Int32) else (3 : Int32)) else (2 : Int32)) else (1 : Int32)) := by
            rw [← qdu]; unfold rff
            simp only [if_pos hb160, if_pos hb175, if_pos hb190, if_neg hb205, if_neg (up1 hb205 (show (3 : Int32) < (4 : Int32) by decide)), if_neg (up1 hb205 (show (3 : Int32) < (5 : Int32) by decide)), if_neg (up1 hb205 (show (3 : Int32) < (6 : Int32) by decide)), if_neg (up1 hb205 (show (3 : Int32) < (7 : Int32) by decide))]
          have br310 : qh = qb9 := f285.trans e307.symm
          obtain ⟨_, _, ⟨T123, L123, k123, n123⟩, -, X123, ⟨Lc123, hQ123, ql123, qy123, qz123⟩, st123⟩ := Jvm.LawKit.callS X122 hx (y := (⟨"com/example/kinetic_fleet/kineticfleet/fleet/MachineTimesFirstByPinLaw", "ref", "([DID)I"⟩ : MethodName)) hown (mvT hZ (hwi hw 28 rfl)) (mvT hZ (hwi hw 29 rfl)) (mvT hZ (hwi hw 30 rfl)) (mvT hZ (hwi hw 31 rfl)) (by decide) (backOf (W := 1) (rm6w l Z a0 hw [] b1 z6 z146 k1 z25 z40 z55 z70 z85 z100 z116 z132 qca T119.heap n0 (Nat.le_trans (Nat.le_trans (Nat.le_trans (Nat.le_trans (Nat.le_trans (Nat.le_trans (Nat.le_trans (Nat.le_trans (Nat.le_trans (Nat.le_trans (Nat.le_trans (Nat.le_trans (Nat.le_trans (Nat.le_trans (Nat.le_trans (Nat.le_trans Z0 E1.1) (Keep.of_wr W4).1) (Keep.of_wr W7).1) (Keep.of_wr W10).1) (Keep.of_wr W13).1) (Keep.of_wr W16).1) (Keep.of_wr W19).1) (Keep.of_wr W22).1) (Keep.of_wr W25).1) E27.1) K29q.1) K34q.1) K39q.1) K44q.1) K116q.1) K119q.1) f121 qdv) hZ (hwi hw 31 rfl) (hwi hw 30 rfl) (by decide) (by decide)) (g := (mkF m 321 #[vI p0, vJ q1, s_, vI p2, vI p3, vI z6, vR b1, vD z141, s_, vD z146, s_, vR b27, vI qh, vI ql] [(.double z146), (.int z6), (.ref b1), (.int ql)])) rfl (by rw [hml]; rfl) (argsL := [(.ref b1), (.int z6), (.double z146)]) (rest := [(.int ql)]) (lenOf pd_10 rfl) rfl (by show 2 * 0 + _ ≤ _; exact Nat.le_of_eq rfl) (hb hby at_321) (fun _ _ => ⟨rfl, e122, (by decide : 3 + 0 ≤ _), (by decide : 44 + 0 ≤ _)⟩)
          dsimp only [Pt.U, Pt.locs, Pt.cells, Pt.slots] at X123 ql123 qy123 qz123 st123 hQ123
          subst ql123 qy123 qz123
          obtain ⟨rfl, N123q, e123⟩ := hQ123
          have N123 := Fr.app N122 N123q
          have g294_8 := Gmn (Or.inr nn_z25) (Or.inr nn_z40) nn_z146 qbX
          have g294_9 := Gmn (Or.inr nn_z55) tvN nn_z146 qe7
          have g294_10 := Gmn tvN tvN nn_z146 invN
          have g294_11 := Gmn tvN tvN nn_z146 invN
          have g294_4 := Gmn (Or.inr qI) (Or.inr qcD) nn_z146 qc8
          have g294_5 := Gmn tvN tvN nn_z146 invN
          have g294_2 := Gmn (Or.inr qcK) tvN nn_z146 qbQ
          have A294 := g294_4.trans (and_congr g294_8 g294_9)
          have R294 := (g294_1.trans (show _ ↔ _ from ⟨fun q => q.1, fun q => ⟨q, Gna _⟩⟩)).trans (g294_2.trans (and_congr A294 (g294_5.trans (and_congr g294_10 g294_11))))
          have F294 := first8 g294_8 A294 g294_10 R294
          have f294 : ql = (if (0 : Int32) < cmpValue (FP.dcmp z25 z146) .g then (if (0 : Int32) < cmpValue (FP.dcmp z40 z146) .g then (if (0 : Int32) < cmpValue (FP.dcmp z55 z146) .g then (0 : Int32) else (3 : Int32)) else (2 : Int32)) else (1 : Int32)) := by
            rw [← qdt]; unfold fbf; rw [F294]
            simp only [if_pos (Gna z146)]
          have e321 : qca = (if (0 : Int32) < cmpValue (FP.dcmp z25 z146) .g then (if (0 : Int32) < cmpValue (FP.dcmp z40 z146) .g then (if (0 : Int32) < cmpValue (FP.dcmp z55 z146) .g then (0 : Int32) else (3 : Int32)) else (2 : Int32)) else (1 : Int32)) := by
            rw [← qdv]; unfold rff
            simp only [if_pos hb160, if_pos hb175, if_pos hb190, if_neg hb205, if_neg (up1 hb205 (show (3 : Int32) < (4 : Int32) by decide)), if_neg (up1 hb205 (show (3 : Int32) < (5 : Int32) by decide)), if_neg (up1 hb205 (show (3 : Int32) < (6 : Int32) by decide)), if_neg (up1 hb205 (show (3 : Int32) < (7 : Int32) by decide))]
          have br324 : ql = qca := f294.trans e321.symm
          have c124 : ∀ t, Steps p.tables e below (T123.setTop (mkF m 332 #[vI p0, vJ q1, s_, vI p2, vI p3, vI z6, vR b1, vD z141, s_, vD z146, s_, vR b27, vI qh, vI ql] [(.int (1 : Int32))])) t → Steps p.tables e below (s₁.setTop (entryFrame m #[(.int p0), (.long q1), (.int p2), (.int p3)] maxLocals)) t := by
            intro t k
            refine c46 t ?_
            show Steps p.tables e below (T44.setTop (mkF m 205 #[vI p0, vJ q1, s_, vI p2, vI p3, vI z6, vR b1, vD z141, s_, vD z146, s_, vR b27, u_, u_] [(.int (3 : Int32)), (.int z6)])) _
            refine XS.icmpYes X44.here hx rfl (pc0 := 205) (pc' := 217) rfl (hb hby at_205) rfl (Jvm.Free.XT.ii_le_t hb205) (by decide) (by decide) ?_
            refine XS.iload X44.here hx rfl (hb hby at_217) rfl ?_
            refine XS.iconst X44.here hx rfl (hb hby at_219) ?_
            refine XS.icmpYes X44.here hx rfl (pc0 := 220) (pc' := 232) rfl (hb hby at_220) rfl (Jvm.Free.XT.ii_le_t (up1 hb205 (by decide))) (by decide) (by decide) ?_
            refine XS.iload X44.here hx rfl (hb hby at_232) rfl ?_
            refine XS.iconst X44.here hx rfl (hb hby at_234) ?_
            show Steps p.tables e below (T44.setTop (mkF m 235 #[vI p0, vJ q1, s_, vI p2, vI p3, vI z6, vR b1, vD z141, s_, vD z146, s_, vR b27, u_, u_] [(.int (5 : Int32)), (.int z6)])) _
            refine XS.icmpYes X44.here hx rfl (pc0 := 235) (pc' := 247) rfl (hb hby at_235) rfl (Jvm.Free.XT.ii_le_t (up1 hb205 (by decide))) (by decide) (by decide) ?_
            refine XS.iload X44.here hx rfl (hb hby at_247) rfl ?_
            refine XS.bipush X44.here hx rfl (hb hby at_249) ?_
            refine XS.icmpYes X44.here hx rfl (pc0 := 251) (pc' := 264) rfl (hb hby at_251) rfl (Jvm.Free.XT.ii_le_t (up1 hb205 (by decide))) (by decide) (by decide) ?_
            refine XS.iload X44.here hx rfl (hb hby at_264) rfl ?_
            refine XS.bipush X44.here hx rfl (hb hby at_266) ?_
            show Steps p.tables e below (T44.setTop (mkF m 268 #[vI p0, vJ q1, s_, vI p2, vI p3, vI z6, vR b1, vD z141, s_, vD z146, s_, vR b27, u_, u_] [(.int (7 : Int32)), (.int z6)])) _
            refine XS.icmpYes X44.here hx rfl (pc0 := 268) (pc' := 281) rfl (hb hby at_268) rfl (Jvm.Free.XT.ii_le_t (up1 hb205 (by decide))) (by decide) (by decide) ?_
            refine XS.aload X44.here hx rfl (hb hby at_281) rfl rfl ?_
            refine XS.dload X44.here hx rfl (hb hby at_283) rfl ?_
            refine st116.trans ?_
            show Steps p.tables e below (T116.setTop (mkF m 288 #[vI p0, vJ q1, s_, vI p2, vI p3, vI z6, vR b1, vD z141, s_, vD z146, s_, vR b27, u_, u_] [(.int qh)])) _
            refine XS.istore X116.here hx rfl (hb hby at_288) rfl (l' := #[vI p0, vJ q1, s_, vI p2, vI p3, vI z6, vR b1, vD z141, s_, vD z146, s_, vR b27, vI qh, u_]) rfl ?_
            refine XS.aload X116.here hx rfl (hb hby at_290) rfl rfl ?_
            refine XS.dload X116.here hx rfl (hb hby at_292) rfl ?_
            refine st119.trans ?_
            show Steps p.tables e below (T119.setTop (mkF m 297 #[vI p0, vJ q1, s_, vI p2, vI p3, vI z6, vR b1, vD z141, s_, vD z146, s_, vR b27, vI qh, u_] [(.int ql)])) _
            refine XS.istore X119.here hx rfl (hb hby at_297) rfl (l' := #[vI p0, vJ q1, s_, vI p2, vI p3, vI z6, vR b1, vD z141, s_, vD z146, s_, vR b27, vI qh, vI ql]) rfl ?_
            refine XS.iload X119.here hx rfl (hb hby at_299) rfl ?_
            refine XS.aload X119.here hx rfl (hb hby at_301) rfl rfl ?_
            refine XS.iload X119.here hx rfl (hb hby at_303) rfl ?_
            refine XS.dload X119.here hx rfl (hb hby at_305) rfl ?_
            refine st122 _ ?_
            show Steps p.tables e below (T122.setTop (mkF m 310 #[vI p0, vJ q1, s_, vI p2, vI p3, vI z6, vR b1, vD z141, s_, vD z146, s_, vR b27, vI qh, vI ql] [(.int qb9), (.int qh)])) _
            refine XS.icmpNo X122.here hx rfl (hb hby at_310) rfl (Jvm.Free.XT.ii_ne_f br310) ?_
            refine XS.iload X122.here hx rfl (hb hby at_313) rfl ?_
            refine XS.aload X122.here hx rfl (hb hby at_315) rfl rfl ?_
            refine XS.iload X122.here hx rfl (hb hby at_317) rfl ?_
            refine XS.dload X122.here hx rfl (hb hby at_319) rfl ?_
            refine st123 _ ?_
            show Steps p.tables e below (T123.setTop (mkF m 324 #[vI p0, vJ q1, s_, vI p2, vI p3, vI z6, vR b1, vD z141, s_, vD z146, s_, vR b27, vI qh, vI ql] [(.int qca), (.int ql)])) _
            refine XS.icmpNo X123.here hx rfl (hb hby at_324) rfl (Jvm.Free.XT.ii_ne_f br324) ?_
            refine XS.iconst X123.here hx rfl (hb hby at_327) ?_
            refine XS.goto X123.here hx rfl (pc0 := 328) (pc' := 332) rfl (hb hby at_328) (by decide) (by decide) ?_
            exact k
          obtain ⟨fs, hr, hrun, hended, hW, hsame⟩ := X123.leave (v := some (.int (1 : Int32))) (fun h => by rw [Bd.returns] at h; cases h)
          refine ⟨_, _, c124 _ ?_, hrun, hended, _, _, rfl, ?_, ⟨_, rfl⟩, hW, hsame.mono (by decide) (by decide)⟩
          · show Steps p.tables e below (T123.setTop (mkF m 332 #[vI p0, vJ q1, s_, vI p2, vI p3, vI z6, vR b1, vD z141, s_, vD z146, s_, vR b27, vI qh, vI ql] [(.int (1 : Int32))])) _
            exact retOut X123 hx Bd.returns rfl (Or.inl ⟨rfl, by simp, _, rfl⟩) (hb hby at_332) hr
          · show Q0 n0 _ T123.heap _
            rw [e123]
            exact ⟨rfl, by first | assumption | exact N0⟩
      · skip
        obtain ⟨qh, qds⟩ : ∃ z : Int32, fbf qM qb7 qs (9221120237041090560 : UInt64) z25 (9221120237041090560 : UInt64) (9221120237041090560 : UInt64) (9221120237041090560 : UInt64) z141 = z := ⟨_, rfl⟩
        obtain ⟨ql, qdt⟩ : ∃ z : Int32, fbf qM qb7 qs (9221120237041090560 : UInt64) z25 (9221120237041090560 : UInt64) (9221120237041090560 : UInt64) (9221120237041090560 : UInt64) z146 = z := ⟨_, rfl⟩
        obtain ⟨qb9, qdu⟩ : ∃ z : Int32, rff z6 z25 z40 z55 z70 z85 z100 z116 z132 z141 = z := ⟨_, rfl⟩
        obtain ⟨qca, qdv⟩ : ∃ z : Int32, rff z6 z25 z40 z55 z70 z85 z100 z116 z132 z146 = z := ⟨_, rfl⟩
        have g285_1 := Gmn (Or.inr qc3) tvN nn_z141 qcg
        have qej : (¬ (0 : Int32) < cmpValue (FP.dcmp qM z141) .g) → ¬ (0 : Int32) < cmpValue (FP.dcmp qbh z141) .g := fun q q' => q (g285_1.mpr ⟨q', Gna _⟩)
        obtain ⟨cq125, kq125, q125a, q125b, q125c⟩ := isOf hZ rfl Q39_4
        obtain ⟨_, _, ⟨T125, L125, k125, n125⟩, -, X125, ⟨Lc125, hQ125, ql125, qy125, qz125⟩, st125⟩ := X39.virtualBack hx (y := (⟨MTc, "firstBy", "(D)I"⟩ : MethodName)) (z := (⟨MTc, "firstBy", "(D)I"⟩ : MethodName)) hown (mvT hZ (hwi hw 23 rfl)) (mvT hZ (hwi hw 24 rfl)) (notFace_of_selects (args := #[]) (mvT hZ (hwi hw 26 rfl))) (mvT hZ (hwi hw 26 rfl)) (mvT hZ (hwi hw 25 rfl)) (by decide) (backOf (W := 0) (rm5w l Z a0 hw [] b27 z141 qcm (9221120237041090560 : UInt64) qM qbh (9221120237041090560 : UInt64) qb7 (9221120237041090560 : UInt64) (9221120237041090560 : UInt64) (9221120237041090560 : UInt64) qs (9221120237041090560 : UInt64) (9221120237041090560 : UInt64) (9221120237041090560 : UInt64) (9221120237041090560 : UInt64) (9221120237041090560 : UInt64) (9221120237041090560 : UInt64) (9221120237041090560 : UInt64) z25 z40 (9221120237041090560 : UInt64) (9221120237041090560 : UInt64) (9221120237041090560 : UInt64) (9221120237041090560 : UInt64) (9221120237041090560 : UInt64) (9221120237041090560 : UInt64) (9221120237041090560 : UInt64) (9221120237041090560 : UInt64) (9221120237041090560 : UInt64) (9221120237041090560 : UInt64) (9221120237041090560 : UInt64) (9221120237041090560 : UInt64) (9221120237041090560 : UInt64) (9221120237041090560 : UInt64) qb2 x39_x12_vx_visits_o0 qh T39.heap n0 (Nat.le_trans (Nat.le_trans (Nat.le_trans (Nat.le_trans (Nat.le_trans (Nat.le_trans (Nat.le_trans (Nat.le_trans (Nat.le_trans (Nat.le_trans (Nat.le_trans (Nat.le_trans (Nat.le_trans Z0 E1.1) (Keep.of_wr W4).1) (Keep.of_wr W7).1) (Keep.of_wr W10).1) (Keep.of_wr W13).1) (Keep.of_wr W16).1) (Keep.of_wr W19).1) (Keep.of_wr W22).1) (Keep.of_wr W25).1) E27.1) K29q.1) K34q.1) K39q.1) Q39_5 ((Nat.ne_of_lt (Nat.lt_of_lt_of_le (A27).lt qv))) Q39_0 Q39_3 Q39_1 Q39_4 gn27 qds qej) hZ (hwi hw 27 rfl) (hwi hw 4 rfl) (by decide) (by decide)) q125a q125c (g := (mkF m 285 #[vI p0, vJ q1, s_, vI p2, vI p3, vI z6, vR b1, vD z141, s_, vD z146, s_, vR b27, u_, u_] [(.double z141), (.ref b27)])) rfl (by rw [hml]; rfl) (Steps.refl _) (argsL := [(.double z141)]) (rest := []) (lenOf pd_9 rfl) rfl (by show 2 * 0 + _ ≤ _; exact Nat.le_of_eq rfl) (hb hby at_285) (fun _ _ => ⟨rfl, rfl, (by decide : 3 + 0 ≤ _), (by decide : 44 + 0 ≤ _)⟩)
        dsimp only [Pt.U, Pt.locs, Pt.cells, Pt.slots] at X125 ql125 qy125 qz125 st125 hQ125
        subst ql125 qy125 qz125
        obtain ⟨qnx, rfl, N125q, K125q, Q125_0, Q125_1, Q125_2, Q125_3⟩ := hQ125
        have N125 := Fr.app N39 N125q
        have K126 : Keep h0 T125.heap [] := Keep.trans K40 K125q (allS (Or.inr gz27) all0)
        have g294_1 := Gmn (Or.inr qc3) tvN nn_z146 qcg
        have qek : (¬ (0 : Int32) < cmpValue (FP.dcmp qM z146) .g) → ¬ (0 : Int32) < cmpValue (FP.dcmp qbh z146) .g := fun q q' => q (g294_1.mpr ⟨q', Gna _⟩)
        have f127 := (Q39_5.keep K125q (ninS (Ne.symm (Nat.ne_of_lt (Nat.lt_of_lt_of_le (A27).lt qv))) nin0))
        obtain ⟨cq128, kq128, q128a, q128b, q128c⟩ := isOf hZ rfl Q125_3
        obtain ⟨_, _, ⟨T128, L128, k128, n128⟩, -, X128, ⟨Lc128, hQ128, ql128, qy128, qz128⟩, st128⟩ := X125.virtualBack hx (y := (⟨MTc, "firstBy", "(D)I"⟩ : MethodName)) (z := (⟨MTc, "firstBy", "(D)I"⟩ : MethodName)) hown (mvT hZ (hwi hw 23 rfl)) (mvT hZ (hwi hw 24 rfl)) (notFace_of_selects (args := #[]) (mvT hZ (hwi hw 26 rfl))) (mvT hZ (hwi hw 26 rfl)) (mvT hZ (hwi hw 25 rfl)) (by decide) (backOf (W := 0) (rm5w l Z a0 hw [] b27 z146 qcm (9221120237041090560 : UInt64) qM qbh (9221120237041090560 : UInt64) qb7 (9221120237041090560 : UInt64) (9221120237041090560 : UInt64) (9221120237041090560 : UInt64) qs (9221120237041090560 : UInt64) (9221120237041090560 : UInt64) (9221120237041090560 : UInt64) (9221120237041090560 : UInt64) (9221120237041090560 : UInt64) (9221120237041090560 : UInt64) (9221120237041090560 : UInt64) z25 z40 (9221120237041090560 : UInt64) (9221120237041090560 : UInt64) (9221120237041090560 : UInt64) (9221120237041090560 : UInt64) (9221120237041090560 : UInt64) (9221120237041090560 : UInt64) (9221120237041090560 : UInt64) (9221120237041090560 : UInt64) (9221120237041090560 : UInt64) (9221120237041090560 : UInt64) (9221120237041090560 : UInt64) (9221120237041090560 : UInt64) (9221120237041090560 : UInt64) (9221120237041090560 : UInt64) qb2 qnx ql T125.heap n0 (Nat.le_trans (Nat.le_trans (Nat.le_trans (Nat.le_trans (Nat.le_trans (Nat.le_trans (Nat.le_trans (Nat.le_trans (Nat.le_trans (Nat.le_trans (Nat.le_trans (Nat.le_trans (Nat.le_trans (Nat.le_trans Z0 E1.1) (Keep.of_wr W4).1) (Keep.of_wr W7).1) (Keep.of_wr W10).1) (Keep.of_wr W13).1) (Keep.of_wr W16).1) (Keep.of_wr W19).1) (Keep.of_wr W22).1) (Keep.of_wr W25).1) E27.1) K29q.1) K34q.1) K39q.1) K125q.1) f127 ((Nat.ne_of_lt (Nat.lt_of_lt_of_le (A27).lt qv))) Q125_0 Q125_1 Q125_2 Q125_3 gn27 qdt qek) hZ (hwi hw 27 rfl) (hwi hw 4 rfl) (by decide) (by decide)) q128a q128c (g := (mkF m 294 #[vI p0, vJ q1, s_, vI p2, vI p3, vI z6, vR b1, vD z141, s_, vD z146, s_, vR b27, vI qh, u_] [(.double z146), (.ref b27)])) rfl (by rw [hml]; rfl) (Steps.refl _) (argsL := [(.double z146)]) (rest := []) (lenOf pd_9 rfl) rfl (by show 2 * 0 + _ ≤ _; exact Nat.le_of_eq rfl) (hb hby at_294) (fun _ _ => ⟨rfl, rfl, (by decide : 3 + 0 ≤ _), (by decide : 44 + 0 ≤ _)⟩)
        dsimp only [Pt.U, Pt.locs, Pt.cells, Pt.slots] at X128 ql128 qy128 qz128 st128 hQ128
        subst ql128 qy128 qz128
        obtain ⟨qok, rfl, N128q, K128q, Q128_0, Q128_1, Q128_2, Q128_3⟩ := hQ128
        have N128 := Fr.app N125 N128q
        have K129 : Keep h0 T128.heap [] := Keep.trans K126 K128q (allS (Or.inr gz27) all0)
        have f130 := (((f37.keep K39q (ninS (Nat.ne_of_lt (Nat.lt_of_lt_of_le (V25).lt (Nat.le_of_eq g27.symm))) (ninS (Nat.ne_of_lt (Nat.lt_of_lt_of_le ((V25.ext E27)).lt qv)) nin0))).keep K125q (ninS (Nat.ne_of_lt (Nat.lt_of_lt_of_le (V25).lt (Nat.le_of_eq g27.symm))) nin0)).keep K128q (ninS (Nat.ne_of_lt (Nat.lt_of_lt_of_le (V25).lt (Nat.le_of_eq g27.symm))) nin0))
        obtain ⟨_, _, ⟨T131, L131, k131, n131⟩, -, X131, ⟨Lc131, hQ131, ql131, qy131, qz131⟩, st131⟩ := Jvm.LawKit.callS X128 hx (y := (⟨"com/example/kinetic_fleet/kineticfleet/fleet/MachineTimesFirstByPinLaw", "ref", "([DID)I"⟩ : MethodName)) hown (mvT hZ (hwi hw 28 rfl)) (mvT hZ (hwi hw 29 rfl)) (mvT hZ (hwi hw 30 rfl)) (mvT hZ (hwi hw 31 rfl)) (by decide) (backOf (W := 1) (rm6w l Z a0 hw [] b1 z6 z141 k1 z25 z40 z55 z70 z85 z100 z116 z132 qb9 T128.heap n0 (Nat.le_trans (Nat.le_trans (Nat.le_trans (Nat.le_trans (Nat.le_trans (Nat.le_trans (Nat.le_trans (Nat.le_trans (Nat.le_trans (Nat.le_trans (Nat.le_trans (Nat.le_trans (Nat.le_trans (Nat.le_trans (Nat.le_trans Z0 E1.1) (Keep.of_wr W4).1) (Keep.of_wr W7).1) (Keep.of_wr W10).1) (Keep.of_wr W13).1) (Keep.of_wr W16).1) (Keep.of_wr W19).1) (Keep.of_wr W22).1) (Keep.of_wr W25).1) E27.1) K29q.1) K34q.1) K39q.1) K125q.1) K128q.1) f130 qdu) hZ (hwi hw 31 rfl) (hwi hw 30 rfl) (by decide) (by decide)) (g := (mkF m 307 #[vI p0, vJ q1, s_, vI p2, vI p3, vI z6, vR b1, vD z141, s_, vD z146, s_, vR b27, vI qh, vI ql] [(.double z141), (.int z6), (.ref b1), (.int qh)])) rfl (by rw [hml]; rfl) (argsL := [(.ref b1), (.int z6), (.double z141)]) (rest := [(.int qh)]) (lenOf pd_10 rfl) rfl (by show 2 * 0 + _ ≤ _; exact Nat.le_of_eq rfl) (hb hby at_307) (fun _ _ => ⟨rfl, rfl, (by decide : 3 + 0 ≤ _), (by decide : 44 + 0 ≤ _)⟩)
        dsimp only [Pt.U, Pt.locs, Pt.cells, Pt.slots] at X131 ql131 qy131 qz131 st131 hQ131
        subst ql131 qy131 qz131
        obtain ⟨rfl, N131q, e131⟩ := hQ131
        have N131 := Fr.app N128 N131q
        have g285_8 := Gmn (Or.inr nn_z25) (Or.inr nn_z40) nn_z141 qbX
        have g285_9 := Gmn tvN tvN nn_z141 invN
        have g285_10 := Gmn tvN tvN nn_z141 invN
        have g285_11 := Gmn tvN tvN nn_z141 invN
        have g285_4 := Gmn (Or.inr qI) tvN nn_z141 qc7
        have g285_5 := Gmn tvN tvN nn_z141 invN
        have g285_2 := Gmn (Or.inr qcJ) tvN nn_z141 qbP
        have A285 := g285_4.trans (and_congr g285_8 g285_9)
        have R285 := (g285_1.trans (show _ ↔ _ from ⟨fun q => q.1, fun q => ⟨q, Gna _⟩⟩)).trans (g285_2.trans (and_congr A285 (g285_5.trans (and_congr g285_10 g285_11))))
        have F285 := first8 g285_8 A285 g285_10 R285
        have f285 : qh = (if (0 : Int32) < cmpValue (FP.dcmp z25 z141) .g then (if (0 : Int32) < cmpValue (FP.dcmp z40 z141) .g then (0 : Int32) else (2 : Int32)) else (1 : Int32)) := by
          rw [← qds]; unfold fbf; rw [F285]
          simp only [if_pos (Gna z141)]
        have e307 : qb9 = (if (0 : Int32) < cmpValue (FP.dcmp z25 z141) .g then (if (0 : Int32) < cmpValue (FP.dcmp z40 z141) .g then (0 : Int32) else (2 : Int32)) else (1 : Int32)) := by
          rw [← qdu]; unfold rff
          simp only [if_pos hb160, if_pos hb175, if_neg hb190, if_neg (up1 hb190 (show (2 : Int32) < (3 : Int32) by decide)), if_neg (up1 hb190 (show (2 : Int32) < (4 : Int32) by decide)), if_neg (up1 hb190 (show (2 : Int32) < (5 : Int32) by decide)), if_neg (up1 hb190 (show (2 : Int32) < (6 : Int32) by decide)), if_neg (up1 hb190 (show (2 : Int32) < (7 : Int32) by decide))]
        have br310 : qh = qb9 := f285.trans e307.symm
        obtain ⟨_, _, ⟨T132, L132, k132, n132⟩, -, X132, ⟨Lc132, hQ132, ql132, qy132, qz132⟩, st132⟩ := Jvm.LawKit.callS X131 hx (y := (⟨"com/example/kinetic_fleet/kineticfleet/fleet/MachineTimesFirstByPinLaw", "ref", "([DID)I"⟩ : MethodName)) hown (mvT hZ (hwi hw 28 rfl)) (mvT hZ (hwi hw 29 rfl)) (mvT hZ (hwi hw 30 rfl)) (mvT hZ (hwi hw 31 rfl)) (by decide) (backOf (W := 1) (rm6w l Z a0 hw [] b1 z6 z146 k1 z25 z40 z55 z70 z85 z100 z116 z132 qca T128.heap n0 (Nat.le_trans (Nat.le_trans (Nat.le_trans (Nat.le_trans (Nat.le_trans (Nat.le_trans (Nat.le_trans (Nat.le_trans (Nat.le_trans (Nat.le_trans (Nat.le_trans (Nat.le_trans (Nat.le_trans (Nat.le_trans (Nat.le_trans Z0 E1.1) (Keep.of_wr W4).1) (Keep.of_wr W7).1) (Keep.of_wr W10).1) (Keep.of_wr W13).1) (Keep.of_wr W16).1) (Keep.of_wr W19).1) (Keep.of_wr W22).1) (Keep.of_wr W25).1) E27.1) K29q.1) K34q.1) K39q.1) K125q.1) K128q.1) f130 qdv) hZ (hwi hw 31 rfl) (hwi hw 30 rfl) (by decide) (by decide)) (g := (mkF m 321 #[vI p0, vJ q1, s_, vI p2, vI p3, vI z6, vR b1, vD z141, s_, vD z146, s_, vR b27, vI qh, vI ql] [(.double z146), (.int z6), (.ref b1), (.int ql)])) rfl (by rw [hml]; rfl) (argsL := [(.ref b1), (.int z6), (.double z146)]) (rest := [(.int ql)]) (lenOf pd_10 rfl) rfl (by show 2 * 0 + _ ≤ _; exact Nat.le_of_eq rfl) (hb hby at_321) (fun _ _ => ⟨rfl, e131, (by decide : 3 + 0 ≤ _), (by decide : 44 + 0 ≤ _)⟩)
        dsimp only [Pt.U, Pt.locs, Pt.cells, Pt.slots] at X132 ql132 qy132 qz132 st132 hQ132
        subst ql132 qy132 qz132
        obtain ⟨rfl, N132q, e132⟩ := hQ132
        have N132 := Fr.app N131 N132q
        have g294_8 := Gmn (Or.inr nn_z25) (Or.inr nn_z40) nn_z146 qbX
        have g294_9 := Gmn tvN tvN nn_z146 invN
        have g294_10 := Gmn tvN tvN nn_z146 invN
        have g294_11 := Gmn tvN tvN nn_z146 invN
        have g294_4 := Gmn (Or.inr qI) tvN nn_z146 qc7
        have g294_5 := Gmn tvN tvN nn_z146 invN
        have g294_2 := Gmn (Or.inr qcJ) tvN nn_z146 qbP
        have A294 := g294_4.trans (and_congr g294_8 g294_9)
        have R294 := (g294_1.trans (show _ ↔ _ from ⟨fun q => q.1, fun q => ⟨q, Gna _⟩⟩)).trans (g294_2.trans (and_congr A294 (g294_5.trans (and_congr g294_10 g294_11))))
        have F294 := first8 g294_8 A294 g294_10 R294
        have f294 : ql = (if (0 : Int32) < cmpValue (FP.dcmp z25 z146) .g then (if (0 : Int32) < cmpValue (FP.dcmp z40 z146) .g then (0 : Int32) else (2 : Int32)) else (1 : Int32)) := by
          rw [← qdt]; unfold fbf; rw [F294]
          simp only [if_pos (Gna z146)]
        have e321 : qca = (if (0 : Int32) < cmpValue (FP.dcmp z25 z146) .g then (if (0 : Int32) < cmpValue (FP.dcmp z40 z146) .g then (0 : Int32) else (2 : Int32)) else (1 : Int32)) := by
          rw [← qdv]; unfold rff
          simp only [if_pos hb160, if_pos hb175, if_neg hb190, if_neg (up1 hb190 (show (2 : Int32) < (3 : Int32) by decide)), if_neg (up1 hb190 (show (2 : Int32) < (4 : Int32) by decide)), if_neg (up1 hb190 (show (2 : Int32) < (5 : Int32) by decide)), if_neg (up1 hb190 (show (2 : Int32) < (6 : Int32) by decide)), if_neg (up1 hb190 (show (2 : Int32) < (7 : Int32) by decide))]
        have br324 : ql = qca := f294.trans e321.symm
        have c133 : ∀ t, Steps p.tables e below (T132.setTop (mkF m 332 #[vI p0, vJ q1, s_, vI p2, vI p3, vI z6, vR b1, vD z141, s_, vD z146, s_, vR b27, vI qh, vI ql] [(.int (1 : Int32))])) t → Steps p.tables e below (s₁.setTop (entryFrame m #[(.int p0), (.long q1), (.int p2), (.int p3)] maxLocals)) t := by
          intro t k
          refine c41 t ?_
          show Steps p.tables e below (T39.setTop (mkF m 190 #[vI p0, vJ q1, s_, vI p2, vI p3, vI z6, vR b1, vD z141, s_, vD z146, s_, vR b27, u_, u_] [(.int (2 : Int32)), (.int z6)])) _
          refine XS.icmpYes X39.here hx rfl (pc0 := 190) (pc' := 202) rfl (hb hby at_190) rfl (Jvm.Free.XT.ii_le_t hb190) (by decide) (by decide) ?_
          refine XS.iload X39.here hx rfl (hb hby at_202) rfl ?_
          refine XS.iconst X39.here hx rfl (hb hby at_204) ?_
          refine XS.icmpYes X39.here hx rfl (pc0 := 205) (pc' := 217) rfl (hb hby at_205) rfl (Jvm.Free.XT.ii_le_t (up1 hb190 (by decide))) (by decide) (by decide) ?_
          refine XS.iload X39.here hx rfl (hb hby at_217) rfl ?_
          refine XS.iconst X39.here hx rfl (hb hby at_219) ?_
          show Steps p.tables e below (T39.setTop (mkF m 220 #[vI p0, vJ q1, s_, vI p2, vI p3, vI z6, vR b1, vD z141, s_, vD z146, s_, vR b27, u_, u_] [(.int (4 : Int32)), (.int z6)])) _
          refine XS.icmpYes X39.here hx rfl (pc0 := 220) (pc' := 232) rfl (hb hby at_220) rfl (Jvm.Free.XT.ii_le_t (up1 hb190 (by decide))) (by decide) (by decide) ?_
          refine XS.iload X39.here hx rfl (hb hby at_232) rfl ?_
          refine XS.iconst X39.here hx rfl (hb hby at_234) ?_
          refine XS.icmpYes X39.here hx rfl (pc0 := 235) (pc' := 247) rfl (hb hby at_235) rfl (Jvm.Free.XT.ii_le_t (up1 hb190 (by decide))) (by decide) (by decide) ?_
          refine XS.iload X39.here hx rfl (hb hby at_247) rfl ?_
          refine XS.bipush X39.here hx rfl (hb hby at_249) ?_
          show Steps p.tables e below (T39.setTop (mkF m 251 #[vI p0, vJ q1, s_, vI p2, vI p3, vI z6, vR b1, vD z141, s_, vD z146, s_, vR b27, u_, u_] [(.int (6 : Int32)), (.int z6)])) _
          refine XS.icmpYes X39.here hx rfl (pc0 := 251) (pc' := 264) rfl (hb hby at_251) rfl (Jvm.Free.XT.ii_le_t (up1 hb190 (by decide))) (by decide) (by decide) ?_
          refine XS.iload X39.here hx rfl (hb hby at_264) rfl ?_
          refine XS.bipush X39.here hx rfl (hb hby at_266) ?_
          refine XS.icmpYes X39.here hx rfl (pc0 := 268) (pc' := 281) rfl (hb hby at_268) rfl (Jvm.Free.XT.ii_le_t (up1 hb190 (by decide))) (by decide) (by decide) ?_
          refine XS.aload X39.here hx rfl (hb hby at_281) rfl rfl ?_
          refine XS.dload X39.here hx rfl (hb hby at_283) rfl ?_
          show Steps p.tables e below (T39.setTop (mkF m 285 #[vI p0, vJ q1, s_, vI p2, vI p3, vI z6, vR b1, vD z141, s_, vD z146, s_, vR b27, u_, u_] [(.double z141), (.ref b27)])) _
          refine st125.trans ?_
          show Steps p.tables e below (T125.setTop (mkF m 288 #[vI p0, vJ q1, s_, vI p2, vI p3, vI z6, vR b1, vD z141, s_, vD z146, s_, vR b27, u_, u_] [(.int qh)])) _
          refine XS.istore X125.here hx rfl (hb hby at_288) rfl (l' := #[vI p0, vJ q1, s_, vI p2, vI p3, vI z6, vR b1, vD z141, s_, vD z146, s_, vR b27, vI qh, u_]) rfl ?_
          refine XS.aload X125.here hx rfl (hb hby at_290) rfl rfl ?_
          refine XS.dload X125.here hx rfl (hb hby at_292) rfl ?_
          refine st128.trans ?_
          show Steps p.tables e below (T128.setTop (mkF m 297 #[vI p0, vJ q1, s_, vI p2, vI p3, vI z6, vR b1, vD z141, s_, vD z146, s_, vR b27, vI qh, u_] [(.int ql)])) _
          refine XS.istore X128.here hx rfl (hb hby at_297) rfl (l' := #[vI p0, vJ q1, s_, vI p2, vI p3, vI z6, vR b1, vD z141, s_, vD z146, s_, vR b27, vI qh, vI ql]) rfl ?_
          refine XS.iload X128.here hx rfl (hb hby at_299) rfl ?_
          refine XS.aload X128.here hx rfl (hb hby at_301) rfl rfl ?_
          refine XS.iload X128.here hx rfl (hb hby at_303) rfl ?_
          refine XS.dload X128.here hx rfl (hb hby at_305) rfl ?_
          refine st131 _ ?_
          show Steps p.tables e below (T131.setTop (mkF m 310 #[vI p0, vJ q1, s_, vI p2, vI p3, vI z6, vR b1, vD z141, s_, vD z146, s_, vR b27, vI qh, vI ql] [(.int qb9), (.int qh)])) _
          refine XS.icmpNo X131.here hx rfl (hb hby at_310) rfl (Jvm.Free.XT.ii_ne_f br310) ?_
          refine XS.iload X131.here hx rfl (hb hby at_313) rfl ?_
          refine XS.aload X131.here hx rfl (hb hby at_315) rfl rfl ?_
          refine XS.iload X131.here hx rfl (hb hby at_317) rfl ?_
          refine XS.dload X131.here hx rfl (hb hby at_319) rfl ?_
          refine st132 _ ?_
          show Steps p.tables e below (T132.setTop (mkF m 324 #[vI p0, vJ q1, s_, vI p2, vI p3, vI z6, vR b1, vD z141, s_, vD z146, s_, vR b27, vI qh, vI ql] [(.int qca), (.int ql)])) _
          refine XS.icmpNo X132.here hx rfl (hb hby at_324) rfl (Jvm.Free.XT.ii_ne_f br324) ?_
          refine XS.iconst X132.here hx rfl (hb hby at_327) ?_
          refine XS.goto X132.here hx rfl (pc0 := 328) (pc' := 332) rfl (hb hby at_328) (by decide) (by decide) ?_
          exact k
        obtain ⟨fs, hr, hrun, hended, hW, hsame⟩ := X132.leave (v := some (.int (1 : Int32))) (fun h => by rw [Bd.returns] at h; cases h)
        refine ⟨_, _, c133 _ ?_, hrun, hended, _, _, rfl, ?_, ⟨_, rfl⟩, hW, hsame.mono (by decide) (by decide)⟩
        · show Steps p.tables e below (T132.setTop (mkF m 332 #[vI p0, vJ q1, s_, vI p2, vI p3, vI z6, vR b1, vD z141, s_, vD z146, s_, vR b27, vI qh, vI ql] [(.int (1 : Int32))])) _
          exact retOut X132 hx Bd.returns rfl (Or.inl ⟨rfl, by simp, _, rfl⟩) (hb hby at_332) hr
        · show Q0 n0 _ T132.heap _
          rw [e132]
          exact ⟨rfl, by first | assumption | exact N0⟩
    · skip
      obtain ⟨qh, qds⟩ : ∃ z : Int32, fbf qL qb6 qdh (9221120237041090560 : UInt64) z25 (9221120237041090560 : UInt64) (9221120237041090560 : UInt64) (9221120237041090560 : UInt64) z141 = z := ⟨_, rfl⟩
      obtain ⟨ql, qdt⟩ : ∃ z : Int32, fbf qL qb6 qdh (9221120237041090560 : UInt64) z25 (9221120237041090560 : UInt64) (9221120237041090560 : UInt64) (9221120237041090560 : UInt64) z146 = z := ⟨_, rfl⟩
      obtain ⟨qb9, qdu⟩ : ∃ z : Int32, rff z6 z25 z40 z55 z70 z85 z100 z116 z132 z141 = z := ⟨_, rfl⟩
      obtain ⟨qca, qdv⟩ : ∃ z : Int32, rff z6 z25 z40 z55 z70 z85 z100 z116 z132 z146 = z := ⟨_, rfl⟩
      have g285_1 := Gmn (Or.inr qc2) tvN nn_z141 qcf
      have qej : (¬ (0 : Int32) < cmpValue (FP.dcmp qL z141) .g) → ¬ (0 : Int32) < cmpValue (FP.dcmp qbg z141) .g := fun q q' => q (g285_1.mpr ⟨q', Gna _⟩)
      obtain ⟨cq134, kq134, q134a, q134b, q134c⟩ := isOf hZ rfl Q34_4
      obtain ⟨_, _, ⟨T134, L134, k134, n134⟩, -, X134, ⟨Lc134, hQ134, ql134, qy134, qz134⟩, st134⟩ := X34.virtualBack hx (y := (⟨MTc, "firstBy", "(D)I"⟩ : MethodName)) (z := (⟨MTc, "firstBy", "(D)I"⟩ : MethodName)) hown (mvT hZ (hwi hw 23 rfl)) (mvT hZ (hwi hw 24 rfl)) (notFace_of_selects (args := #[]) (mvT hZ (hwi hw 26 rfl))) (mvT hZ (hwi hw 26 rfl)) (mvT hZ (hwi hw 25 rfl)) (by decide) (backOf (W := 0) (rm5w l Z a0 hw [] b27 z141 qcm (9221120237041090560 : UInt64) qL qbg (9221120237041090560 : UInt64) qb6 (9221120237041090560 : UInt64) (9221120237041090560 : UInt64) (9221120237041090560 : UInt64) qdh (9221120237041090560 : UInt64) (9221120237041090560 : UInt64) (9221120237041090560 : UInt64) (9221120237041090560 : UInt64) (9221120237041090560 : UInt64) (9221120237041090560 : UInt64) (9221120237041090560 : UInt64) z25 (9221120237041090560 : UInt64) (9221120237041090560 : UInt64) (9221120237041090560 : UInt64) (9221120237041090560 : UInt64) (9221120237041090560 : UInt64) (9221120237041090560 : UInt64) (9221120237041090560 : UInt64) (9221120237041090560 : UInt64) (9221120237041090560 : UInt64) (9221120237041090560 : UInt64) (9221120237041090560 : UInt64) (9221120237041090560 : UInt64) (9221120237041090560 : UInt64) (9221120237041090560 : UInt64) (9221120237041090560 : UInt64) qb2 x34_x12_vx_visits_o0 qh T34.heap n0 (Nat.le_trans (Nat.le_trans (Nat.le_trans (Nat.le_trans (Nat.le_trans (Nat.le_trans (Nat.le_trans (Nat.le_trans (Nat.le_trans (Nat.le_trans (Nat.le_trans (Nat.le_trans Z0 E1.1) (Keep.of_wr W4).1) (Keep.of_wr W7).1) (Keep.of_wr W10).1) (Keep.of_wr W13).1) (Keep.of_wr W16).1) (Keep.of_wr W19).1) (Keep.of_wr W22).1) (Keep.of_wr W25).1) E27.1) K29q.1) K34q.1) Q34_5 ((Nat.ne_of_lt (Nat.lt_of_lt_of_le (A27).lt qv))) Q34_0 Q34_3 Q34_1 Q34_4 gn27 qds qej) hZ (hwi hw 27 rfl) (hwi hw 4 rfl) (by decide) (by decide)) q134a q134c (g := (mkF m 285 #[vI p0, vJ q1, s_, vI p2, vI p3, vI z6, vR b1, vD z141, s_, vD z146, s_, vR b27, u_, u_] [(.double z141), (.ref b27)])) rfl (by rw [hml]; rfl) (Steps.refl _) (argsL := [(.double z141)]) (rest := []) (lenOf pd_9 rfl) rfl (by show 2 * 0 + _ ≤ _; exact Nat.le_of_eq rfl) (hb hby at_285) (fun _ _ => ⟨rfl, rfl, (by decide : 3 + 0 ≤ _), (by decide : 44 + 0 ≤ _)⟩)
      dsimp only [Pt.U, Pt.locs, Pt.cells, Pt.slots] at X134 ql134 qy134 qz134 st134 hQ134
      subst ql134 qy134 qz134
      obtain ⟨qny, rfl, N134q, K134q, Q134_0, Q134_1, Q134_2, Q134_3⟩ := hQ134
      have N134 := Fr.app N34 N134q
      have K135 : Keep h0 T134.heap [] := Keep.trans K35 K134q (allS (Or.inr gz27) all0)
      have g294_1 := Gmn (Or.inr qc2) tvN nn_z146 qcf
      have qek : (¬ (0 : Int32) < cmpValue (FP.dcmp qL z146) .g) → ¬ (0 : Int32) < cmpValue (FP.dcmp qbg z146) .g := fun q q' => q (g294_1.mpr ⟨q', Gna _⟩)
      have f136 := (Q34_5.keep K134q (ninS (Ne.symm (Nat.ne_of_lt (Nat.lt_of_lt_of_le (A27).lt qv))) nin0))
      obtain ⟨cq137, kq137, q137a, q137b, q137c⟩ := isOf hZ rfl Q134_3
      obtain ⟨_, _, ⟨T137, L137, k137, n137⟩, -, X137, ⟨Lc137, hQ137, ql137, qy137, qz137⟩, st137⟩ := X134.virtualBack hx (y := (⟨MTc, "firstBy", "(D)I"⟩ : MethodName)) (z := (⟨MTc, "firstBy", "(D)I"⟩ : MethodName)) hown (mvT hZ (hwi hw 23 rfl)) (mvT hZ (hwi hw 24 rfl)) (notFace_of_selects (args := #[]) (mvT hZ (hwi hw 26 rfl))) (mvT hZ (hwi hw 26 rfl)) (mvT hZ (hwi hw 25 rfl)) (by decide) (backOf (W := 0) (rm5w l Z a0 hw [] b27 z146 qcm (9221120237041090560 : UInt64) qL qbg (9221120237041090560 : UInt64) qb6 (9221120237041090560 : UInt64) (9221120237041090560 : UInt64) (9221120237041090560 : UInt64) qdh (9221120237041090560 : UInt64) (9221120237041090560 : UInt64) (9221120237041090560 : UInt64) (9221120237041090560 : UInt64) (9221120237041090560 : UInt64) (9221120237041090560 : UInt64) (9221120237041090560 : UInt64) z25 (9221120237041090560 : UInt64) (9221120237041090560 : UInt64) (9221120237041090560 : UInt64) (9221120237041090560 : UInt64) (9221120237041090560 : UInt64) (9221120237041090560 : UInt64) (9221120237041090560 : UInt64) (9221120237041090560 : UInt64) (9221120237041090560 : UInt64) (9221120237041090560 : UInt64) (9221120237041090560 : UInt64) (9221120237041090560 : UInt64) (9221120237041090560 : UInt64) (9221120237041090560 : UInt64) (9221120237041090560 : UInt64) qb2 qny ql T134.heap n0 (Nat.le_trans (Nat.le_trans (Nat.le_trans (Nat.le_trans (Nat.le_trans (Nat.le_trans (Nat.le_trans (Nat.le_trans (Nat.le_trans (Nat.le_trans (Nat.le_trans (Nat.le_trans (Nat.le_trans Z0 E1.1) (Keep.of_wr W4).1) (Keep.of_wr W7).1) (Keep.of_wr W10).1) (Keep.of_wr W13).1) (Keep.of_wr W16).1) (Keep.of_wr W19).1) (Keep.of_wr W22).1) (Keep.of_wr W25).1) E27.1) K29q.1) K34q.1) K134q.1) f136 ((Nat.ne_of_lt (Nat.lt_of_lt_of_le (A27).lt qv))) Q134_0 Q134_1 Q134_2 Q134_3 gn27 qdt qek) hZ (hwi hw 27 rfl) (hwi hw 4 rfl) (by decide) (by decide)) q137a q137c (g := (mkF m 294 #[vI p0, vJ q1, s_, vI p2, vI p3, vI z6, vR b1, vD z141, s_, vD z146, s_, vR b27, vI qh, u_] [(.double z146), (.ref b27)])) rfl (by rw [hml]; rfl) (Steps.refl _) (argsL := [(.double z146)]) (rest := []) (lenOf pd_9 rfl) rfl (by show 2 * 0 + _ ≤ _; exact Nat.le_of_eq rfl) (hb hby at_294) (fun _ _ => ⟨rfl, rfl, (by decide : 3 + 0 ≤ _), (by decide : 44 + 0 ≤ _)⟩)
      dsimp only [Pt.U, Pt.locs, Pt.cells, Pt.slots] at X137 ql137 qy137 qz137 st137 hQ137
      subst ql137 qy137 qz137
      obtain ⟨qol, rfl, N137q, K137q, Q137_0, Q137_1, Q137_2, Q137_3⟩ := hQ137
      have N137 := Fr.app N134 N137q
      have K138 : Keep h0 T137.heap [] := Keep.trans K135 K137q (allS (Or.inr gz27) all0)
      have f139 := (((f32.keep K34q (ninS (Nat.ne_of_lt (Nat.lt_of_lt_of_le (V25).lt (Nat.le_of_eq g27.symm))) (ninS (Nat.ne_of_lt (Nat.lt_of_lt_of_le ((V25.ext E27)).lt qv)) nin0))).keep K134q (ninS (Nat.ne_of_lt (Nat.lt_of_lt_of_le (V25).lt (Nat.le_of_eq g27.symm))) nin0)).keep K137q (ninS (Nat.ne_of_lt (Nat.lt_of_lt_of_le (V25).lt (Nat.le_of_eq g27.symm))) nin0))
      obtain ⟨_, _, ⟨T140, L140, k140, n140⟩, -, X140, ⟨Lc140, hQ140, ql140, qy140, qz140⟩, st140⟩ := Jvm.LawKit.callS X137 hx (y := (⟨"com/example/kinetic_fleet/kineticfleet/fleet/MachineTimesFirstByPinLaw", "ref", "([DID)I"⟩ : MethodName)) hown (mvT hZ (hwi hw 28 rfl)) (mvT hZ (hwi hw 29 rfl)) (mvT hZ (hwi hw 30 rfl)) (mvT hZ (hwi hw 31 rfl)) (by decide) (backOf (W := 1) (rm6w l Z a0 hw [] b1 z6 z141 k1 z25 z40 z55 z70 z85 z100 z116 z132 qb9 T137.heap n0 (Nat.le_trans (Nat.le_trans (Nat.le_trans (Nat.le_trans (Nat.le_trans (Nat.le_trans (Nat.le_trans (Nat.le_trans (Nat.le_trans (Nat.le_trans (Nat.le_trans (Nat.le_trans (Nat.le_trans (Nat.le_trans Z0 E1.1) (Keep.of_wr W4).1) (Keep.of_wr W7).1) (Keep.of_wr W10).1) (Keep.of_wr W13).1) (Keep.of_wr W16).1) (Keep.of_wr W19).1) (Keep.of_wr W22).1) (Keep.of_wr W25).1) E27.1) K29q.1) K34q.1) K134q.1) K137q.1) f139 qdu) hZ (hwi hw 31 rfl) (hwi hw 30 rfl) (by decide) (by decide)) (g := (mkF m 307 #[vI p0, vJ q1, s_, vI p2, vI p3, vI z6, vR b1, vD z141, s_, vD z146, s_, vR b27, vI qh, vI ql] [(.double z141), (.int z6), (.ref b1), (.int qh)])) rfl (by rw [hml]; rfl) (argsL := [(.ref b1), (.int z6), (.double z141)]) (rest := [(.int qh)]) (lenOf pd_10 rfl) rfl (by show 2 * 0 + _ ≤ _; exact Nat.le_of_eq rfl) (hb hby at_307) (fun _ _ => ⟨rfl, rfl, (by decide : 3 + 0 ≤ _), (by decide : 44 + 0 ≤ _)⟩)
      dsimp only [Pt.U, Pt.locs, Pt.cells, Pt.slots] at X140 ql140 qy140 qz140 st140 hQ140
      subst ql140 qy140 qz140
      obtain ⟨rfl, N140q, e140⟩ := hQ140
      have N140 := Fr.app N137 N140q
      have g285_8 := Gmn (Or.inr nn_z25) tvN nn_z141 qe6
      have g285_9 := Gmn tvN tvN nn_z141 invN
      have g285_10 := Gmn tvN tvN nn_z141 invN
      have g285_11 := Gmn tvN tvN nn_z141 invN
      have g285_4 := Gmn (Or.inr qcC) tvN nn_z141 qc6
      have g285_5 := Gmn tvN tvN nn_z141 invN
      have g285_2 := Gmn (Or.inr qcI) tvN nn_z141 qbO
      have A285 := g285_4.trans (and_congr g285_8 g285_9)
      have R285 := (g285_1.trans (show _ ↔ _ from ⟨fun q => q.1, fun q => ⟨q, Gna _⟩⟩)).trans (g285_2.trans (and_congr A285 (g285_5.trans (and_congr g285_10 g285_11))))
      have F285 := first8 g285_8 A285 g285_10 R285
      have f285 : qh = (if (0 : Int32) < cmpValue (FP.dcmp z25 z141) .g then (0 : Int32) else (1 : Int32)) := by
        rw [← qds]; unfold fbf; rw [F285]
        simp only [if_pos (Gna z141)]
      have e307 : qb9 = (if (0 : Int32) < cmpValue (FP.dcmp z25 z141) .g then (0 : Int32) else (1 : Int32)) := by
        rw [← qdu]; unfold rff
        simp only [if_pos hb160, if_neg hb175, if_neg (up1 hb175 (show (1 : Int32) < (2 : Int32) by decide)), if_neg (up1 hb175 (show (1 : Int32) < (3 : Int32) by decide)), if_neg (up1 hb175 (show (1 : Int32) < (4 : Int32) by decide)), if_neg (up1 hb175 (show (1 : Int32) < (5 : Int32) by decide)), if_neg (up1 hb175 (show (1 : Int32) < (6 : Int32) by decide)), if_neg (up1 hb175 (show (1 : Int32) < (7 : Int32) by decide))]
      have br310 : qh = qb9 := f285.trans e307.symm
      obtain ⟨_, _, ⟨T141, L141, k141, n141⟩, -, X141, ⟨Lc141, hQ141, ql141, qy141, qz141⟩, st141⟩ := Jvm.LawKit.callS X140 hx (y := (⟨"com/example/kinetic_fleet/kineticfleet/fleet/MachineTimesFirstByPinLaw", "ref", "([DID)I"⟩ : MethodName)) hown (mvT hZ (hwi hw 28 rfl)) (mvT hZ (hwi hw 29 rfl)) (mvT hZ (hwi hw 30 rfl)) (mvT hZ (hwi hw 31 rfl)) (by decide) (backOf (W := 1) (rm6w l Z a0 hw [] b1 z6 z146 k1 z25 z40 z55 z70 z85 z100 z116 z132 qca T137.heap n0 (Nat.le_trans (Nat.le_trans (Nat.le_trans (Nat.le_trans (Nat.le_trans (Nat.le_trans (Nat.le_trans (Nat.le_trans (Nat.le_trans (Nat.le_trans (Nat.le_trans (Nat.le_trans (Nat.le_trans (Nat.le_trans Z0 E1.1) (Keep.of_wr W4).1) (Keep.of_wr W7).1) (Keep.of_wr W10).1) (Keep.of_wr W13).1) (Keep.of_wr W16).1) (Keep.of_wr W19).1) (Keep.of_wr W22).1) (Keep.of_wr W25).1) E27.1) K29q.1) K34q.1) K134q.1) K137q.1) f139 qdv) hZ (hwi hw 31 rfl) (hwi hw 30 rfl) (by decide) (by decide)) (g := (mkF m 321 #[vI p0, vJ q1, s_, vI p2, vI p3, vI z6, vR b1, vD z141, s_, vD z146, s_, vR b27, vI qh, vI ql] [(.double z146), (.int z6), (.ref b1), (.int ql)])) rfl (by rw [hml]; rfl) (argsL := [(.ref b1), (.int z6), (.double z146)]) (rest := [(.int ql)]) (lenOf pd_10 rfl) rfl (by show 2 * 0 + _ ≤ _; exact Nat.le_of_eq rfl) (hb hby at_321) (fun _ _ => ⟨rfl, e140, (by decide : 3 + 0 ≤ _), (by decide : 44 + 0 ≤ _)⟩)
      dsimp only [Pt.U, Pt.locs, Pt.cells, Pt.slots] at X141 ql141 qy141 qz141 st141 hQ141
      subst ql141 qy141 qz141
      obtain ⟨rfl, N141q, e141⟩ := hQ141
      have N141 := Fr.app N140 N141q
      have g294_8 := Gmn (Or.inr nn_z25) tvN nn_z146 qe6
      have g294_9 := Gmn tvN tvN nn_z146 invN
      have g294_10 := Gmn tvN tvN nn_z146 invN
      have g294_11 := Gmn tvN tvN nn_z146 invN
      have g294_4 := Gmn (Or.inr qcC) tvN nn_z146 qc6
      have g294_5 := Gmn tvN tvN nn_z146 invN
      have g294_2 := Gmn (Or.inr qcI) tvN nn_z146 qbO
      have A294 := g294_4.trans (and_congr g294_8 g294_9)
      have R294 := (g294_1.trans (show _ ↔ _ from ⟨fun q => q.1, fun q => ⟨q, Gna _⟩⟩)).trans (g294_2.trans (and_congr A294 (g294_5.trans (and_congr g294_10 g294_11))))
      have F294 := first8 g294_8 A294 g294_10 R294
      have f294 : ql = (if (0 : Int32) < cmpValue (FP.dcmp z25 z146) .g then (0 : Int32) else (1 : Int32)) := by
        rw [← qdt]; unfold fbf; rw [F294]
        simp only [if_pos (Gna z146)]
      have e321 : qca = (if (0 : Int32) < cmpValue (FP.dcmp z25 z146) .g then (0 : Int32) else (1 : Int32)) := by
        rw [← qdv]; unfold rff
        simp only [if_pos hb160, if_neg hb175, if_neg (up1 hb175 (show (1 : Int32) < (2 : Int32) by decide)), if_neg (up1 hb175 (show (1 : Int32) < (3 : Int32) by decide)), if_neg (up1 hb175 (show (1 : Int32) < (4 : Int32) by decide)), if_neg (up1 hb175 (show (1 : Int32) < (5 : Int32) by decide)), if_neg (up1 hb175 (show (1 : Int32) < (6 : Int32) by decide)), if_neg (up1 hb175 (show (1 : Int32) < (7 : Int32) by decide))]
      have br324 : ql = qca := f294.trans e321.symm
      have c142 : ∀ t, Steps p.tables e below (T141.setTop (mkF m 332 #[vI p0, vJ q1, s_, vI p2, vI p3, vI z6, vR b1, vD z141, s_, vD z146, s_, vR b27, vI qh, vI ql] [(.int (1 : Int32))])) t → Steps p.tables e below (s₁.setTop (entryFrame m #[(.int p0), (.long q1), (.int p2), (.int p3)] maxLocals)) t := by
        intro t k
        refine c36 t ?_
        show Steps p.tables e below (T34.setTop (mkF m 175 #[vI p0, vJ q1, s_, vI p2, vI p3, vI z6, vR b1, vD z141, s_, vD z146, s_, vR b27, u_, u_] [(.int (1 : Int32)), (.int z6)])) _
        refine XS.icmpYes X34.here hx rfl (pc0 := 175) (pc' := 187) rfl (hb hby at_175) rfl (Jvm.Free.XT.ii_le_t hb175) (by decide) (by decide) ?_
        refine XS.iload X34.here hx rfl (hb hby at_187) rfl ?_
        refine XS.iconst X34.here hx rfl (hb hby at_189) ?_
        refine XS.icmpYes X34.here hx rfl (pc0 := 190) (pc' := 202) rfl (hb hby at_190) rfl (Jvm.Free.XT.ii_le_t (up1 hb175 (by decide))) (by decide) (by decide) ?_
        refine XS.iload X34.here hx rfl (hb hby at_202) rfl ?_
        refine XS.iconst X34.here hx rfl (hb hby at_204) ?_
        show Steps p.tables e below (T34.setTop (mkF m 205 #[vI p0, vJ q1, s_, vI p2, vI p3, vI z6, vR b1, vD z141, s_, vD z146, s_, vR b27, u_, u_] [(.int (3 : Int32)), (.int z6)])) _
        refine XS.icmpYes X34.here hx rfl (pc0 := 205) (pc' := 217) rfl (hb hby at_205) rfl (Jvm.Free.XT.ii_le_t (up1 hb175 (by decide))) (by decide) (by decide) ?_
        refine XS.iload X34.here hx rfl (hb hby at_217) rfl ?_
        refine XS.iconst X34.here hx rfl (hb hby at_219) ?_
        refine XS.icmpYes X34.here hx rfl (pc0 := 220) (pc' := 232) rfl (hb hby at_220) rfl (Jvm.Free.XT.ii_le_t (up1 hb175 (by decide))) (by decide) (by decide) ?_
        refine XS.iload X34.here hx rfl (hb hby at_232) rfl ?_
        refine XS.iconst X34.here hx rfl (hb hby at_234) ?_
        show Steps p.tables e below (T34.setTop (mkF m 235 #[vI p0, vJ q1, s_, vI p2, vI p3, vI z6, vR b1, vD z141, s_, vD z146, s_, vR b27, u_, u_] [(.int (5 : Int32)), (.int z6)])) _
        refine XS.icmpYes X34.here hx rfl (pc0 := 235) (pc' := 247) rfl (hb hby at_235) rfl (Jvm.Free.XT.ii_le_t (up1 hb175 (by decide))) (by decide) (by decide) ?_
        refine XS.iload X34.here hx rfl (hb hby at_247) rfl ?_
        refine XS.bipush X34.here hx rfl (hb hby at_249) ?_
        refine XS.icmpYes X34.here hx rfl (pc0 := 251) (pc' := 264) rfl (hb hby at_251) rfl (Jvm.Free.XT.ii_le_t (up1 hb175 (by decide))) (by decide) (by decide) ?_
        refine XS.iload X34.here hx rfl (hb hby at_264) rfl ?_
        refine XS.bipush X34.here hx rfl (hb hby at_266) ?_
        show Steps p.tables e below (T34.setTop (mkF m 268 #[vI p0, vJ q1, s_, vI p2, vI p3, vI z6, vR b1, vD z141, s_, vD z146, s_, vR b27, u_, u_] [(.int (7 : Int32)), (.int z6)])) _
        refine XS.icmpYes X34.here hx rfl (pc0 := 268) (pc' := 281) rfl (hb hby at_268) rfl (Jvm.Free.XT.ii_le_t (up1 hb175 (by decide))) (by decide) (by decide) ?_
        refine XS.aload X34.here hx rfl (hb hby at_281) rfl rfl ?_
        refine XS.dload X34.here hx rfl (hb hby at_283) rfl ?_
        refine st134.trans ?_
        show Steps p.tables e below (T134.setTop (mkF m 288 #[vI p0, vJ q1, s_, vI p2, vI p3, vI z6, vR b1, vD z141, s_, vD z146, s_, vR b27, u_, u_] [(.int qh)])) _
        refine XS.istore X134.here hx rfl (hb hby at_288) rfl (l' := #[vI p0, vJ q1, s_, vI p2, vI p3, vI z6, vR b1, vD z141, s_, vD z146, s_, vR b27, vI qh, u_]) rfl ?_
        refine XS.aload X134.here hx rfl (hb hby at_290) rfl rfl ?_
        refine XS.dload X134.here hx rfl (hb hby at_292) rfl ?_
        refine st137.trans ?_
        show Steps p.tables e below (T137.setTop (mkF m 297 #[vI p0, vJ q1, s_, vI p2, vI p3, vI z6, vR b1, vD z141, s_, vD z146, s_, vR b27, vI qh, u_] [(.int ql)])) _
        refine XS.istore X137.here hx rfl (hb hby at_297) rfl (l' := #[vI p0, vJ q1, s_, vI p2, vI p3, vI z6, vR b1, vD z141, s_, vD z146, s_, vR b27, vI qh, vI ql]) rfl ?_
        refine XS.iload X137.here hx rfl (hb hby at_299) rfl ?_
        refine XS.aload X137.here hx rfl (hb hby at_301) rfl rfl ?_
        refine XS.iload X137.here hx rfl (hb hby at_303) rfl ?_
        refine XS.dload X137.here hx rfl (hb hby at_305) rfl ?_
        refine st140 _ ?_
        show Steps p.tables e below (T140.setTop (mkF m 310 #[vI p0, vJ q1, s_, vI p2, vI p3, vI z6, vR b1, vD z141, s_, vD z146, s_, vR b27, vI qh, vI ql] [(.int qb9), (.int qh)])) _
        refine XS.icmpNo X140.here hx rfl (hb hby at_310) rfl (Jvm.Free.XT.ii_ne_f br310) ?_
        refine XS.iload X140.here hx rfl (hb hby at_313) rfl ?_
        refine XS.aload X140.here hx rfl (hb hby at_315) rfl rfl ?_
        refine XS.iload X140.here hx rfl (hb hby at_317) rfl ?_
        refine XS.dload X140.here hx rfl (hb hby at_319) rfl ?_
        refine st141 _ ?_
        show Steps p.tables e below (T141.setTop (mkF m 324 #[vI p0, vJ q1, s_, vI p2, vI p3, vI z6, vR b1, vD z141, s_, vD z146, s_, vR b27, vI qh, vI ql] [(.int qca), (.int ql)])) _
        refine XS.icmpNo X141.here hx rfl (hb hby at_324) rfl (Jvm.Free.XT.ii_ne_f br324) ?_
        refine XS.iconst X141.here hx rfl (hb hby at_327) ?_
        refine XS.goto X141.here hx rfl (pc0 := 328) (pc' := 332) rfl (hb hby at_328) (by decide) (by decide) ?_
        exact k
      obtain ⟨fs, hr, hrun, hended, hW, hsame⟩ := X141.leave (v := some (.int (1 : Int32))) (fun h => by rw [Bd.returns] at h; cases h)
      refine ⟨_, _, c142 _ ?_, hrun, hended, _, _, rfl, ?_, ⟨_, rfl⟩, hW, hsame.mono (by decide) (by decide)⟩
      · show Steps p.tables e below (T141.setTop (mkF m 332 #[vI p0, vJ q1, s_, vI p2, vI p3, vI z6, vR b1, vD z141, s_, vD z146, s_, vR b27, vI qh, vI ql] [(.int (1 : Int32))])) _
        exact retOut X141 hx Bd.returns rfl (Or.inl ⟨rfl, by simp, _, rfl⟩) (hb hby at_332) hr
      · show Q0 n0 _ T141.heap _
        rw [e141]
        exact ⟨rfl, by first | assumption | exact N0⟩
  · skip
    obtain ⟨qh, qds⟩ : ∃ z : Int32, fbf (9221120237041090560 : UInt64) (9221120237041090560 : UInt64) (9221120237041090560 : UInt64) (9221120237041090560 : UInt64) (9221120237041090560 : UInt64) (9221120237041090560 : UInt64) (9221120237041090560 : UInt64) (9221120237041090560 : UInt64) z141 = z := ⟨_, rfl⟩
    obtain ⟨ql, qdt⟩ : ∃ z : Int32, fbf (9221120237041090560 : UInt64) (9221120237041090560 : UInt64) (9221120237041090560 : UInt64) (9221120237041090560 : UInt64) (9221120237041090560 : UInt64) (9221120237041090560 : UInt64) (9221120237041090560 : UInt64) (9221120237041090560 : UInt64) z146 = z := ⟨_, rfl⟩
    obtain ⟨qb9, qdu⟩ : ∃ z : Int32, rff z6 z25 z40 z55 z70 z85 z100 z116 z132 z141 = z := ⟨_, rfl⟩
    obtain ⟨qca, qdv⟩ : ∃ z : Int32, rff z6 z25 z40 z55 z70 z85 z100 z116 z132 z146 = z := ⟨_, rfl⟩
    have g285_1 := Gmn tvN tvN nn_z141 invN
    have qej : (¬ (0 : Int32) < cmpValue (FP.dcmp (9221120237041090560 : UInt64) z141) .g) → ¬ (0 : Int32) < cmpValue (FP.dcmp (9221120237041090560 : UInt64) z141) .g := fun q q' => q (g285_1.mpr ⟨q', Gna _⟩)
    obtain ⟨cq143, kq143, q143a, q143b, q143c⟩ := isOf hZ rfl Q29_2
    obtain ⟨_, _, ⟨T143, L143, k143, n143⟩, -, X143, ⟨Lc143, hQ143, ql143, qy143, qz143⟩, st143⟩ := X29.virtualBack hx (y := (⟨MTc, "firstBy", "(D)I"⟩ : MethodName)) (z := (⟨MTc, "firstBy", "(D)I"⟩ : MethodName)) hown (mvT hZ (hwi hw 23 rfl)) (mvT hZ (hwi hw 24 rfl)) (notFace_of_selects (args := #[]) (mvT hZ (hwi hw 26 rfl))) (mvT hZ (hwi hw 26 rfl)) (mvT hZ (hwi hw 25 rfl)) (by decide) (backOf (W := 0) (rm5w l Z a0 hw [] b27 z141 qcm (9221120237041090560 : UInt64) (9221120237041090560 : UInt64) (9221120237041090560 : UInt64) (9221120237041090560 : UInt64) (9221120237041090560 : UInt64) (9221120237041090560 : UInt64) (9221120237041090560 : UInt64) (9221120237041090560 : UInt64) (9221120237041090560 : UInt64) (9221120237041090560 : UInt64) (9221120237041090560 : UInt64) (9221120237041090560 : UInt64) (9221120237041090560 : UInt64) (9221120237041090560 : UInt64) (9221120237041090560 : UInt64) (9221120237041090560 : UInt64) (9221120237041090560 : UInt64) (9221120237041090560 : UInt64) (9221120237041090560 : UInt64) (9221120237041090560 : UInt64) (9221120237041090560 : UInt64) (9221120237041090560 : UInt64) (9221120237041090560 : UInt64) (9221120237041090560 : UInt64) (9221120237041090560 : UInt64) (9221120237041090560 : UInt64) (9221120237041090560 : UInt64) (9221120237041090560 : UInt64) (9221120237041090560 : UInt64) (9221120237041090560 : UInt64) (9221120237041090560 : UInt64) (9221120237041090560 : UInt64) qb2 (0 : Int64) qh T29.heap n0 (Nat.le_trans (Nat.le_trans (Nat.le_trans (Nat.le_trans (Nat.le_trans (Nat.le_trans (Nat.le_trans (Nat.le_trans (Nat.le_trans (Nat.le_trans (Nat.le_trans Z0 E1.1) (Keep.of_wr W4).1) (Keep.of_wr W7).1) (Keep.of_wr W10).1) (Keep.of_wr W13).1) (Keep.of_wr W16).1) (Keep.of_wr W19).1) (Keep.of_wr W22).1) (Keep.of_wr W25).1) E27.1) K29q.1) Q29_5 ((Nat.ne_of_lt (Nat.lt_of_lt_of_le (A27).lt qv))) Q29_3 Q29_4 Q29_1 Q29_2 gn27 qds qej) hZ (hwi hw 27 rfl) (hwi hw 4 rfl) (by decide) (by decide)) q143a q143c (g := (mkF m 285 #[vI p0, vJ q1, s_, vI p2, vI p3, vI z6, vR b1, vD z141, s_, vD z146, s_, vR b27, u_, u_] [(.double z141), (.ref b27)])) rfl (by rw [hml]; rfl) (Steps.refl _) (argsL := [(.double z141)]) (rest := []) (lenOf pd_9 rfl) rfl (by show 2 * 0 + _ ≤ _; exact Nat.le_of_eq rfl) (hb hby at_285) (fun _ _ => ⟨rfl, rfl, (by decide : 3 + 0 ≤ _), (by decide : 44 + 0 ≤ _)⟩)
    dsimp only [Pt.U, Pt.locs, Pt.cells, Pt.slots] at X143 ql143 qy143 qz143 st143 hQ143
    subst ql143 qy143 qz143
    obtain ⟨qnz, rfl, N143q, K143q, Q143_0, Q143_1, Q143_2, Q143_3⟩ := hQ143
    have N143 := Fr.app N29 N143q
    have K144 : Keep h0 T143.heap [] := Keep.trans K30 K143q (allS (Or.inr gz27) all0)
    have g294_1 := Gmn tvN tvN nn_z146 invN
    have qek : (¬ (0 : Int32) < cmpValue (FP.dcmp (9221120237041090560 : UInt64) z146) .g) → ¬ (0 : Int32) < cmpValue (FP.dcmp (9221120237041090560 : UInt64) z146) .g := fun q q' => q (g294_1.mpr ⟨q', Gna _⟩)
    have f145 := (Q29_5.keep K143q (ninS (Ne.symm (Nat.ne_of_lt (Nat.lt_of_lt_of_le (A27).lt qv))) nin0))
    obtain ⟨cq146, kq146, q146a, q146b, q146c⟩ := isOf hZ rfl Q143_3
    obtain ⟨_, _, ⟨T146, L146, k146, n146⟩, -, X146, ⟨Lc146, hQ146, ql146, qy146, qz146⟩, st146⟩ := X143.virtualBack hx (y := (⟨MTc, "firstBy", "(D)I"⟩ : MethodName)) (z := (⟨MTc, "firstBy", "(D)I"⟩ : MethodName)) hown (mvT hZ (hwi hw 23 rfl)) (mvT hZ (hwi hw 24 rfl)) (notFace_of_selects (args := #[]) (mvT hZ (hwi hw 26 rfl))) (mvT hZ (hwi hw 26 rfl)) (mvT hZ (hwi hw 25 rfl)) (by decide) (backOf (W := 0) (rm5w l Z a0 hw [] b27 z146 qcm (9221120237041090560 : UInt64) (9221120237041090560 : UInt64) (9221120237041090560 : UInt64) (9221120237041090560 : UInt64) (9221120237041090560 : UInt64) (9221120237041090560 : UInt64) (9221120237041090560 : UInt64) (9221120237041090560 : UInt64) (9221120237041090560 : UInt64) (9221120237041090560 : UInt64) (9221120237041090560 : UInt64) (9221120237041090560 : UInt64) (9221120237041090560 : UInt64) (9221120237041090560 : UInt64) (9221120237041090560 : UInt64) (9221120237041090560 : UInt64) (9221120237041090560 : UInt64) (9221120237041090560 : UInt64) (9221120237041090560 : UInt64) (9221120237041090560 : UInt64) (9221120237041090560 : UInt64) (9221120237041090560 : UInt64) (9221120237041090560 : UInt64) (9221120237041090560 : UInt64) (9221120237041090560 : UInt64) (9221120237041090560 : UInt64) (9221120237041090560 : UInt64) (9221120237041090560 : UInt64) (9221120237041090560 : UInt64) (9221120237041090560 : UInt64) (9221120237041090560 : UInt64) (9221120237041090560 : UInt64) qb2 qnz ql T143.heap n0 (Nat.le_trans (Nat.le_trans (Nat.le_trans (Nat.le_trans (Nat.le_trans (Nat.le_trans (Nat.le_trans (Nat.le_trans (Nat.le_trans (Nat.le_trans (Nat.le_trans (Nat.le_trans Z0 E1.1) (Keep.of_wr W4).1) (Keep.of_wr W7).1) (Keep.of_wr W10).1) (Keep.of_wr W13).1) (Keep.of_wr W16).1) (Keep.of_wr W19).1) (Keep.of_wr W22).1) (Keep.of_wr W25).1) E27.1) K29q.1) K143q.1) f145 ((Nat.ne_of_lt (Nat.lt_of_lt_of_le (A27).lt qv))) Q143_0 Q143_1 Q143_2 Q143_3 gn27 qdt qek) hZ (hwi hw 27 rfl) (hwi hw 4 rfl) (by decide) (by decide)) q146a q146c (g := (mkF m 294 #[vI p0, vJ q1, s_, vI p2, vI p3, vI z6, vR b1, vD z141, s_, vD z146, s_, vR b27, vI qh, u_] [(.double z146), (.ref b27)])) rfl (by rw [hml]; rfl) (Steps.refl _) (argsL := [(.double z146)]) (rest := []) (lenOf pd_9 rfl) rfl (by show 2 * 0 + _ ≤ _; exact Nat.le_of_eq rfl) (hb hby at_294) (fun _ _ => ⟨rfl, rfl, (by decide : 3 + 0 ≤ _), (by decide : 44 + 0 ≤ _)⟩)
    dsimp only [Pt.U, Pt.locs, Pt.cells, Pt.slots] at X146 ql146 qy146 qz146 st146 hQ146
    subst ql146 qy146 qz146
    obtain ⟨qom, rfl, N146q, K146q, Q146_0, Q146_1, Q146_2, Q146_3⟩ := hQ146
    have N146 := Fr.app N143 N146q
    have K147 : Keep h0 T146.heap [] := Keep.trans K144 K146q (allS (Or.inr gz27) all0)
    have f148 := ((((V25.ext E27).keep K29q (ninS (Nat.ne_of_lt (Nat.lt_of_lt_of_le (V25).lt (Nat.le_of_eq g27.symm))) nin0)).keep K143q (ninS (Nat.ne_of_lt (Nat.lt_of_lt_of_le (V25).lt (Nat.le_of_eq g27.symm))) nin0)).keep K146q (ninS (Nat.ne_of_lt (Nat.lt_of_lt_of_le (V25).lt (Nat.le_of_eq g27.symm))) nin0))
    obtain ⟨_, _, ⟨T149, L149, k149, n149⟩, -, X149, ⟨Lc149, hQ149, ql149, qy149, qz149⟩, st149⟩ := Jvm.LawKit.callS X146 hx (y := (⟨"com/example/kinetic_fleet/kineticfleet/fleet/MachineTimesFirstByPinLaw", "ref", "([DID)I"⟩ : MethodName)) hown (mvT hZ (hwi hw 28 rfl)) (mvT hZ (hwi hw 29 rfl)) (mvT hZ (hwi hw 30 rfl)) (mvT hZ (hwi hw 31 rfl)) (by decide) (backOf (W := 1) (rm6w l Z a0 hw [] b1 z6 z141 k1 z25 z40 z55 z70 z85 z100 z116 z132 qb9 T146.heap n0 (Nat.le_trans (Nat.le_trans (Nat.le_trans (Nat.le_trans (Nat.le_trans (Nat.le_trans (Nat.le_trans (Nat.le_trans (Nat.le_trans (Nat.le_trans (Nat.le_trans (Nat.le_trans (Nat.le_trans Z0 E1.1) (Keep.of_wr W4).1) (Keep.of_wr W7).1) (Keep.of_wr W10).1) (Keep.of_wr W13).1) (Keep.of_wr W16).1) (Keep.of_wr W19).1) (Keep.of_wr W22).1) (Keep.of_wr W25).1) E27.1) K29q.1) K143q.1) K146q.1) f148 qdu) hZ (hwi hw 31 rfl) (hwi hw 30 rfl) (by decide) (by decide)) (g := (mkF m 307 #[vI p0, vJ q1, s_, vI p2, vI p3, vI z6, vR b1, vD z141, s_, vD z146, s_, vR b27, vI qh, vI ql] [(.double z141), (.int z6), (.ref b1), (.int qh)])) rfl (by rw [hml]; rfl) (argsL := [(.ref b1), (.int z6), (.double z141)]) (rest := [(.int qh)]) (lenOf pd_10 rfl) rfl (by show 2 * 0 + _ ≤ _; exact Nat.le_of_eq rfl) (hb hby at_307) (fun _ _ => ⟨rfl, rfl, (by decide : 3 + 0 ≤ _), (by decide : 44 + 0 ≤ _)⟩)
    dsimp only [Pt.U, Pt.locs, Pt.cells, Pt.slots] at X149 ql149 qy149 qz149 st149 hQ149
    subst ql149 qy149 qz149
    obtain ⟨rfl, N149q, e149⟩ := hQ149
    have N149 := Fr.app N146 N149q
    have g285_8 := Gmn tvN tvN nn_z141 invN
    have g285_9 := Gmn tvN tvN nn_z141 invN
    have g285_10 := Gmn tvN tvN nn_z141 invN
    have g285_11 := Gmn tvN tvN nn_z141 invN
    have g285_4 := Gmn tvN tvN nn_z141 invN
    have g285_5 := Gmn tvN tvN nn_z141 invN
    have g285_2 := Gmn tvN tvN nn_z141 invN
    have A285 := g285_4.trans (and_congr g285_8 g285_9)
    have R285 := (g285_1.trans (show _ ↔ _ from ⟨fun q => q.1, fun q => ⟨q, Gna _⟩⟩)).trans (g285_2.trans (and_congr A285 (g285_5.trans (and_congr g285_10 g285_11))))
    have F285 := first8 g285_8 A285 g285_10 R285
    have f285 : qh = (0 : Int32) := by
      rw [← qds]; unfold fbf; rw [F285]
      simp only [if_pos (Gna z141)]
    have e307 : qb9 = (0 : Int32) := by
      rw [← qdu]; unfold rff
      simp only [if_neg hb160, if_neg (up1 hb160 (show (0 : Int32) < (1 : Int32) by decide)), if_neg (up1 hb160 (show (0 : Int32) < (2 : Int32) by decide)), if_neg (up1 hb160 (show (0 : Int32) < (3 : Int32) by decide)), if_neg (up1 hb160 (show (0 : Int32) < (4 : Int32) by decide)), if_neg (up1 hb160 (show (0 : Int32) < (5 : Int32) by decide)), if_neg (up1 hb160 (show (0 : Int32) < (6 : Int32) by decide)), if_neg (up1 hb160 (show (0 : Int32) < (7 : Int32) by decide))]
    have br310 : qh = qb9 := f285.trans e307.symm
    obtain ⟨_, _, ⟨T150, L150, k150, n150⟩, -, X150, ⟨Lc150, hQ150, ql150, qy150, qz150⟩, st150⟩ := Jvm.LawKit.callS X149 hx (y := (⟨"com/example/kinetic_fleet/kineticfleet/fleet/MachineTimesFirstByPinLaw", "ref", "([DID)I"⟩ : MethodName)) hown (mvT hZ (hwi hw 28 rfl)) (mvT hZ (hwi hw 29 rfl)) (mvT hZ (hwi hw 30 rfl)) (mvT hZ (hwi hw 31 rfl)) (by decide) (backOf (W := 1) (rm6w l Z a0 hw [] b1 z6 z146 k1 z25 z40 z55 z70 z85 z100 z116 z132 qca T146.heap n0 (Nat.le_trans (Nat.le_trans (Nat.le_trans (Nat.le_trans (Nat.le_trans (Nat.le_trans (Nat.le_trans (Nat.le_trans (Nat.le_trans (Nat.le_trans (Nat.le_trans (Nat.le_trans (Nat.le_trans Z0 E1.1) (Keep.of_wr W4).1) (Keep.of_wr W7).1) (Keep.of_wr W10).1) (Keep.of_wr W13).1) (Keep.of_wr W16).1) (Keep.of_wr W19).1) (Keep.of_wr W22).1) (Keep.of_wr W25).1) E27.1) K29q.1) K143q.1) K146q.1) f148 qdv) hZ (hwi hw 31 rfl) (hwi hw 30 rfl) (by decide) (by decide)) (g := (mkF m 321 #[vI p0, vJ q1, s_, vI p2, vI p3, vI z6, vR b1, vD z141, s_, vD z146, s_, vR b27, vI qh, vI ql] [(.double z146), (.int z6), (.ref b1), (.int ql)])) rfl (by rw [hml]; rfl) (argsL := [(.ref b1), (.int z6), (.double z146)]) (rest := [(.int ql)]) (lenOf pd_10 rfl) rfl (by show 2 * 0 + _ ≤ _; exact Nat.le_of_eq rfl) (hb hby at_321) (fun _ _ => ⟨rfl, e149, (by decide : 3 + 0 ≤ _), (by decide : 44 + 0 ≤ _)⟩)
    dsimp only [Pt.U, Pt.locs, Pt.cells, Pt.slots] at X150 ql150 qy150 qz150 st150 hQ150
    subst ql150 qy150 qz150
    obtain ⟨rfl, N150q, e150⟩ := hQ150
    have N150 := Fr.app N149 N150q
    have g294_8 := Gmn tvN tvN nn_z146 invN
    have g294_9 := Gmn tvN tvN nn_z146 invN
    have g294_10 := Gmn tvN tvN nn_z146 invN
    have g294_11 := Gmn tvN tvN nn_z146 invN
    have g294_4 := Gmn tvN tvN nn_z146 invN
    have g294_5 := Gmn tvN tvN nn_z146 invN
    have g294_2 := Gmn tvN tvN nn_z146 invN
    have A294 := g294_4.trans (and_congr g294_8 g294_9)
    have R294 := (g294_1.trans (show _ ↔ _ from ⟨fun q => q.1, fun q => ⟨q, Gna _⟩⟩)).trans (g294_2.trans (and_congr A294 (g294_5.trans (and_congr g294_10 g294_11))))
    have F294 := first8 g294_8 A294 g294_10 R294
    have f294 : ql = (0 : Int32) := by
      rw [← qdt]; unfold fbf; rw [F294]
      simp only [if_pos (Gna z146)]
    have e321 : qca = (0 : Int32) := by
      rw [← qdv]; unfold rff
      simp only [if_neg hb160, if_neg (up1 hb160 (show (0 : Int32) < (1 : Int32) by decide)), if_neg (up1 hb160 (show (0 : Int32) < (2 : Int32) by decide)), if_neg (up1 hb160 (show (0 : Int32) < (3 : Int32) by decide)), if_neg (up1 hb160 (show (0 : Int32) < (4 : Int32) by decide)), if_neg (up1 hb160 (show (0 : Int32) < (5 : Int32) by decide)), if_neg (up1 hb160 (show (0 : Int32) < (6 : Int32) by decide)), if_neg (up1 hb160 (show (0 : Int32) < (7 : Int32) by decide))]
    have br324 : ql = qca := f294.trans e321.symm
    have c151 : ∀ t, Steps p.tables e below (T150.setTop (mkF m 332 #[vI p0, vJ q1, s_, vI p2, vI p3, vI z6, vR b1, vD z141, s_, vD z146, s_, vR b27, vI qh, vI ql] [(.int (1 : Int32))])) t → Steps p.tables e below (s₁.setTop (entryFrame m #[(.int p0), (.long q1), (.int p2), (.int p3)] maxLocals)) t := by
      intro t k
      refine c31 t ?_
      show Steps p.tables e below (T29.setTop (mkF m 160 #[vI p0, vJ q1, s_, vI p2, vI p3, vI z6, vR b1, vD z141, s_, vD z146, s_, vR b27, u_, u_] [(.int z6)])) _
      refine XS.ifYes X29.here hx rfl (pc0 := 160) (pc' := 172) rfl (hb hby at_160) rfl (Jvm.Free.XT.i0_le_t hb160) (by decide) (by decide) ?_
      refine XS.iload X29.here hx rfl (hb hby at_172) rfl ?_
      refine XS.iconst X29.here hx rfl (hb hby at_174) ?_
      refine XS.icmpYes X29.here hx rfl (pc0 := 175) (pc' := 187) rfl (hb hby at_175) rfl (Jvm.Free.XT.ii_le_t (up1 hb160 (by decide))) (by decide) (by decide) ?_
      refine XS.iload X29.here hx rfl (hb hby at_187) rfl ?_
      refine XS.iconst X29.here hx rfl (hb hby at_189) ?_
      show Steps p.tables e below (T29.setTop (mkF m 190 #[vI p0, vJ q1, s_, vI p2, vI p3, vI z6, vR b1, vD z141, s_, vD z146, s_, vR b27, u_, u_] [(.int (2 : Int32)), (.int z6)])) _
      refine XS.icmpYes X29.here hx rfl (pc0 := 190) (pc' := 202) rfl (hb hby at_190) rfl (Jvm.Free.XT.ii_le_t (up1 hb160 (by decide))) (by decide) (by decide) ?_
      refine XS.iload X29.here hx rfl (hb hby at_202) rfl ?_
      refine XS.iconst X29.here hx rfl (hb hby at_204) ?_
      refine XS.icmpYes X29.here hx rfl (pc0 := 205) (pc' := 217) rfl (hb hby at_205) rfl (Jvm.Free.XT.ii_le_t (up1 hb160 (by decide))) (by decide) (by decide) ?_
      refine XS.iload X29.here hx rfl (hb hby at_217) rfl ?_
      refine XS.iconst X29.here hx rfl (hb hby at_219) ?_
      show Steps p.tables e below (T29.setTop (mkF m 220 #[vI p0, vJ q1, s_, vI p2, vI p3, vI z6, vR b1, vD z141, s_, vD z146, s_, vR b27, u_, u_] [(.int (4 : Int32)), (.int z6)])) _
      refine XS.icmpYes X29.here hx rfl (pc0 := 220) (pc' := 232) rfl (hb hby at_220) rfl (Jvm.Free.XT.ii_le_t (up1 hb160 (by decide))) (by decide) (by decide) ?_
      refine XS.iload X29.here hx rfl (hb hby at_232) rfl ?_
      refine XS.iconst X29.here hx rfl (hb hby at_234) ?_
      refine XS.icmpYes X29.here hx rfl (pc0 := 235) (pc' := 247) rfl (hb hby at_235) rfl (Jvm.Free.XT.ii_le_t (up1 hb160 (by decide))) (by decide) (by decide) ?_
      refine XS.iload X29.here hx rfl (hb hby at_247) rfl ?_
      refine XS.bipush X29.here hx rfl (hb hby at_249) ?_
      show Steps p.tables e below (T29.setTop (mkF m 251 #[vI p0, vJ q1, s_, vI p2, vI p3, vI z6, vR b1, vD z141, s_, vD z146, s_, vR b27, u_, u_] [(.int (6 : Int32)), (.int z6)])) _
      refine XS.icmpYes X29.here hx rfl (pc0 := 251) (pc' := 264) rfl (hb hby at_251) rfl (Jvm.Free.XT.ii_le_t (up1 hb160 (by decide))) (by decide) (by decide) ?_
      refine XS.iload X29.here hx rfl (hb hby at_264) rfl ?_
      refine XS.bipush X29.here hx rfl (hb hby at_266) ?_
      refine XS.icmpYes X29.here hx rfl (pc0 := 268) (pc' := 281) rfl (hb hby at_268) rfl (Jvm.Free.XT.ii_le_t (up1 hb160 (by decide))) (by decide) (by decide) ?_
      refine XS.aload X29.here hx rfl (hb hby at_281) rfl rfl ?_
      refine XS.dload X29.here hx rfl (hb hby at_283) rfl ?_
      show Steps p.tables e below (T29.setTop (mkF m 285 #[vI p0, vJ q1, s_, vI p2, vI p3, vI z6, vR b1, vD z141, s_, vD z146, s_, vR b27, u_, u_] [(.double z141), (.ref b27)])) _
      refine st143.trans ?_
      show Steps p.tables e below (T143.setTop (mkF m 288 #[vI p0, vJ q1, s_, vI p2, vI p3, vI z6, vR b1, vD z141, s_, vD z146, s_, vR b27, u_, u_] [(.int qh)])) _
      refine XS.istore X143.here hx rfl (hb hby at_288) rfl (l' := #[vI p0, vJ q1, s_, vI p2, vI p3, vI z6, vR b1, vD z141, s_, vD z146, s_, vR b27, vI qh, u_]) rfl ?_
      refine XS.aload X143.here hx rfl (hb hby at_290) rfl rfl ?_
      refine XS.dload X143.here hx rfl (hb hby at_292) rfl ?_
      refine st146.trans ?_
      show Steps p.tables e below (T146.setTop (mkF m 297 #[vI p0, vJ q1, s_, vI p2, vI p3, vI z6, vR b1, vD z141, s_, vD z146, s_, vR b27, vI qh, u_] [(.int ql)])) _
      refine XS.istore X146.here hx rfl (hb hby at_297) rfl (l' := #[vI p0, vJ q1, s_, vI p2, vI p3, vI z6, vR b1, vD z141, s_, vD z146, s_, vR b27, vI qh, vI ql]) rfl ?_
      refine XS.iload X146.here hx rfl (hb hby at_299) rfl ?_
      refine XS.aload X146.here hx rfl (hb hby at_301) rfl rfl ?_
      refine XS.iload X146.here hx rfl (hb hby at_303) rfl ?_
      refine XS.dload X146.here hx rfl (hb hby at_305) rfl ?_
      refine st149 _ ?_
      show Steps p.tables e below (T149.setTop (mkF m 310 #[vI p0, vJ q1, s_, vI p2, vI p3, vI z6, vR b1, vD z141, s_, vD z146, s_, vR b27, vI qh, vI ql] [(.int qb9), (.int qh)])) _
      refine XS.icmpNo X149.here hx rfl (hb hby at_310) rfl (Jvm.Free.XT.ii_ne_f br310) ?_
      refine XS.iload X149.here hx rfl (hb hby at_313) rfl ?_
      refine XS.aload X149.here hx rfl (hb hby at_315) rfl rfl ?_
      refine XS.iload X149.here hx rfl (hb hby at_317) rfl ?_
      refine XS.dload X149.here hx rfl (hb hby at_319) rfl ?_
      refine st150 _ ?_
      show Steps p.tables e below (T150.setTop (mkF m 324 #[vI p0, vJ q1, s_, vI p2, vI p3, vI z6, vR b1, vD z141, s_, vD z146, s_, vR b27, vI qh, vI ql] [(.int qca), (.int ql)])) _
      refine XS.icmpNo X150.here hx rfl (hb hby at_324) rfl (Jvm.Free.XT.ii_ne_f br324) ?_
      refine XS.iconst X150.here hx rfl (hb hby at_327) ?_
      refine XS.goto X150.here hx rfl (pc0 := 328) (pc' := 332) rfl (hb hby at_328) (by decide) (by decide) ?_
      exact k
    obtain ⟨fs, hr, hrun, hended, hW, hsame⟩ := X150.leave (v := some (.int (1 : Int32))) (fun h => by rw [Bd.returns] at h; cases h)
    refine ⟨_, _, c151 _ ?_, hrun, hended, _, _, rfl, ?_, ⟨_, rfl⟩, hW, hsame.mono (by decide) (by decide)⟩
    · show Steps p.tables e below (T150.setTop (mkF m 332 #[vI p0, vJ q1, s_, vI p2, vI p3, vI z6, vR b1, vD z141, s_, vD z146, s_, vR b27, vI qh, vI ql] [(.int (1 : Int32))])) _
      exact retOut X150 hx Bd.returns rfl (Or.inl ⟨rfl, by simp, _, rfl⟩) (hb hby at_332) hr
    · show Q0 n0 _ T150.heap _
      rw [e150]
      exact ⟨rfl, by first | assumption | exact N0⟩
set_option maxRecDepth 65536 in
set_option maxHeartbeats 40000000 in
theorem comes_1 {Post : Tables → Env → Array Value → State → Outcome → State → Prop} (hpost : ∀ tb e args s v u, (limb_1_1.after args s (.returned v) u = true ∧ limb_1_2.after args s (.returned v) u = true ∧ True) → FrameEnd s (.returned v) u (Jvm.fieldLocs frame_1_writes args s ++ Jvm.arrayLocs frame_1_arrays args s ++ Jvm.staticLocs frame_1_statics s) 16 192 → Post tb e args s (.returned v) u) :
    ArmFor flags0 classFile x code maxLocals ret World_1 tables_1 room_1 Calls_1 rest_1 Pre_1 Post := by
  intro l hfl _ _ p e ha hc hk s m args below hf hA hF happ hP
  obtain ⟨hcalls, hrest, hpre⟩ := hP
  obtain ⟨-, -, -, hnamed, -, -, -, hat⟩ := (Spec.applies_iff hf).mp happ
  obtain ⟨hg, hn⟩ := and_e (Cond.before_iff.mp (show (Jvm.Cond.and given_1 narrow_1).before args s = true from hpre))
  obtain ⟨g1, g2⟩ := and_e hg
  obtain ⟨g3, g4⟩ := and_e g2
  obtain ⟨g5, g6⟩ := and_e g4
  obtain ⟨g7, g8⟩ := and_e g6
  obtain ⟨w0, w1, w2, w3, rfl⟩ : ∃ w0 w1 w2 w3 : Value, args = #[w0, w1, w2, w3] := by
    have hs : args.size = 4 := by simpa [Cond.value, given_1] using g1
    obtain ⟨L⟩ := args
    match L, hs with
    | [w0, w1, w2, w3], _ => exact ⟨w0, w1, w2, w3, rfl⟩
  have hw := fun d (hd : d ∈ tables_1) => atoms_spec (ws := Jvm.Cond.code x code maxLocals ret :: tables_1) hat d (List.mem_cons_of_mem _ hd)
  have hfit : Fit s := fun {y c} hc i hi => by
    obtain ⟨ha, rfl⟩ := Array.getElem?_eq_some_iff.mp hc
    have q := List.all_eq_true.mp ((Array.all_eq_true_iff_forall_mem.mp hF) _ (Array.getElem_mem ha)) i (List.mem_range.mpr hi)
    simpa [Array.getElem?_eq_getElem hi] using q
  obtain ⟨i0, ei0⟩ := is_v g3
  obtain rfl : w0 = (.int i0) := Option.some.inj ei0
  obtain ⟨i1, ei1⟩ := isL_v g5
  obtain rfl : w1 = (.long i1) := Option.some.inj ei1
  obtain ⟨i2, ei2⟩ := is_v g7
  obtain rfl : w2 = (.int i2) := Option.some.inj ei2
  obtain ⟨i3, ei3⟩ := is_v g8
  obtain rfl : w3 = (.int i3) := Option.some.inj ei3
  obtain ⟨n, o, h1, h2, h3, _, L, rfl, ⟨rfl, N⟩, hq⟩ := rm0 l s _ hw tables_1 i0 i1 i2 i3  s.heap s.heap.size (Nat.le_refl _)  p e ha hc hk s m _ below hf ((Spec.applies_iff_loose hf).mp happ).1 ⟨rfl, State.Warmed39.refl s, rfl⟩ trivial
  refine ⟨n, _, h1, h2, h3, hpost _ _ _ _ _ _ ⟨Cond.after_iff.mpr rfl, Cond.after_iff.mpr (eq_i res_at (Term.int_eval (1)) rfl), trivial⟩ ⟨hq.1, hq.2.1, (hq.2.2.sift fun y hy => Or.inr (N y hy)).mono (by decide) (by decide)⟩⟩
theorem main_1_1 : Claimed_1_1 := comes_1 fun _ _ _ _ _ _ h hF => ⟨h.1, hF⟩
theorem main_1_2 : Claimed_1_2 := comes_1 fun _ _ _ _ _ _ h hF => ⟨h.2.1, hF⟩
end Jvm.Pilot.@@N@@
namespace Jvm.Pilot.@@N@@
open Jvm Jvm.ClassFile Sem Op Lib Jvm.Free Jvm.Stand Jvm.Pilot.@@N@@.Jvm.D
/-! MADE BY PROGRAM (witnessworld.py) out of the Statement's table words and the real class files: 18 classes; the members and pool entries that the words name. The judged class is class 1, her method 1. -/
namespace start1
open Jvm.ClassFile
def u (s : String) : CpInfo := .utf8 (stringToUtf16 s)
/-- a pool by its gaps: so many unusable entries, then the entry; so many at the end -/
def gap : Nat → List CpInfo → List CpInfo
  | 0, r => r
  | n + 1, r => .unusable :: gap n r
def poolList (es : List (Nat × CpInfo)) (last : Nat) : List CpInfo := es.foldr (fun e r => gap e.1 (e.2 :: r)) (gap last [])
def pool (es : List (Nat × CpInfo)) (last : Nat) : Array CpInfo := ⟨poolList es last⟩
def fileOf (pool : Array CpInfo) (this : Nat) (attrs : Array Attribute := #[]) (ms : Array MethodInfo := #[]) (fl : Nat := 33) (sup : Nat := 0) (ifs : Array Nat := #[]) (fds : Array FieldInfo := #[]) : ClassFile where
  minorVersion := 0
  majorVersion := 65
  constantPool := pool
  accessFlags := fl
  thisClass := this
  superClass := sup
  interfaces := ifs
  fields := fds
  methods := ms
  attributes := attrs
def plain (name : String) (sup : Option ClassId) : Class where
  name := name
  kind := .ordinary
  loader := none
  accessFlags := 33
  super := sup
  interfaces := #[]
  cf := none
  fields := #[]
  methods := #[]
  instanceTypes := #[]
  staticTypes := #[]
  resolved := #[]
  callSites := []
  init := .initialized
  statics := none
  mirror := none

def pool0 : Array CpInfo := pool [(5, u "<init>"), (0, u "()V"), (1, .class_ 10), (1, u "java/lang/Object")] 113

def k0c0 : Code := { maxStack := 0, maxLocals := 1, code := object_method_1_code, exceptionTable := #[], attributes := #[] }
def k0m0 : Method := { name := "<init>", desc := "()V", sig := { parameters := [], returnType := none }, accessFlags := 1, code := some k0c0 }
/-- java/lang/Object -/
def k0 : Class := { plain "java/lang/Object" none with
  accessFlags := 33
  interfaces := #[]
  cf := some (fileOf pool0 8 #[] #[{ accessFlags := 1, nameIndex := 5, descriptorIndex := 6, attributes := #[] }] 33 0 #[] #[])
  fields := #[]
  methods := #[k0m0]
  instanceTypes := #[]
  staticTypes := #[]
  resolved := Array.replicate 124 none
  statics := none }

def pool1 : Array CpInfo := pool [(2, .class_ 4), (0, .nameAndType 5 6), (0, u "java/lang/Object"), (0, u "<init>"), (0, u "()V"), (0, .integer 2147483647), (0, .class_ 9), (0, u "com/example/kinetic_fleet/kineticfleet/fleet/MachineTimes"), (0, .methodref 8 3), (0, .methodref 8 12), (0, .nameAndType 13 14), (0, u "add"), (0, u "(D)V"), (0, .methodref 8 16), (0, .nameAndType 17 18), (0, u "firstBy"), (0, u "(D)I"), (0, .methodref 20 21), (0, .class_ 22), (0, .nameAndType 23 24), (0, u "com/example/kinetic_fleet/kineticfleet/fleet/MachineTimesFirstByPinLaw"), (0, u "ref"), (0, u "([DID)I"), (2, u "law"), (0, u "(IJII)Z")] 5

def k1m0 : Method := { name := "<init>", desc := "()V", sig := { parameters := [], returnType := none }, accessFlags := 1, code := none }
def k1c1 : Code := { maxStack := 7, maxLocals := 14, code := code, exceptionTable := #[], attributes := #[] }
def k1m1 : Method := { name := "law", desc := "(IJII)Z", sig := { parameters := [.int, .long, .int, .int], returnType := some .boolean }, accessFlags := 9, code := some k1c1 }
def k1c2 : Code := { maxStack := 4, maxLocals := 4, code := method_3_code, exceptionTable := #[], attributes := #[] }
def k1m2 : Method := { name := "ref", desc := "([DID)I", sig := { parameters := [(.array .double), .int, .double], returnType := some .int }, accessFlags := 10, code := some k1c2 }
/-- com/example/kinetic_fleet/kineticfleet/fleet/MachineTimesFirstByPinLaw -/
def k1 : Class := { plain "com/example/kinetic_fleet/kineticfleet/fleet/MachineTimesFirstByPinLaw" (some 0) with
  accessFlags := 49
  interfaces := #[]
  cf := some (fileOf pool1 20 #[] #[{ accessFlags := 1, nameIndex := 5, descriptorIndex := 6, attributes := #[] }, { accessFlags := 9, nameIndex := 27, descriptorIndex := 28, attributes := #[] }, { accessFlags := 10, nameIndex := 23, descriptorIndex := 24, attributes := #[] }] 49 2 #[] #[])
  fields := #[]
  methods := #[k1m0, k1m1, k1m2]
  instanceTypes := #[]
  staticTypes := #[]
  resolved := Array.replicate 34 none
  statics := none }

def pool2 : Array CpInfo := pool [(1, .methodref 2 3), (0, .class_ 4), (0, .nameAndType 5 6), (0, u "java/lang/Object"), (0, u "<init>"), (0, u "()V"), (0, .class_ 8), (0, u "com/example/kinetic_fleet/kineticfleet/fleet/MachineTimes"), (0, .methodref 7 10), (0, .nameAndType 11 12), (0, u "emptyTree"), (0, u "(I)[D"), (0, .fieldref 7 14), (0, .nameAndType 15 16), (0, u "minima"), (0, u "[D"), (0, .fieldref 7 18), (0, .nameAndType 19 20), (0, u "capacity"), (0, u "I"), (0, .fieldref 7 22), (0, .nameAndType 23 20), (0, u "count"), (3, .methodref 7 28), (0, .nameAndType 29 30), (0, u "set"), (0, u "(ID)V"), (0, .methodref 7 32), (0, .nameAndType 33 34), (0, u "min"), (0, u "(DD)D"), (0, .fieldref 7 36), (0, .nameAndType 37 38), (0, u "visits"), (0, u "J"), (0, .methodref 40 41), (0, .class_ 42), (0, .nameAndType 43 44), (0, u "java/lang/Double"), (0, u "compare"), (0, u "(DD)I"), (6, .double 9221120237041090560), (1, .methodref 54 55), (0, .class_ 56), (0, .nameAndType 57 58), (0, u "java/util/Arrays"), (0, u "fill"), (0, u "([DD)V"), (0, .methodref 40 60), (0, .nameAndType 61 62), (0, u "isNaN"), (0, u "(D)Z"), (0, .methodref 64 32), (0, .class_ 65), (0, u "java/lang/Math"), (0, u "FIRST_CAPACITY"), (4, u "add"), (0, u "(D)V"), (5, u "firstBy"), (0, u "(D)I")] 4

def k2c0 : Code := { maxStack := 2, maxLocals := 1, code := prog_28_method_1_code, exceptionTable := #[], attributes := #[] }
def k2m0 : Method := { name := "<init>", desc := "()V", sig := { parameters := [], returnType := none }, accessFlags := 0, code := some k2c0 }
def k2c1 : Code := { maxStack := 4, maxLocals := 3, code := prog_28_method_2_code, exceptionTable := #[], attributes := #[] }
def k2m1 : Method := { name := "add", desc := "(D)V", sig := { parameters := [.double], returnType := none }, accessFlags := 0, code := some k2c1 }
def k2c2 : Code := { maxStack := 5, maxLocals := 7, code := prog_28_method_3_code, exceptionTable := #[], attributes := #[] }
def k2m2 : Method := { name := "set", desc := "(ID)V", sig := { parameters := [.int, .double], returnType := none }, accessFlags := 0, code := some k2c2 }
def k2c3 : Code := { maxStack := 5, maxLocals := 4, code := prog_28_method_6_code, exceptionTable := #[], attributes := #[] }
def k2m3 : Method := { name := "firstBy", desc := "(D)I", sig := { parameters := [.double], returnType := some .int }, accessFlags := 0, code := some k2c3 }
def k2c4 : Code := { maxStack := 3, maxLocals := 2, code := prog_28_method_9_code, exceptionTable := #[], attributes := #[] }
def k2m4 : Method := { name := "emptyTree", desc := "(I)[D", sig := { parameters := [.int], returnType := some (.array .double) }, accessFlags := 10, code := some k2c4 }
def k2c5 : Code := { maxStack := 4, maxLocals := 6, code := prog_28_method_10_code, exceptionTable := #[], attributes := #[] }
def k2m5 : Method := { name := "min", desc := "(DD)D", sig := { parameters := [.double, .double], returnType := some .double }, accessFlags := 10, code := some k2c5 }
/-- com/example/kinetic_fleet/kineticfleet/fleet/MachineTimes -/
def k2 : Class := { plain "com/example/kinetic_fleet/kineticfleet/fleet/MachineTimes" (some 0) with
  accessFlags := 48
  interfaces := #[]
  cf := some (fileOf pool2 7 #[] #[{ accessFlags := 0, nameIndex := 5, descriptorIndex := 6, attributes := #[] }, { accessFlags := 0, nameIndex := 71, descriptorIndex := 72, attributes := #[] }, { accessFlags := 0, nameIndex := 29, descriptorIndex := 30, attributes := #[] }, { accessFlags := 0, nameIndex := 78, descriptorIndex := 79, attributes := #[] }, { accessFlags := 10, nameIndex := 11, descriptorIndex := 12, attributes := #[] }, { accessFlags := 10, nameIndex := 33, descriptorIndex := 34, attributes := #[] }] 48 2 #[] #[{ accessFlags := 26, nameIndex := 66, descriptorIndex := 20, attributes := #[] }, { accessFlags := 2, nameIndex := 15, descriptorIndex := 16, attributes := #[] }, { accessFlags := 2, nameIndex := 19, descriptorIndex := 20, attributes := #[] }, { accessFlags := 2, nameIndex := 23, descriptorIndex := 20, attributes := #[] }, { accessFlags := 2, nameIndex := 37, descriptorIndex := 38, attributes := #[] }])
  fields := #[{ name := "FIRST_CAPACITY", type := .int, accessFlags := 26, slot := 0, constantValue := 0 }, { name := "minima", type := (.array .double), accessFlags := 2, slot := 0, constantValue := 0 }, { name := "capacity", type := .int, accessFlags := 2, slot := 1, constantValue := 0 }, { name := "count", type := .int, accessFlags := 2, slot := 2, constantValue := 0 }, { name := "visits", type := .long, accessFlags := 2, slot := 3, constantValue := 0 }]
  methods := #[k2m0, k2m1, k2m2, k2m3, k2m4, k2m5]
  instanceTypes := #[(.array .double), .int, .int, .long]
  staticTypes := #[.int]
  resolved := Array.replicate 84 none
  statics := none }

def pool3 : Array CpInfo := pool [(2, .class_ 4), (1, u "java/lang/Object"), (0, u "<init>"), (0, u "()V"), (7, .class_ 16), (1, u "java/util/Arrays"), (57, .class_ 76), (1, u "java/util/Arrays$NaturalOrder"), (36, .class_ 115), (1, u "java/util/Arrays$LegacyMergeSort"), (1, u "Z"), (257, .class_ 376), (0, u "java/util/Arrays$ArrayList"), (68, u "$assertionsDisabled"), (269, u "MIN_ARRAY_SORT_GRAN"), (0, u "I"), (2, u "INSERTIONSORT_THRESHOLD"), (120, u "fill"), (13, u "([DD)V"), (120, .class_ 976), (0, u "java/util/Arrays$ArrayItr")] 52

def k3m0 : Method := { name := "<init>", desc := "()V", sig := { parameters := [], returnType := none }, accessFlags := 2, code := none }
def k3c1 : Code := { maxStack := 4, maxLocals := 5, code := jdk_65_method_113_code, exceptionTable := #[], attributes := #[] }
def k3m1 : Method := { name := "fill", desc := "([DD)V", sig := { parameters := [(.array .double), .double], returnType := none }, accessFlags := 9, code := some k3c1 }
/-- java/util/Arrays -/
def k3 : Class := { plain "java/util/Arrays" (some 0) with
  accessFlags := 49
  interfaces := #[]
  cf := some (fileOf pool3 14 #[.nestMembers #[975, 375, 113, 74]] #[{ accessFlags := 2, nameIndex := 5, descriptorIndex := 6, attributes := #[] }, { accessFlags := 9, nameIndex := 840, descriptorIndex := 854, attributes := #[] }] 49 2 #[] #[{ accessFlags := 26, nameIndex := 715, descriptorIndex := 716, attributes := #[] }, { accessFlags := 26, nameIndex := 719, descriptorIndex := 716, attributes := #[] }, { accessFlags := 4120, nameIndex := 445, descriptorIndex := 117, attributes := #[] }])
  fields := #[{ name := "MIN_ARRAY_SORT_GRAN", type := .int, accessFlags := 26, slot := 0, constantValue := 0 }, { name := "INSERTIONSORT_THRESHOLD", type := .int, accessFlags := 26, slot := 1, constantValue := 0 }, { name := "$assertionsDisabled", type := .boolean, accessFlags := 4120, slot := 2, constantValue := 0 }]
  methods := #[k3m0, k3m1]
  instanceTypes := #[]
  staticTypes := #[.int, .int, .boolean]
  resolved := Array.replicate 1029 none
  statics := none }

def pool4 : Array CpInfo := pool [(1, .class_ 2), (0, u "java/io/Serializable"), (0, .class_ 4), (0, u "java/lang/Object")] 2

/-- java/io/Serializable -/
def k4 : Class := { plain "java/io/Serializable" (some 0) with
  accessFlags := 1537
  interfaces := #[]
  cf := some (fileOf pool4 1 #[] #[] 1537 3 #[] #[])
  fields := #[]
  methods := #[]
  instanceTypes := #[]
  staticTypes := #[]
  resolved := Array.replicate 7 none
  statics := none }

def pool5 : Array CpInfo := pool [(2, .class_ 4), (1, u "java/lang/Object"), (0, u "<init>"), (0, u "()V"), (1, .class_ 10), (1, u "java/lang/Number"), (2, .class_ 14), (0, u "java/io/Serializable"), (0, u "serialVersionUID"), (0, u "J")] 20

def k5m0 : Method := { name := "<init>", desc := "()V", sig := { parameters := [], returnType := none }, accessFlags := 1, code := none }
/-- java/lang/Number -/
def k5 : Class := { plain "java/lang/Number" (some 0) with
  accessFlags := 1057
  interfaces := #[4]
  cf := some (fileOf pool5 8 #[] #[{ accessFlags := 1, nameIndex := 5, descriptorIndex := 6, attributes := #[] }] 1057 2 #[13] #[{ accessFlags := 26, nameIndex := 15, descriptorIndex := 16, attributes := #[] }])
  fields := #[{ name := "serialVersionUID", type := .long, accessFlags := 26, slot := 0, constantValue := 0 }]
  methods := #[k5m0]
  instanceTypes := #[]
  staticTypes := #[.long]
  resolved := Array.replicate 37 none
  statics := none }

def pool6 : Array CpInfo := pool [(1, .class_ 2), (0, u "java/lang/Comparable"), (0, .class_ 4), (0, u "java/lang/Object")] 7

/-- java/lang/Comparable -/
def k6 : Class := { plain "java/lang/Comparable" (some 0) with
  accessFlags := 1537
  interfaces := #[]
  cf := some (fileOf pool6 1 #[] #[] 1537 3 #[] #[])
  fields := #[]
  methods := #[]
  instanceTypes := #[]
  staticTypes := #[]
  resolved := Array.replicate 12 none
  statics := none }

def pool7 : Array CpInfo := pool [(1, .class_ 2), (0, u "java/lang/constant/Constable"), (0, .class_ 4), (0, u "java/lang/Object")] 6

/-- java/lang/constant/Constable -/
def k7 : Class := { plain "java/lang/constant/Constable" (some 0) with
  accessFlags := 1537
  interfaces := #[]
  cf := some (fileOf pool7 1 #[] #[] 1537 3 #[] #[])
  fields := #[]
  methods := #[]
  instanceTypes := #[]
  staticTypes := #[]
  resolved := Array.replicate 11 none
  statics := none }

def pool8 : Array CpInfo := pool [(1, .class_ 2), (0, u "java/lang/constant/ConstantDesc"), (0, .class_ 4), (0, u "java/lang/Object")] 32

/-- java/lang/constant/ConstantDesc -/
def k8 : Class := { plain "java/lang/constant/ConstantDesc" (some 0) with
  accessFlags := 1537
  interfaces := #[]
  cf := some (fileOf pool8 1 #[] #[] 1537 3 #[] #[])
  fields := #[]
  methods := #[]
  instanceTypes := #[]
  staticTypes := #[]
  resolved := Array.replicate 37 none
  statics := none }

def pool9 : Array CpInfo := pool [(1, .class_ 2), (0, u "java/lang/Double"), (11, u "(D)Z"), (31, .methodref 1 47), (0, .nameAndType 48 49), (0, u "doubleToLongBits"), (0, u "(D)J"), (64, .class_ 116), (1, u "java/lang/Number"), (3, u "value"), (0, u "D"), (0, .methodref 1 123), (0, .nameAndType 124 14), (0, u "isNaN"), (9, .methodref 1 135), (0, .nameAndType 136 49), (0, u "doubleToRawLongBits"), (0, .long 9221120237041090560), (3, u "compare"), (0, u "(DD)I"), (30, u "TYPE"), (0, u "Ljava/lang/Class;"), (0, .class_ 176), (0, u "java/lang/Comparable"), (0, .class_ 178), (0, u "java/lang/constant/Constable"), (0, .class_ 180), (0, u "java/lang/constant/ConstantDesc"), (0, u "POSITIVE_INFINITY"), (3, u "NEGATIVE_INFINITY"), (2, u "NaN"), (2, u "MAX_VALUE"), (0, u "MIN_NORMAL"), (0, u "MIN_VALUE"), (2, u "SIZE"), (0, u "I"), (1, u "PRECISION"), (1, u "MAX_EXPONENT"), (1, u "MIN_EXPONENT"), (1, u "BYTES"), (3, u "serialVersionUID"), (0, u "J")] 79

def k9c0 : Code := { maxStack := 4, maxLocals := 2, code := jdk_117_method_6_code, exceptionTable := #[], attributes := #[] }
def k9m0 : Method := { name := "isNaN", desc := "(D)Z", sig := { parameters := [.double], returnType := some .boolean }, accessFlags := 9, code := some k9c0 }
def k9c1 : Code := { maxStack := 2, maxLocals := 2, code := jdk_117_method_23_code, exceptionTable := #[], attributes := #[] }
def k9m1 : Method := { name := "doubleToLongBits", desc := "(D)J", sig := { parameters := [.double], returnType := some .long }, accessFlags := 9, code := some k9c1 }
def k9m2 : Method := { name := "doubleToRawLongBits", desc := "(D)J", sig := { parameters := [.double], returnType := some .long }, accessFlags := 265, code := none }
def k9c3 : Code := { maxStack := 4, maxLocals := 8, code := jdk_117_method_27_code, exceptionTable := #[], attributes := #[] }
def k9m3 : Method := { name := "compare", desc := "(DD)I", sig := { parameters := [.double, .double], returnType := some .int }, accessFlags := 9, code := some k9c3 }
/-- java/lang/Double -/
def k9 : Class := { plain "java/lang/Double" (some 5) with
  accessFlags := 49
  interfaces := #[6, 7, 8]
  cf := some (fileOf pool9 1 #[] #[{ accessFlags := 9, nameIndex := 124, descriptorIndex := 14, attributes := #[] }, { accessFlags := 9, nameIndex := 48, descriptorIndex := 49, attributes := #[] }, { accessFlags := 265, nameIndex := 136, descriptorIndex := 49, attributes := #[] }, { accessFlags := 9, nameIndex := 141, descriptorIndex := 142, attributes := #[] }] 49 114 #[175, 177, 179] #[{ accessFlags := 25, nameIndex := 181, descriptorIndex := 121, attributes := #[] }, { accessFlags := 25, nameIndex := 185, descriptorIndex := 121, attributes := #[] }, { accessFlags := 25, nameIndex := 188, descriptorIndex := 121, attributes := #[] }, { accessFlags := 25, nameIndex := 191, descriptorIndex := 121, attributes := #[] }, { accessFlags := 25, nameIndex := 192, descriptorIndex := 121, attributes := #[] }, { accessFlags := 25, nameIndex := 193, descriptorIndex := 121, attributes := #[] }, { accessFlags := 25, nameIndex := 196, descriptorIndex := 197, attributes := #[] }, { accessFlags := 25, nameIndex := 199, descriptorIndex := 197, attributes := #[] }, { accessFlags := 25, nameIndex := 201, descriptorIndex := 197, attributes := #[] }, { accessFlags := 25, nameIndex := 203, descriptorIndex := 197, attributes := #[] }, { accessFlags := 25, nameIndex := 205, descriptorIndex := 197, attributes := #[] }, { accessFlags := 25, nameIndex := 173, descriptorIndex := 174, attributes := #[] }, { accessFlags := 18, nameIndex := 120, descriptorIndex := 121, attributes := #[] }, { accessFlags := 26, nameIndex := 209, descriptorIndex := 210, attributes := #[] }])
  fields := #[{ name := "POSITIVE_INFINITY", type := .double, accessFlags := 25, slot := 0, constantValue := 0 }, { name := "NEGATIVE_INFINITY", type := .double, accessFlags := 25, slot := 1, constantValue := 0 }, { name := "NaN", type := .double, accessFlags := 25, slot := 2, constantValue := 0 }, { name := "MAX_VALUE", type := .double, accessFlags := 25, slot := 3, constantValue := 0 }, { name := "MIN_NORMAL", type := .double, accessFlags := 25, slot := 4, constantValue := 0 }, { name := "MIN_VALUE", type := .double, accessFlags := 25, slot := 5, constantValue := 0 }, { name := "SIZE", type := .int, accessFlags := 25, slot := 6, constantValue := 0 }, { name := "PRECISION", type := .int, accessFlags := 25, slot := 7, constantValue := 0 }, { name := "MAX_EXPONENT", type := .int, accessFlags := 25, slot := 8, constantValue := 0 }, { name := "MIN_EXPONENT", type := .int, accessFlags := 25, slot := 9, constantValue := 0 }, { name := "BYTES", type := .int, accessFlags := 25, slot := 10, constantValue := 0 }, { name := "TYPE", type := (.object "java/lang/Class"), accessFlags := 25, slot := 11, constantValue := 0 }, { name := "value", type := .double, accessFlags := 18, slot := 0, constantValue := 0 }, { name := "serialVersionUID", type := .long, accessFlags := 26, slot := 12, constantValue := 0 }]
  methods := #[k9m0, k9m1, k9m2, k9m3]
  instanceTypes := #[.double]
  staticTypes := #[.double, .double, .double, .double, .double, .double, .int, .int, .int, .int, .int, (.object "java/lang/Class"), .long]
  resolved := Array.replicate 290 none
  statics := none }

def pool10 : Array CpInfo := pool [(1, .class_ 2), (0, u "java/lang/Math"), (1, .class_ 6), (1, u "java/lang/Object"), (0, u "<init>"), (0, u "()V"), (43, u "(DD)D"), (45, .class_ 100), (1, u "java/lang/Math$RandomNumberGeneratorHolder"), (71, u "negativeZeroFloatBits"), (0, u "J"), (2, u "negativeZeroDoubleBits"), (24, u "min"), (43, u "$assertionsDisabled"), (0, u "Z"), (91, u "twoToTheDoubleScaleDown"), (0, u "D"), (4, u "twoToTheDoubleScaleUp"), (9, u "E"), (3, u "PI"), (2, u "TAU"), (2, u "DEGREES_TO_RADIANS"), (0, u "RADIANS_TO_DEGREES")] 94

def k10m0 : Method := { name := "<init>", desc := "()V", sig := { parameters := [], returnType := none }, accessFlags := 2, code := none }
def k10c1 : Code := { maxStack := 4, maxLocals := 4, code := jdk_29_method_72_code, exceptionTable := #[], attributes := #[] }
def k10m1 : Method := { name := "min", desc := "(DD)D", sig := { parameters := [.double, .double], returnType := some .double }, accessFlags := 9, code := some k10c1 }
/-- java/lang/Math -/
def k10 : Class := { plain "java/lang/Math" (some 0) with
  accessFlags := 49
  interfaces := #[]
  cf := some (fileOf pool10 1 #[.nestMembers #[98]] #[{ accessFlags := 2, nameIndex := 7, descriptorIndex := 8, attributes := #[] }, { accessFlags := 9, nameIndex := 201, descriptorIndex := 52, attributes := #[] }] 49 4 #[] #[{ accessFlags := 25, nameIndex := 354, descriptorIndex := 339, attributes := #[] }, { accessFlags := 25, nameIndex := 358, descriptorIndex := 339, attributes := #[] }, { accessFlags := 25, nameIndex := 361, descriptorIndex := 339, attributes := #[] }, { accessFlags := 26, nameIndex := 364, descriptorIndex := 339, attributes := #[] }, { accessFlags := 26, nameIndex := 365, descriptorIndex := 339, attributes := #[] }, { accessFlags := 26, nameIndex := 172, descriptorIndex := 173, attributes := #[] }, { accessFlags := 26, nameIndex := 176, descriptorIndex := 173, attributes := #[] }, { accessFlags := 8, nameIndex := 344, descriptorIndex := 339, attributes := #[] }, { accessFlags := 8, nameIndex := 338, descriptorIndex := 339, attributes := #[] }, { accessFlags := 4120, nameIndex := 245, descriptorIndex := 246, attributes := #[] }])
  fields := #[{ name := "E", type := .double, accessFlags := 25, slot := 0, constantValue := 0 }, { name := "PI", type := .double, accessFlags := 25, slot := 1, constantValue := 0 }, { name := "TAU", type := .double, accessFlags := 25, slot := 2, constantValue := 0 }, { name := "DEGREES_TO_RADIANS", type := .double, accessFlags := 26, slot := 3, constantValue := 0 }, { name := "RADIANS_TO_DEGREES", type := .double, accessFlags := 26, slot := 4, constantValue := 0 }, { name := "negativeZeroFloatBits", type := .long, accessFlags := 26, slot := 5, constantValue := 0 }, { name := "negativeZeroDoubleBits", type := .long, accessFlags := 26, slot := 6, constantValue := 0 }, { name := "twoToTheDoubleScaleUp", type := .double, accessFlags := 8, slot := 7, constantValue := 0 }, { name := "twoToTheDoubleScaleDown", type := .double, accessFlags := 8, slot := 8, constantValue := 0 }, { name := "$assertionsDisabled", type := .boolean, accessFlags := 4120, slot := 9, constantValue := 0 }]
  methods := #[k10m0, k10m1]
  instanceTypes := #[]
  staticTypes := #[.double, .double, .double, .double, .double, .long, .long, .double, .double, .boolean]
  resolved := Array.replicate 460 none
  statics := none }

def pool11 : Array CpInfo := pool [(1, u "java/lang/Cloneable"), (0, .class_ 1), (0, u "java/lang/Object"), (0, .class_ 3)] 3

/-- java/lang/Cloneable -/
def k11 : Class := { plain "java/lang/Cloneable" (some 0) with
  accessFlags := 1537
  interfaces := #[]
  cf := some (fileOf pool11 2 #[] #[] 1537 4 #[] #[])
  fields := #[]
  methods := #[]
  instanceTypes := #[]
  staticTypes := #[]
  resolved := Array.replicate 8 none
  statics := none }

/-- the primitive byte -/
def k12 : Class := { plain "byte" none with kind := .primitive 'B', accessFlags := 0x411 }
/-- [B -/
def k13 : Class := { plain "[B" (some 0) with kind := .array 12 .byte, interfaces := #[11, 4], accessFlags := 1041 }

/-- the primitive double -/
def k14 : Class := { plain "double" none with kind := .primitive 'D', accessFlags := 0x411 }
/-- [D -/
def k15 : Class := { plain "[D" (some 0) with kind := .array 14 .double, interfaces := #[11, 4], accessFlags := 1041 }

/-- the primitive int -/
def k16 : Class := { plain "int" none with kind := .primitive 'I', accessFlags := 0x411 }
/-- [I -/
def k17 : Class := { plain "[I" (some 0) with kind := .array 16 .int, interfaces := #[11, 4], accessFlags := 1041 }

def heap : Heap := #[]
def classes : Array Class := #[k0, k1, k2, k3, k4, k5, k6, k7, k8, k9, k10, k11, k12, k13, k14, k15, k16, k17]
def interned : List (Array UInt16 × Addr) := []
def slotsUsed : Nat := 0
def theMethod : MethodId := ⟨1, 1⟩
def args0 : Array Value := #[.int 5, .long 5, .int 5, .int 5]
def aboutOver (below : List Frame) : State where
  vm := { classes := classes, interned := interned.toArray }
  heap := heap
  slotsUsed := slotsUsed
  threads := #[{ frames := .invoking theMethod args0 :: below }]
def below0 : List Frame := [.native { method := ⟨0, 0⟩, args := #[] }]
def about1 : State := aboutOver below0
def p0 : Program := .bare "" "" ""
def e0 : Env := launch0.env 0 0 0
theorem w_frames : about1.frames = Frame.invoking theMethod args0 :: below0 := rfl
set_option maxRecDepth 65536 in
theorem w_args : argsFit about1.vm theMethod args0 = true := by decide +kernel
set_option maxRecDepth 65536 in
theorem w_heap : heapFits about1 = true := by decide +kernel
set_option maxRecDepth 65536 in
theorem w_runnable : about1.curStatus? = some .runnable := by decide +kernel
set_option maxRecDepth 65536 in
theorem w_alone : about1.alone = true := by decide +kernel
set_option maxRecDepth 65536 in
theorem w_named : about1.methodNamed? x = some theMethod := by decide +kernel
set_option maxRecDepth 65536 in
theorem w_hears : about1.hears theMethod below0 = true := by decide +kernel
set_option maxRecDepth 65536 in
theorem w_ripe : about1.ripe theMethod args0 below0 = true := by decide +kernel
theorem w_running : about1.status = .running := rfl
set_option maxRecDepth 65536 in
theorem w_room : about1.hasRoom e0.platform room_1 = true :=
  launch0.hasRoom_least _ room_1 (by decide +kernel) (by decide +kernel) (by decide +kernel) (by decide +kernel) (by decide +kernel) (by decide +kernel)
theorem allAtoms_all (ts : List Jvm.Cond) (a : Array Jvm.Value) (st : Jvm.State) : (allAtoms ts).before a st = ts.all (fun c => c.before a st) := by
  induction ts with
  | nil => rfl
  | cons c t ih =>
    show (Jvm.Cond.and c (allAtoms t)).before a st = _
    rw [Jvm.Cond.before_and, ih, List.all_cons]
def words1 : List Jvm.Cond := Jvm.Cond.code x code maxLocals ret :: tables_1
/-- a 'code' word, met by the world's own term for the bytes: nothing is compared byte by byte -/
theorem code_word {y : MethodName} {bytes : ByteArray} {mx : Nat} {rt : Option FieldType} {a : Array Value} {s : State} {m : MethodId} {meth : Method} {c : Code} (h1 : s.methodNamed? y = some m) (h2 : s.vm.method? m = some meth) (h3 : meth.code = some c) (h4 : c.code = bytes)
    (h5 : (c.maxLocals == mx && c.exceptionTable.isEmpty && decide (c.maxStack ≤ mostOperands) && decide (meth.sig.returnType = rt) && !meth.locks && decide (parseMethodDescriptor y.desc = some meth.sig)) = true) : (Jvm.Cond.code y bytes mx rt).before a s = true := by
  simp only [Bool.and_eq_true, beq_iff_eq, Bool.not_eq_true', decide_eq_true_eq] at h5
  obtain ⟨⟨⟨⟨⟨g1, g2⟩, g3⟩, g4⟩, g5⟩, g6⟩ := h5
  simp [Cond.before, Cond.holds, Cond.value, h1, h2, h3, h4, g1, g2, g3, g4, g5, g6]
def isCode : Jvm.Cond → Bool
  | .code _ _ _ _ => true
  | _ => false
theorem all_split {L : List Jvm.Cond} {P : Jvm.Cond → Bool} (h1 : L.all (fun c => isCode c || P c) = true) (h2 : ∀ c ∈ L.filter isCode, P c = true) : L.all P = true := by
  refine List.all_eq_true.mpr fun c hc => ?_
  have h := List.all_eq_true.mp h1 c hc
  rcases Bool.eq_false_or_eq_true (isCode c) with hi | hi
  · exact h2 c (List.mem_filter.mpr ⟨hc, hi⟩)
  · simpa [hi] using h
set_option maxRecDepth 65536 in
theorem w_c0 : (Jvm.Cond.code x code maxLocals ret).before args0 about1 = true := code_word (m := ⟨1, 1⟩) (meth := k1m1) (c := k1c1) (by decide +kernel) rfl rfl rfl (by decide +kernel)
set_option maxRecDepth 65536 in
theorem w_c1 : (Jvm.Cond.code ({ cls := "com/example/kinetic_fleet/kineticfleet/fleet/MachineTimes", name := "<init>", desc := "()V" } : Jvm.MethodName) prog_28_method_1_code (1 : Nat) (Option.none : Option Jvm.ClassFile.FieldType)).before args0 about1 = true := code_word (m := ⟨2, 0⟩) (meth := k2m0) (c := k2c0) (by decide +kernel) rfl rfl rfl (by decide +kernel)
set_option maxRecDepth 65536 in
theorem w_c2 : (Jvm.Cond.code ({ cls := "java/lang/Object", name := "<init>", desc := "()V" } : Jvm.MethodName) object_method_1_code (1 : Nat) (Option.none : Option Jvm.ClassFile.FieldType)).before args0 about1 = true := code_word (m := ⟨0, 0⟩) (meth := k0m0) (c := k0c0) (by decide +kernel) rfl rfl rfl (by decide +kernel)
set_option maxRecDepth 65536 in
theorem w_c3 : (Jvm.Cond.code ({ cls := "com/example/kinetic_fleet/kineticfleet/fleet/MachineTimes", name := "emptyTree", desc := "(I)[D" } : Jvm.MethodName) prog_28_method_9_code (2 : Nat) (Option.some (Jvm.ClassFile.FieldType.array Jvm.ClassFile.FieldType.double))).before args0 about1 = true := code_word (m := ⟨2, 4⟩) (meth := k2m4) (c := k2c4) (by decide +kernel) rfl rfl rfl (by decide +kernel)
set_option maxRecDepth 65536 in
theorem w_c4 : (Jvm.Cond.code ({ cls := "java/util/Arrays", name := "fill", desc := "([DD)V" } : Jvm.MethodName) jdk_65_method_113_code (5 : Nat) (Option.none : Option Jvm.ClassFile.FieldType)).before args0 about1 = true := code_word (m := ⟨3, 1⟩) (meth := k3m1) (c := k3c1) (by decide +kernel) rfl rfl rfl (by decide +kernel)
set_option maxRecDepth 65536 in
theorem w_c5 : (Jvm.Cond.code ({ cls := "com/example/kinetic_fleet/kineticfleet/fleet/MachineTimes", name := "firstBy", desc := "(D)I" } : Jvm.MethodName) prog_28_method_6_code (4 : Nat) (Option.some Jvm.ClassFile.FieldType.int)).before args0 about1 = true := code_word (m := ⟨2, 3⟩) (meth := k2m3) (c := k2c3) (by decide +kernel) rfl rfl rfl (by decide +kernel)
set_option maxRecDepth 65536 in
theorem w_c6 : (Jvm.Cond.code ({ cls := "com/example/kinetic_fleet/kineticfleet/fleet/MachineTimesFirstByPinLaw", name := "ref", desc := "([DID)I" } : Jvm.MethodName) method_3_code (4 : Nat) (Option.some Jvm.ClassFile.FieldType.int)).before args0 about1 = true := code_word (m := ⟨1, 2⟩) (meth := k1m2) (c := k1c2) (by decide +kernel) rfl rfl rfl (by decide +kernel)
set_option maxRecDepth 65536 in
theorem w_c7 : (Jvm.Cond.code ({ cls := "com/example/kinetic_fleet/kineticfleet/fleet/MachineTimes", name := "add", desc := "(D)V" } : Jvm.MethodName) prog_28_method_2_code (3 : Nat) (Option.none : Option Jvm.ClassFile.FieldType)).before args0 about1 = true := code_word (m := ⟨2, 1⟩) (meth := k2m1) (c := k2c1) (by decide +kernel) rfl rfl rfl (by decide +kernel)
set_option maxRecDepth 65536 in
theorem w_c8 : (Jvm.Cond.code ({ cls := "com/example/kinetic_fleet/kineticfleet/fleet/MachineTimes", name := "set", desc := "(ID)V" } : Jvm.MethodName) prog_28_method_3_code (7 : Nat) (Option.none : Option Jvm.ClassFile.FieldType)).before args0 about1 = true := code_word (m := ⟨2, 2⟩) (meth := k2m2) (c := k2c2) (by decide +kernel) rfl rfl rfl (by decide +kernel)
set_option maxRecDepth 65536 in
theorem w_c9 : (Jvm.Cond.code ({ cls := "com/example/kinetic_fleet/kineticfleet/fleet/MachineTimes", name := "min", desc := "(DD)D" } : Jvm.MethodName) prog_28_method_10_code (6 : Nat) (Option.some Jvm.ClassFile.FieldType.double)).before args0 about1 = true := code_word (m := ⟨2, 5⟩) (meth := k2m5) (c := k2c5) (by decide +kernel) rfl rfl rfl (by decide +kernel)
set_option maxRecDepth 65536 in
theorem w_c10 : (Jvm.Cond.code ({ cls := "java/lang/Double", name := "isNaN", desc := "(D)Z" } : Jvm.MethodName) jdk_117_method_6_code (2 : Nat) (Option.some Jvm.ClassFile.FieldType.boolean)).before args0 about1 = true := code_word (m := ⟨9, 0⟩) (meth := k9m0) (c := k9c0) (by decide +kernel) rfl rfl rfl (by decide +kernel)
set_option maxRecDepth 65536 in
theorem w_c11 : (Jvm.Cond.code ({ cls := "java/lang/Double", name := "compare", desc := "(DD)I" } : Jvm.MethodName) jdk_117_method_27_code (8 : Nat) (Option.some Jvm.ClassFile.FieldType.int)).before args0 about1 = true := code_word (m := ⟨9, 3⟩) (meth := k9m3) (c := k9c3) (by decide +kernel) rfl rfl rfl (by decide +kernel)
set_option maxRecDepth 65536 in
theorem w_c12 : (Jvm.Cond.code ({ cls := "java/lang/Double", name := "doubleToLongBits", desc := "(D)J" } : Jvm.MethodName) jdk_117_method_23_code (2 : Nat) (Option.some Jvm.ClassFile.FieldType.long)).before args0 about1 = true := code_word (m := ⟨9, 1⟩) (meth := k9m1) (c := k9c1) (by decide +kernel) rfl rfl rfl (by decide +kernel)
set_option maxRecDepth 65536 in
theorem w_c13 : (Jvm.Cond.code ({ cls := "java/lang/Math", name := "min", desc := "(DD)D" } : Jvm.MethodName) jdk_29_method_72_code (4 : Nat) (Option.some Jvm.ClassFile.FieldType.double)).before args0 about1 = true := code_word (m := ⟨10, 1⟩) (meth := k10m1) (c := k10c1) (by decide +kernel) rfl rfl rfl (by decide +kernel)
def codes1 : List Jvm.Cond := [Jvm.Cond.code x code maxLocals ret, Jvm.Cond.code ({ cls := "com/example/kinetic_fleet/kineticfleet/fleet/MachineTimes", name := "<init>", desc := "()V" } : Jvm.MethodName) prog_28_method_1_code (1 : Nat) (Option.none : Option Jvm.ClassFile.FieldType), Jvm.Cond.code ({ cls := "java/lang/Object", name := "<init>", desc := "()V" } : Jvm.MethodName) object_method_1_code (1 : Nat) (Option.none : Option Jvm.ClassFile.FieldType), Jvm.Cond.code ({ cls := "com/example/kinetic_fleet/kineticfleet/fleet/MachineTimes", name := "emptyTree", desc := "(I)[D" } : Jvm.MethodName) prog_28_method_9_code (2 : Nat) (Option.some (Jvm.ClassFile.FieldType.array Jvm.ClassFile.FieldType.double)), Jvm.Cond.code ({ cls := "java/util/Arrays", name := "fill", desc := "([DD)V" } : Jvm.MethodName) jdk_65_method_113_code (5 : Nat) (Option.none : Option Jvm.ClassFile.FieldType), Jvm.Cond.code ({ cls := "com/example/kinetic_fleet/kineticfleet/fleet/MachineTimes", name := "firstBy", desc := "(D)I" } : Jvm.MethodName) prog_28_method_6_code (4 : Nat) (Option.some Jvm.ClassFile.FieldType.int), Jvm.Cond.code ({ cls := "com/example/kinetic_fleet/kineticfleet/fleet/MachineTimesFirstByPinLaw", name := "ref", desc := "([DID)I" } : Jvm.MethodName) method_3_code (4 : Nat) (Option.some Jvm.ClassFile.FieldType.int), Jvm.Cond.code ({ cls := "com/example/kinetic_fleet/kineticfleet/fleet/MachineTimes", name := "add", desc := "(D)V" } : Jvm.MethodName) prog_28_method_2_code (3 : Nat) (Option.none : Option Jvm.ClassFile.FieldType), Jvm.Cond.code ({ cls := "com/example/kinetic_fleet/kineticfleet/fleet/MachineTimes", name := "set", desc := "(ID)V" } : Jvm.MethodName) prog_28_method_3_code (7 : Nat) (Option.none : Option Jvm.ClassFile.FieldType), Jvm.Cond.code ({ cls := "com/example/kinetic_fleet/kineticfleet/fleet/MachineTimes", name := "min", desc := "(DD)D" } : Jvm.MethodName) prog_28_method_10_code (6 : Nat) (Option.some Jvm.ClassFile.FieldType.double), Jvm.Cond.code ({ cls := "java/lang/Double", name := "isNaN", desc := "(D)Z" } : Jvm.MethodName) jdk_117_method_6_code (2 : Nat) (Option.some Jvm.ClassFile.FieldType.boolean), Jvm.Cond.code ({ cls := "java/lang/Double", name := "compare", desc := "(DD)I" } : Jvm.MethodName) jdk_117_method_27_code (8 : Nat) (Option.some Jvm.ClassFile.FieldType.int), Jvm.Cond.code ({ cls := "java/lang/Double", name := "doubleToLongBits", desc := "(D)J" } : Jvm.MethodName) jdk_117_method_23_code (2 : Nat) (Option.some Jvm.ClassFile.FieldType.long), Jvm.Cond.code ({ cls := "java/lang/Math", name := "min", desc := "(DD)D" } : Jvm.MethodName) jdk_29_method_72_code (4 : Nat) (Option.some Jvm.ClassFile.FieldType.double)]
set_option maxRecDepth 65536 in
theorem codes_eq : words1.filter isCode = codes1 := rfl
theorem w_codes : ∀ c ∈ words1.filter isCode, c.before args0 about1 = true := by
  rw [codes_eq]
  intro c hc
  simp only [codes1, List.mem_cons, List.not_mem_nil, or_false] at hc
  rcases hc with rfl | rfl | rfl | rfl | rfl | rfl | rfl | rfl | rfl | rfl | rfl | rfl | rfl | rfl
  · exact w_c0
  · exact w_c1
  · exact w_c2
  · exact w_c3
  · exact w_c4
  · exact w_c5
  · exact w_c6
  · exact w_c7
  · exact w_c8
  · exact w_c9
  · exact w_c10
  · exact w_c11
  · exact w_c12
  · exact w_c13
set_option maxRecDepth 65536 in
theorem w_t1 : (words1.take 24).all (fun c => isCode c || c.before args0 about1) = true := by decide +kernel
set_option maxRecDepth 65536 in
theorem w_t2 : ((words1.drop 24).take 24).all (fun c => isCode c || c.before args0 about1) = true := by decide +kernel
set_option maxRecDepth 65536 in
theorem w_t3 : ((words1.drop 24).drop 24).all (fun c => isCode c || c.before args0 about1) = true := by decide +kernel
theorem w_tables : (allAtoms (Jvm.Cond.code x code maxLocals ret :: tables_1)).before args0 about1 = true := by
  rw [allAtoms_all]
  show words1.all (fun c => c.before args0 about1) = true
  refine all_split ?_ w_codes
  rw [← List.take_append_drop 24 words1, List.all_append, w_t1, ← List.take_append_drop 24 (words1.drop 24), List.all_append, w_t2, w_t3]
  rfl
set_option maxRecDepth 65536 in
theorem w_case : (Jvm.Cond.and given_1 narrow_1).before args0 about1 = true := by decide +kernel
theorem w_applies : (headSpec (Jvm.Cond.code x code maxLocals ret :: tables_1) room_1).applies x e0.platform about1 = true :=
  (Spec.applies_iff w_frames).mpr ⟨w_running, w_runnable, w_alone, w_named, w_hears, w_ripe, w_room, w_tables⟩
theorem atStart : AtStart classFile x code maxLocals ret World_1 tables_1 room_1 Calls_1 rest_1 Pre_1 launch0 p0 e0 about1 theMethod args0 below0 :=
  ⟨lists_1, trivial, launch0.admits_env _ _ _, launch0.least_env, fairChoices_fair.cas, fairChoices_fair.clock, w_frames, w_args, w_heap, w_applies, trivial, trivial, w_case⟩
end start1
theorem witness_1 : WitnessClaimed_1 := ⟨start1.p0, start1.e0, start1.about1, start1.theMethod, start1.args0, start1.below0, start1.atStart⟩
end Jvm.Pilot.@@N@@
