import JvmDerived
import JvmDerived.Pilot.@@N@@Statement
import JvmDerived.Pilot.@@N@@Code
set_option linter.unusedVariables false
set_option linter.unusedSimpArgs false
set_option maxHeartbeats 4000000
namespace Jvm.OwnK
open Sem ClassFile Op Lib Jvm.Free Jvm.Stand Jvm.LawKit Jvm.RoadKit
theorem iadd {tb : Tables} [Ours tb] {e : Env} {below : List Frame} {T target : State} {m : MethodId} {c : Code} {g : JFrame} (h : At T m c below) (hx : tb.exec = Jvm.exec) (hg : g.method = m) {x v : Int32} {y : Int32} {rest : List Value} (hd : decode c.code g.pc = .ok (.iadd, 1)) (hs : g.stack = .int y :: .int x :: rest) (hv : x + y = v)
    (hr : Steps tb e below (T.setTop { g with pc := g.pc + 1, stack := .int v :: rest }) target) : Steps tb e below (T.setTop g) target := by
  subst hv
  exact XS.iadd h hx hg hd hs hr
theorem isub {tb : Tables} [Ours tb] {e : Env} {below : List Frame} {T target : State} {m : MethodId} {c : Code} {g : JFrame} (h : At T m c below) (hx : tb.exec = Jvm.exec) (hg : g.method = m) {x v : Int32} {y : Int32} {rest : List Value} (hd : decode c.code g.pc = .ok (.isub, 1)) (hs : g.stack = .int y :: .int x :: rest) (hv : x - y = v)
    (hr : Steps tb e below (T.setTop { g with pc := g.pc + 1, stack := .int v :: rest }) target) : Steps tb e below (T.setTop g) target := by
  subst hv
  exact XS.isub h hx hg hd hs hr
theorem imul {tb : Tables} [Ours tb] {e : Env} {below : List Frame} {T target : State} {m : MethodId} {c : Code} {g : JFrame} (h : At T m c below) (hx : tb.exec = Jvm.exec) (hg : g.method = m) {x v : Int32} {y : Int32} {rest : List Value} (hd : decode c.code g.pc = .ok (.imul, 1)) (hs : g.stack = .int y :: .int x :: rest) (hv : x * y = v)
    (hr : Steps tb e below (T.setTop { g with pc := g.pc + 1, stack := .int v :: rest }) target) : Steps tb e below (T.setTop g) target := by
  subst hv
  exact XS.imul h hx hg hd hs hr
theorem iand {tb : Tables} [Ours tb] {e : Env} {below : List Frame} {T target : State} {m : MethodId} {c : Code} {g : JFrame} (h : At T m c below) (hx : tb.exec = Jvm.exec) (hg : g.method = m) {x v : Int32} {y : Int32} {rest : List Value} (hd : decode c.code g.pc = .ok (.iand, 1)) (hs : g.stack = .int y :: .int x :: rest) (hv : x &&& y = v)
    (hr : Steps tb e below (T.setTop { g with pc := g.pc + 1, stack := .int v :: rest }) target) : Steps tb e below (T.setTop g) target := by
  subst hv
  exact XS.iand h hx hg hd hs hr
theorem ior {tb : Tables} [Ours tb] {e : Env} {below : List Frame} {T target : State} {m : MethodId} {c : Code} {g : JFrame} (h : At T m c below) (hx : tb.exec = Jvm.exec) (hg : g.method = m) {x v : Int32} {y : Int32} {rest : List Value} (hd : decode c.code g.pc = .ok (.ior, 1)) (hs : g.stack = .int y :: .int x :: rest) (hv : x ||| y = v)
    (hr : Steps tb e below (T.setTop { g with pc := g.pc + 1, stack := .int v :: rest }) target) : Steps tb e below (T.setTop g) target := by
  subst hv
  exact XS.ior h hx hg hd hs hr
theorem ixor {tb : Tables} [Ours tb] {e : Env} {below : List Frame} {T target : State} {m : MethodId} {c : Code} {g : JFrame} (h : At T m c below) (hx : tb.exec = Jvm.exec) (hg : g.method = m) {x v : Int32} {y : Int32} {rest : List Value} (hd : decode c.code g.pc = .ok (.ixor, 1)) (hs : g.stack = .int y :: .int x :: rest) (hv : x ^^^ y = v)
    (hr : Steps tb e below (T.setTop { g with pc := g.pc + 1, stack := .int v :: rest }) target) : Steps tb e below (T.setTop g) target := by
  subst hv
  exact XS.ixor h hx hg hd hs hr
theorem ishl {tb : Tables} [Ours tb] {e : Env} {below : List Frame} {T target : State} {m : MethodId} {c : Code} {g : JFrame} (h : At T m c below) (hx : tb.exec = Jvm.exec) (hg : g.method = m) {x v : Int32} {y : Int32} {rest : List Value} (hd : decode c.code g.pc = .ok (.ishl, 1)) (hs : g.stack = .int y :: .int x :: rest) (hv : x <<< (y &&& 31) = v)
    (hr : Steps tb e below (T.setTop { g with pc := g.pc + 1, stack := .int v :: rest }) target) : Steps tb e below (T.setTop g) target := by
  subst hv
  exact XS.ishl h hx hg hd hs hr
theorem ishr {tb : Tables} [Ours tb] {e : Env} {below : List Frame} {T target : State} {m : MethodId} {c : Code} {g : JFrame} (h : At T m c below) (hx : tb.exec = Jvm.exec) (hg : g.method = m) {x v : Int32} {y : Int32} {rest : List Value} (hd : decode c.code g.pc = .ok (.ishr, 1)) (hs : g.stack = .int y :: .int x :: rest) (hv : x >>> (y &&& 31) = v)
    (hr : Steps tb e below (T.setTop { g with pc := g.pc + 1, stack := .int v :: rest }) target) : Steps tb e below (T.setTop g) target := by
  subst hv
  exact XS.ishr h hx hg hd hs hr
theorem iushr {tb : Tables} [Ours tb] {e : Env} {below : List Frame} {T target : State} {m : MethodId} {c : Code} {g : JFrame} (h : At T m c below) (hx : tb.exec = Jvm.exec) (hg : g.method = m) {x v : Int32} {y : Int32} {rest : List Value} (hd : decode c.code g.pc = .ok (.iushr, 1)) (hs : g.stack = .int y :: .int x :: rest) (hv : (x.toUInt32 >>> (y &&& 31).toUInt32).toInt32 = v)
    (hr : Steps tb e below (T.setTop { g with pc := g.pc + 1, stack := .int v :: rest }) target) : Steps tb e below (T.setTop g) target := by
  subst hv
  exact XS.iushr h hx hg hd hs hr
theorem idiv {tb : Tables} [Ours tb] {e : Env} {below : List Frame} {T target : State} {m : MethodId} {c : Code} {g : JFrame} (h : At T m c below) (hx : tb.exec = Jvm.exec) (hg : g.method = m) {x v : Int32} {y : Int32} {rest : List Value} (hd : decode c.code g.pc = .ok (.idiv, 1)) (hs : g.stack = .int y :: .int x :: rest) (hy : ¬ y = 0) (hv : x / y = v)
    (hr : Steps tb e below (T.setTop { g with pc := g.pc + 1, stack := .int v :: rest }) target) : Steps tb e below (T.setTop g) target := by
  subst hv
  exact XS.idiv h hx hg hd hs hy hr
theorem irem {tb : Tables} [Ours tb] {e : Env} {below : List Frame} {T target : State} {m : MethodId} {c : Code} {g : JFrame} (h : At T m c below) (hx : tb.exec = Jvm.exec) (hg : g.method = m) {x v : Int32} {y : Int32} {rest : List Value} (hd : decode c.code g.pc = .ok (.irem, 1)) (hs : g.stack = .int y :: .int x :: rest) (hy : ¬ y = 0) (hv : x % y = v)
    (hr : Steps tb e below (T.setTop { g with pc := g.pc + 1, stack := .int v :: rest }) target) : Steps tb e below (T.setTop g) target := by
  subst hv
  have q : x - x / y * y = x % y := irem_eq_mod x y
  exact XS.irem h hx hg hd hs hy (by rw [q]; exact hr)
theorem ladd {tb : Tables} [Ours tb] {e : Env} {below : List Frame} {T target : State} {m : MethodId} {c : Code} {g : JFrame} (h : At T m c below) (hx : tb.exec = Jvm.exec) (hg : g.method = m) {x v : Int64} {y : Int64} {rest : List Value} (hd : decode c.code g.pc = .ok (.ladd, 1)) (hs : g.stack = .long y :: .long x :: rest) (hv : x + y = v)
    (hr : Steps tb e below (T.setTop { g with pc := g.pc + 1, stack := .long v :: rest }) target) : Steps tb e below (T.setTop g) target := by
  subst hv
  exact XS.ladd h hx hg hd hs hr
theorem lsub {tb : Tables} [Ours tb] {e : Env} {below : List Frame} {T target : State} {m : MethodId} {c : Code} {g : JFrame} (h : At T m c below) (hx : tb.exec = Jvm.exec) (hg : g.method = m) {x v : Int64} {y : Int64} {rest : List Value} (hd : decode c.code g.pc = .ok (.lsub, 1)) (hs : g.stack = .long y :: .long x :: rest) (hv : x - y = v)
    (hr : Steps tb e below (T.setTop { g with pc := g.pc + 1, stack := .long v :: rest }) target) : Steps tb e below (T.setTop g) target := by
  subst hv
  exact XS.lsub h hx hg hd hs hr
theorem lmul {tb : Tables} [Ours tb] {e : Env} {below : List Frame} {T target : State} {m : MethodId} {c : Code} {g : JFrame} (h : At T m c below) (hx : tb.exec = Jvm.exec) (hg : g.method = m) {x v : Int64} {y : Int64} {rest : List Value} (hd : decode c.code g.pc = .ok (.lmul, 1)) (hs : g.stack = .long y :: .long x :: rest) (hv : x * y = v)
    (hr : Steps tb e below (T.setTop { g with pc := g.pc + 1, stack := .long v :: rest }) target) : Steps tb e below (T.setTop g) target := by
  subst hv
  exact XS.lmul h hx hg hd hs hr
theorem land {tb : Tables} [Ours tb] {e : Env} {below : List Frame} {T target : State} {m : MethodId} {c : Code} {g : JFrame} (h : At T m c below) (hx : tb.exec = Jvm.exec) (hg : g.method = m) {x v : Int64} {y : Int64} {rest : List Value} (hd : decode c.code g.pc = .ok (.land, 1)) (hs : g.stack = .long y :: .long x :: rest) (hv : x &&& y = v)
    (hr : Steps tb e below (T.setTop { g with pc := g.pc + 1, stack := .long v :: rest }) target) : Steps tb e below (T.setTop g) target := by
  subst hv
  exact XS.land h hx hg hd hs hr
theorem lor {tb : Tables} [Ours tb] {e : Env} {below : List Frame} {T target : State} {m : MethodId} {c : Code} {g : JFrame} (h : At T m c below) (hx : tb.exec = Jvm.exec) (hg : g.method = m) {x v : Int64} {y : Int64} {rest : List Value} (hd : decode c.code g.pc = .ok (.lor, 1)) (hs : g.stack = .long y :: .long x :: rest) (hv : x ||| y = v)
    (hr : Steps tb e below (T.setTop { g with pc := g.pc + 1, stack := .long v :: rest }) target) : Steps tb e below (T.setTop g) target := by
  subst hv
  exact XS.lor h hx hg hd hs hr
theorem lxor {tb : Tables} [Ours tb] {e : Env} {below : List Frame} {T target : State} {m : MethodId} {c : Code} {g : JFrame} (h : At T m c below) (hx : tb.exec = Jvm.exec) (hg : g.method = m) {x v : Int64} {y : Int64} {rest : List Value} (hd : decode c.code g.pc = .ok (.lxor, 1)) (hs : g.stack = .long y :: .long x :: rest) (hv : x ^^^ y = v)
    (hr : Steps tb e below (T.setTop { g with pc := g.pc + 1, stack := .long v :: rest }) target) : Steps tb e below (T.setTop g) target := by
  subst hv
  exact XS.lxor h hx hg hd hs hr
theorem lshl {tb : Tables} [Ours tb] {e : Env} {below : List Frame} {T target : State} {m : MethodId} {c : Code} {g : JFrame} (h : At T m c below) (hx : tb.exec = Jvm.exec) (hg : g.method = m) {x v : Int64} {y : Int32} {rest : List Value} (hd : decode c.code g.pc = .ok (.lshl, 1)) (hs : g.stack = .int y :: .long x :: rest) (hv : x <<< (y &&& 0x3f).toInt64 = v)
    (hr : Steps tb e below (T.setTop { g with pc := g.pc + 1, stack := .long v :: rest }) target) : Steps tb e below (T.setTop g) target := by
  subst hv
  exact XS.lshl h hx hg hd hs hr
theorem lshr {tb : Tables} [Ours tb] {e : Env} {below : List Frame} {T target : State} {m : MethodId} {c : Code} {g : JFrame} (h : At T m c below) (hx : tb.exec = Jvm.exec) (hg : g.method = m) {x v : Int64} {y : Int32} {rest : List Value} (hd : decode c.code g.pc = .ok (.lshr, 1)) (hs : g.stack = .int y :: .long x :: rest) (hv : x >>> (y &&& 0x3f).toInt64 = v)
    (hr : Steps tb e below (T.setTop { g with pc := g.pc + 1, stack := .long v :: rest }) target) : Steps tb e below (T.setTop g) target := by
  subst hv
  exact XS.lshr h hx hg hd hs hr
theorem lushr {tb : Tables} [Ours tb] {e : Env} {below : List Frame} {T target : State} {m : MethodId} {c : Code} {g : JFrame} (h : At T m c below) (hx : tb.exec = Jvm.exec) (hg : g.method = m) {x v : Int64} {y : Int32} {rest : List Value} (hd : decode c.code g.pc = .ok (.lushr, 1)) (hs : g.stack = .int y :: .long x :: rest) (hv : (x.toUInt64 >>> (y &&& 0x3f).toInt64.toUInt64).toInt64 = v)
    (hr : Steps tb e below (T.setTop { g with pc := g.pc + 1, stack := .long v :: rest }) target) : Steps tb e below (T.setTop g) target := by
  subst hv
  exact XS.lushr h hx hg hd hs hr
theorem ldiv {tb : Tables} [Ours tb] {e : Env} {below : List Frame} {T target : State} {m : MethodId} {c : Code} {g : JFrame} (h : At T m c below) (hx : tb.exec = Jvm.exec) (hg : g.method = m) {x v : Int64} {y : Int64} {rest : List Value} (hd : decode c.code g.pc = .ok (.ldiv, 1)) (hs : g.stack = .long y :: .long x :: rest) (hy : ¬ y = 0) (hv : x / y = v)
    (hr : Steps tb e below (T.setTop { g with pc := g.pc + 1, stack := .long v :: rest }) target) : Steps tb e below (T.setTop g) target := by
  subst hv
  exact XS.ldiv h hx hg hd hs hy hr
theorem lrem {tb : Tables} [Ours tb] {e : Env} {below : List Frame} {T target : State} {m : MethodId} {c : Code} {g : JFrame} (h : At T m c below) (hx : tb.exec = Jvm.exec) (hg : g.method = m) {x v : Int64} {y : Int64} {rest : List Value} (hd : decode c.code g.pc = .ok (.lrem, 1)) (hs : g.stack = .long y :: .long x :: rest) (hy : ¬ y = 0) (hv : x % y = v)
    (hr : Steps tb e below (T.setTop { g with pc := g.pc + 1, stack := .long v :: rest }) target) : Steps tb e below (T.setTop g) target := by
  subst hv
  have q : x - x / y * y = x % y := lrem_mod x y
  exact XS.lrem h hx hg hd hs hy (by rw [q]; exact hr)
theorem ineg {tb : Tables} [Ours tb] {e : Env} {below : List Frame} {T target : State} {m : MethodId} {c : Code} {g : JFrame} (h : At T m c below) (hx : tb.exec = Jvm.exec) (hg : g.method = m) {x : Int32} {v : Int32} {rest : List Value} (hd : decode c.code g.pc = .ok (.ineg, 1)) (hs : g.stack = .int x :: rest) (hv : -x = v)
    (hr : Steps tb e below (T.setTop { g with pc := g.pc + 1, stack := .int v :: rest }) target) : Steps tb e below (T.setTop g) target := by
  subst hv
  exact XS.ineg h hx hg hd hs hr
theorem lneg {tb : Tables} [Ours tb] {e : Env} {below : List Frame} {T target : State} {m : MethodId} {c : Code} {g : JFrame} (h : At T m c below) (hx : tb.exec = Jvm.exec) (hg : g.method = m) {x : Int64} {v : Int64} {rest : List Value} (hd : decode c.code g.pc = .ok (.lneg, 1)) (hs : g.stack = .long x :: rest) (hv : -x = v)
    (hr : Steps tb e below (T.setTop { g with pc := g.pc + 1, stack := .long v :: rest }) target) : Steps tb e below (T.setTop g) target := by
  subst hv
  exact XS.lneg h hx hg hd hs hr
theorem i2l {tb : Tables} [Ours tb] {e : Env} {below : List Frame} {T target : State} {m : MethodId} {c : Code} {g : JFrame} (h : At T m c below) (hx : tb.exec = Jvm.exec) (hg : g.method = m) {x : Int32} {v : Int64} {rest : List Value} (hd : decode c.code g.pc = .ok (.i2l, 1)) (hs : g.stack = .int x :: rest) (hv : x.toInt64 = v)
    (hr : Steps tb e below (T.setTop { g with pc := g.pc + 1, stack := .long v :: rest }) target) : Steps tb e below (T.setTop g) target := by
  subst hv
  exact XS.i2l h hx hg hd hs hr
theorem l2i {tb : Tables} [Ours tb] {e : Env} {below : List Frame} {T target : State} {m : MethodId} {c : Code} {g : JFrame} (h : At T m c below) (hx : tb.exec = Jvm.exec) (hg : g.method = m) {x : Int64} {v : Int32} {rest : List Value} (hd : decode c.code g.pc = .ok (.l2i, 1)) (hs : g.stack = .long x :: rest) (hv : x.toInt32 = v)
    (hr : Steps tb e below (T.setTop { g with pc := g.pc + 1, stack := .int v :: rest }) target) : Steps tb e below (T.setTop g) target := by
  subst hv
  exact XS.l2i h hx hg hd hs hr
theorem i2b {tb : Tables} [Ours tb] {e : Env} {below : List Frame} {T target : State} {m : MethodId} {c : Code} {g : JFrame} (h : At T m c below) (hx : tb.exec = Jvm.exec) (hg : g.method = m) {x : Int32} {v : Int32} {rest : List Value} (hd : decode c.code g.pc = .ok (.i2b, 1)) (hs : g.stack = .int x :: rest) (hv : x.toInt8.toInt32 = v)
    (hr : Steps tb e below (T.setTop { g with pc := g.pc + 1, stack := .int v :: rest }) target) : Steps tb e below (T.setTop g) target := by
  subst hv
  exact XS.i2b h hx hg hd hs hr
theorem i2s {tb : Tables} [Ours tb] {e : Env} {below : List Frame} {T target : State} {m : MethodId} {c : Code} {g : JFrame} (h : At T m c below) (hx : tb.exec = Jvm.exec) (hg : g.method = m) {x : Int32} {v : Int32} {rest : List Value} (hd : decode c.code g.pc = .ok (.i2s, 1)) (hs : g.stack = .int x :: rest) (hv : x.toInt16.toInt32 = v)
    (hr : Steps tb e below (T.setTop { g with pc := g.pc + 1, stack := .int v :: rest }) target) : Steps tb e below (T.setTop g) target := by
  subst hv
  exact XS.i2s h hx hg hd hs hr
theorem dadd {tb : Tables} [Ours tb] {e : Env} {below : List Frame} {T target : State} {m : MethodId} {c : Code} {g : JFrame} (h : At T m c below) (hx : tb.exec = Jvm.exec) (hg : g.method = m) {x y v : UInt64} {rest : List Value} (hd : decode c.code g.pc = .ok (.dadd, 1)) (hs : g.stack = .double y :: .double x :: rest) (hv : FP.dadd x y = v) (hn : Jvm.Free.Fl.NoNaN64 v)
    (hr : Steps tb e below (T.setTop { g with pc := g.pc + 1, stack := .double v :: rest }) target) : Steps tb e below (T.setTop g) target := by
  subst hv
  exact XS.daddS h hx hg hd hs hn rfl hr
theorem dsub {tb : Tables} [Ours tb] {e : Env} {below : List Frame} {T target : State} {m : MethodId} {c : Code} {g : JFrame} (h : At T m c below) (hx : tb.exec = Jvm.exec) (hg : g.method = m) {x y v : UInt64} {rest : List Value} (hd : decode c.code g.pc = .ok (.dsub, 1)) (hs : g.stack = .double y :: .double x :: rest) (hv : FP.dsub x y = v) (hn : Jvm.Free.Fl.NoNaN64 v)
    (hr : Steps tb e below (T.setTop { g with pc := g.pc + 1, stack := .double v :: rest }) target) : Steps tb e below (T.setTop g) target := by
  subst hv
  exact XS.dsubS h hx hg hd hs hn rfl hr
theorem dmul {tb : Tables} [Ours tb] {e : Env} {below : List Frame} {T target : State} {m : MethodId} {c : Code} {g : JFrame} (h : At T m c below) (hx : tb.exec = Jvm.exec) (hg : g.method = m) {x y v : UInt64} {rest : List Value} (hd : decode c.code g.pc = .ok (.dmul, 1)) (hs : g.stack = .double y :: .double x :: rest) (hv : FP.dmul x y = v) (hn : Jvm.Free.Fl.NoNaN64 v)
    (hr : Steps tb e below (T.setTop { g with pc := g.pc + 1, stack := .double v :: rest }) target) : Steps tb e below (T.setTop g) target := by
  subst hv
  exact XS.dmulS h hx hg hd hs hn rfl hr
theorem ddiv {tb : Tables} [Ours tb] {e : Env} {below : List Frame} {T target : State} {m : MethodId} {c : Code} {g : JFrame} (h : At T m c below) (hx : tb.exec = Jvm.exec) (hg : g.method = m) {x y v : UInt64} {rest : List Value} (hd : decode c.code g.pc = .ok (.ddiv, 1)) (hs : g.stack = .double y :: .double x :: rest) (hv : FP.ddiv x y = v) (hn : Jvm.Free.Fl.NoNaN64 v)
    (hr : Steps tb e below (T.setTop { g with pc := g.pc + 1, stack := .double v :: rest }) target) : Steps tb e below (T.setTop g) target := by
  subst hv
  exact XS.ddivS h hx hg hd hs hn rfl hr
theorem drem {tb : Tables} [Ours tb] {e : Env} {below : List Frame} {T target : State} {m : MethodId} {c : Code} {g : JFrame} (h : At T m c below) (hx : tb.exec = Jvm.exec) (hg : g.method = m) {x y v : UInt64} {rest : List Value} (hd : decode c.code g.pc = .ok (.drem, 1)) (hs : g.stack = .double y :: .double x :: rest) (hv : FP.drem x y = v) (hn : Jvm.Free.Fl.NoNaN64 v)
    (hr : Steps tb e below (T.setTop { g with pc := g.pc + 1, stack := .double v :: rest }) target) : Steps tb e below (T.setTop g) target := by
  subst hg
  subst hv
  obtain ⟨gm, gp, gl, gs, gk, ge, gr⟩ := g
  simp only at hs hd
  subst hs
  jvm_step h [h.top, hx, hd, Op.drem.at_number h.top hn]
  exact hr
theorem lcmp {tb : Tables} [Ours tb] {e : Env} {below : List Frame} {T target : State} {m : MethodId} {c : Code} {g : JFrame} (h : At T m c below) (hx : tb.exec = Jvm.exec) (hg : g.method = m) {x y : Int64} {v : Int32} {rest : List Value} (hd : decode c.code g.pc = .ok (.lcmp, 1)) (hs : g.stack = .long y :: .long x :: rest) (hv : lcmpW x y = v)
    (hr : Steps tb e below (T.setTop { g with pc := g.pc + 1, stack := .int v :: rest }) target) : Steps tb e below (T.setTop g) target := by
  subst hv
  exact XS.lcmp h hx hg hd hs hr
theorem iinc {tb : Tables} [Ours tb] {e : Env} {below : List Frame} {T target : State} {m : MethodId} {c : Code} {g : JFrame} (h : At T m c below) (hx : tb.exec = Jvm.exec) (hg : g.method = m) {k : Nat} {cst : Int} {x v : Int32} {l' : Array Slot} (hd : decode c.code g.pc = .ok (.iinc k cst, 3)) (hl : g.locals[k]? = some (.val (.int x))) (hv : x + Int32.ofInt cst = v) (hl' : storeLocals g.locals k (.int v) = some l')
    (hr : Steps tb e below (T.setTop { g with pc := g.pc + 3, locals := l' }) target) : Steps tb e below (T.setTop g) target := by
  subst hv
  exact XS.iinc h hx hg hd hl hl' hr
theorem dup2 {tb : Tables} [Ours tb] {e : Env} {below : List Frame} {T target : State} {m : MethodId} {c : Code} {g : JFrame} (h : At T m c below) (hx : tb.exec = Jvm.exec) (hg : g.method = m) {x y : Value} {rest : List Value} (hd : decode c.code g.pc = .ok (.dup2, 1)) (hs : g.stack = x :: y :: rest) (hc : x.category = 1) (hc' : y.category = 1)
    (hr : Steps tb e below (T.setTop { g with pc := g.pc + 1, stack := x :: y :: x :: y :: rest }) target) : Steps tb e below (T.setTop g) target := Jvm.Free.XT.dup2 h hx hg hd hs hc hc' hr
theorem dup2W {tb : Tables} [Ours tb] {e : Env} {below : List Frame} {T target : State} {m : MethodId} {c : Code} {g : JFrame} (h : At T m c below) (hx : tb.exec = Jvm.exec) (hg : g.method = m) {x : Value} {rest : List Value} (hd : decode c.code g.pc = .ok (.dup2, 1)) (hs : g.stack = x :: rest) (hc : x.category = 2)
    (hr : Steps tb e below (T.setTop { g with pc := g.pc + 1, stack := x :: x :: rest }) target) : Steps tb e below (T.setTop g) target := by
  subst hg
  jvm_step h [h.top, hx, hd, hs, hc]
  exact hr
theorem Sta_keep {Z : State} {h h' : Heap} {C n d : String} {w : Value} {ws : List Addr} (F : Sta Z h C n d w) (K : Keep h h' ws) (hn : ∀ x ∈ ws, ∀ cell : Cell, h[x]? = some cell → cell.vm.isStatics = false) : Sta Z h' C n d w := by
  obtain ⟨cf, i, k, f, st, cell, h1, h2, h3, h4, h5, h6, h7⟩ := F
  refine ⟨cf, i, k, f, st, cell, h1, h2, h3, h4, K.2.1 st cell h5 (fun q => ?_), h6, h7⟩
  rw [hn st q cell h5] at h6; cases h6
end Jvm.OwnK
namespace Jvm.OwnF
open Jvm.FP Jvm.FP.Core
/-! doubles as whole numbers of units of 2^-1074 -/
def V (a : UInt64) : Int := zval b64 (val64 a)
def BIG : Nat := 2 ^ 2000
/-- the rounding of n / d, in units -/
def rnd (n : Int) (d : Nat) : Int := zval b64 (roundRatio b64 (decide (n < 0)) n.natAbs d (-1074))
theorem zval_zero (s : Bool) (d : Nat) (e : Int) : zval b64 (roundRatio b64 s 0 d e) = 0 := by
  unfold roundRatio
  rw [if_pos rfl]
  show signed s (0 * 2 ^ (b64.qmin - b64.qmin).toNat) = 0
  rw [Nat.zero_mul, signed_zero]
theorem rnd_signed (s : Bool) (N d : Nat) : zval b64 (roundRatio b64 s N d (-1074)) = rnd (signed s N) d := by
  unfold rnd
  rw [natAbs_signed]
  by_cases h : N = 0
  · subst h; rw [zval_zero, zval_zero]
  · rw [signed_lt_zero s (by omega)]
theorem signed_natAbs (n : Int) : signed (decide (n < 0)) n.natAbs = n := by
  unfold signed
  by_cases h : n < 0 <;> simp [h] <;> omega
theorem bigV : Jvm.FP.Core.fits b64 (.fin false (2 ^ 52) 874) := by refine ⟨?_, ?_, ?_, ?_⟩ <;> decide
theorem bigZ : zmag b64 (.fin false (2 ^ 52) 874) = BIG := by
  show 2 ^ 52 * 2 ^ (874 - b64.qmin).toNat = 2 ^ 2000
  rw [qmin_b64, show (874 - (-1074) : Int).toNat = 1948 from rfl, ← Nat.pow_add]
theorem big_lt : BIG < b64.tails * 2 ^ (b64.exps - 2) := by
  rw [tails_b64, show b64.exps - 2 = 2046 by decide, ← Nat.pow_add]
  exact Nat.pow_lt_pow_right (by decide) (by decide)
theorem un0 (A : Nat) : inUnits A (-1074) (-1074) = A := by unfold inUnits; simp
theorem round_le_big {s : Bool} {A B : Nat} (hB : 0 < B) (h : A ≤ BIG * B) : zmag b64 (roundRatio b64 s A B (-1074)) ≤ BIG := by
  have := zmag_roundRatio_le good_b64 (s := s) (A := A) (B := B) (e := -1074) (e0 := -1074) hB bigV Datum.noConfusion (by rw [qmin_b64]; decide) (by decide) (by rw [bigZ, un0, qmin_b64]; simpa using h)
  rwa [bigZ] at this
theorem fin_round {s : Bool} {A B : Nat} (hB : 0 < B) (h : A ≤ BIG * B) : ∃ c q, roundRatio b64 s A B (-1074) = .fin s c q := by
  rcases roundRatio_cases b64 s A B (-1074) with h1 | h1
  · exact h1
  · exfalso
    have h2 := round_le_big (s := s) hB h
    rw [h1] at h2
    have h3 : zmag b64 (.inf s) = b64.tails * 2 ^ (b64.exps - 2) := rfl
    have := big_lt
    omega
theorem noNaN_fin {a : UInt64} (h : DFin a) : Jvm.Free.Fl.NoNaN64 a := by
  rw [Jvm.Free.Fl.val64_no]; obtain ⟨s, c, q, e⟩ := h; rw [e]; exact Datum.noConfusion
theorem V_dadd {a b : UInt64} (ha : DFin a) (hb : DFin b) (h : (V a + V b).natAbs ≤ BIG) : DFin (FP.dadd a b) ∧ V (FP.dadd a b) = rnd (V a + V b) 1 := by
  obtain ⟨s, c, q, ea⟩ := ha
  obtain ⟨t, d, r, eb⟩ := hb
  have fa : Jvm.FP.Core.fits b64 (.fin s c q) := ea ▸ val64_fits a
  have fb : Jvm.FP.Core.fits b64 (.fin t d r) := eb ▸ val64_fits b
  obtain ⟨sg, n, e, p1, p2, p3⟩ := sum_units fa fb
  rw [qmin_b64] at p2 p3
  have hv : val64 (FP.dadd a b) = roundRatio b64 sg (inUnits n e (-1074)) 1 (-1074) := by
    rw [show FP.dadd a b = Core.dadd a b from rfl, val64_dadd, ea, eb, p1]
    show roundRatio b64 sg n 1 e = _
    refine roundRatio_congr (by decide) (by decide) ?_
    rw [show (-1074 - e).toNat = 0 by omega]
    unfold inUnits; simp
  have hS : signed sg (inUnits n e (-1074)) = V a + V b := by unfold V; rw [ea, eb]; exact p3
  have hN : inUnits n e (-1074) = (V a + V b).natAbs := by rw [← hS, natAbs_signed]
  obtain ⟨c', q', hh⟩ := fin_round (s := sg) (A := inUnits n e (-1074)) (B := 1) (by decide) (by rw [Nat.mul_one, hN]; exact h)
  refine ⟨⟨sg, c', q', hv.trans hh⟩, ?_⟩
  show zval b64 (val64 (FP.dadd a b)) = _
  rw [hv, rnd_signed, hS]
theorem V_neg (a : UInt64) : V (Core.dneg a) = -V a := by unfold V; rw [Core.val64_dneg, zval_negate]
theorem fin_neg {a : UInt64} (h : DFin a) : DFin (Core.dneg a) := by
  obtain ⟨s, c, q, e⟩ := h
  exact ⟨!s, c, q, by rw [Core.val64_dneg, e]; rfl⟩
theorem V_dsub {a b : UInt64} (ha : DFin a) (hb : DFin b) (h : (V a - V b).natAbs ≤ BIG) : DFin (FP.dsub a b) ∧ V (FP.dsub a b) = rnd (V a - V b) 1 := by
  have e : FP.dsub a b = FP.dadd a (Core.dneg b) := dsub_eq a b
  rw [e]
  have := V_dadd ha (fin_neg hb) (by rw [V_neg]; exact h)
  rw [V_neg] at this
  exact this
theorem zmag_V (a : UInt64) : zmag b64 (val64 a) = (V a).natAbs := by unfold V zval; rw [natAbs_signed]
theorem V_dmul {a b : UInt64} (ha : DFin a) (hb : DFin b) (h : (V a * V b).natAbs ≤ BIG * one64) : DFin (FP.dmul a b) ∧ V (FP.dmul a b) = rnd (V a * V b) one64 := by
  have za := zmag_V a
  have zb := zmag_V b
  obtain ⟨s, c, q, ea⟩ := ha
  obtain ⟨t, d, r, eb⟩ := hb
  have fa : Jvm.FP.Core.fits b64 (.fin s c q) := ea ▸ val64_fits a
  have fb : Jvm.FP.Core.fits b64 (.fin t d r) := eb ▸ val64_fits b
  obtain ⟨p1, p2, p3⟩ := product_units fa fb
  rw [← ea, ← eb, za, zb, ← Int.natAbs_mul] at p3
  rw [qmin_b64] at p2 p3
  have hv : val64 (FP.dmul a b) = roundRatio b64 (s != t) (V a * V b).natAbs one64 (-1074) := by
    rw [show FP.dmul a b = Core.dmul a b from rfl, val64_dmul, ea, eb, p1]
    show roundRatio b64 (s != t) (c * d) 1 (q + r) = _
    refine roundRatio_congr (by decide) one64_pos ?_
    rw [← p3]
    unfold inUnits one64
    rw [Nat.mul_one, Nat.mul_assoc (c * d), Nat.mul_assoc (c * d), ← Nat.pow_add, ← Nat.pow_add]
    congr 2
    omega
  have hS : signed (s != t) (V a * V b).natAbs = V a * V b := by
    rw [Int.natAbs_mul, signed_xor, ← za, ← zb]
    unfold V zval
    rw [ea, eb]
    rfl
  obtain ⟨c', q', hh⟩ := fin_round (s := s != t) (A := (V a * V b).natAbs) (B := one64) one64_pos h
  refine ⟨⟨_, c', q', hv.trans hh⟩, ?_⟩
  show zval b64 (val64 (FP.dmul a b)) = _
  rw [hv, rnd_signed, hS]
theorem pw2 (c d x y : Nat) : c * (d * 2 ^ x) * 2 ^ y = c * d * 2 ^ (x + y) := by rw [Nat.pow_add]; ac_rfl
theorem pw3 (c d x y z : Nat) : c * 2 ^ x * 2 ^ y * d * 2 ^ z = c * d * 2 ^ (x + y + z) := by rw [Nat.pow_add, Nat.pow_add]; ac_rfl
theorem V_ddiv {a b : UInt64} (ha : DFin a) (hb : DFin b) (h0 : V b ≠ 0) (h : (V a).natAbs * one64 ≤ BIG * (V b).natAbs) : DFin (FP.ddiv a b) ∧ V (FP.ddiv a b) = rnd (V a * (one64 : Int) * (V b).sign) (V b).natAbs := by
  have za := zmag_V a
  have zb := zmag_V b
  have sb : (V b).sign = signed (sgn (val64 b)) 1 := by
    unfold V zval at h0 ⊢
    cases hsg : sgn (val64 b) <;> rw [hsg] at h0 <;> simp only [signed, if_true, Bool.false_eq_true, if_false] at h0 ⊢
    · exact Int.sign_eq_one_of_pos (by omega)
    · exact Int.sign_eq_neg_one_of_neg (by omega)
  obtain ⟨s, c, q, ea⟩ := ha
  obtain ⟨t, d, r, eb⟩ := hb
  have fa : Jvm.FP.Core.fits b64 (.fin s c q) := ea ▸ val64_fits a
  have fb : Jvm.FP.Core.fits b64 (.fin t d r) := eb ▸ val64_fits b
  have hq1 := fa.2.1
  have hr1 := fb.2.1
  rw [qmin_b64] at hq1 hr1
  have ma : (V a).natAbs = c * 2 ^ (q - (-1074)).toNat := by rw [← za, ea]; show inUnits c q b64.qmin = _; rw [qmin_b64]; rfl
  have mb : (V b).natAbs = d * 2 ^ (r - (-1074)).toNat := by rw [← zb, eb]; show inUnits d r b64.qmin = _; rw [qmin_b64]; rfl
  have hd0 : d ≠ 0 := by
    rintro rfl
    rw [Nat.zero_mul] at mb; omega
  have hBp : 0 < (V b).natAbs := by omega
  have hv : val64 (FP.ddiv a b) = roundRatio b64 (s != t) ((V a).natAbs * one64) (V b).natAbs (-1074) := by
    rw [show FP.ddiv a b = Core.ddiv a b from rfl, val64_ddiv, ea, eb]
    simp only [quotient, if_neg hd0]
    refine roundRatio_congr (by omega) hBp ?_
    rw [ma, mb]
    unfold one64
    rw [pw2, pw3]
    congr 2
    omega
  have hS : signed (s != t) ((V a).natAbs * one64) = V a * (one64 : Int) * (V b).sign := by
    rw [sb, eb]
    show _ = _ * signed t 1
    have : signed (s != t) ((V a).natAbs * one64 * 1) = signed s ((V a).natAbs * one64) * signed t 1 := signed_xor s t _ 1
    rw [Nat.mul_one] at this
    rw [this, signed_mul]
    congr 2
    rw [← za]
    unfold V zval
    rw [ea]
    rfl
  obtain ⟨c', q', hh⟩ := fin_round (s := s != t) (A := (V a).natAbs * one64) (B := (V b).natAbs) hBp h
  refine ⟨⟨_, c', q', hv.trans hh⟩, ?_⟩
  show zval b64 (val64 (FP.ddiv a b)) = _
  rw [hv, rnd_signed, hS]
theorem V_of_int {a : UInt64} {n : Int} (ha : val64 a = round b64 (ofInt n)) (h : n.natAbs ≤ 2 ^ 64) : DFin a ∧ V a = rnd (n * (one64 : Int)) 1 := by
  have hv : val64 a = roundRatio b64 (decide (n < 0)) (n.natAbs * one64) 1 (-1074) := by
    rw [ha]
    show roundRatio b64 (decide (n < 0)) n.natAbs 1 0 = _
    refine roundRatio_congr (by decide) (by decide) ?_
    unfold one64
    rw [show (0 - (-1074) : Int).toNat = 1074 from rfl, show (-1074 - 0 : Int).toNat = 0 from rfl]
    simp
  have hS : signed (decide (n < 0)) (n.natAbs * one64) = n * (one64 : Int) := by rw [signed_mul, signed_natAbs]
  have hB : n.natAbs * one64 ≤ BIG := by
    refine Nat.le_trans (Nat.mul_le_mul_right _ h) ?_
    unfold one64 BIG
    rw [← Nat.pow_add]
    exact Nat.pow_le_pow_right (by decide) (by decide)
  obtain ⟨c', q', hh⟩ := fin_round (s := decide (n < 0)) (A := n.natAbs * one64) (B := 1) (by decide) (by rw [Nat.mul_one]; exact hB)
  refine ⟨⟨_, c', q', hv.trans hh⟩, ?_⟩
  show zval b64 (val64 a) = _
  rw [hv, rnd_signed, hS]
theorem V_l2d (n : Int64) : DFin (FP.l2d n) ∧ V (FP.l2d n) = rnd (n.toInt * (one64 : Int)) 1 :=
  V_of_int (val64_l2d n) (Nat.le_trans (int64_abs n) (by decide))
theorem V_i2d (n : Int32) : DFin (FP.i2d n) ∧ V (FP.i2d n) = rnd (n.toInt * (one64 : Int)) 1 :=
  V_of_int (val64_i2d n) (Nat.le_trans (int32_abs n) (by decide))
theorem V_drem {a b : UInt64} (ha : DFin a) (hb : DFin b) (h0 : V b ≠ 0) : DFin (FP.drem a b) ∧ V (FP.drem a b) = (V a).tmod (V b) := by
  have za := zmag_V a
  have zb := zmag_V b
  obtain ⟨s, c, q, ea⟩ := ha
  obtain ⟨t, d, r, eb⟩ := hb
  have fa : Jvm.FP.Core.fits b64 (.fin s c q) := ea ▸ val64_fits a
  have fb : Jvm.FP.Core.fits b64 (.fin t d r) := eb ▸ val64_fits b
  have hd0 : d ≠ 0 := by
    rintro rfl
    rw [eb] at zb
    have : zmag b64 (.fin t 0 r) = 0 := Nat.zero_mul _
    omega
  obtain ⟨c', q', h1, h2⟩ := remainder_exact good_b64 fa fb hd0
  have hv : val64 (FP.drem a b) = .fin s c' q' := by rw [show FP.drem a b = Core.drem a b from rfl, val64_drem, ea, eb, h1]
  refine ⟨⟨_, _, _, hv⟩, ?_⟩
  have h3 : zmag b64 (.fin s c' q') = (V a).natAbs % (V b).natAbs := by rw [← za, ← zb, ea, eb]; exact h2
  have hVa : V a = signed s (V a).natAbs := by rw [← za]; unfold V zval; rw [ea]; rfl
  show zval b64 (val64 (FP.drem a b)) = _
  rw [hv]
  show signed s (zmag b64 (.fin s c' q')) = _
  rw [h3]
  have hb2 : ∀ x : Int, x.tmod (V b) = x.tmod ((V b).natAbs : Int) := by
    intro x
    rcases Int.natAbs_eq (V b) with e | e
    · rw [← e]
    · rw [e, Int.tmod_neg]; simp
  rw [hb2]
  generalize (V b).natAbs = B at *
  generalize (V a).natAbs = A at *
  rw [hVa]
  cases s <;> simp [signed] <;> exact (Int.tmod_eq_emod_of_nonneg (Int.natCast_nonneg A)).symm
theorem cmp_V {a b : UInt64} (ha : DFin a) (hb : DFin b) : FP.dcmp a b = some (compare (V a) (V b)) := by
  obtain ⟨s, c, q, ea⟩ := ha
  obtain ⟨t, d, r, eb⟩ := hb
  exact dcmp_zval (by rw [ea]; exact Datum.noConfusion) (by rw [eb]; exact Datum.noConfusion)
/-! the rounding -/
theorem rnd_congr {n n' : Int} {d d' : Nat} (hd : 0 < d) (hd' : 0 < d') (h : n * (d' : Int) = n' * (d : Int)) : rnd n d = rnd n' d' := by
  have hs : (n < 0) ↔ (n' < 0) := by
    have p1 : (0 : Int) < d := by omega
    have p2 : (0 : Int) < d' := by omega
    constructor
    · intro q
      have := Int.mul_neg_of_neg_of_pos q p2
      refine Int.lt_of_not_ge fun q' => ?_
      have := Int.mul_nonneg q' (Int.le_of_lt p1)
      omega
    · intro q
      have := Int.mul_neg_of_neg_of_pos q p1
      refine Int.lt_of_not_ge fun q' => ?_
      have := Int.mul_nonneg q' (Int.le_of_lt p2)
      omega
  have hm : n.natAbs * d' = n'.natAbs * d := by
    have := congrArg Int.natAbs h
    rwa [Int.natAbs_mul, Int.natAbs_mul, Int.natAbs_natCast, Int.natAbs_natCast] at this
  unfold rnd
  rw [show decide (n < 0) = decide (n' < 0) from decide_eq_decide.mpr hs]
  congr 1
  exact roundRatio_congr hd hd' (by simpa using hm)
/-- at most 53 binary digits -/
def Rep (r : Int) : Prop := ∃ (m : Int) (e : Nat), r = m * ((2 ^ e : Nat) : Int) ∧ m.natAbs < 2 ^ 53 ∧ e ≤ 2045
theorem rnd_exact {n : Int} {d : Nat} {r : Int} (hd : 0 < d) (h : n = r * (d : Int)) (hr : Rep r) : rnd n d = r := by
  rw [rnd_congr (n' := r) (d' := 1) hd (by decide) (by rw [h]; simp)]
  obtain ⟨m, e, rfl, hm, he⟩ := hr
  have hsg : ∀ k : Nat, signed (decide (m < 0)) (m.natAbs * k) = m * (k : Int) := fun k => by rw [signed_mul, signed_natAbs]
  have h1 : rnd (m * ((2 ^ e : Nat) : Int)) 1 = zval b64 (roundRatio b64 (decide (m < 0)) (m.natAbs * 2 ^ e) 1 (-1074)) := by rw [rnd_signed, hsg]
  rw [h1]
  obtain ⟨c', q', h2, h3⟩ := round_exact good_b64 (decide (m < 0)) (c := m.natAbs) (q := (e : Int) - 1074) hm (by rw [qmin_b64]; omega) (by rw [show b64.qmax = 971 by decide]; omega)
  have h4 : roundRatio b64 (decide (m < 0)) (m.natAbs * 2 ^ e) 1 (-1074) = roundRatio b64 (decide (m < 0)) m.natAbs 1 ((e : Int) - 1074) := by
    refine roundRatio_congr (by decide) (by decide) ?_
    rw [show (-1074 - ((e : Int) - 1074)).toNat = 0 by omega, show ((e : Int) - 1074 - -1074).toNat = e by omega]
    simp
  rw [h4]
  have h5 : roundRatio b64 (decide (m < 0)) m.natAbs 1 ((e : Int) - 1074) = .fin (decide (m < 0)) c' q' := h2
  rw [h5]
  show signed _ (inUnits c' q' b64.qmin) = _
  rw [h3, ← hsg]
  unfold inUnits
  rw [qmin_b64, show ((e : Int) - 1074 - -1074).toNat = e by omega]
  rfl
theorem rep_V {a : UInt64} (ha : DFin a) : Rep (V a) := by
  obtain ⟨s, c, q, ea⟩ := ha
  have fa : Jvm.FP.Core.fits b64 (.fin s c q) := ea ▸ val64_fits a
  obtain ⟨h1, h2, h3, -⟩ := fa
  rw [qmin_b64] at h2
  rw [show b64.qmax = 971 by decide] at h3
  refine ⟨signed s c, (q - (-1074)).toNat, ?_, by rw [natAbs_signed]; exact h1, by omega⟩
  unfold V zval
  rw [ea]
  show signed s (c * 2 ^ (q - b64.qmin).toNat) = _
  rw [signed_mul, qmin_b64]
theorem V_le {a : UInt64} : (V a).natAbs ≤ (V a).natAbs := Nat.le_refl _
end Jvm.OwnF
namespace Jvm.OwnF
open Jvm.FP Jvm.FP.Core
/-! exact values: a is n / 2^k -/
def R53 (n : Int) : Prop := ∃ (m : Int) (e : Nat), n = m * ((2 ^ e : Nat) : Int) ∧ m.natAbs ≤ 2 ^ 53 ∧ e ≤ 800
def DV (n : Int) (k : Nat) (a : UInt64) : Prop := DFin a ∧ k ≤ 1074 ∧ V a = n * ((2 ^ (1074 - k) : Nat) : Int)
theorem r53 {n : Int} (h : n.natAbs ≤ 2 ^ 53) : R53 n := ⟨n, 0, by simp, h, by decide⟩
theorem rep_of {m : Int} {e : Nat} (hm : m.natAbs ≤ 2 ^ 53) (he : e ≤ 1900) : Rep (m * ((2 ^ e : Nat) : Int)) := by
  by_cases h : m.natAbs < 2 ^ 53
  · exact ⟨m, e, rfl, h, by omega⟩
  · refine ⟨m.sign, e + 53, ?_, ?_, by omega⟩
    · have h1 : m.natAbs = 2 ^ 53 := by omega
      have h2 : m = m.sign * (m.natAbs : Int) := (Int.sign_mul_natAbs m).symm
      conv => lhs; rw [h2, h1]
      rw [Nat.pow_add, Int.natCast_mul, Int.mul_assoc]
      congr 1
      rw [Int.mul_comm]
    · have : m.sign.natAbs ≤ 1 := by
        rcases Int.lt_trichotomy m 0 with q | q | q
        · rw [Int.sign_eq_neg_one_of_neg q]; decide
        · rw [q]; decide
        · rw [Int.sign_eq_one_of_pos q]; decide
      omega
theorem rep_R {n : Int} (h : R53 n) {k : Nat} (hk : k ≤ 1074) : Rep (n * ((2 ^ k : Nat) : Int)) := by
  obtain ⟨m, e, rfl, hm, he⟩ := h
  rw [Int.mul_assoc, ← Int.natCast_mul, ← Nat.pow_add]
  exact rep_of hm (by omega)
theorem big_R {n : Int} (h : R53 n) {k : Nat} (hk : k ≤ 1074) : (n * ((2 ^ k : Nat) : Int)).natAbs ≤ BIG := by
  obtain ⟨m, e, rfl, hm, he⟩ := h
  rw [Int.natAbs_mul, Int.natAbs_mul, Int.natAbs_natCast, Int.natAbs_natCast, Nat.mul_assoc, ← Nat.pow_add]
  refine Nat.le_trans (Nat.mul_le_mul_right _ hm) ?_
  unfold BIG
  rw [← Nat.pow_add]
  exact Nat.pow_le_pow_right (by decide) (by omega)
theorem DV.fin {n : Int} {k : Nat} {a : UInt64} (h : DV n k a) : DFin a := h.1
theorem DV.nn {n : Int} {k : Nat} {a : UInt64} (h : DV n k a) : Jvm.Free.Fl.NoNaN64 a := noNaN_fin h.1
theorem DV.of_eq {n m : Int} {k : Nat} {a : UInt64} (h : DV n k a) (e : n = m) : DV m k a := e ▸ h
theorem DV.up {n : Int} {k : Nat} {a : UInt64} (h : DV n k a) (j : Nat) (hj : k + j ≤ 1074) : DV (n * ((2 ^ j : Nat) : Int)) (k + j) a := by
  refine ⟨h.1, hj, ?_⟩
  rw [h.2.2, Int.mul_assoc, ← Int.natCast_mul, ← Nat.pow_add]
  congr 4
  omega
theorem DV.down {n : Int} {k j : Nat} {a : UInt64} (h : DV (n * ((2 ^ j : Nat) : Int)) (k + j) a) : DV n k a := by
  refine ⟨h.1, by have := h.2.1; omega, ?_⟩
  rw [h.2.2, Int.mul_assoc, ← Int.natCast_mul, ← Nat.pow_add]
  congr 4
  have := h.2.1; omega
theorem DV_of_V {n : Int} {k : Nat} {a : UInt64} (hf : DFin a) (hk : k ≤ 1074) (hn : R53 n) (h : V a = rnd (n * ((2 ^ (1074 - k) : Nat) : Int)) 1) : DV n k a :=
  ⟨hf, hk, by rw [h]; exact rnd_exact (by decide) (by simp) (rep_R hn (by omega))⟩
theorem DV_add {n m : Int} {k : Nat} {a b : UInt64} (ha : DV n k a) (hb : DV m k b) (h : R53 (n + m)) : DV (n + m) k (FP.dadd a b) := by
  have e : V a + V b = (n + m) * ((2 ^ (1074 - k) : Nat) : Int) := by rw [ha.2.2, hb.2.2, Int.add_mul]
  obtain ⟨h1, h2⟩ := V_dadd ha.1 hb.1 (by rw [e]; exact big_R h (by omega))
  exact DV_of_V h1 ha.2.1 h (by rw [h2, e])
theorem DV_sub {n m : Int} {k : Nat} {a b : UInt64} (ha : DV n k a) (hb : DV m k b) (h : R53 (n - m)) : DV (n - m) k (FP.dsub a b) := by
  have e : V a - V b = (n - m) * ((2 ^ (1074 - k) : Nat) : Int) := by rw [ha.2.2, hb.2.2, Int.sub_mul]
  obtain ⟨h1, h2⟩ := V_dsub ha.1 hb.1 (by rw [e]; exact big_R h (by omega))
  exact DV_of_V h1 ha.2.1 h (by rw [h2, e])
theorem DV_mul {n m : Int} {k j : Nat} {a b : UInt64} (ha : DV n k a) (hb : DV m j b) (hkj : k + j ≤ 1074) (h : R53 (n * m)) : DV (n * m) (k + j) (FP.dmul a b) := by
  have e : V a * V b = (n * m) * ((2 ^ (1074 - (k + j)) : Nat) : Int) * (one64 : Int) := by
    rw [ha.2.2, hb.2.2]
    have : ((2 ^ (1074 - (k + j)) : Nat) : Int) * (one64 : Int) = ((2 ^ (1074 - k) : Nat) : Int) * ((2 ^ (1074 - j) : Nat) : Int) := by
      rw [← Int.natCast_mul, ← Int.natCast_mul]
      unfold one64
      rw [← Nat.pow_add, ← Nat.pow_add]
      congr 2
      have := ha.2.1; have := hb.2.1; omega
    rw [Int.mul_assoc (n * m), this]
    ac_rfl
  obtain ⟨h1, h2⟩ := V_dmul ha.1 hb.1 (by
    rw [e, Int.natAbs_mul, Int.natAbs_natCast]
    exact Nat.mul_le_mul_right _ (big_R h (by omega)))
  refine ⟨h1, hkj, ?_⟩
  rw [h2]
  exact rnd_exact one64_pos e (rep_R h (by omega))
theorem divalg {n c m P Q X U I J : Int} (h : n * P = c * m * Q) (e2 : X * Q = U) (e3 : I * J * P = U * U) : n * X * U * (Q * P) = c * I * (m * J) * (Q * P) := by
  have l : n * X * U * (Q * P) = (n * P) * (X * Q) * U := by ac_rfl
  have r : c * I * (m * J) * (Q * P) = c * m * Q * (I * J * P) := by ac_rfl
  rw [l, r, h, e2, e3, Int.mul_assoc (c * m * Q)]
theorem DV_div {n m c : Int} {k j i : Nat} {a b : UInt64} (ha : DV n k a) (hb : DV m j b) (hi : i ≤ 1074) (hm : m ≠ 0) (hc : R53 c) (h : n * ((2 ^ (j + i) : Nat) : Int) = c * m * ((2 ^ k : Nat) : Int)) : DV c i (FP.ddiv a b) := by
  have hb0 : V b ≠ 0 := by
    rw [hb.2.2]
    intro q
    rcases Int.mul_eq_zero.mp q with q | q
    · exact hm q
    · have := Nat.two_pow_pos (1074 - j); omega
  have hk := ha.2.1
  have hj := hb.2.1
  -- V a * U = (c * 2^(1074 - i)) * V b
  have e : V a * (one64 : Int) = c * ((2 ^ (1074 - i) : Nat) : Int) * V b := by
    have pp : ((2 ^ (k + j + i) : Nat) : Int) ≠ 0 := by have := Nat.two_pow_pos (k + j + i); omega
    refine Int.eq_of_mul_eq_mul_right pp ?_
    rw [ha.2.2, hb.2.2]
    have e1 : ((2 ^ (k + j + i) : Nat) : Int) = ((2 ^ k : Nat) : Int) * ((2 ^ (j + i) : Nat) : Int) := by rw [← Int.natCast_mul, ← Nat.pow_add, Nat.add_assoc]
    have e2 : ((2 ^ (1074 - k) : Nat) : Int) * ((2 ^ k : Nat) : Int) = (one64 : Int) := by rw [← Int.natCast_mul, ← Nat.pow_add, Nat.sub_add_cancel hk]; rfl
    have e3 : ((2 ^ (1074 - i) : Nat) : Int) * ((2 ^ (1074 - j) : Nat) : Int) * ((2 ^ (j + i) : Nat) : Int) = (one64 : Int) * (one64 : Int) := by
      rw [← Int.natCast_mul, ← Int.natCast_mul, ← Int.natCast_mul]
      unfold one64
      rw [← Nat.pow_add, ← Nat.pow_add, ← Nat.pow_add]
      congr 2
      omega
    rw [e1]
    exact divalg h e2 e3
  have ea : (V a).natAbs * one64 = (c * ((2 ^ (1074 - i) : Nat) : Int)).natAbs * (V b).natAbs := by
    have := congrArg Int.natAbs e
    rwa [Int.natAbs_mul, Int.natAbs_mul, Int.natAbs_natCast] at this
  obtain ⟨h1, h2⟩ := V_ddiv ha.1 hb.1 hb0 (by rw [ea]; exact Nat.mul_le_mul_right _ (big_R hc (by omega)))
  refine ⟨h1, hi, ?_⟩
  rw [h2]
  refine rnd_exact (by omega) ?_ (rep_R hc (by omega))
  rw [e, Int.mul_assoc, Int.mul_sign_self]
theorem DV_l2d {n : Int64} (h : R53 n.toInt) : DV n.toInt 0 (FP.l2d n) := by
  obtain ⟨h1, h2⟩ := V_l2d n
  exact DV_of_V h1 (by decide) h h2
theorem DV_i2d (n : Int32) : DV n.toInt 0 (FP.i2d n) := by
  obtain ⟨h1, h2⟩ := V_i2d n
  exact DV_of_V h1 (by decide) (r53 (Nat.le_trans (int32_abs n) (by decide))) h2
theorem DV_const {a : UInt64} {n : Int} {k : Nat} (h1 : a.toNat % 2 ^ 63 < 9218868437227405312) (hk : k ≤ 1074) (h2 : V a = n * ((2 ^ (1074 - k) : Nat) : Int)) : DV n k a := ⟨(fin_bits a).mpr h1, hk, h2⟩
theorem DV_0 : DV 0 0 FP.dconst0 := DV_const (by decide) (by decide) (by decide +kernel)
theorem DV_1 : DV 1 0 FP.dconst1 := DV_const (by decide) (by decide) (by decide +kernel)
theorem DV_z : DV 0 0 (0 : UInt64) := DV_const (by decide) (by decide) (by decide +kernel)
theorem cmpv_V {a b : UInt64} (ha : DFin a) (hb : DFin b) (o : ClassFile.CmpOp) : (V a < V b → Op.cmpValue (FP.dcmp a b) o = -1) ∧ (V a = V b → Op.cmpValue (FP.dcmp a b) o = 0) ∧ (V b < V a → Op.cmpValue (FP.dcmp a b) o = 1) := by
  rw [cmp_V ha hb]
  refine ⟨fun h => ?_, fun h => ?_, fun h => ?_⟩
  · rw [(compare_lt_iff _ _).mpr h]; rfl
  · rw [(compare_eq_iff _ _).mpr h]; rfl
  · rw [(compare_gt_iff _ _).mpr h]; rfl
theorem DV_le {n m : Int} {k : Nat} {a b : UInt64} (ha : DV n k a) (hb : DV m k b) : (V a < V b ↔ n < m) ∧ (V a = V b ↔ n = m) := by
  rw [ha.2.2, hb.2.2]
  have hp : (0 : Int) < ((2 ^ (1074 - k) : Nat) : Int) := by have := Nat.two_pow_pos (1074 - k); omega
  exact ⟨Int.mul_lt_mul_right hp, ⟨fun q => Int.eq_of_mul_eq_mul_right (by omega) q, fun q => by rw [q]⟩⟩
theorem DV_cmp {n m : Int} {k : Nat} {a b : UInt64} (ha : DV n k a) (hb : DV m k b) (o : ClassFile.CmpOp) : (n < m → Op.cmpValue (FP.dcmp a b) o = -1) ∧ (n = m → Op.cmpValue (FP.dcmp a b) o = 0) ∧ (m < n → Op.cmpValue (FP.dcmp a b) o = 1) := by
  obtain ⟨h1, h2, h3⟩ := cmpv_V ha.1 hb.1 o
  exact ⟨fun q => h1 ((DV_le ha hb).1.mpr q), fun q => h2 ((DV_le ha hb).2.mpr q), fun q => h3 ((DV_le hb ha).1.mpr q)⟩
theorem DV_eq0 {n : Int} {k : Nat} {a b : UInt64} (ha : DV n k a) (hb : DV n k b) (o : ClassFile.CmpOp) : Op.cmpValue (FP.dcmp a b) o = 0 := (DV_cmp ha hb o).2.1 rfl
theorem DV_d2l {n : Int} {a : UInt64} (h : DV n 0 a) (h1 : -9223372036854775808 ≤ n) (h2 : n < 9223372036854775808) : (FP.d2l a).toInt = n := by
  obtain ⟨hf, -, hv⟩ := h
  have hn : val64 a ≠ .nan := by obtain ⟨s, c, q, e⟩ := hf; rw [e]; exact Datum.noConfusion
  rw [show FP.d2l a = Core.d2l a from rfl, d2l_val hn, zmag_V]
  have hs : signed (sgn (val64 a)) (V a).natAbs = V a := by rw [← zmag_V]; rfl
  have ho : (1074 - 0 : Nat) = 1074 := rfl
  rw [ho, show (2 ^ 1074 : Nat) = one64 from rfl] at hv
  have hm : (V a).natAbs = n.natAbs * one64 := by rw [hv, Int.natAbs_mul, Int.natAbs_natCast]
  have hd : (V a).natAbs / one64 = n.natAbs := by rw [hm, Nat.mul_div_cancel _ one64_pos]
  rw [hd]
  have hsn : signed (sgn (val64 a)) n.natAbs = n := by
    rw [hm, signed_mul, hv] at hs
    exact Int.eq_of_mul_eq_mul_right (by have := one64_pos; omega) hs
  rw [hsn]
  omega
end Jvm.OwnF
namespace Jvm.OwnF
open Jvm.RoadKit
/-! ints and longs as whole numbers -/
theorem mul_bd {a b : Int} {A B : Nat} (ha : a.natAbs ≤ A) (hb : b.natAbs ≤ B) : (a * b).natAbs ≤ A * B := by rw [Int.natAbs_mul]; exact Nat.mul_le_mul ha hb
theorem iadd_v {x y z : Int32} (h : x + y = z) (hb : (x.toInt + y.toInt).natAbs < 2147483648) : z.toInt = x.toInt + y.toInt := by rw [← h, Int32.toInt_add]; exact Int.bmod_eq_of_le (by omega) (by omega)
theorem isub_v {x y z : Int32} (h : x - y = z) (hb : (x.toInt - y.toInt).natAbs < 2147483648) : z.toInt = x.toInt - y.toInt := by rw [← h, Int32.toInt_sub]; exact Int.bmod_eq_of_le (by omega) (by omega)
theorem imul_v {x y z : Int32} (h : x * y = z) (hb : (x.toInt * y.toInt).natAbs < 2147483648) : z.toInt = x.toInt * y.toInt := by rw [← h, Int32.toInt_mul]; exact Int.bmod_eq_of_le (by omega) (by omega)
theorem ladd_v {x y z : Int64} (h : x + y = z) (hb : (x.toInt + y.toInt).natAbs < 9223372036854775808) : z.toInt = x.toInt + y.toInt := by rw [← h, Int64.toInt_add]; exact Int.bmod_eq_of_le (by omega) (by omega)
theorem lsub_v {x y z : Int64} (h : x - y = z) (hb : (x.toInt - y.toInt).natAbs < 9223372036854775808) : z.toInt = x.toInt - y.toInt := by rw [← h, Int64.toInt_sub]; exact Int.bmod_eq_of_le (by omega) (by omega)
theorem lmul_v {x y z : Int64} (h : x * y = z) (hb : (x.toInt * y.toInt).natAbs < 9223372036854775808) : z.toInt = x.toInt * y.toInt := by rw [← h, Int64.toInt_mul]; exact Int.bmod_eq_of_le (by omega) (by omega)
theorem i2l_v {x : Int32} {z : Int64} (h : x.toInt64 = z) : z.toInt = x.toInt := by rw [← h]; exact c_i2l x
theorem l2i_v {x : Int64} {z : Int32} (h : x.toInt32 = z) (hb : -2147483648 ≤ x.toInt ∧ x.toInt < 2147483648) : z.toInt = x.toInt := by
  rw [← h]; have h1 := c_l2i x; have h2 := rng32 x.toInt32; omega
theorem rng32b (x : Int32) : x.toInt.natAbs ≤ 2147483648 := by have := rng32 x; omega
theorem rng64b (x : Int64) : x.toInt.natAbs ≤ 9223372036854775808 := by have := rng64 x; omega
theorem ishr16 {p z : Int32} (h : p >>> ((16 : Int32) &&& 31) = z) : z.toInt = p.toInt / 65536 := by
  rw [← h, c_ishr p 16 16 (by decide)]; rfl
theorem i2s_b {x z : Int32} (h : x.toInt16.toInt32 = z) : -32768 ≤ z.toInt ∧ z.toInt < 32768 := by rw [← h]; exact (c_i2s x).2
/-- x % y, y > 0, x ≥ 0 -/
theorem irem_v {x y z : Int32} (h : x % y = z) (hx : 0 ≤ x.toInt) : z.toInt = x.toInt % y.toInt := by rw [← h, Int32.toInt_mod]; exact Int.tmod_eq_emod_of_nonneg hx
theorem lrem_v {x y z : Int64} (h : x % y = z) (hx : 0 ≤ x.toInt) : z.toInt = x.toInt % y.toInt := by rw [← h, Int64.toInt_mod]; exact Int.tmod_eq_emod_of_nonneg hx
theorem mask31 {x z : Int32} (h : x &&& (2147483647 : Int32) = z) : 0 ≤ z.toInt ∧ z.toInt < 2147483648 := by
  rw [← h, c_mask x 2147483647 31 (by decide) (by decide)]
  have e : ((2 ^ 31 : Nat) : Int) = 2147483648 := by decide
  rw [e]; omega
/-- x << q, q < 64, no overflow -/
theorem lshl_v {x z : Int64} {q : Int32} (h : x <<< (q &&& 0x3f).toInt64 = z) {k : Nat} (hq : q.toInt = (k : Int)) (hk : k < 64) (hb : (x.toInt * ((2 ^ k : Nat) : Int)).natAbs < 9223372036854775808) : z.toInt = x.toInt * ((2 ^ k : Nat) : Int) := by
  have hn : q.toBitVec.toNat % 64 = k := by
    have e : q.toBitVec.toNat = k := by
      have h1 : q.toBitVec.toInt = (k : Int) := hq
      have h2 := BitVec.toInt_eq_toNat_bmod q.toBitVec
      rw [h1] at h2
      have h3 := q.toBitVec.isLt
      have h4 := Int.bmod_emod (x := (q.toBitVec.toNat : Int)) (m := 2 ^ 32)
      omega
    omega
  have := c_lshl x q k hn
  rw [h] at this
  have r := rng64 z
  omega
end Jvm.OwnF
namespace Jvm.OwnF
open Jvm.RoadKit
theorem nat32 {q : Int32} {k : Nat} (hq : q.toInt = (k : Int)) : q.toBitVec.toNat = k := by
  have h1 : q.toBitVec.toInt = (k : Int) := hq
  have h2 := BitVec.toInt_eq_toNat_bmod q.toBitVec
  rw [h1] at h2
  have h3 := q.toBitVec.isLt
  have h5 := rng32 q
  have h4 := Int.bmod_emod (x := (q.toBitVec.toNat : Int)) (m := 2 ^ 32)
  omega
theorem ishl_v {x z q : Int32} (h : x <<< (q &&& 31) = z) {k : Nat} (hq : q.toInt = (k : Int)) (hk : k < 32) (hb : (x.toInt * ((2 ^ k : Nat) : Int)).natAbs < 2147483648) : z.toInt = x.toInt * ((2 ^ k : Nat) : Int) := by
  have hn : q.toBitVec.toNat % 32 = k := by rw [nat32 hq]; omega
  have := c_ishl x q k hn
  rw [h] at this
  have r := rng32 z
  omega
theorem ishl_1 {z q : Int32} (h : (1 : Int32) <<< (q &&& 31) = z) {k : Nat} (hq : q.toInt = (k : Int)) (hk : k < 31) : z.toInt = ((2 ^ k : Nat) : Int) := by
  have p : 2 ^ k ≤ 2 ^ 30 := Nat.pow_le_pow_right (by decide) (by omega)
  have := ishl_v h hq (by omega) (by rw [show (1 : Int32).toInt = 1 by decide, Int.one_mul, Int.natAbs_natCast]; omega)
  rw [show (1 : Int32).toInt = 1 by decide, Int.one_mul] at this
  exact this
end Jvm.OwnF
namespace Jvm.Pilot.@@N@@
open Jvm Jvm.ClassFile Sem Op Lib Jvm.Free Jvm.Stand Jvm.LawKit Jvm.RoadKit Bundle Jvm.Pilot.@@N@@.Jvm.D
open Jvm.OwnF in
theorem self {x w : Int32} {z : UInt64} (h : FP.i2d x = z) (hw : cmpValue (FP.dcmp z z) .l = w) : w = 0 := by
  rw [← hw, ← h]; exact dcmpV_self (DV_i2d x).nn _
open Jvm.OwnF in
theorem add1 {x : Int32} {z w : UInt64} (h : FP.i2d x = z) (hw : FP.dadd z FP.dconst1 = w) : Jvm.Free.Fl.NoNaN64 w := by
  have r := rng32b x
  rw [← hw, ← h]; exact (DV_add (DV_i2d x) DV_1 (r53 (by omega))).nn
theorem d2_0 : decode jdk_30_method_1_code 0 = .ok (.aload_n 0, 1) := by decide +kernel
theorem d2_1 : decode jdk_30_method_1_code 1 = .ok (.invokespecial 1, 3) := by decide +kernel
theorem d2_4 : decode jdk_30_method_1_code 4 = .ok (.return_, 1) := by decide +kernel
theorem pn_0 : plainName "java/lang/Record" = true := by first | (simp [plainName, overriddenIn]; done) | decide +kernel
theorem ef_rm2 (m : MethodId) (o0 : Addr) : entryFrame m #[(.ref o0)] 1 = mkF m 0 #[.val (.ref o0)] [] := by first | (simp [entryFrame, mkF, argsToLocals, Value.category]; done) | rfl
theorem d4_0 : decode jdk_31_method_11_code 0 = .ok (.aload_n 0, 1) := by decide +kernel
theorem d4_1 : decode jdk_31_method_11_code 1 = .ok (.ifnonnull 12, 3) := by decide +kernel
theorem d4_13 : decode jdk_31_method_11_code 13 = .ok (.aload_n 0, 1) := by decide +kernel
theorem d4_14 : decode jdk_31_method_11_code 14 = .ok (.areturn, 1) := by decide +kernel
theorem pn_1 : plainName "java/util/Objects" = true := by first | (simp [plainName, overriddenIn]; done) | decide +kernel
theorem ef_rm4 (m : MethodId) (o0 : Addr) (o1 : Addr) : entryFrame m #[(.ref o0), (.ref o1)] 2 = mkF m 0 #[.val (.ref o0), .val (.ref o1)] [] := by first | (simp [entryFrame, mkF, argsToLocals, Value.category]; done) | rfl
theorem d1_0 : decode prog_36_method_1_code 0 = .ok (.aload_n 0, 1) := by decide +kernel
theorem d1_1 : decode prog_36_method_1_code 1 = .ok (.invokespecial 1, 3) := by decide +kernel
theorem pd_0 : parseMethodDescriptor "()V" = some ⟨[], none⟩ := by decide +kernel
theorem d1_4 : decode prog_36_method_1_code 4 = .ok (.aload_n 3, 1) := by decide +kernel
theorem d1_5 : decode prog_36_method_1_code 5 = .ok (.ldc 7, 2) := by decide +kernel
theorem wStr : ∀ d ∈ Bundle.stringAtoms, d ∈ tables_1 := by
  intro d hd
  simp only [Bundle.stringAtoms, List.mem_cons, List.not_mem_nil, or_false] at hd
  rcases hd with rfl | rfl | rfl | rfl | rfl | rfl | rfl
  · exact List.mem_of_getElem? (i := 22) rfl
  · exact List.mem_of_getElem? (i := 23) rfl
  · exact List.mem_of_getElem? (i := 24) rfl
  · exact List.mem_of_getElem? (i := 25) rfl
  · exact List.mem_of_getElem? (i := 26) rfl
  · exact List.mem_of_getElem? (i := 27) rfl
  · exact List.mem_of_getElem? (i := 28) rfl
theorem d1_7 : decode prog_36_method_1_code 7 = .ok (.invokestatic 9, 3) := by decide +kernel
theorem pd_1 : parseMethodDescriptor "(Ljava/lang/Object;Ljava/lang/String;)Ljava/lang/Object;" = some ⟨[(.object "java/lang/Object"), (.object "java/lang/String")], some (.object "java/lang/Object")⟩ := by decide +kernel
theorem d1_10 : decode prog_36_method_1_code 10 = .ok (.pop, 1) := by decide +kernel
theorem d1_11 : decode prog_36_method_1_code 11 = .ok (.aload 4, 2) := by decide +kernel
theorem d1_13 : decode prog_36_method_1_code 13 = .ok (.ldc 15, 2) := by decide +kernel
theorem d1_15 : decode prog_36_method_1_code 15 = .ok (.invokestatic 9, 3) := by decide +kernel
theorem d1_18 : decode prog_36_method_1_code 18 = .ok (.pop, 1) := by decide +kernel
theorem d1_19 : decode prog_36_method_1_code 19 = .ok (.aload_n 0, 1) := by decide +kernel
theorem d1_20 : decode prog_36_method_1_code 20 = .ok (.iload_n 1, 1) := by decide +kernel
theorem d1_21 : decode prog_36_method_1_code 21 = .ok (.putfield 17, 3) := by decide +kernel
theorem d1_24 : decode prog_36_method_1_code 24 = .ok (.aload_n 0, 1) := by decide +kernel
theorem d1_25 : decode prog_36_method_1_code 25 = .ok (.iload_n 2, 1) := by decide +kernel
theorem d1_26 : decode prog_36_method_1_code 26 = .ok (.putfield 23, 3) := by decide +kernel
theorem d1_29 : decode prog_36_method_1_code 29 = .ok (.aload_n 0, 1) := by decide +kernel
theorem d1_30 : decode prog_36_method_1_code 30 = .ok (.aload_n 3, 1) := by decide +kernel
theorem d1_31 : decode prog_36_method_1_code 31 = .ok (.putfield 26, 3) := by decide +kernel
theorem d1_34 : decode prog_36_method_1_code 34 = .ok (.aload_n 0, 1) := by decide +kernel
theorem d1_35 : decode prog_36_method_1_code 35 = .ok (.aload 4, 2) := by decide +kernel
theorem d1_37 : decode prog_36_method_1_code 37 = .ok (.putfield 29, 3) := by decide +kernel
theorem d1_40 : decode prog_36_method_1_code 40 = .ok (.aload_n 0, 1) := by decide +kernel
theorem d1_41 : decode prog_36_method_1_code 41 = .ok (.dload 5, 2) := by decide +kernel
theorem d1_43 : decode prog_36_method_1_code 43 = .ok (.putfield 32, 3) := by decide +kernel
theorem d1_46 : decode prog_36_method_1_code 46 = .ok (.aload_n 0, 1) := by decide +kernel
theorem d1_47 : decode prog_36_method_1_code 47 = .ok (.dload 7, 2) := by decide +kernel
theorem d1_49 : decode prog_36_method_1_code 49 = .ok (.putfield 36, 3) := by decide +kernel
theorem d1_52 : decode prog_36_method_1_code 52 = .ok (.aload_n 0, 1) := by decide +kernel
theorem d1_53 : decode prog_36_method_1_code 53 = .ok (.dload 9, 2) := by decide +kernel
theorem d1_55 : decode prog_36_method_1_code 55 = .ok (.putfield 39, 3) := by decide +kernel
theorem d1_58 : decode prog_36_method_1_code 58 = .ok (.aload_n 0, 1) := by decide +kernel
theorem d1_59 : decode prog_36_method_1_code 59 = .ok (.dload 11, 2) := by decide +kernel
theorem d1_61 : decode prog_36_method_1_code 61 = .ok (.putfield 42, 3) := by decide +kernel
theorem d1_64 : decode prog_36_method_1_code 64 = .ok (.aload_n 0, 1) := by decide +kernel
theorem d1_65 : decode prog_36_method_1_code 65 = .ok (.dload 13, 2) := by decide +kernel
theorem d1_67 : decode prog_36_method_1_code 67 = .ok (.putfield 45, 3) := by decide +kernel
theorem d1_70 : decode prog_36_method_1_code 70 = .ok (.aload_n 0, 1) := by decide +kernel
theorem d1_71 : decode prog_36_method_1_code 71 = .ok (.dload 15, 2) := by decide +kernel
theorem d1_73 : decode prog_36_method_1_code 73 = .ok (.putfield 48, 3) := by decide +kernel
theorem d1_76 : decode prog_36_method_1_code 76 = .ok (.aload_n 0, 1) := by decide +kernel
theorem d1_77 : decode prog_36_method_1_code 77 = .ok (.dload 17, 2) := by decide +kernel
theorem d1_79 : decode prog_36_method_1_code 79 = .ok (.putfield 51, 3) := by decide +kernel
theorem d1_82 : decode prog_36_method_1_code 82 = .ok (.aload_n 0, 1) := by decide +kernel
theorem d1_83 : decode prog_36_method_1_code 83 = .ok (.dload 19, 2) := by decide +kernel
theorem d1_85 : decode prog_36_method_1_code 85 = .ok (.putfield 54, 3) := by decide +kernel
theorem d1_88 : decode prog_36_method_1_code 88 = .ok (.aload_n 0, 1) := by decide +kernel
theorem d1_89 : decode prog_36_method_1_code 89 = .ok (.dload 21, 2) := by decide +kernel
theorem d1_91 : decode prog_36_method_1_code 91 = .ok (.putfield 57, 3) := by decide +kernel
theorem d1_94 : decode prog_36_method_1_code 94 = .ok (.aload_n 0, 1) := by decide +kernel
theorem d1_95 : decode prog_36_method_1_code 95 = .ok (.iload 23, 2) := by decide +kernel
theorem d1_97 : decode prog_36_method_1_code 97 = .ok (.putfield 60, 3) := by decide +kernel
theorem d1_100 : decode prog_36_method_1_code 100 = .ok (.return_, 1) := by decide +kernel
theorem pn_2 : plainName "com/example/bindwire/bindwire/model/Constraint" = true := by first | (simp [plainName, overriddenIn]; done) | decide +kernel
theorem ef_rm1 (m : MethodId) (o0 : Addr) (p1 : Int32) (p2 : Int32) (o3 : Addr) (o4 : Addr) (d5 : UInt64) (d6 : UInt64) (d7 : UInt64) (d8 : UInt64) (d9 : UInt64) (d10 : UInt64) (d11 : UInt64) (d12 : UInt64) (d13 : UInt64) (p14 : Int32) : entryFrame m #[(.ref o0), (.int p1), (.int p2), (.ref o3), (.ref o4), (.double d5), (.double d6), (.double d7), (.double d8), (.double d9), (.double d10), (.double d11), (.double d12), (.double d13), (.int p14)] 24 = mkF m 0 #[.val (.ref o0), .val (.int p1), .val (.int p2), .val (.ref o3), .val (.ref o4), .val (.double d5), .second, .val (.double d6), .second, .val (.double d7), .second, .val (.double d8), .second, .val (.double d9), .second, .val (.double d10), .second, .val (.double d11), .second, .val (.double d12), .second, .val (.double d13), .second, .val (.int p14)] [] := by first | (simp [entryFrame, mkF, argsToLocals, Value.category]; done) | rfl
theorem d5_0 : decode prog_36_method_2_code 0 = .ok (.bipush 9, 2) := by decide +kernel
theorem d5_2 : decode prog_36_method_2_code 2 = .ok (.newarray .double, 2) := by decide +kernel
theorem d5_4 : decode prog_36_method_2_code 4 = .ok (.dup, 1) := by decide +kernel
theorem d5_5 : decode prog_36_method_2_code 5 = .ok (.iconst 0, 1) := by decide +kernel
theorem d5_6 : decode prog_36_method_2_code 6 = .ok (.aload_n 0, 1) := by decide +kernel
theorem d5_7 : decode prog_36_method_2_code 7 = .ok (.getfield 32, 3) := by decide +kernel
theorem d5_10 : decode prog_36_method_2_code 10 = .ok (.dastore, 1) := by decide +kernel
theorem d5_11 : decode prog_36_method_2_code 11 = .ok (.dup, 1) := by decide +kernel
theorem d5_12 : decode prog_36_method_2_code 12 = .ok (.iconst 1, 1) := by decide +kernel
theorem d5_13 : decode prog_36_method_2_code 13 = .ok (.aload_n 0, 1) := by decide +kernel
theorem d5_14 : decode prog_36_method_2_code 14 = .ok (.getfield 36, 3) := by decide +kernel
theorem d5_17 : decode prog_36_method_2_code 17 = .ok (.dastore, 1) := by decide +kernel
theorem d5_18 : decode prog_36_method_2_code 18 = .ok (.dup, 1) := by decide +kernel
theorem d5_19 : decode prog_36_method_2_code 19 = .ok (.iconst 2, 1) := by decide +kernel
theorem d5_20 : decode prog_36_method_2_code 20 = .ok (.aload_n 0, 1) := by decide +kernel
theorem d5_21 : decode prog_36_method_2_code 21 = .ok (.getfield 39, 3) := by decide +kernel
theorem d5_24 : decode prog_36_method_2_code 24 = .ok (.dastore, 1) := by decide +kernel
theorem d5_25 : decode prog_36_method_2_code 25 = .ok (.dup, 1) := by decide +kernel
theorem d5_26 : decode prog_36_method_2_code 26 = .ok (.iconst 3, 1) := by decide +kernel
theorem d5_27 : decode prog_36_method_2_code 27 = .ok (.aload_n 0, 1) := by decide +kernel
theorem d5_28 : decode prog_36_method_2_code 28 = .ok (.getfield 42, 3) := by decide +kernel
theorem d5_31 : decode prog_36_method_2_code 31 = .ok (.dastore, 1) := by decide +kernel
theorem d5_32 : decode prog_36_method_2_code 32 = .ok (.dup, 1) := by decide +kernel
theorem d5_33 : decode prog_36_method_2_code 33 = .ok (.iconst 4, 1) := by decide +kernel
theorem d5_34 : decode prog_36_method_2_code 34 = .ok (.aload_n 0, 1) := by decide +kernel
theorem d5_35 : decode prog_36_method_2_code 35 = .ok (.getfield 45, 3) := by decide +kernel
theorem d5_38 : decode prog_36_method_2_code 38 = .ok (.dastore, 1) := by decide +kernel
theorem d5_39 : decode prog_36_method_2_code 39 = .ok (.dup, 1) := by decide +kernel
theorem d5_40 : decode prog_36_method_2_code 40 = .ok (.iconst 5, 1) := by decide +kernel
theorem d5_41 : decode prog_36_method_2_code 41 = .ok (.aload_n 0, 1) := by decide +kernel
theorem d5_42 : decode prog_36_method_2_code 42 = .ok (.getfield 48, 3) := by decide +kernel
theorem d5_45 : decode prog_36_method_2_code 45 = .ok (.dastore, 1) := by decide +kernel
theorem d5_46 : decode prog_36_method_2_code 46 = .ok (.dup, 1) := by decide +kernel
theorem d5_47 : decode prog_36_method_2_code 47 = .ok (.bipush 6, 2) := by decide +kernel
theorem d5_49 : decode prog_36_method_2_code 49 = .ok (.aload_n 0, 1) := by decide +kernel
theorem d5_50 : decode prog_36_method_2_code 50 = .ok (.getfield 51, 3) := by decide +kernel
theorem d5_53 : decode prog_36_method_2_code 53 = .ok (.dastore, 1) := by decide +kernel
theorem d5_54 : decode prog_36_method_2_code 54 = .ok (.dup, 1) := by decide +kernel
theorem d5_55 : decode prog_36_method_2_code 55 = .ok (.bipush 7, 2) := by decide +kernel
theorem d5_57 : decode prog_36_method_2_code 57 = .ok (.aload_n 0, 1) := by decide +kernel
theorem d5_58 : decode prog_36_method_2_code 58 = .ok (.getfield 54, 3) := by decide +kernel
theorem d5_61 : decode prog_36_method_2_code 61 = .ok (.dastore, 1) := by decide +kernel
theorem d5_62 : decode prog_36_method_2_code 62 = .ok (.dup, 1) := by decide +kernel
theorem d5_63 : decode prog_36_method_2_code 63 = .ok (.bipush 8, 2) := by decide +kernel
theorem d5_65 : decode prog_36_method_2_code 65 = .ok (.aload_n 0, 1) := by decide +kernel
theorem d5_66 : decode prog_36_method_2_code 66 = .ok (.getfield 57, 3) := by decide +kernel
theorem d5_69 : decode prog_36_method_2_code 69 = .ok (.dastore, 1) := by decide +kernel
theorem d5_70 : decode prog_36_method_2_code 70 = .ok (.areturn, 1) := by decide +kernel
theorem ef_rm5 (m : MethodId) (o0 : Addr) : entryFrame m #[(.ref o0)] 1 = mkF m 0 #[.val (.ref o0)] [] := by first | (simp [entryFrame, mkF, argsToLocals, Value.category]; done) | rfl
theorem d6_0 : decode prog_36_method_10_code 0 = .ok (.aload_n 0, 1) := by decide +kernel
theorem d6_1 : decode prog_36_method_10_code 1 = .ok (.getfield 32, 3) := by decide +kernel
theorem d6_4 : decode prog_36_method_10_code 4 = .ok (.dreturn, 1) := by decide +kernel
theorem ef_rm6 (m : MethodId) (o0 : Addr) : entryFrame m #[(.ref o0)] 1 = mkF m 0 #[.val (.ref o0)] [] := by first | (simp [entryFrame, mkF, argsToLocals, Value.category]; done) | rfl
theorem d7_0 : decode prog_36_method_18_code 0 = .ok (.aload_n 0, 1) := by decide +kernel
theorem d7_1 : decode prog_36_method_18_code 1 = .ok (.getfield 57, 3) := by decide +kernel
theorem d7_4 : decode prog_36_method_18_code 4 = .ok (.dreturn, 1) := by decide +kernel
theorem ef_rm7 (m : MethodId) (o0 : Addr) : entryFrame m #[(.ref o0)] 1 = mkF m 0 #[.val (.ref o0)] [] := by first | (simp [entryFrame, mkF, argsToLocals, Value.category]; done) | rfl
theorem pd_2 : parseMethodDescriptor "(IILcom/example/bindwire/bindwire/model/Constraint$Kind;Lcom/example/bindwire/bindwire/model/SolveMethod;DDDDDDDDDZ)V" = some ⟨[.int, .int, (.object "com/example/bindwire/bindwire/model/Constraint$Kind"), (.object "com/example/bindwire/bindwire/model/SolveMethod"), .double, .double, .double, .double, .double, .double, .double, .double, .double, .boolean], none⟩ := by decide +kernel
theorem pd_3 : parseMethodDescriptor "()[D" = some ⟨[], some (.array .double)⟩ := by decide +kernel
theorem pd_4 : parseMethodDescriptor "()D" = some ⟨[], some .double⟩ := by decide +kernel
theorem pn_3 : plainName "com/example/bindwire/bindwire/model/ConstraintNumbersPinLaw" = true := by first | (simp [plainName, overriddenIn]; done) | decide +kernel
theorem ef_rm0 (m : MethodId) (p0 : Int32) (p1 : Int32) (p2 : Int32) (p3 : Int32) (p4 : Int32) (p5 : Int32) : entryFrame m #[(.int p0), (.int p1), (.int p2), (.int p3), (.int p4), (.int p5)] maxLocals = mkF m 0 #[.val (.int p0), .val (.int p1), .val (.int p2), .val (.int p3), .val (.int p4), .val (.int p5), .unset, .unset, .unset, .unset, .unset, .unset, .unset, .unset, .unset, .unset, .unset, .unset, .unset, .unset, .unset, .unset, .unset, .unset, .unset, .unset, .unset, .unset, .unset, .unset, .unset, .unset] [] := by first | (simp [entryFrame, mkF, argsToLocals, Value.category, maxLocals]; done) | rfl
def Q2 (Z : State) (o0 : Addr)  (h0 : Heap) (n0 : Nat) (v : Option Value) (h : Heap) (L : List Loc) : Prop := v = none ∧ Fr n0 L ∧ h = h0
set_option maxRecDepth 65536 in
set_option maxHeartbeats 40000000 in
theorem rm2 (l : Launch) (Z : State) (a0 : Array Value) (hw : ∀ d ∈ tables_1, d.before a0 Z = true) (ws : List Jvm.Cond) (o0 : Addr)  (h0 : Heap) (n0 : Nat) (Z0 : n0 ≤ h0.size)  :
    MetFree l (⟨"java/lang/Record", "<init>", "()V"⟩ : MethodName) (head1 (Jvm.Cond.code (⟨"java/lang/Record", "<init>", "()V"⟩ : MethodName) jdk_30_method_1_code 1 none :: ws) ({ frames := 1, cells := 0, slots := 0, locals := 12 } : Room)) (fun a U => a = #[(.ref o0)] ∧ Z.Warmed39 U.vm ∧ U.heap = h0) (fun _ _ _ _ _ => True) (fun _ U o U' => ∃ v L, o = .returned v ∧ Q2 Z o0  h0 n0 v U'.heap L ∧ FrameEnd U o U' L ({ frames := 1, cells := 0, slots := 0, locals := 12 } : Room).cells ({ frames := 1, cells := 0, slots := 0, locals := 12 } : Room).slots) := by
  refine MetFree.of_bodySF (plainFor_of_name pn_0) hisR ?_
  intro p e s m args below meth c s₁ Bd hml0 hP hK
  obtain ⟨rfl, hZ, hh⟩ := hP
  have hx := Bd.exec
  have hby := Bd.bytes
  have hml : c.maxLocals = 1 := hml0
  have hown : s.vm.findClass "java/lang/Record" = some m.cls := findClass_of_methodNamed Bd.named
  have hnm := (name_of_methodNamed Bd.named Bd.method).1
  have X0 : Stand p l e ({ frames := 1, cells := 0, slots := 0, locals := 12 } : Room) s m #[(.ref o0)] below meth c s₁ [] 0 0 := Stand.of_body Bd
  have e0 : s₁.heap = h0 := by rw [← hh, Bd.state]; rfl
  have N0 := Fr.nil n0
  have c0 : ∀ t, Steps p.tables e below (s₁.setTop (mkF m 0 #[.val (.ref o0)] [])) t → Steps p.tables e below (s₁.setTop (entryFrame m #[(.ref o0)] 1)) t := fun t k => castTop (ef_rm2 m o0) k
  obtain ⟨T1, X1, e1, st1⟩ := initO X0 hx hZ hown (hw _ (List.mem_of_getElem? (i := 18) rfl)) (hw _ (List.mem_of_getElem? (i := 19) rfl)) (hw _ (List.mem_of_getElem? (i := 20) rfl)) e0 (g := (mkF m 1 #[.val (.ref o0)] [(.ref o0)])) rfl (by rw [hml]; rfl) rfl (hb hby d2_1) (by decide) (W := 0) (by show 2 * 0 + _ ≤ _; exact Nat.le_of_eq rfl) (by decide)
  have c2 : ∀ t, Steps p.tables e below (T1.setTop (mkF m 4 #[.val (.ref o0)] [])) t → Steps p.tables e below (s₁.setTop (entryFrame m #[(.ref o0)] 1)) t := by
    intro t k
    refine c0 t ?_
    show Steps p.tables e below (s₁.setTop (mkF m 0 #[.val (.ref o0)] [])) _
    refine XS.aloadN X0.here hx rfl (hb hby d2_0) rfl rfl ?_
    show Steps p.tables e below (s₁.setTop (mkF m 1 #[.val (.ref o0)] [(.ref o0)])) _
    refine st1 _ ?_
    exact k
  obtain ⟨fs, hr, hrun, hended, hW, hsame⟩ := X1.leave (v := none) (fun _ => rfl)
  refine ⟨_, _, c2 _ ?_, hrun, hended, _, _, rfl, ?_, ⟨_, rfl⟩, hW, hsame.mono (by decide) (by decide)⟩
  · show Steps p.tables e below (T1.setTop (mkF m 4 #[.val (.ref o0)] [])) _
    exact X1.returnOut hx Bd.returns (hb hby d2_4) hr
  · show Q2 Z o0  h0 n0 _ T1.heap _
    rw [e1]
    exact ⟨rfl, N0, rfl⟩
def Q4 (Z : State) (o0 : Addr) (o1 : Addr)  (h0 : Heap) (n0 : Nat) (v : Option Value) (h : Heap) (L : List Loc) : Prop := v = some (.ref o0) ∧ Fr n0 L ∧ h = h0
set_option maxRecDepth 65536 in
set_option maxHeartbeats 40000000 in
theorem rm4 (l : Launch) (Z : State) (a0 : Array Value) (hw : ∀ d ∈ tables_1, d.before a0 Z = true) (ws : List Jvm.Cond) (o0 : Addr) (o1 : Addr)  (h0 : Heap) (n0 : Nat) (Z0 : n0 ≤ h0.size)  :
    MetFree l (⟨"java/util/Objects", "requireNonNull", "(Ljava/lang/Object;Ljava/lang/String;)Ljava/lang/Object;"⟩ : MethodName) (head1 (Jvm.Cond.code (⟨"java/util/Objects", "requireNonNull", "(Ljava/lang/Object;Ljava/lang/String;)Ljava/lang/Object;"⟩ : MethodName) jdk_31_method_11_code 2 (some (.object "java/lang/Object")) :: ws) ({ frames := 0, cells := 0, slots := 0, locals := 0 } : Room)) (fun a U => a = #[(.ref o0), (.ref o1)] ∧ Z.Warmed39 U.vm ∧ U.heap = h0) (fun _ _ _ _ _ => True) (fun _ U o U' => ∃ v L, o = .returned v ∧ Q4 Z o0 o1  h0 n0 v U'.heap L ∧ FrameEnd U o U' L ({ frames := 0, cells := 0, slots := 0, locals := 0 } : Room).cells ({ frames := 0, cells := 0, slots := 0, locals := 0 } : Room).slots) := by
  refine MetFree.of_bodySF (plainFor_of_name pn_1) hisR ?_
  intro p e s m args below meth c s₁ Bd hml0 hP hK
  obtain ⟨rfl, hZ, hh⟩ := hP
  have hx := Bd.exec
  have hby := Bd.bytes
  have hml : c.maxLocals = 2 := hml0
  have hown : s.vm.findClass "java/util/Objects" = some m.cls := findClass_of_methodNamed Bd.named
  have hnm := (name_of_methodNamed Bd.named Bd.method).1
  have X0 : Stand p l e ({ frames := 0, cells := 0, slots := 0, locals := 0 } : Room) s m #[(.ref o0), (.ref o1)] below meth c s₁ [] 0 0 := Stand.of_body Bd
  have e0 : s₁.heap = h0 := by rw [← hh, Bd.state]; rfl
  have N0 := Fr.nil n0
  have c0 : ∀ t, Steps p.tables e below (s₁.setTop (mkF m 0 #[.val (.ref o0), .val (.ref o1)] [])) t → Steps p.tables e below (s₁.setTop (entryFrame m #[(.ref o0), (.ref o1)] 2)) t := fun t k => castTop (ef_rm4 m o0 o1) k
  have c1 : ∀ t, Steps p.tables e below (s₁.setTop (mkF m 14 #[.val (.ref o0), .val (.ref o1)] [(.ref o0)])) t → Steps p.tables e below (s₁.setTop (entryFrame m #[(.ref o0), (.ref o1)] 2)) t := by
    intro t k
    refine c0 t ?_
    show Steps p.tables e below (s₁.setTop (mkF m 0 #[.val (.ref o0), .val (.ref o1)] [])) _
    refine XS.aloadN X0.here hx rfl (hb hby d4_0) rfl rfl ?_
    show Steps p.tables e below (s₁.setTop (mkF m 1 #[.val (.ref o0), .val (.ref o1)] [(.ref o0)])) _
    refine XS.ifnonnullYes X0.here hx rfl (pc0 := 1) (pc' := 13) rfl (hb hby d4_1) rfl (by decide) (by decide) ?_
    show Steps p.tables e below (s₁.setTop (mkF m 13 #[.val (.ref o0), .val (.ref o1)] [])) _
    refine XS.aloadN X0.here hx rfl (hb hby d4_13) rfl rfl ?_
    exact k
  obtain ⟨fs, hr, hrun, hended, hW, hsame⟩ := X0.leave (v := some (.ref o0)) (fun h => by rw [Bd.returns] at h; cases h)
  refine ⟨_, _, c1 _ ?_, hrun, hended, _, _, rfl, ?_, ⟨_, rfl⟩, hW, hsame.mono (by decide) (by decide)⟩
  · show Steps p.tables e below (s₁.setTop (mkF m 14 #[.val (.ref o0), .val (.ref o1)] [(.ref o0)])) _
    exact retOut X0 hx Bd.returns rfl (Or.inr (Or.inr (Or.inr (Or.inr ⟨rfl, rfl, rfl⟩)))) (hb hby d4_14) hr
  · show Q4 Z o0 o1  h0 n0 _ s₁.heap _
    rw [e0]
    exact ⟨rfl, N0, rfl⟩
def Q1 (Z : State) (o0 : Addr) (p1 : Int32) (p2 : Int32) (o3 : Addr) (o4 : Addr) (d5 : UInt64) (d6 : UInt64) (d7 : UInt64) (d8 : UInt64) (d9 : UInt64) (d10 : UInt64) (d11 : UInt64) (d12 : UInt64) (d13 : UInt64) (p14 : Int32) (u_contingency_o0 : Value) (u_monitored_o0 : Value) (u_kind_o0 : Value) (u_solve_o0 : Value) (u_k1_o0 : Value) (u_k2_o0 : Value) (u_cMw_o0 : Value) (u_pmMw_o0 : Value) (u_pcMw_o0 : Value) (u_pmPostMw_o0 : Value) (u_qmPostMvar_o0 : Value) (u_vmPostPu_o0 : Value) (u_loading_o0 : Value) (u_published_o0 : Value)  (h0 : Heap) (n0 : Nat) (v : Option Value) (h : Heap) (L : List Loc) : Prop := v = none ∧ Fr n0 L ∧ Keep h0 h [o0] ∧ Exa Z h o0 "com/example/bindwire/bindwire/model/Constraint" ∧ Fld Z h o0 "com/example/bindwire/bindwire/model/Constraint" "contingency" "I" (.int p1) ∧ Fld Z h o0 "com/example/bindwire/bindwire/model/Constraint" "monitored" "I" (.int p2) ∧ Fld Z h o0 "com/example/bindwire/bindwire/model/Constraint" "kind" "Lcom/example/bindwire/bindwire/model/Constraint$Kind;" (.ref o3) ∧ Fld Z h o0 "com/example/bindwire/bindwire/model/Constraint" "solve" "Lcom/example/bindwire/bindwire/model/SolveMethod;" (.ref o4) ∧ Fld Z h o0 "com/example/bindwire/bindwire/model/Constraint" "k1" "D" (.double d5) ∧ Fld Z h o0 "com/example/bindwire/bindwire/model/Constraint" "k2" "D" (.double d6) ∧ Fld Z h o0 "com/example/bindwire/bindwire/model/Constraint" "cMw" "D" (.double d7) ∧ Fld Z h o0 "com/example/bindwire/bindwire/model/Constraint" "pmMw" "D" (.double d8) ∧ Fld Z h o0 "com/example/bindwire/bindwire/model/Constraint" "pcMw" "D" (.double d9) ∧ Fld Z h o0 "com/example/bindwire/bindwire/model/Constraint" "pmPostMw" "D" (.double d10) ∧ Fld Z h o0 "com/example/bindwire/bindwire/model/Constraint" "qmPostMvar" "D" (.double d11) ∧ Fld Z h o0 "com/example/bindwire/bindwire/model/Constraint" "vmPostPu" "D" (.double d12) ∧ Fld Z h o0 "com/example/bindwire/bindwire/model/Constraint" "loading" "D" (.double d13) ∧ Fld Z h o0 "com/example/bindwire/bindwire/model/Constraint" "published" "Z" (.int p14)
set_option maxRecDepth 65536 in
set_option maxHeartbeats 40000000 in
theorem rm1 (l : Launch) (Z : State) (a0 : Array Value) (hw : ∀ d ∈ tables_1, d.before a0 Z = true) (ws : List Jvm.Cond) (o0 : Addr) (p1 : Int32) (p2 : Int32) (o3 : Addr) (o4 : Addr) (d5 : UInt64) (d6 : UInt64) (d7 : UInt64) (d8 : UInt64) (d9 : UInt64) (d10 : UInt64) (d11 : UInt64) (d12 : UInt64) (d13 : UInt64) (p14 : Int32) (u_contingency_o0 : Value) (u_monitored_o0 : Value) (u_kind_o0 : Value) (u_solve_o0 : Value) (u_k1_o0 : Value) (u_k2_o0 : Value) (u_cMw_o0 : Value) (u_pmMw_o0 : Value) (u_pcMw_o0 : Value) (u_pmPostMw_o0 : Value) (u_qmPostMvar_o0 : Value) (u_vmPostPu_o0 : Value) (u_loading_o0 : Value) (u_published_o0 : Value)  (h0 : Heap) (n0 : Nat) (Z0 : n0 ≤ h0.size) (E_o0 : Exa Z h0 o0 "com/example/bindwire/bindwire/model/Constraint") (F_contingency_o0 : Fld Z h0 o0 "com/example/bindwire/bindwire/model/Constraint" "contingency" "I" u_contingency_o0) (g_o0 : n0 ≤ o0) (F_monitored_o0 : Fld Z h0 o0 "com/example/bindwire/bindwire/model/Constraint" "monitored" "I" u_monitored_o0) (F_kind_o0 : Fld Z h0 o0 "com/example/bindwire/bindwire/model/Constraint" "kind" "Lcom/example/bindwire/bindwire/model/Constraint$Kind;" u_kind_o0) (F_solve_o0 : Fld Z h0 o0 "com/example/bindwire/bindwire/model/Constraint" "solve" "Lcom/example/bindwire/bindwire/model/SolveMethod;" u_solve_o0) (F_k1_o0 : Fld Z h0 o0 "com/example/bindwire/bindwire/model/Constraint" "k1" "D" u_k1_o0) (F_k2_o0 : Fld Z h0 o0 "com/example/bindwire/bindwire/model/Constraint" "k2" "D" u_k2_o0) (F_cMw_o0 : Fld Z h0 o0 "com/example/bindwire/bindwire/model/Constraint" "cMw" "D" u_cMw_o0) (F_pmMw_o0 : Fld Z h0 o0 "com/example/bindwire/bindwire/model/Constraint" "pmMw" "D" u_pmMw_o0) (F_pcMw_o0 : Fld Z h0 o0 "com/example/bindwire/bindwire/model/Constraint" "pcMw" "D" u_pcMw_o0) (F_pmPostMw_o0 : Fld Z h0 o0 "com/example/bindwire/bindwire/model/Constraint" "pmPostMw" "D" u_pmPostMw_o0) (F_qmPostMvar_o0 : Fld Z h0 o0 "com/example/bindwire/bindwire/model/Constraint" "qmPostMvar" "D" u_qmPostMvar_o0) (F_vmPostPu_o0 : Fld Z h0 o0 "com/example/bindwire/bindwire/model/Constraint" "vmPostPu" "D" u_vmPostPu_o0) (F_loading_o0 : Fld Z h0 o0 "com/example/bindwire/bindwire/model/Constraint" "loading" "D" u_loading_o0) (F_published_o0 : Fld Z h0 o0 "com/example/bindwire/bindwire/model/Constraint" "published" "Z" u_published_o0) (na97 : narrow .boolean (.int p14) = (.int p14)) (fi97 : fits .boolean (.int p14) = true) :
    MetFree l (⟨"com/example/bindwire/bindwire/model/Constraint", "<init>", "(IILcom/example/bindwire/bindwire/model/Constraint$Kind;Lcom/example/bindwire/bindwire/model/SolveMethod;DDDDDDDDDZ)V"⟩ : MethodName) (head1 (Jvm.Cond.code (⟨"com/example/bindwire/bindwire/model/Constraint", "<init>", "(IILcom/example/bindwire/bindwire/model/Constraint$Kind;Lcom/example/bindwire/bindwire/model/SolveMethod;DDDDDDDDDZ)V"⟩ : MethodName) prog_36_method_1_code 24 none :: ws) ({ frames := 2, cells := 4, slots := 44, locals := 24 } : Room)) (fun a U => a = #[(.ref o0), (.int p1), (.int p2), (.ref o3), (.ref o4), (.double d5), (.double d6), (.double d7), (.double d8), (.double d9), (.double d10), (.double d11), (.double d12), (.double d13), (.int p14)] ∧ Z.Warmed39 U.vm ∧ U.heap = h0) (fun _ _ _ _ _ => True) (fun _ U o U' => ∃ v L, o = .returned v ∧ Q1 Z o0 p1 p2 o3 o4 d5 d6 d7 d8 d9 d10 d11 d12 d13 p14 u_contingency_o0 u_monitored_o0 u_kind_o0 u_solve_o0 u_k1_o0 u_k2_o0 u_cMw_o0 u_pmMw_o0 u_pcMw_o0 u_pmPostMw_o0 u_qmPostMvar_o0 u_vmPostPu_o0 u_loading_o0 u_published_o0  h0 n0 v U'.heap L ∧ ReturnedEndW U o U' L ({ frames := 2, cells := 4, slots := 44, locals := 24 } : Room).cells ({ frames := 2, cells := 4, slots := 44, locals := 24 } : Room).slots) := by
  refine MetFree.of_bodySF (plainFor_of_name pn_2) hisR ?_
  intro p e s m args below meth c s₁ Bd hml0 hP hK
  obtain ⟨rfl, hZ, hh⟩ := hP
  have hx := Bd.exec
  have hby := Bd.bytes
  have hml : c.maxLocals = 24 := hml0
  have hown : s.vm.findClass "com/example/bindwire/bindwire/model/Constraint" = some m.cls := findClass_of_methodNamed Bd.named
  have hnm := (name_of_methodNamed Bd.named Bd.method).1
  have X0 : Stand p l e ({ frames := 2, cells := 4, slots := 44, locals := 24 } : Room) s m #[(.ref o0), (.int p1), (.int p2), (.ref o3), (.ref o4), (.double d5), (.double d6), (.double d7), (.double d8), (.double d9), (.double d10), (.double d11), (.double d12), (.double d13), (.int p14)] below meth c s₁ [] 0 0 := Stand.of_body Bd
  have e0 : s₁.heap = h0 := by rw [← hh, Bd.state]; rfl
  have N0 := Fr.nil n0
  have hS0 : s.Since s.vm 0 := (State.WarmedH.refl s).since 0
  have c0 : ∀ t, Steps p.tables e below (s₁.setTop (mkF m 0 #[.val (.ref o0), .val (.int p1), .val (.int p2), .val (.ref o3), .val (.ref o4), .val (.double d5), .second, .val (.double d6), .second, .val (.double d7), .second, .val (.double d8), .second, .val (.double d9), .second, .val (.double d10), .second, .val (.double d11), .second, .val (.double d12), .second, .val (.double d13), .second, .val (.int p14)] [])) t → Steps p.tables e below (s₁.setTop (entryFrame m #[(.ref o0), (.int p1), (.int p2), (.ref o3), (.ref o4), (.double d5), (.double d6), (.double d7), (.double d8), (.double d9), (.double d10), (.double d11), (.double d12), (.double d13), (.int p14)] 24)) t := fun t k => castTop (ef_rm1 m o0 p1 p2 o3 o4 d5 d6 d7 d8 d9 d10 d11 d12 d13 p14) k
  obtain ⟨_, _, ⟨T1, L1, k1, n1⟩, -, X1, ⟨Lc1, hQ1, ql1, qy1, qz1⟩, st1⟩ := X0.specialBack hx (y := (⟨"java/lang/Record", "<init>", "()V"⟩ : MethodName)) rfl hown (mvT hZ (hw _ (List.mem_of_getElem? (i := 13) rfl))) (mvT hZ (hw _ (List.mem_of_getElem? (i := 14) rfl))) (mvT hZ (hw _ (List.mem_of_getElem? (i := 17) rfl))) (by decide) (backOf (W := 0) (rm2 l Z a0 hw [] o0  h0 n0 Z0 ) hZ (hw _ (List.mem_of_getElem? (i := 17) rfl)) (hw _ (List.mem_of_getElem? (i := 16) rfl)) (by decide) (by decide)) (g := (mkF m 1 #[.val (.ref o0), .val (.int p1), .val (.int p2), .val (.ref o3), .val (.ref o4), .val (.double d5), .second, .val (.double d6), .second, .val (.double d7), .second, .val (.double d8), .second, .val (.double d9), .second, .val (.double d10), .second, .val (.double d11), .second, .val (.double d12), .second, .val (.double d13), .second, .val (.int p14)] [(.ref o0)])) rfl (by rw [hml]; rfl) (Steps.refl _) (a := o0) (argsL := []) (rest := []) (lenOf pd_0 rfl) rfl (by show 2 * 0 + _ ≤ _; exact Nat.le_of_eq rfl) (hb hby d1_1) (fun _ _ => ⟨rfl, e0, (by decide : 0 + 0 ≤ _), (by decide : 0 + 0 ≤ _)⟩)
  dsimp only [Pt.U, Pt.locs, Pt.cells, Pt.slots] at X1 ql1 qy1 qz1 st1 hQ1
  subst ql1 qy1 qz1
  obtain ⟨rfl, N1q, e1⟩ := hQ1
  have N1 := Fr.app N0 N1q
  obtain ⟨a2, T2, h2, kx2, X2, e2, E2, hS2, hk2, hZ2, hown2, st2⟩ := Jvm.RoadKit.ldcS (s := s) (vm0 := s.vm) X1 hx hZ hown (hw _ (List.mem_of_getElem? (i := 21) rfl)) (fun d hd => hw d (wStr d hd)) e1 hS0 (Nat.zero_le _) (g := (mkF m 5 #[.val (.ref o0), .val (.int p1), .val (.int p2), .val (.ref o3), .val (.ref o4), .val (.double d5), .second, .val (.double d6), .second, .val (.double d7), .second, .val (.double d8), .second, .val (.double d9), .second, .val (.double d10), .second, .val (.double d11), .second, .val (.double d12), .second, .val (.double d13), .second, .val (.int p14)] [(.ref o3)])) rfl (hb hby d1_5) (n := 16) (by decide) (by decide) (by decide) (by decide)
  have hZ := hZ2
  have hown := hown2
  have K3 : Keep h0 h2 [o0] := (Keep.refl h0 [o0]).ext E2
  obtain ⟨_, _, ⟨T4, L4, k4, n4⟩, -, X4, ⟨Lc4, hQ4, ql4, qy4, qz4⟩, st4⟩ := Jvm.LawKit.callS X2 hx (y := (⟨"java/util/Objects", "requireNonNull", "(Ljava/lang/Object;Ljava/lang/String;)Ljava/lang/Object;"⟩ : MethodName)) hown (mvT hZ (hw _ (List.mem_of_getElem? (i := 29) rfl))) (mvT hZ (hw _ (List.mem_of_getElem? (i := 30) rfl))) (mvT hZ (hw _ (List.mem_of_getElem? (i := 31) rfl))) (mvT hZ (hw _ (List.mem_of_getElem? (i := 32) rfl))) (by decide) (backOf (W := 0) (rm4 l Z a0 hw [] o3 a2  h2 n0 (Nat.le_trans Z0 E2.1) ) hZ (hw _ (List.mem_of_getElem? (i := 32) rfl)) (hw _ (List.mem_of_getElem? (i := 31) rfl)) (by decide) (by decide)) (g := (mkF m 7 #[.val (.ref o0), .val (.int p1), .val (.int p2), .val (.ref o3), .val (.ref o4), .val (.double d5), .second, .val (.double d6), .second, .val (.double d7), .second, .val (.double d8), .second, .val (.double d9), .second, .val (.double d10), .second, .val (.double d11), .second, .val (.double d12), .second, .val (.double d13), .second, .val (.int p14)] [(.ref a2), (.ref o3)])) rfl (by rw [hml]; rfl) (argsL := [(.ref o3), (.ref a2)]) (rest := []) (lenOf pd_1 rfl) rfl (by show 2 * 0 + _ ≤ _; exact Nat.le_of_eq rfl) (hb hby d1_7) (fun _ _ => ⟨rfl, e2, (by decide : 2 + 0 ≤ _), (by decide : 20 + 0 ≤ _)⟩)
  dsimp only [Pt.U, Pt.locs, Pt.cells, Pt.slots] at X4 ql4 qy4 qz4 st4 hQ4
  subst ql4 qy4 qz4
  obtain ⟨rfl, N4q, e4⟩ := hQ4
  have N4 := Fr.app N1 N4q
  obtain ⟨a5, T5, h5, kx5, X5, e5, E5, hS5, hk5, hZ5, hown5, st5⟩ := Jvm.RoadKit.ldcS (s := s) (vm0 := T2.vm) X4 hx hZ hown (hw _ (List.mem_of_getElem? (i := 33) rfl)) (fun d hd => hw d (wStr d hd)) e4 hS2 hk2 (g := (mkF m 13 #[.val (.ref o0), .val (.int p1), .val (.int p2), .val (.ref o3), .val (.ref o4), .val (.double d5), .second, .val (.double d6), .second, .val (.double d7), .second, .val (.double d8), .second, .val (.double d9), .second, .val (.double d10), .second, .val (.double d11), .second, .val (.double d12), .second, .val (.double d13), .second, .val (.int p14)] [(.ref o4)])) rfl (hb hby d1_13) (n := 20) (by decide) (by decide) (by decide) (by decide)
  have hZ := hZ5
  have hown := hown5
  have K6 : Keep h0 h5 [o0] := K3.ext E5
  obtain ⟨_, _, ⟨T7, L7, k7, n7⟩, -, X7, ⟨Lc7, hQ7, ql7, qy7, qz7⟩, st7⟩ := Jvm.LawKit.callS X5 hx (y := (⟨"java/util/Objects", "requireNonNull", "(Ljava/lang/Object;Ljava/lang/String;)Ljava/lang/Object;"⟩ : MethodName)) hown (mvT hZ (hw _ (List.mem_of_getElem? (i := 29) rfl))) (mvT hZ (hw _ (List.mem_of_getElem? (i := 30) rfl))) (mvT hZ (hw _ (List.mem_of_getElem? (i := 31) rfl))) (mvT hZ (hw _ (List.mem_of_getElem? (i := 32) rfl))) (by decide) (backOf (W := 0) (rm4 l Z a0 hw [] o4 a5  h5 n0 (Nat.le_trans (Nat.le_trans Z0 E2.1) E5.1) ) hZ (hw _ (List.mem_of_getElem? (i := 32) rfl)) (hw _ (List.mem_of_getElem? (i := 31) rfl)) (by decide) (by decide)) (g := (mkF m 15 #[.val (.ref o0), .val (.int p1), .val (.int p2), .val (.ref o3), .val (.ref o4), .val (.double d5), .second, .val (.double d6), .second, .val (.double d7), .second, .val (.double d8), .second, .val (.double d9), .second, .val (.double d10), .second, .val (.double d11), .second, .val (.double d12), .second, .val (.double d13), .second, .val (.int p14)] [(.ref a5), (.ref o4)])) rfl (by rw [hml]; rfl) (argsL := [(.ref o4), (.ref a5)]) (rest := []) (lenOf pd_1 rfl) rfl (by show 2 * 0 + _ ≤ _; exact Nat.le_of_eq rfl) (hb hby d1_15) (fun _ _ => ⟨rfl, e5, (by decide : 4 + 0 ≤ _), (by decide : 44 + 0 ≤ _)⟩)
  dsimp only [Pt.U, Pt.locs, Pt.cells, Pt.slots] at X7 ql7 qy7 qz7 st7 hQ7
  subst ql7 qy7 qz7
  obtain ⟨rfl, N7q, e7⟩ := hQ7
  have N7 := Fr.app N4 N7q
  have f8 := ((E_o0.ext E2).ext E5)
  have f9 := ((F_contingency_o0.ext E2).ext E5)
  obtain ⟨T10, h10, X10, e10, W10, st10⟩ := putF X7 hx hZ hown (host := "") (Or.inl (hw _ (List.mem_of_getElem? (i := 34) rfl))) Via.refl e7 f9 f8 (Or.inr ⟨(hw _ (List.mem_of_getElem? (i := 35) rfl)), rfl, hnm⟩) (hw _ (List.mem_of_getElem? (i := 8) rfl)) (ty := .int) (by decide) rfl rfl (g := (mkF m 21 #[.val (.ref o0), .val (.int p1), .val (.int p2), .val (.ref o3), .val (.ref o4), .val (.double d5), .second, .val (.double d6), .second, .val (.double d7), .second, .val (.double d8), .second, .val (.double d9), .second, .val (.double d10), .second, .val (.double d11), .second, .val (.double d12), .second, .val (.double d13), .second, .val (.int p14)] [(.int p1), (.ref o0)])) rfl rfl (hb hby d1_21)
  have N10 := Fr.snoc X10 N7 g_o0
  have K11 : Keep h0 h10 [o0] := K6.wr W10 (Or.inl (by simp))
  have F10w := f9.same W10
  have f12 := (f8.wr W10)
  have f13 := (((F_monitored_o0.ext E2).ext E5).other W10 (Or.inr (slot_ne (Or.inr (hw _ (List.mem_of_getElem? (i := 37) rfl))) (Or.inr (hw _ (List.mem_of_getElem? (i := 35) rfl))) (by decide) (t := .int) (t' := .int) (by decide) (by decide))))
  obtain ⟨T14, h14, X14, e14, W14, st14⟩ := putF X10 hx hZ hown (host := "") (Or.inl (hw _ (List.mem_of_getElem? (i := 36) rfl))) Via.refl e10 f13 f12 (Or.inr ⟨(hw _ (List.mem_of_getElem? (i := 37) rfl)), rfl, hnm⟩) (hw _ (List.mem_of_getElem? (i := 8) rfl)) (ty := .int) (by decide) rfl rfl (g := (mkF m 26 #[.val (.ref o0), .val (.int p1), .val (.int p2), .val (.ref o3), .val (.ref o4), .val (.double d5), .second, .val (.double d6), .second, .val (.double d7), .second, .val (.double d8), .second, .val (.double d9), .second, .val (.double d10), .second, .val (.double d11), .second, .val (.double d12), .second, .val (.double d13), .second, .val (.int p14)] [(.int p2), (.ref o0)])) rfl rfl (hb hby d1_26)
  have N14 := Fr.snoc X14 N10 g_o0
  have K15 : Keep h0 h14 [o0] := K11.wr W14 (Or.inl (by simp))
  have F14w := f13.same W14
  have f16 := (f12.wr W14)
  have f17 := ((((F_kind_o0.ext E2).ext E5).other W10 (Or.inr (slot_ne (Or.inr (hw _ (List.mem_of_getElem? (i := 39) rfl))) (Or.inr (hw _ (List.mem_of_getElem? (i := 35) rfl))) (by decide) (t := (.object "com/example/bindwire/bindwire/model/Constraint$Kind")) (t' := .int) (by decide) (by decide)))).other W14 (Or.inr (slot_ne (Or.inr (hw _ (List.mem_of_getElem? (i := 39) rfl))) (Or.inr (hw _ (List.mem_of_getElem? (i := 37) rfl))) (by decide) (t := (.object "com/example/bindwire/bindwire/model/Constraint$Kind")) (t' := .int) (by decide) (by decide))))
  obtain ⟨T18, h18, X18, e18, W18, st18⟩ := putF X14 hx hZ hown (host := "") (Or.inl (hw _ (List.mem_of_getElem? (i := 38) rfl))) Via.refl e14 f17 f16 (Or.inr ⟨(hw _ (List.mem_of_getElem? (i := 39) rfl)), rfl, hnm⟩) (hw _ (List.mem_of_getElem? (i := 8) rfl)) (ty := (.object "com/example/bindwire/bindwire/model/Constraint$Kind")) (by decide) rfl rfl (g := (mkF m 31 #[.val (.ref o0), .val (.int p1), .val (.int p2), .val (.ref o3), .val (.ref o4), .val (.double d5), .second, .val (.double d6), .second, .val (.double d7), .second, .val (.double d8), .second, .val (.double d9), .second, .val (.double d10), .second, .val (.double d11), .second, .val (.double d12), .second, .val (.double d13), .second, .val (.int p14)] [(.ref o3), (.ref o0)])) rfl rfl (hb hby d1_31)
  have N18 := Fr.snoc X18 N14 g_o0
  have K19 : Keep h0 h18 [o0] := K15.wr W18 (Or.inl (by simp))
  have F18w := f17.same W18
  have f20 := (f16.wr W18)
  have f21 := (((((F_solve_o0.ext E2).ext E5).other W10 (Or.inr (slot_ne (Or.inr (hw _ (List.mem_of_getElem? (i := 41) rfl))) (Or.inr (hw _ (List.mem_of_getElem? (i := 35) rfl))) (by decide) (t := (.object "com/example/bindwire/bindwire/model/SolveMethod")) (t' := .int) (by decide) (by decide)))).other W14 (Or.inr (slot_ne (Or.inr (hw _ (List.mem_of_getElem? (i := 41) rfl))) (Or.inr (hw _ (List.mem_of_getElem? (i := 37) rfl))) (by decide) (t := (.object "com/example/bindwire/bindwire/model/SolveMethod")) (t' := .int) (by decide) (by decide)))).other W18 (Or.inr (slot_ne (Or.inr (hw _ (List.mem_of_getElem? (i := 41) rfl))) (Or.inr (hw _ (List.mem_of_getElem? (i := 39) rfl))) (by decide) (t := (.object "com/example/bindwire/bindwire/model/SolveMethod")) (t' := (.object "com/example/bindwire/bindwire/model/Constraint$Kind")) (by decide) (by decide))))
  obtain ⟨T22, h22, X22, e22, W22, st22⟩ := putF X18 hx hZ hown (host := "") (Or.inl (hw _ (List.mem_of_getElem? (i := 40) rfl))) Via.refl e18 f21 f20 (Or.inr ⟨(hw _ (List.mem_of_getElem? (i := 41) rfl)), rfl, hnm⟩) (hw _ (List.mem_of_getElem? (i := 8) rfl)) (ty := (.object "com/example/bindwire/bindwire/model/SolveMethod")) (by decide) rfl rfl (g := (mkF m 37 #[.val (.ref o0), .val (.int p1), .val (.int p2), .val (.ref o3), .val (.ref o4), .val (.double d5), .second, .val (.double d6), .second, .val (.double d7), .second, .val (.double d8), .second, .val (.double d9), .second, .val (.double d10), .second, .val (.double d11), .second, .val (.double d12), .second, .val (.double d13), .second, .val (.int p14)] [(.ref o4), (.ref o0)])) rfl rfl (hb hby d1_37)
  have N22 := Fr.snoc X22 N18 g_o0
  have K23 : Keep h0 h22 [o0] := K19.wr W22 (Or.inl (by simp))
  have F22w := f21.same W22
  have f24 := (f20.wr W22)
  have f25 := ((((((F_k1_o0.ext E2).ext E5).other W10 (Or.inr (slot_ne (Or.inr (hw _ (List.mem_of_getElem? (i := 43) rfl))) (Or.inr (hw _ (List.mem_of_getElem? (i := 35) rfl))) (by decide) (t := .double) (t' := .int) (by decide) (by decide)))).other W14 (Or.inr (slot_ne (Or.inr (hw _ (List.mem_of_getElem? (i := 43) rfl))) (Or.inr (hw _ (List.mem_of_getElem? (i := 37) rfl))) (by decide) (t := .double) (t' := .int) (by decide) (by decide)))).other W18 (Or.inr (slot_ne (Or.inr (hw _ (List.mem_of_getElem? (i := 43) rfl))) (Or.inr (hw _ (List.mem_of_getElem? (i := 39) rfl))) (by decide) (t := .double) (t' := (.object "com/example/bindwire/bindwire/model/Constraint$Kind")) (by decide) (by decide)))).other W22 (Or.inr (slot_ne (Or.inr (hw _ (List.mem_of_getElem? (i := 43) rfl))) (Or.inr (hw _ (List.mem_of_getElem? (i := 41) rfl))) (by decide) (t := .double) (t' := (.object "com/example/bindwire/bindwire/model/SolveMethod")) (by decide) (by decide))))
  obtain ⟨T26, h26, X26, e26, W26, st26⟩ := putF X22 hx hZ hown (host := "") (Or.inl (hw _ (List.mem_of_getElem? (i := 42) rfl))) Via.refl e22 f25 f24 (Or.inr ⟨(hw _ (List.mem_of_getElem? (i := 43) rfl)), rfl, hnm⟩) (hw _ (List.mem_of_getElem? (i := 8) rfl)) (ty := .double) (by decide) rfl rfl (g := (mkF m 43 #[.val (.ref o0), .val (.int p1), .val (.int p2), .val (.ref o3), .val (.ref o4), .val (.double d5), .second, .val (.double d6), .second, .val (.double d7), .second, .val (.double d8), .second, .val (.double d9), .second, .val (.double d10), .second, .val (.double d11), .second, .val (.double d12), .second, .val (.double d13), .second, .val (.int p14)] [(.double d5), (.ref o0)])) rfl rfl (hb hby d1_43)
  have N26 := Fr.snoc X26 N22 g_o0
  have K27 : Keep h0 h26 [o0] := K23.wr W26 (Or.inl (by simp))
  have F26w := f25.same W26
  have f28 := (f24.wr W26)
  have f29 := (((((((F_k2_o0.ext E2).ext E5).other W10 (Or.inr (slot_ne (Or.inr (hw _ (List.mem_of_getElem? (i := 45) rfl))) (Or.inr (hw _ (List.mem_of_getElem? (i := 35) rfl))) (by decide) (t := .double) (t' := .int) (by decide) (by decide)))).other W14 (Or.inr (slot_ne (Or.inr (hw _ (List.mem_of_getElem? (i := 45) rfl))) (Or.inr (hw _ (List.mem_of_getElem? (i := 37) rfl))) (by decide) (t := .double) (t' := .int) (by decide) (by decide)))).other W18 (Or.inr (slot_ne (Or.inr (hw _ (List.mem_of_getElem? (i := 45) rfl))) (Or.inr (hw _ (List.mem_of_getElem? (i := 39) rfl))) (by decide) (t := .double) (t' := (.object "com/example/bindwire/bindwire/model/Constraint$Kind")) (by decide) (by decide)))).other W22 (Or.inr (slot_ne (Or.inr (hw _ (List.mem_of_getElem? (i := 45) rfl))) (Or.inr (hw _ (List.mem_of_getElem? (i := 41) rfl))) (by decide) (t := .double) (t' := (.object "com/example/bindwire/bindwire/model/SolveMethod")) (by decide) (by decide)))).other W26 (Or.inr (slot_ne (Or.inr (hw _ (List.mem_of_getElem? (i := 45) rfl))) (Or.inr (hw _ (List.mem_of_getElem? (i := 43) rfl))) (by decide) (t := .double) (t' := .double) (by decide) (by decide))))
  obtain ⟨T30, h30, X30, e30, W30, st30⟩ := putF X26 hx hZ hown (host := "") (Or.inl (hw _ (List.mem_of_getElem? (i := 44) rfl))) Via.refl e26 f29 f28 (Or.inr ⟨(hw _ (List.mem_of_getElem? (i := 45) rfl)), rfl, hnm⟩) (hw _ (List.mem_of_getElem? (i := 8) rfl)) (ty := .double) (by decide) rfl rfl (g := (mkF m 49 #[.val (.ref o0), .val (.int p1), .val (.int p2), .val (.ref o3), .val (.ref o4), .val (.double d5), .second, .val (.double d6), .second, .val (.double d7), .second, .val (.double d8), .second, .val (.double d9), .second, .val (.double d10), .second, .val (.double d11), .second, .val (.double d12), .second, .val (.double d13), .second, .val (.int p14)] [(.double d6), (.ref o0)])) rfl rfl (hb hby d1_49)
  have N30 := Fr.snoc X30 N26 g_o0
  have K31 : Keep h0 h30 [o0] := K27.wr W30 (Or.inl (by simp))
  have F30w := f29.same W30
  have f32 := (f28.wr W30)
  have f33 := ((((((((F_cMw_o0.ext E2).ext E5).other W10 (Or.inr (slot_ne (Or.inr (hw _ (List.mem_of_getElem? (i := 47) rfl))) (Or.inr (hw _ (List.mem_of_getElem? (i := 35) rfl))) (by decide) (t := .double) (t' := .int) (by decide) (by decide)))).other W14 (Or.inr (slot_ne (Or.inr (hw _ (List.mem_of_getElem? (i := 47) rfl))) (Or.inr (hw _ (List.mem_of_getElem? (i := 37) rfl))) (by decide) (t := .double) (t' := .int) (by decide) (by decide)))).other W18 (Or.inr (slot_ne (Or.inr (hw _ (List.mem_of_getElem? (i := 47) rfl))) (Or.inr (hw _ (List.mem_of_getElem? (i := 39) rfl))) (by decide) (t := .double) (t' := (.object "com/example/bindwire/bindwire/model/Constraint$Kind")) (by decide) (by decide)))).other W22 (Or.inr (slot_ne (Or.inr (hw _ (List.mem_of_getElem? (i := 47) rfl))) (Or.inr (hw _ (List.mem_of_getElem? (i := 41) rfl))) (by decide) (t := .double) (t' := (.object "com/example/bindwire/bindwire/model/SolveMethod")) (by decide) (by decide)))).other W26 (Or.inr (slot_ne (Or.inr (hw _ (List.mem_of_getElem? (i := 47) rfl))) (Or.inr (hw _ (List.mem_of_getElem? (i := 43) rfl))) (by decide) (t := .double) (t' := .double) (by decide) (by decide)))).other W30 (Or.inr (slot_ne (Or.inr (hw _ (List.mem_of_getElem? (i := 47) rfl))) (Or.inr (hw _ (List.mem_of_getElem? (i := 45) rfl))) (by decide) (t := .double) (t' := .double) (by decide) (by decide))))
  obtain ⟨T34, h34, X34, e34, W34, st34⟩ := putF X30 hx hZ hown (host := "") (Or.inl (hw _ (List.mem_of_getElem? (i := 46) rfl))) Via.refl e30 f33 f32 (Or.inr ⟨(hw _ (List.mem_of_getElem? (i := 47) rfl)), rfl, hnm⟩) (hw _ (List.mem_of_getElem? (i := 8) rfl)) (ty := .double) (by decide) rfl rfl (g := (mkF m 55 #[.val (.ref o0), .val (.int p1), .val (.int p2), .val (.ref o3), .val (.ref o4), .val (.double d5), .second, .val (.double d6), .second, .val (.double d7), .second, .val (.double d8), .second, .val (.double d9), .second, .val (.double d10), .second, .val (.double d11), .second, .val (.double d12), .second, .val (.double d13), .second, .val (.int p14)] [(.double d7), (.ref o0)])) rfl rfl (hb hby d1_55)
  have N34 := Fr.snoc X34 N30 g_o0
  have K35 : Keep h0 h34 [o0] := K31.wr W34 (Or.inl (by simp))
  have F34w := f33.same W34
  have f36 := (f32.wr W34)
  have f37 := (((((((((F_pmMw_o0.ext E2).ext E5).other W10 (Or.inr (slot_ne (Or.inr (hw _ (List.mem_of_getElem? (i := 49) rfl))) (Or.inr (hw _ (List.mem_of_getElem? (i := 35) rfl))) (by decide) (t := .double) (t' := .int) (by decide) (by decide)))).other W14 (Or.inr (slot_ne (Or.inr (hw _ (List.mem_of_getElem? (i := 49) rfl))) (Or.inr (hw _ (List.mem_of_getElem? (i := 37) rfl))) (by decide) (t := .double) (t' := .int) (by decide) (by decide)))).other W18 (Or.inr (slot_ne (Or.inr (hw _ (List.mem_of_getElem? (i := 49) rfl))) (Or.inr (hw _ (List.mem_of_getElem? (i := 39) rfl))) (by decide) (t := .double) (t' := (.object "com/example/bindwire/bindwire/model/Constraint$Kind")) (by decide) (by decide)))).other W22 (Or.inr (slot_ne (Or.inr (hw _ (List.mem_of_getElem? (i := 49) rfl))) (Or.inr (hw _ (List.mem_of_getElem? (i := 41) rfl))) (by decide) (t := .double) (t' := (.object "com/example/bindwire/bindwire/model/SolveMethod")) (by decide) (by decide)))).other W26 (Or.inr (slot_ne (Or.inr (hw _ (List.mem_of_getElem? (i := 49) rfl))) (Or.inr (hw _ (List.mem_of_getElem? (i := 43) rfl))) (by decide) (t := .double) (t' := .double) (by decide) (by decide)))).other W30 (Or.inr (slot_ne (Or.inr (hw _ (List.mem_of_getElem? (i := 49) rfl))) (Or.inr (hw _ (List.mem_of_getElem? (i := 45) rfl))) (by decide) (t := .double) (t' := .double) (by decide) (by decide)))).other W34 (Or.inr (slot_ne (Or.inr (hw _ (List.mem_of_getElem? (i := 49) rfl))) (Or.inr (hw _ (List.mem_of_getElem? (i := 47) rfl))) (by decide) (t := .double) (t' := .double) (by decide) (by decide))))
  obtain ⟨T38, h38, X38, e38, W38, st38⟩ := putF X34 hx hZ hown (host := "") (Or.inl (hw _ (List.mem_of_getElem? (i := 48) rfl))) Via.refl e34 f37 f36 (Or.inr ⟨(hw _ (List.mem_of_getElem? (i := 49) rfl)), rfl, hnm⟩) (hw _ (List.mem_of_getElem? (i := 8) rfl)) (ty := .double) (by decide) rfl rfl (g := (mkF m 61 #[.val (.ref o0), .val (.int p1), .val (.int p2), .val (.ref o3), .val (.ref o4), .val (.double d5), .second, .val (.double d6), .second, .val (.double d7), .second, .val (.double d8), .second, .val (.double d9), .second, .val (.double d10), .second, .val (.double d11), .second, .val (.double d12), .second, .val (.double d13), .second, .val (.int p14)] [(.double d8), (.ref o0)])) rfl rfl (hb hby d1_61)
  have N38 := Fr.snoc X38 N34 g_o0
  have K39 : Keep h0 h38 [o0] := K35.wr W38 (Or.inl (by simp))
  have F38w := f37.same W38
  have f40 := (f36.wr W38)
  have f41 := ((((((((((F_pcMw_o0.ext E2).ext E5).other W10 (Or.inr (slot_ne (Or.inr (hw _ (List.mem_of_getElem? (i := 51) rfl))) (Or.inr (hw _ (List.mem_of_getElem? (i := 35) rfl))) (by decide) (t := .double) (t' := .int) (by decide) (by decide)))).other W14 (Or.inr (slot_ne (Or.inr (hw _ (List.mem_of_getElem? (i := 51) rfl))) (Or.inr (hw _ (List.mem_of_getElem? (i := 37) rfl))) (by decide) (t := .double) (t' := .int) (by decide) (by decide)))).other W18 (Or.inr (slot_ne (Or.inr (hw _ (List.mem_of_getElem? (i := 51) rfl))) (Or.inr (hw _ (List.mem_of_getElem? (i := 39) rfl))) (by decide) (t := .double) (t' := (.object "com/example/bindwire/bindwire/model/Constraint$Kind")) (by decide) (by decide)))).other W22 (Or.inr (slot_ne (Or.inr (hw _ (List.mem_of_getElem? (i := 51) rfl))) (Or.inr (hw _ (List.mem_of_getElem? (i := 41) rfl))) (by decide) (t := .double) (t' := (.object "com/example/bindwire/bindwire/model/SolveMethod")) (by decide) (by decide)))).other W26 (Or.inr (slot_ne (Or.inr (hw _ (List.mem_of_getElem? (i := 51) rfl))) (Or.inr (hw _ (List.mem_of_getElem? (i := 43) rfl))) (by decide) (t := .double) (t' := .double) (by decide) (by decide)))).other W30 (Or.inr (slot_ne (Or.inr (hw _ (List.mem_of_getElem? (i := 51) rfl))) (Or.inr (hw _ (List.mem_of_getElem? (i := 45) rfl))) (by decide) (t := .double) (t' := .double) (by decide) (by decide)))).other W34 (Or.inr (slot_ne (Or.inr (hw _ (List.mem_of_getElem? (i := 51) rfl))) (Or.inr (hw _ (List.mem_of_getElem? (i := 47) rfl))) (by decide) (t := .double) (t' := .double) (by decide) (by decide)))).other W38 (Or.inr (slot_ne (Or.inr (hw _ (List.mem_of_getElem? (i := 51) rfl))) (Or.inr (hw _ (List.mem_of_getElem? (i := 49) rfl))) (by decide) (t := .double) (t' := .double) (by decide) (by decide))))
  obtain ⟨T42, h42, X42, e42, W42, st42⟩ := putF X38 hx hZ hown (host := "") (Or.inl (hw _ (List.mem_of_getElem? (i := 50) rfl))) Via.refl e38 f41 f40 (Or.inr ⟨(hw _ (List.mem_of_getElem? (i := 51) rfl)), rfl, hnm⟩) (hw _ (List.mem_of_getElem? (i := 8) rfl)) (ty := .double) (by decide) rfl rfl (g := (mkF m 67 #[.val (.ref o0), .val (.int p1), .val (.int p2), .val (.ref o3), .val (.ref o4), .val (.double d5), .second, .val (.double d6), .second, .val (.double d7), .second, .val (.double d8), .second, .val (.double d9), .second, .val (.double d10), .second, .val (.double d11), .second, .val (.double d12), .second, .val (.double d13), .second, .val (.int p14)] [(.double d9), (.ref o0)])) rfl rfl (hb hby d1_67)
  have N42 := Fr.snoc X42 N38 g_o0
  have K43 : Keep h0 h42 [o0] := K39.wr W42 (Or.inl (by simp))
  have F42w := f41.same W42
  have f44 := (f40.wr W42)
  have f45 := (((((((((((F_pmPostMw_o0.ext E2).ext E5).other W10 (Or.inr (slot_ne (Or.inr (hw _ (List.mem_of_getElem? (i := 53) rfl))) (Or.inr (hw _ (List.mem_of_getElem? (i := 35) rfl))) (by decide) (t := .double) (t' := .int) (by decide) (by decide)))).other W14 (Or.inr (slot_ne (Or.inr (hw _ (List.mem_of_getElem? (i := 53) rfl))) (Or.inr (hw _ (List.mem_of_getElem? (i := 37) rfl))) (by decide) (t := .double) (t' := .int) (by decide) (by decide)))).other W18 (Or.inr (slot_ne (Or.inr (hw _ (List.mem_of_getElem? (i := 53) rfl))) (Or.inr (hw _ (List.mem_of_getElem? (i := 39) rfl))) (by decide) (t := .double) (t' := (.object "com/example/bindwire/bindwire/model/Constraint$Kind")) (by decide) (by decide)))).other W22 (Or.inr (slot_ne (Or.inr (hw _ (List.mem_of_getElem? (i := 53) rfl))) (Or.inr (hw _ (List.mem_of_getElem? (i := 41) rfl))) (by decide) (t := .double) (t' := (.object "com/example/bindwire/bindwire/model/SolveMethod")) (by decide) (by decide)))).other W26 (Or.inr (slot_ne (Or.inr (hw _ (List.mem_of_getElem? (i := 53) rfl))) (Or.inr (hw _ (List.mem_of_getElem? (i := 43) rfl))) (by decide) (t := .double) (t' := .double) (by decide) (by decide)))).other W30 (Or.inr (slot_ne (Or.inr (hw _ (List.mem_of_getElem? (i := 53) rfl))) (Or.inr (hw _ (List.mem_of_getElem? (i := 45) rfl))) (by decide) (t := .double) (t' := .double) (by decide) (by decide)))).other W34 (Or.inr (slot_ne (Or.inr (hw _ (List.mem_of_getElem? (i := 53) rfl))) (Or.inr (hw _ (List.mem_of_getElem? (i := 47) rfl))) (by decide) (t := .double) (t' := .double) (by decide) (by decide)))).other W38 (Or.inr (slot_ne (Or.inr (hw _ (List.mem_of_getElem? (i := 53) rfl))) (Or.inr (hw _ (List.mem_of_getElem? (i := 49) rfl))) (by decide) (t := .double) (t' := .double) (by decide) (by decide)))).other W42 (Or.inr (slot_ne (Or.inr (hw _ (List.mem_of_getElem? (i := 53) rfl))) (Or.inr (hw _ (List.mem_of_getElem? (i := 51) rfl))) (by decide) (t := .double) (t' := .double) (by decide) (by decide))))
  obtain ⟨T46, h46, X46, e46, W46, st46⟩ := putF X42 hx hZ hown (host := "") (Or.inl (hw _ (List.mem_of_getElem? (i := 52) rfl))) Via.refl e42 f45 f44 (Or.inr ⟨(hw _ (List.mem_of_getElem? (i := 53) rfl)), rfl, hnm⟩) (hw _ (List.mem_of_getElem? (i := 8) rfl)) (ty := .double) (by decide) rfl rfl (g := (mkF m 73 #[.val (.ref o0), .val (.int p1), .val (.int p2), .val (.ref o3), .val (.ref o4), .val (.double d5), .second, .val (.double d6), .second, .val (.double d7), .second, .val (.double d8), .second, .val (.double d9), .second, .val (.double d10), .second, .val (.double d11), .second, .val (.double d12), .second, .val (.double d13), .second, .val (.int p14)] [(.double d10), (.ref o0)])) rfl rfl (hb hby d1_73)
  have N46 := Fr.snoc X46 N42 g_o0
  have K47 : Keep h0 h46 [o0] := K43.wr W46 (Or.inl (by simp))
  have F46w := f45.same W46
  have f48 := (f44.wr W46)
  have f49 := ((((((((((((F_qmPostMvar_o0.ext E2).ext E5).other W10 (Or.inr (slot_ne (Or.inr (hw _ (List.mem_of_getElem? (i := 55) rfl))) (Or.inr (hw _ (List.mem_of_getElem? (i := 35) rfl))) (by decide) (t := .double) (t' := .int) (by decide) (by decide)))).other W14 (Or.inr (slot_ne (Or.inr (hw _ (List.mem_of_getElem? (i := 55) rfl))) (Or.inr (hw _ (List.mem_of_getElem? (i := 37) rfl))) (by decide) (t := .double) (t' := .int) (by decide) (by decide)))).other W18 (Or.inr (slot_ne (Or.inr (hw _ (List.mem_of_getElem? (i := 55) rfl))) (Or.inr (hw _ (List.mem_of_getElem? (i := 39) rfl))) (by decide) (t := .double) (t' := (.object "com/example/bindwire/bindwire/model/Constraint$Kind")) (by decide) (by decide)))).other W22 (Or.inr (slot_ne (Or.inr (hw _ (List.mem_of_getElem? (i := 55) rfl))) (Or.inr (hw _ (List.mem_of_getElem? (i := 41) rfl))) (by decide) (t := .double) (t' := (.object "com/example/bindwire/bindwire/model/SolveMethod")) (by decide) (by decide)))).other W26 (Or.inr (slot_ne (Or.inr (hw _ (List.mem_of_getElem? (i := 55) rfl))) (Or.inr (hw _ (List.mem_of_getElem? (i := 43) rfl))) (by decide) (t := .double) (t' := .double) (by decide) (by decide)))).other W30 (Or.inr (slot_ne (Or.inr (hw _ (List.mem_of_getElem? (i := 55) rfl))) (Or.inr (hw _ (List.mem_of_getElem? (i := 45) rfl))) (by decide) (t := .double) (t' := .double) (by decide) (by decide)))).other W34 (Or.inr (slot_ne (Or.inr (hw _ (List.mem_of_getElem? (i := 55) rfl))) (Or.inr (hw _ (List.mem_of_getElem? (i := 47) rfl))) (by decide) (t := .double) (t' := .double) (by decide) (by decide)))).other W38 (Or.inr (slot_ne (Or.inr (hw _ (List.mem_of_getElem? (i := 55) rfl))) (Or.inr (hw _ (List.mem_of_getElem? (i := 49) rfl))) (by decide) (t := .double) (t' := .double) (by decide) (by decide)))).other W42 (Or.inr (slot_ne (Or.inr (hw _ (List.mem_of_getElem? (i := 55) rfl))) (Or.inr (hw _ (List.mem_of_getElem? (i := 51) rfl))) (by decide) (t := .double) (t' := .double) (by decide) (by decide)))).other W46 (Or.inr (slot_ne (Or.inr (hw _ (List.mem_of_getElem? (i := 55) rfl))) (Or.inr (hw _ (List.mem_of_getElem? (i := 53) rfl))) (by decide) (t := .double) (t' := .double) (by decide) (by decide))))
  obtain ⟨T50, h50, X50, e50, W50, st50⟩ := putF X46 hx hZ hown (host := "") (Or.inl (hw _ (List.mem_of_getElem? (i := 54) rfl))) Via.refl e46 f49 f48 (Or.inr ⟨(hw _ (List.mem_of_getElem? (i := 55) rfl)), rfl, hnm⟩) (hw _ (List.mem_of_getElem? (i := 8) rfl)) (ty := .double) (by decide) rfl rfl (g := (mkF m 79 #[.val (.ref o0), .val (.int p1), .val (.int p2), .val (.ref o3), .val (.ref o4), .val (.double d5), .second, .val (.double d6), .second, .val (.double d7), .second, .val (.double d8), .second, .val (.double d9), .second, .val (.double d10), .second, .val (.double d11), .second, .val (.double d12), .second, .val (.double d13), .second, .val (.int p14)] [(.double d11), (.ref o0)])) rfl rfl (hb hby d1_79)
  have N50 := Fr.snoc X50 N46 g_o0
  have K51 : Keep h0 h50 [o0] := K47.wr W50 (Or.inl (by simp))
  have F50w := f49.same W50
  have f52 := (f48.wr W50)
  have f53 := (((((((((((((F_vmPostPu_o0.ext E2).ext E5).other W10 (Or.inr (slot_ne (Or.inr (hw _ (List.mem_of_getElem? (i := 57) rfl))) (Or.inr (hw _ (List.mem_of_getElem? (i := 35) rfl))) (by decide) (t := .double) (t' := .int) (by decide) (by decide)))).other W14 (Or.inr (slot_ne (Or.inr (hw _ (List.mem_of_getElem? (i := 57) rfl))) (Or.inr (hw _ (List.mem_of_getElem? (i := 37) rfl))) (by decide) (t := .double) (t' := .int) (by decide) (by decide)))).other W18 (Or.inr (slot_ne (Or.inr (hw _ (List.mem_of_getElem? (i := 57) rfl))) (Or.inr (hw _ (List.mem_of_getElem? (i := 39) rfl))) (by decide) (t := .double) (t' := (.object "com/example/bindwire/bindwire/model/Constraint$Kind")) (by decide) (by decide)))).other W22 (Or.inr (slot_ne (Or.inr (hw _ (List.mem_of_getElem? (i := 57) rfl))) (Or.inr (hw _ (List.mem_of_getElem? (i := 41) rfl))) (by decide) (t := .double) (t' := (.object "com/example/bindwire/bindwire/model/SolveMethod")) (by decide) (by decide)))).other W26 (Or.inr (slot_ne (Or.inr (hw _ (List.mem_of_getElem? (i := 57) rfl))) (Or.inr (hw _ (List.mem_of_getElem? (i := 43) rfl))) (by decide) (t := .double) (t' := .double) (by decide) (by decide)))).other W30 (Or.inr (slot_ne (Or.inr (hw _ (List.mem_of_getElem? (i := 57) rfl))) (Or.inr (hw _ (List.mem_of_getElem? (i := 45) rfl))) (by decide) (t := .double) (t' := .double) (by decide) (by decide)))).other W34 (Or.inr (slot_ne (Or.inr (hw _ (List.mem_of_getElem? (i := 57) rfl))) (Or.inr (hw _ (List.mem_of_getElem? (i := 47) rfl))) (by decide) (t := .double) (t' := .double) (by decide) (by decide)))).other W38 (Or.inr (slot_ne (Or.inr (hw _ (List.mem_of_getElem? (i := 57) rfl))) (Or.inr (hw _ (List.mem_of_getElem? (i := 49) rfl))) (by decide) (t := .double) (t' := .double) (by decide) (by decide)))).other W42 (Or.inr (slot_ne (Or.inr (hw _ (List.mem_of_getElem? (i := 57) rfl))) (Or.inr (hw _ (List.mem_of_getElem? (i := 51) rfl))) (by decide) (t := .double) (t' := .double) (by decide) (by decide)))).other W46 (Or.inr (slot_ne (Or.inr (hw _ (List.mem_of_getElem? (i := 57) rfl))) (Or.inr (hw _ (List.mem_of_getElem? (i := 53) rfl))) (by decide) (t := .double) (t' := .double) (by decide) (by decide)))).other W50 (Or.inr (slot_ne (Or.inr (hw _ (List.mem_of_getElem? (i := 57) rfl))) (Or.inr (hw _ (List.mem_of_getElem? (i := 55) rfl))) (by decide) (t := .double) (t' := .double) (by decide) (by decide))))
  obtain ⟨T54, h54, X54, e54, W54, st54⟩ := putF X50 hx hZ hown (host := "") (Or.inl (hw _ (List.mem_of_getElem? (i := 56) rfl))) Via.refl e50 f53 f52 (Or.inr ⟨(hw _ (List.mem_of_getElem? (i := 57) rfl)), rfl, hnm⟩) (hw _ (List.mem_of_getElem? (i := 8) rfl)) (ty := .double) (by decide) rfl rfl (g := (mkF m 85 #[.val (.ref o0), .val (.int p1), .val (.int p2), .val (.ref o3), .val (.ref o4), .val (.double d5), .second, .val (.double d6), .second, .val (.double d7), .second, .val (.double d8), .second, .val (.double d9), .second, .val (.double d10), .second, .val (.double d11), .second, .val (.double d12), .second, .val (.double d13), .second, .val (.int p14)] [(.double d12), (.ref o0)])) rfl rfl (hb hby d1_85)
  have N54 := Fr.snoc X54 N50 g_o0
  have K55 : Keep h0 h54 [o0] := K51.wr W54 (Or.inl (by simp))
  have F54w := f53.same W54
  have f56 := (f52.wr W54)
  have f57 := ((((((((((((((F_loading_o0.ext E2).ext E5).other W10 (Or.inr (slot_ne (Or.inr (hw _ (List.mem_of_getElem? (i := 59) rfl))) (Or.inr (hw _ (List.mem_of_getElem? (i := 35) rfl))) (by decide) (t := .double) (t' := .int) (by decide) (by decide)))).other W14 (Or.inr (slot_ne (Or.inr (hw _ (List.mem_of_getElem? (i := 59) rfl))) (Or.inr (hw _ (List.mem_of_getElem? (i := 37) rfl))) (by decide) (t := .double) (t' := .int) (by decide) (by decide)))).other W18 (Or.inr (slot_ne (Or.inr (hw _ (List.mem_of_getElem? (i := 59) rfl))) (Or.inr (hw _ (List.mem_of_getElem? (i := 39) rfl))) (by decide) (t := .double) (t' := (.object "com/example/bindwire/bindwire/model/Constraint$Kind")) (by decide) (by decide)))).other W22 (Or.inr (slot_ne (Or.inr (hw _ (List.mem_of_getElem? (i := 59) rfl))) (Or.inr (hw _ (List.mem_of_getElem? (i := 41) rfl))) (by decide) (t := .double) (t' := (.object "com/example/bindwire/bindwire/model/SolveMethod")) (by decide) (by decide)))).other W26 (Or.inr (slot_ne (Or.inr (hw _ (List.mem_of_getElem? (i := 59) rfl))) (Or.inr (hw _ (List.mem_of_getElem? (i := 43) rfl))) (by decide) (t := .double) (t' := .double) (by decide) (by decide)))).other W30 (Or.inr (slot_ne (Or.inr (hw _ (List.mem_of_getElem? (i := 59) rfl))) (Or.inr (hw _ (List.mem_of_getElem? (i := 45) rfl))) (by decide) (t := .double) (t' := .double) (by decide) (by decide)))).other W34 (Or.inr (slot_ne (Or.inr (hw _ (List.mem_of_getElem? (i := 59) rfl))) (Or.inr (hw _ (List.mem_of_getElem? (i := 47) rfl))) (by decide) (t := .double) (t' := .double) (by decide) (by decide)))).other W38 (Or.inr (slot_ne (Or.inr (hw _ (List.mem_of_getElem? (i := 59) rfl))) (Or.inr (hw _ (List.mem_of_getElem? (i := 49) rfl))) (by decide) (t := .double) (t' := .double) (by decide) (by decide)))).other W42 (Or.inr (slot_ne (Or.inr (hw _ (List.mem_of_getElem? (i := 59) rfl))) (Or.inr (hw _ (List.mem_of_getElem? (i := 51) rfl))) (by decide) (t := .double) (t' := .double) (by decide) (by decide)))).other W46 (Or.inr (slot_ne (Or.inr (hw _ (List.mem_of_getElem? (i := 59) rfl))) (Or.inr (hw _ (List.mem_of_getElem? (i := 53) rfl))) (by decide) (t := .double) (t' := .double) (by decide) (by decide)))).other W50 (Or.inr (slot_ne (Or.inr (hw _ (List.mem_of_getElem? (i := 59) rfl))) (Or.inr (hw _ (List.mem_of_getElem? (i := 55) rfl))) (by decide) (t := .double) (t' := .double) (by decide) (by decide)))).other W54 (Or.inr (slot_ne (Or.inr (hw _ (List.mem_of_getElem? (i := 59) rfl))) (Or.inr (hw _ (List.mem_of_getElem? (i := 57) rfl))) (by decide) (t := .double) (t' := .double) (by decide) (by decide))))
  obtain ⟨T58, h58, X58, e58, W58, st58⟩ := putF X54 hx hZ hown (host := "") (Or.inl (hw _ (List.mem_of_getElem? (i := 58) rfl))) Via.refl e54 f57 f56 (Or.inr ⟨(hw _ (List.mem_of_getElem? (i := 59) rfl)), rfl, hnm⟩) (hw _ (List.mem_of_getElem? (i := 8) rfl)) (ty := .double) (by decide) rfl rfl (g := (mkF m 91 #[.val (.ref o0), .val (.int p1), .val (.int p2), .val (.ref o3), .val (.ref o4), .val (.double d5), .second, .val (.double d6), .second, .val (.double d7), .second, .val (.double d8), .second, .val (.double d9), .second, .val (.double d10), .second, .val (.double d11), .second, .val (.double d12), .second, .val (.double d13), .second, .val (.int p14)] [(.double d13), (.ref o0)])) rfl rfl (hb hby d1_91)
  have N58 := Fr.snoc X58 N54 g_o0
  have K59 : Keep h0 h58 [o0] := K55.wr W58 (Or.inl (by simp))
  have F58w := f57.same W58
  have f60 := (f56.wr W58)
  have f61 := (((((((((((((((F_published_o0.ext E2).ext E5).other W10 (Or.inr (slot_ne (Or.inr (hw _ (List.mem_of_getElem? (i := 61) rfl))) (Or.inr (hw _ (List.mem_of_getElem? (i := 35) rfl))) (by decide) (t := .boolean) (t' := .int) (by decide) (by decide)))).other W14 (Or.inr (slot_ne (Or.inr (hw _ (List.mem_of_getElem? (i := 61) rfl))) (Or.inr (hw _ (List.mem_of_getElem? (i := 37) rfl))) (by decide) (t := .boolean) (t' := .int) (by decide) (by decide)))).other W18 (Or.inr (slot_ne (Or.inr (hw _ (List.mem_of_getElem? (i := 61) rfl))) (Or.inr (hw _ (List.mem_of_getElem? (i := 39) rfl))) (by decide) (t := .boolean) (t' := (.object "com/example/bindwire/bindwire/model/Constraint$Kind")) (by decide) (by decide)))).other W22 (Or.inr (slot_ne (Or.inr (hw _ (List.mem_of_getElem? (i := 61) rfl))) (Or.inr (hw _ (List.mem_of_getElem? (i := 41) rfl))) (by decide) (t := .boolean) (t' := (.object "com/example/bindwire/bindwire/model/SolveMethod")) (by decide) (by decide)))).other W26 (Or.inr (slot_ne (Or.inr (hw _ (List.mem_of_getElem? (i := 61) rfl))) (Or.inr (hw _ (List.mem_of_getElem? (i := 43) rfl))) (by decide) (t := .boolean) (t' := .double) (by decide) (by decide)))).other W30 (Or.inr (slot_ne (Or.inr (hw _ (List.mem_of_getElem? (i := 61) rfl))) (Or.inr (hw _ (List.mem_of_getElem? (i := 45) rfl))) (by decide) (t := .boolean) (t' := .double) (by decide) (by decide)))).other W34 (Or.inr (slot_ne (Or.inr (hw _ (List.mem_of_getElem? (i := 61) rfl))) (Or.inr (hw _ (List.mem_of_getElem? (i := 47) rfl))) (by decide) (t := .boolean) (t' := .double) (by decide) (by decide)))).other W38 (Or.inr (slot_ne (Or.inr (hw _ (List.mem_of_getElem? (i := 61) rfl))) (Or.inr (hw _ (List.mem_of_getElem? (i := 49) rfl))) (by decide) (t := .boolean) (t' := .double) (by decide) (by decide)))).other W42 (Or.inr (slot_ne (Or.inr (hw _ (List.mem_of_getElem? (i := 61) rfl))) (Or.inr (hw _ (List.mem_of_getElem? (i := 51) rfl))) (by decide) (t := .boolean) (t' := .double) (by decide) (by decide)))).other W46 (Or.inr (slot_ne (Or.inr (hw _ (List.mem_of_getElem? (i := 61) rfl))) (Or.inr (hw _ (List.mem_of_getElem? (i := 53) rfl))) (by decide) (t := .boolean) (t' := .double) (by decide) (by decide)))).other W50 (Or.inr (slot_ne (Or.inr (hw _ (List.mem_of_getElem? (i := 61) rfl))) (Or.inr (hw _ (List.mem_of_getElem? (i := 55) rfl))) (by decide) (t := .boolean) (t' := .double) (by decide) (by decide)))).other W54 (Or.inr (slot_ne (Or.inr (hw _ (List.mem_of_getElem? (i := 61) rfl))) (Or.inr (hw _ (List.mem_of_getElem? (i := 57) rfl))) (by decide) (t := .boolean) (t' := .double) (by decide) (by decide)))).other W58 (Or.inr (slot_ne (Or.inr (hw _ (List.mem_of_getElem? (i := 61) rfl))) (Or.inr (hw _ (List.mem_of_getElem? (i := 59) rfl))) (by decide) (t := .boolean) (t' := .double) (by decide) (by decide))))
  obtain ⟨T62, h62, X62, e62, W62, st62⟩ := putF X58 hx hZ hown (host := "") (Or.inl (hw _ (List.mem_of_getElem? (i := 60) rfl))) Via.refl e58 f61 f60 (Or.inr ⟨(hw _ (List.mem_of_getElem? (i := 61) rfl)), rfl, hnm⟩) (hw _ (List.mem_of_getElem? (i := 8) rfl)) (ty := .boolean) (by decide) na97 fi97 (g := (mkF m 97 #[.val (.ref o0), .val (.int p1), .val (.int p2), .val (.ref o3), .val (.ref o4), .val (.double d5), .second, .val (.double d6), .second, .val (.double d7), .second, .val (.double d8), .second, .val (.double d9), .second, .val (.double d10), .second, .val (.double d11), .second, .val (.double d12), .second, .val (.double d13), .second, .val (.int p14)] [(.int p14), (.ref o0)])) rfl rfl (hb hby d1_97)
  have N62 := Fr.snoc X62 N58 g_o0
  have K63 : Keep h0 h62 [o0] := K59.wr W62 (Or.inl (by simp))
  have F62w := f61.same W62
  have c64 : ∀ t, Steps p.tables e below (T62.setTop (mkF m 100 #[.val (.ref o0), .val (.int p1), .val (.int p2), .val (.ref o3), .val (.ref o4), .val (.double d5), .second, .val (.double d6), .second, .val (.double d7), .second, .val (.double d8), .second, .val (.double d9), .second, .val (.double d10), .second, .val (.double d11), .second, .val (.double d12), .second, .val (.double d13), .second, .val (.int p14)] [])) t → Steps p.tables e below (s₁.setTop (entryFrame m #[(.ref o0), (.int p1), (.int p2), (.ref o3), (.ref o4), (.double d5), (.double d6), (.double d7), (.double d8), (.double d9), (.double d10), (.double d11), (.double d12), (.double d13), (.int p14)] 24)) t := by
    intro t k
    refine c0 t ?_
    show Steps p.tables e below (s₁.setTop (mkF m 0 #[.val (.ref o0), .val (.int p1), .val (.int p2), .val (.ref o3), .val (.ref o4), .val (.double d5), .second, .val (.double d6), .second, .val (.double d7), .second, .val (.double d8), .second, .val (.double d9), .second, .val (.double d10), .second, .val (.double d11), .second, .val (.double d12), .second, .val (.double d13), .second, .val (.int p14)] [])) _
    refine XS.aloadN X0.here hx rfl (hb hby d1_0) rfl rfl ?_
    show Steps p.tables e below (s₁.setTop (mkF m 1 #[.val (.ref o0), .val (.int p1), .val (.int p2), .val (.ref o3), .val (.ref o4), .val (.double d5), .second, .val (.double d6), .second, .val (.double d7), .second, .val (.double d8), .second, .val (.double d9), .second, .val (.double d10), .second, .val (.double d11), .second, .val (.double d12), .second, .val (.double d13), .second, .val (.int p14)] [(.ref o0)])) _
    refine st1.trans ?_
    show Steps p.tables e below (T1.setTop (mkF m 4 #[.val (.ref o0), .val (.int p1), .val (.int p2), .val (.ref o3), .val (.ref o4), .val (.double d5), .second, .val (.double d6), .second, .val (.double d7), .second, .val (.double d8), .second, .val (.double d9), .second, .val (.double d10), .second, .val (.double d11), .second, .val (.double d12), .second, .val (.double d13), .second, .val (.int p14)] [])) _
    refine XS.aloadN X1.here hx rfl (hb hby d1_4) rfl rfl ?_
    show Steps p.tables e below (T1.setTop (mkF m 5 #[.val (.ref o0), .val (.int p1), .val (.int p2), .val (.ref o3), .val (.ref o4), .val (.double d5), .second, .val (.double d6), .second, .val (.double d7), .second, .val (.double d8), .second, .val (.double d9), .second, .val (.double d10), .second, .val (.double d11), .second, .val (.double d12), .second, .val (.double d13), .second, .val (.int p14)] [(.ref o3)])) _
    refine st2 _ ?_
    show Steps p.tables e below (T2.setTop (mkF m 7 #[.val (.ref o0), .val (.int p1), .val (.int p2), .val (.ref o3), .val (.ref o4), .val (.double d5), .second, .val (.double d6), .second, .val (.double d7), .second, .val (.double d8), .second, .val (.double d9), .second, .val (.double d10), .second, .val (.double d11), .second, .val (.double d12), .second, .val (.double d13), .second, .val (.int p14)] [(.ref a2), (.ref o3)])) _
    refine st4 _ ?_
    show Steps p.tables e below (T4.setTop (mkF m 10 #[.val (.ref o0), .val (.int p1), .val (.int p2), .val (.ref o3), .val (.ref o4), .val (.double d5), .second, .val (.double d6), .second, .val (.double d7), .second, .val (.double d8), .second, .val (.double d9), .second, .val (.double d10), .second, .val (.double d11), .second, .val (.double d12), .second, .val (.double d13), .second, .val (.int p14)] [(.ref o3)])) _
    refine XS.pop X4.here hx rfl (hb hby d1_10) rfl rfl ?_
    show Steps p.tables e below (T4.setTop (mkF m 11 #[.val (.ref o0), .val (.int p1), .val (.int p2), .val (.ref o3), .val (.ref o4), .val (.double d5), .second, .val (.double d6), .second, .val (.double d7), .second, .val (.double d8), .second, .val (.double d9), .second, .val (.double d10), .second, .val (.double d11), .second, .val (.double d12), .second, .val (.double d13), .second, .val (.int p14)] [])) _
    refine XS.aload X4.here hx rfl (hb hby d1_11) rfl rfl ?_
    show Steps p.tables e below (T4.setTop (mkF m 13 #[.val (.ref o0), .val (.int p1), .val (.int p2), .val (.ref o3), .val (.ref o4), .val (.double d5), .second, .val (.double d6), .second, .val (.double d7), .second, .val (.double d8), .second, .val (.double d9), .second, .val (.double d10), .second, .val (.double d11), .second, .val (.double d12), .second, .val (.double d13), .second, .val (.int p14)] [(.ref o4)])) _
    refine st5 _ ?_
    show Steps p.tables e below (T5.setTop (mkF m 15 #[.val (.ref o0), .val (.int p1), .val (.int p2), .val (.ref o3), .val (.ref o4), .val (.double d5), .second, .val (.double d6), .second, .val (.double d7), .second, .val (.double d8), .second, .val (.double d9), .second, .val (.double d10), .second, .val (.double d11), .second, .val (.double d12), .second, .val (.double d13), .second, .val (.int p14)] [(.ref a5), (.ref o4)])) _
    refine st7 _ ?_
    show Steps p.tables e below (T7.setTop (mkF m 18 #[.val (.ref o0), .val (.int p1), .val (.int p2), .val (.ref o3), .val (.ref o4), .val (.double d5), .second, .val (.double d6), .second, .val (.double d7), .second, .val (.double d8), .second, .val (.double d9), .second, .val (.double d10), .second, .val (.double d11), .second, .val (.double d12), .second, .val (.double d13), .second, .val (.int p14)] [(.ref o4)])) _
    refine XS.pop X7.here hx rfl (hb hby d1_18) rfl rfl ?_
    show Steps p.tables e below (T7.setTop (mkF m 19 #[.val (.ref o0), .val (.int p1), .val (.int p2), .val (.ref o3), .val (.ref o4), .val (.double d5), .second, .val (.double d6), .second, .val (.double d7), .second, .val (.double d8), .second, .val (.double d9), .second, .val (.double d10), .second, .val (.double d11), .second, .val (.double d12), .second, .val (.double d13), .second, .val (.int p14)] [])) _
    refine XS.aloadN X7.here hx rfl (hb hby d1_19) rfl rfl ?_
    show Steps p.tables e below (T7.setTop (mkF m 20 #[.val (.ref o0), .val (.int p1), .val (.int p2), .val (.ref o3), .val (.ref o4), .val (.double d5), .second, .val (.double d6), .second, .val (.double d7), .second, .val (.double d8), .second, .val (.double d9), .second, .val (.double d10), .second, .val (.double d11), .second, .val (.double d12), .second, .val (.double d13), .second, .val (.int p14)] [(.ref o0)])) _
    refine XS.iloadN X7.here hx rfl (hb hby d1_20) rfl ?_
    show Steps p.tables e below (T7.setTop (mkF m 21 #[.val (.ref o0), .val (.int p1), .val (.int p2), .val (.ref o3), .val (.ref o4), .val (.double d5), .second, .val (.double d6), .second, .val (.double d7), .second, .val (.double d8), .second, .val (.double d9), .second, .val (.double d10), .second, .val (.double d11), .second, .val (.double d12), .second, .val (.double d13), .second, .val (.int p14)] [(.int p1), (.ref o0)])) _
    refine st10 _ ?_
    show Steps p.tables e below (T10.setTop (mkF m 24 #[.val (.ref o0), .val (.int p1), .val (.int p2), .val (.ref o3), .val (.ref o4), .val (.double d5), .second, .val (.double d6), .second, .val (.double d7), .second, .val (.double d8), .second, .val (.double d9), .second, .val (.double d10), .second, .val (.double d11), .second, .val (.double d12), .second, .val (.double d13), .second, .val (.int p14)] [])) _
    refine XS.aloadN X10.here hx rfl (hb hby d1_24) rfl rfl ?_
    show Steps p.tables e below (T10.setTop (mkF m 25 #[.val (.ref o0), .val (.int p1), .val (.int p2), .val (.ref o3), .val (.ref o4), .val (.double d5), .second, .val (.double d6), .second, .val (.double d7), .second, .val (.double d8), .second, .val (.double d9), .second, .val (.double d10), .second, .val (.double d11), .second, .val (.double d12), .second, .val (.double d13), .second, .val (.int p14)] [(.ref o0)])) _
    refine XS.iloadN X10.here hx rfl (hb hby d1_25) rfl ?_
    show Steps p.tables e below (T10.setTop (mkF m 26 #[.val (.ref o0), .val (.int p1), .val (.int p2), .val (.ref o3), .val (.ref o4), .val (.double d5), .second, .val (.double d6), .second, .val (.double d7), .second, .val (.double d8), .second, .val (.double d9), .second, .val (.double d10), .second, .val (.double d11), .second, .val (.double d12), .second, .val (.double d13), .second, .val (.int p14)] [(.int p2), (.ref o0)])) _
    refine st14 _ ?_
    show Steps p.tables e below (T14.setTop (mkF m 29 #[.val (.ref o0), .val (.int p1), .val (.int p2), .val (.ref o3), .val (.ref o4), .val (.double d5), .second, .val (.double d6), .second, .val (.double d7), .second, .val (.double d8), .second, .val (.double d9), .second, .val (.double d10), .second, .val (.double d11), .second, .val (.double d12), .second, .val (.double d13), .second, .val (.int p14)] [])) _
    refine XS.aloadN X14.here hx rfl (hb hby d1_29) rfl rfl ?_
    show Steps p.tables e below (T14.setTop (mkF m 30 #[.val (.ref o0), .val (.int p1), .val (.int p2), .val (.ref o3), .val (.ref o4), .val (.double d5), .second, .val (.double d6), .second, .val (.double d7), .second, .val (.double d8), .second, .val (.double d9), .second, .val (.double d10), .second, .val (.double d11), .second, .val (.double d12), .second, .val (.double d13), .second, .val (.int p14)] [(.ref o0)])) _
    refine XS.aloadN X14.here hx rfl (hb hby d1_30) rfl rfl ?_
    show Steps p.tables e below (T14.setTop (mkF m 31 #[.val (.ref o0), .val (.int p1), .val (.int p2), .val (.ref o3), .val (.ref o4), .val (.double d5), .second, .val (.double d6), .second, .val (.double d7), .second, .val (.double d8), .second, .val (.double d9), .second, .val (.double d10), .second, .val (.double d11), .second, .val (.double d12), .second, .val (.double d13), .second, .val (.int p14)] [(.ref o3), (.ref o0)])) _
    refine st18 _ ?_
    show Steps p.tables e below (T18.setTop (mkF m 34 #[.val (.ref o0), .val (.int p1), .val (.int p2), .val (.ref o3), .val (.ref o4), .val (.double d5), .second, .val (.double d6), .second, .val (.double d7), .second, .val (.double d8), .second, .val (.double d9), .second, .val (.double d10), .second, .val (.double d11), .second, .val (.double d12), .second, .val (.double d13), .second, .val (.int p14)] [])) _
    refine XS.aloadN X18.here hx rfl (hb hby d1_34) rfl rfl ?_
    show Steps p.tables e below (T18.setTop (mkF m 35 #[.val (.ref o0), .val (.int p1), .val (.int p2), .val (.ref o3), .val (.ref o4), .val (.double d5), .second, .val (.double d6), .second, .val (.double d7), .second, .val (.double d8), .second, .val (.double d9), .second, .val (.double d10), .second, .val (.double d11), .second, .val (.double d12), .second, .val (.double d13), .second, .val (.int p14)] [(.ref o0)])) _
    refine XS.aload X18.here hx rfl (hb hby d1_35) rfl rfl ?_
    show Steps p.tables e below (T18.setTop (mkF m 37 #[.val (.ref o0), .val (.int p1), .val (.int p2), .val (.ref o3), .val (.ref o4), .val (.double d5), .second, .val (.double d6), .second, .val (.double d7), .second, .val (.double d8), .second, .val (.double d9), .second, .val (.double d10), .second, .val (.double d11), .second, .val (.double d12), .second, .val (.double d13), .second, .val (.int p14)] [(.ref o4), (.ref o0)])) _
    refine st22 _ ?_
    show Steps p.tables e below (T22.setTop (mkF m 40 #[.val (.ref o0), .val (.int p1), .val (.int p2), .val (.ref o3), .val (.ref o4), .val (.double d5), .second, .val (.double d6), .second, .val (.double d7), .second, .val (.double d8), .second, .val (.double d9), .second, .val (.double d10), .second, .val (.double d11), .second, .val (.double d12), .second, .val (.double d13), .second, .val (.int p14)] [])) _
    refine XS.aloadN X22.here hx rfl (hb hby d1_40) rfl rfl ?_
    show Steps p.tables e below (T22.setTop (mkF m 41 #[.val (.ref o0), .val (.int p1), .val (.int p2), .val (.ref o3), .val (.ref o4), .val (.double d5), .second, .val (.double d6), .second, .val (.double d7), .second, .val (.double d8), .second, .val (.double d9), .second, .val (.double d10), .second, .val (.double d11), .second, .val (.double d12), .second, .val (.double d13), .second, .val (.int p14)] [(.ref o0)])) _
    refine XS.dload X22.here hx rfl (hb hby d1_41) rfl ?_
    show Steps p.tables e below (T22.setTop (mkF m 43 #[.val (.ref o0), .val (.int p1), .val (.int p2), .val (.ref o3), .val (.ref o4), .val (.double d5), .second, .val (.double d6), .second, .val (.double d7), .second, .val (.double d8), .second, .val (.double d9), .second, .val (.double d10), .second, .val (.double d11), .second, .val (.double d12), .second, .val (.double d13), .second, .val (.int p14)] [(.double d5), (.ref o0)])) _
    refine st26 _ ?_
    show Steps p.tables e below (T26.setTop (mkF m 46 #[.val (.ref o0), .val (.int p1), .val (.int p2), .val (.ref o3), .val (.ref o4), .val (.double d5), .second, .val (.double d6), .second, .val (.double d7), .second, .val (.double d8), .second, .val (.double d9), .second, .val (.double d10), .second, .val (.double d11), .second, .val (.double d12), .second, .val (.double d13), .second, .val (.int p14)] [])) _
    refine XS.aloadN X26.here hx rfl (hb hby d1_46) rfl rfl ?_
    show Steps p.tables e below (T26.setTop (mkF m 47 #[.val (.ref o0), .val (.int p1), .val (.int p2), .val (.ref o3), .val (.ref o4), .val (.double d5), .second, .val (.double d6), .second, .val (.double d7), .second, .val (.double d8), .second, .val (.double d9), .second, .val (.double d10), .second, .val (.double d11), .second, .val (.double d12), .second, .val (.double d13), .second, .val (.int p14)] [(.ref o0)])) _
    refine XS.dload X26.here hx rfl (hb hby d1_47) rfl ?_
    show Steps p.tables e below (T26.setTop (mkF m 49 #[.val (.ref o0), .val (.int p1), .val (.int p2), .val (.ref o3), .val (.ref o4), .val (.double d5), .second, .val (.double d6), .second, .val (.double d7), .second, .val (.double d8), .second, .val (.double d9), .second, .val (.double d10), .second, .val (.double d11), .second, .val (.double d12), .second, .val (.double d13), .second, .val (.int p14)] [(.double d6), (.ref o0)])) _
    refine st30 _ ?_
    show Steps p.tables e below (T30.setTop (mkF m 52 #[.val (.ref o0), .val (.int p1), .val (.int p2), .val (.ref o3), .val (.ref o4), .val (.double d5), .second, .val (.double d6), .second, .val (.double d7), .second, .val (.double d8), .second, .val (.double d9), .second, .val (.double d10), .second, .val (.double d11), .second, .val (.double d12), .second, .val (.double d13), .second, .val (.int p14)] [])) _
    refine XS.aloadN X30.here hx rfl (hb hby d1_52) rfl rfl ?_
    show Steps p.tables e below (T30.setTop (mkF m 53 #[.val (.ref o0), .val (.int p1), .val (.int p2), .val (.ref o3), .val (.ref o4), .val (.double d5), .second, .val (.double d6), .second, .val (.double d7), .second, .val (.double d8), .second, .val (.double d9), .second, .val (.double d10), .second, .val (.double d11), .second, .val (.double d12), .second, .val (.double d13), .second, .val (.int p14)] [(.ref o0)])) _
    refine XS.dload X30.here hx rfl (hb hby d1_53) rfl ?_
    show Steps p.tables e below (T30.setTop (mkF m 55 #[.val (.ref o0), .val (.int p1), .val (.int p2), .val (.ref o3), .val (.ref o4), .val (.double d5), .second, .val (.double d6), .second, .val (.double d7), .second, .val (.double d8), .second, .val (.double d9), .second, .val (.double d10), .second, .val (.double d11), .second, .val (.double d12), .second, .val (.double d13), .second, .val (.int p14)] [(.double d7), (.ref o0)])) _
    refine st34 _ ?_
    show Steps p.tables e below (T34.setTop (mkF m 58 #[.val (.ref o0), .val (.int p1), .val (.int p2), .val (.ref o3), .val (.ref o4), .val (.double d5), .second, .val (.double d6), .second, .val (.double d7), .second, .val (.double d8), .second, .val (.double d9), .second, .val (.double d10), .second, .val (.double d11), .second, .val (.double d12), .second, .val (.double d13), .second, .val (.int p14)] [])) _
    refine XS.aloadN X34.here hx rfl (hb hby d1_58) rfl rfl ?_
    show Steps p.tables e below (T34.setTop (mkF m 59 #[.val (.ref o0), .val (.int p1), .val (.int p2), .val (.ref o3), .val (.ref o4), .val (.double d5), .second, .val (.double d6), .second, .val (.double d7), .second, .val (.double d8), .second, .val (.double d9), .second, .val (.double d10), .second, .val (.double d11), .second, .val (.double d12), .second, .val (.double d13), .second, .val (.int p14)] [(.ref o0)])) _
    refine XS.dload X34.here hx rfl (hb hby d1_59) rfl ?_
    show Steps p.tables e below (T34.setTop (mkF m 61 #[.val (.ref o0), .val (.int p1), .val (.int p2), .val (.ref o3), .val (.ref o4), .val (.double d5), .second, .val (.double d6), .second, .val (.double d7), .second, .val (.double d8), .second, .val (.double d9), .second, .val (.double d10), .second, .val (.double d11), .second, .val (.double d12), .second, .val (.double d13), .second, .val (.int p14)] [(.double d8), (.ref o0)])) _
    refine st38 _ ?_
    show Steps p.tables e below (T38.setTop (mkF m 64 #[.val (.ref o0), .val (.int p1), .val (.int p2), .val (.ref o3), .val (.ref o4), .val (.double d5), .second, .val (.double d6), .second, .val (.double d7), .second, .val (.double d8), .second, .val (.double d9), .second, .val (.double d10), .second, .val (.double d11), .second, .val (.double d12), .second, .val (.double d13), .second, .val (.int p14)] [])) _
    refine XS.aloadN X38.here hx rfl (hb hby d1_64) rfl rfl ?_
    show Steps p.tables e below (T38.setTop (mkF m 65 #[.val (.ref o0), .val (.int p1), .val (.int p2), .val (.ref o3), .val (.ref o4), .val (.double d5), .second, .val (.double d6), .second, .val (.double d7), .second, .val (.double d8), .second, .val (.double d9), .second, .val (.double d10), .second, .val (.double d11), .second, .val (.double d12), .second, .val (.double d13), .second, .val (.int p14)] [(.ref o0)])) _
    refine XS.dload X38.here hx rfl (hb hby d1_65) rfl ?_
    show Steps p.tables e below (T38.setTop (mkF m 67 #[.val (.ref o0), .val (.int p1), .val (.int p2), .val (.ref o3), .val (.ref o4), .val (.double d5), .second, .val (.double d6), .second, .val (.double d7), .second, .val (.double d8), .second, .val (.double d9), .second, .val (.double d10), .second, .val (.double d11), .second, .val (.double d12), .second, .val (.double d13), .second, .val (.int p14)] [(.double d9), (.ref o0)])) _
    refine st42 _ ?_
    show Steps p.tables e below (T42.setTop (mkF m 70 #[.val (.ref o0), .val (.int p1), .val (.int p2), .val (.ref o3), .val (.ref o4), .val (.double d5), .second, .val (.double d6), .second, .val (.double d7), .second, .val (.double d8), .second, .val (.double d9), .second, .val (.double d10), .second, .val (.double d11), .second, .val (.double d12), .second, .val (.double d13), .second, .val (.int p14)] [])) _
    refine XS.aloadN X42.here hx rfl (hb hby d1_70) rfl rfl ?_
    show Steps p.tables e below (T42.setTop (mkF m 71 #[.val (.ref o0), .val (.int p1), .val (.int p2), .val (.ref o3), .val (.ref o4), .val (.double d5), .second, .val (.double d6), .second, .val (.double d7), .second, .val (.double d8), .second, .val (.double d9), .second, .val (.double d10), .second, .val (.double d11), .second, .val (.double d12), .second, .val (.double d13), .second, .val (.int p14)] [(.ref o0)])) _
    refine XS.dload X42.here hx rfl (hb hby d1_71) rfl ?_
    show Steps p.tables e below (T42.setTop (mkF m 73 #[.val (.ref o0), .val (.int p1), .val (.int p2), .val (.ref o3), .val (.ref o4), .val (.double d5), .second, .val (.double d6), .second, .val (.double d7), .second, .val (.double d8), .second, .val (.double d9), .second, .val (.double d10), .second, .val (.double d11), .second, .val (.double d12), .second, .val (.double d13), .second, .val (.int p14)] [(.double d10), (.ref o0)])) _
    refine st46 _ ?_
    show Steps p.tables e below (T46.setTop (mkF m 76 #[.val (.ref o0), .val (.int p1), .val (.int p2), .val (.ref o3), .val (.ref o4), .val (.double d5), .second, .val (.double d6), .second, .val (.double d7), .second, .val (.double d8), .second, .val (.double d9), .second, .val (.double d10), .second, .val (.double d11), .second, .val (.double d12), .second, .val (.double d13), .second, .val (.int p14)] [])) _
    refine XS.aloadN X46.here hx rfl (hb hby d1_76) rfl rfl ?_
    show Steps p.tables e below (T46.setTop (mkF m 77 #[.val (.ref o0), .val (.int p1), .val (.int p2), .val (.ref o3), .val (.ref o4), .val (.double d5), .second, .val (.double d6), .second, .val (.double d7), .second, .val (.double d8), .second, .val (.double d9), .second, .val (.double d10), .second, .val (.double d11), .second, .val (.double d12), .second, .val (.double d13), .second, .val (.int p14)] [(.ref o0)])) _
    refine XS.dload X46.here hx rfl (hb hby d1_77) rfl ?_
    show Steps p.tables e below (T46.setTop (mkF m 79 #[.val (.ref o0), .val (.int p1), .val (.int p2), .val (.ref o3), .val (.ref o4), .val (.double d5), .second, .val (.double d6), .second, .val (.double d7), .second, .val (.double d8), .second, .val (.double d9), .second, .val (.double d10), .second, .val (.double d11), .second, .val (.double d12), .second, .val (.double d13), .second, .val (.int p14)] [(.double d11), (.ref o0)])) _
    refine st50 _ ?_
    show Steps p.tables e below (T50.setTop (mkF m 82 #[.val (.ref o0), .val (.int p1), .val (.int p2), .val (.ref o3), .val (.ref o4), .val (.double d5), .second, .val (.double d6), .second, .val (.double d7), .second, .val (.double d8), .second, .val (.double d9), .second, .val (.double d10), .second, .val (.double d11), .second, .val (.double d12), .second, .val (.double d13), .second, .val (.int p14)] [])) _
    refine XS.aloadN X50.here hx rfl (hb hby d1_82) rfl rfl ?_
    show Steps p.tables e below (T50.setTop (mkF m 83 #[.val (.ref o0), .val (.int p1), .val (.int p2), .val (.ref o3), .val (.ref o4), .val (.double d5), .second, .val (.double d6), .second, .val (.double d7), .second, .val (.double d8), .second, .val (.double d9), .second, .val (.double d10), .second, .val (.double d11), .second, .val (.double d12), .second, .val (.double d13), .second, .val (.int p14)] [(.ref o0)])) _
    refine XS.dload X50.here hx rfl (hb hby d1_83) rfl ?_
    show Steps p.tables e below (T50.setTop (mkF m 85 #[.val (.ref o0), .val (.int p1), .val (.int p2), .val (.ref o3), .val (.ref o4), .val (.double d5), .second, .val (.double d6), .second, .val (.double d7), .second, .val (.double d8), .second, .val (.double d9), .second, .val (.double d10), .second, .val (.double d11), .second, .val (.double d12), .second, .val (.double d13), .second, .val (.int p14)] [(.double d12), (.ref o0)])) _
    refine st54 _ ?_
    show Steps p.tables e below (T54.setTop (mkF m 88 #[.val (.ref o0), .val (.int p1), .val (.int p2), .val (.ref o3), .val (.ref o4), .val (.double d5), .second, .val (.double d6), .second, .val (.double d7), .second, .val (.double d8), .second, .val (.double d9), .second, .val (.double d10), .second, .val (.double d11), .second, .val (.double d12), .second, .val (.double d13), .second, .val (.int p14)] [])) _
    refine XS.aloadN X54.here hx rfl (hb hby d1_88) rfl rfl ?_
    show Steps p.tables e below (T54.setTop (mkF m 89 #[.val (.ref o0), .val (.int p1), .val (.int p2), .val (.ref o3), .val (.ref o4), .val (.double d5), .second, .val (.double d6), .second, .val (.double d7), .second, .val (.double d8), .second, .val (.double d9), .second, .val (.double d10), .second, .val (.double d11), .second, .val (.double d12), .second, .val (.double d13), .second, .val (.int p14)] [(.ref o0)])) _
    refine XS.dload X54.here hx rfl (hb hby d1_89) rfl ?_
    show Steps p.tables e below (T54.setTop (mkF m 91 #[.val (.ref o0), .val (.int p1), .val (.int p2), .val (.ref o3), .val (.ref o4), .val (.double d5), .second, .val (.double d6), .second, .val (.double d7), .second, .val (.double d8), .second, .val (.double d9), .second, .val (.double d10), .second, .val (.double d11), .second, .val (.double d12), .second, .val (.double d13), .second, .val (.int p14)] [(.double d13), (.ref o0)])) _
    refine st58 _ ?_
    show Steps p.tables e below (T58.setTop (mkF m 94 #[.val (.ref o0), .val (.int p1), .val (.int p2), .val (.ref o3), .val (.ref o4), .val (.double d5), .second, .val (.double d6), .second, .val (.double d7), .second, .val (.double d8), .second, .val (.double d9), .second, .val (.double d10), .second, .val (.double d11), .second, .val (.double d12), .second, .val (.double d13), .second, .val (.int p14)] [])) _
    refine XS.aloadN X58.here hx rfl (hb hby d1_94) rfl rfl ?_
    show Steps p.tables e below (T58.setTop (mkF m 95 #[.val (.ref o0), .val (.int p1), .val (.int p2), .val (.ref o3), .val (.ref o4), .val (.double d5), .second, .val (.double d6), .second, .val (.double d7), .second, .val (.double d8), .second, .val (.double d9), .second, .val (.double d10), .second, .val (.double d11), .second, .val (.double d12), .second, .val (.double d13), .second, .val (.int p14)] [(.ref o0)])) _
    refine XS.iload X58.here hx rfl (hb hby d1_95) rfl ?_
    show Steps p.tables e below (T58.setTop (mkF m 97 #[.val (.ref o0), .val (.int p1), .val (.int p2), .val (.ref o3), .val (.ref o4), .val (.double d5), .second, .val (.double d6), .second, .val (.double d7), .second, .val (.double d8), .second, .val (.double d9), .second, .val (.double d10), .second, .val (.double d11), .second, .val (.double d12), .second, .val (.double d13), .second, .val (.int p14)] [(.int p14), (.ref o0)])) _
    refine st62 _ ?_
    exact k
  obtain ⟨fs, hr, hrun, hended, -, hW, hW2, hsame⟩ := Jvm.Stand.leaveW (s := s) (vm₁ := T5.vm) X62 hS5 (by rw [e62]; exact (Nat.le_trans (Nat.le_trans (Nat.le_trans (Nat.le_trans (Nat.le_trans (Nat.le_trans (Nat.le_trans (Nat.le_trans (Nat.le_trans (Nat.le_trans (Nat.le_trans (Nat.le_trans (Nat.le_trans (Nat.le_trans hk5 (Keep.of_wr W10).1) (Keep.of_wr W14).1) (Keep.of_wr W18).1) (Keep.of_wr W22).1) (Keep.of_wr W26).1) (Keep.of_wr W30).1) (Keep.of_wr W34).1) (Keep.of_wr W38).1) (Keep.of_wr W42).1) (Keep.of_wr W46).1) (Keep.of_wr W50).1) (Keep.of_wr W54).1) (Keep.of_wr W58).1) (Keep.of_wr W62).1)) (v := none) (fun _ => rfl)
  refine ⟨_, _, c64 _ ?_, hrun, hended, _, _, rfl, ?_, ⟨_, rfl⟩, hW, hW2, hsame.mono (by decide) (by decide)⟩
  · show Steps p.tables e below (T62.setTop (mkF m 100 #[.val (.ref o0), .val (.int p1), .val (.int p2), .val (.ref o3), .val (.ref o4), .val (.double d5), .second, .val (.double d6), .second, .val (.double d7), .second, .val (.double d8), .second, .val (.double d9), .second, .val (.double d10), .second, .val (.double d11), .second, .val (.double d12), .second, .val (.double d13), .second, .val (.int p14)] [])) _
    exact X62.returnOut hx Bd.returns (hb hby d1_100) hr
  · show Q1 Z o0 p1 p2 o3 o4 d5 d6 d7 d8 d9 d10 d11 d12 d13 p14 u_contingency_o0 u_monitored_o0 u_kind_o0 u_solve_o0 u_k1_o0 u_k2_o0 u_cMw_o0 u_pmMw_o0 u_pcMw_o0 u_pmPostMw_o0 u_qmPostMvar_o0 u_vmPostPu_o0 u_loading_o0 u_published_o0  h0 n0 _ T62.heap _
    rw [e62]
    exact ⟨rfl, N62, K63, (f60.wr W62), (((((((((((((F10w.other W14 (Or.inr (slot_ne (Or.inr (hw _ (List.mem_of_getElem? (i := 35) rfl))) (Or.inr (hw _ (List.mem_of_getElem? (i := 37) rfl))) (by decide) (t := .int) (t' := .int) (by decide) (by decide)))).other W18 (Or.inr (slot_ne (Or.inr (hw _ (List.mem_of_getElem? (i := 35) rfl))) (Or.inr (hw _ (List.mem_of_getElem? (i := 39) rfl))) (by decide) (t := .int) (t' := (.object "com/example/bindwire/bindwire/model/Constraint$Kind")) (by decide) (by decide)))).other W22 (Or.inr (slot_ne (Or.inr (hw _ (List.mem_of_getElem? (i := 35) rfl))) (Or.inr (hw _ (List.mem_of_getElem? (i := 41) rfl))) (by decide) (t := .int) (t' := (.object "com/example/bindwire/bindwire/model/SolveMethod")) (by decide) (by decide)))).other W26 (Or.inr (slot_ne (Or.inr (hw _ (List.mem_of_getElem? (i := 35) rfl))) (Or.inr (hw _ (List.mem_of_getElem? (i := 43) rfl))) (by decide) (t := .int) (t' := .double) (by decide) (by decide)))).other W30 (Or.inr (slot_ne (Or.inr (hw _ (List.mem_of_getElem? (i := 35) rfl))) (Or.inr (hw _ (List.mem_of_getElem? (i := 45) rfl))) (by decide) (t := .int) (t' := .double) (by decide) (by decide)))).other W34 (Or.inr (slot_ne (Or.inr (hw _ (List.mem_of_getElem? (i := 35) rfl))) (Or.inr (hw _ (List.mem_of_getElem? (i := 47) rfl))) (by decide) (t := .int) (t' := .double) (by decide) (by decide)))).other W38 (Or.inr (slot_ne (Or.inr (hw _ (List.mem_of_getElem? (i := 35) rfl))) (Or.inr (hw _ (List.mem_of_getElem? (i := 49) rfl))) (by decide) (t := .int) (t' := .double) (by decide) (by decide)))).other W42 (Or.inr (slot_ne (Or.inr (hw _ (List.mem_of_getElem? (i := 35) rfl))) (Or.inr (hw _ (List.mem_of_getElem? (i := 51) rfl))) (by decide) (t := .int) (t' := .double) (by decide) (by decide)))).other W46 (Or.inr (slot_ne (Or.inr (hw _ (List.mem_of_getElem? (i := 35) rfl))) (Or.inr (hw _ (List.mem_of_getElem? (i := 53) rfl))) (by decide) (t := .int) (t' := .double) (by decide) (by decide)))).other W50 (Or.inr (slot_ne (Or.inr (hw _ (List.mem_of_getElem? (i := 35) rfl))) (Or.inr (hw _ (List.mem_of_getElem? (i := 55) rfl))) (by decide) (t := .int) (t' := .double) (by decide) (by decide)))).other W54 (Or.inr (slot_ne (Or.inr (hw _ (List.mem_of_getElem? (i := 35) rfl))) (Or.inr (hw _ (List.mem_of_getElem? (i := 57) rfl))) (by decide) (t := .int) (t' := .double) (by decide) (by decide)))).other W58 (Or.inr (slot_ne (Or.inr (hw _ (List.mem_of_getElem? (i := 35) rfl))) (Or.inr (hw _ (List.mem_of_getElem? (i := 59) rfl))) (by decide) (t := .int) (t' := .double) (by decide) (by decide)))).other W62 (Or.inr (slot_ne (Or.inr (hw _ (List.mem_of_getElem? (i := 35) rfl))) (Or.inr (hw _ (List.mem_of_getElem? (i := 61) rfl))) (by decide) (t := .int) (t' := .boolean) (by decide) (by decide)))), ((((((((((((F14w.other W18 (Or.inr (slot_ne (Or.inr (hw _ (List.mem_of_getElem? (i := 37) rfl))) (Or.inr (hw _ (List.mem_of_getElem? (i := 39) rfl))) (by decide) (t := .int) (t' := (.object "com/example/bindwire/bindwire/model/Constraint$Kind")) (by decide) (by decide)))).other W22 (Or.inr (slot_ne (Or.inr (hw _ (List.mem_of_getElem? (i := 37) rfl))) (Or.inr (hw _ (List.mem_of_getElem? (i := 41) rfl))) (by decide) (t := .int) (t' := (.object "com/example/bindwire/bindwire/model/SolveMethod")) (by decide) (by decide)))).other W26 (Or.inr (slot_ne (Or.inr (hw _ (List.mem_of_getElem? (i := 37) rfl))) (Or.inr (hw _ (List.mem_of_getElem? (i := 43) rfl))) (by decide) (t := .int) (t' := .double) (by decide) (by decide)))).other W30 (Or.inr (slot_ne (Or.inr (hw _ (List.mem_of_getElem? (i := 37) rfl))) (Or.inr (hw _ (List.mem_of_getElem? (i := 45) rfl))) (by decide) (t := .int) (t' := .double) (by decide) (by decide)))).other W34 (Or.inr (slot_ne (Or.inr (hw _ (List.mem_of_getElem? (i := 37) rfl))) (Or.inr (hw _ (List.mem_of_getElem? (i := 47) rfl))) (by decide) (t := .int) (t' := .double) (by decide) (by decide)))).other W38 (Or.inr (slot_ne (Or.inr (hw _ (List.mem_of_getElem? (i := 37) rfl))) (Or.inr (hw _ (List.mem_of_getElem? (i := 49) rfl))) (by decide) (t := .int) (t' := .double) (by decide) (by decide)))).other W42 (Or.inr (slot_ne (Or.inr (hw _ (List.mem_of_getElem? (i := 37) rfl))) (Or.inr (hw _ (List.mem_of_getElem? (i := 51) rfl))) (by decide) (t := .int) (t' := .double) (by decide) (by decide)))).other W46 (Or.inr (slot_ne (Or.inr (hw _ (List.mem_of_getElem? (i := 37) rfl))) (Or.inr (hw _ (List.mem_of_getElem? (i := 53) rfl))) (by decide) (t := .int) (t' := .double) (by decide) (by decide)))).other W50 (Or.inr (slot_ne (Or.inr (hw _ (List.mem_of_getElem? (i := 37) rfl))) (Or.inr (hw _ (List.mem_of_getElem? (i := 55) rfl))) (by decide) (t := .int) (t' := .double) (by decide) (by decide)))).other W54 (Or.inr (slot_ne (Or.inr (hw _ (List.mem_of_getElem? (i := 37) rfl))) (Or.inr (hw _ (List.mem_of_getElem? (i := 57) rfl))) (by decide) (t := .int) (t' := .double) (by decide) (by decide)))).other W58 (Or.inr (slot_ne (Or.inr (hw _ (List.mem_of_getElem? (i := 37) rfl))) (Or.inr (hw _ (List.mem_of_getElem? (i := 59) rfl))) (by decide) (t := .int) (t' := .double) (by decide) (by decide)))).other W62 (Or.inr (slot_ne (Or.inr (hw _ (List.mem_of_getElem? (i := 37) rfl))) (Or.inr (hw _ (List.mem_of_getElem? (i := 61) rfl))) (by decide) (t := .int) (t' := .boolean) (by decide) (by decide)))), (((((((((((F18w.other W22 (Or.inr (slot_ne (Or.inr (hw _ (List.mem_of_getElem? (i := 39) rfl))) (Or.inr (hw _ (List.mem_of_getElem? (i := 41) rfl))) (by decide) (t := (.object "com/example/bindwire/bindwire/model/Constraint$Kind")) (t' := (.object "com/example/bindwire/bindwire/model/SolveMethod")) (by decide) (by decide)))).other W26 (Or.inr (slot_ne (Or.inr (hw _ (List.mem_of_getElem? (i := 39) rfl))) (Or.inr (hw _ (List.mem_of_getElem? (i := 43) rfl))) (by decide) (t := (.object "com/example/bindwire/bindwire/model/Constraint$Kind")) (t' := .double) (by decide) (by decide)))).other W30 (Or.inr (slot_ne (Or.inr (hw _ (List.mem_of_getElem? (i := 39) rfl))) (Or.inr (hw _ (List.mem_of_getElem? (i := 45) rfl))) (by decide) (t := (.object "com/example/bindwire/bindwire/model/Constraint$Kind")) (t' := .double) (by decide) (by decide)))).other W34 (Or.inr (slot_ne (Or.inr (hw _ (List.mem_of_getElem? (i := 39) rfl))) (Or.inr (hw _ (List.mem_of_getElem? (i := 47) rfl))) (by decide) (t := (.object "com/example/bindwire/bindwire/model/Constraint$Kind")) (t' := .double) (by decide) (by decide)))).other W38 (Or.inr (slot_ne (Or.inr (hw _ (List.mem_of_getElem? (i := 39) rfl))) (Or.inr (hw _ (List.mem_of_getElem? (i := 49) rfl))) (by decide) (t := (.object "com/example/bindwire/bindwire/model/Constraint$Kind")) (t' := .double) (by decide) (by decide)))).other W42 (Or.inr (slot_ne (Or.inr (hw _ (List.mem_of_getElem? (i := 39) rfl))) (Or.inr (hw _ (List.mem_of_getElem? (i := 51) rfl))) (by decide) (t := (.object "com/example/bindwire/bindwire/model/Constraint$Kind")) (t' := .double) (by decide) (by decide)))).other W46 (Or.inr (slot_ne (Or.inr (hw _ (List.mem_of_getElem? (i := 39) rfl))) (Or.inr (hw _ (List.mem_of_getElem? (i := 53) rfl))) (by decide) (t := (.object "com/example/bindwire/bindwire/model/Constraint$Kind")) (t' := .double) (by decide) (by decide)))).other W50 (Or.inr (slot_ne (Or.inr (hw _ (List.mem_of_getElem? (i := 39) rfl))) (Or.inr (hw _ (List.mem_of_getElem? (i := 55) rfl))) (by decide) (t := (.object "com/example/bindwire/bindwire/model/Constraint$Kind")) (t' := .double) (by decide) (by decide)))).other W54 (Or.inr (slot_ne (Or.inr (hw _ (List.mem_of_getElem? (i := 39) rfl))) (Or.inr (hw _ (List.mem_of_getElem? (i := 57) rfl))) (by decide) (t := (.object "com/example/bindwire/bindwire/model/Constraint$Kind")) (t' := .double) (by decide) (by decide)))).other W58 (Or.inr (slot_ne (Or.inr (hw _ (List.mem_of_getElem? (i := 39) rfl))) (Or.inr (hw _ (List.mem_of_getElem? (i := 59) rfl))) (by decide) (t := (.object "com/example/bindwire/bindwire/model/Constraint$Kind")) (t' := .double) (by decide) (by decide)))).other W62 (Or.inr (slot_ne (Or.inr (hw _ (List.mem_of_getElem? (i := 39) rfl))) (Or.inr (hw _ (List.mem_of_getElem? (i := 61) rfl))) (by decide) (t := (.object "com/example/bindwire/bindwire/model/Constraint$Kind")) (t' := .boolean) (by decide) (by decide)))), ((((((((((F22w.other W26 (Or.inr (slot_ne (Or.inr (hw _ (List.mem_of_getElem? (i := 41) rfl))) (Or.inr (hw _ (List.mem_of_getElem? (i := 43) rfl))) (by decide) (t := (.object "com/example/bindwire/bindwire/model/SolveMethod")) (t' := .double) (by decide) (by decide)))).other W30 (Or.inr (slot_ne (Or.inr (hw _ (List.mem_of_getElem? (i := 41) rfl))) (Or.inr (hw _ (List.mem_of_getElem? (i := 45) rfl))) (by decide) (t := (.object "com/example/bindwire/bindwire/model/SolveMethod")) (t' := .double) (by decide) (by decide)))).other W34 (Or.inr (slot_ne (Or.inr (hw _ (List.mem_of_getElem? (i := 41) rfl))) (Or.inr (hw _ (List.mem_of_getElem? (i := 47) rfl))) (by decide) (t := (.object "com/example/bindwire/bindwire/model/SolveMethod")) (t' := .double) (by decide) (by decide)))).other W38 (Or.inr (slot_ne (Or.inr (hw _ (List.mem_of_getElem? (i := 41) rfl))) (Or.inr (hw _ (List.mem_of_getElem? (i := 49) rfl))) (by decide) (t := (.object "com/example/bindwire/bindwire/model/SolveMethod")) (t' := .double) (by decide) (by decide)))).other W42 (Or.inr (slot_ne (Or.inr (hw _ (List.mem_of_getElem? (i := 41) rfl))) (Or.inr (hw _ (List.mem_of_getElem? (i := 51) rfl))) (by decide) (t := (.object "com/example/bindwire/bindwire/model/SolveMethod")) (t' := .double) (by decide) (by decide)))).other W46 (Or.inr (slot_ne (Or.inr (hw _ (List.mem_of_getElem? (i := 41) rfl))) (Or.inr (hw _ (List.mem_of_getElem? (i := 53) rfl))) (by decide) (t := (.object "com/example/bindwire/bindwire/model/SolveMethod")) (t' := .double) (by decide) (by decide)))).other W50 (Or.inr (slot_ne (Or.inr (hw _ (List.mem_of_getElem? (i := 41) rfl))) (Or.inr (hw _ (List.mem_of_getElem? (i := 55) rfl))) (by decide) (t := (.object "com/example/bindwire/bindwire/model/SolveMethod")) (t' := .double) (by decide) (by decide)))).other W54 (Or.inr (slot_ne (Or.inr (hw _ (List.mem_of_getElem? (i := 41) rfl))) (Or.inr (hw _ (List.mem_of_getElem? (i := 57) rfl))) (by decide) (t := (.object "com/example/bindwire/bindwire/model/SolveMethod")) (t' := .double) (by decide) (by decide)))).other W58 (Or.inr (slot_ne (Or.inr (hw _ (List.mem_of_getElem? (i := 41) rfl))) (Or.inr (hw _ (List.mem_of_getElem? (i := 59) rfl))) (by decide) (t := (.object "com/example/bindwire/bindwire/model/SolveMethod")) (t' := .double) (by decide) (by decide)))).other W62 (Or.inr (slot_ne (Or.inr (hw _ (List.mem_of_getElem? (i := 41) rfl))) (Or.inr (hw _ (List.mem_of_getElem? (i := 61) rfl))) (by decide) (t := (.object "com/example/bindwire/bindwire/model/SolveMethod")) (t' := .boolean) (by decide) (by decide)))), (((((((((F26w.other W30 (Or.inr (slot_ne (Or.inr (hw _ (List.mem_of_getElem? (i := 43) rfl))) (Or.inr (hw _ (List.mem_of_getElem? (i := 45) rfl))) (by decide) (t := .double) (t' := .double) (by decide) (by decide)))).other W34 (Or.inr (slot_ne (Or.inr (hw _ (List.mem_of_getElem? (i := 43) rfl))) (Or.inr (hw _ (List.mem_of_getElem? (i := 47) rfl))) (by decide) (t := .double) (t' := .double) (by decide) (by decide)))).other W38 (Or.inr (slot_ne (Or.inr (hw _ (List.mem_of_getElem? (i := 43) rfl))) (Or.inr (hw _ (List.mem_of_getElem? (i := 49) rfl))) (by decide) (t := .double) (t' := .double) (by decide) (by decide)))).other W42 (Or.inr (slot_ne (Or.inr (hw _ (List.mem_of_getElem? (i := 43) rfl))) (Or.inr (hw _ (List.mem_of_getElem? (i := 51) rfl))) (by decide) (t := .double) (t' := .double) (by decide) (by decide)))).other W46 (Or.inr (slot_ne (Or.inr (hw _ (List.mem_of_getElem? (i := 43) rfl))) (Or.inr (hw _ (List.mem_of_getElem? (i := 53) rfl))) (by decide) (t := .double) (t' := .double) (by decide) (by decide)))).other W50 (Or.inr (slot_ne (Or.inr (hw _ (List.mem_of_getElem? (i := 43) rfl))) (Or.inr (hw _ (List.mem_of_getElem? (i := 55) rfl))) (by decide) (t := .double) (t' := .double) (by decide) (by decide)))).other W54 (Or.inr (slot_ne (Or.inr (hw _ (List.mem_of_getElem? (i := 43) rfl))) (Or.inr (hw _ (List.mem_of_getElem? (i := 57) rfl))) (by decide) (t := .double) (t' := .double) (by decide) (by decide)))).other W58 (Or.inr (slot_ne (Or.inr (hw _ (List.mem_of_getElem? (i := 43) rfl))) (Or.inr (hw _ (List.mem_of_getElem? (i := 59) rfl))) (by decide) (t := .double) (t' := .double) (by decide) (by decide)))).other W62 (Or.inr (slot_ne (Or.inr (hw _ (List.mem_of_getElem? (i := 43) rfl))) (Or.inr (hw _ (List.mem_of_getElem? (i := 61) rfl))) (by decide) (t := .double) (t' := .boolean) (by decide) (by decide)))), ((((((((F30w.other W34 (Or.inr (slot_ne (Or.inr (hw _ (List.mem_of_getElem? (i := 45) rfl))) (Or.inr (hw _ (List.mem_of_getElem? (i := 47) rfl))) (by decide) (t := .double) (t' := .double) (by decide) (by decide)))).other W38 (Or.inr (slot_ne (Or.inr (hw _ (List.mem_of_getElem? (i := 45) rfl))) (Or.inr (hw _ (List.mem_of_getElem? (i := 49) rfl))) (by decide) (t := .double) (t' := .double) (by decide) (by decide)))).other W42 (Or.inr (slot_ne (Or.inr (hw _ (List.mem_of_getElem? (i := 45) rfl))) (Or.inr (hw _ (List.mem_of_getElem? (i := 51) rfl))) (by decide) (t := .double) (t' := .double) (by decide) (by decide)))).other W46 (Or.inr (slot_ne (Or.inr (hw _ (List.mem_of_getElem? (i := 45) rfl))) (Or.inr (hw _ (List.mem_of_getElem? (i := 53) rfl))) (by decide) (t := .double) (t' := .double) (by decide) (by decide)))).other W50 (Or.inr (slot_ne (Or.inr (hw _ (List.mem_of_getElem? (i := 45) rfl))) (Or.inr (hw _ (List.mem_of_getElem? (i := 55) rfl))) (by decide) (t := .double) (t' := .double) (by decide) (by decide)))).other W54 (Or.inr (slot_ne (Or.inr (hw _ (List.mem_of_getElem? (i := 45) rfl))) (Or.inr (hw _ (List.mem_of_getElem? (i := 57) rfl))) (by decide) (t := .double) (t' := .double) (by decide) (by decide)))).other W58 (Or.inr (slot_ne (Or.inr (hw _ (List.mem_of_getElem? (i := 45) rfl))) (Or.inr (hw _ (List.mem_of_getElem? (i := 59) rfl))) (by decide) (t := .double) (t' := .double) (by decide) (by decide)))).other W62 (Or.inr (slot_ne (Or.inr (hw _ (List.mem_of_getElem? (i := 45) rfl))) (Or.inr (hw _ (List.mem_of_getElem? (i := 61) rfl))) (by decide) (t := .double) (t' := .boolean) (by decide) (by decide)))), (((((((F34w.other W38 (Or.inr (slot_ne (Or.inr (hw _ (List.mem_of_getElem? (i := 47) rfl))) (Or.inr (hw _ (List.mem_of_getElem? (i := 49) rfl))) (by decide) (t := .double) (t' := .double) (by decide) (by decide)))).other W42 (Or.inr (slot_ne (Or.inr (hw _ (List.mem_of_getElem? (i := 47) rfl))) (Or.inr (hw _ (List.mem_of_getElem? (i := 51) rfl))) (by decide) (t := .double) (t' := .double) (by decide) (by decide)))).other W46 (Or.inr (slot_ne (Or.inr (hw _ (List.mem_of_getElem? (i := 47) rfl))) (Or.inr (hw _ (List.mem_of_getElem? (i := 53) rfl))) (by decide) (t := .double) (t' := .double) (by decide) (by decide)))).other W50 (Or.inr (slot_ne (Or.inr (hw _ (List.mem_of_getElem? (i := 47) rfl))) (Or.inr (hw _ (List.mem_of_getElem? (i := 55) rfl))) (by decide) (t := .double) (t' := .double) (by decide) (by decide)))).other W54 (Or.inr (slot_ne (Or.inr (hw _ (List.mem_of_getElem? (i := 47) rfl))) (Or.inr (hw _ (List.mem_of_getElem? (i := 57) rfl))) (by decide) (t := .double) (t' := .double) (by decide) (by decide)))).other W58 (Or.inr (slot_ne (Or.inr (hw _ (List.mem_of_getElem? (i := 47) rfl))) (Or.inr (hw _ (List.mem_of_getElem? (i := 59) rfl))) (by decide) (t := .double) (t' := .double) (by decide) (by decide)))).other W62 (Or.inr (slot_ne (Or.inr (hw _ (List.mem_of_getElem? (i := 47) rfl))) (Or.inr (hw _ (List.mem_of_getElem? (i := 61) rfl))) (by decide) (t := .double) (t' := .boolean) (by decide) (by decide)))), ((((((F38w.other W42 (Or.inr (slot_ne (Or.inr (hw _ (List.mem_of_getElem? (i := 49) rfl))) (Or.inr (hw _ (List.mem_of_getElem? (i := 51) rfl))) (by decide) (t := .double) (t' := .double) (by decide) (by decide)))).other W46 (Or.inr (slot_ne (Or.inr (hw _ (List.mem_of_getElem? (i := 49) rfl))) (Or.inr (hw _ (List.mem_of_getElem? (i := 53) rfl))) (by decide) (t := .double) (t' := .double) (by decide) (by decide)))).other W50 (Or.inr (slot_ne (Or.inr (hw _ (List.mem_of_getElem? (i := 49) rfl))) (Or.inr (hw _ (List.mem_of_getElem? (i := 55) rfl))) (by decide) (t := .double) (t' := .double) (by decide) (by decide)))).other W54 (Or.inr (slot_ne (Or.inr (hw _ (List.mem_of_getElem? (i := 49) rfl))) (Or.inr (hw _ (List.mem_of_getElem? (i := 57) rfl))) (by decide) (t := .double) (t' := .double) (by decide) (by decide)))).other W58 (Or.inr (slot_ne (Or.inr (hw _ (List.mem_of_getElem? (i := 49) rfl))) (Or.inr (hw _ (List.mem_of_getElem? (i := 59) rfl))) (by decide) (t := .double) (t' := .double) (by decide) (by decide)))).other W62 (Or.inr (slot_ne (Or.inr (hw _ (List.mem_of_getElem? (i := 49) rfl))) (Or.inr (hw _ (List.mem_of_getElem? (i := 61) rfl))) (by decide) (t := .double) (t' := .boolean) (by decide) (by decide)))), (((((F42w.other W46 (Or.inr (slot_ne (Or.inr (hw _ (List.mem_of_getElem? (i := 51) rfl))) (Or.inr (hw _ (List.mem_of_getElem? (i := 53) rfl))) (by decide) (t := .double) (t' := .double) (by decide) (by decide)))).other W50 (Or.inr (slot_ne (Or.inr (hw _ (List.mem_of_getElem? (i := 51) rfl))) (Or.inr (hw _ (List.mem_of_getElem? (i := 55) rfl))) (by decide) (t := .double) (t' := .double) (by decide) (by decide)))).other W54 (Or.inr (slot_ne (Or.inr (hw _ (List.mem_of_getElem? (i := 51) rfl))) (Or.inr (hw _ (List.mem_of_getElem? (i := 57) rfl))) (by decide) (t := .double) (t' := .double) (by decide) (by decide)))).other W58 (Or.inr (slot_ne (Or.inr (hw _ (List.mem_of_getElem? (i := 51) rfl))) (Or.inr (hw _ (List.mem_of_getElem? (i := 59) rfl))) (by decide) (t := .double) (t' := .double) (by decide) (by decide)))).other W62 (Or.inr (slot_ne (Or.inr (hw _ (List.mem_of_getElem? (i := 51) rfl))) (Or.inr (hw _ (List.mem_of_getElem? (i := 61) rfl))) (by decide) (t := .double) (t' := .boolean) (by decide) (by decide)))), ((((F46w.other W50 (Or.inr (slot_ne (Or.inr (hw _ (List.mem_of_getElem? (i := 53) rfl))) (Or.inr (hw _ (List.mem_of_getElem? (i := 55) rfl))) (by decide) (t := .double) (t' := .double) (by decide) (by decide)))).other W54 (Or.inr (slot_ne (Or.inr (hw _ (List.mem_of_getElem? (i := 53) rfl))) (Or.inr (hw _ (List.mem_of_getElem? (i := 57) rfl))) (by decide) (t := .double) (t' := .double) (by decide) (by decide)))).other W58 (Or.inr (slot_ne (Or.inr (hw _ (List.mem_of_getElem? (i := 53) rfl))) (Or.inr (hw _ (List.mem_of_getElem? (i := 59) rfl))) (by decide) (t := .double) (t' := .double) (by decide) (by decide)))).other W62 (Or.inr (slot_ne (Or.inr (hw _ (List.mem_of_getElem? (i := 53) rfl))) (Or.inr (hw _ (List.mem_of_getElem? (i := 61) rfl))) (by decide) (t := .double) (t' := .boolean) (by decide) (by decide)))), (((F50w.other W54 (Or.inr (slot_ne (Or.inr (hw _ (List.mem_of_getElem? (i := 55) rfl))) (Or.inr (hw _ (List.mem_of_getElem? (i := 57) rfl))) (by decide) (t := .double) (t' := .double) (by decide) (by decide)))).other W58 (Or.inr (slot_ne (Or.inr (hw _ (List.mem_of_getElem? (i := 55) rfl))) (Or.inr (hw _ (List.mem_of_getElem? (i := 59) rfl))) (by decide) (t := .double) (t' := .double) (by decide) (by decide)))).other W62 (Or.inr (slot_ne (Or.inr (hw _ (List.mem_of_getElem? (i := 55) rfl))) (Or.inr (hw _ (List.mem_of_getElem? (i := 61) rfl))) (by decide) (t := .double) (t' := .boolean) (by decide) (by decide)))), ((F54w.other W58 (Or.inr (slot_ne (Or.inr (hw _ (List.mem_of_getElem? (i := 57) rfl))) (Or.inr (hw _ (List.mem_of_getElem? (i := 59) rfl))) (by decide) (t := .double) (t' := .double) (by decide) (by decide)))).other W62 (Or.inr (slot_ne (Or.inr (hw _ (List.mem_of_getElem? (i := 57) rfl))) (Or.inr (hw _ (List.mem_of_getElem? (i := 61) rfl))) (by decide) (t := .double) (t' := .boolean) (by decide) (by decide)))), (F58w.other W62 (Or.inr (slot_ne (Or.inr (hw _ (List.mem_of_getElem? (i := 59) rfl))) (Or.inr (hw _ (List.mem_of_getElem? (i := 61) rfl))) (by decide) (t := .double) (t' := .boolean) (by decide) (by decide)))), F62w⟩
def Q5 (Z : State) (o0 : Addr) (w_k1_o0 : UInt64) (w_k2_o0 : UInt64) (w_cMw_o0 : UInt64) (w_pmMw_o0 : UInt64) (w_pcMw_o0 : UInt64) (w_pmPostMw_o0 : UInt64) (w_qmPostMvar_o0 : UInt64) (w_vmPostPu_o0 : UInt64) (w_loading_o0 : UInt64)  (h0 : Heap) (n0 : Nat) (v : Option Value) (h : Heap) (L : List Loc) : Prop := ∃ b1 : Addr, ∃ k1 : ClassId, v = some (.ref b1) ∧ Fr n0 L ∧ h0.size ≤ b1 ∧ Keep h0 h [] ∧ Arv Z h b1 k1 .double (9 : Int32) [(.double w_k1_o0), (.double w_k2_o0), (.double w_cMw_o0), (.double w_pmMw_o0), (.double w_pcMw_o0), (.double w_pmPostMw_o0), (.double w_qmPostMvar_o0), (.double w_vmPostPu_o0), (.double w_loading_o0)] (.double (0 : UInt64))
set_option maxRecDepth 65536 in
set_option maxHeartbeats 40000000 in
theorem rm5 (l : Launch) (Z : State) (a0 : Array Value) (hw : ∀ d ∈ tables_1, d.before a0 Z = true) (ws : List Jvm.Cond) (o0 : Addr) (w_k1_o0 : UInt64) (w_k2_o0 : UInt64) (w_cMw_o0 : UInt64) (w_pmMw_o0 : UInt64) (w_pcMw_o0 : UInt64) (w_pmPostMw_o0 : UInt64) (w_qmPostMvar_o0 : UInt64) (w_vmPostPu_o0 : UInt64) (w_loading_o0 : UInt64)  (h0 : Heap) (n0 : Nat) (Z0 : n0 ≤ h0.size) (F_k1_o0 : Fld Z h0 o0 "com/example/bindwire/bindwire/model/Constraint" "k1" "D" (.double w_k1_o0)) (F_k2_o0 : Fld Z h0 o0 "com/example/bindwire/bindwire/model/Constraint" "k2" "D" (.double w_k2_o0)) (F_cMw_o0 : Fld Z h0 o0 "com/example/bindwire/bindwire/model/Constraint" "cMw" "D" (.double w_cMw_o0)) (F_pmMw_o0 : Fld Z h0 o0 "com/example/bindwire/bindwire/model/Constraint" "pmMw" "D" (.double w_pmMw_o0)) (F_pcMw_o0 : Fld Z h0 o0 "com/example/bindwire/bindwire/model/Constraint" "pcMw" "D" (.double w_pcMw_o0)) (F_pmPostMw_o0 : Fld Z h0 o0 "com/example/bindwire/bindwire/model/Constraint" "pmPostMw" "D" (.double w_pmPostMw_o0)) (F_qmPostMvar_o0 : Fld Z h0 o0 "com/example/bindwire/bindwire/model/Constraint" "qmPostMvar" "D" (.double w_qmPostMvar_o0)) (F_vmPostPu_o0 : Fld Z h0 o0 "com/example/bindwire/bindwire/model/Constraint" "vmPostPu" "D" (.double w_vmPostPu_o0)) (F_loading_o0 : Fld Z h0 o0 "com/example/bindwire/bindwire/model/Constraint" "loading" "D" (.double w_loading_o0)) :
    MetFree l (⟨"com/example/bindwire/bindwire/model/Constraint", "numbers", "()[D"⟩ : MethodName) (head1 (Jvm.Cond.code (⟨"com/example/bindwire/bindwire/model/Constraint", "numbers", "()[D"⟩ : MethodName) prog_36_method_2_code 1 (some (.array .double)) :: ws) ({ frames := 0, cells := 1, slots := 9, locals := 0 } : Room)) (fun a U => a = #[(.ref o0)] ∧ Z.Warmed39 U.vm ∧ U.heap = h0) (fun _ _ _ _ _ => True) (fun _ U o U' => ∃ v L, o = .returned v ∧ Q5 Z o0 w_k1_o0 w_k2_o0 w_cMw_o0 w_pmMw_o0 w_pcMw_o0 w_pmPostMw_o0 w_qmPostMvar_o0 w_vmPostPu_o0 w_loading_o0  h0 n0 v U'.heap L ∧ FrameEnd U o U' L ({ frames := 0, cells := 1, slots := 9, locals := 0 } : Room).cells ({ frames := 0, cells := 1, slots := 9, locals := 0 } : Room).slots) := by
  refine MetFree.of_bodySF (plainFor_of_name pn_2) hisR ?_
  intro p e s m args below meth c s₁ Bd hml0 hP hK
  obtain ⟨rfl, hZ, hh⟩ := hP
  have hx := Bd.exec
  have hby := Bd.bytes
  have hml : c.maxLocals = 1 := hml0
  have hown : s.vm.findClass "com/example/bindwire/bindwire/model/Constraint" = some m.cls := findClass_of_methodNamed Bd.named
  have hnm := (name_of_methodNamed Bd.named Bd.method).1
  have X0 : Stand p l e ({ frames := 0, cells := 1, slots := 9, locals := 0 } : Room) s m #[(.ref o0)] below meth c s₁ [] 0 0 := Stand.of_body Bd
  have e0 : s₁.heap = h0 := by rw [← hh, Bd.state]; rfl
  have N0 := Fr.nil n0
  have c0 : ∀ t, Steps p.tables e below (s₁.setTop (mkF m 0 #[.val (.ref o0)] [])) t → Steps p.tables e below (s₁.setTop (entryFrame m #[(.ref o0)] 1)) t := fun t k => castTop (ef_rm5 m o0) k
  obtain ⟨T1, h1, k1, X1, e1, E1, A1, st1⟩ := newP X0 hx hZ (hw _ (List.mem_of_getElem? (i := 67) rfl)) e0 (g := (mkF m 2 #[.val (.ref o0)] [(.int (9 : Int32))])) rfl (hb hby d5_2) rfl (by decide) (cap := 9) (by decide) (by decide) (by decide) (by decide)
  obtain ⟨b1, g1⟩ : ∃ z, z = h0.size := ⟨_, rfl⟩
  rw [← g1] at A1 st1
  have gn1 : n0 ≤ b1 := Nat.le_trans Z0 (Nat.le_of_eq g1.symm)
  have gz1 : h0.size ≤ b1 := Nat.le_trans ((Keep.refl h0 [])).1 (Nat.le_of_eq g1.symm)
  have K2 : Keep h0 h1 [] := (Keep.refl h0 []).ext E1
  have V1 : Arv Z h1 b1 k1 .double (9 : Int32) [(.double (0 : UInt64)), (.double (0 : UInt64)), (.double (0 : UInt64)), (.double (0 : UInt64)), (.double (0 : UInt64)), (.double (0 : UInt64)), (.double (0 : UInt64)), (.double (0 : UInt64)), (.double (0 : UInt64))] (.double (0 : UInt64)) := (Arv.new A1 (by decide)).pad (pad_rep [] (.double (0 : UInt64)) 9)
  have f3 := (F_k1_o0.ext E1)
  obtain ⟨T4, X4, e4, st4⟩ := getF X1 hx hZ hown (host := "") (Or.inl (hw _ (List.mem_of_getElem? (i := 42) rfl))) Via.refl e1 f3 (g := (mkF m 7 #[.val (.ref o0)] [(.ref o0), (.int (0 : Int32)), (.ref b1), (.ref b1)])) rfl rfl (hb hby d5_7)
  obtain ⟨cl5, Ar5, q5, S5, Nn5, Ha5, G5⟩ := id V1
  have in5 : ¬ ((0 : Int32) < 0 ∨ cl5.slots.size ≤ ((0 : Int32)).toNatClampNeg) := inb_of S5 ⟨by decide, by decide⟩
  obtain ⟨T6, h6, X6, e6, W6, st6⟩ := stD X4 hx hZ e4 Ar5 (j := (0 : Int32)) in5 (g := (mkF m 10 #[.val (.ref o0)] [(.double w_k1_o0), (.int (0 : Int32)), (.ref b1), (.ref b1)])) rfl rfl (hb hby d5_10)
  have N6 := Fr.snoc X6 N0 gn1
  have K7 : Keep h0 h6 [] := K2.wr W6 (Or.inr gz1)
  have V6 : Arv Z h6 b1 k1 .double (9 : Int32) [(.double w_k1_o0), (.double (0 : UInt64)), (.double (0 : UInt64)), (.double (0 : UInt64)), (.double (0 : UInt64)), (.double (0 : UInt64)), (.double (0 : UInt64)), (.double (0 : UInt64)), (.double (0 : UInt64))] (.double (0 : UInt64)) := Arv.set Ar5 q5 S5 Nn5 Ha5 G5 rfl W6 0 rfl (show (0 : Nat) < 9 by decide)
  have f8 := ((F_k2_o0.ext E1).other W6 (Or.inl (Nat.ne_of_lt (Nat.lt_of_lt_of_le (F_k2_o0).lt (Nat.le_of_eq g1.symm)))))
  obtain ⟨T9, X9, e9, st9⟩ := getF X6 hx hZ hown (host := "") (Or.inl (hw _ (List.mem_of_getElem? (i := 44) rfl))) Via.refl e6 f8 (g := (mkF m 14 #[.val (.ref o0)] [(.ref o0), (.int (1 : Int32)), (.ref b1), (.ref b1)])) rfl rfl (hb hby d5_14)
  obtain ⟨cl10, Ar10, q10, S10, Nn10, Ha10, G10⟩ := id V6
  have in10 : ¬ ((1 : Int32) < 0 ∨ cl10.slots.size ≤ ((1 : Int32)).toNatClampNeg) := inb_of S10 ⟨by decide, by decide⟩
  obtain ⟨T11, h11, X11, e11, W11, st11⟩ := stD X9 hx hZ e9 Ar10 (j := (1 : Int32)) in10 (g := (mkF m 17 #[.val (.ref o0)] [(.double w_k2_o0), (.int (1 : Int32)), (.ref b1), (.ref b1)])) rfl rfl (hb hby d5_17)
  have N11 := Fr.snoc X11 N6 gn1
  have K12 : Keep h0 h11 [] := K7.wr W11 (Or.inr gz1)
  have V11 : Arv Z h11 b1 k1 .double (9 : Int32) [(.double w_k1_o0), (.double w_k2_o0), (.double (0 : UInt64)), (.double (0 : UInt64)), (.double (0 : UInt64)), (.double (0 : UInt64)), (.double (0 : UInt64)), (.double (0 : UInt64)), (.double (0 : UInt64))] (.double (0 : UInt64)) := Arv.set Ar10 q10 S10 Nn10 Ha10 G10 rfl W11 1 rfl (show (1 : Nat) < 9 by decide)
  have f13 := (((F_cMw_o0.ext E1).other W6 (Or.inl (Nat.ne_of_lt (Nat.lt_of_lt_of_le (F_cMw_o0).lt (Nat.le_of_eq g1.symm))))).other W11 (Or.inl (Nat.ne_of_lt (Nat.lt_of_lt_of_le (F_cMw_o0).lt (Nat.le_of_eq g1.symm)))))
  obtain ⟨T14, X14, e14, st14⟩ := getF X11 hx hZ hown (host := "") (Or.inl (hw _ (List.mem_of_getElem? (i := 46) rfl))) Via.refl e11 f13 (g := (mkF m 21 #[.val (.ref o0)] [(.ref o0), (.int (2 : Int32)), (.ref b1), (.ref b1)])) rfl rfl (hb hby d5_21)
  obtain ⟨cl15, Ar15, q15, S15, Nn15, Ha15, G15⟩ := id V11
  have in15 : ¬ ((2 : Int32) < 0 ∨ cl15.slots.size ≤ ((2 : Int32)).toNatClampNeg) := inb_of S15 ⟨by decide, by decide⟩
  obtain ⟨T16, h16, X16, e16, W16, st16⟩ := stD X14 hx hZ e14 Ar15 (j := (2 : Int32)) in15 (g := (mkF m 24 #[.val (.ref o0)] [(.double w_cMw_o0), (.int (2 : Int32)), (.ref b1), (.ref b1)])) rfl rfl (hb hby d5_24)
  have N16 := Fr.snoc X16 N11 gn1
  have K17 : Keep h0 h16 [] := K12.wr W16 (Or.inr gz1)
  have V16 : Arv Z h16 b1 k1 .double (9 : Int32) [(.double w_k1_o0), (.double w_k2_o0), (.double w_cMw_o0), (.double (0 : UInt64)), (.double (0 : UInt64)), (.double (0 : UInt64)), (.double (0 : UInt64)), (.double (0 : UInt64)), (.double (0 : UInt64))] (.double (0 : UInt64)) := Arv.set Ar15 q15 S15 Nn15 Ha15 G15 rfl W16 2 rfl (show (2 : Nat) < 9 by decide)
  have f18 := ((((F_pmMw_o0.ext E1).other W6 (Or.inl (Nat.ne_of_lt (Nat.lt_of_lt_of_le (F_pmMw_o0).lt (Nat.le_of_eq g1.symm))))).other W11 (Or.inl (Nat.ne_of_lt (Nat.lt_of_lt_of_le (F_pmMw_o0).lt (Nat.le_of_eq g1.symm))))).other W16 (Or.inl (Nat.ne_of_lt (Nat.lt_of_lt_of_le (F_pmMw_o0).lt (Nat.le_of_eq g1.symm)))))
  obtain ⟨T19, X19, e19, st19⟩ := getF X16 hx hZ hown (host := "") (Or.inl (hw _ (List.mem_of_getElem? (i := 48) rfl))) Via.refl e16 f18 (g := (mkF m 28 #[.val (.ref o0)] [(.ref o0), (.int (3 : Int32)), (.ref b1), (.ref b1)])) rfl rfl (hb hby d5_28)
  obtain ⟨cl20, Ar20, q20, S20, Nn20, Ha20, G20⟩ := id V16
  have in20 : ¬ ((3 : Int32) < 0 ∨ cl20.slots.size ≤ ((3 : Int32)).toNatClampNeg) := inb_of S20 ⟨by decide, by decide⟩
  obtain ⟨T21, h21, X21, e21, W21, st21⟩ := stD X19 hx hZ e19 Ar20 (j := (3 : Int32)) in20 (g := (mkF m 31 #[.val (.ref o0)] [(.double w_pmMw_o0), (.int (3 : Int32)), (.ref b1), (.ref b1)])) rfl rfl (hb hby d5_31)
  have N21 := Fr.snoc X21 N16 gn1
  have K22 : Keep h0 h21 [] := K17.wr W21 (Or.inr gz1)
  have V21 : Arv Z h21 b1 k1 .double (9 : Int32) [(.double w_k1_o0), (.double w_k2_o0), (.double w_cMw_o0), (.double w_pmMw_o0), (.double (0 : UInt64)), (.double (0 : UInt64)), (.double (0 : UInt64)), (.double (0 : UInt64)), (.double (0 : UInt64))] (.double (0 : UInt64)) := Arv.set Ar20 q20 S20 Nn20 Ha20 G20 rfl W21 3 rfl (show (3 : Nat) < 9 by decide)
  have f23 := (((((F_pcMw_o0.ext E1).other W6 (Or.inl (Nat.ne_of_lt (Nat.lt_of_lt_of_le (F_pcMw_o0).lt (Nat.le_of_eq g1.symm))))).other W11 (Or.inl (Nat.ne_of_lt (Nat.lt_of_lt_of_le (F_pcMw_o0).lt (Nat.le_of_eq g1.symm))))).other W16 (Or.inl (Nat.ne_of_lt (Nat.lt_of_lt_of_le (F_pcMw_o0).lt (Nat.le_of_eq g1.symm))))).other W21 (Or.inl (Nat.ne_of_lt (Nat.lt_of_lt_of_le (F_pcMw_o0).lt (Nat.le_of_eq g1.symm)))))
  obtain ⟨T24, X24, e24, st24⟩ := getF X21 hx hZ hown (host := "") (Or.inl (hw _ (List.mem_of_getElem? (i := 50) rfl))) Via.refl e21 f23 (g := (mkF m 35 #[.val (.ref o0)] [(.ref o0), (.int (4 : Int32)), (.ref b1), (.ref b1)])) rfl rfl (hb hby d5_35)
  obtain ⟨cl25, Ar25, q25, S25, Nn25, Ha25, G25⟩ := id V21
  have in25 : ¬ ((4 : Int32) < 0 ∨ cl25.slots.size ≤ ((4 : Int32)).toNatClampNeg) := inb_of S25 ⟨by decide, by decide⟩
  obtain ⟨T26, h26, X26, e26, W26, st26⟩ := stD X24 hx hZ e24 Ar25 (j := (4 : Int32)) in25 (g := (mkF m 38 #[.val (.ref o0)] [(.double w_pcMw_o0), (.int (4 : Int32)), (.ref b1), (.ref b1)])) rfl rfl (hb hby d5_38)
  have N26 := Fr.snoc X26 N21 gn1
  have K27 : Keep h0 h26 [] := K22.wr W26 (Or.inr gz1)
  have V26 : Arv Z h26 b1 k1 .double (9 : Int32) [(.double w_k1_o0), (.double w_k2_o0), (.double w_cMw_o0), (.double w_pmMw_o0), (.double w_pcMw_o0), (.double (0 : UInt64)), (.double (0 : UInt64)), (.double (0 : UInt64)), (.double (0 : UInt64))] (.double (0 : UInt64)) := Arv.set Ar25 q25 S25 Nn25 Ha25 G25 rfl W26 4 rfl (show (4 : Nat) < 9 by decide)
  have f28 := ((((((F_pmPostMw_o0.ext E1).other W6 (Or.inl (Nat.ne_of_lt (Nat.lt_of_lt_of_le (F_pmPostMw_o0).lt (Nat.le_of_eq g1.symm))))).other W11 (Or.inl (Nat.ne_of_lt (Nat.lt_of_lt_of_le (F_pmPostMw_o0).lt (Nat.le_of_eq g1.symm))))).other W16 (Or.inl (Nat.ne_of_lt (Nat.lt_of_lt_of_le (F_pmPostMw_o0).lt (Nat.le_of_eq g1.symm))))).other W21 (Or.inl (Nat.ne_of_lt (Nat.lt_of_lt_of_le (F_pmPostMw_o0).lt (Nat.le_of_eq g1.symm))))).other W26 (Or.inl (Nat.ne_of_lt (Nat.lt_of_lt_of_le (F_pmPostMw_o0).lt (Nat.le_of_eq g1.symm)))))
  obtain ⟨T29, X29, e29, st29⟩ := getF X26 hx hZ hown (host := "") (Or.inl (hw _ (List.mem_of_getElem? (i := 52) rfl))) Via.refl e26 f28 (g := (mkF m 42 #[.val (.ref o0)] [(.ref o0), (.int (5 : Int32)), (.ref b1), (.ref b1)])) rfl rfl (hb hby d5_42)
  obtain ⟨cl30, Ar30, q30, S30, Nn30, Ha30, G30⟩ := id V26
  have in30 : ¬ ((5 : Int32) < 0 ∨ cl30.slots.size ≤ ((5 : Int32)).toNatClampNeg) := inb_of S30 ⟨by decide, by decide⟩
  obtain ⟨T31, h31, X31, e31, W31, st31⟩ := stD X29 hx hZ e29 Ar30 (j := (5 : Int32)) in30 (g := (mkF m 45 #[.val (.ref o0)] [(.double w_pmPostMw_o0), (.int (5 : Int32)), (.ref b1), (.ref b1)])) rfl rfl (hb hby d5_45)
  have N31 := Fr.snoc X31 N26 gn1
  have K32 : Keep h0 h31 [] := K27.wr W31 (Or.inr gz1)
  have V31 : Arv Z h31 b1 k1 .double (9 : Int32) [(.double w_k1_o0), (.double w_k2_o0), (.double w_cMw_o0), (.double w_pmMw_o0), (.double w_pcMw_o0), (.double w_pmPostMw_o0), (.double (0 : UInt64)), (.double (0 : UInt64)), (.double (0 : UInt64))] (.double (0 : UInt64)) := Arv.set Ar30 q30 S30 Nn30 Ha30 G30 rfl W31 5 rfl (show (5 : Nat) < 9 by decide)
  have f33 := (((((((F_qmPostMvar_o0.ext E1).other W6 (Or.inl (Nat.ne_of_lt (Nat.lt_of_lt_of_le (F_qmPostMvar_o0).lt (Nat.le_of_eq g1.symm))))).other W11 (Or.inl (Nat.ne_of_lt (Nat.lt_of_lt_of_le (F_qmPostMvar_o0).lt (Nat.le_of_eq g1.symm))))).other W16 (Or.inl (Nat.ne_of_lt (Nat.lt_of_lt_of_le (F_qmPostMvar_o0).lt (Nat.le_of_eq g1.symm))))).other W21 (Or.inl (Nat.ne_of_lt (Nat.lt_of_lt_of_le (F_qmPostMvar_o0).lt (Nat.le_of_eq g1.symm))))).other W26 (Or.inl (Nat.ne_of_lt (Nat.lt_of_lt_of_le (F_qmPostMvar_o0).lt (Nat.le_of_eq g1.symm))))).other W31 (Or.inl (Nat.ne_of_lt (Nat.lt_of_lt_of_le (F_qmPostMvar_o0).lt (Nat.le_of_eq g1.symm)))))
  obtain ⟨T34, X34, e34, st34⟩ := getF X31 hx hZ hown (host := "") (Or.inl (hw _ (List.mem_of_getElem? (i := 54) rfl))) Via.refl e31 f33 (g := (mkF m 50 #[.val (.ref o0)] [(.ref o0), (.int (6 : Int32)), (.ref b1), (.ref b1)])) rfl rfl (hb hby d5_50)
  obtain ⟨cl35, Ar35, q35, S35, Nn35, Ha35, G35⟩ := id V31
  have in35 : ¬ ((6 : Int32) < 0 ∨ cl35.slots.size ≤ ((6 : Int32)).toNatClampNeg) := inb_of S35 ⟨by decide, by decide⟩
  obtain ⟨T36, h36, X36, e36, W36, st36⟩ := stD X34 hx hZ e34 Ar35 (j := (6 : Int32)) in35 (g := (mkF m 53 #[.val (.ref o0)] [(.double w_qmPostMvar_o0), (.int (6 : Int32)), (.ref b1), (.ref b1)])) rfl rfl (hb hby d5_53)
  have N36 := Fr.snoc X36 N31 gn1
  have K37 : Keep h0 h36 [] := K32.wr W36 (Or.inr gz1)
  have V36 : Arv Z h36 b1 k1 .double (9 : Int32) [(.double w_k1_o0), (.double w_k2_o0), (.double w_cMw_o0), (.double w_pmMw_o0), (.double w_pcMw_o0), (.double w_pmPostMw_o0), (.double w_qmPostMvar_o0), (.double (0 : UInt64)), (.double (0 : UInt64))] (.double (0 : UInt64)) := Arv.set Ar35 q35 S35 Nn35 Ha35 G35 rfl W36 6 rfl (show (6 : Nat) < 9 by decide)
  have f38 := ((((((((F_vmPostPu_o0.ext E1).other W6 (Or.inl (Nat.ne_of_lt (Nat.lt_of_lt_of_le (F_vmPostPu_o0).lt (Nat.le_of_eq g1.symm))))).other W11 (Or.inl (Nat.ne_of_lt (Nat.lt_of_lt_of_le (F_vmPostPu_o0).lt (Nat.le_of_eq g1.symm))))).other W16 (Or.inl (Nat.ne_of_lt (Nat.lt_of_lt_of_le (F_vmPostPu_o0).lt (Nat.le_of_eq g1.symm))))).other W21 (Or.inl (Nat.ne_of_lt (Nat.lt_of_lt_of_le (F_vmPostPu_o0).lt (Nat.le_of_eq g1.symm))))).other W26 (Or.inl (Nat.ne_of_lt (Nat.lt_of_lt_of_le (F_vmPostPu_o0).lt (Nat.le_of_eq g1.symm))))).other W31 (Or.inl (Nat.ne_of_lt (Nat.lt_of_lt_of_le (F_vmPostPu_o0).lt (Nat.le_of_eq g1.symm))))).other W36 (Or.inl (Nat.ne_of_lt (Nat.lt_of_lt_of_le (F_vmPostPu_o0).lt (Nat.le_of_eq g1.symm)))))
  obtain ⟨T39, X39, e39, st39⟩ := getF X36 hx hZ hown (host := "") (Or.inl (hw _ (List.mem_of_getElem? (i := 56) rfl))) Via.refl e36 f38 (g := (mkF m 58 #[.val (.ref o0)] [(.ref o0), (.int (7 : Int32)), (.ref b1), (.ref b1)])) rfl rfl (hb hby d5_58)
  obtain ⟨cl40, Ar40, q40, S40, Nn40, Ha40, G40⟩ := id V36
  have in40 : ¬ ((7 : Int32) < 0 ∨ cl40.slots.size ≤ ((7 : Int32)).toNatClampNeg) := inb_of S40 ⟨by decide, by decide⟩
  obtain ⟨T41, h41, X41, e41, W41, st41⟩ := stD X39 hx hZ e39 Ar40 (j := (7 : Int32)) in40 (g := (mkF m 61 #[.val (.ref o0)] [(.double w_vmPostPu_o0), (.int (7 : Int32)), (.ref b1), (.ref b1)])) rfl rfl (hb hby d5_61)
  have N41 := Fr.snoc X41 N36 gn1
  have K42 : Keep h0 h41 [] := K37.wr W41 (Or.inr gz1)
  have V41 : Arv Z h41 b1 k1 .double (9 : Int32) [(.double w_k1_o0), (.double w_k2_o0), (.double w_cMw_o0), (.double w_pmMw_o0), (.double w_pcMw_o0), (.double w_pmPostMw_o0), (.double w_qmPostMvar_o0), (.double w_vmPostPu_o0), (.double (0 : UInt64))] (.double (0 : UInt64)) := Arv.set Ar40 q40 S40 Nn40 Ha40 G40 rfl W41 7 rfl (show (7 : Nat) < 9 by decide)
  have f43 := (((((((((F_loading_o0.ext E1).other W6 (Or.inl (Nat.ne_of_lt (Nat.lt_of_lt_of_le (F_loading_o0).lt (Nat.le_of_eq g1.symm))))).other W11 (Or.inl (Nat.ne_of_lt (Nat.lt_of_lt_of_le (F_loading_o0).lt (Nat.le_of_eq g1.symm))))).other W16 (Or.inl (Nat.ne_of_lt (Nat.lt_of_lt_of_le (F_loading_o0).lt (Nat.le_of_eq g1.symm))))).other W21 (Or.inl (Nat.ne_of_lt (Nat.lt_of_lt_of_le (F_loading_o0).lt (Nat.le_of_eq g1.symm))))).other W26 (Or.inl (Nat.ne_of_lt (Nat.lt_of_lt_of_le (F_loading_o0).lt (Nat.le_of_eq g1.symm))))).other W31 (Or.inl (Nat.ne_of_lt (Nat.lt_of_lt_of_le (F_loading_o0).lt (Nat.le_of_eq g1.symm))))).other W36 (Or.inl (Nat.ne_of_lt (Nat.lt_of_lt_of_le (F_loading_o0).lt (Nat.le_of_eq g1.symm))))).other W41 (Or.inl (Nat.ne_of_lt (Nat.lt_of_lt_of_le (F_loading_o0).lt (Nat.le_of_eq g1.symm)))))
  obtain ⟨T44, X44, e44, st44⟩ := getF X41 hx hZ hown (host := "") (Or.inl (hw _ (List.mem_of_getElem? (i := 58) rfl))) Via.refl e41 f43 (g := (mkF m 66 #[.val (.ref o0)] [(.ref o0), (.int (8 : Int32)), (.ref b1), (.ref b1)])) rfl rfl (hb hby d5_66)
  obtain ⟨cl45, Ar45, q45, S45, Nn45, Ha45, G45⟩ := id V41
  have in45 : ¬ ((8 : Int32) < 0 ∨ cl45.slots.size ≤ ((8 : Int32)).toNatClampNeg) := inb_of S45 ⟨by decide, by decide⟩
  obtain ⟨T46, h46, X46, e46, W46, st46⟩ := stD X44 hx hZ e44 Ar45 (j := (8 : Int32)) in45 (g := (mkF m 69 #[.val (.ref o0)] [(.double w_loading_o0), (.int (8 : Int32)), (.ref b1), (.ref b1)])) rfl rfl (hb hby d5_69)
  have N46 := Fr.snoc X46 N41 gn1
  have K47 : Keep h0 h46 [] := K42.wr W46 (Or.inr gz1)
  have V46 : Arv Z h46 b1 k1 .double (9 : Int32) [(.double w_k1_o0), (.double w_k2_o0), (.double w_cMw_o0), (.double w_pmMw_o0), (.double w_pcMw_o0), (.double w_pmPostMw_o0), (.double w_qmPostMvar_o0), (.double w_vmPostPu_o0), (.double w_loading_o0)] (.double (0 : UInt64)) := Arv.set Ar45 q45 S45 Nn45 Ha45 G45 rfl W46 8 rfl (show (8 : Nat) < 9 by decide)
  have c48 : ∀ t, Steps p.tables e below (T46.setTop (mkF m 70 #[.val (.ref o0)] [(.ref b1)])) t → Steps p.tables e below (s₁.setTop (entryFrame m #[(.ref o0)] 1)) t := by
    intro t k
    refine c0 t ?_
    show Steps p.tables e below (s₁.setTop (mkF m 0 #[.val (.ref o0)] [])) _
    refine XS.bipush X0.here hx rfl (hb hby d5_0) ?_
    show Steps p.tables e below (s₁.setTop (mkF m 2 #[.val (.ref o0)] [(.int (9 : Int32))])) _
    refine st1 _ ?_
    show Steps p.tables e below (T1.setTop (mkF m 4 #[.val (.ref o0)] [(.ref b1)])) _
    refine XS.dup X1.here hx rfl (hb hby d5_4) rfl rfl ?_
    show Steps p.tables e below (T1.setTop (mkF m 5 #[.val (.ref o0)] [(.ref b1), (.ref b1)])) _
    refine XS.iconst X1.here hx rfl (hb hby d5_5) ?_
    show Steps p.tables e below (T1.setTop (mkF m 6 #[.val (.ref o0)] [(.int (0 : Int32)), (.ref b1), (.ref b1)])) _
    refine XS.aloadN X1.here hx rfl (hb hby d5_6) rfl rfl ?_
    show Steps p.tables e below (T1.setTop (mkF m 7 #[.val (.ref o0)] [(.ref o0), (.int (0 : Int32)), (.ref b1), (.ref b1)])) _
    refine st4 _ ?_
    show Steps p.tables e below (T4.setTop (mkF m 10 #[.val (.ref o0)] [(.double w_k1_o0), (.int (0 : Int32)), (.ref b1), (.ref b1)])) _
    refine st6 _ ?_
    show Steps p.tables e below (T6.setTop (mkF m 11 #[.val (.ref o0)] [(.ref b1)])) _
    refine XS.dup X6.here hx rfl (hb hby d5_11) rfl rfl ?_
    show Steps p.tables e below (T6.setTop (mkF m 12 #[.val (.ref o0)] [(.ref b1), (.ref b1)])) _
    refine XS.iconst X6.here hx rfl (hb hby d5_12) ?_
    show Steps p.tables e below (T6.setTop (mkF m 13 #[.val (.ref o0)] [(.int (1 : Int32)), (.ref b1), (.ref b1)])) _
    refine XS.aloadN X6.here hx rfl (hb hby d5_13) rfl rfl ?_
    show Steps p.tables e below (T6.setTop (mkF m 14 #[.val (.ref o0)] [(.ref o0), (.int (1 : Int32)), (.ref b1), (.ref b1)])) _
    refine st9 _ ?_
    show Steps p.tables e below (T9.setTop (mkF m 17 #[.val (.ref o0)] [(.double w_k2_o0), (.int (1 : Int32)), (.ref b1), (.ref b1)])) _
    refine st11 _ ?_
    show Steps p.tables e below (T11.setTop (mkF m 18 #[.val (.ref o0)] [(.ref b1)])) _
    refine XS.dup X11.here hx rfl (hb hby d5_18) rfl rfl ?_
    show Steps p.tables e below (T11.setTop (mkF m 19 #[.val (.ref o0)] [(.ref b1), (.ref b1)])) _
    refine XS.iconst X11.here hx rfl (hb hby d5_19) ?_
    show Steps p.tables e below (T11.setTop (mkF m 20 #[.val (.ref o0)] [(.int (2 : Int32)), (.ref b1), (.ref b1)])) _
    refine XS.aloadN X11.here hx rfl (hb hby d5_20) rfl rfl ?_
    show Steps p.tables e below (T11.setTop (mkF m 21 #[.val (.ref o0)] [(.ref o0), (.int (2 : Int32)), (.ref b1), (.ref b1)])) _
    refine st14 _ ?_
    show Steps p.tables e below (T14.setTop (mkF m 24 #[.val (.ref o0)] [(.double w_cMw_o0), (.int (2 : Int32)), (.ref b1), (.ref b1)])) _
    refine st16 _ ?_
    show Steps p.tables e below (T16.setTop (mkF m 25 #[.val (.ref o0)] [(.ref b1)])) _
    refine XS.dup X16.here hx rfl (hb hby d5_25) rfl rfl ?_
    show Steps p.tables e below (T16.setTop (mkF m 26 #[.val (.ref o0)] [(.ref b1), (.ref b1)])) _
    refine XS.iconst X16.here hx rfl (hb hby d5_26) ?_
    show Steps p.tables e below (T16.setTop (mkF m 27 #[.val (.ref o0)] [(.int (3 : Int32)), (.ref b1), (.ref b1)])) _
    refine XS.aloadN X16.here hx rfl (hb hby d5_27) rfl rfl ?_
    show Steps p.tables e below (T16.setTop (mkF m 28 #[.val (.ref o0)] [(.ref o0), (.int (3 : Int32)), (.ref b1), (.ref b1)])) _
    refine st19 _ ?_
    show Steps p.tables e below (T19.setTop (mkF m 31 #[.val (.ref o0)] [(.double w_pmMw_o0), (.int (3 : Int32)), (.ref b1), (.ref b1)])) _
    refine st21 _ ?_
    show Steps p.tables e below (T21.setTop (mkF m 32 #[.val (.ref o0)] [(.ref b1)])) _
    refine XS.dup X21.here hx rfl (hb hby d5_32) rfl rfl ?_
    show Steps p.tables e below (T21.setTop (mkF m 33 #[.val (.ref o0)] [(.ref b1), (.ref b1)])) _
    refine XS.iconst X21.here hx rfl (hb hby d5_33) ?_
    show Steps p.tables e below (T21.setTop (mkF m 34 #[.val (.ref o0)] [(.int (4 : Int32)), (.ref b1), (.ref b1)])) _
    refine XS.aloadN X21.here hx rfl (hb hby d5_34) rfl rfl ?_
    show Steps p.tables e below (T21.setTop (mkF m 35 #[.val (.ref o0)] [(.ref o0), (.int (4 : Int32)), (.ref b1), (.ref b1)])) _
    refine st24 _ ?_
    show Steps p.tables e below (T24.setTop (mkF m 38 #[.val (.ref o0)] [(.double w_pcMw_o0), (.int (4 : Int32)), (.ref b1), (.ref b1)])) _
    refine st26 _ ?_
    show Steps p.tables e below (T26.setTop (mkF m 39 #[.val (.ref o0)] [(.ref b1)])) _
    refine XS.dup X26.here hx rfl (hb hby d5_39) rfl rfl ?_
    show Steps p.tables e below (T26.setTop (mkF m 40 #[.val (.ref o0)] [(.ref b1), (.ref b1)])) _
    refine XS.iconst X26.here hx rfl (hb hby d5_40) ?_
    show Steps p.tables e below (T26.setTop (mkF m 41 #[.val (.ref o0)] [(.int (5 : Int32)), (.ref b1), (.ref b1)])) _
    refine XS.aloadN X26.here hx rfl (hb hby d5_41) rfl rfl ?_
    show Steps p.tables e below (T26.setTop (mkF m 42 #[.val (.ref o0)] [(.ref o0), (.int (5 : Int32)), (.ref b1), (.ref b1)])) _
    refine st29 _ ?_
    show Steps p.tables e below (T29.setTop (mkF m 45 #[.val (.ref o0)] [(.double w_pmPostMw_o0), (.int (5 : Int32)), (.ref b1), (.ref b1)])) _
    refine st31 _ ?_
    show Steps p.tables e below (T31.setTop (mkF m 46 #[.val (.ref o0)] [(.ref b1)])) _
    refine XS.dup X31.here hx rfl (hb hby d5_46) rfl rfl ?_
    show Steps p.tables e below (T31.setTop (mkF m 47 #[.val (.ref o0)] [(.ref b1), (.ref b1)])) _
    refine XS.bipush X31.here hx rfl (hb hby d5_47) ?_
    show Steps p.tables e below (T31.setTop (mkF m 49 #[.val (.ref o0)] [(.int (6 : Int32)), (.ref b1), (.ref b1)])) _
    refine XS.aloadN X31.here hx rfl (hb hby d5_49) rfl rfl ?_
    show Steps p.tables e below (T31.setTop (mkF m 50 #[.val (.ref o0)] [(.ref o0), (.int (6 : Int32)), (.ref b1), (.ref b1)])) _
    refine st34 _ ?_
    show Steps p.tables e below (T34.setTop (mkF m 53 #[.val (.ref o0)] [(.double w_qmPostMvar_o0), (.int (6 : Int32)), (.ref b1), (.ref b1)])) _
    refine st36 _ ?_
    show Steps p.tables e below (T36.setTop (mkF m 54 #[.val (.ref o0)] [(.ref b1)])) _
    refine XS.dup X36.here hx rfl (hb hby d5_54) rfl rfl ?_
    show Steps p.tables e below (T36.setTop (mkF m 55 #[.val (.ref o0)] [(.ref b1), (.ref b1)])) _
    refine XS.bipush X36.here hx rfl (hb hby d5_55) ?_
    show Steps p.tables e below (T36.setTop (mkF m 57 #[.val (.ref o0)] [(.int (7 : Int32)), (.ref b1), (.ref b1)])) _
    refine XS.aloadN X36.here hx rfl (hb hby d5_57) rfl rfl ?_
    show Steps p.tables e below (T36.setTop (mkF m 58 #[.val (.ref o0)] [(.ref o0), (.int (7 : Int32)), (.ref b1), (.ref b1)])) _
    refine st39 _ ?_
    show Steps p.tables e below (T39.setTop (mkF m 61 #[.val (.ref o0)] [(.double w_vmPostPu_o0), (.int (7 : Int32)), (.ref b1), (.ref b1)])) _
    refine st41 _ ?_
    show Steps p.tables e below (T41.setTop (mkF m 62 #[.val (.ref o0)] [(.ref b1)])) _
    refine XS.dup X41.here hx rfl (hb hby d5_62) rfl rfl ?_
    show Steps p.tables e below (T41.setTop (mkF m 63 #[.val (.ref o0)] [(.ref b1), (.ref b1)])) _
    refine XS.bipush X41.here hx rfl (hb hby d5_63) ?_
    show Steps p.tables e below (T41.setTop (mkF m 65 #[.val (.ref o0)] [(.int (8 : Int32)), (.ref b1), (.ref b1)])) _
    refine XS.aloadN X41.here hx rfl (hb hby d5_65) rfl rfl ?_
    show Steps p.tables e below (T41.setTop (mkF m 66 #[.val (.ref o0)] [(.ref o0), (.int (8 : Int32)), (.ref b1), (.ref b1)])) _
    refine st44 _ ?_
    show Steps p.tables e below (T44.setTop (mkF m 69 #[.val (.ref o0)] [(.double w_loading_o0), (.int (8 : Int32)), (.ref b1), (.ref b1)])) _
    refine st46 _ ?_
    exact k
  obtain ⟨fs, hr, hrun, hended, hW, hsame⟩ := X46.leave (v := some (.ref b1)) (fun h => by rw [Bd.returns] at h; cases h)
  refine ⟨_, _, c48 _ ?_, hrun, hended, _, _, rfl, ?_, ⟨_, rfl⟩, hW, hsame.mono (by decide) (by decide)⟩
  · show Steps p.tables e below (T46.setTop (mkF m 70 #[.val (.ref o0)] [(.ref b1)])) _
    exact retOut X46 hx Bd.returns rfl (Or.inr (Or.inr (Or.inr (Or.inr ⟨rfl, rfl, rfl⟩)))) (hb hby d5_70) hr
  · show Q5 Z o0 w_k1_o0 w_k2_o0 w_cMw_o0 w_pmMw_o0 w_pcMw_o0 w_pmPostMw_o0 w_qmPostMvar_o0 w_vmPostPu_o0 w_loading_o0  h0 n0 _ T46.heap _
    rw [e46]
    exact ⟨b1, k1, rfl, N46, gz1, K47, V46⟩
def Q6 (Z : State) (o0 : Addr) (w_k1_o0 : UInt64)  (h0 : Heap) (n0 : Nat) (v : Option Value) (h : Heap) (L : List Loc) : Prop := v = some (.double w_k1_o0) ∧ Fr n0 L ∧ h = h0
set_option maxRecDepth 65536 in
set_option maxHeartbeats 40000000 in
theorem rm6 (l : Launch) (Z : State) (a0 : Array Value) (hw : ∀ d ∈ tables_1, d.before a0 Z = true) (ws : List Jvm.Cond) (o0 : Addr) (w_k1_o0 : UInt64)  (h0 : Heap) (n0 : Nat) (Z0 : n0 ≤ h0.size) (F_k1_o0 : Fld Z h0 o0 "com/example/bindwire/bindwire/model/Constraint" "k1" "D" (.double w_k1_o0)) :
    MetFree l (⟨"com/example/bindwire/bindwire/model/Constraint", "k1", "()D"⟩ : MethodName) (head1 (Jvm.Cond.code (⟨"com/example/bindwire/bindwire/model/Constraint", "k1", "()D"⟩ : MethodName) prog_36_method_10_code 1 (some .double) :: ws) ({ frames := 0, cells := 0, slots := 0, locals := 0 } : Room)) (fun a U => a = #[(.ref o0)] ∧ Z.Warmed39 U.vm ∧ U.heap = h0) (fun _ _ _ _ _ => True) (fun _ U o U' => ∃ v L, o = .returned v ∧ Q6 Z o0 w_k1_o0  h0 n0 v U'.heap L ∧ FrameEnd U o U' L ({ frames := 0, cells := 0, slots := 0, locals := 0 } : Room).cells ({ frames := 0, cells := 0, slots := 0, locals := 0 } : Room).slots) := by
  refine MetFree.of_bodySF (plainFor_of_name pn_2) hisR ?_
  intro p e s m args below meth c s₁ Bd hml0 hP hK
  obtain ⟨rfl, hZ, hh⟩ := hP
  have hx := Bd.exec
  have hby := Bd.bytes
  have hml : c.maxLocals = 1 := hml0
  have hown : s.vm.findClass "com/example/bindwire/bindwire/model/Constraint" = some m.cls := findClass_of_methodNamed Bd.named
  have hnm := (name_of_methodNamed Bd.named Bd.method).1
  have X0 : Stand p l e ({ frames := 0, cells := 0, slots := 0, locals := 0 } : Room) s m #[(.ref o0)] below meth c s₁ [] 0 0 := Stand.of_body Bd
  have e0 : s₁.heap = h0 := by rw [← hh, Bd.state]; rfl
  have N0 := Fr.nil n0
  have c0 : ∀ t, Steps p.tables e below (s₁.setTop (mkF m 0 #[.val (.ref o0)] [])) t → Steps p.tables e below (s₁.setTop (entryFrame m #[(.ref o0)] 1)) t := fun t k => castTop (ef_rm6 m o0) k
  obtain ⟨T1, X1, e1, st1⟩ := getF X0 hx hZ hown (host := "") (Or.inl (hw _ (List.mem_of_getElem? (i := 42) rfl))) Via.refl e0 F_k1_o0 (g := (mkF m 1 #[.val (.ref o0)] [(.ref o0)])) rfl rfl (hb hby d6_1)
  have c2 : ∀ t, Steps p.tables e below (T1.setTop (mkF m 4 #[.val (.ref o0)] [(.double w_k1_o0)])) t → Steps p.tables e below (s₁.setTop (entryFrame m #[(.ref o0)] 1)) t := by
    intro t k
    refine c0 t ?_
    show Steps p.tables e below (s₁.setTop (mkF m 0 #[.val (.ref o0)] [])) _
    refine XS.aloadN X0.here hx rfl (hb hby d6_0) rfl rfl ?_
    show Steps p.tables e below (s₁.setTop (mkF m 1 #[.val (.ref o0)] [(.ref o0)])) _
    refine st1 _ ?_
    exact k
  obtain ⟨fs, hr, hrun, hended, hW, hsame⟩ := X1.leave (v := some (.double w_k1_o0)) (fun h => by rw [Bd.returns] at h; cases h)
  refine ⟨_, _, c2 _ ?_, hrun, hended, _, _, rfl, ?_, ⟨_, rfl⟩, hW, hsame.mono (by decide) (by decide)⟩
  · show Steps p.tables e below (T1.setTop (mkF m 4 #[.val (.ref o0)] [(.double w_k1_o0)])) _
    exact retOut X1 hx Bd.returns rfl (Or.inr (Or.inr (Or.inl ⟨rfl, rfl, _, rfl⟩))) (hb hby d6_4) hr
  · show Q6 Z o0 w_k1_o0  h0 n0 _ T1.heap _
    rw [e1]
    exact ⟨rfl, N0, rfl⟩
def Q7 (Z : State) (o0 : Addr) (w_loading_o0 : UInt64)  (h0 : Heap) (n0 : Nat) (v : Option Value) (h : Heap) (L : List Loc) : Prop := v = some (.double w_loading_o0) ∧ Fr n0 L ∧ h = h0
set_option maxRecDepth 65536 in
set_option maxHeartbeats 40000000 in
theorem rm7 (l : Launch) (Z : State) (a0 : Array Value) (hw : ∀ d ∈ tables_1, d.before a0 Z = true) (ws : List Jvm.Cond) (o0 : Addr) (w_loading_o0 : UInt64)  (h0 : Heap) (n0 : Nat) (Z0 : n0 ≤ h0.size) (F_loading_o0 : Fld Z h0 o0 "com/example/bindwire/bindwire/model/Constraint" "loading" "D" (.double w_loading_o0)) :
    MetFree l (⟨"com/example/bindwire/bindwire/model/Constraint", "loading", "()D"⟩ : MethodName) (head1 (Jvm.Cond.code (⟨"com/example/bindwire/bindwire/model/Constraint", "loading", "()D"⟩ : MethodName) prog_36_method_18_code 1 (some .double) :: ws) ({ frames := 0, cells := 0, slots := 0, locals := 0 } : Room)) (fun a U => a = #[(.ref o0)] ∧ Z.Warmed39 U.vm ∧ U.heap = h0) (fun _ _ _ _ _ => True) (fun _ U o U' => ∃ v L, o = .returned v ∧ Q7 Z o0 w_loading_o0  h0 n0 v U'.heap L ∧ FrameEnd U o U' L ({ frames := 0, cells := 0, slots := 0, locals := 0 } : Room).cells ({ frames := 0, cells := 0, slots := 0, locals := 0 } : Room).slots) := by
  refine MetFree.of_bodySF (plainFor_of_name pn_2) hisR ?_
  intro p e s m args below meth c s₁ Bd hml0 hP hK
  obtain ⟨rfl, hZ, hh⟩ := hP
  have hx := Bd.exec
  have hby := Bd.bytes
  have hml : c.maxLocals = 1 := hml0
  have hown : s.vm.findClass "com/example/bindwire/bindwire/model/Constraint" = some m.cls := findClass_of_methodNamed Bd.named
  have hnm := (name_of_methodNamed Bd.named Bd.method).1
  have X0 : Stand p l e ({ frames := 0, cells := 0, slots := 0, locals := 0 } : Room) s m #[(.ref o0)] below meth c s₁ [] 0 0 := Stand.of_body Bd
  have e0 : s₁.heap = h0 := by rw [← hh, Bd.state]; rfl
  have N0 := Fr.nil n0
  have c0 : ∀ t, Steps p.tables e below (s₁.setTop (mkF m 0 #[.val (.ref o0)] [])) t → Steps p.tables e below (s₁.setTop (entryFrame m #[(.ref o0)] 1)) t := fun t k => castTop (ef_rm7 m o0) k
  obtain ⟨T1, X1, e1, st1⟩ := getF X0 hx hZ hown (host := "") (Or.inl (hw _ (List.mem_of_getElem? (i := 58) rfl))) Via.refl e0 F_loading_o0 (g := (mkF m 1 #[.val (.ref o0)] [(.ref o0)])) rfl rfl (hb hby d7_1)
  have c2 : ∀ t, Steps p.tables e below (T1.setTop (mkF m 4 #[.val (.ref o0)] [(.double w_loading_o0)])) t → Steps p.tables e below (s₁.setTop (entryFrame m #[(.ref o0)] 1)) t := by
    intro t k
    refine c0 t ?_
    show Steps p.tables e below (s₁.setTop (mkF m 0 #[.val (.ref o0)] [])) _
    refine XS.aloadN X0.here hx rfl (hb hby d7_0) rfl rfl ?_
    show Steps p.tables e below (s₁.setTop (mkF m 1 #[.val (.ref o0)] [(.ref o0)])) _
    refine st1 _ ?_
    exact k
  obtain ⟨fs, hr, hrun, hended, hW, hsame⟩ := X1.leave (v := some (.double w_loading_o0)) (fun h => by rw [Bd.returns] at h; cases h)
  refine ⟨_, _, c2 _ ?_, hrun, hended, _, _, rfl, ?_, ⟨_, rfl⟩, hW, hsame.mono (by decide) (by decide)⟩
  · show Steps p.tables e below (T1.setTop (mkF m 4 #[.val (.ref o0)] [(.double w_loading_o0)])) _
    exact retOut X1 hx Bd.returns rfl (Or.inr (Or.inr (Or.inl ⟨rfl, rfl, _, rfl⟩))) (hb hby d7_4) hr
  · show Q7 Z o0 w_loading_o0  h0 n0 _ T1.heap _
    rw [e1]
    exact ⟨rfl, N0, rfl⟩
def Q0 (n0 : Nat) (v : Option Value) (h : Heap) (L : List Loc) : Prop := v = some (.int 1) ∧ Fr n0 L
set_option maxRecDepth 65536 in
set_option maxHeartbeats 40000000 in
theorem rm0 (l : Launch) (Z : State) (a0 : Array Value) (hw : ∀ d ∈ tables_1, d.before a0 Z = true) (ws : List Jvm.Cond) (p0 : Int32) (p1 : Int32) (p2 : Int32) (p3 : Int32) (p4 : Int32) (p5 : Int32) (w_STATIC : Addr) (w_OFFLOAD : Addr) (w_DC : Addr) (w_NLDC : Addr) (w_AC : Addr)  (h0 : Heap) (n0 : Nat) (Z0 : n0 ≤ h0.size) (S_STATIC : Sta Z h0 "com/example/bindwire/bindwire/model/Constraint$Kind" "STATIC" "Lcom/example/bindwire/bindwire/model/Constraint$Kind;" (.ref w_STATIC)) (S_OFFLOAD : Sta Z h0 "com/example/bindwire/bindwire/model/Constraint$Kind" "OFFLOAD" "Lcom/example/bindwire/bindwire/model/Constraint$Kind;" (.ref w_OFFLOAD)) (S_DC : Sta Z h0 "com/example/bindwire/bindwire/model/SolveMethod" "DC" "Lcom/example/bindwire/bindwire/model/SolveMethod;" (.ref w_DC)) (S_NLDC : Sta Z h0 "com/example/bindwire/bindwire/model/SolveMethod" "NLDC" "Lcom/example/bindwire/bindwire/model/SolveMethod;" (.ref w_NLDC)) (S_AC : Sta Z h0 "com/example/bindwire/bindwire/model/SolveMethod" "AC" "Lcom/example/bindwire/bindwire/model/SolveMethod;" (.ref w_AC)) :
    MetFree l x (head1 (Jvm.Cond.code x code maxLocals ret :: ws) room_1) (fun a U => a = #[(.int p0), (.int p1), (.int p2), (.int p3), (.int p4), (.int p5)] ∧ Z.Warmed39 U.vm ∧ U.heap = h0) (fun _ _ _ _ _ => True) (fun _ U o U' => ∃ v L, o = .returned v ∧ Q0 n0 v U'.heap L ∧ ReturnedEndW U o U' L room_1.cells room_1.slots) := by
  refine MetFree.of_bodySF (plainFor_of_name pn_3) hisR ?_
  intro p e s m args below meth c s₁ Bd hml0 hP hK
  obtain ⟨rfl, hZ, hh⟩ := hP
  have hx := Bd.exec
  have hby := Bd.bytes
  have hml : c.maxLocals = 32 := hml0
  have hown : s.vm.findClass "com/example/bindwire/bindwire/model/ConstraintNumbersPinLaw" = some m.cls := findClass_of_methodNamed Bd.named
  have hnm := (name_of_methodNamed Bd.named Bd.method).1
  have X0 : Stand p l e room_1 s m #[(.int p0), (.int p1), (.int p2), (.int p3), (.int p4), (.int p5)] below meth c s₁ [] 0 0 := Stand.of_body Bd
  have e0 : s₁.heap = h0 := by rw [← hh, Bd.state]; rfl
  have N0 := Fr.nil n0
  have hS0 : s.Since s.vm 0 := (State.WarmedH.refl s).since 0
  have c0 : ∀ t, Steps p.tables e below (s₁.setTop (mkF m 0 #[.val (.int p0), .val (.int p1), .val (.int p2), .val (.int p3), .val (.int p4), .val (.int p5), .unset, .unset, .unset, .unset, .unset, .unset, .unset, .unset, .unset, .unset, .unset, .unset, .unset, .unset, .unset, .unset, .unset, .unset, .unset, .unset, .unset, .unset, .unset, .unset, .unset, .unset] [])) t → Steps p.tables e below (s₁.setTop (entryFrame m #[(.int p0), (.int p1), (.int p2), (.int p3), (.int p4), (.int p5)] maxLocals)) t := fun t k => castTop (ef_rm0 m p0 p1 p2 p3 p4 p5) k
  obtain ⟨z1, hz1⟩ : ∃ z : UInt64, FP.i2d p0 = z := ⟨_, rfl⟩
  obtain ⟨z5, hz5⟩ : ∃ z : UInt64, FP.i2d p1 = z := ⟨_, rfl⟩
  obtain ⟨z9, hz9⟩ : ∃ z : UInt64, FP.i2d p2 = z := ⟨_, rfl⟩
  obtain ⟨z13, hz13⟩ : ∃ z : UInt64, FP.i2d p3 = z := ⟨_, rfl⟩
  obtain ⟨z18, hz18⟩ : ∃ z : UInt64, FP.i2d p4 = z := ⟨_, rfl⟩
  obtain ⟨z23, hz23⟩ : ∃ z : UInt64, FP.i2d p5 = z := ⟨_, rfl⟩
  obtain ⟨z28, hz28⟩ : ∃ z : Int32, p0 ^^^ p1 = z := ⟨_, rfl⟩
  obtain ⟨z29, hz29⟩ : ∃ z : UInt64, FP.i2d z28 = z := ⟨_, rfl⟩
  obtain ⟨z34, hz34⟩ : ∃ z : Int32, p2 ^^^ p3 = z := ⟨_, rfl⟩
  obtain ⟨z35, hz35⟩ : ∃ z : UInt64, FP.i2d z34 = z := ⟨_, rfl⟩
  obtain ⟨z42, hz42⟩ : ∃ z : Int32, p4 ^^^ p5 = z := ⟨_, rfl⟩
  obtain ⟨z43, hz43⟩ : ∃ z : UInt64, FP.i2d z42 = z := ⟨_, rfl⟩
  obtain ⟨z49, hz49⟩ : ∃ z : Int32, p5 &&& (1 : Int32) = z := ⟨_, rfl⟩
  have c1 : ∀ t, Steps p.tables e below (s₁.setTop (mkF m 50 #[.val (.int p0), .val (.int p1), .val (.int p2), .val (.int p3), .val (.int p4), .val (.int p5), .val (.double z1), .second, .val (.double z5), .second, .val (.double z9), .second, .val (.double z13), .second, .val (.double z18), .second, .val (.double z23), .second, .val (.double z29), .second, .val (.double z35), .second, .val (.double z43), .second, .unset, .unset, .unset, .unset, .unset, .unset, .unset, .unset] [(.int z49)])) t → Steps p.tables e below (s₁.setTop (entryFrame m #[(.int p0), (.int p1), (.int p2), (.int p3), (.int p4), (.int p5)] maxLocals)) t := by
    intro t k
    refine c0 t ?_
    show Steps p.tables e below (s₁.setTop (mkF m 0 #[.val (.int p0), .val (.int p1), .val (.int p2), .val (.int p3), .val (.int p4), .val (.int p5), .unset, .unset, .unset, .unset, .unset, .unset, .unset, .unset, .unset, .unset, .unset, .unset, .unset, .unset, .unset, .unset, .unset, .unset, .unset, .unset, .unset, .unset, .unset, .unset, .unset, .unset] [])) _
    refine XS.iloadN X0.here hx rfl (hb hby at_0) rfl ?_
    show Steps p.tables e below (s₁.setTop (mkF m 1 #[.val (.int p0), .val (.int p1), .val (.int p2), .val (.int p3), .val (.int p4), .val (.int p5), .unset, .unset, .unset, .unset, .unset, .unset, .unset, .unset, .unset, .unset, .unset, .unset, .unset, .unset, .unset, .unset, .unset, .unset, .unset, .unset, .unset, .unset, .unset, .unset, .unset, .unset] [(.int p0)])) _
    refine XS.i2dS X0.here hx rfl (hb hby at_1) rfl hz1 ?_
    show Steps p.tables e below (s₁.setTop (mkF m 2 #[.val (.int p0), .val (.int p1), .val (.int p2), .val (.int p3), .val (.int p4), .val (.int p5), .unset, .unset, .unset, .unset, .unset, .unset, .unset, .unset, .unset, .unset, .unset, .unset, .unset, .unset, .unset, .unset, .unset, .unset, .unset, .unset, .unset, .unset, .unset, .unset, .unset, .unset] [(.double z1)])) _
    refine XS.dstore X0.here hx rfl (hb hby at_2) rfl (l' := #[.val (.int p0), .val (.int p1), .val (.int p2), .val (.int p3), .val (.int p4), .val (.int p5), .val (.double z1), .second, .unset, .unset, .unset, .unset, .unset, .unset, .unset, .unset, .unset, .unset, .unset, .unset, .unset, .unset, .unset, .unset, .unset, .unset, .unset, .unset, .unset, .unset, .unset, .unset]) rfl ?_
    show Steps p.tables e below (s₁.setTop (mkF m 4 #[.val (.int p0), .val (.int p1), .val (.int p2), .val (.int p3), .val (.int p4), .val (.int p5), .val (.double z1), .second, .unset, .unset, .unset, .unset, .unset, .unset, .unset, .unset, .unset, .unset, .unset, .unset, .unset, .unset, .unset, .unset, .unset, .unset, .unset, .unset, .unset, .unset, .unset, .unset] [])) _
    refine XS.iloadN X0.here hx rfl (hb hby at_4) rfl ?_
    show Steps p.tables e below (s₁.setTop (mkF m 5 #[.val (.int p0), .val (.int p1), .val (.int p2), .val (.int p3), .val (.int p4), .val (.int p5), .val (.double z1), .second, .unset, .unset, .unset, .unset, .unset, .unset, .unset, .unset, .unset, .unset, .unset, .unset, .unset, .unset, .unset, .unset, .unset, .unset, .unset, .unset, .unset, .unset, .unset, .unset] [(.int p1)])) _
    refine XS.i2dS X0.here hx rfl (hb hby at_5) rfl hz5 ?_
    show Steps p.tables e below (s₁.setTop (mkF m 6 #[.val (.int p0), .val (.int p1), .val (.int p2), .val (.int p3), .val (.int p4), .val (.int p5), .val (.double z1), .second, .unset, .unset, .unset, .unset, .unset, .unset, .unset, .unset, .unset, .unset, .unset, .unset, .unset, .unset, .unset, .unset, .unset, .unset, .unset, .unset, .unset, .unset, .unset, .unset] [(.double z5)])) _
    refine XS.dstore X0.here hx rfl (hb hby at_6) rfl (l' := #[.val (.int p0), .val (.int p1), .val (.int p2), .val (.int p3), .val (.int p4), .val (.int p5), .val (.double z1), .second, .val (.double z5), .second, .unset, .unset, .unset, .unset, .unset, .unset, .unset, .unset, .unset, .unset, .unset, .unset, .unset, .unset, .unset, .unset, .unset, .unset, .unset, .unset, .unset, .unset]) rfl ?_
    show Steps p.tables e below (s₁.setTop (mkF m 8 #[.val (.int p0), .val (.int p1), .val (.int p2), .val (.int p3), .val (.int p4), .val (.int p5), .val (.double z1), .second, .val (.double z5), .second, .unset, .unset, .unset, .unset, .unset, .unset, .unset, .unset, .unset, .unset, .unset, .unset, .unset, .unset, .unset, .unset, .unset, .unset, .unset, .unset, .unset, .unset] [])) _
    refine XS.iloadN X0.here hx rfl (hb hby at_8) rfl ?_
    show Steps p.tables e below (s₁.setTop (mkF m 9 #[.val (.int p0), .val (.int p1), .val (.int p2), .val (.int p3), .val (.int p4), .val (.int p5), .val (.double z1), .second, .val (.double z5), .second, .unset, .unset, .unset, .unset, .unset, .unset, .unset, .unset, .unset, .unset, .unset, .unset, .unset, .unset, .unset, .unset, .unset, .unset, .unset, .unset, .unset, .unset] [(.int p2)])) _
    refine XS.i2dS X0.here hx rfl (hb hby at_9) rfl hz9 ?_
    show Steps p.tables e below (s₁.setTop (mkF m 10 #[.val (.int p0), .val (.int p1), .val (.int p2), .val (.int p3), .val (.int p4), .val (.int p5), .val (.double z1), .second, .val (.double z5), .second, .unset, .unset, .unset, .unset, .unset, .unset, .unset, .unset, .unset, .unset, .unset, .unset, .unset, .unset, .unset, .unset, .unset, .unset, .unset, .unset, .unset, .unset] [(.double z9)])) _
    refine XS.dstore X0.here hx rfl (hb hby at_10) rfl (l' := #[.val (.int p0), .val (.int p1), .val (.int p2), .val (.int p3), .val (.int p4), .val (.int p5), .val (.double z1), .second, .val (.double z5), .second, .val (.double z9), .second, .unset, .unset, .unset, .unset, .unset, .unset, .unset, .unset, .unset, .unset, .unset, .unset, .unset, .unset, .unset, .unset, .unset, .unset, .unset, .unset]) rfl ?_
    show Steps p.tables e below (s₁.setTop (mkF m 12 #[.val (.int p0), .val (.int p1), .val (.int p2), .val (.int p3), .val (.int p4), .val (.int p5), .val (.double z1), .second, .val (.double z5), .second, .val (.double z9), .second, .unset, .unset, .unset, .unset, .unset, .unset, .unset, .unset, .unset, .unset, .unset, .unset, .unset, .unset, .unset, .unset, .unset, .unset, .unset, .unset] [])) _
    refine XS.iloadN X0.here hx rfl (hb hby at_12) rfl ?_
    show Steps p.tables e below (s₁.setTop (mkF m 13 #[.val (.int p0), .val (.int p1), .val (.int p2), .val (.int p3), .val (.int p4), .val (.int p5), .val (.double z1), .second, .val (.double z5), .second, .val (.double z9), .second, .unset, .unset, .unset, .unset, .unset, .unset, .unset, .unset, .unset, .unset, .unset, .unset, .unset, .unset, .unset, .unset, .unset, .unset, .unset, .unset] [(.int p3)])) _
    refine XS.i2dS X0.here hx rfl (hb hby at_13) rfl hz13 ?_
    show Steps p.tables e below (s₁.setTop (mkF m 14 #[.val (.int p0), .val (.int p1), .val (.int p2), .val (.int p3), .val (.int p4), .val (.int p5), .val (.double z1), .second, .val (.double z5), .second, .val (.double z9), .second, .unset, .unset, .unset, .unset, .unset, .unset, .unset, .unset, .unset, .unset, .unset, .unset, .unset, .unset, .unset, .unset, .unset, .unset, .unset, .unset] [(.double z13)])) _
    refine XS.dstore X0.here hx rfl (hb hby at_14) rfl (l' := #[.val (.int p0), .val (.int p1), .val (.int p2), .val (.int p3), .val (.int p4), .val (.int p5), .val (.double z1), .second, .val (.double z5), .second, .val (.double z9), .second, .val (.double z13), .second, .unset, .unset, .unset, .unset, .unset, .unset, .unset, .unset, .unset, .unset, .unset, .unset, .unset, .unset, .unset, .unset, .unset, .unset]) rfl ?_
    show Steps p.tables e below (s₁.setTop (mkF m 16 #[.val (.int p0), .val (.int p1), .val (.int p2), .val (.int p3), .val (.int p4), .val (.int p5), .val (.double z1), .second, .val (.double z5), .second, .val (.double z9), .second, .val (.double z13), .second, .unset, .unset, .unset, .unset, .unset, .unset, .unset, .unset, .unset, .unset, .unset, .unset, .unset, .unset, .unset, .unset, .unset, .unset] [])) _
    refine XS.iload X0.here hx rfl (hb hby at_16) rfl ?_
    show Steps p.tables e below (s₁.setTop (mkF m 18 #[.val (.int p0), .val (.int p1), .val (.int p2), .val (.int p3), .val (.int p4), .val (.int p5), .val (.double z1), .second, .val (.double z5), .second, .val (.double z9), .second, .val (.double z13), .second, .unset, .unset, .unset, .unset, .unset, .unset, .unset, .unset, .unset, .unset, .unset, .unset, .unset, .unset, .unset, .unset, .unset, .unset] [(.int p4)])) _
    refine XS.i2dS X0.here hx rfl (hb hby at_18) rfl hz18 ?_
    show Steps p.tables e below (s₁.setTop (mkF m 19 #[.val (.int p0), .val (.int p1), .val (.int p2), .val (.int p3), .val (.int p4), .val (.int p5), .val (.double z1), .second, .val (.double z5), .second, .val (.double z9), .second, .val (.double z13), .second, .unset, .unset, .unset, .unset, .unset, .unset, .unset, .unset, .unset, .unset, .unset, .unset, .unset, .unset, .unset, .unset, .unset, .unset] [(.double z18)])) _
    refine XS.dstore X0.here hx rfl (hb hby at_19) rfl (l' := #[.val (.int p0), .val (.int p1), .val (.int p2), .val (.int p3), .val (.int p4), .val (.int p5), .val (.double z1), .second, .val (.double z5), .second, .val (.double z9), .second, .val (.double z13), .second, .val (.double z18), .second, .unset, .unset, .unset, .unset, .unset, .unset, .unset, .unset, .unset, .unset, .unset, .unset, .unset, .unset, .unset, .unset]) rfl ?_
    show Steps p.tables e below (s₁.setTop (mkF m 21 #[.val (.int p0), .val (.int p1), .val (.int p2), .val (.int p3), .val (.int p4), .val (.int p5), .val (.double z1), .second, .val (.double z5), .second, .val (.double z9), .second, .val (.double z13), .second, .val (.double z18), .second, .unset, .unset, .unset, .unset, .unset, .unset, .unset, .unset, .unset, .unset, .unset, .unset, .unset, .unset, .unset, .unset] [])) _
    refine XS.iload X0.here hx rfl (hb hby at_21) rfl ?_
    show Steps p.tables e below (s₁.setTop (mkF m 23 #[.val (.int p0), .val (.int p1), .val (.int p2), .val (.int p3), .val (.int p4), .val (.int p5), .val (.double z1), .second, .val (.double z5), .second, .val (.double z9), .second, .val (.double z13), .second, .val (.double z18), .second, .unset, .unset, .unset, .unset, .unset, .unset, .unset, .unset, .unset, .unset, .unset, .unset, .unset, .unset, .unset, .unset] [(.int p5)])) _
    refine XS.i2dS X0.here hx rfl (hb hby at_23) rfl hz23 ?_
    show Steps p.tables e below (s₁.setTop (mkF m 24 #[.val (.int p0), .val (.int p1), .val (.int p2), .val (.int p3), .val (.int p4), .val (.int p5), .val (.double z1), .second, .val (.double z5), .second, .val (.double z9), .second, .val (.double z13), .second, .val (.double z18), .second, .unset, .unset, .unset, .unset, .unset, .unset, .unset, .unset, .unset, .unset, .unset, .unset, .unset, .unset, .unset, .unset] [(.double z23)])) _
    refine XS.dstore X0.here hx rfl (hb hby at_24) rfl (l' := #[.val (.int p0), .val (.int p1), .val (.int p2), .val (.int p3), .val (.int p4), .val (.int p5), .val (.double z1), .second, .val (.double z5), .second, .val (.double z9), .second, .val (.double z13), .second, .val (.double z18), .second, .val (.double z23), .second, .unset, .unset, .unset, .unset, .unset, .unset, .unset, .unset, .unset, .unset, .unset, .unset, .unset, .unset]) rfl ?_
    show Steps p.tables e below (s₁.setTop (mkF m 26 #[.val (.int p0), .val (.int p1), .val (.int p2), .val (.int p3), .val (.int p4), .val (.int p5), .val (.double z1), .second, .val (.double z5), .second, .val (.double z9), .second, .val (.double z13), .second, .val (.double z18), .second, .val (.double z23), .second, .unset, .unset, .unset, .unset, .unset, .unset, .unset, .unset, .unset, .unset, .unset, .unset, .unset, .unset] [])) _
    refine XS.iloadN X0.here hx rfl (hb hby at_26) rfl ?_
    show Steps p.tables e below (s₁.setTop (mkF m 27 #[.val (.int p0), .val (.int p1), .val (.int p2), .val (.int p3), .val (.int p4), .val (.int p5), .val (.double z1), .second, .val (.double z5), .second, .val (.double z9), .second, .val (.double z13), .second, .val (.double z18), .second, .val (.double z23), .second, .unset, .unset, .unset, .unset, .unset, .unset, .unset, .unset, .unset, .unset, .unset, .unset, .unset, .unset] [(.int p0)])) _
    refine XS.iloadN X0.here hx rfl (hb hby at_27) rfl ?_
    show Steps p.tables e below (s₁.setTop (mkF m 28 #[.val (.int p0), .val (.int p1), .val (.int p2), .val (.int p3), .val (.int p4), .val (.int p5), .val (.double z1), .second, .val (.double z5), .second, .val (.double z9), .second, .val (.double z13), .second, .val (.double z18), .second, .val (.double z23), .second, .unset, .unset, .unset, .unset, .unset, .unset, .unset, .unset, .unset, .unset, .unset, .unset, .unset, .unset] [(.int p1), (.int p0)])) _
    refine Jvm.OwnK.ixor X0.here hx rfl (hb hby at_28) rfl hz28 ?_
    show Steps p.tables e below (s₁.setTop (mkF m 29 #[.val (.int p0), .val (.int p1), .val (.int p2), .val (.int p3), .val (.int p4), .val (.int p5), .val (.double z1), .second, .val (.double z5), .second, .val (.double z9), .second, .val (.double z13), .second, .val (.double z18), .second, .val (.double z23), .second, .unset, .unset, .unset, .unset, .unset, .unset, .unset, .unset, .unset, .unset, .unset, .unset, .unset, .unset] [(.int z28)])) _
    refine XS.i2dS X0.here hx rfl (hb hby at_29) rfl hz29 ?_
    show Steps p.tables e below (s₁.setTop (mkF m 30 #[.val (.int p0), .val (.int p1), .val (.int p2), .val (.int p3), .val (.int p4), .val (.int p5), .val (.double z1), .second, .val (.double z5), .second, .val (.double z9), .second, .val (.double z13), .second, .val (.double z18), .second, .val (.double z23), .second, .unset, .unset, .unset, .unset, .unset, .unset, .unset, .unset, .unset, .unset, .unset, .unset, .unset, .unset] [(.double z29)])) _
    refine XS.dstore X0.here hx rfl (hb hby at_30) rfl (l' := #[.val (.int p0), .val (.int p1), .val (.int p2), .val (.int p3), .val (.int p4), .val (.int p5), .val (.double z1), .second, .val (.double z5), .second, .val (.double z9), .second, .val (.double z13), .second, .val (.double z18), .second, .val (.double z23), .second, .val (.double z29), .second, .unset, .unset, .unset, .unset, .unset, .unset, .unset, .unset, .unset, .unset, .unset, .unset]) rfl ?_
    show Steps p.tables e below (s₁.setTop (mkF m 32 #[.val (.int p0), .val (.int p1), .val (.int p2), .val (.int p3), .val (.int p4), .val (.int p5), .val (.double z1), .second, .val (.double z5), .second, .val (.double z9), .second, .val (.double z13), .second, .val (.double z18), .second, .val (.double z23), .second, .val (.double z29), .second, .unset, .unset, .unset, .unset, .unset, .unset, .unset, .unset, .unset, .unset, .unset, .unset] [])) _
    refine XS.iloadN X0.here hx rfl (hb hby at_32) rfl ?_
    show Steps p.tables e below (s₁.setTop (mkF m 33 #[.val (.int p0), .val (.int p1), .val (.int p2), .val (.int p3), .val (.int p4), .val (.int p5), .val (.double z1), .second, .val (.double z5), .second, .val (.double z9), .second, .val (.double z13), .second, .val (.double z18), .second, .val (.double z23), .second, .val (.double z29), .second, .unset, .unset, .unset, .unset, .unset, .unset, .unset, .unset, .unset, .unset, .unset, .unset] [(.int p2)])) _
    refine XS.iloadN X0.here hx rfl (hb hby at_33) rfl ?_
    show Steps p.tables e below (s₁.setTop (mkF m 34 #[.val (.int p0), .val (.int p1), .val (.int p2), .val (.int p3), .val (.int p4), .val (.int p5), .val (.double z1), .second, .val (.double z5), .second, .val (.double z9), .second, .val (.double z13), .second, .val (.double z18), .second, .val (.double z23), .second, .val (.double z29), .second, .unset, .unset, .unset, .unset, .unset, .unset, .unset, .unset, .unset, .unset, .unset, .unset] [(.int p3), (.int p2)])) _
    refine Jvm.OwnK.ixor X0.here hx rfl (hb hby at_34) rfl hz34 ?_
    show Steps p.tables e below (s₁.setTop (mkF m 35 #[.val (.int p0), .val (.int p1), .val (.int p2), .val (.int p3), .val (.int p4), .val (.int p5), .val (.double z1), .second, .val (.double z5), .second, .val (.double z9), .second, .val (.double z13), .second, .val (.double z18), .second, .val (.double z23), .second, .val (.double z29), .second, .unset, .unset, .unset, .unset, .unset, .unset, .unset, .unset, .unset, .unset, .unset, .unset] [(.int z34)])) _
    refine XS.i2dS X0.here hx rfl (hb hby at_35) rfl hz35 ?_
    show Steps p.tables e below (s₁.setTop (mkF m 36 #[.val (.int p0), .val (.int p1), .val (.int p2), .val (.int p3), .val (.int p4), .val (.int p5), .val (.double z1), .second, .val (.double z5), .second, .val (.double z9), .second, .val (.double z13), .second, .val (.double z18), .second, .val (.double z23), .second, .val (.double z29), .second, .unset, .unset, .unset, .unset, .unset, .unset, .unset, .unset, .unset, .unset, .unset, .unset] [(.double z35)])) _
    refine XS.dstore X0.here hx rfl (hb hby at_36) rfl (l' := #[.val (.int p0), .val (.int p1), .val (.int p2), .val (.int p3), .val (.int p4), .val (.int p5), .val (.double z1), .second, .val (.double z5), .second, .val (.double z9), .second, .val (.double z13), .second, .val (.double z18), .second, .val (.double z23), .second, .val (.double z29), .second, .val (.double z35), .second, .unset, .unset, .unset, .unset, .unset, .unset, .unset, .unset, .unset, .unset]) rfl ?_
    show Steps p.tables e below (s₁.setTop (mkF m 38 #[.val (.int p0), .val (.int p1), .val (.int p2), .val (.int p3), .val (.int p4), .val (.int p5), .val (.double z1), .second, .val (.double z5), .second, .val (.double z9), .second, .val (.double z13), .second, .val (.double z18), .second, .val (.double z23), .second, .val (.double z29), .second, .val (.double z35), .second, .unset, .unset, .unset, .unset, .unset, .unset, .unset, .unset, .unset, .unset] [])) _
    refine XS.iload X0.here hx rfl (hb hby at_38) rfl ?_
    show Steps p.tables e below (s₁.setTop (mkF m 40 #[.val (.int p0), .val (.int p1), .val (.int p2), .val (.int p3), .val (.int p4), .val (.int p5), .val (.double z1), .second, .val (.double z5), .second, .val (.double z9), .second, .val (.double z13), .second, .val (.double z18), .second, .val (.double z23), .second, .val (.double z29), .second, .val (.double z35), .second, .unset, .unset, .unset, .unset, .unset, .unset, .unset, .unset, .unset, .unset] [(.int p4)])) _
    refine XS.iload X0.here hx rfl (hb hby at_40) rfl ?_
    show Steps p.tables e below (s₁.setTop (mkF m 42 #[.val (.int p0), .val (.int p1), .val (.int p2), .val (.int p3), .val (.int p4), .val (.int p5), .val (.double z1), .second, .val (.double z5), .second, .val (.double z9), .second, .val (.double z13), .second, .val (.double z18), .second, .val (.double z23), .second, .val (.double z29), .second, .val (.double z35), .second, .unset, .unset, .unset, .unset, .unset, .unset, .unset, .unset, .unset, .unset] [(.int p5), (.int p4)])) _
    refine Jvm.OwnK.ixor X0.here hx rfl (hb hby at_42) rfl hz42 ?_
    show Steps p.tables e below (s₁.setTop (mkF m 43 #[.val (.int p0), .val (.int p1), .val (.int p2), .val (.int p3), .val (.int p4), .val (.int p5), .val (.double z1), .second, .val (.double z5), .second, .val (.double z9), .second, .val (.double z13), .second, .val (.double z18), .second, .val (.double z23), .second, .val (.double z29), .second, .val (.double z35), .second, .unset, .unset, .unset, .unset, .unset, .unset, .unset, .unset, .unset, .unset] [(.int z42)])) _
    refine XS.i2dS X0.here hx rfl (hb hby at_43) rfl hz43 ?_
    show Steps p.tables e below (s₁.setTop (mkF m 44 #[.val (.int p0), .val (.int p1), .val (.int p2), .val (.int p3), .val (.int p4), .val (.int p5), .val (.double z1), .second, .val (.double z5), .second, .val (.double z9), .second, .val (.double z13), .second, .val (.double z18), .second, .val (.double z23), .second, .val (.double z29), .second, .val (.double z35), .second, .unset, .unset, .unset, .unset, .unset, .unset, .unset, .unset, .unset, .unset] [(.double z43)])) _
    refine XS.dstore X0.here hx rfl (hb hby at_44) rfl (l' := #[.val (.int p0), .val (.int p1), .val (.int p2), .val (.int p3), .val (.int p4), .val (.int p5), .val (.double z1), .second, .val (.double z5), .second, .val (.double z9), .second, .val (.double z13), .second, .val (.double z18), .second, .val (.double z23), .second, .val (.double z29), .second, .val (.double z35), .second, .val (.double z43), .second, .unset, .unset, .unset, .unset, .unset, .unset, .unset, .unset]) rfl ?_
    show Steps p.tables e below (s₁.setTop (mkF m 46 #[.val (.int p0), .val (.int p1), .val (.int p2), .val (.int p3), .val (.int p4), .val (.int p5), .val (.double z1), .second, .val (.double z5), .second, .val (.double z9), .second, .val (.double z13), .second, .val (.double z18), .second, .val (.double z23), .second, .val (.double z29), .second, .val (.double z35), .second, .val (.double z43), .second, .unset, .unset, .unset, .unset, .unset, .unset, .unset, .unset] [])) _
    refine XS.iload X0.here hx rfl (hb hby at_46) rfl ?_
    show Steps p.tables e below (s₁.setTop (mkF m 48 #[.val (.int p0), .val (.int p1), .val (.int p2), .val (.int p3), .val (.int p4), .val (.int p5), .val (.double z1), .second, .val (.double z5), .second, .val (.double z9), .second, .val (.double z13), .second, .val (.double z18), .second, .val (.double z23), .second, .val (.double z29), .second, .val (.double z35), .second, .val (.double z43), .second, .unset, .unset, .unset, .unset, .unset, .unset, .unset, .unset] [(.int p5)])) _
    refine XS.iconst X0.here hx rfl (hb hby at_48) ?_
    show Steps p.tables e below (s₁.setTop (mkF m 49 #[.val (.int p0), .val (.int p1), .val (.int p2), .val (.int p3), .val (.int p4), .val (.int p5), .val (.double z1), .second, .val (.double z5), .second, .val (.double z9), .second, .val (.double z13), .second, .val (.double z18), .second, .val (.double z23), .second, .val (.double z29), .second, .val (.double z35), .second, .val (.double z43), .second, .unset, .unset, .unset, .unset, .unset, .unset, .unset, .unset] [(.int (1 : Int32)), (.int p5)])) _
    refine Jvm.OwnK.iand X0.here hx rfl (hb hby at_49) rfl hz49 ?_
    exact k
  have xm2 : ∃ (T : State) (r2 : Addr), Stand p l e room_1 s m #[(.int p0), (.int p1), (.int p2), (.int p3), (.int p4), (.int p5)] below meth c T [] 0 0 ∧ T.heap = h0 ∧ ∀ t, Steps p.tables e below (T.setTop (mkF m 62 #[.val (.int p0), .val (.int p1), .val (.int p2), .val (.int p3), .val (.int p4), .val (.int p5), .val (.double z1), .second, .val (.double z5), .second, .val (.double z9), .second, .val (.double z13), .second, .val (.double z18), .second, .val (.double z23), .second, .val (.double z29), .second, .val (.double z35), .second, .val (.double z43), .second, .unset, .unset, .unset, .unset, .unset, .unset, .unset, .unset] [(.ref r2)])) t → Steps p.tables e below (s₁.setTop (entryFrame m #[(.int p0), (.int p1), (.int p2), (.int p3), (.int p4), (.int p5)] maxLocals)) t := by
    by_cases hb50 : z49 = (0 : Int32)
    · skip
      obtain ⟨T3, X3, e3, st3⟩ := getS2 X0 hx hZ hown (host := "") (Or.inl (hw _ (List.mem_of_getElem? (i := 78) rfl))) Via.refl e0 S_STATIC (g := (mkF m 59 #[.val (.int p0), .val (.int p1), .val (.int p2), .val (.int p3), .val (.int p4), .val (.int p5), .val (.double z1), .second, .val (.double z5), .second, .val (.double z9), .second, .val (.double z13), .second, .val (.double z18), .second, .val (.double z23), .second, .val (.double z29), .second, .val (.double z35), .second, .val (.double z43), .second, .unset, .unset, .unset, .unset, .unset, .unset, .unset, .unset] [])) rfl (hb hby at_59)
      have c4 : ∀ t, Steps p.tables e below (T3.setTop (mkF m 62 #[.val (.int p0), .val (.int p1), .val (.int p2), .val (.int p3), .val (.int p4), .val (.int p5), .val (.double z1), .second, .val (.double z5), .second, .val (.double z9), .second, .val (.double z13), .second, .val (.double z18), .second, .val (.double z23), .second, .val (.double z29), .second, .val (.double z35), .second, .val (.double z43), .second, .unset, .unset, .unset, .unset, .unset, .unset, .unset, .unset] [(.ref w_STATIC)])) t → Steps p.tables e below (s₁.setTop (entryFrame m #[(.int p0), (.int p1), (.int p2), (.int p3), (.int p4), (.int p5)] maxLocals)) t := by
        intro t k
        refine c1 t ?_
        show Steps p.tables e below (s₁.setTop (mkF m 50 #[.val (.int p0), .val (.int p1), .val (.int p2), .val (.int p3), .val (.int p4), .val (.int p5), .val (.double z1), .second, .val (.double z5), .second, .val (.double z9), .second, .val (.double z13), .second, .val (.double z18), .second, .val (.double z23), .second, .val (.double z29), .second, .val (.double z35), .second, .val (.double z43), .second, .unset, .unset, .unset, .unset, .unset, .unset, .unset, .unset] [(.int z49)])) _
        refine XS.ifYes X0.here hx rfl (pc0 := 50) (pc' := 59) rfl (hb hby at_50) rfl (Jvm.Free.XT.i0_eq_t hb50) (by decide) (by decide) ?_
        show Steps p.tables e below (s₁.setTop (mkF m 59 #[.val (.int p0), .val (.int p1), .val (.int p2), .val (.int p3), .val (.int p4), .val (.int p5), .val (.double z1), .second, .val (.double z5), .second, .val (.double z9), .second, .val (.double z13), .second, .val (.double z18), .second, .val (.double z23), .second, .val (.double z29), .second, .val (.double z35), .second, .val (.double z43), .second, .unset, .unset, .unset, .unset, .unset, .unset, .unset, .unset] [])) _
        refine st3 _ ?_
        exact k
      exact ⟨_, _, X3, e3, c4⟩
    · skip
      obtain ⟨T5, X5, e5, st5⟩ := getS2 X0 hx hZ hown (host := "") (Or.inl (hw _ (List.mem_of_getElem? (i := 0) rfl))) Via.refl e0 S_OFFLOAD (g := (mkF m 53 #[.val (.int p0), .val (.int p1), .val (.int p2), .val (.int p3), .val (.int p4), .val (.int p5), .val (.double z1), .second, .val (.double z5), .second, .val (.double z9), .second, .val (.double z13), .second, .val (.double z18), .second, .val (.double z23), .second, .val (.double z29), .second, .val (.double z35), .second, .val (.double z43), .second, .unset, .unset, .unset, .unset, .unset, .unset, .unset, .unset] [])) rfl (hb hby at_53)
      have c6 : ∀ t, Steps p.tables e below (T5.setTop (mkF m 62 #[.val (.int p0), .val (.int p1), .val (.int p2), .val (.int p3), .val (.int p4), .val (.int p5), .val (.double z1), .second, .val (.double z5), .second, .val (.double z9), .second, .val (.double z13), .second, .val (.double z18), .second, .val (.double z23), .second, .val (.double z29), .second, .val (.double z35), .second, .val (.double z43), .second, .unset, .unset, .unset, .unset, .unset, .unset, .unset, .unset] [(.ref w_OFFLOAD)])) t → Steps p.tables e below (s₁.setTop (entryFrame m #[(.int p0), (.int p1), (.int p2), (.int p3), (.int p4), (.int p5)] maxLocals)) t := by
        intro t k
        refine c1 t ?_
        show Steps p.tables e below (s₁.setTop (mkF m 50 #[.val (.int p0), .val (.int p1), .val (.int p2), .val (.int p3), .val (.int p4), .val (.int p5), .val (.double z1), .second, .val (.double z5), .second, .val (.double z9), .second, .val (.double z13), .second, .val (.double z18), .second, .val (.double z23), .second, .val (.double z29), .second, .val (.double z35), .second, .val (.double z43), .second, .unset, .unset, .unset, .unset, .unset, .unset, .unset, .unset] [(.int z49)])) _
        refine XS.ifNo X0.here hx rfl (hb hby at_50) rfl (Jvm.Free.XT.i0_eq_f hb50) ?_
        show Steps p.tables e below (s₁.setTop (mkF m 53 #[.val (.int p0), .val (.int p1), .val (.int p2), .val (.int p3), .val (.int p4), .val (.int p5), .val (.double z1), .second, .val (.double z5), .second, .val (.double z9), .second, .val (.double z13), .second, .val (.double z18), .second, .val (.double z23), .second, .val (.double z29), .second, .val (.double z35), .second, .val (.double z43), .second, .unset, .unset, .unset, .unset, .unset, .unset, .unset, .unset] [])) _
        refine st5 _ ?_
        show Steps p.tables e below (T5.setTop (mkF m 56 #[.val (.int p0), .val (.int p1), .val (.int p2), .val (.int p3), .val (.int p4), .val (.int p5), .val (.double z1), .second, .val (.double z5), .second, .val (.double z9), .second, .val (.double z13), .second, .val (.double z18), .second, .val (.double z23), .second, .val (.double z29), .second, .val (.double z35), .second, .val (.double z43), .second, .unset, .unset, .unset, .unset, .unset, .unset, .unset, .unset] [(.ref w_OFFLOAD)])) _
        refine XS.goto X5.here hx rfl (pc0 := 56) (pc' := 62) rfl (hb hby at_56) (by decide) (by decide) ?_
        exact k
      exact ⟨_, _, X5, e5, c6⟩
  obtain ⟨T2, r2, X2, e2, c2⟩ := xm2
  obtain ⟨z68, hz68⟩ : ∃ z : Int32, p4 &&& (2147483647 : Int32) = z := ⟨_, rfl⟩
  obtain ⟨z70, hz70⟩ : ∃ z : Int32, z68 % (3 : Int32) = z := ⟨_, rfl⟩
  have c7 : ∀ t, Steps p.tables e below (T2.setTop (mkF m 75 #[.val (.int p0), .val (.int p1), .val (.int p2), .val (.int p3), .val (.int p4), .val (.int p5), .val (.double z1), .second, .val (.double z5), .second, .val (.double z9), .second, .val (.double z13), .second, .val (.double z18), .second, .val (.double z23), .second, .val (.double z29), .second, .val (.double z35), .second, .val (.double z43), .second, .val (.ref r2), .val (.int z70), .unset, .unset, .unset, .unset, .unset, .unset] [(.int z70)])) t → Steps p.tables e below (s₁.setTop (entryFrame m #[(.int p0), (.int p1), (.int p2), (.int p3), (.int p4), (.int p5)] maxLocals)) t := by
    intro t k
    refine c2 t ?_
    show Steps p.tables e below (T2.setTop (mkF m 62 #[.val (.int p0), .val (.int p1), .val (.int p2), .val (.int p3), .val (.int p4), .val (.int p5), .val (.double z1), .second, .val (.double z5), .second, .val (.double z9), .second, .val (.double z13), .second, .val (.double z18), .second, .val (.double z23), .second, .val (.double z29), .second, .val (.double z35), .second, .val (.double z43), .second, .unset, .unset, .unset, .unset, .unset, .unset, .unset, .unset] [(.ref r2)])) _
    refine XS.astore X2.here hx rfl (hb hby at_62) rfl rfl (l' := #[.val (.int p0), .val (.int p1), .val (.int p2), .val (.int p3), .val (.int p4), .val (.int p5), .val (.double z1), .second, .val (.double z5), .second, .val (.double z9), .second, .val (.double z13), .second, .val (.double z18), .second, .val (.double z23), .second, .val (.double z29), .second, .val (.double z35), .second, .val (.double z43), .second, .val (.ref r2), .unset, .unset, .unset, .unset, .unset, .unset, .unset]) rfl ?_
    show Steps p.tables e below (T2.setTop (mkF m 64 #[.val (.int p0), .val (.int p1), .val (.int p2), .val (.int p3), .val (.int p4), .val (.int p5), .val (.double z1), .second, .val (.double z5), .second, .val (.double z9), .second, .val (.double z13), .second, .val (.double z18), .second, .val (.double z23), .second, .val (.double z29), .second, .val (.double z35), .second, .val (.double z43), .second, .val (.ref r2), .unset, .unset, .unset, .unset, .unset, .unset, .unset] [])) _
    refine XS.iload X2.here hx rfl (hb hby at_64) rfl ?_
    show Steps p.tables e below (T2.setTop (mkF m 66 #[.val (.int p0), .val (.int p1), .val (.int p2), .val (.int p3), .val (.int p4), .val (.int p5), .val (.double z1), .second, .val (.double z5), .second, .val (.double z9), .second, .val (.double z13), .second, .val (.double z18), .second, .val (.double z23), .second, .val (.double z29), .second, .val (.double z35), .second, .val (.double z43), .second, .val (.ref r2), .unset, .unset, .unset, .unset, .unset, .unset, .unset] [(.int p4)])) _
    refine X2.ldcInt hx hown (mvT hZ (hw _ (List.mem_of_getElem? (i := 3) rfl))) (g := (mkF m 66 #[.val (.int p0), .val (.int p1), .val (.int p2), .val (.int p3), .val (.int p4), .val (.int p5), .val (.double z1), .second, .val (.double z5), .second, .val (.double z9), .second, .val (.double z13), .second, .val (.double z18), .second, .val (.double z23), .second, .val (.double z29), .second, .val (.double z35), .second, .val (.double z43), .second, .val (.ref r2), .unset, .unset, .unset, .unset, .unset, .unset, .unset] [(.int p4)])) rfl (hb hby at_66) _ ?_
    show Steps p.tables e below (T2.setTop (mkF m 68 #[.val (.int p0), .val (.int p1), .val (.int p2), .val (.int p3), .val (.int p4), .val (.int p5), .val (.double z1), .second, .val (.double z5), .second, .val (.double z9), .second, .val (.double z13), .second, .val (.double z18), .second, .val (.double z23), .second, .val (.double z29), .second, .val (.double z35), .second, .val (.double z43), .second, .val (.ref r2), .unset, .unset, .unset, .unset, .unset, .unset, .unset] [(.int (2147483647 : Int32)), (.int p4)])) _
    refine Jvm.OwnK.iand X2.here hx rfl (hb hby at_68) rfl hz68 ?_
    show Steps p.tables e below (T2.setTop (mkF m 69 #[.val (.int p0), .val (.int p1), .val (.int p2), .val (.int p3), .val (.int p4), .val (.int p5), .val (.double z1), .second, .val (.double z5), .second, .val (.double z9), .second, .val (.double z13), .second, .val (.double z18), .second, .val (.double z23), .second, .val (.double z29), .second, .val (.double z35), .second, .val (.double z43), .second, .val (.ref r2), .unset, .unset, .unset, .unset, .unset, .unset, .unset] [(.int z68)])) _
    refine XS.iconst X2.here hx rfl (hb hby at_69) ?_
    show Steps p.tables e below (T2.setTop (mkF m 70 #[.val (.int p0), .val (.int p1), .val (.int p2), .val (.int p3), .val (.int p4), .val (.int p5), .val (.double z1), .second, .val (.double z5), .second, .val (.double z9), .second, .val (.double z13), .second, .val (.double z18), .second, .val (.double z23), .second, .val (.double z29), .second, .val (.double z35), .second, .val (.double z43), .second, .val (.ref r2), .unset, .unset, .unset, .unset, .unset, .unset, .unset] [(.int (3 : Int32)), (.int z68)])) _
    refine Jvm.OwnK.irem X2.here hx rfl (hb hby at_70) rfl (by decide) hz70 ?_
    show Steps p.tables e below (T2.setTop (mkF m 71 #[.val (.int p0), .val (.int p1), .val (.int p2), .val (.int p3), .val (.int p4), .val (.int p5), .val (.double z1), .second, .val (.double z5), .second, .val (.double z9), .second, .val (.double z13), .second, .val (.double z18), .second, .val (.double z23), .second, .val (.double z29), .second, .val (.double z35), .second, .val (.double z43), .second, .val (.ref r2), .unset, .unset, .unset, .unset, .unset, .unset, .unset] [(.int z70)])) _
    refine XS.istore X2.here hx rfl (hb hby at_71) rfl (l' := #[.val (.int p0), .val (.int p1), .val (.int p2), .val (.int p3), .val (.int p4), .val (.int p5), .val (.double z1), .second, .val (.double z5), .second, .val (.double z9), .second, .val (.double z13), .second, .val (.double z18), .second, .val (.double z23), .second, .val (.double z29), .second, .val (.double z35), .second, .val (.double z43), .second, .val (.ref r2), .val (.int z70), .unset, .unset, .unset, .unset, .unset, .unset]) rfl ?_
    show Steps p.tables e below (T2.setTop (mkF m 73 #[.val (.int p0), .val (.int p1), .val (.int p2), .val (.int p3), .val (.int p4), .val (.int p5), .val (.double z1), .second, .val (.double z5), .second, .val (.double z9), .second, .val (.double z13), .second, .val (.double z18), .second, .val (.double z23), .second, .val (.double z29), .second, .val (.double z35), .second, .val (.double z43), .second, .val (.ref r2), .val (.int z70), .unset, .unset, .unset, .unset, .unset, .unset] [])) _
    refine XS.iload X2.here hx rfl (hb hby at_73) rfl ?_
    exact k
  have xm8 : ∃ (T : State) (r8 : Addr), Stand p l e room_1 s m #[(.int p0), (.int p1), (.int p2), (.int p3), (.int p4), (.int p5)] below meth c T [] 0 0 ∧ T.heap = h0 ∧ ∀ t, Steps p.tables e below (T.setTop (mkF m 99 #[.val (.int p0), .val (.int p1), .val (.int p2), .val (.int p3), .val (.int p4), .val (.int p5), .val (.double z1), .second, .val (.double z5), .second, .val (.double z9), .second, .val (.double z13), .second, .val (.double z18), .second, .val (.double z23), .second, .val (.double z29), .second, .val (.double z35), .second, .val (.double z43), .second, .val (.ref r2), .val (.int z70), .unset, .unset, .unset, .unset, .unset, .unset] [(.ref r8)])) t → Steps p.tables e below (s₁.setTop (entryFrame m #[(.int p0), (.int p1), (.int p2), (.int p3), (.int p4), (.int p5)] maxLocals)) t := by
    by_cases hb75 : z70 = (0 : Int32)
    · skip
      obtain ⟨T9, X9, e9, st9⟩ := getS2 X2 hx hZ hown (host := "") (Or.inl (hw _ (List.mem_of_getElem? (i := 4) rfl))) Via.refl e2 S_DC (g := (mkF m 78 #[.val (.int p0), .val (.int p1), .val (.int p2), .val (.int p3), .val (.int p4), .val (.int p5), .val (.double z1), .second, .val (.double z5), .second, .val (.double z9), .second, .val (.double z13), .second, .val (.double z18), .second, .val (.double z23), .second, .val (.double z29), .second, .val (.double z35), .second, .val (.double z43), .second, .val (.ref r2), .val (.int z70), .unset, .unset, .unset, .unset, .unset, .unset] [])) rfl (hb hby at_78)
      have c10 : ∀ t, Steps p.tables e below (T9.setTop (mkF m 99 #[.val (.int p0), .val (.int p1), .val (.int p2), .val (.int p3), .val (.int p4), .val (.int p5), .val (.double z1), .second, .val (.double z5), .second, .val (.double z9), .second, .val (.double z13), .second, .val (.double z18), .second, .val (.double z23), .second, .val (.double z29), .second, .val (.double z35), .second, .val (.double z43), .second, .val (.ref r2), .val (.int z70), .unset, .unset, .unset, .unset, .unset, .unset] [(.ref w_DC)])) t → Steps p.tables e below (s₁.setTop (entryFrame m #[(.int p0), (.int p1), (.int p2), (.int p3), (.int p4), (.int p5)] maxLocals)) t := by
        intro t k
        refine c7 t ?_
        show Steps p.tables e below (T2.setTop (mkF m 75 #[.val (.int p0), .val (.int p1), .val (.int p2), .val (.int p3), .val (.int p4), .val (.int p5), .val (.double z1), .second, .val (.double z5), .second, .val (.double z9), .second, .val (.double z13), .second, .val (.double z18), .second, .val (.double z23), .second, .val (.double z29), .second, .val (.double z35), .second, .val (.double z43), .second, .val (.ref r2), .val (.int z70), .unset, .unset, .unset, .unset, .unset, .unset] [(.int z70)])) _
        refine XS.ifNo X2.here hx rfl (hb hby at_75) rfl (Jvm.Free.XT.i0_ne_f hb75) ?_
        show Steps p.tables e below (T2.setTop (mkF m 78 #[.val (.int p0), .val (.int p1), .val (.int p2), .val (.int p3), .val (.int p4), .val (.int p5), .val (.double z1), .second, .val (.double z5), .second, .val (.double z9), .second, .val (.double z13), .second, .val (.double z18), .second, .val (.double z23), .second, .val (.double z29), .second, .val (.double z35), .second, .val (.double z43), .second, .val (.ref r2), .val (.int z70), .unset, .unset, .unset, .unset, .unset, .unset] [])) _
        refine st9 _ ?_
        show Steps p.tables e below (T9.setTop (mkF m 81 #[.val (.int p0), .val (.int p1), .val (.int p2), .val (.int p3), .val (.int p4), .val (.int p5), .val (.double z1), .second, .val (.double z5), .second, .val (.double z9), .second, .val (.double z13), .second, .val (.double z18), .second, .val (.double z23), .second, .val (.double z29), .second, .val (.double z35), .second, .val (.double z43), .second, .val (.ref r2), .val (.int z70), .unset, .unset, .unset, .unset, .unset, .unset] [(.ref w_DC)])) _
        refine XS.goto X9.here hx rfl (pc0 := 81) (pc' := 99) rfl (hb hby at_81) (by decide) (by decide) ?_
        exact k
      exact ⟨_, _, X9, e9, c10⟩
    · skip
      have c11 : ∀ t, Steps p.tables e below (T2.setTop (mkF m 87 #[.val (.int p0), .val (.int p1), .val (.int p2), .val (.int p3), .val (.int p4), .val (.int p5), .val (.double z1), .second, .val (.double z5), .second, .val (.double z9), .second, .val (.double z13), .second, .val (.double z18), .second, .val (.double z23), .second, .val (.double z29), .second, .val (.double z35), .second, .val (.double z43), .second, .val (.ref r2), .val (.int z70), .unset, .unset, .unset, .unset, .unset, .unset] [(.int (1 : Int32)), (.int z70)])) t → Steps p.tables e below (s₁.setTop (entryFrame m #[(.int p0), (.int p1), (.int p2), (.int p3), (.int p4), (.int p5)] maxLocals)) t := by
        intro t k
        refine c7 t ?_
        show Steps p.tables e below (T2.setTop (mkF m 75 #[.val (.int p0), .val (.int p1), .val (.int p2), .val (.int p3), .val (.int p4), .val (.int p5), .val (.double z1), .second, .val (.double z5), .second, .val (.double z9), .second, .val (.double z13), .second, .val (.double z18), .second, .val (.double z23), .second, .val (.double z29), .second, .val (.double z35), .second, .val (.double z43), .second, .val (.ref r2), .val (.int z70), .unset, .unset, .unset, .unset, .unset, .unset] [(.int z70)])) _
        refine XS.ifYes X2.here hx rfl (pc0 := 75) (pc' := 84) rfl (hb hby at_75) rfl (Jvm.Free.XT.i0_ne_t hb75) (by decide) (by decide) ?_
        show Steps p.tables e below (T2.setTop (mkF m 84 #[.val (.int p0), .val (.int p1), .val (.int p2), .val (.int p3), .val (.int p4), .val (.int p5), .val (.double z1), .second, .val (.double z5), .second, .val (.double z9), .second, .val (.double z13), .second, .val (.double z18), .second, .val (.double z23), .second, .val (.double z29), .second, .val (.double z35), .second, .val (.double z43), .second, .val (.ref r2), .val (.int z70), .unset, .unset, .unset, .unset, .unset, .unset] [])) _
        refine XS.iload X2.here hx rfl (hb hby at_84) rfl ?_
        show Steps p.tables e below (T2.setTop (mkF m 86 #[.val (.int p0), .val (.int p1), .val (.int p2), .val (.int p3), .val (.int p4), .val (.int p5), .val (.double z1), .second, .val (.double z5), .second, .val (.double z9), .second, .val (.double z13), .second, .val (.double z18), .second, .val (.double z23), .second, .val (.double z29), .second, .val (.double z35), .second, .val (.double z43), .second, .val (.ref r2), .val (.int z70), .unset, .unset, .unset, .unset, .unset, .unset] [(.int z70)])) _
        refine XS.iconst X2.here hx rfl (hb hby at_86) ?_
        exact k
      by_cases hb87 : z70 = (1 : Int32)
      · skip
        obtain ⟨T12, X12, e12, st12⟩ := getS2 X2 hx hZ hown (host := "") (Or.inl (hw _ (List.mem_of_getElem? (i := 82) rfl))) Via.refl e2 S_NLDC (g := (mkF m 90 #[.val (.int p0), .val (.int p1), .val (.int p2), .val (.int p3), .val (.int p4), .val (.int p5), .val (.double z1), .second, .val (.double z5), .second, .val (.double z9), .second, .val (.double z13), .second, .val (.double z18), .second, .val (.double z23), .second, .val (.double z29), .second, .val (.double z35), .second, .val (.double z43), .second, .val (.ref r2), .val (.int z70), .unset, .unset, .unset, .unset, .unset, .unset] [])) rfl (hb hby at_90)
        have c13 : ∀ t, Steps p.tables e below (T12.setTop (mkF m 99 #[.val (.int p0), .val (.int p1), .val (.int p2), .val (.int p3), .val (.int p4), .val (.int p5), .val (.double z1), .second, .val (.double z5), .second, .val (.double z9), .second, .val (.double z13), .second, .val (.double z18), .second, .val (.double z23), .second, .val (.double z29), .second, .val (.double z35), .second, .val (.double z43), .second, .val (.ref r2), .val (.int z70), .unset, .unset, .unset, .unset, .unset, .unset] [(.ref w_NLDC)])) t → Steps p.tables e below (s₁.setTop (entryFrame m #[(.int p0), (.int p1), (.int p2), (.int p3), (.int p4), (.int p5)] maxLocals)) t := by
          intro t k
          refine c11 t ?_
          show Steps p.tables e below (T2.setTop (mkF m 87 #[.val (.int p0), .val (.int p1), .val (.int p2), .val (.int p3), .val (.int p4), .val (.int p5), .val (.double z1), .second, .val (.double z5), .second, .val (.double z9), .second, .val (.double z13), .second, .val (.double z18), .second, .val (.double z23), .second, .val (.double z29), .second, .val (.double z35), .second, .val (.double z43), .second, .val (.ref r2), .val (.int z70), .unset, .unset, .unset, .unset, .unset, .unset] [(.int (1 : Int32)), (.int z70)])) _
          refine XS.icmpNo X2.here hx rfl (hb hby at_87) rfl (Jvm.Free.XT.ii_ne_f hb87) ?_
          show Steps p.tables e below (T2.setTop (mkF m 90 #[.val (.int p0), .val (.int p1), .val (.int p2), .val (.int p3), .val (.int p4), .val (.int p5), .val (.double z1), .second, .val (.double z5), .second, .val (.double z9), .second, .val (.double z13), .second, .val (.double z18), .second, .val (.double z23), .second, .val (.double z29), .second, .val (.double z35), .second, .val (.double z43), .second, .val (.ref r2), .val (.int z70), .unset, .unset, .unset, .unset, .unset, .unset] [])) _
          refine st12 _ ?_
          show Steps p.tables e below (T12.setTop (mkF m 93 #[.val (.int p0), .val (.int p1), .val (.int p2), .val (.int p3), .val (.int p4), .val (.int p5), .val (.double z1), .second, .val (.double z5), .second, .val (.double z9), .second, .val (.double z13), .second, .val (.double z18), .second, .val (.double z23), .second, .val (.double z29), .second, .val (.double z35), .second, .val (.double z43), .second, .val (.ref r2), .val (.int z70), .unset, .unset, .unset, .unset, .unset, .unset] [(.ref w_NLDC)])) _
          refine XS.goto X12.here hx rfl (pc0 := 93) (pc' := 99) rfl (hb hby at_93) (by decide) (by decide) ?_
          exact k
        exact ⟨_, _, X12, e12, c13⟩
      · skip
        obtain ⟨T14, X14, e14, st14⟩ := getS2 X2 hx hZ hown (host := "") (Or.inl (hw _ (List.mem_of_getElem? (i := 80) rfl))) Via.refl e2 S_AC (g := (mkF m 96 #[.val (.int p0), .val (.int p1), .val (.int p2), .val (.int p3), .val (.int p4), .val (.int p5), .val (.double z1), .second, .val (.double z5), .second, .val (.double z9), .second, .val (.double z13), .second, .val (.double z18), .second, .val (.double z23), .second, .val (.double z29), .second, .val (.double z35), .second, .val (.double z43), .second, .val (.ref r2), .val (.int z70), .unset, .unset, .unset, .unset, .unset, .unset] [])) rfl (hb hby at_96)
        have c15 : ∀ t, Steps p.tables e below (T14.setTop (mkF m 99 #[.val (.int p0), .val (.int p1), .val (.int p2), .val (.int p3), .val (.int p4), .val (.int p5), .val (.double z1), .second, .val (.double z5), .second, .val (.double z9), .second, .val (.double z13), .second, .val (.double z18), .second, .val (.double z23), .second, .val (.double z29), .second, .val (.double z35), .second, .val (.double z43), .second, .val (.ref r2), .val (.int z70), .unset, .unset, .unset, .unset, .unset, .unset] [(.ref w_AC)])) t → Steps p.tables e below (s₁.setTop (entryFrame m #[(.int p0), (.int p1), (.int p2), (.int p3), (.int p4), (.int p5)] maxLocals)) t := by
          intro t k
          refine c11 t ?_
          show Steps p.tables e below (T2.setTop (mkF m 87 #[.val (.int p0), .val (.int p1), .val (.int p2), .val (.int p3), .val (.int p4), .val (.int p5), .val (.double z1), .second, .val (.double z5), .second, .val (.double z9), .second, .val (.double z13), .second, .val (.double z18), .second, .val (.double z23), .second, .val (.double z29), .second, .val (.double z35), .second, .val (.double z43), .second, .val (.ref r2), .val (.int z70), .unset, .unset, .unset, .unset, .unset, .unset] [(.int (1 : Int32)), (.int z70)])) _
          refine XS.icmpYes X2.here hx rfl (pc0 := 87) (pc' := 96) rfl (hb hby at_87) rfl (Jvm.Free.XT.ii_ne_t hb87) (by decide) (by decide) ?_
          show Steps p.tables e below (T2.setTop (mkF m 96 #[.val (.int p0), .val (.int p1), .val (.int p2), .val (.int p3), .val (.int p4), .val (.int p5), .val (.double z1), .second, .val (.double z5), .second, .val (.double z9), .second, .val (.double z13), .second, .val (.double z18), .second, .val (.double z23), .second, .val (.double z29), .second, .val (.double z35), .second, .val (.double z43), .second, .val (.ref r2), .val (.int z70), .unset, .unset, .unset, .unset, .unset, .unset] [])) _
          refine st14 _ ?_
          exact k
        exact ⟨_, _, X14, e14, c15⟩
  obtain ⟨T8, r8, X8, e8, c8⟩ := xm8
  obtain ⟨z103, hz103⟩ : ∃ z : Int32, p2 &&& (1 : Int32) = z := ⟨_, rfl⟩
  obtain ⟨m104_s0, hm104_s0⟩ : ∃ z : Int32, (if z103 = (0 : Int32) then (0 : Int32) else (1 : Int32)) = z := ⟨_, rfl⟩
  obtain ⟨z177, hz177⟩ : ∃ z : Int32, cmpValue (FP.dcmp z1 z1) .l = z := ⟨_, rfl⟩
  obtain ⟨z187, hz187⟩ : ∃ z : Int32, cmpValue (FP.dcmp z5 z5) .l = z := ⟨_, rfl⟩
  obtain ⟨z197, hz197⟩ : ∃ z : Int32, cmpValue (FP.dcmp z9 z9) .l = z := ⟨_, rfl⟩
  obtain ⟨z207, hz207⟩ : ∃ z : Int32, cmpValue (FP.dcmp z13 z13) .l = z := ⟨_, rfl⟩
  obtain ⟨z217, hz217⟩ : ∃ z : Int32, cmpValue (FP.dcmp z18 z18) .l = z := ⟨_, rfl⟩
  obtain ⟨z227, hz227⟩ : ∃ z : Int32, cmpValue (FP.dcmp z23 z23) .l = z := ⟨_, rfl⟩
  obtain ⟨z238, hz238⟩ : ∃ z : Int32, cmpValue (FP.dcmp z29 z29) .l = z := ⟨_, rfl⟩
  obtain ⟨z249, hz249⟩ : ∃ z : Int32, cmpValue (FP.dcmp z35 z35) .l = z := ⟨_, rfl⟩
  obtain ⟨z260, hz260⟩ : ∃ z : Int32, cmpValue (FP.dcmp z43 z43) .l = z := ⟨_, rfl⟩
  obtain ⟨z286, hz286⟩ : ∃ z : UInt64, FP.dadd z1 FP.dconst1 = z := ⟨_, rfl⟩
  obtain ⟨z298, hz298⟩ : ∃ z : UInt64, FP.dadd z43 FP.dconst1 = z := ⟨_, rfl⟩
  obtain ⟨z335, hz335⟩ : ∃ z : Int32, cmpValue (FP.dcmp z1 z1) .l = z := ⟨_, rfl⟩
  obtain ⟨z345, hz345⟩ : ∃ z : Int32, cmpValue (FP.dcmp z5 z5) .l = z := ⟨_, rfl⟩
  obtain ⟨z355, hz355⟩ : ∃ z : Int32, cmpValue (FP.dcmp z9 z9) .l = z := ⟨_, rfl⟩
  obtain ⟨z365, hz365⟩ : ∃ z : Int32, cmpValue (FP.dcmp z13 z13) .l = z := ⟨_, rfl⟩
  obtain ⟨z375, hz375⟩ : ∃ z : Int32, cmpValue (FP.dcmp z18 z18) .l = z := ⟨_, rfl⟩
  obtain ⟨z385, hz385⟩ : ∃ z : Int32, cmpValue (FP.dcmp z23 z23) .l = z := ⟨_, rfl⟩
  obtain ⟨z396, hz396⟩ : ∃ z : Int32, cmpValue (FP.dcmp z29 z29) .l = z := ⟨_, rfl⟩
  obtain ⟨z407, hz407⟩ : ∃ z : Int32, cmpValue (FP.dcmp z35 z35) .l = z := ⟨_, rfl⟩
  obtain ⟨z418, hz418⟩ : ∃ z : Int32, cmpValue (FP.dcmp z43 z43) .l = z := ⟨_, rfl⟩
  obtain ⟨z429, hz429⟩ : ∃ z : Int32, cmpValue (FP.dcmp z1 z1) .l = z := ⟨_, rfl⟩
  obtain ⟨z440, hz440⟩ : ∃ z : Int32, cmpValue (FP.dcmp z43 z43) .l = z := ⟨_, rfl⟩
  have c16 : ∀ t, Steps p.tables e below (T8.setTop (mkF m 112 #[.val (.int p0), .val (.int p1), .val (.int p2), .val (.int p3), .val (.int p4), .val (.int p5), .val (.double z1), .second, .val (.double z5), .second, .val (.double z9), .second, .val (.double z13), .second, .val (.double z18), .second, .val (.double z23), .second, .val (.double z29), .second, .val (.double z35), .second, .val (.double z43), .second, .val (.ref r2), .val (.int z70), .val (.ref r8), .unset, .unset, .unset, .unset, .unset] [(.int m104_s0)])) t → Steps p.tables e below (s₁.setTop (entryFrame m #[(.int p0), (.int p1), (.int p2), (.int p3), (.int p4), (.int p5)] maxLocals)) t := by
    intro t k
    refine c8 t ?_
    show Steps p.tables e below (T8.setTop (mkF m 99 #[.val (.int p0), .val (.int p1), .val (.int p2), .val (.int p3), .val (.int p4), .val (.int p5), .val (.double z1), .second, .val (.double z5), .second, .val (.double z9), .second, .val (.double z13), .second, .val (.double z18), .second, .val (.double z23), .second, .val (.double z29), .second, .val (.double z35), .second, .val (.double z43), .second, .val (.ref r2), .val (.int z70), .unset, .unset, .unset, .unset, .unset, .unset] [(.ref r8)])) _
    refine XS.astore X8.here hx rfl (hb hby at_99) rfl rfl (l' := #[.val (.int p0), .val (.int p1), .val (.int p2), .val (.int p3), .val (.int p4), .val (.int p5), .val (.double z1), .second, .val (.double z5), .second, .val (.double z9), .second, .val (.double z13), .second, .val (.double z18), .second, .val (.double z23), .second, .val (.double z29), .second, .val (.double z35), .second, .val (.double z43), .second, .val (.ref r2), .val (.int z70), .val (.ref r8), .unset, .unset, .unset, .unset, .unset]) rfl ?_
    show Steps p.tables e below (T8.setTop (mkF m 101 #[.val (.int p0), .val (.int p1), .val (.int p2), .val (.int p3), .val (.int p4), .val (.int p5), .val (.double z1), .second, .val (.double z5), .second, .val (.double z9), .second, .val (.double z13), .second, .val (.double z18), .second, .val (.double z23), .second, .val (.double z29), .second, .val (.double z35), .second, .val (.double z43), .second, .val (.ref r2), .val (.int z70), .val (.ref r8), .unset, .unset, .unset, .unset, .unset] [])) _
    refine XS.iloadN X8.here hx rfl (hb hby at_101) rfl ?_
    show Steps p.tables e below (T8.setTop (mkF m 102 #[.val (.int p0), .val (.int p1), .val (.int p2), .val (.int p3), .val (.int p4), .val (.int p5), .val (.double z1), .second, .val (.double z5), .second, .val (.double z9), .second, .val (.double z13), .second, .val (.double z18), .second, .val (.double z23), .second, .val (.double z29), .second, .val (.double z35), .second, .val (.double z43), .second, .val (.ref r2), .val (.int z70), .val (.ref r8), .unset, .unset, .unset, .unset, .unset] [(.int p2)])) _
    refine XS.iconst X8.here hx rfl (hb hby at_102) ?_
    show Steps p.tables e below (T8.setTop (mkF m 103 #[.val (.int p0), .val (.int p1), .val (.int p2), .val (.int p3), .val (.int p4), .val (.int p5), .val (.double z1), .second, .val (.double z5), .second, .val (.double z9), .second, .val (.double z13), .second, .val (.double z18), .second, .val (.double z23), .second, .val (.double z29), .second, .val (.double z35), .second, .val (.double z43), .second, .val (.ref r2), .val (.int z70), .val (.ref r8), .unset, .unset, .unset, .unset, .unset] [(.int (1 : Int32)), (.int p2)])) _
    refine Jvm.OwnK.iand X8.here hx rfl (hb hby at_103) rfl hz103 ?_
    by_cases hm104_0 : z103 = (0 : Int32)
    · skip
      show Steps p.tables e below (T8.setTop (mkF m 104 #[.val (.int p0), .val (.int p1), .val (.int p2), .val (.int p3), .val (.int p4), .val (.int p5), .val (.double z1), .second, .val (.double z5), .second, .val (.double z9), .second, .val (.double z13), .second, .val (.double z18), .second, .val (.double z23), .second, .val (.double z29), .second, .val (.double z35), .second, .val (.double z43), .second, .val (.ref r2), .val (.int z70), .val (.ref r8), .unset, .unset, .unset, .unset, .unset] [(.int z103)])) _
      refine XS.ifYes X8.here hx rfl (pc0 := 104) (pc' := 111) rfl (hb hby at_104) rfl (Jvm.Free.XT.i0_eq_t hm104_0) (by decide) (by decide) ?_
      show Steps p.tables e below (T8.setTop (mkF m 111 #[.val (.int p0), .val (.int p1), .val (.int p2), .val (.int p3), .val (.int p4), .val (.int p5), .val (.double z1), .second, .val (.double z5), .second, .val (.double z9), .second, .val (.double z13), .second, .val (.double z18), .second, .val (.double z23), .second, .val (.double z29), .second, .val (.double z35), .second, .val (.double z43), .second, .val (.ref r2), .val (.int z70), .val (.ref r8), .unset, .unset, .unset, .unset, .unset] [])) _
      refine XS.iconst X8.here hx rfl (hb hby at_111) ?_
      obtain rfl : (0 : Int32) = m104_s0 := by rw [← hm104_s0]; simp only [if_pos hm104_0]
      exact k
    · skip
      show Steps p.tables e below (T8.setTop (mkF m 104 #[.val (.int p0), .val (.int p1), .val (.int p2), .val (.int p3), .val (.int p4), .val (.int p5), .val (.double z1), .second, .val (.double z5), .second, .val (.double z9), .second, .val (.double z13), .second, .val (.double z18), .second, .val (.double z23), .second, .val (.double z29), .second, .val (.double z35), .second, .val (.double z43), .second, .val (.ref r2), .val (.int z70), .val (.ref r8), .unset, .unset, .unset, .unset, .unset] [(.int z103)])) _
      refine XS.ifNo X8.here hx rfl (hb hby at_104) rfl (Jvm.Free.XT.i0_eq_f hm104_0) ?_
      show Steps p.tables e below (T8.setTop (mkF m 107 #[.val (.int p0), .val (.int p1), .val (.int p2), .val (.int p3), .val (.int p4), .val (.int p5), .val (.double z1), .second, .val (.double z5), .second, .val (.double z9), .second, .val (.double z13), .second, .val (.double z18), .second, .val (.double z23), .second, .val (.double z29), .second, .val (.double z35), .second, .val (.double z43), .second, .val (.ref r2), .val (.int z70), .val (.ref r8), .unset, .unset, .unset, .unset, .unset] [])) _
      refine XS.iconst X8.here hx rfl (hb hby at_107) ?_
      show Steps p.tables e below (T8.setTop (mkF m 108 #[.val (.int p0), .val (.int p1), .val (.int p2), .val (.int p3), .val (.int p4), .val (.int p5), .val (.double z1), .second, .val (.double z5), .second, .val (.double z9), .second, .val (.double z13), .second, .val (.double z18), .second, .val (.double z23), .second, .val (.double z29), .second, .val (.double z35), .second, .val (.double z43), .second, .val (.ref r2), .val (.int z70), .val (.ref r8), .unset, .unset, .unset, .unset, .unset] [(.int (1 : Int32))])) _
      refine XS.goto X8.here hx rfl (pc0 := 108) (pc' := 112) rfl (hb hby at_108) (by decide) (by decide) ?_
      obtain rfl : (1 : Int32) = m104_s0 := by rw [← hm104_s0]; simp only [if_neg hm104_0]
      exact k
  obtain ⟨T17, h17, X17, e17, E17, A17, D17, -, st17⟩ := newO X8 hx hZ hown (hw _ (List.mem_of_getElem? (i := 7) rfl)) (hw _ (List.mem_of_getElem? (i := 8) rfl)) (hw _ (List.mem_of_getElem? (i := 9) rfl)) e8 (g := (mkF m 114 #[.val (.int p0), .val (.int p1), .val (.int p2), .val (.int p3), .val (.int p4), .val (.int p5), .val (.double z1), .second, .val (.double z5), .second, .val (.double z9), .second, .val (.double z13), .second, .val (.double z18), .second, .val (.double z23), .second, .val (.double z29), .second, .val (.double z35), .second, .val (.double z43), .second, .val (.ref r2), .val (.int z70), .val (.ref r8), .val (.int m104_s0), .unset, .unset, .unset, .unset] [])) rfl (hb hby at_114) (by decide) (by decide)
  obtain ⟨b17, g17⟩ : ∃ z, z = h0.size := ⟨_, rfl⟩
  rw [← g17] at A17 D17 st17
  have gn17 : n0 ≤ b17 := Nat.le_trans Z0 (Nat.le_of_eq g17.symm)
  have gz17 : h0.size ≤ b17 := Nat.le_trans ((Keep.refl h0 [])).1 (Nat.le_of_eq g17.symm)
  have K18 : Keep h0 h17 [] := (Keep.refl h0 []).ext E17
  have F17_contingency : Fld Z h17 b17 "com/example/bindwire/bindwire/model/Constraint" "contingency" "I" (.int (0 : Int32)) := D17 (Or.inr (hw _ (List.mem_of_getElem? (i := 35) rfl))) (ty := .int) (by decide)
  have F17_monitored : Fld Z h17 b17 "com/example/bindwire/bindwire/model/Constraint" "monitored" "I" (.int (0 : Int32)) := D17 (Or.inr (hw _ (List.mem_of_getElem? (i := 37) rfl))) (ty := .int) (by decide)
  have F17_kind : Fld Z h17 b17 "com/example/bindwire/bindwire/model/Constraint" "kind" "Lcom/example/bindwire/bindwire/model/Constraint$Kind;" .null := D17 (Or.inr (hw _ (List.mem_of_getElem? (i := 39) rfl))) (ty := (.object "com/example/bindwire/bindwire/model/Constraint$Kind")) (by decide)
  have F17_solve : Fld Z h17 b17 "com/example/bindwire/bindwire/model/Constraint" "solve" "Lcom/example/bindwire/bindwire/model/SolveMethod;" .null := D17 (Or.inr (hw _ (List.mem_of_getElem? (i := 41) rfl))) (ty := (.object "com/example/bindwire/bindwire/model/SolveMethod")) (by decide)
  have F17_k1 : Fld Z h17 b17 "com/example/bindwire/bindwire/model/Constraint" "k1" "D" (.double (0 : UInt64)) := D17 (Or.inr (hw _ (List.mem_of_getElem? (i := 43) rfl))) (ty := .double) (by decide)
  have F17_k2 : Fld Z h17 b17 "com/example/bindwire/bindwire/model/Constraint" "k2" "D" (.double (0 : UInt64)) := D17 (Or.inr (hw _ (List.mem_of_getElem? (i := 45) rfl))) (ty := .double) (by decide)
  have F17_cMw : Fld Z h17 b17 "com/example/bindwire/bindwire/model/Constraint" "cMw" "D" (.double (0 : UInt64)) := D17 (Or.inr (hw _ (List.mem_of_getElem? (i := 47) rfl))) (ty := .double) (by decide)
  have F17_pmMw : Fld Z h17 b17 "com/example/bindwire/bindwire/model/Constraint" "pmMw" "D" (.double (0 : UInt64)) := D17 (Or.inr (hw _ (List.mem_of_getElem? (i := 49) rfl))) (ty := .double) (by decide)
  have F17_pcMw : Fld Z h17 b17 "com/example/bindwire/bindwire/model/Constraint" "pcMw" "D" (.double (0 : UInt64)) := D17 (Or.inr (hw _ (List.mem_of_getElem? (i := 51) rfl))) (ty := .double) (by decide)
  have F17_pmPostMw : Fld Z h17 b17 "com/example/bindwire/bindwire/model/Constraint" "pmPostMw" "D" (.double (0 : UInt64)) := D17 (Or.inr (hw _ (List.mem_of_getElem? (i := 53) rfl))) (ty := .double) (by decide)
  have F17_qmPostMvar : Fld Z h17 b17 "com/example/bindwire/bindwire/model/Constraint" "qmPostMvar" "D" (.double (0 : UInt64)) := D17 (Or.inr (hw _ (List.mem_of_getElem? (i := 55) rfl))) (ty := .double) (by decide)
  have F17_vmPostPu : Fld Z h17 b17 "com/example/bindwire/bindwire/model/Constraint" "vmPostPu" "D" (.double (0 : UInt64)) := D17 (Or.inr (hw _ (List.mem_of_getElem? (i := 57) rfl))) (ty := .double) (by decide)
  have F17_loading : Fld Z h17 b17 "com/example/bindwire/bindwire/model/Constraint" "loading" "D" (.double (0 : UInt64)) := D17 (Or.inr (hw _ (List.mem_of_getElem? (i := 59) rfl))) (ty := .double) (by decide)
  have F17_published : Fld Z h17 b17 "com/example/bindwire/bindwire/model/Constraint" "published" "Z" (.int (0 : Int32)) := D17 (Or.inr (hw _ (List.mem_of_getElem? (i := 61) rfl))) (ty := .boolean) (by decide)
  have c144_na97 : narrow .boolean (.int m104_s0) = (.int m104_s0) := by rw [← hm104_s0]; split <;> rfl
  have c144_fi97 : fits .boolean (.int m104_s0) = true := by rw [← hm104_s0]; split <;> rfl
  obtain ⟨_, _, ⟨T19, L19, k19, n19⟩, -, X19, hS19, hg19, ⟨Lc19, hQ19, ql19, qy19, qz19⟩, st19⟩ := X17.specialBackS hx (y := (⟨"com/example/bindwire/bindwire/model/Constraint", "<init>", "(IILcom/example/bindwire/bindwire/model/Constraint$Kind;Lcom/example/bindwire/bindwire/model/SolveMethod;DDDDDDDDDZ)V"⟩ : MethodName)) rfl hown (mvT hZ (hw _ (List.mem_of_getElem? (i := 10) rfl))) (mvT hZ (hw _ (List.mem_of_getElem? (i := 11) rfl))) (mvT hZ (hw _ (List.mem_of_getElem? (i := 12) rfl))) (by decide) (Jvm.RoadKit.backOfS (W := 1) (rm1 l Z a0 hw [] b17 p0 p1 r2 r8 z1 z5 z9 z13 z18 z23 z29 z35 z43 m104_s0 ((.int (0 : Int32))) ((.int (0 : Int32))) (.null) (.null) ((.double (0 : UInt64))) ((.double (0 : UInt64))) ((.double (0 : UInt64))) ((.double (0 : UInt64))) ((.double (0 : UInt64))) ((.double (0 : UInt64))) ((.double (0 : UInt64))) ((.double (0 : UInt64))) ((.double (0 : UInt64))) ((.int (0 : Int32)))  h17 n0 (Nat.le_trans Z0 E17.1) A17 F17_contingency gn17 F17_monitored F17_kind F17_solve F17_k1 F17_k2 F17_cMw F17_pmMw F17_pcMw F17_pmPostMw F17_qmPostMvar F17_vmPostPu F17_loading F17_published c144_na97 c144_fi97) hZ (hw _ (List.mem_of_getElem? (i := 12) rfl)) (hw _ (List.mem_of_getElem? (i := 9) rfl)) (by decide) (by decide)) (g := (mkF m 144 #[.val (.int p0), .val (.int p1), .val (.int p2), .val (.int p3), .val (.int p4), .val (.int p5), .val (.double z1), .second, .val (.double z5), .second, .val (.double z9), .second, .val (.double z13), .second, .val (.double z18), .second, .val (.double z23), .second, .val (.double z29), .second, .val (.double z35), .second, .val (.double z43), .second, .val (.ref r2), .val (.int z70), .val (.ref r8), .val (.int m104_s0), .unset, .unset, .unset, .unset] [(.int m104_s0), (.double z43), (.double z35), (.double z29), (.double z23), (.double z18), (.double z13), (.double z9), (.double z5), (.double z1), (.ref r8), (.ref r2), (.int p1), (.int p0), (.ref b17), (.ref b17)])) rfl (by rw [hml]; rfl) (Steps.refl _) (a := b17) (argsL := [(.int p0), (.int p1), (.ref r2), (.ref r8), (.double z1), (.double z5), (.double z9), (.double z13), (.double z18), (.double z23), (.double z29), (.double z35), (.double z43), (.int m104_s0)]) (rest := [(.ref b17)]) (lenOf pd_2 rfl) rfl (by show 2 * 0 + _ ≤ _; exact Nat.le_of_eq rfl) (hb hby at_144) (fun _ _ => ⟨rfl, e17, (by decide : 1 + 4 ≤ _), (by decide : 14 + 44 ≤ _)⟩)
  dsimp only [Pt.U, Pt.locs, Pt.cells, Pt.slots] at X19 ql19 qy19 qz19 st19 hQ19 hS19 hg19
  have hZ : Z.Warmed39 (s.setVm T19.vm).vm := State.Warmed39.trans (t := s) hZ hS19.1
  have hown : (s.setVm T19.vm).vm.findClass "com/example/bindwire/bindwire/model/ConstraintNumbersPinLaw" = some m.cls := by rw [show (s.setVm T19.vm).vm = T19.vm from rfl, hS19.1.alike.findClass]; exact hown
  subst ql19 qy19 qz19
  obtain ⟨rfl, N19q, K19q, Q19_0, Q19_1, Q19_2, Q19_3, Q19_4, Q19_5, Q19_6, Q19_7, Q19_8, Q19_9, Q19_10, Q19_11, Q19_12, Q19_13, Q19_14⟩ := hQ19
  have N19 := Fr.app N0 N19q
  have K20 : Keep h0 T19.heap [] := Keep.trans K18 K19q (allS (Or.inr gz17) all0)
  obtain ⟨cq21, kq21, q21a, q21b, q21c⟩ := isOf hZ rfl Q19_0
  obtain ⟨_, _, ⟨T21, L21, k21, n21⟩, -, X21, ⟨Lc21, hQ21, ql21, qy21, qz21⟩, st21⟩ := X19.virtualBack hx (y := (⟨"com/example/bindwire/bindwire/model/Constraint", "numbers", "()[D"⟩ : MethodName)) (z := (⟨"com/example/bindwire/bindwire/model/Constraint", "numbers", "()[D"⟩ : MethodName)) hown (mvT hZ (hw _ (List.mem_of_getElem? (i := 62) rfl))) (mvT hZ (hw _ (List.mem_of_getElem? (i := 63) rfl))) (notFace_of_selects (args := #[]) (mvT hZ (hw _ (List.mem_of_getElem? (i := 65) rfl)))) (mvT hZ (hw _ (List.mem_of_getElem? (i := 65) rfl))) (mvT hZ (hw _ (List.mem_of_getElem? (i := 64) rfl))) (by decide) (backOf (W := 0) (rm5 l Z a0 hw [] b17 z1 z5 z9 z13 z18 z23 z29 z35 z43  T19.heap n0 (Nat.le_trans (Nat.le_trans Z0 E17.1) K19q.1) Q19_5 Q19_6 Q19_7 Q19_8 Q19_9 Q19_10 Q19_11 Q19_12 Q19_13) hZ (hw _ (List.mem_of_getElem? (i := 66) rfl)) (hw _ (List.mem_of_getElem? (i := 9) rfl)) (by decide) (by decide)) q21a q21c (g := (mkF m 151 #[.val (.int p0), .val (.int p1), .val (.int p2), .val (.int p3), .val (.int p4), .val (.int p5), .val (.double z1), .second, .val (.double z5), .second, .val (.double z9), .second, .val (.double z13), .second, .val (.double z18), .second, .val (.double z23), .second, .val (.double z29), .second, .val (.double z35), .second, .val (.double z43), .second, .val (.ref r2), .val (.int z70), .val (.ref r8), .val (.int m104_s0), .val (.ref b17), .unset, .unset, .unset] [(.ref b17)])) rfl (by rw [hml]; rfl) (Steps.refl _) (argsL := []) (rest := []) (lenOf pd_3 rfl) rfl (by show 2 * 0 + _ ≤ _; exact Nat.le_of_eq rfl) (hb hby at_151) (fun _ _ => ⟨rfl, rfl, (by decide : 5 + 1 ≤ _), (by decide : 58 + 9 ≤ _)⟩)
  dsimp only [Pt.U, Pt.locs, Pt.cells, Pt.slots] at X21 ql21 qy21 qz21 st21 hQ21
  subst ql21 qy21 qz21
  obtain ⟨rb21_b1, kk21_k1, rfl, N21q, gz21_b1, K21q, Q21_0⟩ := hQ21
  have N21 := Fr.app N19 N21q
  have gn21_b1 : n0 ≤ rb21_b1 := Nat.le_trans (Nat.le_trans (Nat.le_trans Z0 E17.1) K19q.1) gz21_b1
  have gy21_b1 : h0.size ≤ rb21_b1 := Nat.le_trans (K20).1 gz21_b1
  have K22 : Keep h0 T21.heap [] := Keep.trans K20 K21q all0
  obtain ⟨cl23, Ar23, -, S23, Nn23, -, -⟩ := id Q21_0
  obtain ⟨cl24, Ar24, -, S24, -, Ha24, -⟩ := id Q21_0
  have in24 : ¬ ((0 : Int32) < 0 ∨ cl24.slots.size ≤ ((0 : Int32)).toNatClampNeg) := inb_of S24 ⟨by decide, by decide⟩
  have br178 := self hz1 hz177
  obtain ⟨cl25, Ar25, -, S25, -, Ha25, -⟩ := id Q21_0
  have in25 : ¬ ((1 : Int32) < 0 ∨ cl25.slots.size ≤ ((1 : Int32)).toNatClampNeg) := inb_of S25 ⟨by decide, by decide⟩
  have br188 := self hz5 hz187
  obtain ⟨cl26, Ar26, -, S26, -, Ha26, -⟩ := id Q21_0
  have in26 : ¬ ((2 : Int32) < 0 ∨ cl26.slots.size ≤ ((2 : Int32)).toNatClampNeg) := inb_of S26 ⟨by decide, by decide⟩
  have br198 := self hz9 hz197
  obtain ⟨cl27, Ar27, -, S27, -, Ha27, -⟩ := id Q21_0
  have in27 : ¬ ((3 : Int32) < 0 ∨ cl27.slots.size ≤ ((3 : Int32)).toNatClampNeg) := inb_of S27 ⟨by decide, by decide⟩
  have br208 := self hz13 hz207
  obtain ⟨cl28, Ar28, -, S28, -, Ha28, -⟩ := id Q21_0
  have in28 : ¬ ((4 : Int32) < 0 ∨ cl28.slots.size ≤ ((4 : Int32)).toNatClampNeg) := inb_of S28 ⟨by decide, by decide⟩
  have br218 := self hz18 hz217
  obtain ⟨cl29, Ar29, -, S29, -, Ha29, -⟩ := id Q21_0
  have in29 : ¬ ((5 : Int32) < 0 ∨ cl29.slots.size ≤ ((5 : Int32)).toNatClampNeg) := inb_of S29 ⟨by decide, by decide⟩
  have br228 := self hz23 hz227
  obtain ⟨cl30, Ar30, -, S30, -, Ha30, -⟩ := id Q21_0
  have in30 : ¬ ((6 : Int32) < 0 ∨ cl30.slots.size ≤ ((6 : Int32)).toNatClampNeg) := inb_of S30 ⟨by decide, by decide⟩
  have br239 := self hz29 hz238
  obtain ⟨cl31, Ar31, -, S31, -, Ha31, -⟩ := id Q21_0
  have in31 : ¬ ((7 : Int32) < 0 ∨ cl31.slots.size ≤ ((7 : Int32)).toNatClampNeg) := inb_of S31 ⟨by decide, by decide⟩
  have br250 := self hz35 hz249
  obtain ⟨cl32, Ar32, -, S32, -, Ha32, -⟩ := id Q21_0
  have in32 : ¬ ((8 : Int32) < 0 ∨ cl32.slots.size ≤ ((8 : Int32)).toNatClampNeg) := inb_of S32 ⟨by decide, by decide⟩
  have br261 := self hz43 hz260
  obtain ⟨cl33, Ar33, -, S33, -, Ha33, -⟩ := id Q21_0
  have in33 : ¬ ((0 : Int32) < 0 ∨ cl33.slots.size ≤ ((0 : Int32)).toNatClampNeg) := inb_of S33 ⟨by decide, by decide⟩
  have nn286 := add1 hz1 hz286
  obtain ⟨cl34, Ar34, q34, S34, Nn34, Ha34, G34⟩ := id Q21_0
  have in34 : ¬ ((0 : Int32) < 0 ∨ cl34.slots.size ≤ ((0 : Int32)).toNatClampNeg) := inb_of S34 ⟨by decide, by decide⟩
  obtain ⟨T35, h35, X35, e35, W35, st35⟩ := stD X21 hx hZ rfl Ar34 (j := (0 : Int32)) in34 (g := (mkF m 287 #[.val (.int p0), .val (.int p1), .val (.int p2), .val (.int p3), .val (.int p4), .val (.int p5), .val (.double z1), .second, .val (.double z5), .second, .val (.double z9), .second, .val (.double z13), .second, .val (.double z18), .second, .val (.double z23), .second, .val (.double z29), .second, .val (.double z35), .second, .val (.double z43), .second, .val (.ref r2), .val (.int z70), .val (.ref r8), .val (.int m104_s0), .val (.ref b17), .val (.ref rb21_b1), .val (.int (1 : Int32)), .unset] [(.double z286), (.int (0 : Int32)), (.ref rb21_b1)])) rfl rfl (hb hby at_287)
  have N35 := Fr.snoc X35 N21 gn21_b1
  have K36 : Keep h0 h35 [] := K22.wr W35 (Or.inr gy21_b1)
  have V35 : Arv Z h35 rb21_b1 kk21_k1 .double (9 : Int32) [(.double z286), (.double z5), (.double z9), (.double z13), (.double z18), (.double z23), (.double z29), (.double z35), (.double z43)] (.double (0 : UInt64)) := Arv.set Ar34 q34 S34 Nn34 Ha34 G34 rfl W35 0 rfl (show (0 : Nat) < 9 by decide)
  obtain ⟨cl37, Ar37, -, S37, -, Ha37, -⟩ := id V35
  have in37 : ¬ ((8 : Int32) < 0 ∨ cl37.slots.size ≤ ((8 : Int32)).toNatClampNeg) := inb_of S37 ⟨by decide, by decide⟩
  have nn298 := add1 hz43 hz298
  obtain ⟨cl38, Ar38, q38, S38, Nn38, Ha38, G38⟩ := id V35
  have in38 : ¬ ((8 : Int32) < 0 ∨ cl38.slots.size ≤ ((8 : Int32)).toNatClampNeg) := inb_of S38 ⟨by decide, by decide⟩
  obtain ⟨T39, h39, X39, e39, W39, st39⟩ := stD X35 hx hZ e35 Ar38 (j := (8 : Int32)) in38 (g := (mkF m 299 #[.val (.int p0), .val (.int p1), .val (.int p2), .val (.int p3), .val (.int p4), .val (.int p5), .val (.double z1), .second, .val (.double z5), .second, .val (.double z9), .second, .val (.double z13), .second, .val (.double z18), .second, .val (.double z23), .second, .val (.double z29), .second, .val (.double z35), .second, .val (.double z43), .second, .val (.ref r2), .val (.int z70), .val (.ref r8), .val (.int m104_s0), .val (.ref b17), .val (.ref rb21_b1), .val (.int (1 : Int32)), .unset] [(.double z298), (.int (8 : Int32)), (.ref rb21_b1)])) rfl rfl (hb hby at_299)
  have N39 := Fr.snoc X39 N35 gn21_b1
  have K40 : Keep h0 h39 [] := K36.wr W39 (Or.inr gy21_b1)
  have V39 : Arv Z h39 rb21_b1 kk21_k1 .double (9 : Int32) [(.double z286), (.double z5), (.double z9), (.double z13), (.double z18), (.double z23), (.double z29), (.double z35), (.double z298)] (.double (0 : UInt64)) := Arv.set Ar38 q38 S38 Nn38 Ha38 G38 rfl W39 8 rfl (show (8 : Nat) < 9 by decide)
  have f41 := (((Q19_5.keep K21q nin0).other W35 (Or.inl (Nat.ne_of_lt (Nat.lt_of_lt_of_le (Q19_0).lt gz21_b1)))).other W39 (Or.inl (Nat.ne_of_lt (Nat.lt_of_lt_of_le (Q19_0).lt gz21_b1))))
  have f42 := (((Q19_6.keep K21q nin0).other W35 (Or.inl (Nat.ne_of_lt (Nat.lt_of_lt_of_le (Q19_0).lt gz21_b1)))).other W39 (Or.inl (Nat.ne_of_lt (Nat.lt_of_lt_of_le (Q19_0).lt gz21_b1))))
  have f43 := (((Q19_7.keep K21q nin0).other W35 (Or.inl (Nat.ne_of_lt (Nat.lt_of_lt_of_le (Q19_0).lt gz21_b1)))).other W39 (Or.inl (Nat.ne_of_lt (Nat.lt_of_lt_of_le (Q19_0).lt gz21_b1))))
  have f44 := (((Q19_8.keep K21q nin0).other W35 (Or.inl (Nat.ne_of_lt (Nat.lt_of_lt_of_le (Q19_0).lt gz21_b1)))).other W39 (Or.inl (Nat.ne_of_lt (Nat.lt_of_lt_of_le (Q19_0).lt gz21_b1))))
  have f45 := (((Q19_9.keep K21q nin0).other W35 (Or.inl (Nat.ne_of_lt (Nat.lt_of_lt_of_le (Q19_0).lt gz21_b1)))).other W39 (Or.inl (Nat.ne_of_lt (Nat.lt_of_lt_of_le (Q19_0).lt gz21_b1))))
  have f46 := (((Q19_10.keep K21q nin0).other W35 (Or.inl (Nat.ne_of_lt (Nat.lt_of_lt_of_le (Q19_0).lt gz21_b1)))).other W39 (Or.inl (Nat.ne_of_lt (Nat.lt_of_lt_of_le (Q19_0).lt gz21_b1))))
  have f47 := (((Q19_11.keep K21q nin0).other W35 (Or.inl (Nat.ne_of_lt (Nat.lt_of_lt_of_le (Q19_0).lt gz21_b1)))).other W39 (Or.inl (Nat.ne_of_lt (Nat.lt_of_lt_of_le (Q19_0).lt gz21_b1))))
  have f48 := (((Q19_12.keep K21q nin0).other W35 (Or.inl (Nat.ne_of_lt (Nat.lt_of_lt_of_le (Q19_0).lt gz21_b1)))).other W39 (Or.inl (Nat.ne_of_lt (Nat.lt_of_lt_of_le (Q19_0).lt gz21_b1))))
  have f49 := (((Q19_13.keep K21q nin0).other W35 (Or.inl (Nat.ne_of_lt (Nat.lt_of_lt_of_le (Q19_0).lt gz21_b1)))).other W39 (Or.inl (Nat.ne_of_lt (Nat.lt_of_lt_of_le (Q19_0).lt gz21_b1))))
  have f51 := (((Q19_0.keep K21q).wr W35).wr W39)
  obtain ⟨cq50, kq50, q50a, q50b, q50c⟩ := isOf hZ e39 f51
  obtain ⟨_, _, ⟨T50, L50, k50, n50⟩, -, X50, ⟨Lc50, hQ50, ql50, qy50, qz50⟩, st50⟩ := X39.virtualBack hx (y := (⟨"com/example/bindwire/bindwire/model/Constraint", "numbers", "()[D"⟩ : MethodName)) (z := (⟨"com/example/bindwire/bindwire/model/Constraint", "numbers", "()[D"⟩ : MethodName)) hown (mvT hZ (hw _ (List.mem_of_getElem? (i := 62) rfl))) (mvT hZ (hw _ (List.mem_of_getElem? (i := 63) rfl))) (notFace_of_selects (args := #[]) (mvT hZ (hw _ (List.mem_of_getElem? (i := 65) rfl)))) (mvT hZ (hw _ (List.mem_of_getElem? (i := 65) rfl))) (mvT hZ (hw _ (List.mem_of_getElem? (i := 64) rfl))) (by decide) (backOf (W := 0) (rm5 l Z a0 hw [] b17 z1 z5 z9 z13 z18 z23 z29 z35 z43  h39 n0 (Nat.le_trans (Nat.le_trans (Nat.le_trans (Nat.le_trans (Nat.le_trans Z0 E17.1) K19q.1) K21q.1) (Keep.of_wr W35).1) (Keep.of_wr W39).1) f41 f42 f43 f44 f45 f46 f47 f48 f49) hZ (hw _ (List.mem_of_getElem? (i := 66) rfl)) (hw _ (List.mem_of_getElem? (i := 9) rfl)) (by decide) (by decide)) q50a q50c (g := (mkF m 302 #[.val (.int p0), .val (.int p1), .val (.int p2), .val (.int p3), .val (.int p4), .val (.int p5), .val (.double z1), .second, .val (.double z5), .second, .val (.double z9), .second, .val (.double z13), .second, .val (.double z18), .second, .val (.double z23), .second, .val (.double z29), .second, .val (.double z35), .second, .val (.double z43), .second, .val (.ref r2), .val (.int z70), .val (.ref r8), .val (.int m104_s0), .val (.ref b17), .val (.ref rb21_b1), .val (.int (1 : Int32)), .unset] [(.ref b17)])) rfl (by rw [hml]; rfl) (Steps.refl _) (argsL := []) (rest := []) (lenOf pd_3 rfl) rfl (by show 2 * 0 + _ ≤ _; exact Nat.le_of_eq rfl) (hb hby at_302) (fun _ _ => ⟨rfl, e39, (by decide : 6 + 1 ≤ _), (by decide : 67 + 9 ≤ _)⟩)
  dsimp only [Pt.U, Pt.locs, Pt.cells, Pt.slots] at X50 ql50 qy50 qz50 st50 hQ50
  subst ql50 qy50 qz50
  obtain ⟨rb50_b1, kk50_k1, rfl, N50q, gz50_b1, K50q, Q50_0⟩ := hQ50
  have N50 := Fr.app N39 N50q
  have gn50_b1 : n0 ≤ rb50_b1 := Nat.le_trans (Nat.le_trans (Nat.le_trans (Nat.le_trans (Nat.le_trans (Nat.le_trans Z0 E17.1) K19q.1) K21q.1) (Keep.of_wr W35).1) (Keep.of_wr W39).1) gz50_b1
  have gy50_b1 : h0.size ≤ rb50_b1 := Nat.le_trans (K40).1 gz50_b1
  have K52 : Keep h0 T50.heap [] := Keep.trans K40 K50q all0
  obtain ⟨cl53, Ar53, -, S53, Nn53, -, -⟩ := id Q50_0
  obtain ⟨cl54, Ar54, -, S54, -, Ha54, -⟩ := id Q50_0
  have in54 : ¬ ((0 : Int32) < 0 ∨ cl54.slots.size ≤ ((0 : Int32)).toNatClampNeg) := inb_of S54 ⟨by decide, by decide⟩
  have br336 := self hz1 hz335
  obtain ⟨cl55, Ar55, -, S55, -, Ha55, -⟩ := id Q50_0
  have in55 : ¬ ((1 : Int32) < 0 ∨ cl55.slots.size ≤ ((1 : Int32)).toNatClampNeg) := inb_of S55 ⟨by decide, by decide⟩
  have br346 := self hz5 hz345
  obtain ⟨cl56, Ar56, -, S56, -, Ha56, -⟩ := id Q50_0
  have in56 : ¬ ((2 : Int32) < 0 ∨ cl56.slots.size ≤ ((2 : Int32)).toNatClampNeg) := inb_of S56 ⟨by decide, by decide⟩
  have br356 := self hz9 hz355
  obtain ⟨cl57, Ar57, -, S57, -, Ha57, -⟩ := id Q50_0
  have in57 : ¬ ((3 : Int32) < 0 ∨ cl57.slots.size ≤ ((3 : Int32)).toNatClampNeg) := inb_of S57 ⟨by decide, by decide⟩
  have br366 := self hz13 hz365
  obtain ⟨cl58, Ar58, -, S58, -, Ha58, -⟩ := id Q50_0
  have in58 : ¬ ((4 : Int32) < 0 ∨ cl58.slots.size ≤ ((4 : Int32)).toNatClampNeg) := inb_of S58 ⟨by decide, by decide⟩
  have br376 := self hz18 hz375
  obtain ⟨cl59, Ar59, -, S59, -, Ha59, -⟩ := id Q50_0
  have in59 : ¬ ((5 : Int32) < 0 ∨ cl59.slots.size ≤ ((5 : Int32)).toNatClampNeg) := inb_of S59 ⟨by decide, by decide⟩
  have br386 := self hz23 hz385
  obtain ⟨cl60, Ar60, -, S60, -, Ha60, -⟩ := id Q50_0
  have in60 : ¬ ((6 : Int32) < 0 ∨ cl60.slots.size ≤ ((6 : Int32)).toNatClampNeg) := inb_of S60 ⟨by decide, by decide⟩
  have br397 := self hz29 hz396
  obtain ⟨cl61, Ar61, -, S61, -, Ha61, -⟩ := id Q50_0
  have in61 : ¬ ((7 : Int32) < 0 ∨ cl61.slots.size ≤ ((7 : Int32)).toNatClampNeg) := inb_of S61 ⟨by decide, by decide⟩
  have br408 := self hz35 hz407
  obtain ⟨cl62, Ar62, -, S62, -, Ha62, -⟩ := id Q50_0
  have in62 : ¬ ((8 : Int32) < 0 ∨ cl62.slots.size ≤ ((8 : Int32)).toNatClampNeg) := inb_of S62 ⟨by decide, by decide⟩
  have br419 := self hz43 hz418
  have f63 := (f41.keep K50q nin0)
  have f65 := (f51.keep K50q)
  obtain ⟨cq64, kq64, q64a, q64b, q64c⟩ := isOf hZ rfl f65
  obtain ⟨_, _, ⟨T64, L64, k64, n64⟩, -, X64, ⟨Lc64, hQ64, ql64, qy64, qz64⟩, st64⟩ := X50.virtualBack hx (y := (⟨"com/example/bindwire/bindwire/model/Constraint", "k1", "()D"⟩ : MethodName)) (z := (⟨"com/example/bindwire/bindwire/model/Constraint", "k1", "()D"⟩ : MethodName)) hown (mvT hZ (hw _ (List.mem_of_getElem? (i := 68) rfl))) (mvT hZ (hw _ (List.mem_of_getElem? (i := 69) rfl))) (notFace_of_selects (args := #[]) (mvT hZ (hw _ (List.mem_of_getElem? (i := 71) rfl)))) (mvT hZ (hw _ (List.mem_of_getElem? (i := 71) rfl))) (mvT hZ (hw _ (List.mem_of_getElem? (i := 70) rfl))) (by decide) (backOf (W := 0) (rm6 l Z a0 hw [] b17 z1  T50.heap n0 (Nat.le_trans (Nat.le_trans (Nat.le_trans (Nat.le_trans (Nat.le_trans (Nat.le_trans Z0 E17.1) K19q.1) K21q.1) (Keep.of_wr W35).1) (Keep.of_wr W39).1) K50q.1) f63) hZ (hw _ (List.mem_of_getElem? (i := 72) rfl)) (hw _ (List.mem_of_getElem? (i := 9) rfl)) (by decide) (by decide)) q64a q64c (g := (mkF m 424 #[.val (.int p0), .val (.int p1), .val (.int p2), .val (.int p3), .val (.int p4), .val (.int p5), .val (.double z1), .second, .val (.double z5), .second, .val (.double z9), .second, .val (.double z13), .second, .val (.double z18), .second, .val (.double z23), .second, .val (.double z29), .second, .val (.double z35), .second, .val (.double z43), .second, .val (.ref r2), .val (.int z70), .val (.ref r8), .val (.int m104_s0), .val (.ref b17), .val (.ref rb21_b1), .val (.int (1 : Int32)), .val (.ref rb50_b1)] [(.ref b17)])) rfl (by rw [hml]; rfl) (Steps.refl _) (argsL := []) (rest := []) (lenOf pd_4 rfl) rfl (by show 2 * 0 + _ ≤ _; exact Nat.le_of_eq rfl) (hb hby at_424) (fun _ _ => ⟨rfl, rfl, (by decide : 7 + 0 ≤ _), (by decide : 76 + 0 ≤ _)⟩)
  dsimp only [Pt.U, Pt.locs, Pt.cells, Pt.slots] at X64 ql64 qy64 qz64 st64 hQ64
  subst ql64 qy64 qz64
  obtain ⟨rfl, N64q, e64⟩ := hQ64
  have N64 := Fr.app N50 N64q
  have br430 := self hz1 hz429
  have f66 := (f49.keep K50q nin0)
  obtain ⟨cq67, kq67, q67a, q67b, q67c⟩ := isOf hZ e64 f65
  obtain ⟨_, _, ⟨T67, L67, k67, n67⟩, -, X67, ⟨Lc67, hQ67, ql67, qy67, qz67⟩, st67⟩ := X64.virtualBack hx (y := (⟨"com/example/bindwire/bindwire/model/Constraint", "loading", "()D"⟩ : MethodName)) (z := (⟨"com/example/bindwire/bindwire/model/Constraint", "loading", "()D"⟩ : MethodName)) hown (mvT hZ (hw _ (List.mem_of_getElem? (i := 73) rfl))) (mvT hZ (hw _ (List.mem_of_getElem? (i := 74) rfl))) (notFace_of_selects (args := #[]) (mvT hZ (hw _ (List.mem_of_getElem? (i := 76) rfl)))) (mvT hZ (hw _ (List.mem_of_getElem? (i := 76) rfl))) (mvT hZ (hw _ (List.mem_of_getElem? (i := 75) rfl))) (by decide) (backOf (W := 0) (rm7 l Z a0 hw [] b17 z43  T50.heap n0 (Nat.le_trans (Nat.le_trans (Nat.le_trans (Nat.le_trans (Nat.le_trans (Nat.le_trans Z0 E17.1) K19q.1) K21q.1) (Keep.of_wr W35).1) (Keep.of_wr W39).1) K50q.1) f66) hZ (hw _ (List.mem_of_getElem? (i := 77) rfl)) (hw _ (List.mem_of_getElem? (i := 9) rfl)) (by decide) (by decide)) q67a q67c (g := (mkF m 435 #[.val (.int p0), .val (.int p1), .val (.int p2), .val (.int p3), .val (.int p4), .val (.int p5), .val (.double z1), .second, .val (.double z5), .second, .val (.double z9), .second, .val (.double z13), .second, .val (.double z18), .second, .val (.double z23), .second, .val (.double z29), .second, .val (.double z35), .second, .val (.double z43), .second, .val (.ref r2), .val (.int z70), .val (.ref r8), .val (.int m104_s0), .val (.ref b17), .val (.ref rb21_b1), .val (.int (1 : Int32)), .val (.ref rb50_b1)] [(.ref b17)])) rfl (by rw [hml]; rfl) (Steps.refl _) (argsL := []) (rest := []) (lenOf pd_4 rfl) rfl (by show 2 * 0 + _ ≤ _; exact Nat.le_of_eq rfl) (hb hby at_435) (fun _ _ => ⟨rfl, e64, (by decide : 7 + 0 ≤ _), (by decide : 76 + 0 ≤ _)⟩)
  dsimp only [Pt.U, Pt.locs, Pt.cells, Pt.slots] at X67 ql67 qy67 qz67 st67 hQ67
  subst ql67 qy67 qz67
  obtain ⟨rfl, N67q, e67⟩ := hQ67
  have N67 := Fr.app N64 N67q
  have br441 := self hz43 hz440
  have c68 : ∀ t, Steps p.tables e below (T67.setTop (mkF m 449 #[.val (.int p0), .val (.int p1), .val (.int p2), .val (.int p3), .val (.int p4), .val (.int p5), .val (.double z1), .second, .val (.double z5), .second, .val (.double z9), .second, .val (.double z13), .second, .val (.double z18), .second, .val (.double z23), .second, .val (.double z29), .second, .val (.double z35), .second, .val (.double z43), .second, .val (.ref r2), .val (.int z70), .val (.ref r8), .val (.int m104_s0), .val (.ref b17), .val (.ref rb21_b1), .val (.int (1 : Int32)), .val (.ref rb50_b1)] [(.int (1 : Int32))])) t → Steps p.tables e below (s₁.setTop (entryFrame m #[(.int p0), (.int p1), (.int p2), (.int p3), (.int p4), (.int p5)] maxLocals)) t := by
    intro t k
    refine c16 t ?_
    show Steps p.tables e below (T8.setTop (mkF m 112 #[.val (.int p0), .val (.int p1), .val (.int p2), .val (.int p3), .val (.int p4), .val (.int p5), .val (.double z1), .second, .val (.double z5), .second, .val (.double z9), .second, .val (.double z13), .second, .val (.double z18), .second, .val (.double z23), .second, .val (.double z29), .second, .val (.double z35), .second, .val (.double z43), .second, .val (.ref r2), .val (.int z70), .val (.ref r8), .unset, .unset, .unset, .unset, .unset] [(.int m104_s0)])) _
    refine XS.istore X8.here hx rfl (hb hby at_112) rfl (l' := #[.val (.int p0), .val (.int p1), .val (.int p2), .val (.int p3), .val (.int p4), .val (.int p5), .val (.double z1), .second, .val (.double z5), .second, .val (.double z9), .second, .val (.double z13), .second, .val (.double z18), .second, .val (.double z23), .second, .val (.double z29), .second, .val (.double z35), .second, .val (.double z43), .second, .val (.ref r2), .val (.int z70), .val (.ref r8), .val (.int m104_s0), .unset, .unset, .unset, .unset]) rfl ?_
    show Steps p.tables e below (T8.setTop (mkF m 114 #[.val (.int p0), .val (.int p1), .val (.int p2), .val (.int p3), .val (.int p4), .val (.int p5), .val (.double z1), .second, .val (.double z5), .second, .val (.double z9), .second, .val (.double z13), .second, .val (.double z18), .second, .val (.double z23), .second, .val (.double z29), .second, .val (.double z35), .second, .val (.double z43), .second, .val (.ref r2), .val (.int z70), .val (.ref r8), .val (.int m104_s0), .unset, .unset, .unset, .unset] [])) _
    refine st17 _ ?_
    show Steps p.tables e below (T17.setTop (mkF m 117 #[.val (.int p0), .val (.int p1), .val (.int p2), .val (.int p3), .val (.int p4), .val (.int p5), .val (.double z1), .second, .val (.double z5), .second, .val (.double z9), .second, .val (.double z13), .second, .val (.double z18), .second, .val (.double z23), .second, .val (.double z29), .second, .val (.double z35), .second, .val (.double z43), .second, .val (.ref r2), .val (.int z70), .val (.ref r8), .val (.int m104_s0), .unset, .unset, .unset, .unset] [(.ref b17)])) _
    refine XS.dup X17.here hx rfl (hb hby at_117) rfl rfl ?_
    show Steps p.tables e below (T17.setTop (mkF m 118 #[.val (.int p0), .val (.int p1), .val (.int p2), .val (.int p3), .val (.int p4), .val (.int p5), .val (.double z1), .second, .val (.double z5), .second, .val (.double z9), .second, .val (.double z13), .second, .val (.double z18), .second, .val (.double z23), .second, .val (.double z29), .second, .val (.double z35), .second, .val (.double z43), .second, .val (.ref r2), .val (.int z70), .val (.ref r8), .val (.int m104_s0), .unset, .unset, .unset, .unset] [(.ref b17), (.ref b17)])) _
    refine XS.iloadN X17.here hx rfl (hb hby at_118) rfl ?_
    show Steps p.tables e below (T17.setTop (mkF m 119 #[.val (.int p0), .val (.int p1), .val (.int p2), .val (.int p3), .val (.int p4), .val (.int p5), .val (.double z1), .second, .val (.double z5), .second, .val (.double z9), .second, .val (.double z13), .second, .val (.double z18), .second, .val (.double z23), .second, .val (.double z29), .second, .val (.double z35), .second, .val (.double z43), .second, .val (.ref r2), .val (.int z70), .val (.ref r8), .val (.int m104_s0), .unset, .unset, .unset, .unset] [(.int p0), (.ref b17), (.ref b17)])) _
    refine XS.iloadN X17.here hx rfl (hb hby at_119) rfl ?_
    show Steps p.tables e below (T17.setTop (mkF m 120 #[.val (.int p0), .val (.int p1), .val (.int p2), .val (.int p3), .val (.int p4), .val (.int p5), .val (.double z1), .second, .val (.double z5), .second, .val (.double z9), .second, .val (.double z13), .second, .val (.double z18), .second, .val (.double z23), .second, .val (.double z29), .second, .val (.double z35), .second, .val (.double z43), .second, .val (.ref r2), .val (.int z70), .val (.ref r8), .val (.int m104_s0), .unset, .unset, .unset, .unset] [(.int p1), (.int p0), (.ref b17), (.ref b17)])) _
    refine XS.aload X17.here hx rfl (hb hby at_120) rfl rfl ?_
    show Steps p.tables e below (T17.setTop (mkF m 122 #[.val (.int p0), .val (.int p1), .val (.int p2), .val (.int p3), .val (.int p4), .val (.int p5), .val (.double z1), .second, .val (.double z5), .second, .val (.double z9), .second, .val (.double z13), .second, .val (.double z18), .second, .val (.double z23), .second, .val (.double z29), .second, .val (.double z35), .second, .val (.double z43), .second, .val (.ref r2), .val (.int z70), .val (.ref r8), .val (.int m104_s0), .unset, .unset, .unset, .unset] [(.ref r2), (.int p1), (.int p0), (.ref b17), (.ref b17)])) _
    refine XS.aload X17.here hx rfl (hb hby at_122) rfl rfl ?_
    show Steps p.tables e below (T17.setTop (mkF m 124 #[.val (.int p0), .val (.int p1), .val (.int p2), .val (.int p3), .val (.int p4), .val (.int p5), .val (.double z1), .second, .val (.double z5), .second, .val (.double z9), .second, .val (.double z13), .second, .val (.double z18), .second, .val (.double z23), .second, .val (.double z29), .second, .val (.double z35), .second, .val (.double z43), .second, .val (.ref r2), .val (.int z70), .val (.ref r8), .val (.int m104_s0), .unset, .unset, .unset, .unset] [(.ref r8), (.ref r2), (.int p1), (.int p0), (.ref b17), (.ref b17)])) _
    refine XS.dload X17.here hx rfl (hb hby at_124) rfl ?_
    show Steps p.tables e below (T17.setTop (mkF m 126 #[.val (.int p0), .val (.int p1), .val (.int p2), .val (.int p3), .val (.int p4), .val (.int p5), .val (.double z1), .second, .val (.double z5), .second, .val (.double z9), .second, .val (.double z13), .second, .val (.double z18), .second, .val (.double z23), .second, .val (.double z29), .second, .val (.double z35), .second, .val (.double z43), .second, .val (.ref r2), .val (.int z70), .val (.ref r8), .val (.int m104_s0), .unset, .unset, .unset, .unset] [(.double z1), (.ref r8), (.ref r2), (.int p1), (.int p0), (.ref b17), (.ref b17)])) _
    refine XS.dload X17.here hx rfl (hb hby at_126) rfl ?_
    show Steps p.tables e below (T17.setTop (mkF m 128 #[.val (.int p0), .val (.int p1), .val (.int p2), .val (.int p3), .val (.int p4), .val (.int p5), .val (.double z1), .second, .val (.double z5), .second, .val (.double z9), .second, .val (.double z13), .second, .val (.double z18), .second, .val (.double z23), .second, .val (.double z29), .second, .val (.double z35), .second, .val (.double z43), .second, .val (.ref r2), .val (.int z70), .val (.ref r8), .val (.int m104_s0), .unset, .unset, .unset, .unset] [(.double z5), (.double z1), (.ref r8), (.ref r2), (.int p1), (.int p0), (.ref b17), (.ref b17)])) _
    refine XS.dload X17.here hx rfl (hb hby at_128) rfl ?_
    show Steps p.tables e below (T17.setTop (mkF m 130 #[.val (.int p0), .val (.int p1), .val (.int p2), .val (.int p3), .val (.int p4), .val (.int p5), .val (.double z1), .second, .val (.double z5), .second, .val (.double z9), .second, .val (.double z13), .second, .val (.double z18), .second, .val (.double z23), .second, .val (.double z29), .second, .val (.double z35), .second, .val (.double z43), .second, .val (.ref r2), .val (.int z70), .val (.ref r8), .val (.int m104_s0), .unset, .unset, .unset, .unset] [(.double z9), (.double z5), (.double z1), (.ref r8), (.ref r2), (.int p1), (.int p0), (.ref b17), (.ref b17)])) _
    refine XS.dload X17.here hx rfl (hb hby at_130) rfl ?_
    show Steps p.tables e below (T17.setTop (mkF m 132 #[.val (.int p0), .val (.int p1), .val (.int p2), .val (.int p3), .val (.int p4), .val (.int p5), .val (.double z1), .second, .val (.double z5), .second, .val (.double z9), .second, .val (.double z13), .second, .val (.double z18), .second, .val (.double z23), .second, .val (.double z29), .second, .val (.double z35), .second, .val (.double z43), .second, .val (.ref r2), .val (.int z70), .val (.ref r8), .val (.int m104_s0), .unset, .unset, .unset, .unset] [(.double z13), (.double z9), (.double z5), (.double z1), (.ref r8), (.ref r2), (.int p1), (.int p0), (.ref b17), (.ref b17)])) _
    refine XS.dload X17.here hx rfl (hb hby at_132) rfl ?_
    show Steps p.tables e below (T17.setTop (mkF m 134 #[.val (.int p0), .val (.int p1), .val (.int p2), .val (.int p3), .val (.int p4), .val (.int p5), .val (.double z1), .second, .val (.double z5), .second, .val (.double z9), .second, .val (.double z13), .second, .val (.double z18), .second, .val (.double z23), .second, .val (.double z29), .second, .val (.double z35), .second, .val (.double z43), .second, .val (.ref r2), .val (.int z70), .val (.ref r8), .val (.int m104_s0), .unset, .unset, .unset, .unset] [(.double z18), (.double z13), (.double z9), (.double z5), (.double z1), (.ref r8), (.ref r2), (.int p1), (.int p0), (.ref b17), (.ref b17)])) _
    refine XS.dload X17.here hx rfl (hb hby at_134) rfl ?_
    show Steps p.tables e below (T17.setTop (mkF m 136 #[.val (.int p0), .val (.int p1), .val (.int p2), .val (.int p3), .val (.int p4), .val (.int p5), .val (.double z1), .second, .val (.double z5), .second, .val (.double z9), .second, .val (.double z13), .second, .val (.double z18), .second, .val (.double z23), .second, .val (.double z29), .second, .val (.double z35), .second, .val (.double z43), .second, .val (.ref r2), .val (.int z70), .val (.ref r8), .val (.int m104_s0), .unset, .unset, .unset, .unset] [(.double z23), (.double z18), (.double z13), (.double z9), (.double z5), (.double z1), (.ref r8), (.ref r2), (.int p1), (.int p0), (.ref b17), (.ref b17)])) _
    refine XS.dload X17.here hx rfl (hb hby at_136) rfl ?_
    show Steps p.tables e below (T17.setTop (mkF m 138 #[.val (.int p0), .val (.int p1), .val (.int p2), .val (.int p3), .val (.int p4), .val (.int p5), .val (.double z1), .second, .val (.double z5), .second, .val (.double z9), .second, .val (.double z13), .second, .val (.double z18), .second, .val (.double z23), .second, .val (.double z29), .second, .val (.double z35), .second, .val (.double z43), .second, .val (.ref r2), .val (.int z70), .val (.ref r8), .val (.int m104_s0), .unset, .unset, .unset, .unset] [(.double z29), (.double z23), (.double z18), (.double z13), (.double z9), (.double z5), (.double z1), (.ref r8), (.ref r2), (.int p1), (.int p0), (.ref b17), (.ref b17)])) _
    refine XS.dload X17.here hx rfl (hb hby at_138) rfl ?_
    show Steps p.tables e below (T17.setTop (mkF m 140 #[.val (.int p0), .val (.int p1), .val (.int p2), .val (.int p3), .val (.int p4), .val (.int p5), .val (.double z1), .second, .val (.double z5), .second, .val (.double z9), .second, .val (.double z13), .second, .val (.double z18), .second, .val (.double z23), .second, .val (.double z29), .second, .val (.double z35), .second, .val (.double z43), .second, .val (.ref r2), .val (.int z70), .val (.ref r8), .val (.int m104_s0), .unset, .unset, .unset, .unset] [(.double z35), (.double z29), (.double z23), (.double z18), (.double z13), (.double z9), (.double z5), (.double z1), (.ref r8), (.ref r2), (.int p1), (.int p0), (.ref b17), (.ref b17)])) _
    refine XS.dload X17.here hx rfl (hb hby at_140) rfl ?_
    show Steps p.tables e below (T17.setTop (mkF m 142 #[.val (.int p0), .val (.int p1), .val (.int p2), .val (.int p3), .val (.int p4), .val (.int p5), .val (.double z1), .second, .val (.double z5), .second, .val (.double z9), .second, .val (.double z13), .second, .val (.double z18), .second, .val (.double z23), .second, .val (.double z29), .second, .val (.double z35), .second, .val (.double z43), .second, .val (.ref r2), .val (.int z70), .val (.ref r8), .val (.int m104_s0), .unset, .unset, .unset, .unset] [(.double z43), (.double z35), (.double z29), (.double z23), (.double z18), (.double z13), (.double z9), (.double z5), (.double z1), (.ref r8), (.ref r2), (.int p1), (.int p0), (.ref b17), (.ref b17)])) _
    refine XS.iload X17.here hx rfl (hb hby at_142) rfl ?_
    show Steps p.tables e below (T17.setTop (mkF m 144 #[.val (.int p0), .val (.int p1), .val (.int p2), .val (.int p3), .val (.int p4), .val (.int p5), .val (.double z1), .second, .val (.double z5), .second, .val (.double z9), .second, .val (.double z13), .second, .val (.double z18), .second, .val (.double z23), .second, .val (.double z29), .second, .val (.double z35), .second, .val (.double z43), .second, .val (.ref r2), .val (.int z70), .val (.ref r8), .val (.int m104_s0), .unset, .unset, .unset, .unset] [(.int m104_s0), (.double z43), (.double z35), (.double z29), (.double z23), (.double z18), (.double z13), (.double z9), (.double z5), (.double z1), (.ref r8), (.ref r2), (.int p1), (.int p0), (.ref b17), (.ref b17)])) _
    refine st19.trans ?_
    show Steps p.tables e below (T19.setTop (mkF m 147 #[.val (.int p0), .val (.int p1), .val (.int p2), .val (.int p3), .val (.int p4), .val (.int p5), .val (.double z1), .second, .val (.double z5), .second, .val (.double z9), .second, .val (.double z13), .second, .val (.double z18), .second, .val (.double z23), .second, .val (.double z29), .second, .val (.double z35), .second, .val (.double z43), .second, .val (.ref r2), .val (.int z70), .val (.ref r8), .val (.int m104_s0), .unset, .unset, .unset, .unset] [(.ref b17)])) _
    refine XS.astore X19.here hx rfl (hb hby at_147) rfl rfl (l' := #[.val (.int p0), .val (.int p1), .val (.int p2), .val (.int p3), .val (.int p4), .val (.int p5), .val (.double z1), .second, .val (.double z5), .second, .val (.double z9), .second, .val (.double z13), .second, .val (.double z18), .second, .val (.double z23), .second, .val (.double z29), .second, .val (.double z35), .second, .val (.double z43), .second, .val (.ref r2), .val (.int z70), .val (.ref r8), .val (.int m104_s0), .val (.ref b17), .unset, .unset, .unset]) rfl ?_
    show Steps p.tables e below (T19.setTop (mkF m 149 #[.val (.int p0), .val (.int p1), .val (.int p2), .val (.int p3), .val (.int p4), .val (.int p5), .val (.double z1), .second, .val (.double z5), .second, .val (.double z9), .second, .val (.double z13), .second, .val (.double z18), .second, .val (.double z23), .second, .val (.double z29), .second, .val (.double z35), .second, .val (.double z43), .second, .val (.ref r2), .val (.int z70), .val (.ref r8), .val (.int m104_s0), .val (.ref b17), .unset, .unset, .unset] [])) _
    refine XS.aload X19.here hx rfl (hb hby at_149) rfl rfl ?_
    show Steps p.tables e below (T19.setTop (mkF m 151 #[.val (.int p0), .val (.int p1), .val (.int p2), .val (.int p3), .val (.int p4), .val (.int p5), .val (.double z1), .second, .val (.double z5), .second, .val (.double z9), .second, .val (.double z13), .second, .val (.double z18), .second, .val (.double z23), .second, .val (.double z29), .second, .val (.double z35), .second, .val (.double z43), .second, .val (.ref r2), .val (.int z70), .val (.ref r8), .val (.int m104_s0), .val (.ref b17), .unset, .unset, .unset] [(.ref b17)])) _
    refine st21.trans ?_
    show Steps p.tables e below (T21.setTop (mkF m 154 #[.val (.int p0), .val (.int p1), .val (.int p2), .val (.int p3), .val (.int p4), .val (.int p5), .val (.double z1), .second, .val (.double z5), .second, .val (.double z9), .second, .val (.double z13), .second, .val (.double z18), .second, .val (.double z23), .second, .val (.double z29), .second, .val (.double z35), .second, .val (.double z43), .second, .val (.ref r2), .val (.int z70), .val (.ref r8), .val (.int m104_s0), .val (.ref b17), .unset, .unset, .unset] [(.ref rb21_b1)])) _
    refine XS.astore X21.here hx rfl (hb hby at_154) rfl rfl (l' := #[.val (.int p0), .val (.int p1), .val (.int p2), .val (.int p3), .val (.int p4), .val (.int p5), .val (.double z1), .second, .val (.double z5), .second, .val (.double z9), .second, .val (.double z13), .second, .val (.double z18), .second, .val (.double z23), .second, .val (.double z29), .second, .val (.double z35), .second, .val (.double z43), .second, .val (.ref r2), .val (.int z70), .val (.ref r8), .val (.int m104_s0), .val (.ref b17), .val (.ref rb21_b1), .unset, .unset]) rfl ?_
    show Steps p.tables e below (T21.setTop (mkF m 156 #[.val (.int p0), .val (.int p1), .val (.int p2), .val (.int p3), .val (.int p4), .val (.int p5), .val (.double z1), .second, .val (.double z5), .second, .val (.double z9), .second, .val (.double z13), .second, .val (.double z18), .second, .val (.double z23), .second, .val (.double z29), .second, .val (.double z35), .second, .val (.double z43), .second, .val (.ref r2), .val (.int z70), .val (.ref r8), .val (.int m104_s0), .val (.ref b17), .val (.ref rb21_b1), .unset, .unset] [])) _
    refine XS.aload X21.here hx rfl (hb hby at_156) rfl rfl ?_
    show Steps p.tables e below (T21.setTop (mkF m 158 #[.val (.int p0), .val (.int p1), .val (.int p2), .val (.int p3), .val (.int p4), .val (.int p5), .val (.double z1), .second, .val (.double z5), .second, .val (.double z9), .second, .val (.double z13), .second, .val (.double z18), .second, .val (.double z23), .second, .val (.double z29), .second, .val (.double z35), .second, .val (.double z43), .second, .val (.ref r2), .val (.int z70), .val (.ref r8), .val (.int m104_s0), .val (.ref b17), .val (.ref rb21_b1), .unset, .unset] [(.ref rb21_b1)])) _
    refine XS.ifnullNo X21.here hx rfl (hb hby at_158) rfl ?_
    show Steps p.tables e below (T21.setTop (mkF m 161 #[.val (.int p0), .val (.int p1), .val (.int p2), .val (.int p3), .val (.int p4), .val (.int p5), .val (.double z1), .second, .val (.double z5), .second, .val (.double z9), .second, .val (.double z13), .second, .val (.double z18), .second, .val (.double z23), .second, .val (.double z29), .second, .val (.double z35), .second, .val (.double z43), .second, .val (.ref r2), .val (.int z70), .val (.ref r8), .val (.int m104_s0), .val (.ref b17), .val (.ref rb21_b1), .unset, .unset] [])) _
    refine XS.aload X21.here hx rfl (hb hby at_161) rfl rfl ?_
    show Steps p.tables e below (T21.setTop (mkF m 163 #[.val (.int p0), .val (.int p1), .val (.int p2), .val (.int p3), .val (.int p4), .val (.int p5), .val (.double z1), .second, .val (.double z5), .second, .val (.double z9), .second, .val (.double z13), .second, .val (.double z18), .second, .val (.double z23), .second, .val (.double z29), .second, .val (.double z35), .second, .val (.double z43), .second, .val (.ref r2), .val (.int z70), .val (.ref r8), .val (.int m104_s0), .val (.ref b17), .val (.ref rb21_b1), .unset, .unset] [(.ref rb21_b1)])) _
    refine X21.arraylength hx Ar23.1 (State.isArrayOf_alike hZ.alike Ar23.2.1) (g := (mkF m 163 #[.val (.int p0), .val (.int p1), .val (.int p2), .val (.int p3), .val (.int p4), .val (.int p5), .val (.double z1), .second, .val (.double z5), .second, .val (.double z9), .second, .val (.double z13), .second, .val (.double z18), .second, .val (.double z23), .second, .val (.double z29), .second, .val (.double z35), .second, .val (.double z43), .second, .val (.ref r2), .val (.int z70), .val (.ref r8), .val (.int m104_s0), .val (.ref b17), .val (.ref rb21_b1), .unset, .unset] [(.ref rb21_b1)])) rfl rfl (hb hby at_163) _ ?_
    rw [len_of S23 Nn23]
    show Steps p.tables e below (T21.setTop (mkF m 164 #[.val (.int p0), .val (.int p1), .val (.int p2), .val (.int p3), .val (.int p4), .val (.int p5), .val (.double z1), .second, .val (.double z5), .second, .val (.double z9), .second, .val (.double z13), .second, .val (.double z18), .second, .val (.double z23), .second, .val (.double z29), .second, .val (.double z35), .second, .val (.double z43), .second, .val (.ref r2), .val (.int z70), .val (.ref r8), .val (.int m104_s0), .val (.ref b17), .val (.ref rb21_b1), .unset, .unset] [(.int (9 : Int32))])) _
    refine XS.bipush X21.here hx rfl (hb hby at_164) ?_
    show Steps p.tables e below (T21.setTop (mkF m 166 #[.val (.int p0), .val (.int p1), .val (.int p2), .val (.int p3), .val (.int p4), .val (.int p5), .val (.double z1), .second, .val (.double z5), .second, .val (.double z9), .second, .val (.double z13), .second, .val (.double z18), .second, .val (.double z23), .second, .val (.double z29), .second, .val (.double z35), .second, .val (.double z43), .second, .val (.ref r2), .val (.int z70), .val (.ref r8), .val (.int m104_s0), .val (.ref b17), .val (.ref rb21_b1), .unset, .unset] [(.int (9 : Int32)), (.int (9 : Int32))])) _
    refine XS.icmpYes X21.here hx rfl (pc0 := 166) (pc' := 171) rfl (hb hby at_166) rfl (Jvm.Free.XT.ii_eq_t (by decide)) (by decide) (by decide) ?_
    show Steps p.tables e below (T21.setTop (mkF m 171 #[.val (.int p0), .val (.int p1), .val (.int p2), .val (.int p3), .val (.int p4), .val (.int p5), .val (.double z1), .second, .val (.double z5), .second, .val (.double z9), .second, .val (.double z13), .second, .val (.double z18), .second, .val (.double z23), .second, .val (.double z29), .second, .val (.double z35), .second, .val (.double z43), .second, .val (.ref r2), .val (.int z70), .val (.ref r8), .val (.int m104_s0), .val (.ref b17), .val (.ref rb21_b1), .unset, .unset] [])) _
    refine XS.aload X21.here hx rfl (hb hby at_171) rfl rfl ?_
    show Steps p.tables e below (T21.setTop (mkF m 173 #[.val (.int p0), .val (.int p1), .val (.int p2), .val (.int p3), .val (.int p4), .val (.int p5), .val (.double z1), .second, .val (.double z5), .second, .val (.double z9), .second, .val (.double z13), .second, .val (.double z18), .second, .val (.double z23), .second, .val (.double z29), .second, .val (.double z35), .second, .val (.double z43), .second, .val (.ref r2), .val (.int z70), .val (.ref r8), .val (.int m104_s0), .val (.ref b17), .val (.ref rb21_b1), .unset, .unset] [(.ref rb21_b1)])) _
    refine XS.iconst X21.here hx rfl (hb hby at_173) ?_
    show Steps p.tables e below (T21.setTop (mkF m 174 #[.val (.int p0), .val (.int p1), .val (.int p2), .val (.int p3), .val (.int p4), .val (.int p5), .val (.double z1), .second, .val (.double z5), .second, .val (.double z9), .second, .val (.double z13), .second, .val (.double z18), .second, .val (.double z23), .second, .val (.double z29), .second, .val (.double z35), .second, .val (.double z43), .second, .val (.ref r2), .val (.int z70), .val (.ref r8), .val (.int m104_s0), .val (.ref b17), .val (.ref rb21_b1), .unset, .unset] [(.int (0 : Int32)), (.ref rb21_b1)])) _
    refine X21.daload hx (j := (0 : Int32)) (v := (.double z1)) Ar24.1 (State.isArrayOf_alike hZ.alike Ar24.2.1) Ar24.2.2 in24 (Has.at Ha24 in24 rfl) (g := (mkF m 174 #[.val (.int p0), .val (.int p1), .val (.int p2), .val (.int p3), .val (.int p4), .val (.int p5), .val (.double z1), .second, .val (.double z5), .second, .val (.double z9), .second, .val (.double z13), .second, .val (.double z18), .second, .val (.double z23), .second, .val (.double z29), .second, .val (.double z35), .second, .val (.double z43), .second, .val (.ref r2), .val (.int z70), .val (.ref r8), .val (.int m104_s0), .val (.ref b17), .val (.ref rb21_b1), .unset, .unset] [(.int (0 : Int32)), (.ref rb21_b1)])) rfl rfl (hb hby at_174) _ ?_
    show Steps p.tables e below (T21.setTop (mkF m 175 #[.val (.int p0), .val (.int p1), .val (.int p2), .val (.int p3), .val (.int p4), .val (.int p5), .val (.double z1), .second, .val (.double z5), .second, .val (.double z9), .second, .val (.double z13), .second, .val (.double z18), .second, .val (.double z23), .second, .val (.double z29), .second, .val (.double z35), .second, .val (.double z43), .second, .val (.ref r2), .val (.int z70), .val (.ref r8), .val (.int m104_s0), .val (.ref b17), .val (.ref rb21_b1), .unset, .unset] [(.double z1)])) _
    refine XS.dload X21.here hx rfl (hb hby at_175) rfl ?_
    show Steps p.tables e below (T21.setTop (mkF m 177 #[.val (.int p0), .val (.int p1), .val (.int p2), .val (.int p3), .val (.int p4), .val (.int p5), .val (.double z1), .second, .val (.double z5), .second, .val (.double z9), .second, .val (.double z13), .second, .val (.double z18), .second, .val (.double z23), .second, .val (.double z29), .second, .val (.double z35), .second, .val (.double z43), .second, .val (.ref r2), .val (.int z70), .val (.ref r8), .val (.int m104_s0), .val (.ref b17), .val (.ref rb21_b1), .unset, .unset] [(.double z1), (.double z1)])) _
    refine XS.dcmpS X21.here hx rfl (hb hby at_177) rfl hz177 ?_
    show Steps p.tables e below (T21.setTop (mkF m 178 #[.val (.int p0), .val (.int p1), .val (.int p2), .val (.int p3), .val (.int p4), .val (.int p5), .val (.double z1), .second, .val (.double z5), .second, .val (.double z9), .second, .val (.double z13), .second, .val (.double z18), .second, .val (.double z23), .second, .val (.double z29), .second, .val (.double z35), .second, .val (.double z43), .second, .val (.ref r2), .val (.int z70), .val (.ref r8), .val (.int m104_s0), .val (.ref b17), .val (.ref rb21_b1), .unset, .unset] [(.int z177)])) _
    refine XS.ifNo X21.here hx rfl (hb hby at_178) rfl (Jvm.Free.XT.i0_ne_f br178) ?_
    show Steps p.tables e below (T21.setTop (mkF m 181 #[.val (.int p0), .val (.int p1), .val (.int p2), .val (.int p3), .val (.int p4), .val (.int p5), .val (.double z1), .second, .val (.double z5), .second, .val (.double z9), .second, .val (.double z13), .second, .val (.double z18), .second, .val (.double z23), .second, .val (.double z29), .second, .val (.double z35), .second, .val (.double z43), .second, .val (.ref r2), .val (.int z70), .val (.ref r8), .val (.int m104_s0), .val (.ref b17), .val (.ref rb21_b1), .unset, .unset] [])) _
    refine XS.aload X21.here hx rfl (hb hby at_181) rfl rfl ?_
    show Steps p.tables e below (T21.setTop (mkF m 183 #[.val (.int p0), .val (.int p1), .val (.int p2), .val (.int p3), .val (.int p4), .val (.int p5), .val (.double z1), .second, .val (.double z5), .second, .val (.double z9), .second, .val (.double z13), .second, .val (.double z18), .second, .val (.double z23), .second, .val (.double z29), .second, .val (.double z35), .second, .val (.double z43), .second, .val (.ref r2), .val (.int z70), .val (.ref r8), .val (.int m104_s0), .val (.ref b17), .val (.ref rb21_b1), .unset, .unset] [(.ref rb21_b1)])) _
    refine XS.iconst X21.here hx rfl (hb hby at_183) ?_
    show Steps p.tables e below (T21.setTop (mkF m 184 #[.val (.int p0), .val (.int p1), .val (.int p2), .val (.int p3), .val (.int p4), .val (.int p5), .val (.double z1), .second, .val (.double z5), .second, .val (.double z9), .second, .val (.double z13), .second, .val (.double z18), .second, .val (.double z23), .second, .val (.double z29), .second, .val (.double z35), .second, .val (.double z43), .second, .val (.ref r2), .val (.int z70), .val (.ref r8), .val (.int m104_s0), .val (.ref b17), .val (.ref rb21_b1), .unset, .unset] [(.int (1 : Int32)), (.ref rb21_b1)])) _
    refine X21.daload hx (j := (1 : Int32)) (v := (.double z5)) Ar25.1 (State.isArrayOf_alike hZ.alike Ar25.2.1) Ar25.2.2 in25 (Has.at Ha25 in25 rfl) (g := (mkF m 184 #[.val (.int p0), .val (.int p1), .val (.int p2), .val (.int p3), .val (.int p4), .val (.int p5), .val (.double z1), .second, .val (.double z5), .second, .val (.double z9), .second, .val (.double z13), .second, .val (.double z18), .second, .val (.double z23), .second, .val (.double z29), .second, .val (.double z35), .second, .val (.double z43), .second, .val (.ref r2), .val (.int z70), .val (.ref r8), .val (.int m104_s0), .val (.ref b17), .val (.ref rb21_b1), .unset, .unset] [(.int (1 : Int32)), (.ref rb21_b1)])) rfl rfl (hb hby at_184) _ ?_
    show Steps p.tables e below (T21.setTop (mkF m 185 #[.val (.int p0), .val (.int p1), .val (.int p2), .val (.int p3), .val (.int p4), .val (.int p5), .val (.double z1), .second, .val (.double z5), .second, .val (.double z9), .second, .val (.double z13), .second, .val (.double z18), .second, .val (.double z23), .second, .val (.double z29), .second, .val (.double z35), .second, .val (.double z43), .second, .val (.ref r2), .val (.int z70), .val (.ref r8), .val (.int m104_s0), .val (.ref b17), .val (.ref rb21_b1), .unset, .unset] [(.double z5)])) _
    refine XS.dload X21.here hx rfl (hb hby at_185) rfl ?_
    show Steps p.tables e below (T21.setTop (mkF m 187 #[.val (.int p0), .val (.int p1), .val (.int p2), .val (.int p3), .val (.int p4), .val (.int p5), .val (.double z1), .second, .val (.double z5), .second, .val (.double z9), .second, .val (.double z13), .second, .val (.double z18), .second, .val (.double z23), .second, .val (.double z29), .second, .val (.double z35), .second, .val (.double z43), .second, .val (.ref r2), .val (.int z70), .val (.ref r8), .val (.int m104_s0), .val (.ref b17), .val (.ref rb21_b1), .unset, .unset] [(.double z5), (.double z5)])) _
    refine XS.dcmpS X21.here hx rfl (hb hby at_187) rfl hz187 ?_
    show Steps p.tables e below (T21.setTop (mkF m 188 #[.val (.int p0), .val (.int p1), .val (.int p2), .val (.int p3), .val (.int p4), .val (.int p5), .val (.double z1), .second, .val (.double z5), .second, .val (.double z9), .second, .val (.double z13), .second, .val (.double z18), .second, .val (.double z23), .second, .val (.double z29), .second, .val (.double z35), .second, .val (.double z43), .second, .val (.ref r2), .val (.int z70), .val (.ref r8), .val (.int m104_s0), .val (.ref b17), .val (.ref rb21_b1), .unset, .unset] [(.int z187)])) _
    refine XS.ifNo X21.here hx rfl (hb hby at_188) rfl (Jvm.Free.XT.i0_ne_f br188) ?_
    show Steps p.tables e below (T21.setTop (mkF m 191 #[.val (.int p0), .val (.int p1), .val (.int p2), .val (.int p3), .val (.int p4), .val (.int p5), .val (.double z1), .second, .val (.double z5), .second, .val (.double z9), .second, .val (.double z13), .second, .val (.double z18), .second, .val (.double z23), .second, .val (.double z29), .second, .val (.double z35), .second, .val (.double z43), .second, .val (.ref r2), .val (.int z70), .val (.ref r8), .val (.int m104_s0), .val (.ref b17), .val (.ref rb21_b1), .unset, .unset] [])) _
    refine XS.aload X21.here hx rfl (hb hby at_191) rfl rfl ?_
    show Steps p.tables e below (T21.setTop (mkF m 193 #[.val (.int p0), .val (.int p1), .val (.int p2), .val (.int p3), .val (.int p4), .val (.int p5), .val (.double z1), .second, .val (.double z5), .second, .val (.double z9), .second, .val (.double z13), .second, .val (.double z18), .second, .val (.double z23), .second, .val (.double z29), .second, .val (.double z35), .second, .val (.double z43), .second, .val (.ref r2), .val (.int z70), .val (.ref r8), .val (.int m104_s0), .val (.ref b17), .val (.ref rb21_b1), .unset, .unset] [(.ref rb21_b1)])) _
    refine XS.iconst X21.here hx rfl (hb hby at_193) ?_
    show Steps p.tables e below (T21.setTop (mkF m 194 #[.val (.int p0), .val (.int p1), .val (.int p2), .val (.int p3), .val (.int p4), .val (.int p5), .val (.double z1), .second, .val (.double z5), .second, .val (.double z9), .second, .val (.double z13), .second, .val (.double z18), .second, .val (.double z23), .second, .val (.double z29), .second, .val (.double z35), .second, .val (.double z43), .second, .val (.ref r2), .val (.int z70), .val (.ref r8), .val (.int m104_s0), .val (.ref b17), .val (.ref rb21_b1), .unset, .unset] [(.int (2 : Int32)), (.ref rb21_b1)])) _
    refine X21.daload hx (j := (2 : Int32)) (v := (.double z9)) Ar26.1 (State.isArrayOf_alike hZ.alike Ar26.2.1) Ar26.2.2 in26 (Has.at Ha26 in26 rfl) (g := (mkF m 194 #[.val (.int p0), .val (.int p1), .val (.int p2), .val (.int p3), .val (.int p4), .val (.int p5), .val (.double z1), .second, .val (.double z5), .second, .val (.double z9), .second, .val (.double z13), .second, .val (.double z18), .second, .val (.double z23), .second, .val (.double z29), .second, .val (.double z35), .second, .val (.double z43), .second, .val (.ref r2), .val (.int z70), .val (.ref r8), .val (.int m104_s0), .val (.ref b17), .val (.ref rb21_b1), .unset, .unset] [(.int (2 : Int32)), (.ref rb21_b1)])) rfl rfl (hb hby at_194) _ ?_
    show Steps p.tables e below (T21.setTop (mkF m 195 #[.val (.int p0), .val (.int p1), .val (.int p2), .val (.int p3), .val (.int p4), .val (.int p5), .val (.double z1), .second, .val (.double z5), .second, .val (.double z9), .second, .val (.double z13), .second, .val (.double z18), .second, .val (.double z23), .second, .val (.double z29), .second, .val (.double z35), .second, .val (.double z43), .second, .val (.ref r2), .val (.int z70), .val (.ref r8), .val (.int m104_s0), .val (.ref b17), .val (.ref rb21_b1), .unset, .unset] [(.double z9)])) _
    refine XS.dload X21.here hx rfl (hb hby at_195) rfl ?_
    show Steps p.tables e below (T21.setTop (mkF m 197 #[.val (.int p0), .val (.int p1), .val (.int p2), .val (.int p3), .val (.int p4), .val (.int p5), .val (.double z1), .second, .val (.double z5), .second, .val (.double z9), .second, .val (.double z13), .second, .val (.double z18), .second, .val (.double z23), .second, .val (.double z29), .second, .val (.double z35), .second, .val (.double z43), .second, .val (.ref r2), .val (.int z70), .val (.ref r8), .val (.int m104_s0), .val (.ref b17), .val (.ref rb21_b1), .unset, .unset] [(.double z9), (.double z9)])) _
    refine XS.dcmpS X21.here hx rfl (hb hby at_197) rfl hz197 ?_
    show Steps p.tables e below (T21.setTop (mkF m 198 #[.val (.int p0), .val (.int p1), .val (.int p2), .val (.int p3), .val (.int p4), .val (.int p5), .val (.double z1), .second, .val (.double z5), .second, .val (.double z9), .second, .val (.double z13), .second, .val (.double z18), .second, .val (.double z23), .second, .val (.double z29), .second, .val (.double z35), .second, .val (.double z43), .second, .val (.ref r2), .val (.int z70), .val (.ref r8), .val (.int m104_s0), .val (.ref b17), .val (.ref rb21_b1), .unset, .unset] [(.int z197)])) _
    refine XS.ifNo X21.here hx rfl (hb hby at_198) rfl (Jvm.Free.XT.i0_ne_f br198) ?_
    show Steps p.tables e below (T21.setTop (mkF m 201 #[.val (.int p0), .val (.int p1), .val (.int p2), .val (.int p3), .val (.int p4), .val (.int p5), .val (.double z1), .second, .val (.double z5), .second, .val (.double z9), .second, .val (.double z13), .second, .val (.double z18), .second, .val (.double z23), .second, .val (.double z29), .second, .val (.double z35), .second, .val (.double z43), .second, .val (.ref r2), .val (.int z70), .val (.ref r8), .val (.int m104_s0), .val (.ref b17), .val (.ref rb21_b1), .unset, .unset] [])) _
    refine XS.aload X21.here hx rfl (hb hby at_201) rfl rfl ?_
    show Steps p.tables e below (T21.setTop (mkF m 203 #[.val (.int p0), .val (.int p1), .val (.int p2), .val (.int p3), .val (.int p4), .val (.int p5), .val (.double z1), .second, .val (.double z5), .second, .val (.double z9), .second, .val (.double z13), .second, .val (.double z18), .second, .val (.double z23), .second, .val (.double z29), .second, .val (.double z35), .second, .val (.double z43), .second, .val (.ref r2), .val (.int z70), .val (.ref r8), .val (.int m104_s0), .val (.ref b17), .val (.ref rb21_b1), .unset, .unset] [(.ref rb21_b1)])) _
    refine XS.iconst X21.here hx rfl (hb hby at_203) ?_
    show Steps p.tables e below (T21.setTop (mkF m 204 #[.val (.int p0), .val (.int p1), .val (.int p2), .val (.int p3), .val (.int p4), .val (.int p5), .val (.double z1), .second, .val (.double z5), .second, .val (.double z9), .second, .val (.double z13), .second, .val (.double z18), .second, .val (.double z23), .second, .val (.double z29), .second, .val (.double z35), .second, .val (.double z43), .second, .val (.ref r2), .val (.int z70), .val (.ref r8), .val (.int m104_s0), .val (.ref b17), .val (.ref rb21_b1), .unset, .unset] [(.int (3 : Int32)), (.ref rb21_b1)])) _
    refine X21.daload hx (j := (3 : Int32)) (v := (.double z13)) Ar27.1 (State.isArrayOf_alike hZ.alike Ar27.2.1) Ar27.2.2 in27 (Has.at Ha27 in27 rfl) (g := (mkF m 204 #[.val (.int p0), .val (.int p1), .val (.int p2), .val (.int p3), .val (.int p4), .val (.int p5), .val (.double z1), .second, .val (.double z5), .second, .val (.double z9), .second, .val (.double z13), .second, .val (.double z18), .second, .val (.double z23), .second, .val (.double z29), .second, .val (.double z35), .second, .val (.double z43), .second, .val (.ref r2), .val (.int z70), .val (.ref r8), .val (.int m104_s0), .val (.ref b17), .val (.ref rb21_b1), .unset, .unset] [(.int (3 : Int32)), (.ref rb21_b1)])) rfl rfl (hb hby at_204) _ ?_
    show Steps p.tables e below (T21.setTop (mkF m 205 #[.val (.int p0), .val (.int p1), .val (.int p2), .val (.int p3), .val (.int p4), .val (.int p5), .val (.double z1), .second, .val (.double z5), .second, .val (.double z9), .second, .val (.double z13), .second, .val (.double z18), .second, .val (.double z23), .second, .val (.double z29), .second, .val (.double z35), .second, .val (.double z43), .second, .val (.ref r2), .val (.int z70), .val (.ref r8), .val (.int m104_s0), .val (.ref b17), .val (.ref rb21_b1), .unset, .unset] [(.double z13)])) _
    refine XS.dload X21.here hx rfl (hb hby at_205) rfl ?_
    show Steps p.tables e below (T21.setTop (mkF m 207 #[.val (.int p0), .val (.int p1), .val (.int p2), .val (.int p3), .val (.int p4), .val (.int p5), .val (.double z1), .second, .val (.double z5), .second, .val (.double z9), .second, .val (.double z13), .second, .val (.double z18), .second, .val (.double z23), .second, .val (.double z29), .second, .val (.double z35), .second, .val (.double z43), .second, .val (.ref r2), .val (.int z70), .val (.ref r8), .val (.int m104_s0), .val (.ref b17), .val (.ref rb21_b1), .unset, .unset] [(.double z13), (.double z13)])) _
    refine XS.dcmpS X21.here hx rfl (hb hby at_207) rfl hz207 ?_
    show Steps p.tables e below (T21.setTop (mkF m 208 #[.val (.int p0), .val (.int p1), .val (.int p2), .val (.int p3), .val (.int p4), .val (.int p5), .val (.double z1), .second, .val (.double z5), .second, .val (.double z9), .second, .val (.double z13), .second, .val (.double z18), .second, .val (.double z23), .second, .val (.double z29), .second, .val (.double z35), .second, .val (.double z43), .second, .val (.ref r2), .val (.int z70), .val (.ref r8), .val (.int m104_s0), .val (.ref b17), .val (.ref rb21_b1), .unset, .unset] [(.int z207)])) _
    refine XS.ifNo X21.here hx rfl (hb hby at_208) rfl (Jvm.Free.XT.i0_ne_f br208) ?_
    show Steps p.tables e below (T21.setTop (mkF m 211 #[.val (.int p0), .val (.int p1), .val (.int p2), .val (.int p3), .val (.int p4), .val (.int p5), .val (.double z1), .second, .val (.double z5), .second, .val (.double z9), .second, .val (.double z13), .second, .val (.double z18), .second, .val (.double z23), .second, .val (.double z29), .second, .val (.double z35), .second, .val (.double z43), .second, .val (.ref r2), .val (.int z70), .val (.ref r8), .val (.int m104_s0), .val (.ref b17), .val (.ref rb21_b1), .unset, .unset] [])) _
    refine XS.aload X21.here hx rfl (hb hby at_211) rfl rfl ?_
    show Steps p.tables e below (T21.setTop (mkF m 213 #[.val (.int p0), .val (.int p1), .val (.int p2), .val (.int p3), .val (.int p4), .val (.int p5), .val (.double z1), .second, .val (.double z5), .second, .val (.double z9), .second, .val (.double z13), .second, .val (.double z18), .second, .val (.double z23), .second, .val (.double z29), .second, .val (.double z35), .second, .val (.double z43), .second, .val (.ref r2), .val (.int z70), .val (.ref r8), .val (.int m104_s0), .val (.ref b17), .val (.ref rb21_b1), .unset, .unset] [(.ref rb21_b1)])) _
    refine XS.iconst X21.here hx rfl (hb hby at_213) ?_
    show Steps p.tables e below (T21.setTop (mkF m 214 #[.val (.int p0), .val (.int p1), .val (.int p2), .val (.int p3), .val (.int p4), .val (.int p5), .val (.double z1), .second, .val (.double z5), .second, .val (.double z9), .second, .val (.double z13), .second, .val (.double z18), .second, .val (.double z23), .second, .val (.double z29), .second, .val (.double z35), .second, .val (.double z43), .second, .val (.ref r2), .val (.int z70), .val (.ref r8), .val (.int m104_s0), .val (.ref b17), .val (.ref rb21_b1), .unset, .unset] [(.int (4 : Int32)), (.ref rb21_b1)])) _
    refine X21.daload hx (j := (4 : Int32)) (v := (.double z18)) Ar28.1 (State.isArrayOf_alike hZ.alike Ar28.2.1) Ar28.2.2 in28 (Has.at Ha28 in28 rfl) (g := (mkF m 214 #[.val (.int p0), .val (.int p1), .val (.int p2), .val (.int p3), .val (.int p4), .val (.int p5), .val (.double z1), .second, .val (.double z5), .second, .val (.double z9), .second, .val (.double z13), .second, .val (.double z18), .second, .val (.double z23), .second, .val (.double z29), .second, .val (.double z35), .second, .val (.double z43), .second, .val (.ref r2), .val (.int z70), .val (.ref r8), .val (.int m104_s0), .val (.ref b17), .val (.ref rb21_b1), .unset, .unset] [(.int (4 : Int32)), (.ref rb21_b1)])) rfl rfl (hb hby at_214) _ ?_
    show Steps p.tables e below (T21.setTop (mkF m 215 #[.val (.int p0), .val (.int p1), .val (.int p2), .val (.int p3), .val (.int p4), .val (.int p5), .val (.double z1), .second, .val (.double z5), .second, .val (.double z9), .second, .val (.double z13), .second, .val (.double z18), .second, .val (.double z23), .second, .val (.double z29), .second, .val (.double z35), .second, .val (.double z43), .second, .val (.ref r2), .val (.int z70), .val (.ref r8), .val (.int m104_s0), .val (.ref b17), .val (.ref rb21_b1), .unset, .unset] [(.double z18)])) _
    refine XS.dload X21.here hx rfl (hb hby at_215) rfl ?_
    show Steps p.tables e below (T21.setTop (mkF m 217 #[.val (.int p0), .val (.int p1), .val (.int p2), .val (.int p3), .val (.int p4), .val (.int p5), .val (.double z1), .second, .val (.double z5), .second, .val (.double z9), .second, .val (.double z13), .second, .val (.double z18), .second, .val (.double z23), .second, .val (.double z29), .second, .val (.double z35), .second, .val (.double z43), .second, .val (.ref r2), .val (.int z70), .val (.ref r8), .val (.int m104_s0), .val (.ref b17), .val (.ref rb21_b1), .unset, .unset] [(.double z18), (.double z18)])) _
    refine XS.dcmpS X21.here hx rfl (hb hby at_217) rfl hz217 ?_
    show Steps p.tables e below (T21.setTop (mkF m 218 #[.val (.int p0), .val (.int p1), .val (.int p2), .val (.int p3), .val (.int p4), .val (.int p5), .val (.double z1), .second, .val (.double z5), .second, .val (.double z9), .second, .val (.double z13), .second, .val (.double z18), .second, .val (.double z23), .second, .val (.double z29), .second, .val (.double z35), .second, .val (.double z43), .second, .val (.ref r2), .val (.int z70), .val (.ref r8), .val (.int m104_s0), .val (.ref b17), .val (.ref rb21_b1), .unset, .unset] [(.int z217)])) _
    refine XS.ifNo X21.here hx rfl (hb hby at_218) rfl (Jvm.Free.XT.i0_ne_f br218) ?_
    show Steps p.tables e below (T21.setTop (mkF m 221 #[.val (.int p0), .val (.int p1), .val (.int p2), .val (.int p3), .val (.int p4), .val (.int p5), .val (.double z1), .second, .val (.double z5), .second, .val (.double z9), .second, .val (.double z13), .second, .val (.double z18), .second, .val (.double z23), .second, .val (.double z29), .second, .val (.double z35), .second, .val (.double z43), .second, .val (.ref r2), .val (.int z70), .val (.ref r8), .val (.int m104_s0), .val (.ref b17), .val (.ref rb21_b1), .unset, .unset] [])) _
    refine XS.aload X21.here hx rfl (hb hby at_221) rfl rfl ?_
    show Steps p.tables e below (T21.setTop (mkF m 223 #[.val (.int p0), .val (.int p1), .val (.int p2), .val (.int p3), .val (.int p4), .val (.int p5), .val (.double z1), .second, .val (.double z5), .second, .val (.double z9), .second, .val (.double z13), .second, .val (.double z18), .second, .val (.double z23), .second, .val (.double z29), .second, .val (.double z35), .second, .val (.double z43), .second, .val (.ref r2), .val (.int z70), .val (.ref r8), .val (.int m104_s0), .val (.ref b17), .val (.ref rb21_b1), .unset, .unset] [(.ref rb21_b1)])) _
    refine XS.iconst X21.here hx rfl (hb hby at_223) ?_
    show Steps p.tables e below (T21.setTop (mkF m 224 #[.val (.int p0), .val (.int p1), .val (.int p2), .val (.int p3), .val (.int p4), .val (.int p5), .val (.double z1), .second, .val (.double z5), .second, .val (.double z9), .second, .val (.double z13), .second, .val (.double z18), .second, .val (.double z23), .second, .val (.double z29), .second, .val (.double z35), .second, .val (.double z43), .second, .val (.ref r2), .val (.int z70), .val (.ref r8), .val (.int m104_s0), .val (.ref b17), .val (.ref rb21_b1), .unset, .unset] [(.int (5 : Int32)), (.ref rb21_b1)])) _
    refine X21.daload hx (j := (5 : Int32)) (v := (.double z23)) Ar29.1 (State.isArrayOf_alike hZ.alike Ar29.2.1) Ar29.2.2 in29 (Has.at Ha29 in29 rfl) (g := (mkF m 224 #[.val (.int p0), .val (.int p1), .val (.int p2), .val (.int p3), .val (.int p4), .val (.int p5), .val (.double z1), .second, .val (.double z5), .second, .val (.double z9), .second, .val (.double z13), .second, .val (.double z18), .second, .val (.double z23), .second, .val (.double z29), .second, .val (.double z35), .second, .val (.double z43), .second, .val (.ref r2), .val (.int z70), .val (.ref r8), .val (.int m104_s0), .val (.ref b17), .val (.ref rb21_b1), .unset, .unset] [(.int (5 : Int32)), (.ref rb21_b1)])) rfl rfl (hb hby at_224) _ ?_
    show Steps p.tables e below (T21.setTop (mkF m 225 #[.val (.int p0), .val (.int p1), .val (.int p2), .val (.int p3), .val (.int p4), .val (.int p5), .val (.double z1), .second, .val (.double z5), .second, .val (.double z9), .second, .val (.double z13), .second, .val (.double z18), .second, .val (.double z23), .second, .val (.double z29), .second, .val (.double z35), .second, .val (.double z43), .second, .val (.ref r2), .val (.int z70), .val (.ref r8), .val (.int m104_s0), .val (.ref b17), .val (.ref rb21_b1), .unset, .unset] [(.double z23)])) _
    refine XS.dload X21.here hx rfl (hb hby at_225) rfl ?_
    show Steps p.tables e below (T21.setTop (mkF m 227 #[.val (.int p0), .val (.int p1), .val (.int p2), .val (.int p3), .val (.int p4), .val (.int p5), .val (.double z1), .second, .val (.double z5), .second, .val (.double z9), .second, .val (.double z13), .second, .val (.double z18), .second, .val (.double z23), .second, .val (.double z29), .second, .val (.double z35), .second, .val (.double z43), .second, .val (.ref r2), .val (.int z70), .val (.ref r8), .val (.int m104_s0), .val (.ref b17), .val (.ref rb21_b1), .unset, .unset] [(.double z23), (.double z23)])) _
    refine XS.dcmpS X21.here hx rfl (hb hby at_227) rfl hz227 ?_
    show Steps p.tables e below (T21.setTop (mkF m 228 #[.val (.int p0), .val (.int p1), .val (.int p2), .val (.int p3), .val (.int p4), .val (.int p5), .val (.double z1), .second, .val (.double z5), .second, .val (.double z9), .second, .val (.double z13), .second, .val (.double z18), .second, .val (.double z23), .second, .val (.double z29), .second, .val (.double z35), .second, .val (.double z43), .second, .val (.ref r2), .val (.int z70), .val (.ref r8), .val (.int m104_s0), .val (.ref b17), .val (.ref rb21_b1), .unset, .unset] [(.int z227)])) _
    refine XS.ifNo X21.here hx rfl (hb hby at_228) rfl (Jvm.Free.XT.i0_ne_f br228) ?_
    show Steps p.tables e below (T21.setTop (mkF m 231 #[.val (.int p0), .val (.int p1), .val (.int p2), .val (.int p3), .val (.int p4), .val (.int p5), .val (.double z1), .second, .val (.double z5), .second, .val (.double z9), .second, .val (.double z13), .second, .val (.double z18), .second, .val (.double z23), .second, .val (.double z29), .second, .val (.double z35), .second, .val (.double z43), .second, .val (.ref r2), .val (.int z70), .val (.ref r8), .val (.int m104_s0), .val (.ref b17), .val (.ref rb21_b1), .unset, .unset] [])) _
    refine XS.aload X21.here hx rfl (hb hby at_231) rfl rfl ?_
    show Steps p.tables e below (T21.setTop (mkF m 233 #[.val (.int p0), .val (.int p1), .val (.int p2), .val (.int p3), .val (.int p4), .val (.int p5), .val (.double z1), .second, .val (.double z5), .second, .val (.double z9), .second, .val (.double z13), .second, .val (.double z18), .second, .val (.double z23), .second, .val (.double z29), .second, .val (.double z35), .second, .val (.double z43), .second, .val (.ref r2), .val (.int z70), .val (.ref r8), .val (.int m104_s0), .val (.ref b17), .val (.ref rb21_b1), .unset, .unset] [(.ref rb21_b1)])) _
    refine XS.bipush X21.here hx rfl (hb hby at_233) ?_
    show Steps p.tables e below (T21.setTop (mkF m 235 #[.val (.int p0), .val (.int p1), .val (.int p2), .val (.int p3), .val (.int p4), .val (.int p5), .val (.double z1), .second, .val (.double z5), .second, .val (.double z9), .second, .val (.double z13), .second, .val (.double z18), .second, .val (.double z23), .second, .val (.double z29), .second, .val (.double z35), .second, .val (.double z43), .second, .val (.ref r2), .val (.int z70), .val (.ref r8), .val (.int m104_s0), .val (.ref b17), .val (.ref rb21_b1), .unset, .unset] [(.int (6 : Int32)), (.ref rb21_b1)])) _
    refine X21.daload hx (j := (6 : Int32)) (v := (.double z29)) Ar30.1 (State.isArrayOf_alike hZ.alike Ar30.2.1) Ar30.2.2 in30 (Has.at Ha30 in30 rfl) (g := (mkF m 235 #[.val (.int p0), .val (.int p1), .val (.int p2), .val (.int p3), .val (.int p4), .val (.int p5), .val (.double z1), .second, .val (.double z5), .second, .val (.double z9), .second, .val (.double z13), .second, .val (.double z18), .second, .val (.double z23), .second, .val (.double z29), .second, .val (.double z35), .second, .val (.double z43), .second, .val (.ref r2), .val (.int z70), .val (.ref r8), .val (.int m104_s0), .val (.ref b17), .val (.ref rb21_b1), .unset, .unset] [(.int (6 : Int32)), (.ref rb21_b1)])) rfl rfl (hb hby at_235) _ ?_
    show Steps p.tables e below (T21.setTop (mkF m 236 #[.val (.int p0), .val (.int p1), .val (.int p2), .val (.int p3), .val (.int p4), .val (.int p5), .val (.double z1), .second, .val (.double z5), .second, .val (.double z9), .second, .val (.double z13), .second, .val (.double z18), .second, .val (.double z23), .second, .val (.double z29), .second, .val (.double z35), .second, .val (.double z43), .second, .val (.ref r2), .val (.int z70), .val (.ref r8), .val (.int m104_s0), .val (.ref b17), .val (.ref rb21_b1), .unset, .unset] [(.double z29)])) _
    refine XS.dload X21.here hx rfl (hb hby at_236) rfl ?_
    show Steps p.tables e below (T21.setTop (mkF m 238 #[.val (.int p0), .val (.int p1), .val (.int p2), .val (.int p3), .val (.int p4), .val (.int p5), .val (.double z1), .second, .val (.double z5), .second, .val (.double z9), .second, .val (.double z13), .second, .val (.double z18), .second, .val (.double z23), .second, .val (.double z29), .second, .val (.double z35), .second, .val (.double z43), .second, .val (.ref r2), .val (.int z70), .val (.ref r8), .val (.int m104_s0), .val (.ref b17), .val (.ref rb21_b1), .unset, .unset] [(.double z29), (.double z29)])) _
    refine XS.dcmpS X21.here hx rfl (hb hby at_238) rfl hz238 ?_
    show Steps p.tables e below (T21.setTop (mkF m 239 #[.val (.int p0), .val (.int p1), .val (.int p2), .val (.int p3), .val (.int p4), .val (.int p5), .val (.double z1), .second, .val (.double z5), .second, .val (.double z9), .second, .val (.double z13), .second, .val (.double z18), .second, .val (.double z23), .second, .val (.double z29), .second, .val (.double z35), .second, .val (.double z43), .second, .val (.ref r2), .val (.int z70), .val (.ref r8), .val (.int m104_s0), .val (.ref b17), .val (.ref rb21_b1), .unset, .unset] [(.int z238)])) _
    refine XS.ifNo X21.here hx rfl (hb hby at_239) rfl (Jvm.Free.XT.i0_ne_f br239) ?_
    show Steps p.tables e below (T21.setTop (mkF m 242 #[.val (.int p0), .val (.int p1), .val (.int p2), .val (.int p3), .val (.int p4), .val (.int p5), .val (.double z1), .second, .val (.double z5), .second, .val (.double z9), .second, .val (.double z13), .second, .val (.double z18), .second, .val (.double z23), .second, .val (.double z29), .second, .val (.double z35), .second, .val (.double z43), .second, .val (.ref r2), .val (.int z70), .val (.ref r8), .val (.int m104_s0), .val (.ref b17), .val (.ref rb21_b1), .unset, .unset] [])) _
    refine XS.aload X21.here hx rfl (hb hby at_242) rfl rfl ?_
    show Steps p.tables e below (T21.setTop (mkF m 244 #[.val (.int p0), .val (.int p1), .val (.int p2), .val (.int p3), .val (.int p4), .val (.int p5), .val (.double z1), .second, .val (.double z5), .second, .val (.double z9), .second, .val (.double z13), .second, .val (.double z18), .second, .val (.double z23), .second, .val (.double z29), .second, .val (.double z35), .second, .val (.double z43), .second, .val (.ref r2), .val (.int z70), .val (.ref r8), .val (.int m104_s0), .val (.ref b17), .val (.ref rb21_b1), .unset, .unset] [(.ref rb21_b1)])) _
    refine XS.bipush X21.here hx rfl (hb hby at_244) ?_
    show Steps p.tables e below (T21.setTop (mkF m 246 #[.val (.int p0), .val (.int p1), .val (.int p2), .val (.int p3), .val (.int p4), .val (.int p5), .val (.double z1), .second, .val (.double z5), .second, .val (.double z9), .second, .val (.double z13), .second, .val (.double z18), .second, .val (.double z23), .second, .val (.double z29), .second, .val (.double z35), .second, .val (.double z43), .second, .val (.ref r2), .val (.int z70), .val (.ref r8), .val (.int m104_s0), .val (.ref b17), .val (.ref rb21_b1), .unset, .unset] [(.int (7 : Int32)), (.ref rb21_b1)])) _
    refine X21.daload hx (j := (7 : Int32)) (v := (.double z35)) Ar31.1 (State.isArrayOf_alike hZ.alike Ar31.2.1) Ar31.2.2 in31 (Has.at Ha31 in31 rfl) (g := (mkF m 246 #[.val (.int p0), .val (.int p1), .val (.int p2), .val (.int p3), .val (.int p4), .val (.int p5), .val (.double z1), .second, .val (.double z5), .second, .val (.double z9), .second, .val (.double z13), .second, .val (.double z18), .second, .val (.double z23), .second, .val (.double z29), .second, .val (.double z35), .second, .val (.double z43), .second, .val (.ref r2), .val (.int z70), .val (.ref r8), .val (.int m104_s0), .val (.ref b17), .val (.ref rb21_b1), .unset, .unset] [(.int (7 : Int32)), (.ref rb21_b1)])) rfl rfl (hb hby at_246) _ ?_
    show Steps p.tables e below (T21.setTop (mkF m 247 #[.val (.int p0), .val (.int p1), .val (.int p2), .val (.int p3), .val (.int p4), .val (.int p5), .val (.double z1), .second, .val (.double z5), .second, .val (.double z9), .second, .val (.double z13), .second, .val (.double z18), .second, .val (.double z23), .second, .val (.double z29), .second, .val (.double z35), .second, .val (.double z43), .second, .val (.ref r2), .val (.int z70), .val (.ref r8), .val (.int m104_s0), .val (.ref b17), .val (.ref rb21_b1), .unset, .unset] [(.double z35)])) _
    refine XS.dload X21.here hx rfl (hb hby at_247) rfl ?_
    show Steps p.tables e below (T21.setTop (mkF m 249 #[.val (.int p0), .val (.int p1), .val (.int p2), .val (.int p3), .val (.int p4), .val (.int p5), .val (.double z1), .second, .val (.double z5), .second, .val (.double z9), .second, .val (.double z13), .second, .val (.double z18), .second, .val (.double z23), .second, .val (.double z29), .second, .val (.double z35), .second, .val (.double z43), .second, .val (.ref r2), .val (.int z70), .val (.ref r8), .val (.int m104_s0), .val (.ref b17), .val (.ref rb21_b1), .unset, .unset] [(.double z35), (.double z35)])) _
    refine XS.dcmpS X21.here hx rfl (hb hby at_249) rfl hz249 ?_
    show Steps p.tables e below (T21.setTop (mkF m 250 #[.val (.int p0), .val (.int p1), .val (.int p2), .val (.int p3), .val (.int p4), .val (.int p5), .val (.double z1), .second, .val (.double z5), .second, .val (.double z9), .second, .val (.double z13), .second, .val (.double z18), .second, .val (.double z23), .second, .val (.double z29), .second, .val (.double z35), .second, .val (.double z43), .second, .val (.ref r2), .val (.int z70), .val (.ref r8), .val (.int m104_s0), .val (.ref b17), .val (.ref rb21_b1), .unset, .unset] [(.int z249)])) _
    refine XS.ifNo X21.here hx rfl (hb hby at_250) rfl (Jvm.Free.XT.i0_ne_f br250) ?_
    show Steps p.tables e below (T21.setTop (mkF m 253 #[.val (.int p0), .val (.int p1), .val (.int p2), .val (.int p3), .val (.int p4), .val (.int p5), .val (.double z1), .second, .val (.double z5), .second, .val (.double z9), .second, .val (.double z13), .second, .val (.double z18), .second, .val (.double z23), .second, .val (.double z29), .second, .val (.double z35), .second, .val (.double z43), .second, .val (.ref r2), .val (.int z70), .val (.ref r8), .val (.int m104_s0), .val (.ref b17), .val (.ref rb21_b1), .unset, .unset] [])) _
    refine XS.aload X21.here hx rfl (hb hby at_253) rfl rfl ?_
    show Steps p.tables e below (T21.setTop (mkF m 255 #[.val (.int p0), .val (.int p1), .val (.int p2), .val (.int p3), .val (.int p4), .val (.int p5), .val (.double z1), .second, .val (.double z5), .second, .val (.double z9), .second, .val (.double z13), .second, .val (.double z18), .second, .val (.double z23), .second, .val (.double z29), .second, .val (.double z35), .second, .val (.double z43), .second, .val (.ref r2), .val (.int z70), .val (.ref r8), .val (.int m104_s0), .val (.ref b17), .val (.ref rb21_b1), .unset, .unset] [(.ref rb21_b1)])) _
    refine XS.bipush X21.here hx rfl (hb hby at_255) ?_
    show Steps p.tables e below (T21.setTop (mkF m 257 #[.val (.int p0), .val (.int p1), .val (.int p2), .val (.int p3), .val (.int p4), .val (.int p5), .val (.double z1), .second, .val (.double z5), .second, .val (.double z9), .second, .val (.double z13), .second, .val (.double z18), .second, .val (.double z23), .second, .val (.double z29), .second, .val (.double z35), .second, .val (.double z43), .second, .val (.ref r2), .val (.int z70), .val (.ref r8), .val (.int m104_s0), .val (.ref b17), .val (.ref rb21_b1), .unset, .unset] [(.int (8 : Int32)), (.ref rb21_b1)])) _
    refine X21.daload hx (j := (8 : Int32)) (v := (.double z43)) Ar32.1 (State.isArrayOf_alike hZ.alike Ar32.2.1) Ar32.2.2 in32 (Has.at Ha32 in32 rfl) (g := (mkF m 257 #[.val (.int p0), .val (.int p1), .val (.int p2), .val (.int p3), .val (.int p4), .val (.int p5), .val (.double z1), .second, .val (.double z5), .second, .val (.double z9), .second, .val (.double z13), .second, .val (.double z18), .second, .val (.double z23), .second, .val (.double z29), .second, .val (.double z35), .second, .val (.double z43), .second, .val (.ref r2), .val (.int z70), .val (.ref r8), .val (.int m104_s0), .val (.ref b17), .val (.ref rb21_b1), .unset, .unset] [(.int (8 : Int32)), (.ref rb21_b1)])) rfl rfl (hb hby at_257) _ ?_
    show Steps p.tables e below (T21.setTop (mkF m 258 #[.val (.int p0), .val (.int p1), .val (.int p2), .val (.int p3), .val (.int p4), .val (.int p5), .val (.double z1), .second, .val (.double z5), .second, .val (.double z9), .second, .val (.double z13), .second, .val (.double z18), .second, .val (.double z23), .second, .val (.double z29), .second, .val (.double z35), .second, .val (.double z43), .second, .val (.ref r2), .val (.int z70), .val (.ref r8), .val (.int m104_s0), .val (.ref b17), .val (.ref rb21_b1), .unset, .unset] [(.double z43)])) _
    refine XS.dload X21.here hx rfl (hb hby at_258) rfl ?_
    show Steps p.tables e below (T21.setTop (mkF m 260 #[.val (.int p0), .val (.int p1), .val (.int p2), .val (.int p3), .val (.int p4), .val (.int p5), .val (.double z1), .second, .val (.double z5), .second, .val (.double z9), .second, .val (.double z13), .second, .val (.double z18), .second, .val (.double z23), .second, .val (.double z29), .second, .val (.double z35), .second, .val (.double z43), .second, .val (.ref r2), .val (.int z70), .val (.ref r8), .val (.int m104_s0), .val (.ref b17), .val (.ref rb21_b1), .unset, .unset] [(.double z43), (.double z43)])) _
    refine XS.dcmpS X21.here hx rfl (hb hby at_260) rfl hz260 ?_
    show Steps p.tables e below (T21.setTop (mkF m 261 #[.val (.int p0), .val (.int p1), .val (.int p2), .val (.int p3), .val (.int p4), .val (.int p5), .val (.double z1), .second, .val (.double z5), .second, .val (.double z9), .second, .val (.double z13), .second, .val (.double z18), .second, .val (.double z23), .second, .val (.double z29), .second, .val (.double z35), .second, .val (.double z43), .second, .val (.ref r2), .val (.int z70), .val (.ref r8), .val (.int m104_s0), .val (.ref b17), .val (.ref rb21_b1), .unset, .unset] [(.int z260)])) _
    refine XS.ifNo X21.here hx rfl (hb hby at_261) rfl (Jvm.Free.XT.i0_ne_f br261) ?_
    show Steps p.tables e below (T21.setTop (mkF m 264 #[.val (.int p0), .val (.int p1), .val (.int p2), .val (.int p3), .val (.int p4), .val (.int p5), .val (.double z1), .second, .val (.double z5), .second, .val (.double z9), .second, .val (.double z13), .second, .val (.double z18), .second, .val (.double z23), .second, .val (.double z29), .second, .val (.double z35), .second, .val (.double z43), .second, .val (.ref r2), .val (.int z70), .val (.ref r8), .val (.int m104_s0), .val (.ref b17), .val (.ref rb21_b1), .unset, .unset] [])) _
    refine XS.iconst X21.here hx rfl (hb hby at_264) ?_
    show Steps p.tables e below (T21.setTop (mkF m 265 #[.val (.int p0), .val (.int p1), .val (.int p2), .val (.int p3), .val (.int p4), .val (.int p5), .val (.double z1), .second, .val (.double z5), .second, .val (.double z9), .second, .val (.double z13), .second, .val (.double z18), .second, .val (.double z23), .second, .val (.double z29), .second, .val (.double z35), .second, .val (.double z43), .second, .val (.ref r2), .val (.int z70), .val (.ref r8), .val (.int m104_s0), .val (.ref b17), .val (.ref rb21_b1), .unset, .unset] [(.int (1 : Int32))])) _
    refine XS.goto X21.here hx rfl (pc0 := 265) (pc' := 269) rfl (hb hby at_265) (by decide) (by decide) ?_
    show Steps p.tables e below (T21.setTop (mkF m 269 #[.val (.int p0), .val (.int p1), .val (.int p2), .val (.int p3), .val (.int p4), .val (.int p5), .val (.double z1), .second, .val (.double z5), .second, .val (.double z9), .second, .val (.double z13), .second, .val (.double z18), .second, .val (.double z23), .second, .val (.double z29), .second, .val (.double z35), .second, .val (.double z43), .second, .val (.ref r2), .val (.int z70), .val (.ref r8), .val (.int m104_s0), .val (.ref b17), .val (.ref rb21_b1), .unset, .unset] [(.int (1 : Int32))])) _
    refine XS.istore X21.here hx rfl (hb hby at_269) rfl (l' := #[.val (.int p0), .val (.int p1), .val (.int p2), .val (.int p3), .val (.int p4), .val (.int p5), .val (.double z1), .second, .val (.double z5), .second, .val (.double z9), .second, .val (.double z13), .second, .val (.double z18), .second, .val (.double z23), .second, .val (.double z29), .second, .val (.double z35), .second, .val (.double z43), .second, .val (.ref r2), .val (.int z70), .val (.ref r8), .val (.int m104_s0), .val (.ref b17), .val (.ref rb21_b1), .val (.int (1 : Int32)), .unset]) rfl ?_
    show Steps p.tables e below (T21.setTop (mkF m 271 #[.val (.int p0), .val (.int p1), .val (.int p2), .val (.int p3), .val (.int p4), .val (.int p5), .val (.double z1), .second, .val (.double z5), .second, .val (.double z9), .second, .val (.double z13), .second, .val (.double z18), .second, .val (.double z23), .second, .val (.double z29), .second, .val (.double z35), .second, .val (.double z43), .second, .val (.ref r2), .val (.int z70), .val (.ref r8), .val (.int m104_s0), .val (.ref b17), .val (.ref rb21_b1), .val (.int (1 : Int32)), .unset] [])) _
    refine XS.iload X21.here hx rfl (hb hby at_271) rfl ?_
    show Steps p.tables e below (T21.setTop (mkF m 273 #[.val (.int p0), .val (.int p1), .val (.int p2), .val (.int p3), .val (.int p4), .val (.int p5), .val (.double z1), .second, .val (.double z5), .second, .val (.double z9), .second, .val (.double z13), .second, .val (.double z18), .second, .val (.double z23), .second, .val (.double z29), .second, .val (.double z35), .second, .val (.double z43), .second, .val (.ref r2), .val (.int z70), .val (.ref r8), .val (.int m104_s0), .val (.ref b17), .val (.ref rb21_b1), .val (.int (1 : Int32)), .unset] [(.int (1 : Int32))])) _
    refine XS.ifYes X21.here hx rfl (pc0 := 273) (pc' := 278) rfl (hb hby at_273) rfl (Jvm.Free.XT.i0_ne_t (by decide)) (by decide) (by decide) ?_
    show Steps p.tables e below (T21.setTop (mkF m 278 #[.val (.int p0), .val (.int p1), .val (.int p2), .val (.int p3), .val (.int p4), .val (.int p5), .val (.double z1), .second, .val (.double z5), .second, .val (.double z9), .second, .val (.double z13), .second, .val (.double z18), .second, .val (.double z23), .second, .val (.double z29), .second, .val (.double z35), .second, .val (.double z43), .second, .val (.ref r2), .val (.int z70), .val (.ref r8), .val (.int m104_s0), .val (.ref b17), .val (.ref rb21_b1), .val (.int (1 : Int32)), .unset] [])) _
    refine XS.aload X21.here hx rfl (hb hby at_278) rfl rfl ?_
    show Steps p.tables e below (T21.setTop (mkF m 280 #[.val (.int p0), .val (.int p1), .val (.int p2), .val (.int p3), .val (.int p4), .val (.int p5), .val (.double z1), .second, .val (.double z5), .second, .val (.double z9), .second, .val (.double z13), .second, .val (.double z18), .second, .val (.double z23), .second, .val (.double z29), .second, .val (.double z35), .second, .val (.double z43), .second, .val (.ref r2), .val (.int z70), .val (.ref r8), .val (.int m104_s0), .val (.ref b17), .val (.ref rb21_b1), .val (.int (1 : Int32)), .unset] [(.ref rb21_b1)])) _
    refine XS.iconst X21.here hx rfl (hb hby at_280) ?_
    show Steps p.tables e below (T21.setTop (mkF m 281 #[.val (.int p0), .val (.int p1), .val (.int p2), .val (.int p3), .val (.int p4), .val (.int p5), .val (.double z1), .second, .val (.double z5), .second, .val (.double z9), .second, .val (.double z13), .second, .val (.double z18), .second, .val (.double z23), .second, .val (.double z29), .second, .val (.double z35), .second, .val (.double z43), .second, .val (.ref r2), .val (.int z70), .val (.ref r8), .val (.int m104_s0), .val (.ref b17), .val (.ref rb21_b1), .val (.int (1 : Int32)), .unset] [(.int (0 : Int32)), (.ref rb21_b1)])) _
    refine XS.aload X21.here hx rfl (hb hby at_281) rfl rfl ?_
    show Steps p.tables e below (T21.setTop (mkF m 283 #[.val (.int p0), .val (.int p1), .val (.int p2), .val (.int p3), .val (.int p4), .val (.int p5), .val (.double z1), .second, .val (.double z5), .second, .val (.double z9), .second, .val (.double z13), .second, .val (.double z18), .second, .val (.double z23), .second, .val (.double z29), .second, .val (.double z35), .second, .val (.double z43), .second, .val (.ref r2), .val (.int z70), .val (.ref r8), .val (.int m104_s0), .val (.ref b17), .val (.ref rb21_b1), .val (.int (1 : Int32)), .unset] [(.ref rb21_b1), (.int (0 : Int32)), (.ref rb21_b1)])) _
    refine XS.iconst X21.here hx rfl (hb hby at_283) ?_
    show Steps p.tables e below (T21.setTop (mkF m 284 #[.val (.int p0), .val (.int p1), .val (.int p2), .val (.int p3), .val (.int p4), .val (.int p5), .val (.double z1), .second, .val (.double z5), .second, .val (.double z9), .second, .val (.double z13), .second, .val (.double z18), .second, .val (.double z23), .second, .val (.double z29), .second, .val (.double z35), .second, .val (.double z43), .second, .val (.ref r2), .val (.int z70), .val (.ref r8), .val (.int m104_s0), .val (.ref b17), .val (.ref rb21_b1), .val (.int (1 : Int32)), .unset] [(.int (0 : Int32)), (.ref rb21_b1), (.int (0 : Int32)), (.ref rb21_b1)])) _
    refine X21.daload hx (j := (0 : Int32)) (v := (.double z1)) Ar33.1 (State.isArrayOf_alike hZ.alike Ar33.2.1) Ar33.2.2 in33 (Has.at Ha33 in33 rfl) (g := (mkF m 284 #[.val (.int p0), .val (.int p1), .val (.int p2), .val (.int p3), .val (.int p4), .val (.int p5), .val (.double z1), .second, .val (.double z5), .second, .val (.double z9), .second, .val (.double z13), .second, .val (.double z18), .second, .val (.double z23), .second, .val (.double z29), .second, .val (.double z35), .second, .val (.double z43), .second, .val (.ref r2), .val (.int z70), .val (.ref r8), .val (.int m104_s0), .val (.ref b17), .val (.ref rb21_b1), .val (.int (1 : Int32)), .unset] [(.int (0 : Int32)), (.ref rb21_b1), (.int (0 : Int32)), (.ref rb21_b1)])) rfl rfl (hb hby at_284) _ ?_
    show Steps p.tables e below (T21.setTop (mkF m 285 #[.val (.int p0), .val (.int p1), .val (.int p2), .val (.int p3), .val (.int p4), .val (.int p5), .val (.double z1), .second, .val (.double z5), .second, .val (.double z9), .second, .val (.double z13), .second, .val (.double z18), .second, .val (.double z23), .second, .val (.double z29), .second, .val (.double z35), .second, .val (.double z43), .second, .val (.ref r2), .val (.int z70), .val (.ref r8), .val (.int m104_s0), .val (.ref b17), .val (.ref rb21_b1), .val (.int (1 : Int32)), .unset] [(.double z1), (.int (0 : Int32)), (.ref rb21_b1)])) _
    refine XS.dconst1 X21.here hx rfl (hb hby at_285) (v := FP.dconst1) rfl ?_
    show Steps p.tables e below (T21.setTop (mkF m 286 #[.val (.int p0), .val (.int p1), .val (.int p2), .val (.int p3), .val (.int p4), .val (.int p5), .val (.double z1), .second, .val (.double z5), .second, .val (.double z9), .second, .val (.double z13), .second, .val (.double z18), .second, .val (.double z23), .second, .val (.double z29), .second, .val (.double z35), .second, .val (.double z43), .second, .val (.ref r2), .val (.int z70), .val (.ref r8), .val (.int m104_s0), .val (.ref b17), .val (.ref rb21_b1), .val (.int (1 : Int32)), .unset] [(.double FP.dconst1), (.double z1), (.int (0 : Int32)), (.ref rb21_b1)])) _
    refine Jvm.OwnK.dadd X21.here hx rfl (hb hby at_286) rfl hz286 nn286 ?_
    show Steps p.tables e below (T21.setTop (mkF m 287 #[.val (.int p0), .val (.int p1), .val (.int p2), .val (.int p3), .val (.int p4), .val (.int p5), .val (.double z1), .second, .val (.double z5), .second, .val (.double z9), .second, .val (.double z13), .second, .val (.double z18), .second, .val (.double z23), .second, .val (.double z29), .second, .val (.double z35), .second, .val (.double z43), .second, .val (.ref r2), .val (.int z70), .val (.ref r8), .val (.int m104_s0), .val (.ref b17), .val (.ref rb21_b1), .val (.int (1 : Int32)), .unset] [(.double z286), (.int (0 : Int32)), (.ref rb21_b1)])) _
    refine st35 _ ?_
    show Steps p.tables e below (T35.setTop (mkF m 288 #[.val (.int p0), .val (.int p1), .val (.int p2), .val (.int p3), .val (.int p4), .val (.int p5), .val (.double z1), .second, .val (.double z5), .second, .val (.double z9), .second, .val (.double z13), .second, .val (.double z18), .second, .val (.double z23), .second, .val (.double z29), .second, .val (.double z35), .second, .val (.double z43), .second, .val (.ref r2), .val (.int z70), .val (.ref r8), .val (.int m104_s0), .val (.ref b17), .val (.ref rb21_b1), .val (.int (1 : Int32)), .unset] [])) _
    refine XS.aload X35.here hx rfl (hb hby at_288) rfl rfl ?_
    show Steps p.tables e below (T35.setTop (mkF m 290 #[.val (.int p0), .val (.int p1), .val (.int p2), .val (.int p3), .val (.int p4), .val (.int p5), .val (.double z1), .second, .val (.double z5), .second, .val (.double z9), .second, .val (.double z13), .second, .val (.double z18), .second, .val (.double z23), .second, .val (.double z29), .second, .val (.double z35), .second, .val (.double z43), .second, .val (.ref r2), .val (.int z70), .val (.ref r8), .val (.int m104_s0), .val (.ref b17), .val (.ref rb21_b1), .val (.int (1 : Int32)), .unset] [(.ref rb21_b1)])) _
    refine XS.bipush X35.here hx rfl (hb hby at_290) ?_
    show Steps p.tables e below (T35.setTop (mkF m 292 #[.val (.int p0), .val (.int p1), .val (.int p2), .val (.int p3), .val (.int p4), .val (.int p5), .val (.double z1), .second, .val (.double z5), .second, .val (.double z9), .second, .val (.double z13), .second, .val (.double z18), .second, .val (.double z23), .second, .val (.double z29), .second, .val (.double z35), .second, .val (.double z43), .second, .val (.ref r2), .val (.int z70), .val (.ref r8), .val (.int m104_s0), .val (.ref b17), .val (.ref rb21_b1), .val (.int (1 : Int32)), .unset] [(.int (8 : Int32)), (.ref rb21_b1)])) _
    refine XS.aload X35.here hx rfl (hb hby at_292) rfl rfl ?_
    show Steps p.tables e below (T35.setTop (mkF m 294 #[.val (.int p0), .val (.int p1), .val (.int p2), .val (.int p3), .val (.int p4), .val (.int p5), .val (.double z1), .second, .val (.double z5), .second, .val (.double z9), .second, .val (.double z13), .second, .val (.double z18), .second, .val (.double z23), .second, .val (.double z29), .second, .val (.double z35), .second, .val (.double z43), .second, .val (.ref r2), .val (.int z70), .val (.ref r8), .val (.int m104_s0), .val (.ref b17), .val (.ref rb21_b1), .val (.int (1 : Int32)), .unset] [(.ref rb21_b1), (.int (8 : Int32)), (.ref rb21_b1)])) _
    refine XS.bipush X35.here hx rfl (hb hby at_294) ?_
    show Steps p.tables e below (T35.setTop (mkF m 296 #[.val (.int p0), .val (.int p1), .val (.int p2), .val (.int p3), .val (.int p4), .val (.int p5), .val (.double z1), .second, .val (.double z5), .second, .val (.double z9), .second, .val (.double z13), .second, .val (.double z18), .second, .val (.double z23), .second, .val (.double z29), .second, .val (.double z35), .second, .val (.double z43), .second, .val (.ref r2), .val (.int z70), .val (.ref r8), .val (.int m104_s0), .val (.ref b17), .val (.ref rb21_b1), .val (.int (1 : Int32)), .unset] [(.int (8 : Int32)), (.ref rb21_b1), (.int (8 : Int32)), (.ref rb21_b1)])) _
    refine X35.daload hx (j := (8 : Int32)) (v := (.double z43)) (by rw [e35]; exact Ar37.1) (State.isArrayOf_alike hZ.alike Ar37.2.1) Ar37.2.2 in37 (Has.at Ha37 in37 rfl) (g := (mkF m 296 #[.val (.int p0), .val (.int p1), .val (.int p2), .val (.int p3), .val (.int p4), .val (.int p5), .val (.double z1), .second, .val (.double z5), .second, .val (.double z9), .second, .val (.double z13), .second, .val (.double z18), .second, .val (.double z23), .second, .val (.double z29), .second, .val (.double z35), .second, .val (.double z43), .second, .val (.ref r2), .val (.int z70), .val (.ref r8), .val (.int m104_s0), .val (.ref b17), .val (.ref rb21_b1), .val (.int (1 : Int32)), .unset] [(.int (8 : Int32)), (.ref rb21_b1), (.int (8 : Int32)), (.ref rb21_b1)])) rfl rfl (hb hby at_296) _ ?_
    show Steps p.tables e below (T35.setTop (mkF m 297 #[.val (.int p0), .val (.int p1), .val (.int p2), .val (.int p3), .val (.int p4), .val (.int p5), .val (.double z1), .second, .val (.double z5), .second, .val (.double z9), .second, .val (.double z13), .second, .val (.double z18), .second, .val (.double z23), .second, .val (.double z29), .second, .val (.double z35), .second, .val (.double z43), .second, .val (.ref r2), .val (.int z70), .val (.ref r8), .val (.int m104_s0), .val (.ref b17), .val (.ref rb21_b1), .val (.int (1 : Int32)), .unset] [(.double z43), (.int (8 : Int32)), (.ref rb21_b1)])) _
    refine XS.dconst1 X35.here hx rfl (hb hby at_297) (v := FP.dconst1) rfl ?_
    show Steps p.tables e below (T35.setTop (mkF m 298 #[.val (.int p0), .val (.int p1), .val (.int p2), .val (.int p3), .val (.int p4), .val (.int p5), .val (.double z1), .second, .val (.double z5), .second, .val (.double z9), .second, .val (.double z13), .second, .val (.double z18), .second, .val (.double z23), .second, .val (.double z29), .second, .val (.double z35), .second, .val (.double z43), .second, .val (.ref r2), .val (.int z70), .val (.ref r8), .val (.int m104_s0), .val (.ref b17), .val (.ref rb21_b1), .val (.int (1 : Int32)), .unset] [(.double FP.dconst1), (.double z43), (.int (8 : Int32)), (.ref rb21_b1)])) _
    refine Jvm.OwnK.dadd X35.here hx rfl (hb hby at_298) rfl hz298 nn298 ?_
    show Steps p.tables e below (T35.setTop (mkF m 299 #[.val (.int p0), .val (.int p1), .val (.int p2), .val (.int p3), .val (.int p4), .val (.int p5), .val (.double z1), .second, .val (.double z5), .second, .val (.double z9), .second, .val (.double z13), .second, .val (.double z18), .second, .val (.double z23), .second, .val (.double z29), .second, .val (.double z35), .second, .val (.double z43), .second, .val (.ref r2), .val (.int z70), .val (.ref r8), .val (.int m104_s0), .val (.ref b17), .val (.ref rb21_b1), .val (.int (1 : Int32)), .unset] [(.double z298), (.int (8 : Int32)), (.ref rb21_b1)])) _
    refine st39 _ ?_
    show Steps p.tables e below (T39.setTop (mkF m 300 #[.val (.int p0), .val (.int p1), .val (.int p2), .val (.int p3), .val (.int p4), .val (.int p5), .val (.double z1), .second, .val (.double z5), .second, .val (.double z9), .second, .val (.double z13), .second, .val (.double z18), .second, .val (.double z23), .second, .val (.double z29), .second, .val (.double z35), .second, .val (.double z43), .second, .val (.ref r2), .val (.int z70), .val (.ref r8), .val (.int m104_s0), .val (.ref b17), .val (.ref rb21_b1), .val (.int (1 : Int32)), .unset] [])) _
    refine XS.aload X39.here hx rfl (hb hby at_300) rfl rfl ?_
    show Steps p.tables e below (T39.setTop (mkF m 302 #[.val (.int p0), .val (.int p1), .val (.int p2), .val (.int p3), .val (.int p4), .val (.int p5), .val (.double z1), .second, .val (.double z5), .second, .val (.double z9), .second, .val (.double z13), .second, .val (.double z18), .second, .val (.double z23), .second, .val (.double z29), .second, .val (.double z35), .second, .val (.double z43), .second, .val (.ref r2), .val (.int z70), .val (.ref r8), .val (.int m104_s0), .val (.ref b17), .val (.ref rb21_b1), .val (.int (1 : Int32)), .unset] [(.ref b17)])) _
    refine st50.trans ?_
    show Steps p.tables e below (T50.setTop (mkF m 305 #[.val (.int p0), .val (.int p1), .val (.int p2), .val (.int p3), .val (.int p4), .val (.int p5), .val (.double z1), .second, .val (.double z5), .second, .val (.double z9), .second, .val (.double z13), .second, .val (.double z18), .second, .val (.double z23), .second, .val (.double z29), .second, .val (.double z35), .second, .val (.double z43), .second, .val (.ref r2), .val (.int z70), .val (.ref r8), .val (.int m104_s0), .val (.ref b17), .val (.ref rb21_b1), .val (.int (1 : Int32)), .unset] [(.ref rb50_b1)])) _
    refine XS.astore X50.here hx rfl (hb hby at_305) rfl rfl (l' := #[.val (.int p0), .val (.int p1), .val (.int p2), .val (.int p3), .val (.int p4), .val (.int p5), .val (.double z1), .second, .val (.double z5), .second, .val (.double z9), .second, .val (.double z13), .second, .val (.double z18), .second, .val (.double z23), .second, .val (.double z29), .second, .val (.double z35), .second, .val (.double z43), .second, .val (.ref r2), .val (.int z70), .val (.ref r8), .val (.int m104_s0), .val (.ref b17), .val (.ref rb21_b1), .val (.int (1 : Int32)), .val (.ref rb50_b1)]) rfl ?_
    show Steps p.tables e below (T50.setTop (mkF m 307 #[.val (.int p0), .val (.int p1), .val (.int p2), .val (.int p3), .val (.int p4), .val (.int p5), .val (.double z1), .second, .val (.double z5), .second, .val (.double z9), .second, .val (.double z13), .second, .val (.double z18), .second, .val (.double z23), .second, .val (.double z29), .second, .val (.double z35), .second, .val (.double z43), .second, .val (.ref r2), .val (.int z70), .val (.ref r8), .val (.int m104_s0), .val (.ref b17), .val (.ref rb21_b1), .val (.int (1 : Int32)), .val (.ref rb50_b1)] [])) _
    refine XS.aload X50.here hx rfl (hb hby at_307) rfl rfl ?_
    show Steps p.tables e below (T50.setTop (mkF m 309 #[.val (.int p0), .val (.int p1), .val (.int p2), .val (.int p3), .val (.int p4), .val (.int p5), .val (.double z1), .second, .val (.double z5), .second, .val (.double z9), .second, .val (.double z13), .second, .val (.double z18), .second, .val (.double z23), .second, .val (.double z29), .second, .val (.double z35), .second, .val (.double z43), .second, .val (.ref r2), .val (.int z70), .val (.ref r8), .val (.int m104_s0), .val (.ref b17), .val (.ref rb21_b1), .val (.int (1 : Int32)), .val (.ref rb50_b1)] [(.ref rb50_b1)])) _
    refine XS.ifnullNo X50.here hx rfl (hb hby at_309) rfl ?_
    show Steps p.tables e below (T50.setTop (mkF m 312 #[.val (.int p0), .val (.int p1), .val (.int p2), .val (.int p3), .val (.int p4), .val (.int p5), .val (.double z1), .second, .val (.double z5), .second, .val (.double z9), .second, .val (.double z13), .second, .val (.double z18), .second, .val (.double z23), .second, .val (.double z29), .second, .val (.double z35), .second, .val (.double z43), .second, .val (.ref r2), .val (.int z70), .val (.ref r8), .val (.int m104_s0), .val (.ref b17), .val (.ref rb21_b1), .val (.int (1 : Int32)), .val (.ref rb50_b1)] [])) _
    refine XS.aload X50.here hx rfl (hb hby at_312) rfl rfl ?_
    show Steps p.tables e below (T50.setTop (mkF m 314 #[.val (.int p0), .val (.int p1), .val (.int p2), .val (.int p3), .val (.int p4), .val (.int p5), .val (.double z1), .second, .val (.double z5), .second, .val (.double z9), .second, .val (.double z13), .second, .val (.double z18), .second, .val (.double z23), .second, .val (.double z29), .second, .val (.double z35), .second, .val (.double z43), .second, .val (.ref r2), .val (.int z70), .val (.ref r8), .val (.int m104_s0), .val (.ref b17), .val (.ref rb21_b1), .val (.int (1 : Int32)), .val (.ref rb50_b1)] [(.ref rb50_b1)])) _
    refine X50.arraylength hx Ar53.1 (State.isArrayOf_alike hZ.alike Ar53.2.1) (g := (mkF m 314 #[.val (.int p0), .val (.int p1), .val (.int p2), .val (.int p3), .val (.int p4), .val (.int p5), .val (.double z1), .second, .val (.double z5), .second, .val (.double z9), .second, .val (.double z13), .second, .val (.double z18), .second, .val (.double z23), .second, .val (.double z29), .second, .val (.double z35), .second, .val (.double z43), .second, .val (.ref r2), .val (.int z70), .val (.ref r8), .val (.int m104_s0), .val (.ref b17), .val (.ref rb21_b1), .val (.int (1 : Int32)), .val (.ref rb50_b1)] [(.ref rb50_b1)])) rfl rfl (hb hby at_314) _ ?_
    rw [len_of S53 Nn53]
    show Steps p.tables e below (T50.setTop (mkF m 315 #[.val (.int p0), .val (.int p1), .val (.int p2), .val (.int p3), .val (.int p4), .val (.int p5), .val (.double z1), .second, .val (.double z5), .second, .val (.double z9), .second, .val (.double z13), .second, .val (.double z18), .second, .val (.double z23), .second, .val (.double z29), .second, .val (.double z35), .second, .val (.double z43), .second, .val (.ref r2), .val (.int z70), .val (.ref r8), .val (.int m104_s0), .val (.ref b17), .val (.ref rb21_b1), .val (.int (1 : Int32)), .val (.ref rb50_b1)] [(.int (9 : Int32))])) _
    refine XS.bipush X50.here hx rfl (hb hby at_315) ?_
    show Steps p.tables e below (T50.setTop (mkF m 317 #[.val (.int p0), .val (.int p1), .val (.int p2), .val (.int p3), .val (.int p4), .val (.int p5), .val (.double z1), .second, .val (.double z5), .second, .val (.double z9), .second, .val (.double z13), .second, .val (.double z18), .second, .val (.double z23), .second, .val (.double z29), .second, .val (.double z35), .second, .val (.double z43), .second, .val (.ref r2), .val (.int z70), .val (.ref r8), .val (.int m104_s0), .val (.ref b17), .val (.ref rb21_b1), .val (.int (1 : Int32)), .val (.ref rb50_b1)] [(.int (9 : Int32)), (.int (9 : Int32))])) _
    refine XS.icmpNo X50.here hx rfl (hb hby at_317) rfl (Jvm.Free.XT.ii_ne_f (by decide)) ?_
    show Steps p.tables e below (T50.setTop (mkF m 320 #[.val (.int p0), .val (.int p1), .val (.int p2), .val (.int p3), .val (.int p4), .val (.int p5), .val (.double z1), .second, .val (.double z5), .second, .val (.double z9), .second, .val (.double z13), .second, .val (.double z18), .second, .val (.double z23), .second, .val (.double z29), .second, .val (.double z35), .second, .val (.double z43), .second, .val (.ref r2), .val (.int z70), .val (.ref r8), .val (.int m104_s0), .val (.ref b17), .val (.ref rb21_b1), .val (.int (1 : Int32)), .val (.ref rb50_b1)] [])) _
    refine XS.aload X50.here hx rfl (hb hby at_320) rfl rfl ?_
    show Steps p.tables e below (T50.setTop (mkF m 322 #[.val (.int p0), .val (.int p1), .val (.int p2), .val (.int p3), .val (.int p4), .val (.int p5), .val (.double z1), .second, .val (.double z5), .second, .val (.double z9), .second, .val (.double z13), .second, .val (.double z18), .second, .val (.double z23), .second, .val (.double z29), .second, .val (.double z35), .second, .val (.double z43), .second, .val (.ref r2), .val (.int z70), .val (.ref r8), .val (.int m104_s0), .val (.ref b17), .val (.ref rb21_b1), .val (.int (1 : Int32)), .val (.ref rb50_b1)] [(.ref rb50_b1)])) _
    refine XS.aload X50.here hx rfl (hb hby at_322) rfl rfl ?_
    show Steps p.tables e below (T50.setTop (mkF m 324 #[.val (.int p0), .val (.int p1), .val (.int p2), .val (.int p3), .val (.int p4), .val (.int p5), .val (.double z1), .second, .val (.double z5), .second, .val (.double z9), .second, .val (.double z13), .second, .val (.double z18), .second, .val (.double z23), .second, .val (.double z29), .second, .val (.double z35), .second, .val (.double z43), .second, .val (.ref r2), .val (.int z70), .val (.ref r8), .val (.int m104_s0), .val (.ref b17), .val (.ref rb21_b1), .val (.int (1 : Int32)), .val (.ref rb50_b1)] [(.ref rb21_b1), (.ref rb50_b1)])) _
    refine Jvm.RoadKit.acmp (g := (mkF m 324 #[.val (.int p0), .val (.int p1), .val (.int p2), .val (.int p3), .val (.int p4), .val (.int p5), .val (.double z1), .second, .val (.double z5), .second, .val (.double z9), .second, .val (.double z13), .second, .val (.double z18), .second, .val (.double z23), .second, .val (.double z29), .second, .val (.double z35), .second, .val (.double z43), .second, .val (.ref r2), .val (.int z70), .val (.ref r8), .val (.int m104_s0), .val (.ref b17), .val (.ref rb21_b1), .val (.int (1 : Int32)), .val (.ref rb50_b1)] [(.ref rb21_b1), (.ref rb50_b1)])) X50 hx rfl rfl rfl (pc0 := 324) (pc' := 329) (same := false) rfl (hb hby at_324) rfl (decide_eq_false (fun q_ => (Ne.symm (Nat.ne_of_lt (Nat.lt_of_lt_of_le (V39).lt gz50_b1))) (Value.ref.inj q_))) (by decide) (by decide) ?_
    show Steps p.tables e below (T50.setTop (mkF m 329 #[.val (.int p0), .val (.int p1), .val (.int p2), .val (.int p3), .val (.int p4), .val (.int p5), .val (.double z1), .second, .val (.double z5), .second, .val (.double z9), .second, .val (.double z13), .second, .val (.double z18), .second, .val (.double z23), .second, .val (.double z29), .second, .val (.double z35), .second, .val (.double z43), .second, .val (.ref r2), .val (.int z70), .val (.ref r8), .val (.int m104_s0), .val (.ref b17), .val (.ref rb21_b1), .val (.int (1 : Int32)), .val (.ref rb50_b1)] [])) _
    refine XS.aload X50.here hx rfl (hb hby at_329) rfl rfl ?_
    show Steps p.tables e below (T50.setTop (mkF m 331 #[.val (.int p0), .val (.int p1), .val (.int p2), .val (.int p3), .val (.int p4), .val (.int p5), .val (.double z1), .second, .val (.double z5), .second, .val (.double z9), .second, .val (.double z13), .second, .val (.double z18), .second, .val (.double z23), .second, .val (.double z29), .second, .val (.double z35), .second, .val (.double z43), .second, .val (.ref r2), .val (.int z70), .val (.ref r8), .val (.int m104_s0), .val (.ref b17), .val (.ref rb21_b1), .val (.int (1 : Int32)), .val (.ref rb50_b1)] [(.ref rb50_b1)])) _
    refine XS.iconst X50.here hx rfl (hb hby at_331) ?_
    show Steps p.tables e below (T50.setTop (mkF m 332 #[.val (.int p0), .val (.int p1), .val (.int p2), .val (.int p3), .val (.int p4), .val (.int p5), .val (.double z1), .second, .val (.double z5), .second, .val (.double z9), .second, .val (.double z13), .second, .val (.double z18), .second, .val (.double z23), .second, .val (.double z29), .second, .val (.double z35), .second, .val (.double z43), .second, .val (.ref r2), .val (.int z70), .val (.ref r8), .val (.int m104_s0), .val (.ref b17), .val (.ref rb21_b1), .val (.int (1 : Int32)), .val (.ref rb50_b1)] [(.int (0 : Int32)), (.ref rb50_b1)])) _
    refine X50.daload hx (j := (0 : Int32)) (v := (.double z1)) Ar54.1 (State.isArrayOf_alike hZ.alike Ar54.2.1) Ar54.2.2 in54 (Has.at Ha54 in54 rfl) (g := (mkF m 332 #[.val (.int p0), .val (.int p1), .val (.int p2), .val (.int p3), .val (.int p4), .val (.int p5), .val (.double z1), .second, .val (.double z5), .second, .val (.double z9), .second, .val (.double z13), .second, .val (.double z18), .second, .val (.double z23), .second, .val (.double z29), .second, .val (.double z35), .second, .val (.double z43), .second, .val (.ref r2), .val (.int z70), .val (.ref r8), .val (.int m104_s0), .val (.ref b17), .val (.ref rb21_b1), .val (.int (1 : Int32)), .val (.ref rb50_b1)] [(.int (0 : Int32)), (.ref rb50_b1)])) rfl rfl (hb hby at_332) _ ?_
    show Steps p.tables e below (T50.setTop (mkF m 333 #[.val (.int p0), .val (.int p1), .val (.int p2), .val (.int p3), .val (.int p4), .val (.int p5), .val (.double z1), .second, .val (.double z5), .second, .val (.double z9), .second, .val (.double z13), .second, .val (.double z18), .second, .val (.double z23), .second, .val (.double z29), .second, .val (.double z35), .second, .val (.double z43), .second, .val (.ref r2), .val (.int z70), .val (.ref r8), .val (.int m104_s0), .val (.ref b17), .val (.ref rb21_b1), .val (.int (1 : Int32)), .val (.ref rb50_b1)] [(.double z1)])) _
    refine XS.dload X50.here hx rfl (hb hby at_333) rfl ?_
    show Steps p.tables e below (T50.setTop (mkF m 335 #[.val (.int p0), .val (.int p1), .val (.int p2), .val (.int p3), .val (.int p4), .val (.int p5), .val (.double z1), .second, .val (.double z5), .second, .val (.double z9), .second, .val (.double z13), .second, .val (.double z18), .second, .val (.double z23), .second, .val (.double z29), .second, .val (.double z35), .second, .val (.double z43), .second, .val (.ref r2), .val (.int z70), .val (.ref r8), .val (.int m104_s0), .val (.ref b17), .val (.ref rb21_b1), .val (.int (1 : Int32)), .val (.ref rb50_b1)] [(.double z1), (.double z1)])) _
    refine XS.dcmpS X50.here hx rfl (hb hby at_335) rfl hz335 ?_
    show Steps p.tables e below (T50.setTop (mkF m 336 #[.val (.int p0), .val (.int p1), .val (.int p2), .val (.int p3), .val (.int p4), .val (.int p5), .val (.double z1), .second, .val (.double z5), .second, .val (.double z9), .second, .val (.double z13), .second, .val (.double z18), .second, .val (.double z23), .second, .val (.double z29), .second, .val (.double z35), .second, .val (.double z43), .second, .val (.ref r2), .val (.int z70), .val (.ref r8), .val (.int m104_s0), .val (.ref b17), .val (.ref rb21_b1), .val (.int (1 : Int32)), .val (.ref rb50_b1)] [(.int z335)])) _
    refine XS.ifNo X50.here hx rfl (hb hby at_336) rfl (Jvm.Free.XT.i0_ne_f br336) ?_
    show Steps p.tables e below (T50.setTop (mkF m 339 #[.val (.int p0), .val (.int p1), .val (.int p2), .val (.int p3), .val (.int p4), .val (.int p5), .val (.double z1), .second, .val (.double z5), .second, .val (.double z9), .second, .val (.double z13), .second, .val (.double z18), .second, .val (.double z23), .second, .val (.double z29), .second, .val (.double z35), .second, .val (.double z43), .second, .val (.ref r2), .val (.int z70), .val (.ref r8), .val (.int m104_s0), .val (.ref b17), .val (.ref rb21_b1), .val (.int (1 : Int32)), .val (.ref rb50_b1)] [])) _
    refine XS.aload X50.here hx rfl (hb hby at_339) rfl rfl ?_
    show Steps p.tables e below (T50.setTop (mkF m 341 #[.val (.int p0), .val (.int p1), .val (.int p2), .val (.int p3), .val (.int p4), .val (.int p5), .val (.double z1), .second, .val (.double z5), .second, .val (.double z9), .second, .val (.double z13), .second, .val (.double z18), .second, .val (.double z23), .second, .val (.double z29), .second, .val (.double z35), .second, .val (.double z43), .second, .val (.ref r2), .val (.int z70), .val (.ref r8), .val (.int m104_s0), .val (.ref b17), .val (.ref rb21_b1), .val (.int (1 : Int32)), .val (.ref rb50_b1)] [(.ref rb50_b1)])) _
    refine XS.iconst X50.here hx rfl (hb hby at_341) ?_
    show Steps p.tables e below (T50.setTop (mkF m 342 #[.val (.int p0), .val (.int p1), .val (.int p2), .val (.int p3), .val (.int p4), .val (.int p5), .val (.double z1), .second, .val (.double z5), .second, .val (.double z9), .second, .val (.double z13), .second, .val (.double z18), .second, .val (.double z23), .second, .val (.double z29), .second, .val (.double z35), .second, .val (.double z43), .second, .val (.ref r2), .val (.int z70), .val (.ref r8), .val (.int m104_s0), .val (.ref b17), .val (.ref rb21_b1), .val (.int (1 : Int32)), .val (.ref rb50_b1)] [(.int (1 : Int32)), (.ref rb50_b1)])) _
    refine X50.daload hx (j := (1 : Int32)) (v := (.double z5)) Ar55.1 (State.isArrayOf_alike hZ.alike Ar55.2.1) Ar55.2.2 in55 (Has.at Ha55 in55 rfl) (g := (mkF m 342 #[.val (.int p0), .val (.int p1), .val (.int p2), .val (.int p3), .val (.int p4), .val (.int p5), .val (.double z1), .second, .val (.double z5), .second, .val (.double z9), .second, .val (.double z13), .second, .val (.double z18), .second, .val (.double z23), .second, .val (.double z29), .second, .val (.double z35), .second, .val (.double z43), .second, .val (.ref r2), .val (.int z70), .val (.ref r8), .val (.int m104_s0), .val (.ref b17), .val (.ref rb21_b1), .val (.int (1 : Int32)), .val (.ref rb50_b1)] [(.int (1 : Int32)), (.ref rb50_b1)])) rfl rfl (hb hby at_342) _ ?_
    show Steps p.tables e below (T50.setTop (mkF m 343 #[.val (.int p0), .val (.int p1), .val (.int p2), .val (.int p3), .val (.int p4), .val (.int p5), .val (.double z1), .second, .val (.double z5), .second, .val (.double z9), .second, .val (.double z13), .second, .val (.double z18), .second, .val (.double z23), .second, .val (.double z29), .second, .val (.double z35), .second, .val (.double z43), .second, .val (.ref r2), .val (.int z70), .val (.ref r8), .val (.int m104_s0), .val (.ref b17), .val (.ref rb21_b1), .val (.int (1 : Int32)), .val (.ref rb50_b1)] [(.double z5)])) _
    refine XS.dload X50.here hx rfl (hb hby at_343) rfl ?_
    show Steps p.tables e below (T50.setTop (mkF m 345 #[.val (.int p0), .val (.int p1), .val (.int p2), .val (.int p3), .val (.int p4), .val (.int p5), .val (.double z1), .second, .val (.double z5), .second, .val (.double z9), .second, .val (.double z13), .second, .val (.double z18), .second, .val (.double z23), .second, .val (.double z29), .second, .val (.double z35), .second, .val (.double z43), .second, .val (.ref r2), .val (.int z70), .val (.ref r8), .val (.int m104_s0), .val (.ref b17), .val (.ref rb21_b1), .val (.int (1 : Int32)), .val (.ref rb50_b1)] [(.double z5), (.double z5)])) _
    refine XS.dcmpS X50.here hx rfl (hb hby at_345) rfl hz345 ?_
    show Steps p.tables e below (T50.setTop (mkF m 346 #[.val (.int p0), .val (.int p1), .val (.int p2), .val (.int p3), .val (.int p4), .val (.int p5), .val (.double z1), .second, .val (.double z5), .second, .val (.double z9), .second, .val (.double z13), .second, .val (.double z18), .second, .val (.double z23), .second, .val (.double z29), .second, .val (.double z35), .second, .val (.double z43), .second, .val (.ref r2), .val (.int z70), .val (.ref r8), .val (.int m104_s0), .val (.ref b17), .val (.ref rb21_b1), .val (.int (1 : Int32)), .val (.ref rb50_b1)] [(.int z345)])) _
    refine XS.ifNo X50.here hx rfl (hb hby at_346) rfl (Jvm.Free.XT.i0_ne_f br346) ?_
    show Steps p.tables e below (T50.setTop (mkF m 349 #[.val (.int p0), .val (.int p1), .val (.int p2), .val (.int p3), .val (.int p4), .val (.int p5), .val (.double z1), .second, .val (.double z5), .second, .val (.double z9), .second, .val (.double z13), .second, .val (.double z18), .second, .val (.double z23), .second, .val (.double z29), .second, .val (.double z35), .second, .val (.double z43), .second, .val (.ref r2), .val (.int z70), .val (.ref r8), .val (.int m104_s0), .val (.ref b17), .val (.ref rb21_b1), .val (.int (1 : Int32)), .val (.ref rb50_b1)] [])) _
    refine XS.aload X50.here hx rfl (hb hby at_349) rfl rfl ?_
    show Steps p.tables e below (T50.setTop (mkF m 351 #[.val (.int p0), .val (.int p1), .val (.int p2), .val (.int p3), .val (.int p4), .val (.int p5), .val (.double z1), .second, .val (.double z5), .second, .val (.double z9), .second, .val (.double z13), .second, .val (.double z18), .second, .val (.double z23), .second, .val (.double z29), .second, .val (.double z35), .second, .val (.double z43), .second, .val (.ref r2), .val (.int z70), .val (.ref r8), .val (.int m104_s0), .val (.ref b17), .val (.ref rb21_b1), .val (.int (1 : Int32)), .val (.ref rb50_b1)] [(.ref rb50_b1)])) _
    refine XS.iconst X50.here hx rfl (hb hby at_351) ?_
    show Steps p.tables e below (T50.setTop (mkF m 352 #[.val (.int p0), .val (.int p1), .val (.int p2), .val (.int p3), .val (.int p4), .val (.int p5), .val (.double z1), .second, .val (.double z5), .second, .val (.double z9), .second, .val (.double z13), .second, .val (.double z18), .second, .val (.double z23), .second, .val (.double z29), .second, .val (.double z35), .second, .val (.double z43), .second, .val (.ref r2), .val (.int z70), .val (.ref r8), .val (.int m104_s0), .val (.ref b17), .val (.ref rb21_b1), .val (.int (1 : Int32)), .val (.ref rb50_b1)] [(.int (2 : Int32)), (.ref rb50_b1)])) _
    refine X50.daload hx (j := (2 : Int32)) (v := (.double z9)) Ar56.1 (State.isArrayOf_alike hZ.alike Ar56.2.1) Ar56.2.2 in56 (Has.at Ha56 in56 rfl) (g := (mkF m 352 #[.val (.int p0), .val (.int p1), .val (.int p2), .val (.int p3), .val (.int p4), .val (.int p5), .val (.double z1), .second, .val (.double z5), .second, .val (.double z9), .second, .val (.double z13), .second, .val (.double z18), .second, .val (.double z23), .second, .val (.double z29), .second, .val (.double z35), .second, .val (.double z43), .second, .val (.ref r2), .val (.int z70), .val (.ref r8), .val (.int m104_s0), .val (.ref b17), .val (.ref rb21_b1), .val (.int (1 : Int32)), .val (.ref rb50_b1)] [(.int (2 : Int32)), (.ref rb50_b1)])) rfl rfl (hb hby at_352) _ ?_
    show Steps p.tables e below (T50.setTop (mkF m 353 #[.val (.int p0), .val (.int p1), .val (.int p2), .val (.int p3), .val (.int p4), .val (.int p5), .val (.double z1), .second, .val (.double z5), .second, .val (.double z9), .second, .val (.double z13), .second, .val (.double z18), .second, .val (.double z23), .second, .val (.double z29), .second, .val (.double z35), .second, .val (.double z43), .second, .val (.ref r2), .val (.int z70), .val (.ref r8), .val (.int m104_s0), .val (.ref b17), .val (.ref rb21_b1), .val (.int (1 : Int32)), .val (.ref rb50_b1)] [(.double z9)])) _
    refine XS.dload X50.here hx rfl (hb hby at_353) rfl ?_
    show Steps p.tables e below (T50.setTop (mkF m 355 #[.val (.int p0), .val (.int p1), .val (.int p2), .val (.int p3), .val (.int p4), .val (.int p5), .val (.double z1), .second, .val (.double z5), .second, .val (.double z9), .second, .val (.double z13), .second, .val (.double z18), .second, .val (.double z23), .second, .val (.double z29), .second, .val (.double z35), .second, .val (.double z43), .second, .val (.ref r2), .val (.int z70), .val (.ref r8), .val (.int m104_s0), .val (.ref b17), .val (.ref rb21_b1), .val (.int (1 : Int32)), .val (.ref rb50_b1)] [(.double z9), (.double z9)])) _
    refine XS.dcmpS X50.here hx rfl (hb hby at_355) rfl hz355 ?_
    show Steps p.tables e below (T50.setTop (mkF m 356 #[.val (.int p0), .val (.int p1), .val (.int p2), .val (.int p3), .val (.int p4), .val (.int p5), .val (.double z1), .second, .val (.double z5), .second, .val (.double z9), .second, .val (.double z13), .second, .val (.double z18), .second, .val (.double z23), .second, .val (.double z29), .second, .val (.double z35), .second, .val (.double z43), .second, .val (.ref r2), .val (.int z70), .val (.ref r8), .val (.int m104_s0), .val (.ref b17), .val (.ref rb21_b1), .val (.int (1 : Int32)), .val (.ref rb50_b1)] [(.int z355)])) _
    refine XS.ifNo X50.here hx rfl (hb hby at_356) rfl (Jvm.Free.XT.i0_ne_f br356) ?_
    show Steps p.tables e below (T50.setTop (mkF m 359 #[.val (.int p0), .val (.int p1), .val (.int p2), .val (.int p3), .val (.int p4), .val (.int p5), .val (.double z1), .second, .val (.double z5), .second, .val (.double z9), .second, .val (.double z13), .second, .val (.double z18), .second, .val (.double z23), .second, .val (.double z29), .second, .val (.double z35), .second, .val (.double z43), .second, .val (.ref r2), .val (.int z70), .val (.ref r8), .val (.int m104_s0), .val (.ref b17), .val (.ref rb21_b1), .val (.int (1 : Int32)), .val (.ref rb50_b1)] [])) _
    refine XS.aload X50.here hx rfl (hb hby at_359) rfl rfl ?_
    show Steps p.tables e below (T50.setTop (mkF m 361 #[.val (.int p0), .val (.int p1), .val (.int p2), .val (.int p3), .val (.int p4), .val (.int p5), .val (.double z1), .second, .val (.double z5), .second, .val (.double z9), .second, .val (.double z13), .second, .val (.double z18), .second, .val (.double z23), .second, .val (.double z29), .second, .val (.double z35), .second, .val (.double z43), .second, .val (.ref r2), .val (.int z70), .val (.ref r8), .val (.int m104_s0), .val (.ref b17), .val (.ref rb21_b1), .val (.int (1 : Int32)), .val (.ref rb50_b1)] [(.ref rb50_b1)])) _
    refine XS.iconst X50.here hx rfl (hb hby at_361) ?_
    show Steps p.tables e below (T50.setTop (mkF m 362 #[.val (.int p0), .val (.int p1), .val (.int p2), .val (.int p3), .val (.int p4), .val (.int p5), .val (.double z1), .second, .val (.double z5), .second, .val (.double z9), .second, .val (.double z13), .second, .val (.double z18), .second, .val (.double z23), .second, .val (.double z29), .second, .val (.double z35), .second, .val (.double z43), .second, .val (.ref r2), .val (.int z70), .val (.ref r8), .val (.int m104_s0), .val (.ref b17), .val (.ref rb21_b1), .val (.int (1 : Int32)), .val (.ref rb50_b1)] [(.int (3 : Int32)), (.ref rb50_b1)])) _
    refine X50.daload hx (j := (3 : Int32)) (v := (.double z13)) Ar57.1 (State.isArrayOf_alike hZ.alike Ar57.2.1) Ar57.2.2 in57 (Has.at Ha57 in57 rfl) (g := (mkF m 362 #[.val (.int p0), .val (.int p1), .val (.int p2), .val (.int p3), .val (.int p4), .val (.int p5), .val (.double z1), .second, .val (.double z5), .second, .val (.double z9), .second, .val (.double z13), .second, .val (.double z18), .second, .val (.double z23), .second, .val (.double z29), .second, .val (.double z35), .second, .val (.double z43), .second, .val (.ref r2), .val (.int z70), .val (.ref r8), .val (.int m104_s0), .val (.ref b17), .val (.ref rb21_b1), .val (.int (1 : Int32)), .val (.ref rb50_b1)] [(.int (3 : Int32)), (.ref rb50_b1)])) rfl rfl (hb hby at_362) _ ?_
    show Steps p.tables e below (T50.setTop (mkF m 363 #[.val (.int p0), .val (.int p1), .val (.int p2), .val (.int p3), .val (.int p4), .val (.int p5), .val (.double z1), .second, .val (.double z5), .second, .val (.double z9), .second, .val (.double z13), .second, .val (.double z18), .second, .val (.double z23), .second, .val (.double z29), .second, .val (.double z35), .second, .val (.double z43), .second, .val (.ref r2), .val (.int z70), .val (.ref r8), .val (.int m104_s0), .val (.ref b17), .val (.ref rb21_b1), .val (.int (1 : Int32)), .val (.ref rb50_b1)] [(.double z13)])) _
    refine XS.dload X50.here hx rfl (hb hby at_363) rfl ?_
    show Steps p.tables e below (T50.setTop (mkF m 365 #[.val (.int p0), .val (.int p1), .val (.int p2), .val (.int p3), .val (.int p4), .val (.int p5), .val (.double z1), .second, .val (.double z5), .second, .val (.double z9), .second, .val (.double z13), .second, .val (.double z18), .second, .val (.double z23), .second, .val (.double z29), .second, .val (.double z35), .second, .val (.double z43), .second, .val (.ref r2), .val (.int z70), .val (.ref r8), .val (.int m104_s0), .val (.ref b17), .val (.ref rb21_b1), .val (.int (1 : Int32)), .val (.ref rb50_b1)] [(.double z13), (.double z13)])) _
    refine XS.dcmpS X50.here hx rfl (hb hby at_365) rfl hz365 ?_
    show Steps p.tables e below (T50.setTop (mkF m 366 #[.val (.int p0), .val (.int p1), .val (.int p2), .val (.int p3), .val (.int p4), .val (.int p5), .val (.double z1), .second, .val (.double z5), .second, .val (.double z9), .second, .val (.double z13), .second, .val (.double z18), .second, .val (.double z23), .second, .val (.double z29), .second, .val (.double z35), .second, .val (.double z43), .second, .val (.ref r2), .val (.int z70), .val (.ref r8), .val (.int m104_s0), .val (.ref b17), .val (.ref rb21_b1), .val (.int (1 : Int32)), .val (.ref rb50_b1)] [(.int z365)])) _
    refine XS.ifNo X50.here hx rfl (hb hby at_366) rfl (Jvm.Free.XT.i0_ne_f br366) ?_
    show Steps p.tables e below (T50.setTop (mkF m 369 #[.val (.int p0), .val (.int p1), .val (.int p2), .val (.int p3), .val (.int p4), .val (.int p5), .val (.double z1), .second, .val (.double z5), .second, .val (.double z9), .second, .val (.double z13), .second, .val (.double z18), .second, .val (.double z23), .second, .val (.double z29), .second, .val (.double z35), .second, .val (.double z43), .second, .val (.ref r2), .val (.int z70), .val (.ref r8), .val (.int m104_s0), .val (.ref b17), .val (.ref rb21_b1), .val (.int (1 : Int32)), .val (.ref rb50_b1)] [])) _
    refine XS.aload X50.here hx rfl (hb hby at_369) rfl rfl ?_
    show Steps p.tables e below (T50.setTop (mkF m 371 #[.val (.int p0), .val (.int p1), .val (.int p2), .val (.int p3), .val (.int p4), .val (.int p5), .val (.double z1), .second, .val (.double z5), .second, .val (.double z9), .second, .val (.double z13), .second, .val (.double z18), .second, .val (.double z23), .second, .val (.double z29), .second, .val (.double z35), .second, .val (.double z43), .second, .val (.ref r2), .val (.int z70), .val (.ref r8), .val (.int m104_s0), .val (.ref b17), .val (.ref rb21_b1), .val (.int (1 : Int32)), .val (.ref rb50_b1)] [(.ref rb50_b1)])) _
    refine XS.iconst X50.here hx rfl (hb hby at_371) ?_
    show Steps p.tables e below (T50.setTop (mkF m 372 #[.val (.int p0), .val (.int p1), .val (.int p2), .val (.int p3), .val (.int p4), .val (.int p5), .val (.double z1), .second, .val (.double z5), .second, .val (.double z9), .second, .val (.double z13), .second, .val (.double z18), .second, .val (.double z23), .second, .val (.double z29), .second, .val (.double z35), .second, .val (.double z43), .second, .val (.ref r2), .val (.int z70), .val (.ref r8), .val (.int m104_s0), .val (.ref b17), .val (.ref rb21_b1), .val (.int (1 : Int32)), .val (.ref rb50_b1)] [(.int (4 : Int32)), (.ref rb50_b1)])) _
    refine X50.daload hx (j := (4 : Int32)) (v := (.double z18)) Ar58.1 (State.isArrayOf_alike hZ.alike Ar58.2.1) Ar58.2.2 in58 (Has.at Ha58 in58 rfl) (g := (mkF m 372 #[.val (.int p0), .val (.int p1), .val (.int p2), .val (.int p3), .val (.int p4), .val (.int p5), .val (.double z1), .second, .val (.double z5), .second, .val (.double z9), .second, .val (.double z13), .second, .val (.double z18), .second, .val (.double z23), .second, .val (.double z29), .second, .val (.double z35), .second, .val (.double z43), .second, .val (.ref r2), .val (.int z70), .val (.ref r8), .val (.int m104_s0), .val (.ref b17), .val (.ref rb21_b1), .val (.int (1 : Int32)), .val (.ref rb50_b1)] [(.int (4 : Int32)), (.ref rb50_b1)])) rfl rfl (hb hby at_372) _ ?_
    show Steps p.tables e below (T50.setTop (mkF m 373 #[.val (.int p0), .val (.int p1), .val (.int p2), .val (.int p3), .val (.int p4), .val (.int p5), .val (.double z1), .second, .val (.double z5), .second, .val (.double z9), .second, .val (.double z13), .second, .val (.double z18), .second, .val (.double z23), .second, .val (.double z29), .second, .val (.double z35), .second, .val (.double z43), .second, .val (.ref r2), .val (.int z70), .val (.ref r8), .val (.int m104_s0), .val (.ref b17), .val (.ref rb21_b1), .val (.int (1 : Int32)), .val (.ref rb50_b1)] [(.double z18)])) _
    refine XS.dload X50.here hx rfl (hb hby at_373) rfl ?_
    show Steps p.tables e below (T50.setTop (mkF m 375 #[.val (.int p0), .val (.int p1), .val (.int p2), .val (.int p3), .val (.int p4), .val (.int p5), .val (.double z1), .second, .val (.double z5), .second, .val (.double z9), .second, .val (.double z13), .second, .val (.double z18), .second, .val (.double z23), .second, .val (.double z29), .second, .val (.double z35), .second, .val (.double z43), .second, .val (.ref r2), .val (.int z70), .val (.ref r8), .val (.int m104_s0), .val (.ref b17), .val (.ref rb21_b1), .val (.int (1 : Int32)), .val (.ref rb50_b1)] [(.double z18), (.double z18)])) _
    refine XS.dcmpS X50.here hx rfl (hb hby at_375) rfl hz375 ?_
    show Steps p.tables e below (T50.setTop (mkF m 376 #[.val (.int p0), .val (.int p1), .val (.int p2), .val (.int p3), .val (.int p4), .val (.int p5), .val (.double z1), .second, .val (.double z5), .second, .val (.double z9), .second, .val (.double z13), .second, .val (.double z18), .second, .val (.double z23), .second, .val (.double z29), .second, .val (.double z35), .second, .val (.double z43), .second, .val (.ref r2), .val (.int z70), .val (.ref r8), .val (.int m104_s0), .val (.ref b17), .val (.ref rb21_b1), .val (.int (1 : Int32)), .val (.ref rb50_b1)] [(.int z375)])) _
    refine XS.ifNo X50.here hx rfl (hb hby at_376) rfl (Jvm.Free.XT.i0_ne_f br376) ?_
    show Steps p.tables e below (T50.setTop (mkF m 379 #[.val (.int p0), .val (.int p1), .val (.int p2), .val (.int p3), .val (.int p4), .val (.int p5), .val (.double z1), .second, .val (.double z5), .second, .val (.double z9), .second, .val (.double z13), .second, .val (.double z18), .second, .val (.double z23), .second, .val (.double z29), .second, .val (.double z35), .second, .val (.double z43), .second, .val (.ref r2), .val (.int z70), .val (.ref r8), .val (.int m104_s0), .val (.ref b17), .val (.ref rb21_b1), .val (.int (1 : Int32)), .val (.ref rb50_b1)] [])) _
    refine XS.aload X50.here hx rfl (hb hby at_379) rfl rfl ?_
    show Steps p.tables e below (T50.setTop (mkF m 381 #[.val (.int p0), .val (.int p1), .val (.int p2), .val (.int p3), .val (.int p4), .val (.int p5), .val (.double z1), .second, .val (.double z5), .second, .val (.double z9), .second, .val (.double z13), .second, .val (.double z18), .second, .val (.double z23), .second, .val (.double z29), .second, .val (.double z35), .second, .val (.double z43), .second, .val (.ref r2), .val (.int z70), .val (.ref r8), .val (.int m104_s0), .val (.ref b17), .val (.ref rb21_b1), .val (.int (1 : Int32)), .val (.ref rb50_b1)] [(.ref rb50_b1)])) _
    refine XS.iconst X50.here hx rfl (hb hby at_381) ?_
    show Steps p.tables e below (T50.setTop (mkF m 382 #[.val (.int p0), .val (.int p1), .val (.int p2), .val (.int p3), .val (.int p4), .val (.int p5), .val (.double z1), .second, .val (.double z5), .second, .val (.double z9), .second, .val (.double z13), .second, .val (.double z18), .second, .val (.double z23), .second, .val (.double z29), .second, .val (.double z35), .second, .val (.double z43), .second, .val (.ref r2), .val (.int z70), .val (.ref r8), .val (.int m104_s0), .val (.ref b17), .val (.ref rb21_b1), .val (.int (1 : Int32)), .val (.ref rb50_b1)] [(.int (5 : Int32)), (.ref rb50_b1)])) _
    refine X50.daload hx (j := (5 : Int32)) (v := (.double z23)) Ar59.1 (State.isArrayOf_alike hZ.alike Ar59.2.1) Ar59.2.2 in59 (Has.at Ha59 in59 rfl) (g := (mkF m 382 #[.val (.int p0), .val (.int p1), .val (.int p2), .val (.int p3), .val (.int p4), .val (.int p5), .val (.double z1), .second, .val (.double z5), .second, .val (.double z9), .second, .val (.double z13), .second, .val (.double z18), .second, .val (.double z23), .second, .val (.double z29), .second, .val (.double z35), .second, .val (.double z43), .second, .val (.ref r2), .val (.int z70), .val (.ref r8), .val (.int m104_s0), .val (.ref b17), .val (.ref rb21_b1), .val (.int (1 : Int32)), .val (.ref rb50_b1)] [(.int (5 : Int32)), (.ref rb50_b1)])) rfl rfl (hb hby at_382) _ ?_
    show Steps p.tables e below (T50.setTop (mkF m 383 #[.val (.int p0), .val (.int p1), .val (.int p2), .val (.int p3), .val (.int p4), .val (.int p5), .val (.double z1), .second, .val (.double z5), .second, .val (.double z9), .second, .val (.double z13), .second, .val (.double z18), .second, .val (.double z23), .second, .val (.double z29), .second, .val (.double z35), .second, .val (.double z43), .second, .val (.ref r2), .val (.int z70), .val (.ref r8), .val (.int m104_s0), .val (.ref b17), .val (.ref rb21_b1), .val (.int (1 : Int32)), .val (.ref rb50_b1)] [(.double z23)])) _
    refine XS.dload X50.here hx rfl (hb hby at_383) rfl ?_
    show Steps p.tables e below (T50.setTop (mkF m 385 #[.val (.int p0), .val (.int p1), .val (.int p2), .val (.int p3), .val (.int p4), .val (.int p5), .val (.double z1), .second, .val (.double z5), .second, .val (.double z9), .second, .val (.double z13), .second, .val (.double z18), .second, .val (.double z23), .second, .val (.double z29), .second, .val (.double z35), .second, .val (.double z43), .second, .val (.ref r2), .val (.int z70), .val (.ref r8), .val (.int m104_s0), .val (.ref b17), .val (.ref rb21_b1), .val (.int (1 : Int32)), .val (.ref rb50_b1)] [(.double z23), (.double z23)])) _
    refine XS.dcmpS X50.here hx rfl (hb hby at_385) rfl hz385 ?_
    show Steps p.tables e below (T50.setTop (mkF m 386 #[.val (.int p0), .val (.int p1), .val (.int p2), .val (.int p3), .val (.int p4), .val (.int p5), .val (.double z1), .second, .val (.double z5), .second, .val (.double z9), .second, .val (.double z13), .second, .val (.double z18), .second, .val (.double z23), .second, .val (.double z29), .second, .val (.double z35), .second, .val (.double z43), .second, .val (.ref r2), .val (.int z70), .val (.ref r8), .val (.int m104_s0), .val (.ref b17), .val (.ref rb21_b1), .val (.int (1 : Int32)), .val (.ref rb50_b1)] [(.int z385)])) _
    refine XS.ifNo X50.here hx rfl (hb hby at_386) rfl (Jvm.Free.XT.i0_ne_f br386) ?_
    show Steps p.tables e below (T50.setTop (mkF m 389 #[.val (.int p0), .val (.int p1), .val (.int p2), .val (.int p3), .val (.int p4), .val (.int p5), .val (.double z1), .second, .val (.double z5), .second, .val (.double z9), .second, .val (.double z13), .second, .val (.double z18), .second, .val (.double z23), .second, .val (.double z29), .second, .val (.double z35), .second, .val (.double z43), .second, .val (.ref r2), .val (.int z70), .val (.ref r8), .val (.int m104_s0), .val (.ref b17), .val (.ref rb21_b1), .val (.int (1 : Int32)), .val (.ref rb50_b1)] [])) _
    refine XS.aload X50.here hx rfl (hb hby at_389) rfl rfl ?_
    show Steps p.tables e below (T50.setTop (mkF m 391 #[.val (.int p0), .val (.int p1), .val (.int p2), .val (.int p3), .val (.int p4), .val (.int p5), .val (.double z1), .second, .val (.double z5), .second, .val (.double z9), .second, .val (.double z13), .second, .val (.double z18), .second, .val (.double z23), .second, .val (.double z29), .second, .val (.double z35), .second, .val (.double z43), .second, .val (.ref r2), .val (.int z70), .val (.ref r8), .val (.int m104_s0), .val (.ref b17), .val (.ref rb21_b1), .val (.int (1 : Int32)), .val (.ref rb50_b1)] [(.ref rb50_b1)])) _
    refine XS.bipush X50.here hx rfl (hb hby at_391) ?_
    show Steps p.tables e below (T50.setTop (mkF m 393 #[.val (.int p0), .val (.int p1), .val (.int p2), .val (.int p3), .val (.int p4), .val (.int p5), .val (.double z1), .second, .val (.double z5), .second, .val (.double z9), .second, .val (.double z13), .second, .val (.double z18), .second, .val (.double z23), .second, .val (.double z29), .second, .val (.double z35), .second, .val (.double z43), .second, .val (.ref r2), .val (.int z70), .val (.ref r8), .val (.int m104_s0), .val (.ref b17), .val (.ref rb21_b1), .val (.int (1 : Int32)), .val (.ref rb50_b1)] [(.int (6 : Int32)), (.ref rb50_b1)])) _
    refine X50.daload hx (j := (6 : Int32)) (v := (.double z29)) Ar60.1 (State.isArrayOf_alike hZ.alike Ar60.2.1) Ar60.2.2 in60 (Has.at Ha60 in60 rfl) (g := (mkF m 393 #[.val (.int p0), .val (.int p1), .val (.int p2), .val (.int p3), .val (.int p4), .val (.int p5), .val (.double z1), .second, .val (.double z5), .second, .val (.double z9), .second, .val (.double z13), .second, .val (.double z18), .second, .val (.double z23), .second, .val (.double z29), .second, .val (.double z35), .second, .val (.double z43), .second, .val (.ref r2), .val (.int z70), .val (.ref r8), .val (.int m104_s0), .val (.ref b17), .val (.ref rb21_b1), .val (.int (1 : Int32)), .val (.ref rb50_b1)] [(.int (6 : Int32)), (.ref rb50_b1)])) rfl rfl (hb hby at_393) _ ?_
    show Steps p.tables e below (T50.setTop (mkF m 394 #[.val (.int p0), .val (.int p1), .val (.int p2), .val (.int p3), .val (.int p4), .val (.int p5), .val (.double z1), .second, .val (.double z5), .second, .val (.double z9), .second, .val (.double z13), .second, .val (.double z18), .second, .val (.double z23), .second, .val (.double z29), .second, .val (.double z35), .second, .val (.double z43), .second, .val (.ref r2), .val (.int z70), .val (.ref r8), .val (.int m104_s0), .val (.ref b17), .val (.ref rb21_b1), .val (.int (1 : Int32)), .val (.ref rb50_b1)] [(.double z29)])) _
    refine XS.dload X50.here hx rfl (hb hby at_394) rfl ?_
    show Steps p.tables e below (T50.setTop (mkF m 396 #[.val (.int p0), .val (.int p1), .val (.int p2), .val (.int p3), .val (.int p4), .val (.int p5), .val (.double z1), .second, .val (.double z5), .second, .val (.double z9), .second, .val (.double z13), .second, .val (.double z18), .second, .val (.double z23), .second, .val (.double z29), .second, .val (.double z35), .second, .val (.double z43), .second, .val (.ref r2), .val (.int z70), .val (.ref r8), .val (.int m104_s0), .val (.ref b17), .val (.ref rb21_b1), .val (.int (1 : Int32)), .val (.ref rb50_b1)] [(.double z29), (.double z29)])) _
    refine XS.dcmpS X50.here hx rfl (hb hby at_396) rfl hz396 ?_
    show Steps p.tables e below (T50.setTop (mkF m 397 #[.val (.int p0), .val (.int p1), .val (.int p2), .val (.int p3), .val (.int p4), .val (.int p5), .val (.double z1), .second, .val (.double z5), .second, .val (.double z9), .second, .val (.double z13), .second, .val (.double z18), .second, .val (.double z23), .second, .val (.double z29), .second, .val (.double z35), .second, .val (.double z43), .second, .val (.ref r2), .val (.int z70), .val (.ref r8), .val (.int m104_s0), .val (.ref b17), .val (.ref rb21_b1), .val (.int (1 : Int32)), .val (.ref rb50_b1)] [(.int z396)])) _
    refine XS.ifNo X50.here hx rfl (hb hby at_397) rfl (Jvm.Free.XT.i0_ne_f br397) ?_
    show Steps p.tables e below (T50.setTop (mkF m 400 #[.val (.int p0), .val (.int p1), .val (.int p2), .val (.int p3), .val (.int p4), .val (.int p5), .val (.double z1), .second, .val (.double z5), .second, .val (.double z9), .second, .val (.double z13), .second, .val (.double z18), .second, .val (.double z23), .second, .val (.double z29), .second, .val (.double z35), .second, .val (.double z43), .second, .val (.ref r2), .val (.int z70), .val (.ref r8), .val (.int m104_s0), .val (.ref b17), .val (.ref rb21_b1), .val (.int (1 : Int32)), .val (.ref rb50_b1)] [])) _
    refine XS.aload X50.here hx rfl (hb hby at_400) rfl rfl ?_
    show Steps p.tables e below (T50.setTop (mkF m 402 #[.val (.int p0), .val (.int p1), .val (.int p2), .val (.int p3), .val (.int p4), .val (.int p5), .val (.double z1), .second, .val (.double z5), .second, .val (.double z9), .second, .val (.double z13), .second, .val (.double z18), .second, .val (.double z23), .second, .val (.double z29), .second, .val (.double z35), .second, .val (.double z43), .second, .val (.ref r2), .val (.int z70), .val (.ref r8), .val (.int m104_s0), .val (.ref b17), .val (.ref rb21_b1), .val (.int (1 : Int32)), .val (.ref rb50_b1)] [(.ref rb50_b1)])) _
    refine XS.bipush X50.here hx rfl (hb hby at_402) ?_
    show Steps p.tables e below (T50.setTop (mkF m 404 #[.val (.int p0), .val (.int p1), .val (.int p2), .val (.int p3), .val (.int p4), .val (.int p5), .val (.double z1), .second, .val (.double z5), .second, .val (.double z9), .second, .val (.double z13), .second, .val (.double z18), .second, .val (.double z23), .second, .val (.double z29), .second, .val (.double z35), .second, .val (.double z43), .second, .val (.ref r2), .val (.int z70), .val (.ref r8), .val (.int m104_s0), .val (.ref b17), .val (.ref rb21_b1), .val (.int (1 : Int32)), .val (.ref rb50_b1)] [(.int (7 : Int32)), (.ref rb50_b1)])) _
    refine X50.daload hx (j := (7 : Int32)) (v := (.double z35)) Ar61.1 (State.isArrayOf_alike hZ.alike Ar61.2.1) Ar61.2.2 in61 (Has.at Ha61 in61 rfl) (g := (mkF m 404 #[.val (.int p0), .val (.int p1), .val (.int p2), .val (.int p3), .val (.int p4), .val (.int p5), .val (.double z1), .second, .val (.double z5), .second, .val (.double z9), .second, .val (.double z13), .second, .val (.double z18), .second, .val (.double z23), .second, .val (.double z29), .second, .val (.double z35), .second, .val (.double z43), .second, .val (.ref r2), .val (.int z70), .val (.ref r8), .val (.int m104_s0), .val (.ref b17), .val (.ref rb21_b1), .val (.int (1 : Int32)), .val (.ref rb50_b1)] [(.int (7 : Int32)), (.ref rb50_b1)])) rfl rfl (hb hby at_404) _ ?_
    show Steps p.tables e below (T50.setTop (mkF m 405 #[.val (.int p0), .val (.int p1), .val (.int p2), .val (.int p3), .val (.int p4), .val (.int p5), .val (.double z1), .second, .val (.double z5), .second, .val (.double z9), .second, .val (.double z13), .second, .val (.double z18), .second, .val (.double z23), .second, .val (.double z29), .second, .val (.double z35), .second, .val (.double z43), .second, .val (.ref r2), .val (.int z70), .val (.ref r8), .val (.int m104_s0), .val (.ref b17), .val (.ref rb21_b1), .val (.int (1 : Int32)), .val (.ref rb50_b1)] [(.double z35)])) _
    refine XS.dload X50.here hx rfl (hb hby at_405) rfl ?_
    show Steps p.tables e below (T50.setTop (mkF m 407 #[.val (.int p0), .val (.int p1), .val (.int p2), .val (.int p3), .val (.int p4), .val (.int p5), .val (.double z1), .second, .val (.double z5), .second, .val (.double z9), .second, .val (.double z13), .second, .val (.double z18), .second, .val (.double z23), .second, .val (.double z29), .second, .val (.double z35), .second, .val (.double z43), .second, .val (.ref r2), .val (.int z70), .val (.ref r8), .val (.int m104_s0), .val (.ref b17), .val (.ref rb21_b1), .val (.int (1 : Int32)), .val (.ref rb50_b1)] [(.double z35), (.double z35)])) _
    refine XS.dcmpS X50.here hx rfl (hb hby at_407) rfl hz407 ?_
    show Steps p.tables e below (T50.setTop (mkF m 408 #[.val (.int p0), .val (.int p1), .val (.int p2), .val (.int p3), .val (.int p4), .val (.int p5), .val (.double z1), .second, .val (.double z5), .second, .val (.double z9), .second, .val (.double z13), .second, .val (.double z18), .second, .val (.double z23), .second, .val (.double z29), .second, .val (.double z35), .second, .val (.double z43), .second, .val (.ref r2), .val (.int z70), .val (.ref r8), .val (.int m104_s0), .val (.ref b17), .val (.ref rb21_b1), .val (.int (1 : Int32)), .val (.ref rb50_b1)] [(.int z407)])) _
    refine XS.ifNo X50.here hx rfl (hb hby at_408) rfl (Jvm.Free.XT.i0_ne_f br408) ?_
    show Steps p.tables e below (T50.setTop (mkF m 411 #[.val (.int p0), .val (.int p1), .val (.int p2), .val (.int p3), .val (.int p4), .val (.int p5), .val (.double z1), .second, .val (.double z5), .second, .val (.double z9), .second, .val (.double z13), .second, .val (.double z18), .second, .val (.double z23), .second, .val (.double z29), .second, .val (.double z35), .second, .val (.double z43), .second, .val (.ref r2), .val (.int z70), .val (.ref r8), .val (.int m104_s0), .val (.ref b17), .val (.ref rb21_b1), .val (.int (1 : Int32)), .val (.ref rb50_b1)] [])) _
    refine XS.aload X50.here hx rfl (hb hby at_411) rfl rfl ?_
    show Steps p.tables e below (T50.setTop (mkF m 413 #[.val (.int p0), .val (.int p1), .val (.int p2), .val (.int p3), .val (.int p4), .val (.int p5), .val (.double z1), .second, .val (.double z5), .second, .val (.double z9), .second, .val (.double z13), .second, .val (.double z18), .second, .val (.double z23), .second, .val (.double z29), .second, .val (.double z35), .second, .val (.double z43), .second, .val (.ref r2), .val (.int z70), .val (.ref r8), .val (.int m104_s0), .val (.ref b17), .val (.ref rb21_b1), .val (.int (1 : Int32)), .val (.ref rb50_b1)] [(.ref rb50_b1)])) _
    refine XS.bipush X50.here hx rfl (hb hby at_413) ?_
    show Steps p.tables e below (T50.setTop (mkF m 415 #[.val (.int p0), .val (.int p1), .val (.int p2), .val (.int p3), .val (.int p4), .val (.int p5), .val (.double z1), .second, .val (.double z5), .second, .val (.double z9), .second, .val (.double z13), .second, .val (.double z18), .second, .val (.double z23), .second, .val (.double z29), .second, .val (.double z35), .second, .val (.double z43), .second, .val (.ref r2), .val (.int z70), .val (.ref r8), .val (.int m104_s0), .val (.ref b17), .val (.ref rb21_b1), .val (.int (1 : Int32)), .val (.ref rb50_b1)] [(.int (8 : Int32)), (.ref rb50_b1)])) _
    refine X50.daload hx (j := (8 : Int32)) (v := (.double z43)) Ar62.1 (State.isArrayOf_alike hZ.alike Ar62.2.1) Ar62.2.2 in62 (Has.at Ha62 in62 rfl) (g := (mkF m 415 #[.val (.int p0), .val (.int p1), .val (.int p2), .val (.int p3), .val (.int p4), .val (.int p5), .val (.double z1), .second, .val (.double z5), .second, .val (.double z9), .second, .val (.double z13), .second, .val (.double z18), .second, .val (.double z23), .second, .val (.double z29), .second, .val (.double z35), .second, .val (.double z43), .second, .val (.ref r2), .val (.int z70), .val (.ref r8), .val (.int m104_s0), .val (.ref b17), .val (.ref rb21_b1), .val (.int (1 : Int32)), .val (.ref rb50_b1)] [(.int (8 : Int32)), (.ref rb50_b1)])) rfl rfl (hb hby at_415) _ ?_
    show Steps p.tables e below (T50.setTop (mkF m 416 #[.val (.int p0), .val (.int p1), .val (.int p2), .val (.int p3), .val (.int p4), .val (.int p5), .val (.double z1), .second, .val (.double z5), .second, .val (.double z9), .second, .val (.double z13), .second, .val (.double z18), .second, .val (.double z23), .second, .val (.double z29), .second, .val (.double z35), .second, .val (.double z43), .second, .val (.ref r2), .val (.int z70), .val (.ref r8), .val (.int m104_s0), .val (.ref b17), .val (.ref rb21_b1), .val (.int (1 : Int32)), .val (.ref rb50_b1)] [(.double z43)])) _
    refine XS.dload X50.here hx rfl (hb hby at_416) rfl ?_
    show Steps p.tables e below (T50.setTop (mkF m 418 #[.val (.int p0), .val (.int p1), .val (.int p2), .val (.int p3), .val (.int p4), .val (.int p5), .val (.double z1), .second, .val (.double z5), .second, .val (.double z9), .second, .val (.double z13), .second, .val (.double z18), .second, .val (.double z23), .second, .val (.double z29), .second, .val (.double z35), .second, .val (.double z43), .second, .val (.ref r2), .val (.int z70), .val (.ref r8), .val (.int m104_s0), .val (.ref b17), .val (.ref rb21_b1), .val (.int (1 : Int32)), .val (.ref rb50_b1)] [(.double z43), (.double z43)])) _
    refine XS.dcmpS X50.here hx rfl (hb hby at_418) rfl hz418 ?_
    show Steps p.tables e below (T50.setTop (mkF m 419 #[.val (.int p0), .val (.int p1), .val (.int p2), .val (.int p3), .val (.int p4), .val (.int p5), .val (.double z1), .second, .val (.double z5), .second, .val (.double z9), .second, .val (.double z13), .second, .val (.double z18), .second, .val (.double z23), .second, .val (.double z29), .second, .val (.double z35), .second, .val (.double z43), .second, .val (.ref r2), .val (.int z70), .val (.ref r8), .val (.int m104_s0), .val (.ref b17), .val (.ref rb21_b1), .val (.int (1 : Int32)), .val (.ref rb50_b1)] [(.int z418)])) _
    refine XS.ifNo X50.here hx rfl (hb hby at_419) rfl (Jvm.Free.XT.i0_ne_f br419) ?_
    show Steps p.tables e below (T50.setTop (mkF m 422 #[.val (.int p0), .val (.int p1), .val (.int p2), .val (.int p3), .val (.int p4), .val (.int p5), .val (.double z1), .second, .val (.double z5), .second, .val (.double z9), .second, .val (.double z13), .second, .val (.double z18), .second, .val (.double z23), .second, .val (.double z29), .second, .val (.double z35), .second, .val (.double z43), .second, .val (.ref r2), .val (.int z70), .val (.ref r8), .val (.int m104_s0), .val (.ref b17), .val (.ref rb21_b1), .val (.int (1 : Int32)), .val (.ref rb50_b1)] [])) _
    refine XS.aload X50.here hx rfl (hb hby at_422) rfl rfl ?_
    show Steps p.tables e below (T50.setTop (mkF m 424 #[.val (.int p0), .val (.int p1), .val (.int p2), .val (.int p3), .val (.int p4), .val (.int p5), .val (.double z1), .second, .val (.double z5), .second, .val (.double z9), .second, .val (.double z13), .second, .val (.double z18), .second, .val (.double z23), .second, .val (.double z29), .second, .val (.double z35), .second, .val (.double z43), .second, .val (.ref r2), .val (.int z70), .val (.ref r8), .val (.int m104_s0), .val (.ref b17), .val (.ref rb21_b1), .val (.int (1 : Int32)), .val (.ref rb50_b1)] [(.ref b17)])) _
    refine st64.trans ?_
    show Steps p.tables e below (T64.setTop (mkF m 427 #[.val (.int p0), .val (.int p1), .val (.int p2), .val (.int p3), .val (.int p4), .val (.int p5), .val (.double z1), .second, .val (.double z5), .second, .val (.double z9), .second, .val (.double z13), .second, .val (.double z18), .second, .val (.double z23), .second, .val (.double z29), .second, .val (.double z35), .second, .val (.double z43), .second, .val (.ref r2), .val (.int z70), .val (.ref r8), .val (.int m104_s0), .val (.ref b17), .val (.ref rb21_b1), .val (.int (1 : Int32)), .val (.ref rb50_b1)] [(.double z1)])) _
    refine XS.dload X64.here hx rfl (hb hby at_427) rfl ?_
    show Steps p.tables e below (T64.setTop (mkF m 429 #[.val (.int p0), .val (.int p1), .val (.int p2), .val (.int p3), .val (.int p4), .val (.int p5), .val (.double z1), .second, .val (.double z5), .second, .val (.double z9), .second, .val (.double z13), .second, .val (.double z18), .second, .val (.double z23), .second, .val (.double z29), .second, .val (.double z35), .second, .val (.double z43), .second, .val (.ref r2), .val (.int z70), .val (.ref r8), .val (.int m104_s0), .val (.ref b17), .val (.ref rb21_b1), .val (.int (1 : Int32)), .val (.ref rb50_b1)] [(.double z1), (.double z1)])) _
    refine XS.dcmpS X64.here hx rfl (hb hby at_429) rfl hz429 ?_
    show Steps p.tables e below (T64.setTop (mkF m 430 #[.val (.int p0), .val (.int p1), .val (.int p2), .val (.int p3), .val (.int p4), .val (.int p5), .val (.double z1), .second, .val (.double z5), .second, .val (.double z9), .second, .val (.double z13), .second, .val (.double z18), .second, .val (.double z23), .second, .val (.double z29), .second, .val (.double z35), .second, .val (.double z43), .second, .val (.ref r2), .val (.int z70), .val (.ref r8), .val (.int m104_s0), .val (.ref b17), .val (.ref rb21_b1), .val (.int (1 : Int32)), .val (.ref rb50_b1)] [(.int z429)])) _
    refine XS.ifNo X64.here hx rfl (hb hby at_430) rfl (Jvm.Free.XT.i0_ne_f br430) ?_
    show Steps p.tables e below (T64.setTop (mkF m 433 #[.val (.int p0), .val (.int p1), .val (.int p2), .val (.int p3), .val (.int p4), .val (.int p5), .val (.double z1), .second, .val (.double z5), .second, .val (.double z9), .second, .val (.double z13), .second, .val (.double z18), .second, .val (.double z23), .second, .val (.double z29), .second, .val (.double z35), .second, .val (.double z43), .second, .val (.ref r2), .val (.int z70), .val (.ref r8), .val (.int m104_s0), .val (.ref b17), .val (.ref rb21_b1), .val (.int (1 : Int32)), .val (.ref rb50_b1)] [])) _
    refine XS.aload X64.here hx rfl (hb hby at_433) rfl rfl ?_
    show Steps p.tables e below (T64.setTop (mkF m 435 #[.val (.int p0), .val (.int p1), .val (.int p2), .val (.int p3), .val (.int p4), .val (.int p5), .val (.double z1), .second, .val (.double z5), .second, .val (.double z9), .second, .val (.double z13), .second, .val (.double z18), .second, .val (.double z23), .second, .val (.double z29), .second, .val (.double z35), .second, .val (.double z43), .second, .val (.ref r2), .val (.int z70), .val (.ref r8), .val (.int m104_s0), .val (.ref b17), .val (.ref rb21_b1), .val (.int (1 : Int32)), .val (.ref rb50_b1)] [(.ref b17)])) _
    refine st67.trans ?_
    show Steps p.tables e below (T67.setTop (mkF m 438 #[.val (.int p0), .val (.int p1), .val (.int p2), .val (.int p3), .val (.int p4), .val (.int p5), .val (.double z1), .second, .val (.double z5), .second, .val (.double z9), .second, .val (.double z13), .second, .val (.double z18), .second, .val (.double z23), .second, .val (.double z29), .second, .val (.double z35), .second, .val (.double z43), .second, .val (.ref r2), .val (.int z70), .val (.ref r8), .val (.int m104_s0), .val (.ref b17), .val (.ref rb21_b1), .val (.int (1 : Int32)), .val (.ref rb50_b1)] [(.double z43)])) _
    refine XS.dload X67.here hx rfl (hb hby at_438) rfl ?_
    show Steps p.tables e below (T67.setTop (mkF m 440 #[.val (.int p0), .val (.int p1), .val (.int p2), .val (.int p3), .val (.int p4), .val (.int p5), .val (.double z1), .second, .val (.double z5), .second, .val (.double z9), .second, .val (.double z13), .second, .val (.double z18), .second, .val (.double z23), .second, .val (.double z29), .second, .val (.double z35), .second, .val (.double z43), .second, .val (.ref r2), .val (.int z70), .val (.ref r8), .val (.int m104_s0), .val (.ref b17), .val (.ref rb21_b1), .val (.int (1 : Int32)), .val (.ref rb50_b1)] [(.double z43), (.double z43)])) _
    refine XS.dcmpS X67.here hx rfl (hb hby at_440) rfl hz440 ?_
    show Steps p.tables e below (T67.setTop (mkF m 441 #[.val (.int p0), .val (.int p1), .val (.int p2), .val (.int p3), .val (.int p4), .val (.int p5), .val (.double z1), .second, .val (.double z5), .second, .val (.double z9), .second, .val (.double z13), .second, .val (.double z18), .second, .val (.double z23), .second, .val (.double z29), .second, .val (.double z35), .second, .val (.double z43), .second, .val (.ref r2), .val (.int z70), .val (.ref r8), .val (.int m104_s0), .val (.ref b17), .val (.ref rb21_b1), .val (.int (1 : Int32)), .val (.ref rb50_b1)] [(.int z440)])) _
    refine XS.ifNo X67.here hx rfl (hb hby at_441) rfl (Jvm.Free.XT.i0_ne_f br441) ?_
    show Steps p.tables e below (T67.setTop (mkF m 444 #[.val (.int p0), .val (.int p1), .val (.int p2), .val (.int p3), .val (.int p4), .val (.int p5), .val (.double z1), .second, .val (.double z5), .second, .val (.double z9), .second, .val (.double z13), .second, .val (.double z18), .second, .val (.double z23), .second, .val (.double z29), .second, .val (.double z35), .second, .val (.double z43), .second, .val (.ref r2), .val (.int z70), .val (.ref r8), .val (.int m104_s0), .val (.ref b17), .val (.ref rb21_b1), .val (.int (1 : Int32)), .val (.ref rb50_b1)] [])) _
    refine XS.iconst X67.here hx rfl (hb hby at_444) ?_
    show Steps p.tables e below (T67.setTop (mkF m 445 #[.val (.int p0), .val (.int p1), .val (.int p2), .val (.int p3), .val (.int p4), .val (.int p5), .val (.double z1), .second, .val (.double z5), .second, .val (.double z9), .second, .val (.double z13), .second, .val (.double z18), .second, .val (.double z23), .second, .val (.double z29), .second, .val (.double z35), .second, .val (.double z43), .second, .val (.ref r2), .val (.int z70), .val (.ref r8), .val (.int m104_s0), .val (.ref b17), .val (.ref rb21_b1), .val (.int (1 : Int32)), .val (.ref rb50_b1)] [(.int (1 : Int32))])) _
    refine XS.goto X67.here hx rfl (pc0 := 445) (pc' := 449) rfl (hb hby at_445) (by decide) (by decide) ?_
    exact k
  obtain ⟨fs, hr, hrun, hended, -, hW, hW2, hsame⟩ := Jvm.Stand.leaveW (s := s) (vm₁ := T19.vm) X67 hS19 (by rw [e67]; exact (Nat.le_trans (Nat.le_trans (Nat.le_trans (Nat.le_trans (Nat.le_refl _) K21q.1) (Keep.of_wr W35).1) (Keep.of_wr W39).1) K50q.1)) (v := some (.int (1 : Int32))) (fun h => by rw [Bd.returns] at h; cases h)
  refine ⟨_, _, c68 _ ?_, hrun, hended, _, _, rfl, ?_, ⟨_, rfl⟩, hW, hW2, hsame.mono (by decide) (by decide)⟩
  · show Steps p.tables e below (T67.setTop (mkF m 449 #[.val (.int p0), .val (.int p1), .val (.int p2), .val (.int p3), .val (.int p4), .val (.int p5), .val (.double z1), .second, .val (.double z5), .second, .val (.double z9), .second, .val (.double z13), .second, .val (.double z18), .second, .val (.double z23), .second, .val (.double z29), .second, .val (.double z35), .second, .val (.double z43), .second, .val (.ref r2), .val (.int z70), .val (.ref r8), .val (.int m104_s0), .val (.ref b17), .val (.ref rb21_b1), .val (.int (1 : Int32)), .val (.ref rb50_b1)] [(.int (1 : Int32))])) _
    exact retOut X67 hx Bd.returns rfl (Or.inl ⟨rfl, by simp, _, rfl⟩) (hb hby at_449) hr
  · show Q0 n0 _ T67.heap _
    rw [e67]
    exact ⟨rfl, by first | assumption | exact N0⟩
set_option maxRecDepth 65536 in
set_option maxHeartbeats 40000000 in
theorem comes_1 {Post : Tables → Env → Array Value → State → Outcome → State → Prop} (hpost : ∀ tb e args s v u, (limb_1_1.after args s (.returned v) u = true ∧ limb_1_2.after args s (.returned v) u = true ∧ True) → ReturnedEndW s (.returned v) u (Jvm.fieldLocs frame_1_writes args s ++ Jvm.arrayLocs frame_1_arrays args s ++ Jvm.staticLocs frame_1_statics s) 24 2240 → Post tb e args s (.returned v) u) :
    ArmFor flags0 classFile x code maxLocals ret World_1 tables_1 room_1 Calls_1 rest_1 Pre_1 Post := by
  intro l hfl _ _ p e ha hc hk s m args below hf hA hF happ hP
  obtain ⟨hcalls, hrest, hpre⟩ := hP
  obtain ⟨-, -, -, hnamed, -, -, -, hat⟩ := (Spec.applies_iff hf).mp happ
  obtain ⟨hg, hn⟩ := and_e (Cond.before_iff.mp (show (Jvm.Cond.and given_1 narrow_1).before args s = true from hpre))
  obtain ⟨g1, g2⟩ := and_e hg
  obtain ⟨g3, g4⟩ := and_e g2
  obtain ⟨g5, g6⟩ := and_e g4
  obtain ⟨g7, g8⟩ := and_e g6
  obtain ⟨g9, g10⟩ := and_e g8
  obtain ⟨g11, g12⟩ := and_e g10
  obtain ⟨w0, w1, w2, w3, w4, w5, rfl⟩ : ∃ w0 w1 w2 w3 w4 w5 : Value, args = #[w0, w1, w2, w3, w4, w5] := by
    have hs : args.size = 6 := by simpa [Cond.value, given_1] using g1
    obtain ⟨L⟩ := args
    match L, hs with
    | [w0, w1, w2, w3, w4, w5], _ => exact ⟨w0, w1, w2, w3, w4, w5, rfl⟩
  have hw := fun d (hd : d ∈ tables_1) => atoms_spec (ws := Jvm.Cond.code x code maxLocals ret :: tables_1) hat d (List.mem_cons_of_mem _ hd)
  have hfit : Fit s := fun {y c} hc i hi => by
    obtain ⟨ha, rfl⟩ := Array.getElem?_eq_some_iff.mp hc
    have q := List.all_eq_true.mp ((Array.all_eq_true_iff_forall_mem.mp hF) _ (Array.getElem_mem ha)) i (List.mem_range.mpr hi)
    simpa [Array.getElem?_eq_getElem hi] using q
  obtain ⟨i0, ei0⟩ := is_v g3
  obtain rfl : w0 = (.int i0) := Option.some.inj ei0
  obtain ⟨i1, ei1⟩ := is_v g5
  obtain rfl : w1 = (.int i1) := Option.some.inj ei1
  obtain ⟨i2, ei2⟩ := is_v g7
  obtain rfl : w2 = (.int i2) := Option.some.inj ei2
  obtain ⟨i3, ei3⟩ := is_v g9
  obtain rfl : w3 = (.int i3) := Option.some.inj ei3
  obtain ⟨i4, ei4⟩ := is_v g11
  obtain rfl : w4 = (.int i4) := Option.some.inj ei4
  obtain ⟨i5, ei5⟩ := is_v g12
  obtain rfl : w5 = (.int i5) := Option.some.inj ei5
  obtain ⟨g13, g14⟩ := and_e hn
  obtain ⟨g15, g16⟩ := and_e g14
  obtain ⟨g17, g18⟩ := and_e g16
  obtain ⟨g19, g20⟩ := and_e g18
  obtain ⟨r_STATIC, er_STATIC⟩ := exa_v g17
  have S_STATIC : Sta s s.heap "com/example/bindwire/bindwire/model/Constraint$Kind" "STATIC" "Lcom/example/bindwire/bindwire/model/Constraint$Kind;" (.ref r_STATIC) := Sta.start er_STATIC (Or.inr ⟨(hw _ (List.mem_of_getElem? (i := 1) rfl)), (hw _ (List.mem_of_getElem? (i := 79) rfl))⟩)
  obtain ⟨r_OFFLOAD, er_OFFLOAD⟩ := exa_v g13
  have S_OFFLOAD : Sta s s.heap "com/example/bindwire/bindwire/model/Constraint$Kind" "OFFLOAD" "Lcom/example/bindwire/bindwire/model/Constraint$Kind;" (.ref r_OFFLOAD) := Sta.start er_OFFLOAD (Or.inr ⟨(hw _ (List.mem_of_getElem? (i := 1) rfl)), (hw _ (List.mem_of_getElem? (i := 2) rfl))⟩)
  obtain ⟨r_DC, er_DC⟩ := exa_v g15
  have S_DC : Sta s s.heap "com/example/bindwire/bindwire/model/SolveMethod" "DC" "Lcom/example/bindwire/bindwire/model/SolveMethod;" (.ref r_DC) := Sta.start er_DC (Or.inr ⟨(hw _ (List.mem_of_getElem? (i := 5) rfl)), (hw _ (List.mem_of_getElem? (i := 6) rfl))⟩)
  obtain ⟨r_NLDC, er_NLDC⟩ := exa_v g20
  have S_NLDC : Sta s s.heap "com/example/bindwire/bindwire/model/SolveMethod" "NLDC" "Lcom/example/bindwire/bindwire/model/SolveMethod;" (.ref r_NLDC) := Sta.start er_NLDC (Or.inr ⟨(hw _ (List.mem_of_getElem? (i := 5) rfl)), (hw _ (List.mem_of_getElem? (i := 83) rfl))⟩)
  obtain ⟨r_AC, er_AC⟩ := exa_v g19
  have S_AC : Sta s s.heap "com/example/bindwire/bindwire/model/SolveMethod" "AC" "Lcom/example/bindwire/bindwire/model/SolveMethod;" (.ref r_AC) := Sta.start er_AC (Or.inr ⟨(hw _ (List.mem_of_getElem? (i := 5) rfl)), (hw _ (List.mem_of_getElem? (i := 81) rfl))⟩)
  obtain ⟨n, o, h1, h2, h3, _, L, rfl, ⟨rfl, N⟩, hq⟩ := rm0 l s _ hw tables_1 i0 i1 i2 i3 i4 i5  r_STATIC r_OFFLOAD r_DC r_NLDC r_AC s.heap s.heap.size (Nat.le_refl _)  S_STATIC S_OFFLOAD S_DC S_NLDC S_AC p e ha hc hk s m _ below hf ((Spec.applies_iff_loose hf).mp happ).1 ⟨rfl, State.Warmed39.refl s, rfl⟩ trivial
  refine ⟨n, _, h1, h2, h3, hpost _ _ _ _ _ _ ⟨Cond.after_iff.mpr rfl, Cond.after_iff.mpr (eq_i res_at (Term.int_eval (1)) rfl), trivial⟩ ⟨hq.1, hq.2.1, hq.2.2.1, (hq.2.2.2.sift fun y hy => Or.inr (N y hy)).mono (by decide) (by decide)⟩⟩
theorem main_1_1 : Claimed_1_1 := comes_1 fun _ _ _ _ _ _ h hF => ⟨h.1, hF⟩
theorem main_1_2 : Claimed_1_2 := comes_1 fun _ _ _ _ _ _ h hF => ⟨h.2.1, hF⟩
end Jvm.Pilot.@@N@@
namespace Jvm.Pilot.@@N@@
open Jvm Jvm.ClassFile Sem Op Lib Jvm.Free Jvm.Stand Jvm.Pilot.@@N@@.Jvm.D
/-! MADE BY PROGRAM (witnessworld.py) out of the Statement's table words and the real class files: 21 classes; the members and pool entries that the words name. The judged class is class 1, her method 1. -/
namespace start1
open Jvm.ClassFile
def u (s : String) : CpInfo := .utf8 (stringToUtf16 s)
/-- a pool by its gaps: so many unusable entries, then the entry; so many at the end -/
def gap : Nat → List CpInfo → List CpInfo
  | 0, r => r
  | n + 1, r => .unusable :: gap n r
def poolList (es : List (Nat × CpInfo)) (last : Nat) : List CpInfo := es.foldr (fun e r => gap e.1 (e.2 :: r)) (gap last [])
def pool (es : List (Nat × CpInfo)) (last : Nat) : Array CpInfo := ⟨poolList es last⟩
def fileOf (pool : Array CpInfo) (this : Nat) (attrs : Array Attribute := #[]) (ms : Array MethodInfo := #[]) (fl : Nat := 33) (sup : Nat := 0) (ifs : Array Nat := #[]) (fds : Array FieldInfo := #[]) : ClassFile where
  minorVersion := 0
  majorVersion := 65
  constantPool := pool
  accessFlags := fl
  thisClass := this
  superClass := sup
  interfaces := ifs
  fields := fds
  methods := ms
  attributes := attrs
def plain (name : String) (sup : Option ClassId) : Class where
  name := name
  kind := .ordinary
  loader := none
  accessFlags := 33
  super := sup
  interfaces := #[]
  cf := none
  fields := #[]
  methods := #[]
  instanceTypes := #[]
  staticTypes := #[]
  resolved := #[]
  callSites := []
  init := .initialized
  statics := none
  mirror := none

def pool0 : Array CpInfo := pool [(5, u "<init>"), (0, u "()V"), (1, .class_ 10), (1, u "java/lang/Object")] 113

def k0c0 : Code := { maxStack := 0, maxLocals := 1, code := object_method_1_code, exceptionTable := #[], attributes := #[] }
def k0m0 : Method := { name := "<init>", desc := "()V", sig := { parameters := [], returnType := none }, accessFlags := 1, code := some k0c0 }
/-- java/lang/Object -/
def k0 : Class := { plain "java/lang/Object" none with
  accessFlags := 33
  interfaces := #[]
  cf := some (fileOf pool0 8 #[] #[{ accessFlags := 1, nameIndex := 5, descriptorIndex := 6, attributes := #[] }] 33 0 #[] #[])
  fields := #[]
  methods := #[k0m0]
  instanceTypes := #[]
  staticTypes := #[]
  resolved := Array.replicate 124 none
  statics := none }

def pool1 : Array CpInfo := pool [(2, .class_ 4), (1, u "java/lang/Object"), (0, u "<init>"), (0, u "()V"), (0, .fieldref 8 9), (0, .class_ 10), (0, .nameAndType 11 12), (0, u "com/example/bindwire/bindwire/model/Constraint$Kind"), (0, u "OFFLOAD"), (0, u "Lcom/example/bindwire/bindwire/model/Constraint$Kind;"), (0, .fieldref 8 14), (0, .nameAndType 15 12), (0, u "STATIC"), (0, .integer 2147483647), (0, .fieldref 18 19), (0, .class_ 20), (0, .nameAndType 21 22), (0, u "com/example/bindwire/bindwire/model/SolveMethod"), (0, u "DC"), (0, u "Lcom/example/bindwire/bindwire/model/SolveMethod;"), (0, .fieldref 18 24), (0, .nameAndType 25 22), (0, u "NLDC"), (0, .fieldref 18 27), (0, .nameAndType 28 22), (0, u "AC"), (0, .class_ 30), (0, u "com/example/bindwire/bindwire/model/Constraint"), (0, .methodref 29 32), (0, .nameAndType 5 33), (0, u "(IILcom/example/bindwire/bindwire/model/Constraint$Kind;Lcom/example/bindwire/bindwire/model/SolveMethod;DDDDDDDDDZ)V"), (0, .methodref 29 35), (0, .nameAndType 36 37), (0, u "numbers"), (0, u "()[D"), (0, .methodref 29 39), (0, .nameAndType 40 41), (0, u "k1"), (0, u "()D"), (0, .methodref 29 43), (0, .nameAndType 44 41), (0, u "loading"), (0, .class_ 46), (0, u "com/example/bindwire/bindwire/model/ConstraintNumbersPinLaw"), (2, u "law"), (0, u "(IIIIII)Z")] 7

def k1m0 : Method := { name := "<init>", desc := "()V", sig := { parameters := [], returnType := none }, accessFlags := 1, code := none }
def k1c1 : Code := { maxStack := 25, maxLocals := 32, code := code, exceptionTable := #[], attributes := #[] }
def k1m1 : Method := { name := "law", desc := "(IIIIII)Z", sig := { parameters := [.int, .int, .int, .int, .int, .int], returnType := some .boolean }, accessFlags := 9, code := some k1c1 }
/-- com/example/bindwire/bindwire/model/ConstraintNumbersPinLaw -/
def k1 : Class := { plain "com/example/bindwire/bindwire/model/ConstraintNumbersPinLaw" (some 0) with
  accessFlags := 49
  interfaces := #[]
  cf := some (fileOf pool1 45 #[] #[{ accessFlags := 1, nameIndex := 5, descriptorIndex := 6, attributes := #[] }, { accessFlags := 9, nameIndex := 49, descriptorIndex := 50, attributes := #[] }] 49 2 #[] #[])
  fields := #[]
  methods := #[k1m0, k1m1]
  instanceTypes := #[]
  staticTypes := #[]
  resolved := Array.replicate 58 none
  statics := none }

def pool2 : Array CpInfo := pool [(1, .class_ 2), (0, u "java/lang/constant/Constable"), (0, .class_ 4), (0, u "java/lang/Object")] 6

/-- java/lang/constant/Constable -/
def k2 : Class := { plain "java/lang/constant/Constable" (some 0) with
  accessFlags := 1537
  interfaces := #[]
  cf := some (fileOf pool2 1 #[] #[] 1537 3 #[] #[])
  fields := #[]
  methods := #[]
  instanceTypes := #[]
  staticTypes := #[]
  resolved := Array.replicate 11 none
  statics := none }

def pool3 : Array CpInfo := pool [(1, .class_ 2), (0, u "java/lang/Comparable"), (0, .class_ 4), (0, u "java/lang/Object")] 7

/-- java/lang/Comparable -/
def k3 : Class := { plain "java/lang/Comparable" (some 0) with
  accessFlags := 1537
  interfaces := #[]
  cf := some (fileOf pool3 1 #[] #[] 1537 3 #[] #[])
  fields := #[]
  methods := #[]
  instanceTypes := #[]
  staticTypes := #[]
  resolved := Array.replicate 12 none
  statics := none }

def pool4 : Array CpInfo := pool [(1, .class_ 2), (0, u "java/io/Serializable"), (0, .class_ 4), (0, u "java/lang/Object")] 2

/-- java/io/Serializable -/
def k4 : Class := { plain "java/io/Serializable" (some 0) with
  accessFlags := 1537
  interfaces := #[]
  cf := some (fileOf pool4 1 #[] #[] 1537 3 #[] #[])
  fields := #[]
  methods := #[]
  instanceTypes := #[]
  staticTypes := #[]
  resolved := Array.replicate 7 none
  statics := none }

def pool5 : Array CpInfo := pool [(2, .class_ 4), (1, u "java/lang/Enum"), (0, u "name"), (0, u "Ljava/lang/String;"), (2, u "ordinal"), (0, u "I"), (1, .class_ 14), (1, u "java/lang/Object"), (4, u "hash"), (86, .class_ 108), (1, u "java/lang/Enum$EnumDesc"), (2, .class_ 112), (0, u "java/lang/constant/Constable"), (0, .class_ 114), (0, u "java/lang/Comparable"), (0, .class_ 116), (0, u "java/io/Serializable")] 87

/-- java/lang/Enum -/
def k5 : Class := { plain "java/lang/Enum" (some 0) with
  accessFlags := 1057
  interfaces := #[2, 3, 4]
  cf := some (fileOf pool5 2 #[.nestMembers #[106]] #[] 1057 12 #[111, 113, 115] #[{ accessFlags := 18, nameIndex := 5, descriptorIndex := 6, attributes := #[] }, { accessFlags := 18, nameIndex := 9, descriptorIndex := 10, attributes := #[] }, { accessFlags := 2, nameIndex := 19, descriptorIndex := 10, attributes := #[] }])
  fields := #[{ name := "name", type := (.object "java/lang/String"), accessFlags := 18, slot := 0, constantValue := 0 }, { name := "ordinal", type := .int, accessFlags := 18, slot := 1, constantValue := 0 }, { name := "hash", type := .int, accessFlags := 2, slot := 2, constantValue := 0 }]
  methods := #[]
  instanceTypes := #[(.object "java/lang/String"), .int, .int]
  staticTypes := #[]
  resolved := Array.replicate 204 none
  statics := none }

def pool6 : Array CpInfo := pool [(1, .class_ 2), (0, u "com/example/bindwire/bindwire/model/Constraint$Kind"), (2, u "STATIC"), (0, u "Lcom/example/bindwire/bindwire/model/Constraint$Kind;"), (2, u "OFFLOAD"), (2, u "$VALUES"), (0, u "[Lcom/example/bindwire/bindwire/model/Constraint$Kind;"), (6, .class_ 22), (1, u "java/lang/Enum"), (25, .class_ 49), (0, u "com/example/bindwire/bindwire/model/Constraint")] 2

/-- com/example/bindwire/bindwire/model/Constraint$Kind -/
def k6 : Class := { plain "com/example/bindwire/bindwire/model/Constraint$Kind" (some 5) with
  accessFlags := 16433
  interfaces := #[]
  cf := some (fileOf pool6 1 #[.nestHost 48] #[] 16433 20 #[] #[{ accessFlags := 16409, nameIndex := 5, descriptorIndex := 6, attributes := #[] }, { accessFlags := 16409, nameIndex := 9, descriptorIndex := 6, attributes := #[] }, { accessFlags := 4122, nameIndex := 12, descriptorIndex := 13, attributes := #[] }])
  fields := #[{ name := "STATIC", type := (.object "com/example/bindwire/bindwire/model/Constraint$Kind"), accessFlags := 16409, slot := 0, constantValue := 0 }, { name := "OFFLOAD", type := (.object "com/example/bindwire/bindwire/model/Constraint$Kind"), accessFlags := 16409, slot := 1, constantValue := 0 }, { name := "$VALUES", type := (.array (.object "com/example/bindwire/bindwire/model/Constraint$Kind")), accessFlags := 4122, slot := 2, constantValue := 0 }]
  methods := #[]
  instanceTypes := #[(.object "java/lang/String"), .int, .int]
  staticTypes := #[(.object "com/example/bindwire/bindwire/model/Constraint$Kind"), (.object "com/example/bindwire/bindwire/model/Constraint$Kind"), (.array (.object "com/example/bindwire/bindwire/model/Constraint$Kind"))]
  resolved := Array.replicate 52 none
  statics := some 0 }

def pool7 : Array CpInfo := pool [(1, .class_ 2), (0, u "com/example/bindwire/bindwire/model/SolveMethod"), (2, u "DC"), (0, u "Lcom/example/bindwire/bindwire/model/SolveMethod;"), (2, u "NLDC"), (2, u "AC"), (2, u "$VALUES"), (0, u "[Lcom/example/bindwire/bindwire/model/SolveMethod;"), (6, .class_ 25), (1, u "java/lang/Enum")] 25

/-- com/example/bindwire/bindwire/model/SolveMethod -/
def k7 : Class := { plain "com/example/bindwire/bindwire/model/SolveMethod" (some 5) with
  accessFlags := 16433
  interfaces := #[]
  cf := some (fileOf pool7 1 #[] #[] 16433 23 #[] #[{ accessFlags := 16409, nameIndex := 5, descriptorIndex := 6, attributes := #[] }, { accessFlags := 16409, nameIndex := 9, descriptorIndex := 6, attributes := #[] }, { accessFlags := 16409, nameIndex := 12, descriptorIndex := 6, attributes := #[] }, { accessFlags := 4122, nameIndex := 15, descriptorIndex := 16, attributes := #[] }])
  fields := #[{ name := "DC", type := (.object "com/example/bindwire/bindwire/model/SolveMethod"), accessFlags := 16409, slot := 0, constantValue := 0 }, { name := "NLDC", type := (.object "com/example/bindwire/bindwire/model/SolveMethod"), accessFlags := 16409, slot := 1, constantValue := 0 }, { name := "AC", type := (.object "com/example/bindwire/bindwire/model/SolveMethod"), accessFlags := 16409, slot := 2, constantValue := 0 }, { name := "$VALUES", type := (.array (.object "com/example/bindwire/bindwire/model/SolveMethod")), accessFlags := 4122, slot := 3, constantValue := 0 }]
  methods := #[]
  instanceTypes := #[(.object "java/lang/String"), .int, .int]
  staticTypes := #[(.object "com/example/bindwire/bindwire/model/SolveMethod"), (.object "com/example/bindwire/bindwire/model/SolveMethod"), (.object "com/example/bindwire/bindwire/model/SolveMethod"), (.array (.object "com/example/bindwire/bindwire/model/SolveMethod"))]
  resolved := Array.replicate 51 none
  statics := some 1 }

def pool8 : Array CpInfo := pool [(1, .methodref 2 3), (0, .class_ 4), (0, .nameAndType 5 6), (0, u "java/lang/Object"), (0, u "<init>"), (0, u "()V"), (0, .class_ 8), (0, u "java/lang/Record")] 13

def k8c0 : Code := { maxStack := 1, maxLocals := 1, code := jdk_30_method_1_code, exceptionTable := #[], attributes := #[] }
def k8m0 : Method := { name := "<init>", desc := "()V", sig := { parameters := [], returnType := none }, accessFlags := 4, code := some k8c0 }
/-- java/lang/Record -/
def k8 : Class := { plain "java/lang/Record" (some 0) with
  accessFlags := 1057
  interfaces := #[]
  cf := some (fileOf pool8 7 #[] #[{ accessFlags := 4, nameIndex := 5, descriptorIndex := 6, attributes := #[] }] 1057 2 #[] #[])
  fields := #[]
  methods := #[k8m0]
  instanceTypes := #[]
  staticTypes := #[]
  resolved := Array.replicate 22 none
  statics := none }

def pool9 : Array CpInfo := pool [(1, .methodref 2 3), (0, .class_ 4), (0, .nameAndType 5 6), (0, u "java/lang/Record"), (0, u "<init>"), (0, u "()V"), (0, .string 8), (0, u "kind"), (0, .methodref 10 11), (0, .class_ 12), (0, .nameAndType 13 14), (0, u "java/util/Objects"), (0, u "requireNonNull"), (0, u "(Ljava/lang/Object;Ljava/lang/String;)Ljava/lang/Object;"), (0, .string 16), (0, u "solve"), (0, .fieldref 18 19), (0, .class_ 20), (0, .nameAndType 21 22), (0, u "com/example/bindwire/bindwire/model/Constraint"), (0, u "contingency"), (0, u "I"), (0, .fieldref 18 24), (0, .nameAndType 25 22), (0, u "monitored"), (0, .fieldref 18 27), (0, .nameAndType 8 28), (0, u "Lcom/example/bindwire/bindwire/model/Constraint$Kind;"), (0, .fieldref 18 30), (0, .nameAndType 16 31), (0, u "Lcom/example/bindwire/bindwire/model/SolveMethod;"), (0, .fieldref 18 33), (0, .nameAndType 34 35), (0, u "k1"), (0, u "D"), (0, .fieldref 18 37), (0, .nameAndType 38 35), (0, u "k2"), (0, .fieldref 18 40), (0, .nameAndType 41 35), (0, u "cMw"), (0, .fieldref 18 43), (0, .nameAndType 44 35), (0, u "pmMw"), (0, .fieldref 18 46), (0, .nameAndType 47 35), (0, u "pcMw"), (0, .fieldref 18 49), (0, .nameAndType 50 35), (0, u "pmPostMw"), (0, .fieldref 18 52), (0, .nameAndType 53 35), (0, u "qmPostMvar"), (0, .fieldref 18 55), (0, .nameAndType 56 35), (0, u "vmPostPu"), (0, .fieldref 18 58), (0, .nameAndType 59 35), (0, u "loading"), (0, .fieldref 18 61), (0, .nameAndType 62 63), (0, u "published"), (0, u "Z"), (12, u "(IILcom/example/bindwire/bindwire/model/Constraint$Kind;Lcom/example/bindwire/bindwire/model/SolveMethod;DDDDDDDDDZ)V"), (3, u "numbers"), (0, u "()[D"), (5, u "()D"), (4, .class_ 93), (0, u "com/example/bindwire/bindwire/model/Constraint$Kind")] 32

def k9c0 : Code := { maxStack := 3, maxLocals := 24, code := prog_36_method_1_code, exceptionTable := #[], attributes := #[] }
def k9m0 : Method := { name := "<init>", desc := "(IILcom/example/bindwire/bindwire/model/Constraint$Kind;Lcom/example/bindwire/bindwire/model/SolveMethod;DDDDDDDDDZ)V", sig := { parameters := [.int, .int, (.object "com/example/bindwire/bindwire/model/Constraint$Kind"), (.object "com/example/bindwire/bindwire/model/SolveMethod"), .double, .double, .double, .double, .double, .double, .double, .double, .double, .boolean], returnType := none }, accessFlags := 1, code := some k9c0 }
def k9c1 : Code := { maxStack := 5, maxLocals := 1, code := prog_36_method_2_code, exceptionTable := #[], attributes := #[] }
def k9m1 : Method := { name := "numbers", desc := "()[D", sig := { parameters := [], returnType := some (.array .double) }, accessFlags := 1, code := some k9c1 }
def k9c2 : Code := { maxStack := 2, maxLocals := 1, code := prog_36_method_10_code, exceptionTable := #[], attributes := #[] }
def k9m2 : Method := { name := "k1", desc := "()D", sig := { parameters := [], returnType := some .double }, accessFlags := 1, code := some k9c2 }
def k9c3 : Code := { maxStack := 2, maxLocals := 1, code := prog_36_method_18_code, exceptionTable := #[], attributes := #[] }
def k9m3 : Method := { name := "loading", desc := "()D", sig := { parameters := [], returnType := some .double }, accessFlags := 1, code := some k9c3 }
/-- com/example/bindwire/bindwire/model/Constraint -/
def k9 : Class := { plain "com/example/bindwire/bindwire/model/Constraint" (some 8) with
  accessFlags := 49
  interfaces := #[]
  cf := some (fileOf pool9 18 #[.nestMembers #[92]] #[{ accessFlags := 1, nameIndex := 5, descriptorIndex := 76, attributes := #[] }, { accessFlags := 1, nameIndex := 80, descriptorIndex := 81, attributes := #[] }, { accessFlags := 1, nameIndex := 34, descriptorIndex := 87, attributes := #[] }, { accessFlags := 1, nameIndex := 59, descriptorIndex := 87, attributes := #[] }] 49 2 #[] #[{ accessFlags := 18, nameIndex := 21, descriptorIndex := 22, attributes := #[] }, { accessFlags := 18, nameIndex := 25, descriptorIndex := 22, attributes := #[] }, { accessFlags := 18, nameIndex := 8, descriptorIndex := 28, attributes := #[] }, { accessFlags := 18, nameIndex := 16, descriptorIndex := 31, attributes := #[] }, { accessFlags := 18, nameIndex := 34, descriptorIndex := 35, attributes := #[] }, { accessFlags := 18, nameIndex := 38, descriptorIndex := 35, attributes := #[] }, { accessFlags := 18, nameIndex := 41, descriptorIndex := 35, attributes := #[] }, { accessFlags := 18, nameIndex := 44, descriptorIndex := 35, attributes := #[] }, { accessFlags := 18, nameIndex := 47, descriptorIndex := 35, attributes := #[] }, { accessFlags := 18, nameIndex := 50, descriptorIndex := 35, attributes := #[] }, { accessFlags := 18, nameIndex := 53, descriptorIndex := 35, attributes := #[] }, { accessFlags := 18, nameIndex := 56, descriptorIndex := 35, attributes := #[] }, { accessFlags := 18, nameIndex := 59, descriptorIndex := 35, attributes := #[] }, { accessFlags := 18, nameIndex := 62, descriptorIndex := 63, attributes := #[] }])
  fields := #[{ name := "contingency", type := .int, accessFlags := 18, slot := 0, constantValue := 0 }, { name := "monitored", type := .int, accessFlags := 18, slot := 1, constantValue := 0 }, { name := "kind", type := (.object "com/example/bindwire/bindwire/model/Constraint$Kind"), accessFlags := 18, slot := 2, constantValue := 0 }, { name := "solve", type := (.object "com/example/bindwire/bindwire/model/SolveMethod"), accessFlags := 18, slot := 3, constantValue := 0 }, { name := "k1", type := .double, accessFlags := 18, slot := 4, constantValue := 0 }, { name := "k2", type := .double, accessFlags := 18, slot := 5, constantValue := 0 }, { name := "cMw", type := .double, accessFlags := 18, slot := 6, constantValue := 0 }, { name := "pmMw", type := .double, accessFlags := 18, slot := 7, constantValue := 0 }, { name := "pcMw", type := .double, accessFlags := 18, slot := 8, constantValue := 0 }, { name := "pmPostMw", type := .double, accessFlags := 18, slot := 9, constantValue := 0 }, { name := "qmPostMvar", type := .double, accessFlags := 18, slot := 10, constantValue := 0 }, { name := "vmPostPu", type := .double, accessFlags := 18, slot := 11, constantValue := 0 }, { name := "loading", type := .double, accessFlags := 18, slot := 12, constantValue := 0 }, { name := "published", type := .boolean, accessFlags := 18, slot := 13, constantValue := 0 }]
  methods := #[k9m0, k9m1, k9m2, k9m3]
  instanceTypes := #[.int, .int, (.object "com/example/bindwire/bindwire/model/Constraint$Kind"), (.object "com/example/bindwire/bindwire/model/SolveMethod"), .double, .double, .double, .double, .double, .double, .double, .double, .double, .boolean]
  staticTypes := #[]
  resolved := Array.replicate 126 none
  statics := none }

def pool10 : Array CpInfo := pool [(2, .class_ 4), (1, u "java/lang/CharSequence"), (42, .class_ 48), (0, u "java/lang/CharSequence$1CodePointIterator"), (10, .class_ 60), (0, u "java/lang/CharSequence$1CharIterator"), (5, .class_ 67), (0, u "java/lang/Object")] 63

/-- java/lang/CharSequence -/
def k10 : Class := { plain "java/lang/CharSequence" (some 0) with
  accessFlags := 1537
  interfaces := #[]
  cf := some (fileOf pool10 2 #[.nestMembers #[47, 59]] #[] 1537 66 #[] #[])
  fields := #[]
  methods := #[]
  instanceTypes := #[]
  staticTypes := #[]
  resolved := Array.replicate 131 none
  statics := none }

def pool11 : Array CpInfo := pool [(1, .class_ 2), (0, u "java/lang/constant/ConstantDesc"), (0, .class_ 4), (0, u "java/lang/Object")] 32

/-- java/lang/constant/ConstantDesc -/
def k11 : Class := { plain "java/lang/constant/ConstantDesc" (some 0) with
  accessFlags := 1537
  interfaces := #[]
  cf := some (fileOf pool11 1 #[] #[] 1537 3 #[] #[])
  fields := #[]
  methods := #[]
  instanceTypes := #[]
  staticTypes := #[]
  resolved := Array.replicate 37 none
  statics := none }

def pool12 : Array CpInfo := pool [(2, .class_ 4), (1, u "java/lang/Object"), (0, u "<init>"), (0, u "()V"), (3, .class_ 12), (1, u "java/lang/String"), (0, u "value"), (0, u "[B"), (2, u "coder"), (0, u "B"), (2, u "hash"), (0, u "I"), (2, u "hashIsZero"), (0, u "Z"), (13, u "COMPACT_STRINGS"), (534, .class_ 576), (0, u "java/lang/CharSequence"), (22, u "CASE_INSENSITIVE_ORDER"), (0, u "Ljava/util/Comparator;"), (500, u "serialPersistentFields"), (0, u "[Ljava/io/ObjectStreamField;"), (0, .class_ 1104), (0, u "java/lang/String$CaseInsensitiveComparator"), (1, .class_ 1107), (0, u "java/io/Serializable"), (0, .class_ 1109), (0, u "java/lang/Comparable"), (0, .class_ 1111), (0, u "java/lang/constant/Constable"), (0, .class_ 1113), (0, u "java/lang/constant/ConstantDesc"), (2, u "serialVersionUID"), (0, u "J"), (3, u "REPL"), (0, u "C"), (2, u "LATIN1"), (1, u "UTF16")] 323

def k12m0 : Method := { name := "<init>", desc := "()V", sig := { parameters := [], returnType := none }, accessFlags := 1, code := none }
/-- java/lang/String -/
def k12 : Class := { plain "java/lang/String" (some 0) with
  accessFlags := 49
  interfaces := #[4, 3, 10, 2, 11]
  cf := some (fileOf pool12 10 #[.nestMembers #[1103]] #[{ accessFlags := 1, nameIndex := 5, descriptorIndex := 6, attributes := #[] }] 49 2 #[1106, 1108, 575, 1110, 1112] #[{ accessFlags := 18, nameIndex := 13, descriptorIndex := 14, attributes := #[] }, { accessFlags := 18, nameIndex := 17, descriptorIndex := 18, attributes := #[] }, { accessFlags := 2, nameIndex := 21, descriptorIndex := 22, attributes := #[] }, { accessFlags := 2, nameIndex := 25, descriptorIndex := 26, attributes := #[] }, { accessFlags := 26, nameIndex := 1116, descriptorIndex := 1117, attributes := #[] }, { accessFlags := 24, nameIndex := 40, descriptorIndex := 26, attributes := #[] }, { accessFlags := 26, nameIndex := 1101, descriptorIndex := 1102, attributes := #[] }, { accessFlags := 26, nameIndex := 1121, descriptorIndex := 1122, attributes := #[] }, { accessFlags := 25, nameIndex := 599, descriptorIndex := 600, attributes := #[] }, { accessFlags := 24, nameIndex := 1125, descriptorIndex := 18, attributes := #[] }, { accessFlags := 24, nameIndex := 1127, descriptorIndex := 18, attributes := #[] }])
  fields := #[{ name := "value", type := (.array .byte), accessFlags := 18, slot := 0, constantValue := 0 }, { name := "coder", type := .byte, accessFlags := 18, slot := 1, constantValue := 0 }, { name := "hash", type := .int, accessFlags := 2, slot := 2, constantValue := 0 }, { name := "hashIsZero", type := .boolean, accessFlags := 2, slot := 3, constantValue := 0 }, { name := "serialVersionUID", type := .long, accessFlags := 26, slot := 0, constantValue := 0 }, { name := "COMPACT_STRINGS", type := .boolean, accessFlags := 24, slot := 1, constantValue := 0 }, { name := "serialPersistentFields", type := (.array (.object "java/io/ObjectStreamField")), accessFlags := 26, slot := 2, constantValue := 0 }, { name := "REPL", type := .char, accessFlags := 26, slot := 3, constantValue := 0 }, { name := "CASE_INSENSITIVE_ORDER", type := (.object "java/util/Comparator"), accessFlags := 25, slot := 4, constantValue := 0 }, { name := "LATIN1", type := .byte, accessFlags := 24, slot := 5, constantValue := 0 }, { name := "UTF16", type := .byte, accessFlags := 24, slot := 6, constantValue := 0 }]
  methods := #[k12m0]
  instanceTypes := #[(.array .byte), .byte, .int, .boolean]
  staticTypes := #[.long, .boolean, (.array (.object "java/io/ObjectStreamField")), .char, (.object "java/util/Comparator"), .byte, .byte]
  resolved := Array.replicate 1451 none
  statics := none }

def pool13 : Array CpInfo := pool [(2, .class_ 4), (1, u "java/lang/Object"), (0, u "<init>"), (0, u "()V"), (35, .class_ 44), (1, u "java/util/Objects"), (0, u "requireNonNull"), (48, u "(Ljava/lang/Object;Ljava/lang/String;)Ljava/lang/Object;")] 89

def k13m0 : Method := { name := "<init>", desc := "()V", sig := { parameters := [], returnType := none }, accessFlags := 2, code := none }
def k13c1 : Code := { maxStack := 3, maxLocals := 2, code := jdk_31_method_11_code, exceptionTable := #[], attributes := #[] }
def k13m1 : Method := { name := "requireNonNull", desc := "(Ljava/lang/Object;Ljava/lang/String;)Ljava/lang/Object;", sig := { parameters := [(.object "java/lang/Object"), (.object "java/lang/String")], returnType := some (.object "java/lang/Object") }, accessFlags := 9, code := some k13c1 }
/-- java/util/Objects -/
def k13 : Class := { plain "java/util/Objects" (some 0) with
  accessFlags := 49
  interfaces := #[]
  cf := some (fileOf pool13 42 #[] #[{ accessFlags := 2, nameIndex := 5, descriptorIndex := 6, attributes := #[] }, { accessFlags := 9, nameIndex := 45, descriptorIndex := 94, attributes := #[] }] 49 2 #[] #[])
  fields := #[]
  methods := #[k13m0, k13m1]
  instanceTypes := #[]
  staticTypes := #[]
  resolved := Array.replicate 184 none
  statics := none }

def pool14 : Array CpInfo := pool [(1, u "java/lang/Cloneable"), (0, .class_ 1), (0, u "java/lang/Object"), (0, .class_ 3)] 3

/-- java/lang/Cloneable -/
def k14 : Class := { plain "java/lang/Cloneable" (some 0) with
  accessFlags := 1537
  interfaces := #[]
  cf := some (fileOf pool14 2 #[] #[] 1537 4 #[] #[])
  fields := #[]
  methods := #[]
  instanceTypes := #[]
  staticTypes := #[]
  resolved := Array.replicate 8 none
  statics := none }

/-- the primitive byte -/
def k15 : Class := { plain "byte" none with kind := .primitive 'B', accessFlags := 0x411 }
/-- [B -/
def k16 : Class := { plain "[B" (some 0) with kind := .array 15 .byte, interfaces := #[14, 4], accessFlags := 1041 }

/-- the primitive double -/
def k17 : Class := { plain "double" none with kind := .primitive 'D', accessFlags := 0x411 }
/-- [D -/
def k18 : Class := { plain "[D" (some 0) with kind := .array 17 .double, interfaces := #[14, 4], accessFlags := 1041 }

/-- the primitive int -/
def k19 : Class := { plain "int" none with kind := .primitive 'I', accessFlags := 0x411 }
/-- [I -/
def k20 : Class := { plain "[I" (some 0) with kind := .array 19 .int, interfaces := #[14, 4], accessFlags := 1041 }

def heap : Heap := #[{ cls := 6, slots := #[.ref 2, .ref 2, .null], vm := .statics 6 },
  { cls := 7, slots := #[.ref 3, .ref 3, .ref 3, .null], vm := .statics 7 },
  { cls := 6, slots := #[.null, .int 0, .int 0], vm := .none },
  { cls := 7, slots := #[.null, .int 0, .int 0], vm := .none }]
def classes : Array Class := #[k0, k1, k2, k3, k4, k5, k6, k7, k8, k9, k10, k11, k12, k13, k14, k15, k16, k17, k18, k19, k20]
def interned : List (Array UInt16 × Addr) := []
def slotsUsed : Nat := 13
def theMethod : MethodId := ⟨1, 1⟩
def args0 : Array Value := #[.int 5, .int 5, .int 5, .int 5, .int 5, .int 5]
def aboutOver (below : List Frame) : State where
  vm := { classes := classes, interned := interned.toArray }
  heap := heap
  slotsUsed := slotsUsed
  threads := #[{ frames := .invoking theMethod args0 :: below }]
def below0 : List Frame := [.native { method := ⟨0, 0⟩, args := #[] }]
def about1 : State := aboutOver below0
def p0 : Program := .bare "" "" ""
def e0 : Env := launch0.env 0 0 0
theorem w_frames : about1.frames = Frame.invoking theMethod args0 :: below0 := rfl
set_option maxRecDepth 65536 in
theorem w_args : argsFit about1.vm theMethod args0 = true := by decide +kernel
set_option maxRecDepth 65536 in
theorem w_heap : heapFits about1 = true := by decide +kernel
set_option maxRecDepth 65536 in
theorem w_runnable : about1.curStatus? = some .runnable := by decide +kernel
set_option maxRecDepth 65536 in
theorem w_alone : about1.alone = true := by decide +kernel
set_option maxRecDepth 65536 in
theorem w_named : about1.methodNamed? x = some theMethod := by decide +kernel
set_option maxRecDepth 65536 in
theorem w_hears : about1.hears theMethod below0 = true := by decide +kernel
set_option maxRecDepth 65536 in
theorem w_ripe : about1.ripe theMethod args0 below0 = true := by decide +kernel
theorem w_running : about1.status = .running := rfl
set_option maxRecDepth 65536 in
theorem w_room : about1.hasRoom e0.platform room_1 = true :=
  launch0.hasRoom_least _ room_1 (by decide +kernel) (by decide +kernel) (by decide +kernel) (by decide +kernel) (by decide +kernel) (by decide +kernel)
theorem allAtoms_all (ts : List Jvm.Cond) (a : Array Jvm.Value) (st : Jvm.State) : (allAtoms ts).before a st = ts.all (fun c => c.before a st) := by
  induction ts with
  | nil => rfl
  | cons c t ih =>
    show (Jvm.Cond.and c (allAtoms t)).before a st = _
    rw [Jvm.Cond.before_and, ih, List.all_cons]
def words1 : List Jvm.Cond := Jvm.Cond.code x code maxLocals ret :: tables_1
/-- a 'code' word, met by the world's own term for the bytes: nothing is compared byte by byte -/
theorem code_word {y : MethodName} {bytes : ByteArray} {mx : Nat} {rt : Option FieldType} {a : Array Value} {s : State} {m : MethodId} {meth : Method} {c : Code} (h1 : s.methodNamed? y = some m) (h2 : s.vm.method? m = some meth) (h3 : meth.code = some c) (h4 : c.code = bytes)
    (h5 : (c.maxLocals == mx && c.exceptionTable.isEmpty && decide (c.maxStack ≤ mostOperands) && decide (meth.sig.returnType = rt) && !meth.locks && decide (parseMethodDescriptor y.desc = some meth.sig)) = true) : (Jvm.Cond.code y bytes mx rt).before a s = true := by
  simp only [Bool.and_eq_true, beq_iff_eq, Bool.not_eq_true', decide_eq_true_eq] at h5
  obtain ⟨⟨⟨⟨⟨g1, g2⟩, g3⟩, g4⟩, g5⟩, g6⟩ := h5
  simp [Cond.before, Cond.holds, Cond.value, h1, h2, h3, h4, g1, g2, g3, g4, g5, g6]
def isCode : Jvm.Cond → Bool
  | .code _ _ _ _ => true
  | _ => false
theorem all_split {L : List Jvm.Cond} {P : Jvm.Cond → Bool} (h1 : L.all (fun c => isCode c || P c) = true) (h2 : ∀ c ∈ L.filter isCode, P c = true) : L.all P = true := by
  refine List.all_eq_true.mpr fun c hc => ?_
  have h := List.all_eq_true.mp h1 c hc
  rcases Bool.eq_false_or_eq_true (isCode c) with hi | hi
  · exact h2 c (List.mem_filter.mpr ⟨hc, hi⟩)
  · simpa [hi] using h
set_option maxRecDepth 65536 in
theorem w_c0 : (Jvm.Cond.code x code maxLocals ret).before args0 about1 = true := code_word (m := ⟨1, 1⟩) (meth := k1m1) (c := k1c1) (by decide +kernel) rfl rfl rfl (by decide +kernel)
set_option maxRecDepth 65536 in
theorem w_c1 : (Jvm.Cond.code ({ cls := "com/example/bindwire/bindwire/model/Constraint", name := "<init>", desc := "(IILcom/example/bindwire/bindwire/model/Constraint$Kind;Lcom/example/bindwire/bindwire/model/SolveMethod;DDDDDDDDDZ)V" } : Jvm.MethodName) prog_36_method_1_code (24 : Nat) (Option.none : Option Jvm.ClassFile.FieldType)).before args0 about1 = true := code_word (m := ⟨9, 0⟩) (meth := k9m0) (c := k9c0) (by decide +kernel) rfl rfl rfl (by decide +kernel)
set_option maxRecDepth 65536 in
theorem w_c2 : (Jvm.Cond.code ({ cls := "java/lang/Record", name := "<init>", desc := "()V" } : Jvm.MethodName) jdk_30_method_1_code (1 : Nat) (Option.none : Option Jvm.ClassFile.FieldType)).before args0 about1 = true := code_word (m := ⟨8, 0⟩) (meth := k8m0) (c := k8c0) (by decide +kernel) rfl rfl rfl (by decide +kernel)
set_option maxRecDepth 65536 in
theorem w_c3 : (Jvm.Cond.code ({ cls := "java/lang/Object", name := "<init>", desc := "()V" } : Jvm.MethodName) object_method_1_code (1 : Nat) (Option.none : Option Jvm.ClassFile.FieldType)).before args0 about1 = true := code_word (m := ⟨0, 0⟩) (meth := k0m0) (c := k0c0) (by decide +kernel) rfl rfl rfl (by decide +kernel)
set_option maxRecDepth 65536 in
theorem w_c4 : (Jvm.Cond.code ({ cls := "java/util/Objects", name := "requireNonNull", desc := "(Ljava/lang/Object;Ljava/lang/String;)Ljava/lang/Object;" } : Jvm.MethodName) jdk_31_method_11_code (2 : Nat) (Option.some (Jvm.ClassFile.FieldType.object "java/lang/Object"))).before args0 about1 = true := code_word (m := ⟨13, 1⟩) (meth := k13m1) (c := k13c1) (by decide +kernel) rfl rfl rfl (by decide +kernel)
set_option maxRecDepth 65536 in
theorem w_c5 : (Jvm.Cond.code ({ cls := "com/example/bindwire/bindwire/model/Constraint", name := "numbers", desc := "()[D" } : Jvm.MethodName) prog_36_method_2_code (1 : Nat) (Option.some (Jvm.ClassFile.FieldType.array Jvm.ClassFile.FieldType.double))).before args0 about1 = true := code_word (m := ⟨9, 1⟩) (meth := k9m1) (c := k9c1) (by decide +kernel) rfl rfl rfl (by decide +kernel)
set_option maxRecDepth 65536 in
theorem w_c6 : (Jvm.Cond.code ({ cls := "com/example/bindwire/bindwire/model/Constraint", name := "k1", desc := "()D" } : Jvm.MethodName) prog_36_method_10_code (1 : Nat) (Option.some Jvm.ClassFile.FieldType.double)).before args0 about1 = true := code_word (m := ⟨9, 2⟩) (meth := k9m2) (c := k9c2) (by decide +kernel) rfl rfl rfl (by decide +kernel)
set_option maxRecDepth 65536 in
theorem w_c7 : (Jvm.Cond.code ({ cls := "com/example/bindwire/bindwire/model/Constraint", name := "loading", desc := "()D" } : Jvm.MethodName) prog_36_method_18_code (1 : Nat) (Option.some Jvm.ClassFile.FieldType.double)).before args0 about1 = true := code_word (m := ⟨9, 3⟩) (meth := k9m3) (c := k9c3) (by decide +kernel) rfl rfl rfl (by decide +kernel)
def codes1 : List Jvm.Cond := [Jvm.Cond.code x code maxLocals ret, Jvm.Cond.code ({ cls := "com/example/bindwire/bindwire/model/Constraint", name := "<init>", desc := "(IILcom/example/bindwire/bindwire/model/Constraint$Kind;Lcom/example/bindwire/bindwire/model/SolveMethod;DDDDDDDDDZ)V" } : Jvm.MethodName) prog_36_method_1_code (24 : Nat) (Option.none : Option Jvm.ClassFile.FieldType), Jvm.Cond.code ({ cls := "java/lang/Record", name := "<init>", desc := "()V" } : Jvm.MethodName) jdk_30_method_1_code (1 : Nat) (Option.none : Option Jvm.ClassFile.FieldType), Jvm.Cond.code ({ cls := "java/lang/Object", name := "<init>", desc := "()V" } : Jvm.MethodName) object_method_1_code (1 : Nat) (Option.none : Option Jvm.ClassFile.FieldType), Jvm.Cond.code ({ cls := "java/util/Objects", name := "requireNonNull", desc := "(Ljava/lang/Object;Ljava/lang/String;)Ljava/lang/Object;" } : Jvm.MethodName) jdk_31_method_11_code (2 : Nat) (Option.some (Jvm.ClassFile.FieldType.object "java/lang/Object")), Jvm.Cond.code ({ cls := "com/example/bindwire/bindwire/model/Constraint", name := "numbers", desc := "()[D" } : Jvm.MethodName) prog_36_method_2_code (1 : Nat) (Option.some (Jvm.ClassFile.FieldType.array Jvm.ClassFile.FieldType.double)), Jvm.Cond.code ({ cls := "com/example/bindwire/bindwire/model/Constraint", name := "k1", desc := "()D" } : Jvm.MethodName) prog_36_method_10_code (1 : Nat) (Option.some Jvm.ClassFile.FieldType.double), Jvm.Cond.code ({ cls := "com/example/bindwire/bindwire/model/Constraint", name := "loading", desc := "()D" } : Jvm.MethodName) prog_36_method_18_code (1 : Nat) (Option.some Jvm.ClassFile.FieldType.double)]
set_option maxRecDepth 65536 in
theorem codes_eq : words1.filter isCode = codes1 := rfl
theorem w_codes : ∀ c ∈ words1.filter isCode, c.before args0 about1 = true := by
  rw [codes_eq]
  intro c hc
  simp only [codes1, List.mem_cons, List.not_mem_nil, or_false] at hc
  rcases hc with rfl | rfl | rfl | rfl | rfl | rfl | rfl | rfl
  · exact w_c0
  · exact w_c1
  · exact w_c2
  · exact w_c3
  · exact w_c4
  · exact w_c5
  · exact w_c6
  · exact w_c7
set_option maxRecDepth 65536 in
theorem w_t1 : (words1.take 24).all (fun c => isCode c || c.before args0 about1) = true := by decide +kernel
set_option maxRecDepth 65536 in
theorem w_t2 : ((words1.drop 24).take 24).all (fun c => isCode c || c.before args0 about1) = true := by decide +kernel
set_option maxRecDepth 65536 in
theorem w_t3 : (((words1.drop 24).drop 24).take 24).all (fun c => isCode c || c.before args0 about1) = true := by decide +kernel
set_option maxRecDepth 65536 in
theorem w_t4 : (((words1.drop 24).drop 24).drop 24).all (fun c => isCode c || c.before args0 about1) = true := by decide +kernel
theorem w_tables : (allAtoms (Jvm.Cond.code x code maxLocals ret :: tables_1)).before args0 about1 = true := by
  rw [allAtoms_all]
  show words1.all (fun c => c.before args0 about1) = true
  refine all_split ?_ w_codes
  rw [← List.take_append_drop 24 words1, List.all_append, w_t1, ← List.take_append_drop 24 (words1.drop 24), List.all_append, w_t2, ← List.take_append_drop 24 ((words1.drop 24).drop 24), List.all_append, w_t3, w_t4]
  rfl
set_option maxRecDepth 65536 in
theorem w_case : (Jvm.Cond.and given_1 narrow_1).before args0 about1 = true := by decide +kernel
theorem w_applies : (headSpec (Jvm.Cond.code x code maxLocals ret :: tables_1) room_1).applies x e0.platform about1 = true :=
  (Spec.applies_iff w_frames).mpr ⟨w_running, w_runnable, w_alone, w_named, w_hears, w_ripe, w_room, w_tables⟩
theorem atStart : AtStart classFile x code maxLocals ret World_1 tables_1 room_1 Calls_1 rest_1 Pre_1 launch0 p0 e0 about1 theMethod args0 below0 :=
  ⟨lists_1, trivial, launch0.admits_env _ _ _, launch0.least_env, fairChoices_fair.cas, fairChoices_fair.clock, w_frames, w_args, w_heap, w_applies, trivial, trivial, w_case⟩
end start1
theorem witness_1 : WitnessClaimed_1 := ⟨start1.p0, start1.e0, start1.about1, start1.theMethod, start1.args0, start1.below0, start1.atStart⟩
end Jvm.Pilot.@@N@@
