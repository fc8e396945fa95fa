import JvmDerived
import JvmDerived.Pilot.@@N@@Statement
import JvmDerived.Pilot.@@N@@Code
set_option linter.unusedVariables false
set_option linter.unusedSimpArgs false
set_option maxHeartbeats 4000000
namespace Jvm.OwnK
open Sem ClassFile Op Lib Jvm.Free Jvm.Stand Jvm.LawKit Jvm.RoadKit
theorem iadd {tb : Tables} [Ours tb] {e : Env} {below : List Frame} {T target : State} {m : MethodId} {c : Code} {g : JFrame} (h : At T m c below) (hx : tb.exec = Jvm.exec) (hg : g.method = m) {x v : Int32} {y : Int32} {rest : List Value} (hd : decode c.code g.pc = .ok (.iadd, 1)) (hs : g.stack = .int y :: .int x :: rest) (hv : x + y = v)
    (hr : Steps tb e below (T.setTop { g with pc := g.pc + 1, stack := .int v :: rest }) target) : Steps tb e below (T.setTop g) target := by
  subst hv
  exact XS.iadd h hx hg hd hs hr
theorem isub {tb : Tables} [Ours tb] {e : Env} {below : List Frame} {T target : State} {m : MethodId} {c : Code} {g : JFrame} (h : At T m c below) (hx : tb.exec = Jvm.exec) (hg : g.method = m) {x v : Int32} {y : Int32} {rest : List Value} (hd : decode c.code g.pc = .ok (.isub, 1)) (hs : g.stack = .int y :: .int x :: rest) (hv : x - y = v)
    (hr : Steps tb e below (T.setTop { g with pc := g.pc + 1, stack := .int v :: rest }) target) : Steps tb e below (T.setTop g) target := by
  subst hv
  exact XS.isub h hx hg hd hs hr
theorem imul {tb : Tables} [Ours tb] {e : Env} {below : List Frame} {T target : State} {m : MethodId} {c : Code} {g : JFrame} (h : At T m c below) (hx : tb.exec = Jvm.exec) (hg : g.method = m) {x v : Int32} {y : Int32} {rest : List Value} (hd : decode c.code g.pc = .ok (.imul, 1)) (hs : g.stack = .int y :: .int x :: rest) (hv : x * y = v)
    (hr : Steps tb e below (T.setTop { g with pc := g.pc + 1, stack := .int v :: rest }) target) : Steps tb e below (T.setTop g) target := by
  subst hv
  exact XS.imul h hx hg hd hs hr
theorem iand {tb : Tables} [Ours tb] {e : Env} {below : List Frame} {T target : State} {m : MethodId} {c : Code} {g : JFrame} (h : At T m c below) (hx : tb.exec = Jvm.exec) (hg : g.method = m) {x v : Int32} {y : Int32} {rest : List Value} (hd : decode c.code g.pc = .ok (.iand, 1)) (hs : g.stack = .int y :: .int x :: rest) (hv : x &&& y = v)
    (hr : Steps tb e below (T.setTop { g with pc := g.pc + 1, stack := .int v :: rest }) target) : Steps tb e below (T.setTop g) target := by
  subst hv
  exact XS.iand h hx hg hd hs hr
theorem ior {tb : Tables} [Ours tb] {e : Env} {below : List Frame} {T target : State} {m : MethodId} {c : Code} {g : JFrame} (h : At T m c below) (hx : tb.exec = Jvm.exec) (hg : g.method = m) {x v : Int32} {y : Int32} {rest : List Value} (hd : decode c.code g.pc = .ok (.ior, 1)) (hs : g.stack = .int y :: .int x :: rest) (hv : x ||| y = v)
    (hr : Steps tb e below (T.setTop { g with pc := g.pc + 1, stack := .int v :: rest }) target) : Steps tb e below (T.setTop g) target := by
  subst hv
  exact XS.ior h hx hg hd hs hr
theorem ixor {tb : Tables} [Ours tb] {e : Env} {below : List Frame} {T target : State} {m : MethodId} {c : Code} {g : JFrame} (h : At T m c below) (hx : tb.exec = Jvm.exec) (hg : g.method = m) {x v : Int32} {y : Int32} {rest : List Value} (hd : decode c.code g.pc = .ok (.ixor, 1)) (hs : g.stack = .int y :: .int x :: rest) (hv : x ^^^ y = v)
    (hr : Steps tb e below (T.setTop { g with pc := g.pc + 1, stack := .int v :: rest }) target) : Steps tb e below (T.setTop g) target := by
  subst hv
  exact XS.ixor h hx hg hd hs hr
theorem ishl {tb : Tables} [Ours tb] {e : Env} {below : List Frame} {T target : State} {m : MethodId} {c : Code} {g : JFrame} (h : At T m c below) (hx : tb.exec = Jvm.exec) (hg : g.method = m) {x v : Int32} {y : Int32} {rest : List Value} (hd : decode c.code g.pc = .ok (.ishl, 1)) (hs : g.stack = .int y :: .int x :: rest) (hv : x <<< (y &&& 31) = v)
    (hr : Steps tb e below (T.setTop { g with pc := g.pc + 1, stack := .int v :: rest }) target) : Steps tb e below (T.setTop g) target := by
  subst hv
  exact XS.ishl h hx hg hd hs hr
theorem ishr {tb : Tables} [Ours tb] {e : Env} {below : List Frame} {T target : State} {m : MethodId} {c : Code} {g : JFrame} (h : At T m c below) (hx : tb.exec = Jvm.exec) (hg : g.method = m) {x v : Int32} {y : Int32} {rest : List Value} (hd : decode c.code g.pc = .ok (.ishr, 1)) (hs : g.stack = .int y :: .int x :: rest) (hv : x >>> (y &&& 31) = v)
    (hr : Steps tb e below (T.setTop { g with pc := g.pc + 1, stack := .int v :: rest }) target) : Steps tb e below (T.setTop g) target := by
  subst hv
  exact XS.ishr h hx hg hd hs hr
theorem iushr {tb : Tables} [Ours tb] {e : Env} {below : List Frame} {T target : State} {m : MethodId} {c : Code} {g : JFrame} (h : At T m c below) (hx : tb.exec = Jvm.exec) (hg : g.method = m) {x v : Int32} {y : Int32} {rest : List Value} (hd : decode c.code g.pc = .ok (.iushr, 1)) (hs : g.stack = .int y :: .int x :: rest) (hv : (x.toUInt32 >>> (y &&& 31).toUInt32).toInt32 = v)
    (hr : Steps tb e below (T.setTop { g with pc := g.pc + 1, stack := .int v :: rest }) target) : Steps tb e below (T.setTop g) target := by
  subst hv
  exact XS.iushr h hx hg hd hs hr
theorem idiv {tb : Tables} [Ours tb] {e : Env} {below : List Frame} {T target : State} {m : MethodId} {c : Code} {g : JFrame} (h : At T m c below) (hx : tb.exec = Jvm.exec) (hg : g.method = m) {x v : Int32} {y : Int32} {rest : List Value} (hd : decode c.code g.pc = .ok (.idiv, 1)) (hs : g.stack = .int y :: .int x :: rest) (hy : ¬ y = 0) (hv : x / y = v)
    (hr : Steps tb e below (T.setTop { g with pc := g.pc + 1, stack := .int v :: rest }) target) : Steps tb e below (T.setTop g) target := by
  subst hv
  exact XS.idiv h hx hg hd hs hy hr
theorem irem {tb : Tables} [Ours tb] {e : Env} {below : List Frame} {T target : State} {m : MethodId} {c : Code} {g : JFrame} (h : At T m c below) (hx : tb.exec = Jvm.exec) (hg : g.method = m) {x v : Int32} {y : Int32} {rest : List Value} (hd : decode c.code g.pc = .ok (.irem, 1)) (hs : g.stack = .int y :: .int x :: rest) (hy : ¬ y = 0) (hv : x % y = v)
    (hr : Steps tb e below (T.setTop { g with pc := g.pc + 1, stack := .int v :: rest }) target) : Steps tb e below (T.setTop g) target := by
  subst hv
  have q : x - x / y * y = x % y := irem_eq_mod x y
  exact XS.irem h hx hg hd hs hy (by rw [q]; exact hr)
theorem ladd {tb : Tables} [Ours tb] {e : Env} {below : List Frame} {T target : State} {m : MethodId} {c : Code} {g : JFrame} (h : At T m c below) (hx : tb.exec = Jvm.exec) (hg : g.method = m) {x v : Int64} {y : Int64} {rest : List Value} (hd : decode c.code g.pc = .ok (.ladd, 1)) (hs : g.stack = .long y :: .long x :: rest) (hv : x + y = v)
    (hr : Steps tb e below (T.setTop { g with pc := g.pc + 1, stack := .long v :: rest }) target) : Steps tb e below (T.setTop g) target := by
  subst hv
  exact XS.ladd h hx hg hd hs hr
theorem lsub {tb : Tables} [Ours tb] {e : Env} {below : List Frame} {T target : State} {m : MethodId} {c : Code} {g : JFrame} (h : At T m c below) (hx : tb.exec = Jvm.exec) (hg : g.method = m) {x v : Int64} {y : Int64} {rest : List Value} (hd : decode c.code g.pc = .ok (.lsub, 1)) (hs : g.stack = .long y :: .long x :: rest) (hv : x - y = v)
    (hr : Steps tb e below (T.setTop { g with pc := g.pc + 1, stack := .long v :: rest }) target) : Steps tb e below (T.setTop g) target := by
  subst hv
  exact XS.lsub h hx hg hd hs hr
theorem lmul {tb : Tables} [Ours tb] {e : Env} {below : List Frame} {T target : State} {m : MethodId} {c : Code} {g : JFrame} (h : At T m c below) (hx : tb.exec = Jvm.exec) (hg : g.method = m) {x v : Int64} {y : Int64} {rest : List Value} (hd : decode c.code g.pc = .ok (.lmul, 1)) (hs : g.stack = .long y :: .long x :: rest) (hv : x * y = v)
    (hr : Steps tb e below (T.setTop { g with pc := g.pc + 1, stack := .long v :: rest }) target) : Steps tb e below (T.setTop g) target := by
  subst hv
  exact XS.lmul h hx hg hd hs hr
theorem land {tb : Tables} [Ours tb] {e : Env} {below : List Frame} {T target : State} {m : MethodId} {c : Code} {g : JFrame} (h : At T m c below) (hx : tb.exec = Jvm.exec) (hg : g.method = m) {x v : Int64} {y : Int64} {rest : List Value} (hd : decode c.code g.pc = .ok (.land, 1)) (hs : g.stack = .long y :: .long x :: rest) (hv : x &&& y = v)
    (hr : Steps tb e below (T.setTop { g with pc := g.pc + 1, stack := .long v :: rest }) target) : Steps tb e below (T.setTop g) target := by
  subst hv
  exact XS.land h hx hg hd hs hr
theorem lor {tb : Tables} [Ours tb] {e : Env} {below : List Frame} {T target : State} {m : MethodId} {c : Code} {g : JFrame} (h : At T m c below) (hx : tb.exec = Jvm.exec) (hg : g.method = m) {x v : Int64} {y : Int64} {rest : List Value} (hd : decode c.code g.pc = .ok (.lor, 1)) (hs : g.stack = .long y :: .long x :: rest) (hv : x ||| y = v)
    (hr : Steps tb e below (T.setTop { g with pc := g.pc + 1, stack := .long v :: rest }) target) : Steps tb e below (T.setTop g) target := by
  subst hv
  exact XS.lor h hx hg hd hs hr
theorem lxor {tb : Tables} [Ours tb] {e : Env} {below : List Frame} {T target : State} {m : MethodId} {c : Code} {g : JFrame} (h : At T m c below) (hx : tb.exec = Jvm.exec) (hg : g.method = m) {x v : Int64} {y : Int64} {rest : List Value} (hd : decode c.code g.pc = .ok (.lxor, 1)) (hs : g.stack = .long y :: .long x :: rest) (hv : x ^^^ y = v)
    (hr : Steps tb e below (T.setTop { g with pc := g.pc + 1, stack := .long v :: rest }) target) : Steps tb e below (T.setTop g) target := by
  subst hv
  exact XS.lxor h hx hg hd hs hr
theorem lshl {tb : Tables} [Ours tb] {e : Env} {below : List Frame} {T target : State} {m : MethodId} {c : Code} {g : JFrame} (h : At T m c below) (hx : tb.exec = Jvm.exec) (hg : g.method = m) {x v : Int64} {y : Int32} {rest : List Value} (hd : decode c.code g.pc = .ok (.lshl, 1)) (hs : g.stack = .int y :: .long x :: rest) (hv : x <<< (y &&& 0x3f).toInt64 = v)
    (hr : Steps tb e below (T.setTop { g with pc := g.pc + 1, stack := .long v :: rest }) target) : Steps tb e below (T.setTop g) target := by
  subst hv
  exact XS.lshl h hx hg hd hs hr
theorem lshr {tb : Tables} [Ours tb] {e : Env} {below : List Frame} {T target : State} {m : MethodId} {c : Code} {g : JFrame} (h : At T m c below) (hx : tb.exec = Jvm.exec) (hg : g.method = m) {x v : Int64} {y : Int32} {rest : List Value} (hd : decode c.code g.pc = .ok (.lshr, 1)) (hs : g.stack = .int y :: .long x :: rest) (hv : x >>> (y &&& 0x3f).toInt64 = v)
    (hr : Steps tb e below (T.setTop { g with pc := g.pc + 1, stack := .long v :: rest }) target) : Steps tb e below (T.setTop g) target := by
  subst hv
  exact XS.lshr h hx hg hd hs hr
theorem lushr {tb : Tables} [Ours tb] {e : Env} {below : List Frame} {T target : State} {m : MethodId} {c : Code} {g : JFrame} (h : At T m c below) (hx : tb.exec = Jvm.exec) (hg : g.method = m) {x v : Int64} {y : Int32} {rest : List Value} (hd : decode c.code g.pc = .ok (.lushr, 1)) (hs : g.stack = .int y :: .long x :: rest) (hv : (x.toUInt64 >>> (y &&& 0x3f).toInt64.toUInt64).toInt64 = v)
    (hr : Steps tb e below (T.setTop { g with pc := g.pc + 1, stack := .long v :: rest }) target) : Steps tb e below (T.setTop g) target := by
  subst hv
  exact XS.lushr h hx hg hd hs hr
theorem ldiv {tb : Tables} [Ours tb] {e : Env} {below : List Frame} {T target : State} {m : MethodId} {c : Code} {g : JFrame} (h : At T m c below) (hx : tb.exec = Jvm.exec) (hg : g.method = m) {x v : Int64} {y : Int64} {rest : List Value} (hd : decode c.code g.pc = .ok (.ldiv, 1)) (hs : g.stack = .long y :: .long x :: rest) (hy : ¬ y = 0) (hv : x / y = v)
    (hr : Steps tb e below (T.setTop { g with pc := g.pc + 1, stack := .long v :: rest }) target) : Steps tb e below (T.setTop g) target := by
  subst hv
  exact XS.ldiv h hx hg hd hs hy hr
theorem lrem {tb : Tables} [Ours tb] {e : Env} {below : List Frame} {T target : State} {m : MethodId} {c : Code} {g : JFrame} (h : At T m c below) (hx : tb.exec = Jvm.exec) (hg : g.method = m) {x v : Int64} {y : Int64} {rest : List Value} (hd : decode c.code g.pc = .ok (.lrem, 1)) (hs : g.stack = .long y :: .long x :: rest) (hy : ¬ y = 0) (hv : x % y = v)
    (hr : Steps tb e below (T.setTop { g with pc := g.pc + 1, stack := .long v :: rest }) target) : Steps tb e below (T.setTop g) target := by
  subst hv
  have q : x - x / y * y = x % y := lrem_mod x y
  exact XS.lrem h hx hg hd hs hy (by rw [q]; exact hr)
theorem ineg {tb : Tables} [Ours tb] {e : Env} {below : List Frame} {T target : State} {m : MethodId} {c : Code} {g : JFrame} (h : At T m c below) (hx : tb.exec = Jvm.exec) (hg : g.method = m) {x : Int32} {v : Int32} {rest : List Value} (hd : decode c.code g.pc = .ok (.ineg, 1)) (hs : g.stack = .int x :: rest) (hv : -x = v)
    (hr : Steps tb e below (T.setTop { g with pc := g.pc + 1, stack := .int v :: rest }) target) : Steps tb e below (T.setTop g) target := by
  subst hv
  exact XS.ineg h hx hg hd hs hr
theorem lneg {tb : Tables} [Ours tb] {e : Env} {below : List Frame} {T target : State} {m : MethodId} {c : Code} {g : JFrame} (h : At T m c below) (hx : tb.exec = Jvm.exec) (hg : g.method = m) {x : Int64} {v : Int64} {rest : List Value} (hd : decode c.code g.pc = .ok (.lneg, 1)) (hs : g.stack = .long x :: rest) (hv : -x = v)
    (hr : Steps tb e below (T.setTop { g with pc := g.pc + 1, stack := .long v :: rest }) target) : Steps tb e below (T.setTop g) target := by
  subst hv
  exact XS.lneg h hx hg hd hs hr
theorem i2l {tb : Tables} [Ours tb] {e : Env} {below : List Frame} {T target : State} {m : MethodId} {c : Code} {g : JFrame} (h : At T m c below) (hx : tb.exec = Jvm.exec) (hg : g.method = m) {x : Int32} {v : Int64} {rest : List Value} (hd : decode c.code g.pc = .ok (.i2l, 1)) (hs : g.stack = .int x :: rest) (hv : x.toInt64 = v)
    (hr : Steps tb e below (T.setTop { g with pc := g.pc + 1, stack := .long v :: rest }) target) : Steps tb e below (T.setTop g) target := by
  subst hv
  exact XS.i2l h hx hg hd hs hr
theorem l2i {tb : Tables} [Ours tb] {e : Env} {below : List Frame} {T target : State} {m : MethodId} {c : Code} {g : JFrame} (h : At T m c below) (hx : tb.exec = Jvm.exec) (hg : g.method = m) {x : Int64} {v : Int32} {rest : List Value} (hd : decode c.code g.pc = .ok (.l2i, 1)) (hs : g.stack = .long x :: rest) (hv : x.toInt32 = v)
    (hr : Steps tb e below (T.setTop { g with pc := g.pc + 1, stack := .int v :: rest }) target) : Steps tb e below (T.setTop g) target := by
  subst hv
  exact XS.l2i h hx hg hd hs hr
theorem i2b {tb : Tables} [Ours tb] {e : Env} {below : List Frame} {T target : State} {m : MethodId} {c : Code} {g : JFrame} (h : At T m c below) (hx : tb.exec = Jvm.exec) (hg : g.method = m) {x : Int32} {v : Int32} {rest : List Value} (hd : decode c.code g.pc = .ok (.i2b, 1)) (hs : g.stack = .int x :: rest) (hv : x.toInt8.toInt32 = v)
    (hr : Steps tb e below (T.setTop { g with pc := g.pc + 1, stack := .int v :: rest }) target) : Steps tb e below (T.setTop g) target := by
  subst hv
  exact XS.i2b h hx hg hd hs hr
theorem i2s {tb : Tables} [Ours tb] {e : Env} {below : List Frame} {T target : State} {m : MethodId} {c : Code} {g : JFrame} (h : At T m c below) (hx : tb.exec = Jvm.exec) (hg : g.method = m) {x : Int32} {v : Int32} {rest : List Value} (hd : decode c.code g.pc = .ok (.i2s, 1)) (hs : g.stack = .int x :: rest) (hv : x.toInt16.toInt32 = v)
    (hr : Steps tb e below (T.setTop { g with pc := g.pc + 1, stack := .int v :: rest }) target) : Steps tb e below (T.setTop g) target := by
  subst hv
  exact XS.i2s h hx hg hd hs hr
theorem dadd {tb : Tables} [Ours tb] {e : Env} {below : List Frame} {T target : State} {m : MethodId} {c : Code} {g : JFrame} (h : At T m c below) (hx : tb.exec = Jvm.exec) (hg : g.method = m) {x y v : UInt64} {rest : List Value} (hd : decode c.code g.pc = .ok (.dadd, 1)) (hs : g.stack = .double y :: .double x :: rest) (hv : FP.dadd x y = v) (hn : Jvm.Free.Fl.NoNaN64 v)
    (hr : Steps tb e below (T.setTop { g with pc := g.pc + 1, stack := .double v :: rest }) target) : Steps tb e below (T.setTop g) target := by
  subst hv
  exact XS.daddS h hx hg hd hs hn rfl hr
theorem dsub {tb : Tables} [Ours tb] {e : Env} {below : List Frame} {T target : State} {m : MethodId} {c : Code} {g : JFrame} (h : At T m c below) (hx : tb.exec = Jvm.exec) (hg : g.method = m) {x y v : UInt64} {rest : List Value} (hd : decode c.code g.pc = .ok (.dsub, 1)) (hs : g.stack = .double y :: .double x :: rest) (hv : FP.dsub x y = v) (hn : Jvm.Free.Fl.NoNaN64 v)
    (hr : Steps tb e below (T.setTop { g with pc := g.pc + 1, stack := .double v :: rest }) target) : Steps tb e below (T.setTop g) target := by
  subst hv
  exact XS.dsubS h hx hg hd hs hn rfl hr
theorem dmul {tb : Tables} [Ours tb] {e : Env} {below : List Frame} {T target : State} {m : MethodId} {c : Code} {g : JFrame} (h : At T m c below) (hx : tb.exec = Jvm.exec) (hg : g.method = m) {x y v : UInt64} {rest : List Value} (hd : decode c.code g.pc = .ok (.dmul, 1)) (hs : g.stack = .double y :: .double x :: rest) (hv : FP.dmul x y = v) (hn : Jvm.Free.Fl.NoNaN64 v)
    (hr : Steps tb e below (T.setTop { g with pc := g.pc + 1, stack := .double v :: rest }) target) : Steps tb e below (T.setTop g) target := by
  subst hv
  exact XS.dmulS h hx hg hd hs hn rfl hr
theorem ddiv {tb : Tables} [Ours tb] {e : Env} {below : List Frame} {T target : State} {m : MethodId} {c : Code} {g : JFrame} (h : At T m c below) (hx : tb.exec = Jvm.exec) (hg : g.method = m) {x y v : UInt64} {rest : List Value} (hd : decode c.code g.pc = .ok (.ddiv, 1)) (hs : g.stack = .double y :: .double x :: rest) (hv : FP.ddiv x y = v) (hn : Jvm.Free.Fl.NoNaN64 v)
    (hr : Steps tb e below (T.setTop { g with pc := g.pc + 1, stack := .double v :: rest }) target) : Steps tb e below (T.setTop g) target := by
  subst hv
  exact XS.ddivS h hx hg hd hs hn rfl hr
theorem drem {tb : Tables} [Ours tb] {e : Env} {below : List Frame} {T target : State} {m : MethodId} {c : Code} {g : JFrame} (h : At T m c below) (hx : tb.exec = Jvm.exec) (hg : g.method = m) {x y v : UInt64} {rest : List Value} (hd : decode c.code g.pc = .ok (.drem, 1)) (hs : g.stack = .double y :: .double x :: rest) (hv : FP.drem x y = v) (hn : Jvm.Free.Fl.NoNaN64 v)
    (hr : Steps tb e below (T.setTop { g with pc := g.pc + 1, stack := .double v :: rest }) target) : Steps tb e below (T.setTop g) target := by
  subst hg
  subst hv
  obtain ⟨gm, gp, gl, gs, gk, ge, gr⟩ := g
  simp only at hs hd
  subst hs
  jvm_step h [h.top, hx, hd, Op.drem.at_number h.top hn]
  exact hr
theorem lcmp {tb : Tables} [Ours tb] {e : Env} {below : List Frame} {T target : State} {m : MethodId} {c : Code} {g : JFrame} (h : At T m c below) (hx : tb.exec = Jvm.exec) (hg : g.method = m) {x y : Int64} {v : Int32} {rest : List Value} (hd : decode c.code g.pc = .ok (.lcmp, 1)) (hs : g.stack = .long y :: .long x :: rest) (hv : lcmpW x y = v)
    (hr : Steps tb e below (T.setTop { g with pc := g.pc + 1, stack := .int v :: rest }) target) : Steps tb e below (T.setTop g) target := by
  subst hv
  exact XS.lcmp h hx hg hd hs hr
theorem iinc {tb : Tables} [Ours tb] {e : Env} {below : List Frame} {T target : State} {m : MethodId} {c : Code} {g : JFrame} (h : At T m c below) (hx : tb.exec = Jvm.exec) (hg : g.method = m) {k : Nat} {cst : Int} {x v : Int32} {l' : Array Slot} (hd : decode c.code g.pc = .ok (.iinc k cst, 3)) (hl : g.locals[k]? = some (.val (.int x))) (hv : x + Int32.ofInt cst = v) (hl' : storeLocals g.locals k (.int v) = some l')
    (hr : Steps tb e below (T.setTop { g with pc := g.pc + 3, locals := l' }) target) : Steps tb e below (T.setTop g) target := by
  subst hv
  exact XS.iinc h hx hg hd hl hl' hr
theorem dup2 {tb : Tables} [Ours tb] {e : Env} {below : List Frame} {T target : State} {m : MethodId} {c : Code} {g : JFrame} (h : At T m c below) (hx : tb.exec = Jvm.exec) (hg : g.method = m) {x y : Value} {rest : List Value} (hd : decode c.code g.pc = .ok (.dup2, 1)) (hs : g.stack = x :: y :: rest) (hc : x.category = 1) (hc' : y.category = 1)
    (hr : Steps tb e below (T.setTop { g with pc := g.pc + 1, stack := x :: y :: x :: y :: rest }) target) : Steps tb e below (T.setTop g) target := Jvm.Free.XT.dup2 h hx hg hd hs hc hc' hr
theorem dup2W {tb : Tables} [Ours tb] {e : Env} {below : List Frame} {T target : State} {m : MethodId} {c : Code} {g : JFrame} (h : At T m c below) (hx : tb.exec = Jvm.exec) (hg : g.method = m) {x : Value} {rest : List Value} (hd : decode c.code g.pc = .ok (.dup2, 1)) (hs : g.stack = x :: rest) (hc : x.category = 2)
    (hr : Steps tb e below (T.setTop { g with pc := g.pc + 1, stack := x :: x :: rest }) target) : Steps tb e below (T.setTop g) target := by
  subst hg
  jvm_step h [h.top, hx, hd, hs, hc]
  exact hr
theorem Sta_keep {Z : State} {h h' : Heap} {C n d : String} {w : Value} {ws : List Addr} (F : Sta Z h C n d w) (K : Keep h h' ws) (hn : ∀ x ∈ ws, ∀ cell : Cell, h[x]? = some cell → cell.vm.isStatics = false) : Sta Z h' C n d w := by
  obtain ⟨cf, i, k, f, st, cell, h1, h2, h3, h4, h5, h6, h7⟩ := F
  refine ⟨cf, i, k, f, st, cell, h1, h2, h3, h4, K.2.1 st cell h5 (fun q => ?_), h6, h7⟩
  rw [hn st q cell h5] at h6; cases h6
end Jvm.OwnK
namespace Jvm.OwnF
open Jvm.FP Jvm.FP.Core
/-! doubles as whole numbers of units of 2^-1074 -/
def V (a : UInt64) : Int := zval b64 (val64 a)
def BIG : Nat := 2 ^ 2000
/-- the rounding of n / d, in units -/
def rnd (n : Int) (d : Nat) : Int := zval b64 (roundRatio b64 (decide (n < 0)) n.natAbs d (-1074))
theorem zval_zero (s : Bool) (d : Nat) (e : Int) : zval b64 (roundRatio b64 s 0 d e) = 0 := by
  unfold roundRatio
  rw [if_pos rfl]
  show signed s (0 * 2 ^ (b64.qmin - b64.qmin).toNat) = 0
  rw [Nat.zero_mul, signed_zero]
theorem rnd_signed (s : Bool) (N d : Nat) : zval b64 (roundRatio b64 s N d (-1074)) = rnd (signed s N) d := by
  unfold rnd
  rw [natAbs_signed]
  by_cases h : N = 0
  · subst h; rw [zval_zero, zval_zero]
  · rw [signed_lt_zero s (by omega)]
theorem signed_natAbs (n : Int) : signed (decide (n < 0)) n.natAbs = n := by
  unfold signed
  by_cases h : n < 0 <;> simp [h] <;> omega
theorem bigV : Jvm.FP.Core.fits b64 (.fin false (2 ^ 52) 874) := by refine ⟨?_, ?_, ?_, ?_⟩ <;> decide
theorem bigZ : zmag b64 (.fin false (2 ^ 52) 874) = BIG := by
  show 2 ^ 52 * 2 ^ (874 - b64.qmin).toNat = 2 ^ 2000
  rw [qmin_b64, show (874 - (-1074) : Int).toNat = 1948 from rfl, ← Nat.pow_add]
theorem big_lt : BIG < b64.tails * 2 ^ (b64.exps - 2) := by
  rw [tails_b64, show b64.exps - 2 = 2046 by decide, ← Nat.pow_add]
  exact Nat.pow_lt_pow_right (by decide) (by decide)
theorem un0 (A : Nat) : inUnits A (-1074) (-1074) = A := by unfold inUnits; simp
theorem round_le_big {s : Bool} {A B : Nat} (hB : 0 < B) (h : A ≤ BIG * B) : zmag b64 (roundRatio b64 s A B (-1074)) ≤ BIG := by
  have := zmag_roundRatio_le good_b64 (s := s) (A := A) (B := B) (e := -1074) (e0 := -1074) hB bigV Datum.noConfusion (by rw [qmin_b64]; decide) (by decide) (by rw [bigZ, un0, qmin_b64]; simpa using h)
  rwa [bigZ] at this
theorem fin_round {s : Bool} {A B : Nat} (hB : 0 < B) (h : A ≤ BIG * B) : ∃ c q, roundRatio b64 s A B (-1074) = .fin s c q := by
  rcases roundRatio_cases b64 s A B (-1074) with h1 | h1
  · exact h1
  · exfalso
    have h2 := round_le_big (s := s) hB h
    rw [h1] at h2
    have h3 : zmag b64 (.inf s) = b64.tails * 2 ^ (b64.exps - 2) := rfl
    have := big_lt
    omega
theorem noNaN_fin {a : UInt64} (h : DFin a) : Jvm.Free.Fl.NoNaN64 a := by
  rw [Jvm.Free.Fl.val64_no]; obtain ⟨s, c, q, e⟩ := h; rw [e]; exact Datum.noConfusion
theorem V_dadd {a b : UInt64} (ha : DFin a) (hb : DFin b) (h : (V a + V b).natAbs ≤ BIG) : DFin (FP.dadd a b) ∧ V (FP.dadd a b) = rnd (V a + V b) 1 := by
  obtain ⟨s, c, q, ea⟩ := ha
  obtain ⟨t, d, r, eb⟩ := hb
  have fa : Jvm.FP.Core.fits b64 (.fin s c q) := ea ▸ val64_fits a
  have fb : Jvm.FP.Core.fits b64 (.fin t d r) := eb ▸ val64_fits b
  obtain ⟨sg, n, e, p1, p2, p3⟩ := sum_units fa fb
  rw [qmin_b64] at p2 p3
  have hv : val64 (FP.dadd a b) = roundRatio b64 sg (inUnits n e (-1074)) 1 (-1074) := by
    rw [show FP.dadd a b = Core.dadd a b from rfl, val64_dadd, ea, eb, p1]
    show roundRatio b64 sg n 1 e = _
    refine roundRatio_congr (by decide) (by decide) ?_
    rw [show (-1074 - e).toNat = 0 by omega]
    unfold inUnits; simp
  have hS : signed sg (inUnits n e (-1074)) = V a + V b := by unfold V; rw [ea, eb]; exact p3
  have hN : inUnits n e (-1074) = (V a + V b).natAbs := by rw [← hS, natAbs_signed]
  obtain ⟨c', q', hh⟩ := fin_round (s := sg) (A := inUnits n e (-1074)) (B := 1) (by decide) (by rw [Nat.mul_one, hN]; exact h)
  refine ⟨⟨sg, c', q', hv.trans hh⟩, ?_⟩
  show zval b64 (val64 (FP.dadd a b)) = _
  rw [hv, rnd_signed, hS]
theorem V_neg (a : UInt64) : V (Core.dneg a) = -V a := by unfold V; rw [Core.val64_dneg, zval_negate]
theorem fin_neg {a : UInt64} (h : DFin a) : DFin (Core.dneg a) := by
  obtain ⟨s, c, q, e⟩ := h
  exact ⟨!s, c, q, by rw [Core.val64_dneg, e]; rfl⟩
theorem V_dsub {a b : UInt64} (ha : DFin a) (hb : DFin b) (h : (V a - V b).natAbs ≤ BIG) : DFin (FP.dsub a b) ∧ V (FP.dsub a b) = rnd (V a - V b) 1 := by
  have e : FP.dsub a b = FP.dadd a (Core.dneg b) := dsub_eq a b
  rw [e]
  have := V_dadd ha (fin_neg hb) (by rw [V_neg]; exact h)
  rw [V_neg] at this
  exact this
theorem zmag_V (a : UInt64) : zmag b64 (val64 a) = (V a).natAbs := by unfold V zval; rw [natAbs_signed]
theorem V_dmul {a b : UInt64} (ha : DFin a) (hb : DFin b) (h : (V a * V b).natAbs ≤ BIG * one64) : DFin (FP.dmul a b) ∧ V (FP.dmul a b) = rnd (V a * V b) one64 := by
  have za := zmag_V a
  have zb := zmag_V b
  obtain ⟨s, c, q, ea⟩ := ha
  obtain ⟨t, d, r, eb⟩ := hb
  have fa : Jvm.FP.Core.fits b64 (.fin s c q) := ea ▸ val64_fits a
  have fb : Jvm.FP.Core.fits b64 (.fin t d r) := eb ▸ val64_fits b
  obtain ⟨p1, p2, p3⟩ := product_units fa fb
  rw [← ea, ← eb, za, zb, ← Int.natAbs_mul] at p3
  rw [qmin_b64] at p2 p3
  have hv : val64 (FP.dmul a b) = roundRatio b64 (s != t) (V a * V b).natAbs one64 (-1074) := by
    rw [show FP.dmul a b = Core.dmul a b from rfl, val64_dmul, ea, eb, p1]
    show roundRatio b64 (s != t) (c * d) 1 (q + r) = _
    refine roundRatio_congr (by decide) one64_pos ?_
    rw [← p3]
    unfold inUnits one64
    rw [Nat.mul_one, Nat.mul_assoc (c * d), Nat.mul_assoc (c * d), ← Nat.pow_add, ← Nat.pow_add]
    congr 2
    omega
  have hS : signed (s != t) (V a * V b).natAbs = V a * V b := by
    rw [Int.natAbs_mul, signed_xor, ← za, ← zb]
    unfold V zval
    rw [ea, eb]
    rfl
  obtain ⟨c', q', hh⟩ := fin_round (s := s != t) (A := (V a * V b).natAbs) (B := one64) one64_pos h
  refine ⟨⟨_, c', q', hv.trans hh⟩, ?_⟩
  show zval b64 (val64 (FP.dmul a b)) = _
  rw [hv, rnd_signed, hS]
theorem pw2 (c d x y : Nat) : c * (d * 2 ^ x) * 2 ^ y = c * d * 2 ^ (x + y) := by rw [Nat.pow_add]; ac_rfl
theorem pw3 (c d x y z : Nat) : c * 2 ^ x * 2 ^ y * d * 2 ^ z = c * d * 2 ^ (x + y + z) := by rw [Nat.pow_add, Nat.pow_add]; ac_rfl
theorem V_ddiv {a b : UInt64} (ha : DFin a) (hb : DFin b) (h0 : V b ≠ 0) (h : (V a).natAbs * one64 ≤ BIG * (V b).natAbs) : DFin (FP.ddiv a b) ∧ V (FP.ddiv a b) = rnd (V a * (one64 : Int) * (V b).sign) (V b).natAbs := by
  have za := zmag_V a
  have zb := zmag_V b
  have sb : (V b).sign = signed (sgn (val64 b)) 1 := by
    unfold V zval at h0 ⊢
    cases hsg : sgn (val64 b) <;> rw [hsg] at h0 <;> simp only [signed, if_true, Bool.false_eq_true, if_false] at h0 ⊢
    · exact Int.sign_eq_one_of_pos (by omega)
    · exact Int.sign_eq_neg_one_of_neg (by omega)
  obtain ⟨s, c, q, ea⟩ := ha
  obtain ⟨t, d, r, eb⟩ := hb
  have fa : Jvm.FP.Core.fits b64 (.fin s c q) := ea ▸ val64_fits a
  have fb : Jvm.FP.Core.fits b64 (.fin t d r) := eb ▸ val64_fits b
  have hq1 := fa.2.1
  have hr1 := fb.2.1
  rw [qmin_b64] at hq1 hr1
  have ma : (V a).natAbs = c * 2 ^ (q - (-1074)).toNat := by rw [← za, ea]; show inUnits c q b64.qmin = _; rw [qmin_b64]; rfl
  have mb : (V b).natAbs = d * 2 ^ (r - (-1074)).toNat := by rw [← zb, eb]; show inUnits d r b64.qmin = _; rw [qmin_b64]; rfl
  have hd0 : d ≠ 0 := by
    rintro rfl
    rw [Nat.zero_mul] at mb; omega
  have hBp : 0 < (V b).natAbs := by omega
  have hv : val64 (FP.ddiv a b) = roundRatio b64 (s != t) ((V a).natAbs * one64) (V b).natAbs (-1074) := by
    rw [show FP.ddiv a b = Core.ddiv a b from rfl, val64_ddiv, ea, eb]
    simp only [quotient, if_neg hd0]
    refine roundRatio_congr (by omega) hBp ?_
    rw [ma, mb]
    unfold one64
    rw [pw2, pw3]
    congr 2
    omega
  have hS : signed (s != t) ((V a).natAbs * one64) = V a * (one64 : Int) * (V b).sign := by
    rw [sb, eb]
    show _ = _ * signed t 1
    have : signed (s != t) ((V a).natAbs * one64 * 1) = signed s ((V a).natAbs * one64) * signed t 1 := signed_xor s t _ 1
    rw [Nat.mul_one] at this
    rw [this, signed_mul]
    congr 2
    rw [← za]
    unfold V zval
    rw [ea]
    rfl
  obtain ⟨c', q', hh⟩ := fin_round (s := s != t) (A := (V a).natAbs * one64) (B := (V b).natAbs) hBp h
  refine ⟨⟨_, c', q', hv.trans hh⟩, ?_⟩
  show zval b64 (val64 (FP.ddiv a b)) = _
  rw [hv, rnd_signed, hS]
theorem V_of_int {a : UInt64} {n : Int} (ha : val64 a = round b64 (ofInt n)) (h : n.natAbs ≤ 2 ^ 64) : DFin a ∧ V a = rnd (n * (one64 : Int)) 1 := by
  have hv : val64 a = roundRatio b64 (decide (n < 0)) (n.natAbs * one64) 1 (-1074) := by
    rw [ha]
    show roundRatio b64 (decide (n < 0)) n.natAbs 1 0 = _
    refine roundRatio_congr (by decide) (by decide) ?_
    unfold one64
    rw [show (0 - (-1074) : Int).toNat = 1074 from rfl, show (-1074 - 0 : Int).toNat = 0 from rfl]
    simp
  have hS : signed (decide (n < 0)) (n.natAbs * one64) = n * (one64 : Int) := by rw [signed_mul, signed_natAbs]
  have hB : n.natAbs * one64 ≤ BIG := by
    refine Nat.le_trans (Nat.mul_le_mul_right _ h) ?_
    unfold one64 BIG
    rw [← Nat.pow_add]
    exact Nat.pow_le_pow_right (by decide) (by decide)
  obtain ⟨c', q', hh⟩ := fin_round (s := decide (n < 0)) (A := n.natAbs * one64) (B := 1) (by decide) (by rw [Nat.mul_one]; exact hB)
  refine ⟨⟨_, c', q', hv.trans hh⟩, ?_⟩
  show zval b64 (val64 a) = _
  rw [hv, rnd_signed, hS]
theorem V_l2d (n : Int64) : DFin (FP.l2d n) ∧ V (FP.l2d n) = rnd (n.toInt * (one64 : Int)) 1 :=
  V_of_int (val64_l2d n) (Nat.le_trans (int64_abs n) (by decide))
theorem V_i2d (n : Int32) : DFin (FP.i2d n) ∧ V (FP.i2d n) = rnd (n.toInt * (one64 : Int)) 1 :=
  V_of_int (val64_i2d n) (Nat.le_trans (int32_abs n) (by decide))
theorem V_drem {a b : UInt64} (ha : DFin a) (hb : DFin b) (h0 : V b ≠ 0) : DFin (FP.drem a b) ∧ V (FP.drem a b) = (V a).tmod (V b) := by
  have za := zmag_V a
  have zb := zmag_V b
  obtain ⟨s, c, q, ea⟩ := ha
  obtain ⟨t, d, r, eb⟩ := hb
  have fa : Jvm.FP.Core.fits b64 (.fin s c q) := ea ▸ val64_fits a
  have fb : Jvm.FP.Core.fits b64 (.fin t d r) := eb ▸ val64_fits b
  have hd0 : d ≠ 0 := by
    rintro rfl
    rw [eb] at zb
    have : zmag b64 (.fin t 0 r) = 0 := Nat.zero_mul _
    omega
  obtain ⟨c', q', h1, h2⟩ := remainder_exact good_b64 fa fb hd0
  have hv : val64 (FP.drem a b) = .fin s c' q' := by rw [show FP.drem a b = Core.drem a b from rfl, val64_drem, ea, eb, h1]
  refine ⟨⟨_, _, _, hv⟩, ?_⟩
  have h3 : zmag b64 (.fin s c' q') = (V a).natAbs % (V b).natAbs := by rw [← za, ← zb, ea, eb]; exact h2
  have hVa : V a = signed s (V a).natAbs := by rw [← za]; unfold V zval; rw [ea]; rfl
  show zval b64 (val64 (FP.drem a b)) = _
  rw [hv]
  show signed s (zmag b64 (.fin s c' q')) = _
  rw [h3]
  have hb2 : ∀ x : Int, x.tmod (V b) = x.tmod ((V b).natAbs : Int) := by
    intro x
    rcases Int.natAbs_eq (V b) with e | e
    · rw [← e]
    · rw [e, Int.tmod_neg]; simp
  rw [hb2]
  generalize (V b).natAbs = B at *
  generalize (V a).natAbs = A at *
  rw [hVa]
  cases s <;> simp [signed] <;> exact (Int.tmod_eq_emod_of_nonneg (Int.natCast_nonneg A)).symm
theorem cmp_V {a b : UInt64} (ha : DFin a) (hb : DFin b) : FP.dcmp a b = some (compare (V a) (V b)) := by
  obtain ⟨s, c, q, ea⟩ := ha
  obtain ⟨t, d, r, eb⟩ := hb
  exact dcmp_zval (by rw [ea]; exact Datum.noConfusion) (by rw [eb]; exact Datum.noConfusion)
/-! the rounding -/
theorem rnd_congr {n n' : Int} {d d' : Nat} (hd : 0 < d) (hd' : 0 < d') (h : n * (d' : Int) = n' * (d : Int)) : rnd n d = rnd n' d' := by
  have hs : (n < 0) ↔ (n' < 0) := by
    have p1 : (0 : Int) < d := by omega
    have p2 : (0 : Int) < d' := by omega
    constructor
    · intro q
      have := Int.mul_neg_of_neg_of_pos q p2
      refine Int.lt_of_not_ge fun q' => ?_
      have := Int.mul_nonneg q' (Int.le_of_lt p1)
      omega
    · intro q
      have := Int.mul_neg_of_neg_of_pos q p1
      refine Int.lt_of_not_ge fun q' => ?_
      have := Int.mul_nonneg q' (Int.le_of_lt p2)
      omega
  have hm : n.natAbs * d' = n'.natAbs * d := by
    have := congrArg Int.natAbs h
    rwa [Int.natAbs_mul, Int.natAbs_mul, Int.natAbs_natCast, Int.natAbs_natCast] at this
  unfold rnd
  rw [show decide (n < 0) = decide (n' < 0) from decide_eq_decide.mpr hs]
  congr 1
  exact roundRatio_congr hd hd' (by simpa using hm)
/-- at most 53 binary digits -/
def Rep (r : Int) : Prop := ∃ (m : Int) (e : Nat), r = m * ((2 ^ e : Nat) : Int) ∧ m.natAbs < 2 ^ 53 ∧ e ≤ 2045
theorem rnd_exact {n : Int} {d : Nat} {r : Int} (hd : 0 < d) (h : n = r * (d : Int)) (hr : Rep r) : rnd n d = r := by
  rw [rnd_congr (n' := r) (d' := 1) hd (by decide) (by rw [h]; simp)]
  obtain ⟨m, e, rfl, hm, he⟩ := hr
  have hsg : ∀ k : Nat, signed (decide (m < 0)) (m.natAbs * k) = m * (k : Int) := fun k => by rw [signed_mul, signed_natAbs]
  have h1 : rnd (m * ((2 ^ e : Nat) : Int)) 1 = zval b64 (roundRatio b64 (decide (m < 0)) (m.natAbs * 2 ^ e) 1 (-1074)) := by rw [rnd_signed, hsg]
  rw [h1]
  obtain ⟨c', q', h2, h3⟩ := round_exact good_b64 (decide (m < 0)) (c := m.natAbs) (q := (e : Int) - 1074) hm (by rw [qmin_b64]; omega) (by rw [show b64.qmax = 971 by decide]; omega)
  have h4 : roundRatio b64 (decide (m < 0)) (m.natAbs * 2 ^ e) 1 (-1074) = roundRatio b64 (decide (m < 0)) m.natAbs 1 ((e : Int) - 1074) := by
    refine roundRatio_congr (by decide) (by decide) ?_
    rw [show (-1074 - ((e : Int) - 1074)).toNat = 0 by omega, show ((e : Int) - 1074 - -1074).toNat = e by omega]
    simp
  rw [h4]
  have h5 : roundRatio b64 (decide (m < 0)) m.natAbs 1 ((e : Int) - 1074) = .fin (decide (m < 0)) c' q' := h2
  rw [h5]
  show signed _ (inUnits c' q' b64.qmin) = _
  rw [h3, ← hsg]
  unfold inUnits
  rw [qmin_b64, show ((e : Int) - 1074 - -1074).toNat = e by omega]
  rfl
theorem rep_V {a : UInt64} (ha : DFin a) : Rep (V a) := by
  obtain ⟨s, c, q, ea⟩ := ha
  have fa : Jvm.FP.Core.fits b64 (.fin s c q) := ea ▸ val64_fits a
  obtain ⟨h1, h2, h3, -⟩ := fa
  rw [qmin_b64] at h2
  rw [show b64.qmax = 971 by decide] at h3
  refine ⟨signed s c, (q - (-1074)).toNat, ?_, by rw [natAbs_signed]; exact h1, by omega⟩
  unfold V zval
  rw [ea]
  show signed s (c * 2 ^ (q - b64.qmin).toNat) = _
  rw [signed_mul, qmin_b64]
theorem V_le {a : UInt64} : (V a).natAbs ≤ (V a).natAbs := Nat.le_refl _
end Jvm.OwnF
namespace Jvm.OwnF
open Jvm.FP Jvm.FP.Core
/-! exact values: a is n / 2^k -/
def R53 (n : Int) : Prop := ∃ (m : Int) (e : Nat), n = m * ((2 ^ e : Nat) : Int) ∧ m.natAbs ≤ 2 ^ 53 ∧ e ≤ 800
def DV (n : Int) (k : Nat) (a : UInt64) : Prop := DFin a ∧ k ≤ 1074 ∧ V a = n * ((2 ^ (1074 - k) : Nat) : Int)
theorem r53 {n : Int} (h : n.natAbs ≤ 2 ^ 53) : R53 n := ⟨n, 0, by simp, h, by decide⟩
theorem rep_of {m : Int} {e : Nat} (hm : m.natAbs ≤ 2 ^ 53) (he : e ≤ 1900) : Rep (m * ((2 ^ e : Nat) : Int)) := by
  by_cases h : m.natAbs < 2 ^ 53
  · exact ⟨m, e, rfl, h, by omega⟩
  · refine ⟨m.sign, e + 53, ?_, ?_, by omega⟩
    · have h1 : m.natAbs = 2 ^ 53 := by omega
      have h2 : m = m.sign * (m.natAbs : Int) := (Int.sign_mul_natAbs m).symm
      conv => lhs; rw [h2, h1]
      rw [Nat.pow_add, Int.natCast_mul, Int.mul_assoc]
      congr 1
      rw [Int.mul_comm]
    · have : m.sign.natAbs ≤ 1 := by
        rcases Int.lt_trichotomy m 0 with q | q | q
        · rw [Int.sign_eq_neg_one_of_neg q]; decide
        · rw [q]; decide
        · rw [Int.sign_eq_one_of_pos q]; decide
      omega
theorem rep_R {n : Int} (h : R53 n) {k : Nat} (hk : k ≤ 1074) : Rep (n * ((2 ^ k : Nat) : Int)) := by
  obtain ⟨m, e, rfl, hm, he⟩ := h
  rw [Int.mul_assoc, ← Int.natCast_mul, ← Nat.pow_add]
  exact rep_of hm (by omega)
theorem big_R {n : Int} (h : R53 n) {k : Nat} (hk : k ≤ 1074) : (n * ((2 ^ k : Nat) : Int)).natAbs ≤ BIG := by
  obtain ⟨m, e, rfl, hm, he⟩ := h
  rw [Int.natAbs_mul, Int.natAbs_mul, Int.natAbs_natCast, Int.natAbs_natCast, Nat.mul_assoc, ← Nat.pow_add]
  refine Nat.le_trans (Nat.mul_le_mul_right _ hm) ?_
  unfold BIG
  rw [← Nat.pow_add]
  exact Nat.pow_le_pow_right (by decide) (by omega)
theorem DV.fin {n : Int} {k : Nat} {a : UInt64} (h : DV n k a) : DFin a := h.1
theorem DV.nn {n : Int} {k : Nat} {a : UInt64} (h : DV n k a) : Jvm.Free.Fl.NoNaN64 a := noNaN_fin h.1
theorem DV.of_eq {n m : Int} {k : Nat} {a : UInt64} (h : DV n k a) (e : n = m) : DV m k a := e ▸ h
theorem DV.up {n : Int} {k : Nat} {a : UInt64} (h : DV n k a) (j : Nat) (hj : k + j ≤ 1074) : DV (n * ((2 ^ j : Nat) : Int)) (k + j) a := by
  refine ⟨h.1, hj, ?_⟩
  rw [h.2.2, Int.mul_assoc, ← Int.natCast_mul, ← Nat.pow_add]
  congr 4
  omega
theorem DV.down {n : Int} {k j : Nat} {a : UInt64} (h : DV (n * ((2 ^ j : Nat) : Int)) (k + j) a) : DV n k a := by
  refine ⟨h.1, by have := h.2.1; omega, ?_⟩
  rw [h.2.2, Int.mul_assoc, ← Int.natCast_mul, ← Nat.pow_add]
  congr 4
  have := h.2.1; omega
theorem DV_of_V {n : Int} {k : Nat} {a : UInt64} (hf : DFin a) (hk : k ≤ 1074) (hn : R53 n) (h : V a = rnd (n * ((2 ^ (1074 - k) : Nat) : Int)) 1) : DV n k a :=
  ⟨hf, hk, by rw [h]; exact rnd_exact (by decide) (by simp) (rep_R hn (by omega))⟩
theorem DV_add {n m : Int} {k : Nat} {a b : UInt64} (ha : DV n k a) (hb : DV m k b) (h : R53 (n + m)) : DV (n + m) k (FP.dadd a b) := by
  have e : V a + V b = (n + m) * ((2 ^ (1074 - k) : Nat) : Int) := by rw [ha.2.2, hb.2.2, Int.add_mul]
  obtain ⟨h1, h2⟩ := V_dadd ha.1 hb.1 (by rw [e]; exact big_R h (by omega))
  exact DV_of_V h1 ha.2.1 h (by rw [h2, e])
theorem DV_sub {n m : Int} {k : Nat} {a b : UInt64} (ha : DV n k a) (hb : DV m k b) (h : R53 (n - m)) : DV (n - m) k (FP.dsub a b) := by
  have e : V a - V b = (n - m) * ((2 ^ (1074 - k) : Nat) : Int) := by rw [ha.2.2, hb.2.2, Int.sub_mul]
  obtain ⟨h1, h2⟩ := V_dsub ha.1 hb.1 (by rw [e]; exact big_R h (by omega))
  exact DV_of_V h1 ha.2.1 h (by rw [h2, e])
theorem DV_mul {n m : Int} {k j : Nat} {a b : UInt64} (ha : DV n k a) (hb : DV m j b) (hkj : k + j ≤ 1074) (h : R53 (n * m)) : DV (n * m) (k + j) (FP.dmul a b) := by
  have e : V a * V b = (n * m) * ((2 ^ (1074 - (k + j)) : Nat) : Int) * (one64 : Int) := by
    rw [ha.2.2, hb.2.2]
    have : ((2 ^ (1074 - (k + j)) : Nat) : Int) * (one64 : Int) = ((2 ^ (1074 - k) : Nat) : Int) * ((2 ^ (1074 - j) : Nat) : Int) := by
      rw [← Int.natCast_mul, ← Int.natCast_mul]
      unfold one64
      rw [← Nat.pow_add, ← Nat.pow_add]
      congr 2
      have := ha.2.1; have := hb.2.1; omega
    rw [Int.mul_assoc (n * m), this]
    ac_rfl
  obtain ⟨h1, h2⟩ := V_dmul ha.1 hb.1 (by
    rw [e, Int.natAbs_mul, Int.natAbs_natCast]
    exact Nat.mul_le_mul_right _ (big_R h (by omega)))
  refine ⟨h1, hkj, ?_⟩
  rw [h2]
  exact rnd_exact one64_pos e (rep_R h (by omega))
theorem divalg {n c m P Q X U I J : Int} (h : n * P = c * m * Q) (e2 : X * Q = U) (e3 : I * J * P = U * U) : n * X * U * (Q * P) = c * I * (m * J) * (Q * P) := by
  have l : n * X * U * (Q * P) = (n * P) * (X * Q) * U := by ac_rfl
  have r : c * I * (m * J) * (Q * P) = c * m * Q * (I * J * P) := by ac_rfl
  rw [l, r, h, e2, e3, Int.mul_assoc (c * m * Q)]
theorem DV_div {n m c : Int} {k j i : Nat} {a b : UInt64} (ha : DV n k a) (hb : DV m j b) (hi : i ≤ 1074) (hm : m ≠ 0) (hc : R53 c) (h : n * ((2 ^ (j + i) : Nat) : Int) = c * m * ((2 ^ k : Nat) : Int)) : DV c i (FP.ddiv a b) := by
  have hb0 : V b ≠ 0 := by
    rw [hb.2.2]
    intro q
    rcases Int.mul_eq_zero.mp q with q | q
    · exact hm q
    · have := Nat.two_pow_pos (1074 - j); omega
  have hk := ha.2.1
  have hj := hb.2.1
  -- V a * U = (c * 2^(1074 - i)) * V b
  have e : V a * (one64 : Int) = c * ((2 ^ (1074 - i) : Nat) : Int) * V b := by
    have pp : ((2 ^ (k + j + i) : Nat) : Int) ≠ 0 := by have := Nat.two_pow_pos (k + j + i); omega
    refine Int.eq_of_mul_eq_mul_right pp ?_
    rw [ha.2.2, hb.2.2]
    have e1 : ((2 ^ (k + j + i) : Nat) : Int) = ((2 ^ k : Nat) : Int) * ((2 ^ (j + i) : Nat) : Int) := by rw [← Int.natCast_mul, ← Nat.pow_add, Nat.add_assoc]
    have e2 : ((2 ^ (1074 - k) : Nat) : Int) * ((2 ^ k : Nat) : Int) = (one64 : Int) := by rw [← Int.natCast_mul, ← Nat.pow_add, Nat.sub_add_cancel hk]; rfl
    have e3 : ((2 ^ (1074 - i) : Nat) : Int) * ((2 ^ (1074 - j) : Nat) : Int) * ((2 ^ (j + i) : Nat) : Int) = (one64 : Int) * (one64 : Int) := by
      rw [← Int.natCast_mul, ← Int.natCast_mul, ← Int.natCast_mul]
      unfold one64
      rw [← Nat.pow_add, ← Nat.pow_add, ← Nat.pow_add]
      congr 2
      omega
    rw [e1]
    exact divalg h e2 e3
  have ea : (V a).natAbs * one64 = (c * ((2 ^ (1074 - i) : Nat) : Int)).natAbs * (V b).natAbs := by
    have := congrArg Int.natAbs e
    rwa [Int.natAbs_mul, Int.natAbs_mul, Int.natAbs_natCast] at this
  obtain ⟨h1, h2⟩ := V_ddiv ha.1 hb.1 hb0 (by rw [ea]; exact Nat.mul_le_mul_right _ (big_R hc (by omega)))
  refine ⟨h1, hi, ?_⟩
  rw [h2]
  refine rnd_exact (by omega) ?_ (rep_R hc (by omega))
  rw [e, Int.mul_assoc, Int.mul_sign_self]
theorem DV_l2d {n : Int64} (h : R53 n.toInt) : DV n.toInt 0 (FP.l2d n) := by
  obtain ⟨h1, h2⟩ := V_l2d n
  exact DV_of_V h1 (by decide) h h2
theorem DV_i2d (n : Int32) : DV n.toInt 0 (FP.i2d n) := by
  obtain ⟨h1, h2⟩ := V_i2d n
  exact DV_of_V h1 (by decide) (r53 (Nat.le_trans (int32_abs n) (by decide))) h2
theorem DV_const {a : UInt64} {n : Int} {k : Nat} (h1 : a.toNat % 2 ^ 63 < 9218868437227405312) (hk : k ≤ 1074) (h2 : V a = n * ((2 ^ (1074 - k) : Nat) : Int)) : DV n k a := ⟨(fin_bits a).mpr h1, hk, h2⟩
theorem DV_0 : DV 0 0 FP.dconst0 := DV_const (by decide) (by decide) (by decide +kernel)
theorem DV_1 : DV 1 0 FP.dconst1 := DV_const (by decide) (by decide) (by decide +kernel)
theorem DV_z : DV 0 0 (0 : UInt64) := DV_const (by decide) (by decide) (by decide +kernel)
theorem cmpv_V {a b : UInt64} (ha : DFin a) (hb : DFin b) (o : ClassFile.CmpOp) : (V a < V b → Op.cmpValue (FP.dcmp a b) o = -1) ∧ (V a = V b → Op.cmpValue (FP.dcmp a b) o = 0) ∧ (V b < V a → Op.cmpValue (FP.dcmp a b) o = 1) := by
  rw [cmp_V ha hb]
  refine ⟨fun h => ?_, fun h => ?_, fun h => ?_⟩
  · rw [(compare_lt_iff _ _).mpr h]; rfl
  · rw [(compare_eq_iff _ _).mpr h]; rfl
  · rw [(compare_gt_iff _ _).mpr h]; rfl
theorem DV_le {n m : Int} {k : Nat} {a b : UInt64} (ha : DV n k a) (hb : DV m k b) : (V a < V b ↔ n < m) ∧ (V a = V b ↔ n = m) := by
  rw [ha.2.2, hb.2.2]
  have hp : (0 : Int) < ((2 ^ (1074 - k) : Nat) : Int) := by have := Nat.two_pow_pos (1074 - k); omega
  exact ⟨Int.mul_lt_mul_right hp, ⟨fun q => Int.eq_of_mul_eq_mul_right (by omega) q, fun q => by rw [q]⟩⟩
theorem DV_cmp {n m : Int} {k : Nat} {a b : UInt64} (ha : DV n k a) (hb : DV m k b) (o : ClassFile.CmpOp) : (n < m → Op.cmpValue (FP.dcmp a b) o = -1) ∧ (n = m → Op.cmpValue (FP.dcmp a b) o = 0) ∧ (m < n → Op.cmpValue (FP.dcmp a b) o = 1) := by
  obtain ⟨h1, h2, h3⟩ := cmpv_V ha.1 hb.1 o
  exact ⟨fun q => h1 ((DV_le ha hb).1.mpr q), fun q => h2 ((DV_le ha hb).2.mpr q), fun q => h3 ((DV_le hb ha).1.mpr q)⟩
theorem DV_eq0 {n : Int} {k : Nat} {a b : UInt64} (ha : DV n k a) (hb : DV n k b) (o : ClassFile.CmpOp) : Op.cmpValue (FP.dcmp a b) o = 0 := (DV_cmp ha hb o).2.1 rfl
theorem DV_d2l {n : Int} {a : UInt64} (h : DV n 0 a) (h1 : -9223372036854775808 ≤ n) (h2 : n < 9223372036854775808) : (FP.d2l a).toInt = n := by
  obtain ⟨hf, -, hv⟩ := h
  have hn : val64 a ≠ .nan := by obtain ⟨s, c, q, e⟩ := hf; rw [e]; exact Datum.noConfusion
  rw [show FP.d2l a = Core.d2l a from rfl, d2l_val hn, zmag_V]
  have hs : signed (sgn (val64 a)) (V a).natAbs = V a := by rw [← zmag_V]; rfl
  have ho : (1074 - 0 : Nat) = 1074 := rfl
  rw [ho, show (2 ^ 1074 : Nat) = one64 from rfl] at hv
  have hm : (V a).natAbs = n.natAbs * one64 := by rw [hv, Int.natAbs_mul, Int.natAbs_natCast]
  have hd : (V a).natAbs / one64 = n.natAbs := by rw [hm, Nat.mul_div_cancel _ one64_pos]
  rw [hd]
  have hsn : signed (sgn (val64 a)) n.natAbs = n := by
    rw [hm, signed_mul, hv] at hs
    exact Int.eq_of_mul_eq_mul_right (by have := one64_pos; omega) hs
  rw [hsn]
  omega
end Jvm.OwnF
namespace Jvm.OwnF
open Jvm.RoadKit
/-! ints and longs as whole numbers -/
theorem mul_bd {a b : Int} {A B : Nat} (ha : a.natAbs ≤ A) (hb : b.natAbs ≤ B) : (a * b).natAbs ≤ A * B := by rw [Int.natAbs_mul]; exact Nat.mul_le_mul ha hb
theorem iadd_v {x y z : Int32} (h : x + y = z) (hb : (x.toInt + y.toInt).natAbs < 2147483648) : z.toInt = x.toInt + y.toInt := by rw [← h, Int32.toInt_add]; exact Int.bmod_eq_of_le (by omega) (by omega)
theorem isub_v {x y z : Int32} (h : x - y = z) (hb : (x.toInt - y.toInt).natAbs < 2147483648) : z.toInt = x.toInt - y.toInt := by rw [← h, Int32.toInt_sub]; exact Int.bmod_eq_of_le (by omega) (by omega)
theorem imul_v {x y z : Int32} (h : x * y = z) (hb : (x.toInt * y.toInt).natAbs < 2147483648) : z.toInt = x.toInt * y.toInt := by rw [← h, Int32.toInt_mul]; exact Int.bmod_eq_of_le (by omega) (by omega)
theorem ladd_v {x y z : Int64} (h : x + y = z) (hb : (x.toInt + y.toInt).natAbs < 9223372036854775808) : z.toInt = x.toInt + y.toInt := by rw [← h, Int64.toInt_add]; exact Int.bmod_eq_of_le (by omega) (by omega)
theorem lsub_v {x y z : Int64} (h : x - y = z) (hb : (x.toInt - y.toInt).natAbs < 9223372036854775808) : z.toInt = x.toInt - y.toInt := by rw [← h, Int64.toInt_sub]; exact Int.bmod_eq_of_le (by omega) (by omega)
theorem lmul_v {x y z : Int64} (h : x * y = z) (hb : (x.toInt * y.toInt).natAbs < 9223372036854775808) : z.toInt = x.toInt * y.toInt := by rw [← h, Int64.toInt_mul]; exact Int.bmod_eq_of_le (by omega) (by omega)
theorem i2l_v {x : Int32} {z : Int64} (h : x.toInt64 = z) : z.toInt = x.toInt := by rw [← h]; exact c_i2l x
theorem l2i_v {x : Int64} {z : Int32} (h : x.toInt32 = z) (hb : -2147483648 ≤ x.toInt ∧ x.toInt < 2147483648) : z.toInt = x.toInt := by
  rw [← h]; have h1 := c_l2i x; have h2 := rng32 x.toInt32; omega
theorem rng32b (x : Int32) : x.toInt.natAbs ≤ 2147483648 := by have := rng32 x; omega
theorem rng64b (x : Int64) : x.toInt.natAbs ≤ 9223372036854775808 := by have := rng64 x; omega
theorem ishr16 {p z : Int32} (h : p >>> ((16 : Int32) &&& 31) = z) : z.toInt = p.toInt / 65536 := by
  rw [← h, c_ishr p 16 16 (by decide)]; rfl
theorem i2s_b {x z : Int32} (h : x.toInt16.toInt32 = z) : -32768 ≤ z.toInt ∧ z.toInt < 32768 := by rw [← h]; exact (c_i2s x).2
/-- x % y, y > 0, x ≥ 0 -/
theorem irem_v {x y z : Int32} (h : x % y = z) (hx : 0 ≤ x.toInt) : z.toInt = x.toInt % y.toInt := by rw [← h, Int32.toInt_mod]; exact Int.tmod_eq_emod_of_nonneg hx
theorem lrem_v {x y z : Int64} (h : x % y = z) (hx : 0 ≤ x.toInt) : z.toInt = x.toInt % y.toInt := by rw [← h, Int64.toInt_mod]; exact Int.tmod_eq_emod_of_nonneg hx
theorem mask31 {x z : Int32} (h : x &&& (2147483647 : Int32) = z) : 0 ≤ z.toInt ∧ z.toInt < 2147483648 := by
  rw [← h, c_mask x 2147483647 31 (by decide) (by decide)]
  have e : ((2 ^ 31 : Nat) : Int) = 2147483648 := by decide
  rw [e]; omega
/-- x << q, q < 64, no overflow -/
theorem lshl_v {x z : Int64} {q : Int32} (h : x <<< (q &&& 0x3f).toInt64 = z) {k : Nat} (hq : q.toInt = (k : Int)) (hk : k < 64) (hb : (x.toInt * ((2 ^ k : Nat) : Int)).natAbs < 9223372036854775808) : z.toInt = x.toInt * ((2 ^ k : Nat) : Int) := by
  have hn : q.toBitVec.toNat % 64 = k := by
    have e : q.toBitVec.toNat = k := by
      have h1 : q.toBitVec.toInt = (k : Int) := hq
      have h2 := BitVec.toInt_eq_toNat_bmod q.toBitVec
      rw [h1] at h2
      have h3 := q.toBitVec.isLt
      have h4 := Int.bmod_emod (x := (q.toBitVec.toNat : Int)) (m := 2 ^ 32)
      omega
    omega
  have := c_lshl x q k hn
  rw [h] at this
  have r := rng64 z
  omega
end Jvm.OwnF
namespace Jvm.OwnF
open Jvm.RoadKit
theorem nat32 {q : Int32} {k : Nat} (hq : q.toInt = (k : Int)) : q.toBitVec.toNat = k := by
  have h1 : q.toBitVec.toInt = (k : Int) := hq
  have h2 := BitVec.toInt_eq_toNat_bmod q.toBitVec
  rw [h1] at h2
  have h3 := q.toBitVec.isLt
  have h5 := rng32 q
  have h4 := Int.bmod_emod (x := (q.toBitVec.toNat : Int)) (m := 2 ^ 32)
  omega
theorem ishl_v {x z q : Int32} (h : x <<< (q &&& 31) = z) {k : Nat} (hq : q.toInt = (k : Int)) (hk : k < 32) (hb : (x.toInt * ((2 ^ k : Nat) : Int)).natAbs < 2147483648) : z.toInt = x.toInt * ((2 ^ k : Nat) : Int) := by
  have hn : q.toBitVec.toNat % 32 = k := by rw [nat32 hq]; omega
  have := c_ishl x q k hn
  rw [h] at this
  have r := rng32 z
  omega
theorem ishl_1 {z q : Int32} (h : (1 : Int32) <<< (q &&& 31) = z) {k : Nat} (hq : q.toInt = (k : Int)) (hk : k < 31) : z.toInt = ((2 ^ k : Nat) : Int) := by
  have p : 2 ^ k ≤ 2 ^ 30 := Nat.pow_le_pow_right (by decide) (by omega)
  have := ishl_v h hq (by omega) (by rw [show (1 : Int32).toInt = 1 by decide, Int.one_mul, Int.natAbs_natCast]; omega)
  rw [show (1 : Int32).toInt = 1 by decide, Int.one_mul] at this
  exact this
end Jvm.OwnF
namespace Jvm.Pilot.@@N@@
open Jvm Jvm.ClassFile Sem Op Lib Jvm.Free Jvm.Stand Jvm.LawKit Jvm.RoadKit Bundle Jvm.Pilot.@@N@@.Jvm.D
open Jvm.OwnF in
theorem lim {A0 A1 A2 I : Int} {a0 a1 a2 i c9 c10 c16 c18 c19 : UInt64} (b0 : A0.natAbs ≤ 32768) (b1 : A1.natAbs ≤ 32768) (b2 : A2.natAbs ≤ 32768) (bi : I.natAbs ≤ 2049) (d0 : DV A0 0 a0) (d1 : DV A1 0 a1) (d2 : DV A2 0 a2) (di : DV I 0 i)
    (k9 : FP.dmul a1 i = c9) (k10 : FP.dadd a0 c9 = c10) (k16 : FP.dmul a2 i = c16) (k18 : FP.dmul c16 i = c18) (k19 : FP.dadd c10 c18 = c19) :
    Jvm.Free.Fl.NoNaN64 c9 ∧ Jvm.Free.Fl.NoNaN64 c10 ∧ Jvm.Free.Fl.NoNaN64 c16 ∧ Jvm.Free.Fl.NoNaN64 c18 ∧ Jvm.Free.Fl.NoNaN64 c19 ∧ DV (A0 + A1 * I + A2 * I * I) 0 c19 ∧ (A0 + A1 * I + A2 * I * I).natAbs ≤ 137675571200 := by
  have m1 := mul_bd b1 bi
  have m2 := mul_bd b2 bi
  have m3 := mul_bd m2 bi
  have e9 : DV (A1 * I) 0 c9 := k9 ▸ DV_mul d1 di (by decide) (r53 (by omega))
  have e10 : DV (A0 + A1 * I) 0 c10 := k10 ▸ DV_add d0 e9 (r53 (by omega))
  have e16 : DV (A2 * I) 0 c16 := k16 ▸ DV_mul d2 di (by decide) (r53 (by omega))
  have e18 : DV (A2 * I * I) 0 c18 := k18 ▸ DV_mul e16 di (by decide) (r53 (by omega))
  have e19 : DV (A0 + A1 * I + A2 * I * I) 0 c19 := k19 ▸ DV_add e10 e18 (r53 (by omega))
  exact ⟨e9.nn, e10.nn, e16.nn, e18.nn, e19.nn, e19, by omega⟩
open Jvm.OwnF in
theorem two : DV 2 0 (4611686018427387904 : UInt64) := DV_const (by decide) (by decide) (by decide +kernel)
open Jvm.OwnF in
theorem grad {A1 A2 I : Int} {a1 a2 i c11 c13 c14 : UInt64} (b1 : A1.natAbs ≤ 32768) (b2 : A2.natAbs ≤ 32768) (bi : I.natAbs ≤ 2048) (d1 : DV A1 0 a1) (d2 : DV A2 0 a2) (di : DV I 0 i)
    (k11 : FP.dmul (4611686018427387904 : UInt64) a2 = c11) (k13 : FP.dmul c11 i = c13) (k14 : FP.dadd a1 c13 = c14) : Jvm.Free.Fl.NoNaN64 c11 ∧ Jvm.Free.Fl.NoNaN64 c13 ∧ Jvm.Free.Fl.NoNaN64 c14 ∧ DV (A1 + 2 * A2 * I) 0 c14 ∧ (A1 + 2 * A2 * I).natAbs ≤ 134250496 := by
  have m2 : (2 * A2).natAbs ≤ 65536 := by omega
  have m3 := mul_bd m2 bi
  have e11 : DV (2 * A2) 0 c11 := k11 ▸ DV_mul two d2 (by decide) (r53 (by omega))
  have e13 : DV (2 * A2 * I) 0 c13 := k13 ▸ DV_mul e11 di (by decide) (r53 (by omega))
  have e14 : DV (A1 + 2 * A2 * I) 0 c14 := k14 ▸ DV_add d1 e13 (r53 (by omega))
  exact ⟨e11.nn, e13.nn, e14.nn, e14, by omega⟩
open Jvm.OwnF in
theorem icep {A0 A2 I : Int} {a0 a2 i c9 c11 c12 : UInt64} (b0 : A0.natAbs ≤ 32768) (b2 : A2.natAbs ≤ 32768) (bi : I.natAbs ≤ 2048) (d0 : DV A0 0 a0) (d2 : DV A2 0 a2) (di : DV I 0 i)
    (k9 : FP.dmul a2 i = c9) (k11 : FP.dmul c9 i = c11) (k12 : FP.dsub a0 c11 = c12) : Jvm.Free.Fl.NoNaN64 c9 ∧ Jvm.Free.Fl.NoNaN64 c11 ∧ Jvm.Free.Fl.NoNaN64 c12 ∧ DV (A0 - A2 * I * I) 0 c12 ∧ (A0 - A2 * I * I).natAbs ≤ 137439023104 := by
  have m2 := mul_bd b2 bi
  have m3 := mul_bd m2 bi
  have e9 : DV (A2 * I) 0 c9 := k9 ▸ DV_mul d2 di (by decide) (r53 (by omega))
  have e11 : DV (A2 * I * I) 0 c11 := k11 ▸ DV_mul e9 di (by decide) (r53 (by omega))
  have e12 : DV (A0 - A2 * I * I) 0 c12 := k12 ▸ DV_sub d0 e11 (r53 (by omega))
  exact ⟨e9.nn, e11.nn, e12.nn, e12, by omega⟩
open Jvm.OwnF in
theorem ii_b {x y z : Int32} (h1 : x <<< ((20 : Int32) &&& 31) = y) (h2 : y >>> ((20 : Int32) &&& 31) = z) : -2048 ≤ z.toInt ∧ z.toInt < 2048 := by
  have := c_ishr y 20 20 (by decide)
  rw [h2, show ((2 ^ 20 : Nat) : Int) = 1048576 by decide] at this
  have := rng32 y
  omega
open Jvm.OwnF in
theorem fin1 {A0 A1 A2 I : Int} {u v w g t : UInt64} (d1 : DV (A0 + A1 * (I + 1) + A2 * (I + 1) * (I + 1)) 0 u) (d2 : DV (A0 + A1 * (I - 1) + A2 * (I - 1) * (I - 1)) 0 v) (dg : DV (A1 + 2 * A2 * I) 0 g) (bg : (A1 + 2 * A2 * I).natAbs ≤ 134250496) (hw : FP.dsub u v = w) (ht : FP.dmul (4611686018427387904 : UInt64) g = t) :
    Jvm.Free.Fl.NoNaN64 w ∧ Jvm.Free.Fl.NoNaN64 t ∧ cmpValue (FP.dcmp w t) .l = 0 := by
  have e : A0 + A1 * (I + 1) + A2 * (I + 1) * (I + 1) - (A0 + A1 * (I - 1) + A2 * (I - 1) * (I - 1)) = 2 * (A1 + 2 * A2 * I) := by
    simp only [Int.add_mul, Int.mul_add, Int.sub_mul, Int.mul_sub, Int.mul_one, Int.one_mul, Int.mul_assoc]
    omega
  have dw : DV (2 * (A1 + 2 * A2 * I)) 0 w := by
    rw [← hw, ← e]; exact DV_sub d1 d2 (by rw [e]; exact r53 (by omega))
  have dt : DV (2 * (A1 + 2 * A2 * I)) 0 t := ht ▸ DV_mul two dg (by decide) (r53 (by omega))
  exact ⟨dw.nn, dt.nn, DV_eq0 dw dt _⟩
open Jvm.OwnF in
theorem fin2 {A0 A1 A2 I : Int} {u c g i m s : UInt64} (bi : I.natAbs ≤ 2048) (du : DV (A0 + A1 * I + A2 * I * I) 0 u) (bu : (A0 + A1 * I + A2 * I * I).natAbs ≤ 137675571200) (dc : DV (A0 - A2 * I * I) 0 c) (dg : DV (A1 + 2 * A2 * I) 0 g) (bg : (A1 + 2 * A2 * I).natAbs ≤ 134250496) (di : DV I 0 i) (hm : FP.dmul g i = m) (hs : FP.dadd c m = s) :
    Jvm.Free.Fl.NoNaN64 m ∧ Jvm.Free.Fl.NoNaN64 s ∧ cmpValue (FP.dcmp u s) .l = 0 := by
  have e : A0 - A2 * I * I + (A1 + 2 * A2 * I) * I = A0 + A1 * I + A2 * I * I := by
    simp only [Int.add_mul, Int.mul_assoc]
    omega
  have mb := mul_bd bg bi
  have dm : DV ((A1 + 2 * A2 * I) * I) 0 m := hm ▸ DV_mul dg di (by decide) (r53 (by omega))
  have ds : DV (A0 + A1 * I + A2 * I * I) 0 s := by
    rw [← hs, ← e]; exact DV_add dc dm (by rw [e]; exact r53 (by omega))
  exact ⟨dm.nn, ds.nn, DV_eq0 du ds _⟩
theorem d2_0 : decode jdk_30_method_1_code 0 = .ok (.aload_n 0, 1) := by decide +kernel
theorem d2_1 : decode jdk_30_method_1_code 1 = .ok (.invokespecial 1, 3) := by decide +kernel
theorem d2_4 : decode jdk_30_method_1_code 4 = .ok (.return_, 1) := by decide +kernel
theorem pn_0 : plainName "java/lang/Record" = true := by first | (simp [plainName, overriddenIn]; done) | decide +kernel
theorem ef_rm2 (m : MethodId) (o0 : Addr) : entryFrame m #[(.ref o0)] 1 = mkF m 0 #[.val (.ref o0)] [] := by first | (simp [entryFrame, mkF, argsToLocals, Value.category]; done) | rfl
theorem d1_0 : decode prog_61_method_1_code 0 = .ok (.aload_n 0, 1) := by decide +kernel
theorem d1_1 : decode prog_61_method_1_code 1 = .ok (.invokespecial 1, 3) := by decide +kernel
theorem pd_0 : parseMethodDescriptor "()V" = some ⟨[], none⟩ := by decide +kernel
theorem d1_4 : decode prog_61_method_1_code 4 = .ok (.aload_n 0, 1) := by decide +kernel
theorem d1_5 : decode prog_61_method_1_code 5 = .ok (.dload_n 1, 1) := by decide +kernel
theorem d1_6 : decode prog_61_method_1_code 6 = .ok (.putfield 7, 3) := by decide +kernel
theorem d1_9 : decode prog_61_method_1_code 9 = .ok (.aload_n 0, 1) := by decide +kernel
theorem d1_10 : decode prog_61_method_1_code 10 = .ok (.dload_n 3, 1) := by decide +kernel
theorem d1_11 : decode prog_61_method_1_code 11 = .ok (.putfield 13, 3) := by decide +kernel
theorem d1_14 : decode prog_61_method_1_code 14 = .ok (.aload_n 0, 1) := by decide +kernel
theorem d1_15 : decode prog_61_method_1_code 15 = .ok (.dload 5, 2) := by decide +kernel
theorem d1_17 : decode prog_61_method_1_code 17 = .ok (.putfield 16, 3) := by decide +kernel
theorem d1_20 : decode prog_61_method_1_code 20 = .ok (.return_, 1) := by decide +kernel
theorem pn_1 : plainName "com/example/bindwire/bindwire/model/OffloadCurve" = true := by first | (simp [plainName, overriddenIn]; done) | decide +kernel
theorem ef_rm1 (m : MethodId) (o0 : Addr) (d1 : UInt64) (d2 : UInt64) (d3 : UInt64) : entryFrame m #[(.ref o0), (.double d1), (.double d2), (.double d3)] 7 = mkF m 0 #[.val (.ref o0), .val (.double d1), .second, .val (.double d2), .second, .val (.double d3), .second] [] := by first | (simp [entryFrame, mkF, argsToLocals, Value.category]; done) | rfl
theorem d4_0 : decode prog_61_method_3_code 0 = .ok (.aload_n 0, 1) := by decide +kernel
theorem d4_1 : decode prog_61_method_3_code 1 = .ok (.getfield 13, 3) := by decide +kernel
theorem d4_4 : decode prog_61_method_3_code 4 = .ok (.ldc2_w 19, 3) := by decide +kernel
theorem d4_7 : decode prog_61_method_3_code 7 = .ok (.aload_n 0, 1) := by decide +kernel
theorem d4_8 : decode prog_61_method_3_code 8 = .ok (.getfield 16, 3) := by decide +kernel
theorem d4_11 : decode prog_61_method_3_code 11 = .ok (.dmul, 1) := by decide +kernel
theorem d4_12 : decode prog_61_method_3_code 12 = .ok (.dload_n 1, 1) := by decide +kernel
theorem d4_13 : decode prog_61_method_3_code 13 = .ok (.dmul, 1) := by decide +kernel
theorem d4_14 : decode prog_61_method_3_code 14 = .ok (.dadd, 1) := by decide +kernel
theorem d4_15 : decode prog_61_method_3_code 15 = .ok (.dreturn, 1) := by decide +kernel
theorem ef_rm4 (m : MethodId) (o0 : Addr) (d1 : UInt64) : entryFrame m #[(.ref o0), (.double d1)] 3 = mkF m 0 #[.val (.ref o0), .val (.double d1), .second] [] := by first | (simp [entryFrame, mkF, argsToLocals, Value.category]; done) | rfl
theorem d5_0 : decode prog_61_method_2_code 0 = .ok (.aload_n 0, 1) := by decide +kernel
theorem d5_1 : decode prog_61_method_2_code 1 = .ok (.getfield 7, 3) := by decide +kernel
theorem d5_4 : decode prog_61_method_2_code 4 = .ok (.aload_n 0, 1) := by decide +kernel
theorem d5_5 : decode prog_61_method_2_code 5 = .ok (.getfield 13, 3) := by decide +kernel
theorem d5_8 : decode prog_61_method_2_code 8 = .ok (.dload_n 1, 1) := by decide +kernel
theorem d5_9 : decode prog_61_method_2_code 9 = .ok (.dmul, 1) := by decide +kernel
theorem d5_10 : decode prog_61_method_2_code 10 = .ok (.dadd, 1) := by decide +kernel
theorem d5_11 : decode prog_61_method_2_code 11 = .ok (.aload_n 0, 1) := by decide +kernel
theorem d5_12 : decode prog_61_method_2_code 12 = .ok (.getfield 16, 3) := by decide +kernel
theorem d5_15 : decode prog_61_method_2_code 15 = .ok (.dload_n 1, 1) := by decide +kernel
theorem d5_16 : decode prog_61_method_2_code 16 = .ok (.dmul, 1) := by decide +kernel
theorem d5_17 : decode prog_61_method_2_code 17 = .ok (.dload_n 1, 1) := by decide +kernel
theorem d5_18 : decode prog_61_method_2_code 18 = .ok (.dmul, 1) := by decide +kernel
theorem d5_19 : decode prog_61_method_2_code 19 = .ok (.dadd, 1) := by decide +kernel
theorem d5_20 : decode prog_61_method_2_code 20 = .ok (.dreturn, 1) := by decide +kernel
theorem ef_rm5 (m : MethodId) (o0 : Addr) (d1 : UInt64) : entryFrame m #[(.ref o0), (.double d1)] 3 = mkF m 0 #[.val (.ref o0), .val (.double d1), .second] [] := by first | (simp [entryFrame, mkF, argsToLocals, Value.category]; done) | rfl
theorem d6_0 : decode prog_61_method_4_code 0 = .ok (.aload_n 0, 1) := by decide +kernel
theorem d6_1 : decode prog_61_method_4_code 1 = .ok (.getfield 7, 3) := by decide +kernel
theorem d6_4 : decode prog_61_method_4_code 4 = .ok (.aload_n 0, 1) := by decide +kernel
theorem d6_5 : decode prog_61_method_4_code 5 = .ok (.getfield 16, 3) := by decide +kernel
theorem d6_8 : decode prog_61_method_4_code 8 = .ok (.dload_n 1, 1) := by decide +kernel
theorem d6_9 : decode prog_61_method_4_code 9 = .ok (.dmul, 1) := by decide +kernel
theorem d6_10 : decode prog_61_method_4_code 10 = .ok (.dload_n 1, 1) := by decide +kernel
theorem d6_11 : decode prog_61_method_4_code 11 = .ok (.dmul, 1) := by decide +kernel
theorem d6_12 : decode prog_61_method_4_code 12 = .ok (.dsub, 1) := by decide +kernel
theorem d6_13 : decode prog_61_method_4_code 13 = .ok (.dreturn, 1) := by decide +kernel
theorem ef_rm6 (m : MethodId) (o0 : Addr) (d1 : UInt64) : entryFrame m #[(.ref o0), (.double d1)] 3 = mkF m 0 #[.val (.ref o0), .val (.double d1), .second] [] := by first | (simp [entryFrame, mkF, argsToLocals, Value.category]; done) | rfl
theorem pd_1 : parseMethodDescriptor "(DDD)V" = some ⟨[.double, .double, .double], none⟩ := by decide +kernel
theorem pd_2 : parseMethodDescriptor "(D)D" = some ⟨[.double], some .double⟩ := by decide +kernel
theorem pn_2 : plainName "com/example/bindwire/bindwire/model/OffloadCurveGradientPinLaw" = true := by first | (simp [plainName, overriddenIn]; done) | decide +kernel
theorem ef_rm0 (m : MethodId) (p0 : Int32) (p1 : Int32) (p2 : Int32) (p3 : Int32) : entryFrame m #[(.int p0), (.int p1), (.int p2), (.int p3)] maxLocals = mkF m 0 #[.val (.int p0), .val (.int p1), .val (.int p2), .val (.int p3), .unset, .unset, .unset, .unset, .unset, .unset, .unset, .unset, .unset, .unset, .unset, .unset, .unset, .unset, .unset, .unset, .unset, .unset, .unset, .unset] [] := by first | (simp [entryFrame, mkF, argsToLocals, Value.category, maxLocals]; done) | rfl
def Q2 (Z : State) (o0 : Addr)  (h0 : Heap) (n0 : Nat) (v : Option Value) (h : Heap) (L : List Loc) : Prop := v = none ∧ Fr n0 L ∧ h = h0
set_option maxRecDepth 65536 in
set_option maxHeartbeats 40000000 in
theorem rm2 (l : Launch) (Z : State) (a0 : Array Value) (hw : ∀ d ∈ tables_1, d.before a0 Z = true) (ws : List Jvm.Cond) (o0 : Addr)  (h0 : Heap) (n0 : Nat) (Z0 : n0 ≤ h0.size)  :
    MetFree l (⟨"java/lang/Record", "<init>", "()V"⟩ : MethodName) (head1 (Jvm.Cond.code (⟨"java/lang/Record", "<init>", "()V"⟩ : MethodName) jdk_30_method_1_code 1 none :: ws) ({ frames := 1, cells := 0, slots := 0, locals := 12 } : Room)) (fun a U => a = #[(.ref o0)] ∧ Z.Warmed39 U.vm ∧ U.heap = h0) (fun _ _ _ _ _ => True) (fun _ U o U' => ∃ v L, o = .returned v ∧ Q2 Z o0  h0 n0 v U'.heap L ∧ FrameEnd U o U' L ({ frames := 1, cells := 0, slots := 0, locals := 12 } : Room).cells ({ frames := 1, cells := 0, slots := 0, locals := 12 } : Room).slots) := by
  refine MetFree.of_bodySF (plainFor_of_name pn_0) hisR ?_
  intro p e s m args below meth c s₁ Bd hml0 hP hK
  obtain ⟨rfl, hZ, hh⟩ := hP
  have hx := Bd.exec
  have hby := Bd.bytes
  have hml : c.maxLocals = 1 := hml0
  have hown : s.vm.findClass "java/lang/Record" = some m.cls := findClass_of_methodNamed Bd.named
  have hnm := (name_of_methodNamed Bd.named Bd.method).1
  have X0 : Stand p l e ({ frames := 1, cells := 0, slots := 0, locals := 12 } : Room) s m #[(.ref o0)] below meth c s₁ [] 0 0 := Stand.of_body Bd
  have e0 : s₁.heap = h0 := by rw [← hh, Bd.state]; rfl
  have N0 := Fr.nil n0
  have c0 : ∀ t, Steps p.tables e below (s₁.setTop (mkF m 0 #[.val (.ref o0)] [])) t → Steps p.tables e below (s₁.setTop (entryFrame m #[(.ref o0)] 1)) t := fun t k => castTop (ef_rm2 m o0) k
  obtain ⟨T1, X1, e1, st1⟩ := initO X0 hx hZ hown (hw _ (List.mem_of_getElem? (i := 11) rfl)) (hw _ (List.mem_of_getElem? (i := 12) rfl)) (hw _ (List.mem_of_getElem? (i := 13) rfl)) e0 (g := (mkF m 1 #[.val (.ref o0)] [(.ref o0)])) rfl (by rw [hml]; rfl) rfl (hb hby d2_1) (by decide) (W := 0) (by show 2 * 0 + _ ≤ _; exact Nat.le_of_eq rfl) (by decide)
  have c2 : ∀ t, Steps p.tables e below (T1.setTop (mkF m 4 #[.val (.ref o0)] [])) t → Steps p.tables e below (s₁.setTop (entryFrame m #[(.ref o0)] 1)) t := by
    intro t k
    refine c0 t ?_
    show Steps p.tables e below (s₁.setTop (mkF m 0 #[.val (.ref o0)] [])) _
    refine XS.aloadN X0.here hx rfl (hb hby d2_0) rfl rfl ?_
    show Steps p.tables e below (s₁.setTop (mkF m 1 #[.val (.ref o0)] [(.ref o0)])) _
    refine st1 _ ?_
    exact k
  obtain ⟨fs, hr, hrun, hended, hW, hsame⟩ := X1.leave (v := none) (fun _ => rfl)
  refine ⟨_, _, c2 _ ?_, hrun, hended, _, _, rfl, ?_, ⟨_, rfl⟩, hW, hsame.mono (by decide) (by decide)⟩
  · show Steps p.tables e below (T1.setTop (mkF m 4 #[.val (.ref o0)] [])) _
    exact X1.returnOut hx Bd.returns (hb hby d2_4) hr
  · show Q2 Z o0  h0 n0 _ T1.heap _
    rw [e1]
    exact ⟨rfl, N0, rfl⟩
def Q1 (Z : State) (o0 : Addr) (d1 : UInt64) (d2 : UInt64) (d3 : UInt64) (u_a0_o0 : Value) (u_a1_o0 : Value) (u_a2_o0 : Value)  (h0 : Heap) (n0 : Nat) (v : Option Value) (h : Heap) (L : List Loc) : Prop := v = none ∧ Fr n0 L ∧ Keep h0 h [o0] ∧ Exa Z h o0 "com/example/bindwire/bindwire/model/OffloadCurve" ∧ Fld Z h o0 "com/example/bindwire/bindwire/model/OffloadCurve" "a0" "D" (.double d1) ∧ Fld Z h o0 "com/example/bindwire/bindwire/model/OffloadCurve" "a1" "D" (.double d2) ∧ Fld Z h o0 "com/example/bindwire/bindwire/model/OffloadCurve" "a2" "D" (.double d3)
set_option maxRecDepth 65536 in
set_option maxHeartbeats 40000000 in
theorem rm1 (l : Launch) (Z : State) (a0 : Array Value) (hw : ∀ d ∈ tables_1, d.before a0 Z = true) (ws : List Jvm.Cond) (o0 : Addr) (d1 : UInt64) (d2 : UInt64) (d3 : UInt64) (u_a0_o0 : Value) (u_a1_o0 : Value) (u_a2_o0 : Value)  (h0 : Heap) (n0 : Nat) (Z0 : n0 ≤ h0.size) (E_o0 : Exa Z h0 o0 "com/example/bindwire/bindwire/model/OffloadCurve") (F_a0_o0 : Fld Z h0 o0 "com/example/bindwire/bindwire/model/OffloadCurve" "a0" "D" u_a0_o0) (g_o0 : n0 ≤ o0) (F_a1_o0 : Fld Z h0 o0 "com/example/bindwire/bindwire/model/OffloadCurve" "a1" "D" u_a1_o0) (F_a2_o0 : Fld Z h0 o0 "com/example/bindwire/bindwire/model/OffloadCurve" "a2" "D" u_a2_o0) :
    MetFree l (⟨"com/example/bindwire/bindwire/model/OffloadCurve", "<init>", "(DDD)V"⟩ : MethodName) (head1 (Jvm.Cond.code (⟨"com/example/bindwire/bindwire/model/OffloadCurve", "<init>", "(DDD)V"⟩ : MethodName) prog_61_method_1_code 7 none :: ws) ({ frames := 2, cells := 0, slots := 0, locals := 24 } : Room)) (fun a U => a = #[(.ref o0), (.double d1), (.double d2), (.double d3)] ∧ Z.Warmed39 U.vm ∧ U.heap = h0) (fun _ _ _ _ _ => True) (fun _ U o U' => ∃ v L, o = .returned v ∧ Q1 Z o0 d1 d2 d3 u_a0_o0 u_a1_o0 u_a2_o0  h0 n0 v U'.heap L ∧ FrameEnd U o U' L ({ frames := 2, cells := 0, slots := 0, locals := 24 } : Room).cells ({ frames := 2, cells := 0, slots := 0, locals := 24 } : Room).slots) := by
  refine MetFree.of_bodySF (plainFor_of_name pn_1) hisR ?_
  intro p e s m args below meth c s₁ Bd hml0 hP hK
  obtain ⟨rfl, hZ, hh⟩ := hP
  have hx := Bd.exec
  have hby := Bd.bytes
  have hml : c.maxLocals = 7 := hml0
  have hown : s.vm.findClass "com/example/bindwire/bindwire/model/OffloadCurve" = some m.cls := findClass_of_methodNamed Bd.named
  have hnm := (name_of_methodNamed Bd.named Bd.method).1
  have X0 : Stand p l e ({ frames := 2, cells := 0, slots := 0, locals := 24 } : Room) s m #[(.ref o0), (.double d1), (.double d2), (.double d3)] below meth c s₁ [] 0 0 := Stand.of_body Bd
  have e0 : s₁.heap = h0 := by rw [← hh, Bd.state]; rfl
  have N0 := Fr.nil n0
  have c0 : ∀ t, Steps p.tables e below (s₁.setTop (mkF m 0 #[.val (.ref o0), .val (.double d1), .second, .val (.double d2), .second, .val (.double d3), .second] [])) t → Steps p.tables e below (s₁.setTop (entryFrame m #[(.ref o0), (.double d1), (.double d2), (.double d3)] 7)) t := fun t k => castTop (ef_rm1 m o0 d1 d2 d3) k
  obtain ⟨_, _, ⟨T1, L1, k1, n1⟩, -, X1, ⟨Lc1, hQ1, ql1, qy1, qz1⟩, st1⟩ := X0.specialBack hx (y := (⟨"java/lang/Record", "<init>", "()V"⟩ : MethodName)) rfl hown (mvT hZ (hw _ (List.mem_of_getElem? (i := 6) rfl))) (mvT hZ (hw _ (List.mem_of_getElem? (i := 7) rfl))) (mvT hZ (hw _ (List.mem_of_getElem? (i := 10) rfl))) (by decide) (backOf (W := 0) (rm2 l Z a0 hw [] o0  h0 n0 Z0 ) hZ (hw _ (List.mem_of_getElem? (i := 10) rfl)) (hw _ (List.mem_of_getElem? (i := 9) rfl)) (by decide) (by decide)) (g := (mkF m 1 #[.val (.ref o0), .val (.double d1), .second, .val (.double d2), .second, .val (.double d3), .second] [(.ref o0)])) rfl (by rw [hml]; rfl) (Steps.refl _) (a := o0) (argsL := []) (rest := []) (lenOf pd_0 rfl) rfl (by show 2 * 0 + _ ≤ _; exact Nat.le_of_eq rfl) (hb hby d1_1) (fun _ _ => ⟨rfl, e0, (by decide : 0 + 0 ≤ _), (by decide : 0 + 0 ≤ _)⟩)
  dsimp only [Pt.U, Pt.locs, Pt.cells, Pt.slots] at X1 ql1 qy1 qz1 st1 hQ1
  subst ql1 qy1 qz1
  obtain ⟨rfl, N1q, e1⟩ := hQ1
  have N1 := Fr.app N0 N1q
  obtain ⟨T2, h2, X2, e2, W2, st2⟩ := putF X1 hx hZ hown (host := "") (Or.inl (hw _ (List.mem_of_getElem? (i := 14) rfl))) Via.refl e1 F_a0_o0 E_o0 (Or.inr ⟨(hw _ (List.mem_of_getElem? (i := 15) rfl)), rfl, hnm⟩) (hw _ (List.mem_of_getElem? (i := 1) rfl)) (ty := .double) (by decide) rfl rfl (g := (mkF m 6 #[.val (.ref o0), .val (.double d1), .second, .val (.double d2), .second, .val (.double d3), .second] [(.double d1), (.ref o0)])) rfl rfl (hb hby d1_6)
  have N2 := Fr.snoc X2 N1 g_o0
  have K3 : Keep h0 h2 [o0] := (Keep.refl h0 [o0]).wr W2 (Or.inl (by simp))
  have F2w := F_a0_o0.same W2
  have f4 := (E_o0.wr W2)
  have f5 := (F_a1_o0.other W2 (Or.inr (slot_ne (Or.inr (hw _ (List.mem_of_getElem? (i := 17) rfl))) (Or.inr (hw _ (List.mem_of_getElem? (i := 15) rfl))) (by decide) (t := .double) (t' := .double) (by decide) (by decide))))
  obtain ⟨T6, h6, X6, e6, W6, st6⟩ := putF X2 hx hZ hown (host := "") (Or.inl (hw _ (List.mem_of_getElem? (i := 16) rfl))) Via.refl e2 f5 f4 (Or.inr ⟨(hw _ (List.mem_of_getElem? (i := 17) rfl)), rfl, hnm⟩) (hw _ (List.mem_of_getElem? (i := 1) rfl)) (ty := .double) (by decide) rfl rfl (g := (mkF m 11 #[.val (.ref o0), .val (.double d1), .second, .val (.double d2), .second, .val (.double d3), .second] [(.double d2), (.ref o0)])) rfl rfl (hb hby d1_11)
  have N6 := Fr.snoc X6 N2 g_o0
  have K7 : Keep h0 h6 [o0] := K3.wr W6 (Or.inl (by simp))
  have F6w := f5.same W6
  have f8 := (f4.wr W6)
  have f9 := ((F_a2_o0.other W2 (Or.inr (slot_ne (Or.inr (hw _ (List.mem_of_getElem? (i := 19) rfl))) (Or.inr (hw _ (List.mem_of_getElem? (i := 15) rfl))) (by decide) (t := .double) (t' := .double) (by decide) (by decide)))).other W6 (Or.inr (slot_ne (Or.inr (hw _ (List.mem_of_getElem? (i := 19) rfl))) (Or.inr (hw _ (List.mem_of_getElem? (i := 17) rfl))) (by decide) (t := .double) (t' := .double) (by decide) (by decide))))
  obtain ⟨T10, h10, X10, e10, W10, st10⟩ := putF X6 hx hZ hown (host := "") (Or.inl (hw _ (List.mem_of_getElem? (i := 18) rfl))) Via.refl e6 f9 f8 (Or.inr ⟨(hw _ (List.mem_of_getElem? (i := 19) rfl)), rfl, hnm⟩) (hw _ (List.mem_of_getElem? (i := 1) rfl)) (ty := .double) (by decide) rfl rfl (g := (mkF m 17 #[.val (.ref o0), .val (.double d1), .second, .val (.double d2), .second, .val (.double d3), .second] [(.double d3), (.ref o0)])) rfl rfl (hb hby d1_17)
  have N10 := Fr.snoc X10 N6 g_o0
  have K11 : Keep h0 h10 [o0] := K7.wr W10 (Or.inl (by simp))
  have F10w := f9.same W10
  have c12 : ∀ t, Steps p.tables e below (T10.setTop (mkF m 20 #[.val (.ref o0), .val (.double d1), .second, .val (.double d2), .second, .val (.double d3), .second] [])) t → Steps p.tables e below (s₁.setTop (entryFrame m #[(.ref o0), (.double d1), (.double d2), (.double d3)] 7)) t := by
    intro t k
    refine c0 t ?_
    show Steps p.tables e below (s₁.setTop (mkF m 0 #[.val (.ref o0), .val (.double d1), .second, .val (.double d2), .second, .val (.double d3), .second] [])) _
    refine XS.aloadN X0.here hx rfl (hb hby d1_0) rfl rfl ?_
    show Steps p.tables e below (s₁.setTop (mkF m 1 #[.val (.ref o0), .val (.double d1), .second, .val (.double d2), .second, .val (.double d3), .second] [(.ref o0)])) _
    refine st1.trans ?_
    show Steps p.tables e below (T1.setTop (mkF m 4 #[.val (.ref o0), .val (.double d1), .second, .val (.double d2), .second, .val (.double d3), .second] [])) _
    refine XS.aloadN X1.here hx rfl (hb hby d1_4) rfl rfl ?_
    show Steps p.tables e below (T1.setTop (mkF m 5 #[.val (.ref o0), .val (.double d1), .second, .val (.double d2), .second, .val (.double d3), .second] [(.ref o0)])) _
    refine XS.dloadN X1.here hx rfl (hb hby d1_5) rfl ?_
    show Steps p.tables e below (T1.setTop (mkF m 6 #[.val (.ref o0), .val (.double d1), .second, .val (.double d2), .second, .val (.double d3), .second] [(.double d1), (.ref o0)])) _
    refine st2 _ ?_
    show Steps p.tables e below (T2.setTop (mkF m 9 #[.val (.ref o0), .val (.double d1), .second, .val (.double d2), .second, .val (.double d3), .second] [])) _
    refine XS.aloadN X2.here hx rfl (hb hby d1_9) rfl rfl ?_
    show Steps p.tables e below (T2.setTop (mkF m 10 #[.val (.ref o0), .val (.double d1), .second, .val (.double d2), .second, .val (.double d3), .second] [(.ref o0)])) _
    refine XS.dloadN X2.here hx rfl (hb hby d1_10) rfl ?_
    show Steps p.tables e below (T2.setTop (mkF m 11 #[.val (.ref o0), .val (.double d1), .second, .val (.double d2), .second, .val (.double d3), .second] [(.double d2), (.ref o0)])) _
    refine st6 _ ?_
    show Steps p.tables e below (T6.setTop (mkF m 14 #[.val (.ref o0), .val (.double d1), .second, .val (.double d2), .second, .val (.double d3), .second] [])) _
    refine XS.aloadN X6.here hx rfl (hb hby d1_14) rfl rfl ?_
    show Steps p.tables e below (T6.setTop (mkF m 15 #[.val (.ref o0), .val (.double d1), .second, .val (.double d2), .second, .val (.double d3), .second] [(.ref o0)])) _
    refine XS.dload X6.here hx rfl (hb hby d1_15) rfl ?_
    show Steps p.tables e below (T6.setTop (mkF m 17 #[.val (.ref o0), .val (.double d1), .second, .val (.double d2), .second, .val (.double d3), .second] [(.double d3), (.ref o0)])) _
    refine st10 _ ?_
    exact k
  obtain ⟨fs, hr, hrun, hended, hW, hsame⟩ := X10.leave (v := none) (fun _ => rfl)
  refine ⟨_, _, c12 _ ?_, hrun, hended, _, _, rfl, ?_, ⟨_, rfl⟩, hW, hsame.mono (by decide) (by decide)⟩
  · show Steps p.tables e below (T10.setTop (mkF m 20 #[.val (.ref o0), .val (.double d1), .second, .val (.double d2), .second, .val (.double d3), .second] [])) _
    exact X10.returnOut hx Bd.returns (hb hby d1_20) hr
  · show Q1 Z o0 d1 d2 d3 u_a0_o0 u_a1_o0 u_a2_o0  h0 n0 _ T10.heap _
    rw [e10]
    exact ⟨rfl, N10, K11, (f8.wr W10), ((F2w.other W6 (Or.inr (slot_ne (Or.inr (hw _ (List.mem_of_getElem? (i := 15) rfl))) (Or.inr (hw _ (List.mem_of_getElem? (i := 17) rfl))) (by decide) (t := .double) (t' := .double) (by decide) (by decide)))).other W10 (Or.inr (slot_ne (Or.inr (hw _ (List.mem_of_getElem? (i := 15) rfl))) (Or.inr (hw _ (List.mem_of_getElem? (i := 19) rfl))) (by decide) (t := .double) (t' := .double) (by decide) (by decide)))), (F6w.other W10 (Or.inr (slot_ne (Or.inr (hw _ (List.mem_of_getElem? (i := 17) rfl))) (Or.inr (hw _ (List.mem_of_getElem? (i := 19) rfl))) (by decide) (t := .double) (t' := .double) (by decide) (by decide)))), F10w⟩
def Q4 (Z : State) (o0 : Addr) (d1 : UInt64) (w_a1_o0 : UInt64) (w_a2_o0 : UInt64) (z11 : UInt64) (z13 : UInt64) (z14 : UInt64) (h0 : Heap) (n0 : Nat) (v : Option Value) (h : Heap) (L : List Loc) : Prop := v = some (.double z14) ∧ Fr n0 L ∧ h = h0
set_option maxRecDepth 65536 in
set_option maxHeartbeats 40000000 in
theorem rm4 (l : Launch) (Z : State) (a0 : Array Value) (hw : ∀ d ∈ tables_1, d.before a0 Z = true) (ws : List Jvm.Cond) (o0 : Addr) (d1 : UInt64) (w_a1_o0 : UInt64) (w_a2_o0 : UInt64) (z11 : UInt64) (z13 : UInt64) (z14 : UInt64) (h0 : Heap) (n0 : Nat) (Z0 : n0 ≤ h0.size) (F_a1_o0 : Fld Z h0 o0 "com/example/bindwire/bindwire/model/OffloadCurve" "a1" "D" (.double w_a1_o0)) (F_a2_o0 : Fld Z h0 o0 "com/example/bindwire/bindwire/model/OffloadCurve" "a2" "D" (.double w_a2_o0)) (hz11 : FP.dmul (4611686018427387904 : UInt64) w_a2_o0 = z11) (hz13 : FP.dmul z11 d1 = z13) (hz14 : FP.dadd w_a1_o0 z13 = z14) (nn11 : Jvm.Free.Fl.NoNaN64 z11) (nn13 : Jvm.Free.Fl.NoNaN64 z13) (nn14 : Jvm.Free.Fl.NoNaN64 z14) :
    MetFree l (⟨"com/example/bindwire/bindwire/model/OffloadCurve", "gradient", "(D)D"⟩ : MethodName) (head1 (Jvm.Cond.code (⟨"com/example/bindwire/bindwire/model/OffloadCurve", "gradient", "(D)D"⟩ : MethodName) prog_61_method_3_code 3 (some .double) :: ws) ({ frames := 0, cells := 0, slots := 0, locals := 0 } : Room)) (fun a U => a = #[(.ref o0), (.double d1)] ∧ Z.Warmed39 U.vm ∧ U.heap = h0) (fun _ _ _ _ _ => True) (fun _ U o U' => ∃ v L, o = .returned v ∧ Q4 Z o0 d1 w_a1_o0 w_a2_o0 z11 z13 z14 h0 n0 v U'.heap L ∧ FrameEnd U o U' L ({ frames := 0, cells := 0, slots := 0, locals := 0 } : Room).cells ({ frames := 0, cells := 0, slots := 0, locals := 0 } : Room).slots) := by
  refine MetFree.of_bodySF (plainFor_of_name pn_1) hisR ?_
  intro p e s m args below meth c s₁ Bd hml0 hP hK
  obtain ⟨rfl, hZ, hh⟩ := hP
  have hx := Bd.exec
  have hby := Bd.bytes
  have hml : c.maxLocals = 3 := hml0
  have hown : s.vm.findClass "com/example/bindwire/bindwire/model/OffloadCurve" = some m.cls := findClass_of_methodNamed Bd.named
  have hnm := (name_of_methodNamed Bd.named Bd.method).1
  have X0 : Stand p l e ({ frames := 0, cells := 0, slots := 0, locals := 0 } : Room) s m #[(.ref o0), (.double d1)] below meth c s₁ [] 0 0 := Stand.of_body Bd
  have e0 : s₁.heap = h0 := by rw [← hh, Bd.state]; rfl
  have N0 := Fr.nil n0
  have c0 : ∀ t, Steps p.tables e below (s₁.setTop (mkF m 0 #[.val (.ref o0), .val (.double d1), .second] [])) t → Steps p.tables e below (s₁.setTop (entryFrame m #[(.ref o0), (.double d1)] 3)) t := fun t k => castTop (ef_rm4 m o0 d1) k
  obtain ⟨T1, X1, e1, st1⟩ := getF X0 hx hZ hown (host := "") (Or.inl (hw _ (List.mem_of_getElem? (i := 16) rfl))) Via.refl e0 F_a1_o0 (g := (mkF m 1 #[.val (.ref o0), .val (.double d1), .second] [(.ref o0)])) rfl rfl (hb hby d4_1)
  obtain ⟨T2, X2, e2, st2⟩ := getF X1 hx hZ hown (host := "") (Or.inl (hw _ (List.mem_of_getElem? (i := 18) rfl))) Via.refl e1 F_a2_o0 (g := (mkF m 8 #[.val (.ref o0), .val (.double d1), .second] [(.ref o0), (.double (4611686018427387904 : UInt64)), (.double w_a1_o0)])) rfl rfl (hb hby d4_8)
  have c3 : ∀ t, Steps p.tables e below (T2.setTop (mkF m 15 #[.val (.ref o0), .val (.double d1), .second] [(.double z14)])) t → Steps p.tables e below (s₁.setTop (entryFrame m #[(.ref o0), (.double d1)] 3)) t := by
    intro t k
    refine c0 t ?_
    show Steps p.tables e below (s₁.setTop (mkF m 0 #[.val (.ref o0), .val (.double d1), .second] [])) _
    refine XS.aloadN X0.here hx rfl (hb hby d4_0) rfl rfl ?_
    show Steps p.tables e below (s₁.setTop (mkF m 1 #[.val (.ref o0), .val (.double d1), .second] [(.ref o0)])) _
    refine st1 _ ?_
    show Steps p.tables e below (T1.setTop (mkF m 4 #[.val (.ref o0), .val (.double d1), .second] [(.double w_a1_o0)])) _
    refine X1.ldc2DoubleC hx hown (mvT hZ (hw _ (List.mem_of_getElem? (i := 25) rfl))) (g := (mkF m 4 #[.val (.ref o0), .val (.double d1), .second] [(.double w_a1_o0)])) rfl (hb hby d4_4) _ ?_
    show Steps p.tables e below (T1.setTop (mkF m 7 #[.val (.ref o0), .val (.double d1), .second] [(.double (4611686018427387904 : UInt64)), (.double w_a1_o0)])) _
    refine XS.aloadN X1.here hx rfl (hb hby d4_7) rfl rfl ?_
    show Steps p.tables e below (T1.setTop (mkF m 8 #[.val (.ref o0), .val (.double d1), .second] [(.ref o0), (.double (4611686018427387904 : UInt64)), (.double w_a1_o0)])) _
    refine st2 _ ?_
    show Steps p.tables e below (T2.setTop (mkF m 11 #[.val (.ref o0), .val (.double d1), .second] [(.double w_a2_o0), (.double (4611686018427387904 : UInt64)), (.double w_a1_o0)])) _
    refine Jvm.OwnK.dmul X2.here hx rfl (hb hby d4_11) rfl hz11 nn11 ?_
    show Steps p.tables e below (T2.setTop (mkF m 12 #[.val (.ref o0), .val (.double d1), .second] [(.double z11), (.double w_a1_o0)])) _
    refine XS.dloadN X2.here hx rfl (hb hby d4_12) rfl ?_
    show Steps p.tables e below (T2.setTop (mkF m 13 #[.val (.ref o0), .val (.double d1), .second] [(.double d1), (.double z11), (.double w_a1_o0)])) _
    refine Jvm.OwnK.dmul X2.here hx rfl (hb hby d4_13) rfl hz13 nn13 ?_
    show Steps p.tables e below (T2.setTop (mkF m 14 #[.val (.ref o0), .val (.double d1), .second] [(.double z13), (.double w_a1_o0)])) _
    refine Jvm.OwnK.dadd X2.here hx rfl (hb hby d4_14) rfl hz14 nn14 ?_
    exact k
  obtain ⟨fs, hr, hrun, hended, hW, hsame⟩ := X2.leave (v := some (.double z14)) (fun h => by rw [Bd.returns] at h; cases h)
  refine ⟨_, _, c3 _ ?_, hrun, hended, _, _, rfl, ?_, ⟨_, rfl⟩, hW, hsame.mono (by decide) (by decide)⟩
  · show Steps p.tables e below (T2.setTop (mkF m 15 #[.val (.ref o0), .val (.double d1), .second] [(.double z14)])) _
    exact retOut X2 hx Bd.returns rfl (Or.inr (Or.inr (Or.inl ⟨rfl, rfl, _, rfl⟩))) (hb hby d4_15) hr
  · show Q4 Z o0 d1 w_a1_o0 w_a2_o0 z11 z13 z14 h0 n0 _ T2.heap _
    rw [e2]
    exact ⟨rfl, N0, rfl⟩
def Q5 (Z : State) (o0 : Addr) (d1 : UInt64) (w_a0_o0 : UInt64) (w_a1_o0 : UInt64) (w_a2_o0 : UInt64) (z9 : UInt64) (z10 : UInt64) (z16 : UInt64) (z18 : UInt64) (z19 : UInt64) (h0 : Heap) (n0 : Nat) (v : Option Value) (h : Heap) (L : List Loc) : Prop := v = some (.double z19) ∧ Fr n0 L ∧ h = h0
set_option maxRecDepth 65536 in
set_option maxHeartbeats 40000000 in
theorem rm5 (l : Launch) (Z : State) (a0 : Array Value) (hw : ∀ d ∈ tables_1, d.before a0 Z = true) (ws : List Jvm.Cond) (o0 : Addr) (d1 : UInt64) (w_a0_o0 : UInt64) (w_a1_o0 : UInt64) (w_a2_o0 : UInt64) (z9 : UInt64) (z10 : UInt64) (z16 : UInt64) (z18 : UInt64) (z19 : UInt64) (h0 : Heap) (n0 : Nat) (Z0 : n0 ≤ h0.size) (F_a0_o0 : Fld Z h0 o0 "com/example/bindwire/bindwire/model/OffloadCurve" "a0" "D" (.double w_a0_o0)) (F_a1_o0 : Fld Z h0 o0 "com/example/bindwire/bindwire/model/OffloadCurve" "a1" "D" (.double w_a1_o0)) (F_a2_o0 : Fld Z h0 o0 "com/example/bindwire/bindwire/model/OffloadCurve" "a2" "D" (.double w_a2_o0)) (hz9 : FP.dmul w_a1_o0 d1 = z9) (hz10 : FP.dadd w_a0_o0 z9 = z10) (hz16 : FP.dmul w_a2_o0 d1 = z16) (hz18 : FP.dmul z16 d1 = z18) (hz19 : FP.dadd z10 z18 = z19) (nn9 : Jvm.Free.Fl.NoNaN64 z9) (nn10 : Jvm.Free.Fl.NoNaN64 z10) (nn16 : Jvm.Free.Fl.NoNaN64 z16) (nn18 : Jvm.Free.Fl.NoNaN64 z18) (nn19 : Jvm.Free.Fl.NoNaN64 z19) :
    MetFree l (⟨"com/example/bindwire/bindwire/model/OffloadCurve", "limit", "(D)D"⟩ : MethodName) (head1 (Jvm.Cond.code (⟨"com/example/bindwire/bindwire/model/OffloadCurve", "limit", "(D)D"⟩ : MethodName) prog_61_method_2_code 3 (some .double) :: ws) ({ frames := 0, cells := 0, slots := 0, locals := 0 } : Room)) (fun a U => a = #[(.ref o0), (.double d1)] ∧ Z.Warmed39 U.vm ∧ U.heap = h0) (fun _ _ _ _ _ => True) (fun _ U o U' => ∃ v L, o = .returned v ∧ Q5 Z o0 d1 w_a0_o0 w_a1_o0 w_a2_o0 z9 z10 z16 z18 z19 h0 n0 v U'.heap L ∧ FrameEnd U o U' L ({ frames := 0, cells := 0, slots := 0, locals := 0 } : Room).cells ({ frames := 0, cells := 0, slots := 0, locals := 0 } : Room).slots) := by
  refine MetFree.of_bodySF (plainFor_of_name pn_1) hisR ?_
  intro p e s m args below meth c s₁ Bd hml0 hP hK
  obtain ⟨rfl, hZ, hh⟩ := hP
  have hx := Bd.exec
  have hby := Bd.bytes
  have hml : c.maxLocals = 3 := hml0
  have hown : s.vm.findClass "com/example/bindwire/bindwire/model/OffloadCurve" = some m.cls := findClass_of_methodNamed Bd.named
  have hnm := (name_of_methodNamed Bd.named Bd.method).1
  have X0 : Stand p l e ({ frames := 0, cells := 0, slots := 0, locals := 0 } : Room) s m #[(.ref o0), (.double d1)] below meth c s₁ [] 0 0 := Stand.of_body Bd
  have e0 : s₁.heap = h0 := by rw [← hh, Bd.state]; rfl
  have N0 := Fr.nil n0
  have c0 : ∀ t, Steps p.tables e below (s₁.setTop (mkF m 0 #[.val (.ref o0), .val (.double d1), .second] [])) t → Steps p.tables e below (s₁.setTop (entryFrame m #[(.ref o0), (.double d1)] 3)) t := fun t k => castTop (ef_rm5 m o0 d1) k
  obtain ⟨T1, X1, e1, st1⟩ := getF X0 hx hZ hown (host := "") (Or.inl (hw _ (List.mem_of_getElem? (i := 14) rfl))) Via.refl e0 F_a0_o0 (g := (mkF m 1 #[.val (.ref o0), .val (.double d1), .second] [(.ref o0)])) rfl rfl (hb hby d5_1)
  obtain ⟨T2, X2, e2, st2⟩ := getF X1 hx hZ hown (host := "") (Or.inl (hw _ (List.mem_of_getElem? (i := 16) rfl))) Via.refl e1 F_a1_o0 (g := (mkF m 5 #[.val (.ref o0), .val (.double d1), .second] [(.ref o0), (.double w_a0_o0)])) rfl rfl (hb hby d5_5)
  obtain ⟨T3, X3, e3, st3⟩ := getF X2 hx hZ hown (host := "") (Or.inl (hw _ (List.mem_of_getElem? (i := 18) rfl))) Via.refl e2 F_a2_o0 (g := (mkF m 12 #[.val (.ref o0), .val (.double d1), .second] [(.ref o0), (.double z10)])) rfl rfl (hb hby d5_12)
  have c4 : ∀ t, Steps p.tables e below (T3.setTop (mkF m 20 #[.val (.ref o0), .val (.double d1), .second] [(.double z19)])) t → Steps p.tables e below (s₁.setTop (entryFrame m #[(.ref o0), (.double d1)] 3)) t := by
    intro t k
    refine c0 t ?_
    show Steps p.tables e below (s₁.setTop (mkF m 0 #[.val (.ref o0), .val (.double d1), .second] [])) _
    refine XS.aloadN X0.here hx rfl (hb hby d5_0) rfl rfl ?_
    show Steps p.tables e below (s₁.setTop (mkF m 1 #[.val (.ref o0), .val (.double d1), .second] [(.ref o0)])) _
    refine st1 _ ?_
    show Steps p.tables e below (T1.setTop (mkF m 4 #[.val (.ref o0), .val (.double d1), .second] [(.double w_a0_o0)])) _
    refine XS.aloadN X1.here hx rfl (hb hby d5_4) rfl rfl ?_
    show Steps p.tables e below (T1.setTop (mkF m 5 #[.val (.ref o0), .val (.double d1), .second] [(.ref o0), (.double w_a0_o0)])) _
    refine st2 _ ?_
    show Steps p.tables e below (T2.setTop (mkF m 8 #[.val (.ref o0), .val (.double d1), .second] [(.double w_a1_o0), (.double w_a0_o0)])) _
    refine XS.dloadN X2.here hx rfl (hb hby d5_8) rfl ?_
    show Steps p.tables e below (T2.setTop (mkF m 9 #[.val (.ref o0), .val (.double d1), .second] [(.double d1), (.double w_a1_o0), (.double w_a0_o0)])) _
    refine Jvm.OwnK.dmul X2.here hx rfl (hb hby d5_9) rfl hz9 nn9 ?_
    show Steps p.tables e below (T2.setTop (mkF m 10 #[.val (.ref o0), .val (.double d1), .second] [(.double z9), (.double w_a0_o0)])) _
    refine Jvm.OwnK.dadd X2.here hx rfl (hb hby d5_10) rfl hz10 nn10 ?_
    show Steps p.tables e below (T2.setTop (mkF m 11 #[.val (.ref o0), .val (.double d1), .second] [(.double z10)])) _
    refine XS.aloadN X2.here hx rfl (hb hby d5_11) rfl rfl ?_
    show Steps p.tables e below (T2.setTop (mkF m 12 #[.val (.ref o0), .val (.double d1), .second] [(.ref o0), (.double z10)])) _
    refine st3 _ ?_
    show Steps p.tables e below (T3.setTop (mkF m 15 #[.val (.ref o0), .val (.double d1), .second] [(.double w_a2_o0), (.double z10)])) _
    refine XS.dloadN X3.here hx rfl (hb hby d5_15) rfl ?_
    show Steps p.tables e below (T3.setTop (mkF m 16 #[.val (.ref o0), .val (.double d1), .second] [(.double d1), (.double w_a2_o0), (.double z10)])) _
    refine Jvm.OwnK.dmul X3.here hx rfl (hb hby d5_16) rfl hz16 nn16 ?_
    show Steps p.tables e below (T3.setTop (mkF m 17 #[.val (.ref o0), .val (.double d1), .second] [(.double z16), (.double z10)])) _
    refine XS.dloadN X3.here hx rfl (hb hby d5_17) rfl ?_
    show Steps p.tables e below (T3.setTop (mkF m 18 #[.val (.ref o0), .val (.double d1), .second] [(.double d1), (.double z16), (.double z10)])) _
    refine Jvm.OwnK.dmul X3.here hx rfl (hb hby d5_18) rfl hz18 nn18 ?_
    show Steps p.tables e below (T3.setTop (mkF m 19 #[.val (.ref o0), .val (.double d1), .second] [(.double z18), (.double z10)])) _
    refine Jvm.OwnK.dadd X3.here hx rfl (hb hby d5_19) rfl hz19 nn19 ?_
    exact k
  obtain ⟨fs, hr, hrun, hended, hW, hsame⟩ := X3.leave (v := some (.double z19)) (fun h => by rw [Bd.returns] at h; cases h)
  refine ⟨_, _, c4 _ ?_, hrun, hended, _, _, rfl, ?_, ⟨_, rfl⟩, hW, hsame.mono (by decide) (by decide)⟩
  · show Steps p.tables e below (T3.setTop (mkF m 20 #[.val (.ref o0), .val (.double d1), .second] [(.double z19)])) _
    exact retOut X3 hx Bd.returns rfl (Or.inr (Or.inr (Or.inl ⟨rfl, rfl, _, rfl⟩))) (hb hby d5_20) hr
  · show Q5 Z o0 d1 w_a0_o0 w_a1_o0 w_a2_o0 z9 z10 z16 z18 z19 h0 n0 _ T3.heap _
    rw [e3]
    exact ⟨rfl, N0, rfl⟩
def Q6 (Z : State) (o0 : Addr) (d1 : UInt64) (w_a0_o0 : UInt64) (w_a2_o0 : UInt64) (z9 : UInt64) (z11 : UInt64) (z12 : UInt64) (h0 : Heap) (n0 : Nat) (v : Option Value) (h : Heap) (L : List Loc) : Prop := v = some (.double z12) ∧ Fr n0 L ∧ h = h0
set_option maxRecDepth 65536 in
set_option maxHeartbeats 40000000 in
theorem rm6 (l : Launch) (Z : State) (a0 : Array Value) (hw : ∀ d ∈ tables_1, d.before a0 Z = true) (ws : List Jvm.Cond) (o0 : Addr) (d1 : UInt64) (w_a0_o0 : UInt64) (w_a2_o0 : UInt64) (z9 : UInt64) (z11 : UInt64) (z12 : UInt64) (h0 : Heap) (n0 : Nat) (Z0 : n0 ≤ h0.size) (F_a0_o0 : Fld Z h0 o0 "com/example/bindwire/bindwire/model/OffloadCurve" "a0" "D" (.double w_a0_o0)) (F_a2_o0 : Fld Z h0 o0 "com/example/bindwire/bindwire/model/OffloadCurve" "a2" "D" (.double w_a2_o0)) (hz9 : FP.dmul w_a2_o0 d1 = z9) (hz11 : FP.dmul z9 d1 = z11) (hz12 : FP.dsub w_a0_o0 z11 = z12) (nn9 : Jvm.Free.Fl.NoNaN64 z9) (nn11 : Jvm.Free.Fl.NoNaN64 z11) (nn12 : Jvm.Free.Fl.NoNaN64 z12) :
    MetFree l (⟨"com/example/bindwire/bindwire/model/OffloadCurve", "intercept", "(D)D"⟩ : MethodName) (head1 (Jvm.Cond.code (⟨"com/example/bindwire/bindwire/model/OffloadCurve", "intercept", "(D)D"⟩ : MethodName) prog_61_method_4_code 3 (some .double) :: ws) ({ frames := 0, cells := 0, slots := 0, locals := 0 } : Room)) (fun a U => a = #[(.ref o0), (.double d1)] ∧ Z.Warmed39 U.vm ∧ U.heap = h0) (fun _ _ _ _ _ => True) (fun _ U o U' => ∃ v L, o = .returned v ∧ Q6 Z o0 d1 w_a0_o0 w_a2_o0 z9 z11 z12 h0 n0 v U'.heap L ∧ FrameEnd U o U' L ({ frames := 0, cells := 0, slots := 0, locals := 0 } : Room).cells ({ frames := 0, cells := 0, slots := 0, locals := 0 } : Room).slots) := by
  refine MetFree.of_bodySF (plainFor_of_name pn_1) hisR ?_
  intro p e s m args below meth c s₁ Bd hml0 hP hK
  obtain ⟨rfl, hZ, hh⟩ := hP
  have hx := Bd.exec
  have hby := Bd.bytes
  have hml : c.maxLocals = 3 := hml0
  have hown : s.vm.findClass "com/example/bindwire/bindwire/model/OffloadCurve" = some m.cls := findClass_of_methodNamed Bd.named
  have hnm := (name_of_methodNamed Bd.named Bd.method).1
  have X0 : Stand p l e ({ frames := 0, cells := 0, slots := 0, locals := 0 } : Room) s m #[(.ref o0), (.double d1)] below meth c s₁ [] 0 0 := Stand.of_body Bd
  have e0 : s₁.heap = h0 := by rw [← hh, Bd.state]; rfl
  have N0 := Fr.nil n0
  have c0 : ∀ t, Steps p.tables e below (s₁.setTop (mkF m 0 #[.val (.ref o0), .val (.double d1), .second] [])) t → Steps p.tables e below (s₁.setTop (entryFrame m #[(.ref o0), (.double d1)] 3)) t := fun t k => castTop (ef_rm6 m o0 d1) k
  obtain ⟨T1, X1, e1, st1⟩ := getF X0 hx hZ hown (host := "") (Or.inl (hw _ (List.mem_of_getElem? (i := 14) rfl))) Via.refl e0 F_a0_o0 (g := (mkF m 1 #[.val (.ref o0), .val (.double d1), .second] [(.ref o0)])) rfl rfl (hb hby d6_1)
  obtain ⟨T2, X2, e2, st2⟩ := getF X1 hx hZ hown (host := "") (Or.inl (hw _ (List.mem_of_getElem? (i := 18) rfl))) Via.refl e1 F_a2_o0 (g := (mkF m 5 #[.val (.ref o0), .val (.double d1), .second] [(.ref o0), (.double w_a0_o0)])) rfl rfl (hb hby d6_5)
  have c3 : ∀ t, Steps p.tables e below (T2.setTop (mkF m 13 #[.val (.ref o0), .val (.double d1), .second] [(.double z12)])) t → Steps p.tables e below (s₁.setTop (entryFrame m #[(.ref o0), (.double d1)] 3)) t := by
    intro t k
    refine c0 t ?_
    show Steps p.tables e below (s₁.setTop (mkF m 0 #[.val (.ref o0), .val (.double d1), .second] [])) _
    refine XS.aloadN X0.here hx rfl (hb hby d6_0) rfl rfl ?_
    show Steps p.tables e below (s₁.setTop (mkF m 1 #[.val (.ref o0), .val (.double d1), .second] [(.ref o0)])) _
    refine st1 _ ?_
    show Steps p.tables e below (T1.setTop (mkF m 4 #[.val (.ref o0), .val (.double d1), .second] [(.double w_a0_o0)])) _
    refine XS.aloadN X1.here hx rfl (hb hby d6_4) rfl rfl ?_
    show Steps p.tables e below (T1.setTop (mkF m 5 #[.val (.ref o0), .val (.double d1), .second] [(.ref o0), (.double w_a0_o0)])) _
    refine st2 _ ?_
    show Steps p.tables e below (T2.setTop (mkF m 8 #[.val (.ref o0), .val (.double d1), .second] [(.double w_a2_o0), (.double w_a0_o0)])) _
    refine XS.dloadN X2.here hx rfl (hb hby d6_8) rfl ?_
    show Steps p.tables e below (T2.setTop (mkF m 9 #[.val (.ref o0), .val (.double d1), .second] [(.double d1), (.double w_a2_o0), (.double w_a0_o0)])) _
    refine Jvm.OwnK.dmul X2.here hx rfl (hb hby d6_9) rfl hz9 nn9 ?_
    show Steps p.tables e below (T2.setTop (mkF m 10 #[.val (.ref o0), .val (.double d1), .second] [(.double z9), (.double w_a0_o0)])) _
    refine XS.dloadN X2.here hx rfl (hb hby d6_10) rfl ?_
    show Steps p.tables e below (T2.setTop (mkF m 11 #[.val (.ref o0), .val (.double d1), .second] [(.double d1), (.double z9), (.double w_a0_o0)])) _
    refine Jvm.OwnK.dmul X2.here hx rfl (hb hby d6_11) rfl hz11 nn11 ?_
    show Steps p.tables e below (T2.setTop (mkF m 12 #[.val (.ref o0), .val (.double d1), .second] [(.double z11), (.double w_a0_o0)])) _
    refine Jvm.OwnK.dsub X2.here hx rfl (hb hby d6_12) rfl hz12 nn12 ?_
    exact k
  obtain ⟨fs, hr, hrun, hended, hW, hsame⟩ := X2.leave (v := some (.double z12)) (fun h => by rw [Bd.returns] at h; cases h)
  refine ⟨_, _, c3 _ ?_, hrun, hended, _, _, rfl, ?_, ⟨_, rfl⟩, hW, hsame.mono (by decide) (by decide)⟩
  · show Steps p.tables e below (T2.setTop (mkF m 13 #[.val (.ref o0), .val (.double d1), .second] [(.double z12)])) _
    exact retOut X2 hx Bd.returns rfl (Or.inr (Or.inr (Or.inl ⟨rfl, rfl, _, rfl⟩))) (hb hby d6_13) hr
  · show Q6 Z o0 d1 w_a0_o0 w_a2_o0 z9 z11 z12 h0 n0 _ T2.heap _
    rw [e2]
    exact ⟨rfl, N0, rfl⟩
def Q0 (n0 : Nat) (v : Option Value) (h : Heap) (L : List Loc) : Prop := v = some (.int 1) ∧ Fr n0 L
set_option maxRecDepth 65536 in
set_option maxHeartbeats 40000000 in
theorem rm0 (l : Launch) (Z : State) (a0 : Array Value) (hw : ∀ d ∈ tables_1, d.before a0 Z = true) (ws : List Jvm.Cond) (p0 : Int32) (p1 : Int32) (p2 : Int32) (p3 : Int32)  (h0 : Heap) (n0 : Nat) (Z0 : n0 ≤ h0.size)  :
    MetFree l x (head1 (Jvm.Cond.code x code maxLocals ret :: ws) room_1) (fun a U => a = #[(.int p0), (.int p1), (.int p2), (.int p3)] ∧ Z.Warmed39 U.vm ∧ U.heap = h0) (fun _ _ _ _ _ => True) (fun _ U o U' => ∃ v L, o = .returned v ∧ Q0 n0 v U'.heap L ∧ FrameEnd U o U' L room_1.cells room_1.slots) := by
  refine MetFree.of_bodySF (plainFor_of_name pn_2) hisR ?_
  intro p e s m args below meth c s₁ Bd hml0 hP hK
  obtain ⟨rfl, hZ, hh⟩ := hP
  have hx := Bd.exec
  have hby := Bd.bytes
  have hml : c.maxLocals = 24 := hml0
  have hown : s.vm.findClass "com/example/bindwire/bindwire/model/OffloadCurveGradientPinLaw" = some m.cls := findClass_of_methodNamed Bd.named
  have hnm := (name_of_methodNamed Bd.named Bd.method).1
  have X0 : Stand p l e room_1 s m #[(.int p0), (.int p1), (.int p2), (.int p3)] below meth c s₁ [] 0 0 := Stand.of_body Bd
  have e0 : s₁.heap = h0 := by rw [← hh, Bd.state]; rfl
  have N0 := Fr.nil n0
  have c0 : ∀ t, Steps p.tables e below (s₁.setTop (mkF m 0 #[.val (.int p0), .val (.int p1), .val (.int p2), .val (.int p3), .unset, .unset, .unset, .unset, .unset, .unset, .unset, .unset, .unset, .unset, .unset, .unset, .unset, .unset, .unset, .unset, .unset, .unset, .unset, .unset] [])) t → Steps p.tables e below (s₁.setTop (entryFrame m #[(.int p0), (.int p1), (.int p2), (.int p3)] maxLocals)) t := fun t k => castTop (ef_rm0 m p0 p1 p2 p3) k
  obtain ⟨z1, hz1⟩ : ∃ z : Int32, p0.toInt16.toInt32 = z := ⟨_, rfl⟩
  obtain ⟨z2, hz2⟩ : ∃ z : UInt64, FP.i2d z1 = z := ⟨_, rfl⟩
  obtain ⟨z6, hz6⟩ : ∃ z : Int32, p1.toInt16.toInt32 = z := ⟨_, rfl⟩
  obtain ⟨z7, hz7⟩ : ∃ z : UInt64, FP.i2d z6 = z := ⟨_, rfl⟩
  obtain ⟨z11, hz11⟩ : ∃ z : Int32, p2.toInt16.toInt32 = z := ⟨_, rfl⟩
  obtain ⟨z12, hz12⟩ : ∃ z : UInt64, FP.i2d z11 = z := ⟨_, rfl⟩
  obtain ⟨z18, hz18⟩ : ∃ z : Int32, p3 <<< ((20 : Int32) &&& 31) = z := ⟨_, rfl⟩
  obtain ⟨z21, hz21⟩ : ∃ z : Int32, z18 >>> ((20 : Int32) &&& 31) = z := ⟨_, rfl⟩
  obtain ⟨z26, hz26⟩ : ∃ z : UInt64, FP.i2d z21 = z := ⟨_, rfl⟩
  obtain ⟨z32, hz32⟩ : ∃ z : Int32, z21 + (1 : Int32) = z := ⟨_, rfl⟩
  obtain ⟨z33, hz33⟩ : ∃ z : UInt64, FP.i2d z32 = z := ⟨_, rfl⟩
  obtain ⟨z39, hz39⟩ : ∃ z : Int32, z21 - (1 : Int32) = z := ⟨_, rfl⟩
  obtain ⟨z40, hz40⟩ : ∃ z : UInt64, FP.i2d z39 = z := ⟨_, rfl⟩
  obtain ⟨c62_z11, hc62_z11⟩ : ∃ z : UInt64, FP.dmul (4611686018427387904 : UInt64) z12 = z := ⟨_, rfl⟩
  obtain ⟨c62_z13, hc62_z13⟩ : ∃ z : UInt64, FP.dmul c62_z11 z26 = z := ⟨_, rfl⟩
  obtain ⟨c62_z14, hc62_z14⟩ : ∃ z : UInt64, FP.dadd z7 c62_z13 = z := ⟨_, rfl⟩
  obtain ⟨c71_z9, hc71_z9⟩ : ∃ z : UInt64, FP.dmul z7 z33 = z := ⟨_, rfl⟩
  obtain ⟨c71_z10, hc71_z10⟩ : ∃ z : UInt64, FP.dadd z2 c71_z9 = z := ⟨_, rfl⟩
  obtain ⟨c71_z16, hc71_z16⟩ : ∃ z : UInt64, FP.dmul z12 z33 = z := ⟨_, rfl⟩
  obtain ⟨c71_z18, hc71_z18⟩ : ∃ z : UInt64, FP.dmul c71_z16 z33 = z := ⟨_, rfl⟩
  obtain ⟨c71_z19, hc71_z19⟩ : ∃ z : UInt64, FP.dadd c71_z10 c71_z18 = z := ⟨_, rfl⟩
  obtain ⟨c78_z9, hc78_z9⟩ : ∃ z : UInt64, FP.dmul z7 z40 = z := ⟨_, rfl⟩
  obtain ⟨c78_z10, hc78_z10⟩ : ∃ z : UInt64, FP.dadd z2 c78_z9 = z := ⟨_, rfl⟩
  obtain ⟨c78_z16, hc78_z16⟩ : ∃ z : UInt64, FP.dmul z12 z40 = z := ⟨_, rfl⟩
  obtain ⟨c78_z18, hc78_z18⟩ : ∃ z : UInt64, FP.dmul c78_z16 z40 = z := ⟨_, rfl⟩
  obtain ⟨c78_z19, hc78_z19⟩ : ∃ z : UInt64, FP.dadd c78_z10 c78_z18 = z := ⟨_, rfl⟩
  obtain ⟨z81, hz81⟩ : ∃ z : UInt64, FP.dsub c71_z19 c78_z19 = z := ⟨_, rfl⟩
  obtain ⟨z91, hz91⟩ : ∃ z : UInt64, FP.dmul (4611686018427387904 : UInt64) c62_z14 = z := ⟨_, rfl⟩
  obtain ⟨z92, hz92⟩ : ∃ z : Int32, cmpValue (FP.dcmp z81 z91) .l = z := ⟨_, rfl⟩
  obtain ⟨c107_z9, hc107_z9⟩ : ∃ z : UInt64, FP.dmul z7 z26 = z := ⟨_, rfl⟩
  obtain ⟨c107_z10, hc107_z10⟩ : ∃ z : UInt64, FP.dadd z2 c107_z9 = z := ⟨_, rfl⟩
  obtain ⟨c107_z16, hc107_z16⟩ : ∃ z : UInt64, FP.dmul z12 z26 = z := ⟨_, rfl⟩
  obtain ⟨c107_z18, hc107_z18⟩ : ∃ z : UInt64, FP.dmul c107_z16 z26 = z := ⟨_, rfl⟩
  obtain ⟨c107_z19, hc107_z19⟩ : ∃ z : UInt64, FP.dadd c107_z10 c107_z18 = z := ⟨_, rfl⟩
  obtain ⟨c114_z9, hc114_z9⟩ : ∃ z : UInt64, FP.dmul z12 z26 = z := ⟨_, rfl⟩
  obtain ⟨c114_z11, hc114_z11⟩ : ∃ z : UInt64, FP.dmul c114_z9 z26 = z := ⟨_, rfl⟩
  obtain ⟨c114_z12, hc114_z12⟩ : ∃ z : UInt64, FP.dsub z2 c114_z11 = z := ⟨_, rfl⟩
  obtain ⟨z121, hz121⟩ : ∃ z : UInt64, FP.dmul c62_z14 z26 = z := ⟨_, rfl⟩
  obtain ⟨z122, hz122⟩ : ∃ z : UInt64, FP.dadd c114_z12 z121 = z := ⟨_, rfl⟩
  obtain ⟨z123, hz123⟩ : ∃ z : Int32, cmpValue (FP.dcmp c107_z19 z122) .l = z := ⟨_, rfl⟩
  have b0 : z1.toInt.natAbs ≤ 32768 := by have := Jvm.OwnF.i2s_b hz1; omega
  have b1 : z6.toInt.natAbs ≤ 32768 := by have := Jvm.OwnF.i2s_b hz6; omega
  have b2 : z11.toInt.natAbs ≤ 32768 := by have := Jvm.OwnF.i2s_b hz11; omega
  have bi := ii_b hz18 hz21
  have i32 := Jvm.OwnF.iadd_v hz32 (by rw [show (1 : Int32).toInt = 1 by decide]; omega)
  have i39 := Jvm.OwnF.isub_v hz39 (by rw [show (1 : Int32).toInt = 1 by decide]; omega)
  rw [show (1 : Int32).toInt = 1 by decide] at i32 i39
  have d0 : Jvm.OwnF.DV z1.toInt 0 z2 := hz2 ▸ Jvm.OwnF.DV_i2d z1
  have d1 : Jvm.OwnF.DV z6.toInt 0 z7 := hz7 ▸ Jvm.OwnF.DV_i2d z6
  have d2 : Jvm.OwnF.DV z11.toInt 0 z12 := hz12 ▸ Jvm.OwnF.DV_i2d z11
  have di : Jvm.OwnF.DV z21.toInt 0 z26 := hz26 ▸ Jvm.OwnF.DV_i2d z21
  have dp : Jvm.OwnF.DV (z21.toInt + 1) 0 z33 := hz33 ▸ (Jvm.OwnF.DV_i2d z32).of_eq i32
  have dm : Jvm.OwnF.DV (z21.toInt - 1) 0 z40 := hz40 ▸ (Jvm.OwnF.DV_i2d z39).of_eq i39
  obtain ⟨c62_nn11, c62_nn13, c62_nn14, dg, bg⟩ := grad b1 b2 (show z21.toInt.natAbs ≤ 2048 by omega) d1 d2 di hc62_z11 hc62_z13 hc62_z14
  obtain ⟨c71_nn9, c71_nn10, c71_nn16, c71_nn18, c71_nn19, L71, M71⟩ := lim b0 b1 b2 (show (z21.toInt + 1).natAbs ≤ 2049 by omega) d0 d1 d2 dp hc71_z9 hc71_z10 hc71_z16 hc71_z18 hc71_z19
  obtain ⟨c78_nn9, c78_nn10, c78_nn16, c78_nn18, c78_nn19, L78, M78⟩ := lim b0 b1 b2 (show (z21.toInt - 1).natAbs ≤ 2049 by omega) d0 d1 d2 dm hc78_z9 hc78_z10 hc78_z16 hc78_z18 hc78_z19
  obtain ⟨c107_nn9, c107_nn10, c107_nn16, c107_nn18, c107_nn19, L107, M107⟩ := lim b0 b1 b2 (show z21.toInt.natAbs ≤ 2049 by omega) d0 d1 d2 di hc107_z9 hc107_z10 hc107_z16 hc107_z18 hc107_z19
  obtain ⟨c114_nn9, c114_nn11, c114_nn12, dc, bc⟩ := icep b0 b2 (show z21.toInt.natAbs ≤ 2048 by omega) d0 d2 di hc114_z9 hc114_z11 hc114_z12
  obtain ⟨nn81, nn91, E1⟩ := fin1 L71 L78 dg bg hz81 hz91
  obtain ⟨nn121, nn122, E2⟩ := fin2 (show z21.toInt.natAbs ≤ 2048 by omega) L107 M107 dc dg bg di hz121 hz122
  have br93 : z92 = 0 := hz92.symm.trans E1
  have br124 : z123 = 0 := hz123.symm.trans E2
  obtain ⟨T1, h1, X1, e1, E1, A1, D1, -, st1⟩ := newO X0 hx hZ hown (hw _ (List.mem_of_getElem? (i := 0) rfl)) (hw _ (List.mem_of_getElem? (i := 1) rfl)) (hw _ (List.mem_of_getElem? (i := 2) rfl)) e0 (g := (mkF m 43 #[.val (.int p0), .val (.int p1), .val (.int p2), .val (.int p3), .val (.double z2), .second, .val (.double z7), .second, .val (.double z12), .second, .val (.int z21), .val (.double z26), .second, .val (.double z33), .second, .val (.double z40), .second, .unset, .unset, .unset, .unset, .unset, .unset, .unset] [])) rfl (hb hby at_43) (by decide) (by decide)
  obtain ⟨b1, g1⟩ : ∃ z, z = h0.size := ⟨_, rfl⟩
  rw [← g1] at A1 D1 st1
  have gn1 : n0 ≤ b1 := Nat.le_trans Z0 (Nat.le_of_eq g1.symm)
  have gz1 : h0.size ≤ b1 := Nat.le_trans ((Keep.refl h0 [])).1 (Nat.le_of_eq g1.symm)
  have K2 : Keep h0 h1 [] := (Keep.refl h0 []).ext E1
  have F1_a0 : Fld Z h1 b1 "com/example/bindwire/bindwire/model/OffloadCurve" "a0" "D" (.double (0 : UInt64)) := D1 (Or.inr (hw _ (List.mem_of_getElem? (i := 15) rfl))) (ty := .double) (by decide)
  have F1_a1 : Fld Z h1 b1 "com/example/bindwire/bindwire/model/OffloadCurve" "a1" "D" (.double (0 : UInt64)) := D1 (Or.inr (hw _ (List.mem_of_getElem? (i := 17) rfl))) (ty := .double) (by decide)
  have F1_a2 : Fld Z h1 b1 "com/example/bindwire/bindwire/model/OffloadCurve" "a2" "D" (.double (0 : UInt64)) := D1 (Or.inr (hw _ (List.mem_of_getElem? (i := 19) rfl))) (ty := .double) (by decide)
  obtain ⟨_, _, ⟨T3, L3, k3, n3⟩, -, X3, ⟨Lc3, hQ3, ql3, qy3, qz3⟩, st3⟩ := X1.specialBack hx (y := (⟨"com/example/bindwire/bindwire/model/OffloadCurve", "<init>", "(DDD)V"⟩ : MethodName)) rfl hown (mvT hZ (hw _ (List.mem_of_getElem? (i := 3) rfl))) (mvT hZ (hw _ (List.mem_of_getElem? (i := 4) rfl))) (mvT hZ (hw _ (List.mem_of_getElem? (i := 5) rfl))) (by decide) (backOf (W := 1) (rm1 l Z a0 hw [] b1 z2 z7 z12 ((.double (0 : UInt64))) ((.double (0 : UInt64))) ((.double (0 : UInt64)))  h1 n0 (Nat.le_trans Z0 E1.1) A1 F1_a0 gn1 F1_a1 F1_a2) hZ (hw _ (List.mem_of_getElem? (i := 5) rfl)) (hw _ (List.mem_of_getElem? (i := 2) rfl)) (by decide) (by decide)) (g := (mkF m 53 #[.val (.int p0), .val (.int p1), .val (.int p2), .val (.int p3), .val (.double z2), .second, .val (.double z7), .second, .val (.double z12), .second, .val (.int z21), .val (.double z26), .second, .val (.double z33), .second, .val (.double z40), .second, .unset, .unset, .unset, .unset, .unset, .unset, .unset] [(.double z12), (.double z7), (.double z2), (.ref b1), (.ref b1)])) rfl (by rw [hml]; rfl) (Steps.refl _) (a := b1) (argsL := [(.double z2), (.double z7), (.double z12)]) (rest := [(.ref b1)]) (lenOf pd_1 rfl) rfl (by show 2 * 0 + _ ≤ _; exact Nat.le_of_eq rfl) (hb hby at_53) (fun _ _ => ⟨rfl, e1, (by decide : 1 + 0 ≤ _), (by decide : 3 + 0 ≤ _)⟩)
  dsimp only [Pt.U, Pt.locs, Pt.cells, Pt.slots] at X3 ql3 qy3 qz3 st3 hQ3
  subst ql3 qy3 qz3
  obtain ⟨rfl, N3q, K3q, Q3_0, Q3_1, Q3_2, Q3_3⟩ := hQ3
  have N3 := Fr.app N0 N3q
  have K4 : Keep h0 T3.heap [] := Keep.trans K2 K3q (allS (Or.inr gz1) all0)
  obtain ⟨cq5, kq5, q5a, q5b, q5c⟩ := isOf hZ rfl Q3_0
  obtain ⟨_, _, ⟨T5, L5, k5, n5⟩, -, X5, ⟨Lc5, hQ5, ql5, qy5, qz5⟩, st5⟩ := X3.virtualBack hx (y := (⟨"com/example/bindwire/bindwire/model/OffloadCurve", "gradient", "(D)D"⟩ : MethodName)) (z := (⟨"com/example/bindwire/bindwire/model/OffloadCurve", "gradient", "(D)D"⟩ : MethodName)) hown (mvT hZ (hw _ (List.mem_of_getElem? (i := 20) rfl))) (mvT hZ (hw _ (List.mem_of_getElem? (i := 21) rfl))) (notFace_of_selects (args := #[]) (mvT hZ (hw _ (List.mem_of_getElem? (i := 23) rfl)))) (mvT hZ (hw _ (List.mem_of_getElem? (i := 23) rfl))) (mvT hZ (hw _ (List.mem_of_getElem? (i := 22) rfl))) (by decide) (backOf (W := 0) (rm4 l Z a0 hw [] b1 z26 z7 z12 c62_z11 c62_z13 c62_z14 T3.heap n0 (Nat.le_trans (Nat.le_trans Z0 E1.1) K3q.1) Q3_2 Q3_3 hc62_z11 hc62_z13 hc62_z14 c62_nn11 c62_nn13 c62_nn14) hZ (hw _ (List.mem_of_getElem? (i := 24) rfl)) (hw _ (List.mem_of_getElem? (i := 2) rfl)) (by decide) (by decide)) q5a q5c (g := (mkF m 62 #[.val (.int p0), .val (.int p1), .val (.int p2), .val (.int p3), .val (.double z2), .second, .val (.double z7), .second, .val (.double z12), .second, .val (.int z21), .val (.double z26), .second, .val (.double z33), .second, .val (.double z40), .second, .val (.ref b1), .unset, .unset, .unset, .unset, .unset, .unset] [(.double z26), (.ref b1)])) rfl (by rw [hml]; rfl) (Steps.refl _) (argsL := [(.double z26)]) (rest := []) (lenOf pd_2 rfl) rfl (by show 2 * 0 + _ ≤ _; exact Nat.le_of_eq rfl) (hb hby at_62) (fun _ _ => ⟨rfl, rfl, (by decide : 1 + 0 ≤ _), (by decide : 3 + 0 ≤ _)⟩)
  dsimp only [Pt.U, Pt.locs, Pt.cells, Pt.slots] at X5 ql5 qy5 qz5 st5 hQ5
  subst ql5 qy5 qz5
  obtain ⟨rfl, N5q, e5⟩ := hQ5
  have N5 := Fr.app N3 N5q
  obtain ⟨cq6, kq6, q6a, q6b, q6c⟩ := isOf hZ e5 Q3_0
  obtain ⟨_, _, ⟨T6, L6, k6, n6⟩, -, X6, ⟨Lc6, hQ6, ql6, qy6, qz6⟩, st6⟩ := X5.virtualBack hx (y := (⟨"com/example/bindwire/bindwire/model/OffloadCurve", "limit", "(D)D"⟩ : MethodName)) (z := (⟨"com/example/bindwire/bindwire/model/OffloadCurve", "limit", "(D)D"⟩ : MethodName)) hown (mvT hZ (hw _ (List.mem_of_getElem? (i := 26) rfl))) (mvT hZ (hw _ (List.mem_of_getElem? (i := 27) rfl))) (notFace_of_selects (args := #[]) (mvT hZ (hw _ (List.mem_of_getElem? (i := 29) rfl)))) (mvT hZ (hw _ (List.mem_of_getElem? (i := 29) rfl))) (mvT hZ (hw _ (List.mem_of_getElem? (i := 28) rfl))) (by decide) (backOf (W := 0) (rm5 l Z a0 hw [] b1 z33 z2 z7 z12 c71_z9 c71_z10 c71_z16 c71_z18 c71_z19 T3.heap n0 (Nat.le_trans (Nat.le_trans Z0 E1.1) K3q.1) Q3_1 Q3_2 Q3_3 hc71_z9 hc71_z10 hc71_z16 hc71_z18 hc71_z19 c71_nn9 c71_nn10 c71_nn16 c71_nn18 c71_nn19) hZ (hw _ (List.mem_of_getElem? (i := 30) rfl)) (hw _ (List.mem_of_getElem? (i := 2) rfl)) (by decide) (by decide)) q6a q6c (g := (mkF m 71 #[.val (.int p0), .val (.int p1), .val (.int p2), .val (.int p3), .val (.double z2), .second, .val (.double z7), .second, .val (.double z12), .second, .val (.int z21), .val (.double z26), .second, .val (.double z33), .second, .val (.double z40), .second, .val (.ref b1), .val (.double c62_z14), .second, .unset, .unset, .unset, .unset] [(.double z33), (.ref b1)])) rfl (by rw [hml]; rfl) (Steps.refl _) (argsL := [(.double z33)]) (rest := []) (lenOf pd_2 rfl) rfl (by show 2 * 0 + _ ≤ _; exact Nat.le_of_eq rfl) (hb hby at_71) (fun _ _ => ⟨rfl, e5, (by decide : 1 + 0 ≤ _), (by decide : 3 + 0 ≤ _)⟩)
  dsimp only [Pt.U, Pt.locs, Pt.cells, Pt.slots] at X6 ql6 qy6 qz6 st6 hQ6
  subst ql6 qy6 qz6
  obtain ⟨rfl, N6q, e6⟩ := hQ6
  have N6 := Fr.app N5 N6q
  obtain ⟨cq7, kq7, q7a, q7b, q7c⟩ := isOf hZ e6 Q3_0
  obtain ⟨_, _, ⟨T7, L7, k7, n7⟩, -, X7, ⟨Lc7, hQ7, ql7, qy7, qz7⟩, st7⟩ := X6.virtualBack hx (y := (⟨"com/example/bindwire/bindwire/model/OffloadCurve", "limit", "(D)D"⟩ : MethodName)) (z := (⟨"com/example/bindwire/bindwire/model/OffloadCurve", "limit", "(D)D"⟩ : MethodName)) hown (mvT hZ (hw _ (List.mem_of_getElem? (i := 26) rfl))) (mvT hZ (hw _ (List.mem_of_getElem? (i := 27) rfl))) (notFace_of_selects (args := #[]) (mvT hZ (hw _ (List.mem_of_getElem? (i := 29) rfl)))) (mvT hZ (hw _ (List.mem_of_getElem? (i := 29) rfl))) (mvT hZ (hw _ (List.mem_of_getElem? (i := 28) rfl))) (by decide) (backOf (W := 2) (rm5 l Z a0 hw [] b1 z40 z2 z7 z12 c78_z9 c78_z10 c78_z16 c78_z18 c78_z19 T3.heap n0 (Nat.le_trans (Nat.le_trans Z0 E1.1) K3q.1) Q3_1 Q3_2 Q3_3 hc78_z9 hc78_z10 hc78_z16 hc78_z18 hc78_z19 c78_nn9 c78_nn10 c78_nn16 c78_nn18 c78_nn19) hZ (hw _ (List.mem_of_getElem? (i := 30) rfl)) (hw _ (List.mem_of_getElem? (i := 2) rfl)) (by decide) (by decide)) q7a q7c (g := (mkF m 78 #[.val (.int p0), .val (.int p1), .val (.int p2), .val (.int p3), .val (.double z2), .second, .val (.double z7), .second, .val (.double z12), .second, .val (.int z21), .val (.double z26), .second, .val (.double z33), .second, .val (.double z40), .second, .val (.ref b1), .val (.double c62_z14), .second, .unset, .unset, .unset, .unset] [(.double z40), (.ref b1), (.double c71_z19)])) rfl (by rw [hml]; rfl) (Steps.refl _) (argsL := [(.double z40)]) (rest := [(.double c71_z19)]) (lenOf pd_2 rfl) rfl (by show 2 * 0 + _ ≤ _; exact Nat.le_of_eq rfl) (hb hby at_78) (fun _ _ => ⟨rfl, e6, (by decide : 1 + 0 ≤ _), (by decide : 3 + 0 ≤ _)⟩)
  dsimp only [Pt.U, Pt.locs, Pt.cells, Pt.slots] at X7 ql7 qy7 qz7 st7 hQ7
  subst ql7 qy7 qz7
  obtain ⟨rfl, N7q, e7⟩ := hQ7
  have N7 := Fr.app N6 N7q
  obtain ⟨cq8, kq8, q8a, q8b, q8c⟩ := isOf hZ e7 Q3_0
  obtain ⟨_, _, ⟨T8, L8, k8, n8⟩, -, X8, ⟨Lc8, hQ8, ql8, qy8, qz8⟩, st8⟩ := X7.virtualBack hx (y := (⟨"com/example/bindwire/bindwire/model/OffloadCurve", "limit", "(D)D"⟩ : MethodName)) (z := (⟨"com/example/bindwire/bindwire/model/OffloadCurve", "limit", "(D)D"⟩ : MethodName)) hown (mvT hZ (hw _ (List.mem_of_getElem? (i := 26) rfl))) (mvT hZ (hw _ (List.mem_of_getElem? (i := 27) rfl))) (notFace_of_selects (args := #[]) (mvT hZ (hw _ (List.mem_of_getElem? (i := 29) rfl)))) (mvT hZ (hw _ (List.mem_of_getElem? (i := 29) rfl))) (mvT hZ (hw _ (List.mem_of_getElem? (i := 28) rfl))) (by decide) (backOf (W := 0) (rm5 l Z a0 hw [] b1 z26 z2 z7 z12 c107_z9 c107_z10 c107_z16 c107_z18 c107_z19 T3.heap n0 (Nat.le_trans (Nat.le_trans Z0 E1.1) K3q.1) Q3_1 Q3_2 Q3_3 hc107_z9 hc107_z10 hc107_z16 hc107_z18 hc107_z19 c107_nn9 c107_nn10 c107_nn16 c107_nn18 c107_nn19) hZ (hw _ (List.mem_of_getElem? (i := 30) rfl)) (hw _ (List.mem_of_getElem? (i := 2) rfl)) (by decide) (by decide)) q8a q8c (g := (mkF m 107 #[.val (.int p0), .val (.int p1), .val (.int p2), .val (.int p3), .val (.double z2), .second, .val (.double z7), .second, .val (.double z12), .second, .val (.int z21), .val (.double z26), .second, .val (.double z33), .second, .val (.double z40), .second, .val (.ref b1), .val (.double c62_z14), .second, .val (.double z81), .second, .val (.int (1 : Int32)), .unset] [(.double z26), (.ref b1)])) rfl (by rw [hml]; rfl) (Steps.refl _) (argsL := [(.double z26)]) (rest := []) (lenOf pd_2 rfl) rfl (by show 2 * 0 + _ ≤ _; exact Nat.le_of_eq rfl) (hb hby at_107) (fun _ _ => ⟨rfl, e7, (by decide : 1 + 0 ≤ _), (by decide : 3 + 0 ≤ _)⟩)
  dsimp only [Pt.U, Pt.locs, Pt.cells, Pt.slots] at X8 ql8 qy8 qz8 st8 hQ8
  subst ql8 qy8 qz8
  obtain ⟨rfl, N8q, e8⟩ := hQ8
  have N8 := Fr.app N7 N8q
  obtain ⟨cq9, kq9, q9a, q9b, q9c⟩ := isOf hZ e8 Q3_0
  obtain ⟨_, _, ⟨T9, L9, k9, n9⟩, -, X9, ⟨Lc9, hQ9, ql9, qy9, qz9⟩, st9⟩ := X8.virtualBack hx (y := (⟨"com/example/bindwire/bindwire/model/OffloadCurve", "intercept", "(D)D"⟩ : MethodName)) (z := (⟨"com/example/bindwire/bindwire/model/OffloadCurve", "intercept", "(D)D"⟩ : MethodName)) hown (mvT hZ (hw _ (List.mem_of_getElem? (i := 32) rfl))) (mvT hZ (hw _ (List.mem_of_getElem? (i := 33) rfl))) (notFace_of_selects (args := #[]) (mvT hZ (hw _ (List.mem_of_getElem? (i := 35) rfl)))) (mvT hZ (hw _ (List.mem_of_getElem? (i := 35) rfl))) (mvT hZ (hw _ (List.mem_of_getElem? (i := 34) rfl))) (by decide) (backOf (W := 2) (rm6 l Z a0 hw [] b1 z26 z2 z12 c114_z9 c114_z11 c114_z12 T3.heap n0 (Nat.le_trans (Nat.le_trans Z0 E1.1) K3q.1) Q3_1 Q3_3 hc114_z9 hc114_z11 hc114_z12 c114_nn9 c114_nn11 c114_nn12) hZ (hw _ (List.mem_of_getElem? (i := 36) rfl)) (hw _ (List.mem_of_getElem? (i := 2) rfl)) (by decide) (by decide)) q9a q9c (g := (mkF m 114 #[.val (.int p0), .val (.int p1), .val (.int p2), .val (.int p3), .val (.double z2), .second, .val (.double z7), .second, .val (.double z12), .second, .val (.int z21), .val (.double z26), .second, .val (.double z33), .second, .val (.double z40), .second, .val (.ref b1), .val (.double c62_z14), .second, .val (.double z81), .second, .val (.int (1 : Int32)), .unset] [(.double z26), (.ref b1), (.double c107_z19)])) rfl (by rw [hml]; rfl) (Steps.refl _) (argsL := [(.double z26)]) (rest := [(.double c107_z19)]) (lenOf pd_2 rfl) rfl (by show 2 * 0 + _ ≤ _; exact Nat.le_of_eq rfl) (hb hby at_114) (fun _ _ => ⟨rfl, e8, (by decide : 1 + 0 ≤ _), (by decide : 3 + 0 ≤ _)⟩)
  dsimp only [Pt.U, Pt.locs, Pt.cells, Pt.slots] at X9 ql9 qy9 qz9 st9 hQ9
  subst ql9 qy9 qz9
  obtain ⟨rfl, N9q, e9⟩ := hQ9
  have N9 := Fr.app N8 N9q
  have c10 : ∀ t, Steps p.tables e below (T9.setTop (mkF m 149 #[.val (.int p0), .val (.int p1), .val (.int p2), .val (.int p3), .val (.double z2), .second, .val (.double z7), .second, .val (.double z12), .second, .val (.int z21), .val (.double z26), .second, .val (.double z33), .second, .val (.double z40), .second, .val (.ref b1), .val (.double c62_z14), .second, .val (.double z81), .second, .val (.int (1 : Int32)), .val (.int (1 : Int32))] [(.int (1 : Int32))])) t → Steps p.tables e below (s₁.setTop (entryFrame m #[(.int p0), (.int p1), (.int p2), (.int p3)] maxLocals)) t := by
    intro t k
    refine c0 t ?_
    show Steps p.tables e below (s₁.setTop (mkF m 0 #[.val (.int p0), .val (.int p1), .val (.int p2), .val (.int p3), .unset, .unset, .unset, .unset, .unset, .unset, .unset, .unset, .unset, .unset, .unset, .unset, .unset, .unset, .unset, .unset, .unset, .unset, .unset, .unset] [])) _
    refine XS.iloadN X0.here hx rfl (hb hby at_0) rfl ?_
    show Steps p.tables e below (s₁.setTop (mkF m 1 #[.val (.int p0), .val (.int p1), .val (.int p2), .val (.int p3), .unset, .unset, .unset, .unset, .unset, .unset, .unset, .unset, .unset, .unset, .unset, .unset, .unset, .unset, .unset, .unset, .unset, .unset, .unset, .unset] [(.int p0)])) _
    refine Jvm.OwnK.i2s X0.here hx rfl (hb hby at_1) rfl hz1 ?_
    show Steps p.tables e below (s₁.setTop (mkF m 2 #[.val (.int p0), .val (.int p1), .val (.int p2), .val (.int p3), .unset, .unset, .unset, .unset, .unset, .unset, .unset, .unset, .unset, .unset, .unset, .unset, .unset, .unset, .unset, .unset, .unset, .unset, .unset, .unset] [(.int z1)])) _
    refine XS.i2dS X0.here hx rfl (hb hby at_2) rfl hz2 ?_
    show Steps p.tables e below (s₁.setTop (mkF m 3 #[.val (.int p0), .val (.int p1), .val (.int p2), .val (.int p3), .unset, .unset, .unset, .unset, .unset, .unset, .unset, .unset, .unset, .unset, .unset, .unset, .unset, .unset, .unset, .unset, .unset, .unset, .unset, .unset] [(.double z2)])) _
    refine XS.dstore X0.here hx rfl (hb hby at_3) rfl (l' := #[.val (.int p0), .val (.int p1), .val (.int p2), .val (.int p3), .val (.double z2), .second, .unset, .unset, .unset, .unset, .unset, .unset, .unset, .unset, .unset, .unset, .unset, .unset, .unset, .unset, .unset, .unset, .unset, .unset]) rfl ?_
    show Steps p.tables e below (s₁.setTop (mkF m 5 #[.val (.int p0), .val (.int p1), .val (.int p2), .val (.int p3), .val (.double z2), .second, .unset, .unset, .unset, .unset, .unset, .unset, .unset, .unset, .unset, .unset, .unset, .unset, .unset, .unset, .unset, .unset, .unset, .unset] [])) _
    refine XS.iloadN X0.here hx rfl (hb hby at_5) rfl ?_
    show Steps p.tables e below (s₁.setTop (mkF m 6 #[.val (.int p0), .val (.int p1), .val (.int p2), .val (.int p3), .val (.double z2), .second, .unset, .unset, .unset, .unset, .unset, .unset, .unset, .unset, .unset, .unset, .unset, .unset, .unset, .unset, .unset, .unset, .unset, .unset] [(.int p1)])) _
    refine Jvm.OwnK.i2s X0.here hx rfl (hb hby at_6) rfl hz6 ?_
    show Steps p.tables e below (s₁.setTop (mkF m 7 #[.val (.int p0), .val (.int p1), .val (.int p2), .val (.int p3), .val (.double z2), .second, .unset, .unset, .unset, .unset, .unset, .unset, .unset, .unset, .unset, .unset, .unset, .unset, .unset, .unset, .unset, .unset, .unset, .unset] [(.int z6)])) _
    refine XS.i2dS X0.here hx rfl (hb hby at_7) rfl hz7 ?_
    show Steps p.tables e below (s₁.setTop (mkF m 8 #[.val (.int p0), .val (.int p1), .val (.int p2), .val (.int p3), .val (.double z2), .second, .unset, .unset, .unset, .unset, .unset, .unset, .unset, .unset, .unset, .unset, .unset, .unset, .unset, .unset, .unset, .unset, .unset, .unset] [(.double z7)])) _
    refine XS.dstore X0.here hx rfl (hb hby at_8) rfl (l' := #[.val (.int p0), .val (.int p1), .val (.int p2), .val (.int p3), .val (.double z2), .second, .val (.double z7), .second, .unset, .unset, .unset, .unset, .unset, .unset, .unset, .unset, .unset, .unset, .unset, .unset, .unset, .unset, .unset, .unset]) rfl ?_
    show Steps p.tables e below (s₁.setTop (mkF m 10 #[.val (.int p0), .val (.int p1), .val (.int p2), .val (.int p3), .val (.double z2), .second, .val (.double z7), .second, .unset, .unset, .unset, .unset, .unset, .unset, .unset, .unset, .unset, .unset, .unset, .unset, .unset, .unset, .unset, .unset] [])) _
    refine XS.iloadN X0.here hx rfl (hb hby at_10) rfl ?_
    show Steps p.tables e below (s₁.setTop (mkF m 11 #[.val (.int p0), .val (.int p1), .val (.int p2), .val (.int p3), .val (.double z2), .second, .val (.double z7), .second, .unset, .unset, .unset, .unset, .unset, .unset, .unset, .unset, .unset, .unset, .unset, .unset, .unset, .unset, .unset, .unset] [(.int p2)])) _
    refine Jvm.OwnK.i2s X0.here hx rfl (hb hby at_11) rfl hz11 ?_
    show Steps p.tables e below (s₁.setTop (mkF m 12 #[.val (.int p0), .val (.int p1), .val (.int p2), .val (.int p3), .val (.double z2), .second, .val (.double z7), .second, .unset, .unset, .unset, .unset, .unset, .unset, .unset, .unset, .unset, .unset, .unset, .unset, .unset, .unset, .unset, .unset] [(.int z11)])) _
    refine XS.i2dS X0.here hx rfl (hb hby at_12) rfl hz12 ?_
    show Steps p.tables e below (s₁.setTop (mkF m 13 #[.val (.int p0), .val (.int p1), .val (.int p2), .val (.int p3), .val (.double z2), .second, .val (.double z7), .second, .unset, .unset, .unset, .unset, .unset, .unset, .unset, .unset, .unset, .unset, .unset, .unset, .unset, .unset, .unset, .unset] [(.double z12)])) _
    refine XS.dstore X0.here hx rfl (hb hby at_13) rfl (l' := #[.val (.int p0), .val (.int p1), .val (.int p2), .val (.int p3), .val (.double z2), .second, .val (.double z7), .second, .val (.double z12), .second, .unset, .unset, .unset, .unset, .unset, .unset, .unset, .unset, .unset, .unset, .unset, .unset, .unset, .unset]) rfl ?_
    show Steps p.tables e below (s₁.setTop (mkF m 15 #[.val (.int p0), .val (.int p1), .val (.int p2), .val (.int p3), .val (.double z2), .second, .val (.double z7), .second, .val (.double z12), .second, .unset, .unset, .unset, .unset, .unset, .unset, .unset, .unset, .unset, .unset, .unset, .unset, .unset, .unset] [])) _
    refine XS.iloadN X0.here hx rfl (hb hby at_15) rfl ?_
    show Steps p.tables e below (s₁.setTop (mkF m 16 #[.val (.int p0), .val (.int p1), .val (.int p2), .val (.int p3), .val (.double z2), .second, .val (.double z7), .second, .val (.double z12), .second, .unset, .unset, .unset, .unset, .unset, .unset, .unset, .unset, .unset, .unset, .unset, .unset, .unset, .unset] [(.int p3)])) _
    refine XS.bipush X0.here hx rfl (hb hby at_16) ?_
    show Steps p.tables e below (s₁.setTop (mkF m 18 #[.val (.int p0), .val (.int p1), .val (.int p2), .val (.int p3), .val (.double z2), .second, .val (.double z7), .second, .val (.double z12), .second, .unset, .unset, .unset, .unset, .unset, .unset, .unset, .unset, .unset, .unset, .unset, .unset, .unset, .unset] [(.int (20 : Int32)), (.int p3)])) _
    refine Jvm.OwnK.ishl X0.here hx rfl (hb hby at_18) rfl hz18 ?_
    show Steps p.tables e below (s₁.setTop (mkF m 19 #[.val (.int p0), .val (.int p1), .val (.int p2), .val (.int p3), .val (.double z2), .second, .val (.double z7), .second, .val (.double z12), .second, .unset, .unset, .unset, .unset, .unset, .unset, .unset, .unset, .unset, .unset, .unset, .unset, .unset, .unset] [(.int z18)])) _
    refine XS.bipush X0.here hx rfl (hb hby at_19) ?_
    show Steps p.tables e below (s₁.setTop (mkF m 21 #[.val (.int p0), .val (.int p1), .val (.int p2), .val (.int p3), .val (.double z2), .second, .val (.double z7), .second, .val (.double z12), .second, .unset, .unset, .unset, .unset, .unset, .unset, .unset, .unset, .unset, .unset, .unset, .unset, .unset, .unset] [(.int (20 : Int32)), (.int z18)])) _
    refine Jvm.OwnK.ishr X0.here hx rfl (hb hby at_21) rfl hz21 ?_
    show Steps p.tables e below (s₁.setTop (mkF m 22 #[.val (.int p0), .val (.int p1), .val (.int p2), .val (.int p3), .val (.double z2), .second, .val (.double z7), .second, .val (.double z12), .second, .unset, .unset, .unset, .unset, .unset, .unset, .unset, .unset, .unset, .unset, .unset, .unset, .unset, .unset] [(.int z21)])) _
    refine XS.istore X0.here hx rfl (hb hby at_22) rfl (l' := #[.val (.int p0), .val (.int p1), .val (.int p2), .val (.int p3), .val (.double z2), .second, .val (.double z7), .second, .val (.double z12), .second, .val (.int z21), .unset, .unset, .unset, .unset, .unset, .unset, .unset, .unset, .unset, .unset, .unset, .unset, .unset]) rfl ?_
    show Steps p.tables e below (s₁.setTop (mkF m 24 #[.val (.int p0), .val (.int p1), .val (.int p2), .val (.int p3), .val (.double z2), .second, .val (.double z7), .second, .val (.double z12), .second, .val (.int z21), .unset, .unset, .unset, .unset, .unset, .unset, .unset, .unset, .unset, .unset, .unset, .unset, .unset] [])) _
    refine XS.iload X0.here hx rfl (hb hby at_24) rfl ?_
    show Steps p.tables e below (s₁.setTop (mkF m 26 #[.val (.int p0), .val (.int p1), .val (.int p2), .val (.int p3), .val (.double z2), .second, .val (.double z7), .second, .val (.double z12), .second, .val (.int z21), .unset, .unset, .unset, .unset, .unset, .unset, .unset, .unset, .unset, .unset, .unset, .unset, .unset] [(.int z21)])) _
    refine XS.i2dS X0.here hx rfl (hb hby at_26) rfl hz26 ?_
    show Steps p.tables e below (s₁.setTop (mkF m 27 #[.val (.int p0), .val (.int p1), .val (.int p2), .val (.int p3), .val (.double z2), .second, .val (.double z7), .second, .val (.double z12), .second, .val (.int z21), .unset, .unset, .unset, .unset, .unset, .unset, .unset, .unset, .unset, .unset, .unset, .unset, .unset] [(.double z26)])) _
    refine XS.dstore X0.here hx rfl (hb hby at_27) rfl (l' := #[.val (.int p0), .val (.int p1), .val (.int p2), .val (.int p3), .val (.double z2), .second, .val (.double z7), .second, .val (.double z12), .second, .val (.int z21), .val (.double z26), .second, .unset, .unset, .unset, .unset, .unset, .unset, .unset, .unset, .unset, .unset, .unset]) rfl ?_
    show Steps p.tables e below (s₁.setTop (mkF m 29 #[.val (.int p0), .val (.int p1), .val (.int p2), .val (.int p3), .val (.double z2), .second, .val (.double z7), .second, .val (.double z12), .second, .val (.int z21), .val (.double z26), .second, .unset, .unset, .unset, .unset, .unset, .unset, .unset, .unset, .unset, .unset, .unset] [])) _
    refine XS.iload X0.here hx rfl (hb hby at_29) rfl ?_
    show Steps p.tables e below (s₁.setTop (mkF m 31 #[.val (.int p0), .val (.int p1), .val (.int p2), .val (.int p3), .val (.double z2), .second, .val (.double z7), .second, .val (.double z12), .second, .val (.int z21), .val (.double z26), .second, .unset, .unset, .unset, .unset, .unset, .unset, .unset, .unset, .unset, .unset, .unset] [(.int z21)])) _
    refine XS.iconst X0.here hx rfl (hb hby at_31) ?_
    show Steps p.tables e below (s₁.setTop (mkF m 32 #[.val (.int p0), .val (.int p1), .val (.int p2), .val (.int p3), .val (.double z2), .second, .val (.double z7), .second, .val (.double z12), .second, .val (.int z21), .val (.double z26), .second, .unset, .unset, .unset, .unset, .unset, .unset, .unset, .unset, .unset, .unset, .unset] [(.int (1 : Int32)), (.int z21)])) _
    refine Jvm.OwnK.iadd X0.here hx rfl (hb hby at_32) rfl hz32 ?_
    show Steps p.tables e below (s₁.setTop (mkF m 33 #[.val (.int p0), .val (.int p1), .val (.int p2), .val (.int p3), .val (.double z2), .second, .val (.double z7), .second, .val (.double z12), .second, .val (.int z21), .val (.double z26), .second, .unset, .unset, .unset, .unset, .unset, .unset, .unset, .unset, .unset, .unset, .unset] [(.int z32)])) _
    refine XS.i2dS X0.here hx rfl (hb hby at_33) rfl hz33 ?_
    show Steps p.tables e below (s₁.setTop (mkF m 34 #[.val (.int p0), .val (.int p1), .val (.int p2), .val (.int p3), .val (.double z2), .second, .val (.double z7), .second, .val (.double z12), .second, .val (.int z21), .val (.double z26), .second, .unset, .unset, .unset, .unset, .unset, .unset, .unset, .unset, .unset, .unset, .unset] [(.double z33)])) _
    refine XS.dstore X0.here hx rfl (hb hby at_34) rfl (l' := #[.val (.int p0), .val (.int p1), .val (.int p2), .val (.int p3), .val (.double z2), .second, .val (.double z7), .second, .val (.double z12), .second, .val (.int z21), .val (.double z26), .second, .val (.double z33), .second, .unset, .unset, .unset, .unset, .unset, .unset, .unset, .unset, .unset]) rfl ?_
    show Steps p.tables e below (s₁.setTop (mkF m 36 #[.val (.int p0), .val (.int p1), .val (.int p2), .val (.int p3), .val (.double z2), .second, .val (.double z7), .second, .val (.double z12), .second, .val (.int z21), .val (.double z26), .second, .val (.double z33), .second, .unset, .unset, .unset, .unset, .unset, .unset, .unset, .unset, .unset] [])) _
    refine XS.iload X0.here hx rfl (hb hby at_36) rfl ?_
    show Steps p.tables e below (s₁.setTop (mkF m 38 #[.val (.int p0), .val (.int p1), .val (.int p2), .val (.int p3), .val (.double z2), .second, .val (.double z7), .second, .val (.double z12), .second, .val (.int z21), .val (.double z26), .second, .val (.double z33), .second, .unset, .unset, .unset, .unset, .unset, .unset, .unset, .unset, .unset] [(.int z21)])) _
    refine XS.iconst X0.here hx rfl (hb hby at_38) ?_
    show Steps p.tables e below (s₁.setTop (mkF m 39 #[.val (.int p0), .val (.int p1), .val (.int p2), .val (.int p3), .val (.double z2), .second, .val (.double z7), .second, .val (.double z12), .second, .val (.int z21), .val (.double z26), .second, .val (.double z33), .second, .unset, .unset, .unset, .unset, .unset, .unset, .unset, .unset, .unset] [(.int (1 : Int32)), (.int z21)])) _
    refine Jvm.OwnK.isub X0.here hx rfl (hb hby at_39) rfl hz39 ?_
    show Steps p.tables e below (s₁.setTop (mkF m 40 #[.val (.int p0), .val (.int p1), .val (.int p2), .val (.int p3), .val (.double z2), .second, .val (.double z7), .second, .val (.double z12), .second, .val (.int z21), .val (.double z26), .second, .val (.double z33), .second, .unset, .unset, .unset, .unset, .unset, .unset, .unset, .unset, .unset] [(.int z39)])) _
    refine XS.i2dS X0.here hx rfl (hb hby at_40) rfl hz40 ?_
    show Steps p.tables e below (s₁.setTop (mkF m 41 #[.val (.int p0), .val (.int p1), .val (.int p2), .val (.int p3), .val (.double z2), .second, .val (.double z7), .second, .val (.double z12), .second, .val (.int z21), .val (.double z26), .second, .val (.double z33), .second, .unset, .unset, .unset, .unset, .unset, .unset, .unset, .unset, .unset] [(.double z40)])) _
    refine XS.dstore X0.here hx rfl (hb hby at_41) rfl (l' := #[.val (.int p0), .val (.int p1), .val (.int p2), .val (.int p3), .val (.double z2), .second, .val (.double z7), .second, .val (.double z12), .second, .val (.int z21), .val (.double z26), .second, .val (.double z33), .second, .val (.double z40), .second, .unset, .unset, .unset, .unset, .unset, .unset, .unset]) rfl ?_
    show Steps p.tables e below (s₁.setTop (mkF m 43 #[.val (.int p0), .val (.int p1), .val (.int p2), .val (.int p3), .val (.double z2), .second, .val (.double z7), .second, .val (.double z12), .second, .val (.int z21), .val (.double z26), .second, .val (.double z33), .second, .val (.double z40), .second, .unset, .unset, .unset, .unset, .unset, .unset, .unset] [])) _
    refine st1 _ ?_
    show Steps p.tables e below (T1.setTop (mkF m 46 #[.val (.int p0), .val (.int p1), .val (.int p2), .val (.int p3), .val (.double z2), .second, .val (.double z7), .second, .val (.double z12), .second, .val (.int z21), .val (.double z26), .second, .val (.double z33), .second, .val (.double z40), .second, .unset, .unset, .unset, .unset, .unset, .unset, .unset] [(.ref b1)])) _
    refine XS.dup X1.here hx rfl (hb hby at_46) rfl rfl ?_
    show Steps p.tables e below (T1.setTop (mkF m 47 #[.val (.int p0), .val (.int p1), .val (.int p2), .val (.int p3), .val (.double z2), .second, .val (.double z7), .second, .val (.double z12), .second, .val (.int z21), .val (.double z26), .second, .val (.double z33), .second, .val (.double z40), .second, .unset, .unset, .unset, .unset, .unset, .unset, .unset] [(.ref b1), (.ref b1)])) _
    refine XS.dload X1.here hx rfl (hb hby at_47) rfl ?_
    show Steps p.tables e below (T1.setTop (mkF m 49 #[.val (.int p0), .val (.int p1), .val (.int p2), .val (.int p3), .val (.double z2), .second, .val (.double z7), .second, .val (.double z12), .second, .val (.int z21), .val (.double z26), .second, .val (.double z33), .second, .val (.double z40), .second, .unset, .unset, .unset, .unset, .unset, .unset, .unset] [(.double z2), (.ref b1), (.ref b1)])) _
    refine XS.dload X1.here hx rfl (hb hby at_49) rfl ?_
    show Steps p.tables e below (T1.setTop (mkF m 51 #[.val (.int p0), .val (.int p1), .val (.int p2), .val (.int p3), .val (.double z2), .second, .val (.double z7), .second, .val (.double z12), .second, .val (.int z21), .val (.double z26), .second, .val (.double z33), .second, .val (.double z40), .second, .unset, .unset, .unset, .unset, .unset, .unset, .unset] [(.double z7), (.double z2), (.ref b1), (.ref b1)])) _
    refine XS.dload X1.here hx rfl (hb hby at_51) rfl ?_
    show Steps p.tables e below (T1.setTop (mkF m 53 #[.val (.int p0), .val (.int p1), .val (.int p2), .val (.int p3), .val (.double z2), .second, .val (.double z7), .second, .val (.double z12), .second, .val (.int z21), .val (.double z26), .second, .val (.double z33), .second, .val (.double z40), .second, .unset, .unset, .unset, .unset, .unset, .unset, .unset] [(.double z12), (.double z7), (.double z2), (.ref b1), (.ref b1)])) _
    refine st3.trans ?_
    show Steps p.tables e below (T3.setTop (mkF m 56 #[.val (.int p0), .val (.int p1), .val (.int p2), .val (.int p3), .val (.double z2), .second, .val (.double z7), .second, .val (.double z12), .second, .val (.int z21), .val (.double z26), .second, .val (.double z33), .second, .val (.double z40), .second, .unset, .unset, .unset, .unset, .unset, .unset, .unset] [(.ref b1)])) _
    refine XS.astore X3.here hx rfl (hb hby at_56) rfl rfl (l' := #[.val (.int p0), .val (.int p1), .val (.int p2), .val (.int p3), .val (.double z2), .second, .val (.double z7), .second, .val (.double z12), .second, .val (.int z21), .val (.double z26), .second, .val (.double z33), .second, .val (.double z40), .second, .val (.ref b1), .unset, .unset, .unset, .unset, .unset, .unset]) rfl ?_
    show Steps p.tables e below (T3.setTop (mkF m 58 #[.val (.int p0), .val (.int p1), .val (.int p2), .val (.int p3), .val (.double z2), .second, .val (.double z7), .second, .val (.double z12), .second, .val (.int z21), .val (.double z26), .second, .val (.double z33), .second, .val (.double z40), .second, .val (.ref b1), .unset, .unset, .unset, .unset, .unset, .unset] [])) _
    refine XS.aload X3.here hx rfl (hb hby at_58) rfl rfl ?_
    show Steps p.tables e below (T3.setTop (mkF m 60 #[.val (.int p0), .val (.int p1), .val (.int p2), .val (.int p3), .val (.double z2), .second, .val (.double z7), .second, .val (.double z12), .second, .val (.int z21), .val (.double z26), .second, .val (.double z33), .second, .val (.double z40), .second, .val (.ref b1), .unset, .unset, .unset, .unset, .unset, .unset] [(.ref b1)])) _
    refine XS.dload X3.here hx rfl (hb hby at_60) rfl ?_
    show Steps p.tables e below (T3.setTop (mkF m 62 #[.val (.int p0), .val (.int p1), .val (.int p2), .val (.int p3), .val (.double z2), .second, .val (.double z7), .second, .val (.double z12), .second, .val (.int z21), .val (.double z26), .second, .val (.double z33), .second, .val (.double z40), .second, .val (.ref b1), .unset, .unset, .unset, .unset, .unset, .unset] [(.double z26), (.ref b1)])) _
    refine st5.trans ?_
    show Steps p.tables e below (T5.setTop (mkF m 65 #[.val (.int p0), .val (.int p1), .val (.int p2), .val (.int p3), .val (.double z2), .second, .val (.double z7), .second, .val (.double z12), .second, .val (.int z21), .val (.double z26), .second, .val (.double z33), .second, .val (.double z40), .second, .val (.ref b1), .unset, .unset, .unset, .unset, .unset, .unset] [(.double c62_z14)])) _
    refine XS.dstore X5.here hx rfl (hb hby at_65) rfl (l' := #[.val (.int p0), .val (.int p1), .val (.int p2), .val (.int p3), .val (.double z2), .second, .val (.double z7), .second, .val (.double z12), .second, .val (.int z21), .val (.double z26), .second, .val (.double z33), .second, .val (.double z40), .second, .val (.ref b1), .val (.double c62_z14), .second, .unset, .unset, .unset, .unset]) rfl ?_
    show Steps p.tables e below (T5.setTop (mkF m 67 #[.val (.int p0), .val (.int p1), .val (.int p2), .val (.int p3), .val (.double z2), .second, .val (.double z7), .second, .val (.double z12), .second, .val (.int z21), .val (.double z26), .second, .val (.double z33), .second, .val (.double z40), .second, .val (.ref b1), .val (.double c62_z14), .second, .unset, .unset, .unset, .unset] [])) _
    refine XS.aload X5.here hx rfl (hb hby at_67) rfl rfl ?_
    show Steps p.tables e below (T5.setTop (mkF m 69 #[.val (.int p0), .val (.int p1), .val (.int p2), .val (.int p3), .val (.double z2), .second, .val (.double z7), .second, .val (.double z12), .second, .val (.int z21), .val (.double z26), .second, .val (.double z33), .second, .val (.double z40), .second, .val (.ref b1), .val (.double c62_z14), .second, .unset, .unset, .unset, .unset] [(.ref b1)])) _
    refine XS.dload X5.here hx rfl (hb hby at_69) rfl ?_
    show Steps p.tables e below (T5.setTop (mkF m 71 #[.val (.int p0), .val (.int p1), .val (.int p2), .val (.int p3), .val (.double z2), .second, .val (.double z7), .second, .val (.double z12), .second, .val (.int z21), .val (.double z26), .second, .val (.double z33), .second, .val (.double z40), .second, .val (.ref b1), .val (.double c62_z14), .second, .unset, .unset, .unset, .unset] [(.double z33), (.ref b1)])) _
    refine st6.trans ?_
    show Steps p.tables e below (T6.setTop (mkF m 74 #[.val (.int p0), .val (.int p1), .val (.int p2), .val (.int p3), .val (.double z2), .second, .val (.double z7), .second, .val (.double z12), .second, .val (.int z21), .val (.double z26), .second, .val (.double z33), .second, .val (.double z40), .second, .val (.ref b1), .val (.double c62_z14), .second, .unset, .unset, .unset, .unset] [(.double c71_z19)])) _
    refine XS.aload X6.here hx rfl (hb hby at_74) rfl rfl ?_
    show Steps p.tables e below (T6.setTop (mkF m 76 #[.val (.int p0), .val (.int p1), .val (.int p2), .val (.int p3), .val (.double z2), .second, .val (.double z7), .second, .val (.double z12), .second, .val (.int z21), .val (.double z26), .second, .val (.double z33), .second, .val (.double z40), .second, .val (.ref b1), .val (.double c62_z14), .second, .unset, .unset, .unset, .unset] [(.ref b1), (.double c71_z19)])) _
    refine XS.dload X6.here hx rfl (hb hby at_76) rfl ?_
    show Steps p.tables e below (T6.setTop (mkF m 78 #[.val (.int p0), .val (.int p1), .val (.int p2), .val (.int p3), .val (.double z2), .second, .val (.double z7), .second, .val (.double z12), .second, .val (.int z21), .val (.double z26), .second, .val (.double z33), .second, .val (.double z40), .second, .val (.ref b1), .val (.double c62_z14), .second, .unset, .unset, .unset, .unset] [(.double z40), (.ref b1), (.double c71_z19)])) _
    refine st7.trans ?_
    show Steps p.tables e below (T7.setTop (mkF m 81 #[.val (.int p0), .val (.int p1), .val (.int p2), .val (.int p3), .val (.double z2), .second, .val (.double z7), .second, .val (.double z12), .second, .val (.int z21), .val (.double z26), .second, .val (.double z33), .second, .val (.double z40), .second, .val (.ref b1), .val (.double c62_z14), .second, .unset, .unset, .unset, .unset] [(.double c78_z19), (.double c71_z19)])) _
    refine Jvm.OwnK.dsub X7.here hx rfl (hb hby at_81) rfl hz81 nn81 ?_
    show Steps p.tables e below (T7.setTop (mkF m 82 #[.val (.int p0), .val (.int p1), .val (.int p2), .val (.int p3), .val (.double z2), .second, .val (.double z7), .second, .val (.double z12), .second, .val (.int z21), .val (.double z26), .second, .val (.double z33), .second, .val (.double z40), .second, .val (.ref b1), .val (.double c62_z14), .second, .unset, .unset, .unset, .unset] [(.double z81)])) _
    refine XS.dstore X7.here hx rfl (hb hby at_82) rfl (l' := #[.val (.int p0), .val (.int p1), .val (.int p2), .val (.int p3), .val (.double z2), .second, .val (.double z7), .second, .val (.double z12), .second, .val (.int z21), .val (.double z26), .second, .val (.double z33), .second, .val (.double z40), .second, .val (.ref b1), .val (.double c62_z14), .second, .val (.double z81), .second, .unset, .unset]) rfl ?_
    show Steps p.tables e below (T7.setTop (mkF m 84 #[.val (.int p0), .val (.int p1), .val (.int p2), .val (.int p3), .val (.double z2), .second, .val (.double z7), .second, .val (.double z12), .second, .val (.int z21), .val (.double z26), .second, .val (.double z33), .second, .val (.double z40), .second, .val (.ref b1), .val (.double c62_z14), .second, .val (.double z81), .second, .unset, .unset] [])) _
    refine XS.dload X7.here hx rfl (hb hby at_84) rfl ?_
    show Steps p.tables e below (T7.setTop (mkF m 86 #[.val (.int p0), .val (.int p1), .val (.int p2), .val (.int p3), .val (.double z2), .second, .val (.double z7), .second, .val (.double z12), .second, .val (.int z21), .val (.double z26), .second, .val (.double z33), .second, .val (.double z40), .second, .val (.ref b1), .val (.double c62_z14), .second, .val (.double z81), .second, .unset, .unset] [(.double z81)])) _
    refine X7.ldc2DoubleC hx hown (mvT hZ (hw _ (List.mem_of_getElem? (i := 31) rfl))) (g := (mkF m 86 #[.val (.int p0), .val (.int p1), .val (.int p2), .val (.int p3), .val (.double z2), .second, .val (.double z7), .second, .val (.double z12), .second, .val (.int z21), .val (.double z26), .second, .val (.double z33), .second, .val (.double z40), .second, .val (.ref b1), .val (.double c62_z14), .second, .val (.double z81), .second, .unset, .unset] [(.double z81)])) rfl (hb hby at_86) _ ?_
    show Steps p.tables e below (T7.setTop (mkF m 89 #[.val (.int p0), .val (.int p1), .val (.int p2), .val (.int p3), .val (.double z2), .second, .val (.double z7), .second, .val (.double z12), .second, .val (.int z21), .val (.double z26), .second, .val (.double z33), .second, .val (.double z40), .second, .val (.ref b1), .val (.double c62_z14), .second, .val (.double z81), .second, .unset, .unset] [(.double (4611686018427387904 : UInt64)), (.double z81)])) _
    refine XS.dload X7.here hx rfl (hb hby at_89) rfl ?_
    show Steps p.tables e below (T7.setTop (mkF m 91 #[.val (.int p0), .val (.int p1), .val (.int p2), .val (.int p3), .val (.double z2), .second, .val (.double z7), .second, .val (.double z12), .second, .val (.int z21), .val (.double z26), .second, .val (.double z33), .second, .val (.double z40), .second, .val (.ref b1), .val (.double c62_z14), .second, .val (.double z81), .second, .unset, .unset] [(.double c62_z14), (.double (4611686018427387904 : UInt64)), (.double z81)])) _
    refine Jvm.OwnK.dmul X7.here hx rfl (hb hby at_91) rfl hz91 nn91 ?_
    show Steps p.tables e below (T7.setTop (mkF m 92 #[.val (.int p0), .val (.int p1), .val (.int p2), .val (.int p3), .val (.double z2), .second, .val (.double z7), .second, .val (.double z12), .second, .val (.int z21), .val (.double z26), .second, .val (.double z33), .second, .val (.double z40), .second, .val (.ref b1), .val (.double c62_z14), .second, .val (.double z81), .second, .unset, .unset] [(.double z91), (.double z81)])) _
    refine XS.dcmpS X7.here hx rfl (hb hby at_92) rfl hz92 ?_
    show Steps p.tables e below (T7.setTop (mkF m 93 #[.val (.int p0), .val (.int p1), .val (.int p2), .val (.int p3), .val (.double z2), .second, .val (.double z7), .second, .val (.double z12), .second, .val (.int z21), .val (.double z26), .second, .val (.double z33), .second, .val (.double z40), .second, .val (.ref b1), .val (.double c62_z14), .second, .val (.double z81), .second, .unset, .unset] [(.int z92)])) _
    refine XS.ifNo X7.here hx rfl (hb hby at_93) rfl (Jvm.Free.XT.i0_ne_f br93) ?_
    show Steps p.tables e below (T7.setTop (mkF m 96 #[.val (.int p0), .val (.int p1), .val (.int p2), .val (.int p3), .val (.double z2), .second, .val (.double z7), .second, .val (.double z12), .second, .val (.int z21), .val (.double z26), .second, .val (.double z33), .second, .val (.double z40), .second, .val (.ref b1), .val (.double c62_z14), .second, .val (.double z81), .second, .unset, .unset] [])) _
    refine XS.iconst X7.here hx rfl (hb hby at_96) ?_
    show Steps p.tables e below (T7.setTop (mkF m 97 #[.val (.int p0), .val (.int p1), .val (.int p2), .val (.int p3), .val (.double z2), .second, .val (.double z7), .second, .val (.double z12), .second, .val (.int z21), .val (.double z26), .second, .val (.double z33), .second, .val (.double z40), .second, .val (.ref b1), .val (.double c62_z14), .second, .val (.double z81), .second, .unset, .unset] [(.int (1 : Int32))])) _
    refine XS.goto X7.here hx rfl (pc0 := 97) (pc' := 101) rfl (hb hby at_97) (by decide) (by decide) ?_
    show Steps p.tables e below (T7.setTop (mkF m 101 #[.val (.int p0), .val (.int p1), .val (.int p2), .val (.int p3), .val (.double z2), .second, .val (.double z7), .second, .val (.double z12), .second, .val (.int z21), .val (.double z26), .second, .val (.double z33), .second, .val (.double z40), .second, .val (.ref b1), .val (.double c62_z14), .second, .val (.double z81), .second, .unset, .unset] [(.int (1 : Int32))])) _
    refine XS.istore X7.here hx rfl (hb hby at_101) rfl (l' := #[.val (.int p0), .val (.int p1), .val (.int p2), .val (.int p3), .val (.double z2), .second, .val (.double z7), .second, .val (.double z12), .second, .val (.int z21), .val (.double z26), .second, .val (.double z33), .second, .val (.double z40), .second, .val (.ref b1), .val (.double c62_z14), .second, .val (.double z81), .second, .val (.int (1 : Int32)), .unset]) rfl ?_
    show Steps p.tables e below (T7.setTop (mkF m 103 #[.val (.int p0), .val (.int p1), .val (.int p2), .val (.int p3), .val (.double z2), .second, .val (.double z7), .second, .val (.double z12), .second, .val (.int z21), .val (.double z26), .second, .val (.double z33), .second, .val (.double z40), .second, .val (.ref b1), .val (.double c62_z14), .second, .val (.double z81), .second, .val (.int (1 : Int32)), .unset] [])) _
    refine XS.aload X7.here hx rfl (hb hby at_103) rfl rfl ?_
    show Steps p.tables e below (T7.setTop (mkF m 105 #[.val (.int p0), .val (.int p1), .val (.int p2), .val (.int p3), .val (.double z2), .second, .val (.double z7), .second, .val (.double z12), .second, .val (.int z21), .val (.double z26), .second, .val (.double z33), .second, .val (.double z40), .second, .val (.ref b1), .val (.double c62_z14), .second, .val (.double z81), .second, .val (.int (1 : Int32)), .unset] [(.ref b1)])) _
    refine XS.dload X7.here hx rfl (hb hby at_105) rfl ?_
    show Steps p.tables e below (T7.setTop (mkF m 107 #[.val (.int p0), .val (.int p1), .val (.int p2), .val (.int p3), .val (.double z2), .second, .val (.double z7), .second, .val (.double z12), .second, .val (.int z21), .val (.double z26), .second, .val (.double z33), .second, .val (.double z40), .second, .val (.ref b1), .val (.double c62_z14), .second, .val (.double z81), .second, .val (.int (1 : Int32)), .unset] [(.double z26), (.ref b1)])) _
    refine st8.trans ?_
    show Steps p.tables e below (T8.setTop (mkF m 110 #[.val (.int p0), .val (.int p1), .val (.int p2), .val (.int p3), .val (.double z2), .second, .val (.double z7), .second, .val (.double z12), .second, .val (.int z21), .val (.double z26), .second, .val (.double z33), .second, .val (.double z40), .second, .val (.ref b1), .val (.double c62_z14), .second, .val (.double z81), .second, .val (.int (1 : Int32)), .unset] [(.double c107_z19)])) _
    refine XS.aload X8.here hx rfl (hb hby at_110) rfl rfl ?_
    show Steps p.tables e below (T8.setTop (mkF m 112 #[.val (.int p0), .val (.int p1), .val (.int p2), .val (.int p3), .val (.double z2), .second, .val (.double z7), .second, .val (.double z12), .second, .val (.int z21), .val (.double z26), .second, .val (.double z33), .second, .val (.double z40), .second, .val (.ref b1), .val (.double c62_z14), .second, .val (.double z81), .second, .val (.int (1 : Int32)), .unset] [(.ref b1), (.double c107_z19)])) _
    refine XS.dload X8.here hx rfl (hb hby at_112) rfl ?_
    show Steps p.tables e below (T8.setTop (mkF m 114 #[.val (.int p0), .val (.int p1), .val (.int p2), .val (.int p3), .val (.double z2), .second, .val (.double z7), .second, .val (.double z12), .second, .val (.int z21), .val (.double z26), .second, .val (.double z33), .second, .val (.double z40), .second, .val (.ref b1), .val (.double c62_z14), .second, .val (.double z81), .second, .val (.int (1 : Int32)), .unset] [(.double z26), (.ref b1), (.double c107_z19)])) _
    refine st9.trans ?_
    show Steps p.tables e below (T9.setTop (mkF m 117 #[.val (.int p0), .val (.int p1), .val (.int p2), .val (.int p3), .val (.double z2), .second, .val (.double z7), .second, .val (.double z12), .second, .val (.int z21), .val (.double z26), .second, .val (.double z33), .second, .val (.double z40), .second, .val (.ref b1), .val (.double c62_z14), .second, .val (.double z81), .second, .val (.int (1 : Int32)), .unset] [(.double c114_z12), (.double c107_z19)])) _
    refine XS.dload X9.here hx rfl (hb hby at_117) rfl ?_
    show Steps p.tables e below (T9.setTop (mkF m 119 #[.val (.int p0), .val (.int p1), .val (.int p2), .val (.int p3), .val (.double z2), .second, .val (.double z7), .second, .val (.double z12), .second, .val (.int z21), .val (.double z26), .second, .val (.double z33), .second, .val (.double z40), .second, .val (.ref b1), .val (.double c62_z14), .second, .val (.double z81), .second, .val (.int (1 : Int32)), .unset] [(.double c62_z14), (.double c114_z12), (.double c107_z19)])) _
    refine XS.dload X9.here hx rfl (hb hby at_119) rfl ?_
    show Steps p.tables e below (T9.setTop (mkF m 121 #[.val (.int p0), .val (.int p1), .val (.int p2), .val (.int p3), .val (.double z2), .second, .val (.double z7), .second, .val (.double z12), .second, .val (.int z21), .val (.double z26), .second, .val (.double z33), .second, .val (.double z40), .second, .val (.ref b1), .val (.double c62_z14), .second, .val (.double z81), .second, .val (.int (1 : Int32)), .unset] [(.double z26), (.double c62_z14), (.double c114_z12), (.double c107_z19)])) _
    refine Jvm.OwnK.dmul X9.here hx rfl (hb hby at_121) rfl hz121 nn121 ?_
    show Steps p.tables e below (T9.setTop (mkF m 122 #[.val (.int p0), .val (.int p1), .val (.int p2), .val (.int p3), .val (.double z2), .second, .val (.double z7), .second, .val (.double z12), .second, .val (.int z21), .val (.double z26), .second, .val (.double z33), .second, .val (.double z40), .second, .val (.ref b1), .val (.double c62_z14), .second, .val (.double z81), .second, .val (.int (1 : Int32)), .unset] [(.double z121), (.double c114_z12), (.double c107_z19)])) _
    refine Jvm.OwnK.dadd X9.here hx rfl (hb hby at_122) rfl hz122 nn122 ?_
    show Steps p.tables e below (T9.setTop (mkF m 123 #[.val (.int p0), .val (.int p1), .val (.int p2), .val (.int p3), .val (.double z2), .second, .val (.double z7), .second, .val (.double z12), .second, .val (.int z21), .val (.double z26), .second, .val (.double z33), .second, .val (.double z40), .second, .val (.ref b1), .val (.double c62_z14), .second, .val (.double z81), .second, .val (.int (1 : Int32)), .unset] [(.double z122), (.double c107_z19)])) _
    refine XS.dcmpS X9.here hx rfl (hb hby at_123) rfl hz123 ?_
    show Steps p.tables e below (T9.setTop (mkF m 124 #[.val (.int p0), .val (.int p1), .val (.int p2), .val (.int p3), .val (.double z2), .second, .val (.double z7), .second, .val (.double z12), .second, .val (.int z21), .val (.double z26), .second, .val (.double z33), .second, .val (.double z40), .second, .val (.ref b1), .val (.double c62_z14), .second, .val (.double z81), .second, .val (.int (1 : Int32)), .unset] [(.int z123)])) _
    refine XS.ifNo X9.here hx rfl (hb hby at_124) rfl (Jvm.Free.XT.i0_ne_f br124) ?_
    show Steps p.tables e below (T9.setTop (mkF m 127 #[.val (.int p0), .val (.int p1), .val (.int p2), .val (.int p3), .val (.double z2), .second, .val (.double z7), .second, .val (.double z12), .second, .val (.int z21), .val (.double z26), .second, .val (.double z33), .second, .val (.double z40), .second, .val (.ref b1), .val (.double c62_z14), .second, .val (.double z81), .second, .val (.int (1 : Int32)), .unset] [])) _
    refine XS.iconst X9.here hx rfl (hb hby at_127) ?_
    show Steps p.tables e below (T9.setTop (mkF m 128 #[.val (.int p0), .val (.int p1), .val (.int p2), .val (.int p3), .val (.double z2), .second, .val (.double z7), .second, .val (.double z12), .second, .val (.int z21), .val (.double z26), .second, .val (.double z33), .second, .val (.double z40), .second, .val (.ref b1), .val (.double c62_z14), .second, .val (.double z81), .second, .val (.int (1 : Int32)), .unset] [(.int (1 : Int32))])) _
    refine XS.goto X9.here hx rfl (pc0 := 128) (pc' := 132) rfl (hb hby at_128) (by decide) (by decide) ?_
    show Steps p.tables e below (T9.setTop (mkF m 132 #[.val (.int p0), .val (.int p1), .val (.int p2), .val (.int p3), .val (.double z2), .second, .val (.double z7), .second, .val (.double z12), .second, .val (.int z21), .val (.double z26), .second, .val (.double z33), .second, .val (.double z40), .second, .val (.ref b1), .val (.double c62_z14), .second, .val (.double z81), .second, .val (.int (1 : Int32)), .unset] [(.int (1 : Int32))])) _
    refine XS.istore X9.here hx rfl (hb hby at_132) rfl (l' := #[.val (.int p0), .val (.int p1), .val (.int p2), .val (.int p3), .val (.double z2), .second, .val (.double z7), .second, .val (.double z12), .second, .val (.int z21), .val (.double z26), .second, .val (.double z33), .second, .val (.double z40), .second, .val (.ref b1), .val (.double c62_z14), .second, .val (.double z81), .second, .val (.int (1 : Int32)), .val (.int (1 : Int32))]) rfl ?_
    show Steps p.tables e below (T9.setTop (mkF m 134 #[.val (.int p0), .val (.int p1), .val (.int p2), .val (.int p3), .val (.double z2), .second, .val (.double z7), .second, .val (.double z12), .second, .val (.int z21), .val (.double z26), .second, .val (.double z33), .second, .val (.double z40), .second, .val (.ref b1), .val (.double c62_z14), .second, .val (.double z81), .second, .val (.int (1 : Int32)), .val (.int (1 : Int32))] [])) _
    refine XS.iload X9.here hx rfl (hb hby at_134) rfl ?_
    show Steps p.tables e below (T9.setTop (mkF m 136 #[.val (.int p0), .val (.int p1), .val (.int p2), .val (.int p3), .val (.double z2), .second, .val (.double z7), .second, .val (.double z12), .second, .val (.int z21), .val (.double z26), .second, .val (.double z33), .second, .val (.double z40), .second, .val (.ref b1), .val (.double c62_z14), .second, .val (.double z81), .second, .val (.int (1 : Int32)), .val (.int (1 : Int32))] [(.int (1 : Int32))])) _
    refine XS.ifNo X9.here hx rfl (hb hby at_136) rfl (Jvm.Free.XT.i0_eq_f (by decide)) ?_
    show Steps p.tables e below (T9.setTop (mkF m 139 #[.val (.int p0), .val (.int p1), .val (.int p2), .val (.int p3), .val (.double z2), .second, .val (.double z7), .second, .val (.double z12), .second, .val (.int z21), .val (.double z26), .second, .val (.double z33), .second, .val (.double z40), .second, .val (.ref b1), .val (.double c62_z14), .second, .val (.double z81), .second, .val (.int (1 : Int32)), .val (.int (1 : Int32))] [])) _
    refine XS.iload X9.here hx rfl (hb hby at_139) rfl ?_
    show Steps p.tables e below (T9.setTop (mkF m 141 #[.val (.int p0), .val (.int p1), .val (.int p2), .val (.int p3), .val (.double z2), .second, .val (.double z7), .second, .val (.double z12), .second, .val (.int z21), .val (.double z26), .second, .val (.double z33), .second, .val (.double z40), .second, .val (.ref b1), .val (.double c62_z14), .second, .val (.double z81), .second, .val (.int (1 : Int32)), .val (.int (1 : Int32))] [(.int (1 : Int32))])) _
    refine XS.ifNo X9.here hx rfl (hb hby at_141) rfl (Jvm.Free.XT.i0_eq_f (by decide)) ?_
    show Steps p.tables e below (T9.setTop (mkF m 144 #[.val (.int p0), .val (.int p1), .val (.int p2), .val (.int p3), .val (.double z2), .second, .val (.double z7), .second, .val (.double z12), .second, .val (.int z21), .val (.double z26), .second, .val (.double z33), .second, .val (.double z40), .second, .val (.ref b1), .val (.double c62_z14), .second, .val (.double z81), .second, .val (.int (1 : Int32)), .val (.int (1 : Int32))] [])) _
    refine XS.iconst X9.here hx rfl (hb hby at_144) ?_
    show Steps p.tables e below (T9.setTop (mkF m 145 #[.val (.int p0), .val (.int p1), .val (.int p2), .val (.int p3), .val (.double z2), .second, .val (.double z7), .second, .val (.double z12), .second, .val (.int z21), .val (.double z26), .second, .val (.double z33), .second, .val (.double z40), .second, .val (.ref b1), .val (.double c62_z14), .second, .val (.double z81), .second, .val (.int (1 : Int32)), .val (.int (1 : Int32))] [(.int (1 : Int32))])) _
    refine XS.goto X9.here hx rfl (pc0 := 145) (pc' := 149) rfl (hb hby at_145) (by decide) (by decide) ?_
    exact k
  obtain ⟨fs, hr, hrun, hended, hW, hsame⟩ := X9.leave (v := some (.int (1 : Int32))) (fun h => by rw [Bd.returns] at h; cases h)
  refine ⟨_, _, c10 _ ?_, hrun, hended, _, _, rfl, ?_, ⟨_, rfl⟩, hW, hsame.mono (by decide) (by decide)⟩
  · show Steps p.tables e below (T9.setTop (mkF m 149 #[.val (.int p0), .val (.int p1), .val (.int p2), .val (.int p3), .val (.double z2), .second, .val (.double z7), .second, .val (.double z12), .second, .val (.int z21), .val (.double z26), .second, .val (.double z33), .second, .val (.double z40), .second, .val (.ref b1), .val (.double c62_z14), .second, .val (.double z81), .second, .val (.int (1 : Int32)), .val (.int (1 : Int32))] [(.int (1 : Int32))])) _
    exact retOut X9 hx Bd.returns rfl (Or.inl ⟨rfl, by simp, _, rfl⟩) (hb hby at_149) hr
  · show Q0 n0 _ T9.heap _
    rw [e9]
    exact ⟨rfl, by first | assumption | exact N0⟩
set_option maxRecDepth 65536 in
set_option maxHeartbeats 40000000 in
theorem comes_1 {Post : Tables → Env → Array Value → State → Outcome → State → Prop} (hpost : ∀ tb e args s v u, (limb_1_1.after args s (.returned v) u = true ∧ limb_1_2.after args s (.returned v) u = true ∧ True) → FrameEnd s (.returned v) u (Jvm.fieldLocs frame_1_writes args s ++ Jvm.arrayLocs frame_1_arrays args s ++ Jvm.staticLocs frame_1_statics s) 16 128 → Post tb e args s (.returned v) u) :
    ArmFor flags0 classFile x code maxLocals ret World_1 tables_1 room_1 Calls_1 rest_1 Pre_1 Post := by
  intro l hfl _ _ p e ha hc hk s m args below hf hA hF happ hP
  obtain ⟨hcalls, hrest, hpre⟩ := hP
  obtain ⟨-, -, -, hnamed, -, -, -, hat⟩ := (Spec.applies_iff hf).mp happ
  obtain ⟨hg, hn⟩ := and_e (Cond.before_iff.mp (show (Jvm.Cond.and given_1 narrow_1).before args s = true from hpre))
  obtain ⟨g1, g2⟩ := and_e hg
  obtain ⟨g3, g4⟩ := and_e g2
  obtain ⟨g5, g6⟩ := and_e g4
  obtain ⟨g7, g8⟩ := and_e g6
  obtain ⟨w0, w1, w2, w3, rfl⟩ : ∃ w0 w1 w2 w3 : Value, args = #[w0, w1, w2, w3] := by
    have hs : args.size = 4 := by simpa [Cond.value, given_1] using g1
    obtain ⟨L⟩ := args
    match L, hs with
    | [w0, w1, w2, w3], _ => exact ⟨w0, w1, w2, w3, rfl⟩
  have hw := fun d (hd : d ∈ tables_1) => atoms_spec (ws := Jvm.Cond.code x code maxLocals ret :: tables_1) hat d (List.mem_cons_of_mem _ hd)
  have hfit : Fit s := fun {y c} hc i hi => by
    obtain ⟨ha, rfl⟩ := Array.getElem?_eq_some_iff.mp hc
    have q := List.all_eq_true.mp ((Array.all_eq_true_iff_forall_mem.mp hF) _ (Array.getElem_mem ha)) i (List.mem_range.mpr hi)
    simpa [Array.getElem?_eq_getElem hi] using q
  obtain ⟨i0, ei0⟩ := is_v g3
  obtain rfl : w0 = (.int i0) := Option.some.inj ei0
  obtain ⟨i1, ei1⟩ := is_v g5
  obtain rfl : w1 = (.int i1) := Option.some.inj ei1
  obtain ⟨i2, ei2⟩ := is_v g7
  obtain rfl : w2 = (.int i2) := Option.some.inj ei2
  obtain ⟨i3, ei3⟩ := is_v g8
  obtain rfl : w3 = (.int i3) := Option.some.inj ei3
  obtain ⟨n, o, h1, h2, h3, _, L, rfl, ⟨rfl, N⟩, hq⟩ := rm0 l s _ hw tables_1 i0 i1 i2 i3  s.heap s.heap.size (Nat.le_refl _)  p e ha hc hk s m _ below hf ((Spec.applies_iff_loose hf).mp happ).1 ⟨rfl, State.Warmed39.refl s, rfl⟩ trivial
  refine ⟨n, _, h1, h2, h3, hpost _ _ _ _ _ _ ⟨Cond.after_iff.mpr rfl, Cond.after_iff.mpr (eq_i res_at (Term.int_eval (1)) rfl), trivial⟩ ⟨hq.1, hq.2.1, (hq.2.2.sift fun y hy => Or.inr (N y hy)).mono (by decide) (by decide)⟩⟩
theorem main_1_1 : Claimed_1_1 := comes_1 fun _ _ _ _ _ _ h hF => ⟨h.1, hF⟩
theorem main_1_2 : Claimed_1_2 := comes_1 fun _ _ _ _ _ _ h hF => ⟨h.2.1, hF⟩
end Jvm.Pilot.@@N@@
namespace Jvm.Pilot.@@N@@
open Jvm Jvm.ClassFile Sem Op Lib Jvm.Free Jvm.Stand Jvm.Pilot.@@N@@.Jvm.D
/-! MADE BY PROGRAM (witnessworld.py) out of the Statement's table words and the real class files: 10 classes; the members and pool entries that the words name. The judged class is class 1, her method 1. -/
namespace start1
open Jvm.ClassFile
def u (s : String) : CpInfo := .utf8 (stringToUtf16 s)
/-- a pool by its gaps: so many unusable entries, then the entry; so many at the end -/
def gap : Nat → List CpInfo → List CpInfo
  | 0, r => r
  | n + 1, r => .unusable :: gap n r
def poolList (es : List (Nat × CpInfo)) (last : Nat) : List CpInfo := es.foldr (fun e r => gap e.1 (e.2 :: r)) (gap last [])
def pool (es : List (Nat × CpInfo)) (last : Nat) : Array CpInfo := ⟨poolList es last⟩
def fileOf (pool : Array CpInfo) (this : Nat) (attrs : Array Attribute := #[]) (ms : Array MethodInfo := #[]) (fl : Nat := 33) (sup : Nat := 0) (ifs : Array Nat := #[]) (fds : Array FieldInfo := #[]) : ClassFile where
  minorVersion := 0
  majorVersion := 65
  constantPool := pool
  accessFlags := fl
  thisClass := this
  superClass := sup
  interfaces := ifs
  fields := fds
  methods := ms
  attributes := attrs
def plain (name : String) (sup : Option ClassId) : Class where
  name := name
  kind := .ordinary
  loader := none
  accessFlags := 33
  super := sup
  interfaces := #[]
  cf := none
  fields := #[]
  methods := #[]
  instanceTypes := #[]
  staticTypes := #[]
  resolved := #[]
  callSites := []
  init := .initialized
  statics := none
  mirror := none

def pool0 : Array CpInfo := pool [(5, u "<init>"), (0, u "()V"), (1, .class_ 10), (1, u "java/lang/Object")] 113

def k0c0 : Code := { maxStack := 0, maxLocals := 1, code := object_method_1_code, exceptionTable := #[], attributes := #[] }
def k0m0 : Method := { name := "<init>", desc := "()V", sig := { parameters := [], returnType := none }, accessFlags := 1, code := some k0c0 }
/-- java/lang/Object -/
def k0 : Class := { plain "java/lang/Object" none with
  accessFlags := 33
  interfaces := #[]
  cf := some (fileOf pool0 8 #[] #[{ accessFlags := 1, nameIndex := 5, descriptorIndex := 6, attributes := #[] }] 33 0 #[] #[])
  fields := #[]
  methods := #[k0m0]
  instanceTypes := #[]
  staticTypes := #[]
  resolved := Array.replicate 124 none
  statics := none }

def pool1 : Array CpInfo := pool [(2, .class_ 4), (1, u "java/lang/Object"), (0, u "<init>"), (0, u "()V"), (0, .class_ 8), (0, u "com/example/bindwire/bindwire/model/OffloadCurve"), (0, .methodref 7 10), (0, .nameAndType 5 11), (0, u "(DDD)V"), (0, .methodref 7 13), (0, .nameAndType 14 15), (0, u "gradient"), (0, u "(D)D"), (0, .methodref 7 17), (0, .nameAndType 18 15), (0, u "limit"), (0, .double 4611686018427387904), (1, .methodref 7 22), (0, .nameAndType 23 15), (0, u "intercept"), (0, .class_ 25), (0, u "com/example/bindwire/bindwire/model/OffloadCurveGradientPinLaw"), (2, u "law"), (0, u "(IIII)Z")] 3

def k1m0 : Method := { name := "<init>", desc := "()V", sig := { parameters := [], returnType := none }, accessFlags := 1, code := none }
def k1c1 : Code := { maxStack := 8, maxLocals := 24, code := code, exceptionTable := #[], attributes := #[] }
def k1m1 : Method := { name := "law", desc := "(IIII)Z", sig := { parameters := [.int, .int, .int, .int], returnType := some .boolean }, accessFlags := 9, code := some k1c1 }
/-- com/example/bindwire/bindwire/model/OffloadCurveGradientPinLaw -/
def k1 : Class := { plain "com/example/bindwire/bindwire/model/OffloadCurveGradientPinLaw" (some 0) with
  accessFlags := 49
  interfaces := #[]
  cf := some (fileOf pool1 24 #[] #[{ accessFlags := 1, nameIndex := 5, descriptorIndex := 6, attributes := #[] }, { accessFlags := 9, nameIndex := 28, descriptorIndex := 29, attributes := #[] }] 49 2 #[] #[])
  fields := #[]
  methods := #[k1m0, k1m1]
  instanceTypes := #[]
  staticTypes := #[]
  resolved := Array.replicate 33 none
  statics := none }

def pool2 : Array CpInfo := pool [(1, .methodref 2 3), (0, .class_ 4), (0, .nameAndType 5 6), (0, u "java/lang/Object"), (0, u "<init>"), (0, u "()V"), (0, .class_ 8), (0, u "java/lang/Record")] 13

def k2c0 : Code := { maxStack := 1, maxLocals := 1, code := jdk_30_method_1_code, exceptionTable := #[], attributes := #[] }
def k2m0 : Method := { name := "<init>", desc := "()V", sig := { parameters := [], returnType := none }, accessFlags := 4, code := some k2c0 }
/-- java/lang/Record -/
def k2 : Class := { plain "java/lang/Record" (some 0) with
  accessFlags := 1057
  interfaces := #[]
  cf := some (fileOf pool2 7 #[] #[{ accessFlags := 4, nameIndex := 5, descriptorIndex := 6, attributes := #[] }] 1057 2 #[] #[])
  fields := #[]
  methods := #[k2m0]
  instanceTypes := #[]
  staticTypes := #[]
  resolved := Array.replicate 22 none
  statics := none }

def pool3 : Array CpInfo := pool [(1, .methodref 2 3), (0, .class_ 4), (0, .nameAndType 5 6), (0, u "java/lang/Record"), (0, u "<init>"), (0, u "()V"), (0, .fieldref 8 9), (0, .class_ 10), (0, .nameAndType 11 12), (0, u "com/example/bindwire/bindwire/model/OffloadCurve"), (0, u "a0"), (0, u "D"), (0, .fieldref 8 14), (0, .nameAndType 15 12), (0, u "a1"), (0, .fieldref 8 17), (0, .nameAndType 18 12), (0, u "a2"), (0, .double 4611686018427387904), (13, u "(DDD)V"), (3, u "limit"), (0, u "(D)D"), (0, u "gradient"), (0, u "intercept")] 26

def k3c0 : Code := { maxStack := 3, maxLocals := 7, code := prog_61_method_1_code, exceptionTable := #[], attributes := #[] }
def k3m0 : Method := { name := "<init>", desc := "(DDD)V", sig := { parameters := [.double, .double, .double], returnType := none }, accessFlags := 1, code := some k3c0 }
def k3c1 : Code := { maxStack := 6, maxLocals := 3, code := prog_61_method_2_code, exceptionTable := #[], attributes := #[] }
def k3m1 : Method := { name := "limit", desc := "(D)D", sig := { parameters := [.double], returnType := some .double }, accessFlags := 1, code := some k3c1 }
def k3c2 : Code := { maxStack := 6, maxLocals := 3, code := prog_61_method_3_code, exceptionTable := #[], attributes := #[] }
def k3m2 : Method := { name := "gradient", desc := "(D)D", sig := { parameters := [.double], returnType := some .double }, accessFlags := 1, code := some k3c2 }
def k3c3 : Code := { maxStack := 6, maxLocals := 3, code := prog_61_method_4_code, exceptionTable := #[], attributes := #[] }
def k3m3 : Method := { name := "intercept", desc := "(D)D", sig := { parameters := [.double], returnType := some .double }, accessFlags := 1, code := some k3c3 }
/-- com/example/bindwire/bindwire/model/OffloadCurve -/
def k3 : Class := { plain "com/example/bindwire/bindwire/model/OffloadCurve" (some 2) with
  accessFlags := 49
  interfaces := #[]
  cf := some (fileOf pool3 8 #[] #[{ accessFlags := 1, nameIndex := 5, descriptorIndex := 33, attributes := #[] }, { accessFlags := 1, nameIndex := 37, descriptorIndex := 38, attributes := #[] }, { accessFlags := 1, nameIndex := 39, descriptorIndex := 38, attributes := #[] }, { accessFlags := 1, nameIndex := 40, descriptorIndex := 38, attributes := #[] }] 49 2 #[] #[{ accessFlags := 18, nameIndex := 11, descriptorIndex := 12, attributes := #[] }, { accessFlags := 18, nameIndex := 15, descriptorIndex := 12, attributes := #[] }, { accessFlags := 18, nameIndex := 18, descriptorIndex := 12, attributes := #[] }])
  fields := #[{ name := "a0", type := .double, accessFlags := 18, slot := 0, constantValue := 0 }, { name := "a1", type := .double, accessFlags := 18, slot := 1, constantValue := 0 }, { name := "a2", type := .double, accessFlags := 18, slot := 2, constantValue := 0 }]
  methods := #[k3m0, k3m1, k3m2, k3m3]
  instanceTypes := #[.double, .double, .double]
  staticTypes := #[]
  resolved := Array.replicate 67 none
  statics := none }

def pool4 : Array CpInfo := pool [(1, u "java/lang/Cloneable"), (0, .class_ 1), (0, u "java/lang/Object"), (0, .class_ 3)] 3

/-- java/lang/Cloneable -/
def k4 : Class := { plain "java/lang/Cloneable" (some 0) with
  accessFlags := 1537
  interfaces := #[]
  cf := some (fileOf pool4 2 #[] #[] 1537 4 #[] #[])
  fields := #[]
  methods := #[]
  instanceTypes := #[]
  staticTypes := #[]
  resolved := Array.replicate 8 none
  statics := none }

def pool5 : Array CpInfo := pool [(1, u "java/io/Serializable"), (0, .class_ 1), (0, u "java/lang/Object"), (0, .class_ 3)] 3

/-- java/io/Serializable -/
def k5 : Class := { plain "java/io/Serializable" (some 0) with
  accessFlags := 1537
  interfaces := #[]
  cf := some (fileOf pool5 2 #[] #[] 1537 4 #[] #[])
  fields := #[]
  methods := #[]
  instanceTypes := #[]
  staticTypes := #[]
  resolved := Array.replicate 8 none
  statics := none }

/-- the primitive byte -/
def k6 : Class := { plain "byte" none with kind := .primitive 'B', accessFlags := 0x411 }
/-- [B -/
def k7 : Class := { plain "[B" (some 0) with kind := .array 6 .byte, interfaces := #[4, 5], accessFlags := 1041 }

/-- the primitive int -/
def k8 : Class := { plain "int" none with kind := .primitive 'I', accessFlags := 0x411 }
/-- [I -/
def k9 : Class := { plain "[I" (some 0) with kind := .array 8 .int, interfaces := #[4, 5], accessFlags := 1041 }

def heap : Heap := #[]
def classes : Array Class := #[k0, k1, k2, k3, k4, k5, k6, k7, k8, k9]
def interned : List (Array UInt16 × Addr) := []
def slotsUsed : Nat := 0
def theMethod : MethodId := ⟨1, 1⟩
def args0 : Array Value := #[.int 5, .int 5, .int 5, .int 5]
def aboutOver (below : List Frame) : State where
  vm := { classes := classes, interned := interned.toArray }
  heap := heap
  slotsUsed := slotsUsed
  threads := #[{ frames := .invoking theMethod args0 :: below }]
def below0 : List Frame := [.native { method := ⟨0, 0⟩, args := #[] }]
def about1 : State := aboutOver below0
def p0 : Program := .bare "" "" ""
def e0 : Env := launch0.env 0 0 0
theorem w_frames : about1.frames = Frame.invoking theMethod args0 :: below0 := rfl
set_option maxRecDepth 65536 in
theorem w_args : argsFit about1.vm theMethod args0 = true := by decide +kernel
set_option maxRecDepth 65536 in
theorem w_heap : heapFits about1 = true := by decide +kernel
set_option maxRecDepth 65536 in
theorem w_runnable : about1.curStatus? = some .runnable := by decide +kernel
set_option maxRecDepth 65536 in
theorem w_alone : about1.alone = true := by decide +kernel
set_option maxRecDepth 65536 in
theorem w_named : about1.methodNamed? x = some theMethod := by decide +kernel
set_option maxRecDepth 65536 in
theorem w_hears : about1.hears theMethod below0 = true := by decide +kernel
set_option maxRecDepth 65536 in
theorem w_ripe : about1.ripe theMethod args0 below0 = true := by decide +kernel
theorem w_running : about1.status = .running := rfl
set_option maxRecDepth 65536 in
theorem w_room : about1.hasRoom e0.platform room_1 = true :=
  launch0.hasRoom_least _ room_1 (by decide +kernel) (by decide +kernel) (by decide +kernel) (by decide +kernel) (by decide +kernel) (by decide +kernel)
theorem allAtoms_all (ts : List Jvm.Cond) (a : Array Jvm.Value) (st : Jvm.State) : (allAtoms ts).before a st = ts.all (fun c => c.before a st) := by
  induction ts with
  | nil => rfl
  | cons c t ih =>
    show (Jvm.Cond.and c (allAtoms t)).before a st = _
    rw [Jvm.Cond.before_and, ih, List.all_cons]
def words1 : List Jvm.Cond := Jvm.Cond.code x code maxLocals ret :: tables_1
/-- a 'code' word, met by the world's own term for the bytes: nothing is compared byte by byte -/
theorem code_word {y : MethodName} {bytes : ByteArray} {mx : Nat} {rt : Option FieldType} {a : Array Value} {s : State} {m : MethodId} {meth : Method} {c : Code} (h1 : s.methodNamed? y = some m) (h2 : s.vm.method? m = some meth) (h3 : meth.code = some c) (h4 : c.code = bytes)
    (h5 : (c.maxLocals == mx && c.exceptionTable.isEmpty && decide (c.maxStack ≤ mostOperands) && decide (meth.sig.returnType = rt) && !meth.locks && decide (parseMethodDescriptor y.desc = some meth.sig)) = true) : (Jvm.Cond.code y bytes mx rt).before a s = true := by
  simp only [Bool.and_eq_true, beq_iff_eq, Bool.not_eq_true', decide_eq_true_eq] at h5
  obtain ⟨⟨⟨⟨⟨g1, g2⟩, g3⟩, g4⟩, g5⟩, g6⟩ := h5
  simp [Cond.before, Cond.holds, Cond.value, h1, h2, h3, h4, g1, g2, g3, g4, g5, g6]
def isCode : Jvm.Cond → Bool
  | .code _ _ _ _ => true
  | _ => false
theorem all_split {L : List Jvm.Cond} {P : Jvm.Cond → Bool} (h1 : L.all (fun c => isCode c || P c) = true) (h2 : ∀ c ∈ L.filter isCode, P c = true) : L.all P = true := by
  refine List.all_eq_true.mpr fun c hc => ?_
  have h := List.all_eq_true.mp h1 c hc
  rcases Bool.eq_false_or_eq_true (isCode c) with hi | hi
  · exact h2 c (List.mem_filter.mpr ⟨hc, hi⟩)
  · simpa [hi] using h
set_option maxRecDepth 65536 in
theorem w_c0 : (Jvm.Cond.code x code maxLocals ret).before args0 about1 = true := code_word (m := ⟨1, 1⟩) (meth := k1m1) (c := k1c1) (by decide +kernel) rfl rfl rfl (by decide +kernel)
set_option maxRecDepth 65536 in
theorem w_c1 : (Jvm.Cond.code ({ cls := "com/example/bindwire/bindwire/model/OffloadCurve", name := "<init>", desc := "(DDD)V" } : Jvm.MethodName) prog_61_method_1_code (7 : Nat) (Option.none : Option Jvm.ClassFile.FieldType)).before args0 about1 = true := code_word (m := ⟨3, 0⟩) (meth := k3m0) (c := k3c0) (by decide +kernel) rfl rfl rfl (by decide +kernel)
set_option maxRecDepth 65536 in
theorem w_c2 : (Jvm.Cond.code ({ cls := "java/lang/Record", name := "<init>", desc := "()V" } : Jvm.MethodName) jdk_30_method_1_code (1 : Nat) (Option.none : Option Jvm.ClassFile.FieldType)).before args0 about1 = true := code_word (m := ⟨2, 0⟩) (meth := k2m0) (c := k2c0) (by decide +kernel) rfl rfl rfl (by decide +kernel)
set_option maxRecDepth 65536 in
theorem w_c3 : (Jvm.Cond.code ({ cls := "java/lang/Object", name := "<init>", desc := "()V" } : Jvm.MethodName) object_method_1_code (1 : Nat) (Option.none : Option Jvm.ClassFile.FieldType)).before args0 about1 = true := code_word (m := ⟨0, 0⟩) (meth := k0m0) (c := k0c0) (by decide +kernel) rfl rfl rfl (by decide +kernel)
set_option maxRecDepth 65536 in
theorem w_c4 : (Jvm.Cond.code ({ cls := "com/example/bindwire/bindwire/model/OffloadCurve", name := "gradient", desc := "(D)D" } : Jvm.MethodName) prog_61_method_3_code (3 : Nat) (Option.some Jvm.ClassFile.FieldType.double)).before args0 about1 = true := code_word (m := ⟨3, 2⟩) (meth := k3m2) (c := k3c2) (by decide +kernel) rfl rfl rfl (by decide +kernel)
set_option maxRecDepth 65536 in
theorem w_c5 : (Jvm.Cond.code ({ cls := "com/example/bindwire/bindwire/model/OffloadCurve", name := "limit", desc := "(D)D" } : Jvm.MethodName) prog_61_method_2_code (3 : Nat) (Option.some Jvm.ClassFile.FieldType.double)).before args0 about1 = true := code_word (m := ⟨3, 1⟩) (meth := k3m1) (c := k3c1) (by decide +kernel) rfl rfl rfl (by decide +kernel)
set_option maxRecDepth 65536 in
theorem w_c6 : (Jvm.Cond.code ({ cls := "com/example/bindwire/bindwire/model/OffloadCurve", name := "intercept", desc := "(D)D" } : Jvm.MethodName) prog_61_method_4_code (3 : Nat) (Option.some Jvm.ClassFile.FieldType.double)).before args0 about1 = true := code_word (m := ⟨3, 3⟩) (meth := k3m3) (c := k3c3) (by decide +kernel) rfl rfl rfl (by decide +kernel)
def codes1 : List Jvm.Cond := [Jvm.Cond.code x code maxLocals ret, Jvm.Cond.code ({ cls := "com/example/bindwire/bindwire/model/OffloadCurve", name := "<init>", desc := "(DDD)V" } : Jvm.MethodName) prog_61_method_1_code (7 : Nat) (Option.none : Option Jvm.ClassFile.FieldType), Jvm.Cond.code ({ cls := "java/lang/Record", name := "<init>", desc := "()V" } : Jvm.MethodName) jdk_30_method_1_code (1 : Nat) (Option.none : Option Jvm.ClassFile.FieldType), Jvm.Cond.code ({ cls := "java/lang/Object", name := "<init>", desc := "()V" } : Jvm.MethodName) object_method_1_code (1 : Nat) (Option.none : Option Jvm.ClassFile.FieldType), Jvm.Cond.code ({ cls := "com/example/bindwire/bindwire/model/OffloadCurve", name := "gradient", desc := "(D)D" } : Jvm.MethodName) prog_61_method_3_code (3 : Nat) (Option.some Jvm.ClassFile.FieldType.double), Jvm.Cond.code ({ cls := "com/example/bindwire/bindwire/model/OffloadCurve", name := "limit", desc := "(D)D" } : Jvm.MethodName) prog_61_method_2_code (3 : Nat) (Option.some Jvm.ClassFile.FieldType.double), Jvm.Cond.code ({ cls := "com/example/bindwire/bindwire/model/OffloadCurve", name := "intercept", desc := "(D)D" } : Jvm.MethodName) prog_61_method_4_code (3 : Nat) (Option.some Jvm.ClassFile.FieldType.double)]
set_option maxRecDepth 65536 in
theorem codes_eq : words1.filter isCode = codes1 := rfl
theorem w_codes : ∀ c ∈ words1.filter isCode, c.before args0 about1 = true := by
  rw [codes_eq]
  intro c hc
  simp only [codes1, List.mem_cons, List.not_mem_nil, or_false] at hc
  rcases hc with rfl | rfl | rfl | rfl | rfl | rfl | rfl
  · exact w_c0
  · exact w_c1
  · exact w_c2
  · exact w_c3
  · exact w_c4
  · exact w_c5
  · exact w_c6
set_option maxRecDepth 65536 in
theorem w_t1 : (words1.take 24).all (fun c => isCode c || c.before args0 about1) = true := by decide +kernel
set_option maxRecDepth 65536 in
theorem w_t2 : (words1.drop 24).all (fun c => isCode c || c.before args0 about1) = true := by decide +kernel
theorem w_tables : (allAtoms (Jvm.Cond.code x code maxLocals ret :: tables_1)).before args0 about1 = true := by
  rw [allAtoms_all]
  show words1.all (fun c => c.before args0 about1) = true
  refine all_split ?_ w_codes
  rw [← List.take_append_drop 24 words1, List.all_append, w_t1, w_t2]
  rfl
set_option maxRecDepth 65536 in
theorem w_case : (Jvm.Cond.and given_1 narrow_1).before args0 about1 = true := by decide +kernel
theorem w_applies : (headSpec (Jvm.Cond.code x code maxLocals ret :: tables_1) room_1).applies x e0.platform about1 = true :=
  (Spec.applies_iff w_frames).mpr ⟨w_running, w_runnable, w_alone, w_named, w_hears, w_ripe, w_room, w_tables⟩
theorem atStart : AtStart classFile x code maxLocals ret World_1 tables_1 room_1 Calls_1 rest_1 Pre_1 launch0 p0 e0 about1 theMethod args0 below0 :=
  ⟨lists_1, trivial, launch0.admits_env _ _ _, launch0.least_env, fairChoices_fair.cas, fairChoices_fair.clock, w_frames, w_args, w_heap, w_applies, trivial, trivial, w_case⟩
end start1
theorem witness_1 : WitnessClaimed_1 := ⟨start1.p0, start1.e0, start1.about1, start1.theMethod, start1.args0, start1.below0, start1.atStart⟩
end Jvm.Pilot.@@N@@
